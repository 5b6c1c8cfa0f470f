/- Parts of the proofs over the numbers of any length: MulW, QR2A, LUpd, LSim, LSix. -/
import Derived.BigRegion
import Derived.Test.YtacbllkmcldniaaGreatDoorGcdE
import Derived.Test.YtacbllkmcldniaaGreatDoorBaseB
import Derived.Test.YtacbllkmcldniaaGreatDoorQSA
import Derived.Test.YtacbllkmcldniaaGreatDoorDivD
import Derived.Test.YtacbllkmcldniaaGreatDoorRangeA
import Derived.Test.YtacbllkmcldniaaGreatDoorRangeB
import Derived.Test.YtacbllkmcldniaaGreatDoorGcdP
import Derived.Test.YtacbllkmcldniaaGreatDoorBaseC
set_option linter.unusedSimpArgs false
set_option linter.unusedVariables false
namespace Go.Proofs
open Go.RowKit
set_option maxHeartbeats 1000000
set_option linter.unusedVariables false
set_option linter.unusedSimpArgs false
set_option maxRecDepth 100000

theorem IntHR.both {w wx : World} {p : Nat} {t : TypeId} {neg s : Bool} {a a0 ra : Option Addr} {c l0 c0 rl rc N : Nat} (hr : IntRow wx p t neg a0 l0 c0) (hd : Rd wx ra rl rc (words N)) (hi : Into w a c ra rc)
    (hk : Keeps (fun k => k = p ∨ InB a k) w wx) : IntHR w p t a c (s, N) ((wx.setCell ⟨p, 1, none⟩ (.slice ra rl rc)).setCell ⟨p, 0, none⟩ (.bool s)) :=
  ⟨ra, rl, rc, IntG.mk (IntRow.set0 (hr.set1 (ra := ra) (rl := rl) (rc := rc))) ((hd.set_row hr 1 _).set_row (hr.set1 (ra := ra) (rl := rl) (rc := rc)) 0 _), hi, (hk.setCell ⟨p, 1, none⟩ (.inl (.inl rfl)) _).setCell ⟨p, 0, none⟩ (.inl (.inl rfl)) _⟩

theorem mulW245_other (pz px tz tx : Nat) (bz bx neg : Bool) (Z N v : Nat) (az ax : Option Addr) (lz cz lx cx : Nat) (w : World) (hz : IntG w pz tz bz Z az lz cz) (hx : IntG w px tx bx N ax lx cx)
    (hzx : pz ≠ px) (hax : ∀ k, InB az k → ¬ InB ax k) (hlx : lx ≤ 100000) (hv : v < W64) :
    Calls Tryz.prog 245 #[.pointer (some ⟨pz, 0, none⟩), .pointer (some ⟨px, 0, none⟩), .bool neg, .int .u64 (v : Int)] w fun e w' => e = .returned (.tuple #[]) ∧ IntHR w pz tz az cz (bx != neg, N * v) w' := by
  have Hz := hid hz; have Hx := hid hx
  obtain ⟨z1, z2, z3, z4⟩ := hz.row.facts
  obtain ⟨x1, x2, _, _⟩ := hx.row.facts
  have HC : Hid (Calls Tryz.prog 268 #[.slice az lz cz, .slice ax lx cx, .int .u64 (v : Int), .int .u64 0] w.drew (NatRes w.drew az cz (val (words N) * v + 0))) := hid (mulAddWW_any az lz cz _ ax lx cx _ v 0 w.drew Hz.out.rd.drew Hx.out.rd.drew (by omega) hv (by unfold W64; omega) (Al.of_ne hax))
  have hxz := Ne.symm hzx
  clear hz hx hax
  have HV : Hid (val (words N) * v + 0 = N * v) := hid (by rw [val_words]; rfl)
  clear hv hlx
  go_enter Tryz.func245, Tryz.ntmps245
  go_wp2_with fail
  go_region_law (first | (go_simp; go_at_call 268; (with_reducible refine HC.out.mono ?_); rintro e w1 ⟨ra, rl, rc, rfl, h1, h2, h3⟩; obtain ⟨d0, d1, d2, d3⟩ := Hz.out.row.after (((Keeps.refl _ w).drew).trans h3) (Hz.out.rd.not_row Hz.out.row); obtain ⟨g0, g1, g2, g3⟩ := Hx.out.row.after (((Keeps.refl _ w).drew).trans h3) (Hz.out.rd.not_row Hx.out.row); have H1 := hid h1; have H2 := hid h2; have H3 := hid h3; clear h1 h2 h3))
  all_goals go_wp2_with fail
  all_goals go_end0
  all_goals exact ⟨rfl, IntHR.both (((Keeps.refl _ w).drew.trans H3.out).row Hz.out.row (Hz.out.rd.not_row Hz.out.row)) (by rw [← HV.out]; exact H1.out) (H2.out.mono (Nat.le_refl _)) (((Keeps.refl _ w).drew.trans H3.out).mono (fun i _ h => .inr h))⟩
theorem mulW245_same (pz tz : Nat) (bz neg : Bool) (Z v : Nat) (az : Option Addr) (lz cz : Nat) (w : World) (hz : IntG w pz tz bz Z az lz cz) (hlx : lz ≤ 100000) (hv : v < W64) :
    Calls Tryz.prog 245 #[.pointer (some ⟨pz, 0, none⟩), .pointer (some ⟨pz, 0, none⟩), .bool neg, .int .u64 (v : Int)] w fun e w' => e = .returned (.tuple #[]) ∧ IntHR w pz tz az cz (bz != neg, Z * v) w' := by
  have Hz := hid hz
  obtain ⟨z1, z2, z3, z4⟩ := hz.row.facts
  have HC : Hid (Calls Tryz.prog 268 #[.slice az lz cz, .slice az lz cz, .int .u64 (v : Int), .int .u64 0] w.drew (NatRes w.drew az cz (val (words Z) * v + 0))) := hid (mulAddWW_any az lz cz _ az lz cz _ v 0 w.drew Hz.out.rd.drew Hz.out.rd.drew (by omega) hv (by unfold W64; omega) (Al.refl _ _))
  clear hz
  have HV : Hid (val (words Z) * v + 0 = Z * v) := hid (by rw [val_words]; rfl)
  clear hv hlx
  go_enter Tryz.func245, Tryz.ntmps245
  go_wp2_with fail
  go_region_law (first | (go_simp; go_at_call 268; (with_reducible refine HC.out.mono ?_); rintro e w1 ⟨ra, rl, rc, rfl, h1, h2, h3⟩; obtain ⟨d0, d1, d2, d3⟩ := Hz.out.row.after (((Keeps.refl _ w).drew).trans h3) (Hz.out.rd.not_row Hz.out.row); have H1 := hid h1; have H2 := hid h2; have H3 := hid h3; clear h1 h2 h3))
  all_goals go_wp2_with fail
  all_goals go_end0
  all_goals exact ⟨rfl, IntHR.both (((Keeps.refl _ w).drew.trans H3.out).row Hz.out.row (Hz.out.rd.not_row Hz.out.row)) (by rw [← HV.out]; exact H1.out) (H2.out.mono (Nat.le_refl _)) (((Keeps.refl _ w).drew.trans H3.out).mono (fun i _ h => .inr h))⟩

theorem EnvG.mulW {S : Nat → Prop} {w0 w : World} {V : Nat → Option (TypeId × SV)} (h : EnvG S w0 w V) {pz px : Nat} {tz tx : TypeId} {z x : SV} (hz : V pz = some (tz, z)) (hx : V px = some (tx, x)) (neg : Bool) (v : Nat) (hv : v < W64) (h1 : x.2 < W64 ^ 200) :
    Calls Tryz.prog 245 #[.pointer (some ⟨pz, 0, none⟩), .pointer (some ⟨px, 0, none⟩), .bool neg, .int .u64 (v : Int)] w fun e w' => e = .returned (.tuple #[]) ∧ EnvG S w0 w' (updG V pz tz (x.1 != neg, x.2 * v)) := by
  by_cases hp : pz = px
  · subst hp
    rw [hz] at hx
    cases hx
    exact h.op1 hz fun az lz cz g => mulW245_same pz tz z.1 neg z.2 v az lz cz w g (Nat.le_trans (g.len h1) (by omega)) hv
  · exact h.op2 hz hx fun az ax lz cz lx cx g1 g2 a1 _ => mulW245_other pz px tz tx z.1 x.1 neg z.2 x.2 v az ax lz cz lx cx w g1 g2 hp (a1 hp) (Nat.le_trans (g2.len h1) (by omega)) hv
end Go.Proofs
namespace Go.Proofs
open Go.RowKit
set_option maxHeartbeats 16000000
set_option linter.unusedVariables false
set_option linter.unusedSimpArgs false
set_option maxRecDepth 100000

/-- QuoRem, where the quotient and the rest may lie upon the operands. -/
theorem quoRem164_any (pz px py pr tz tx ty tr : Nat) (x y : Int) (bZ bR : Bool) (Z R : Nat) (az ax ay ar : Option Addr) (lz cz lx cx ly cy lr cr : Nat) (w : World)
    (hz : IntG w pz tz bZ Z az lz cz) (hx : IntS w px tx x ax lx cx) (hy : IntS w py ty y ay ly cy) (hr : IntG w pr tr bR R ar lr cr) (d3 : pz ≠ pr)
    (hzr : ∀ k, InB az k → ¬ InB ar k) (hzx : Al az cz ax cx) (hrx : Al ar cr ax cx) (hy0 : y ≠ 0) (hly : ly < 40) (hlx : lx ≤ 100000) (G : Glob w) :
    Calls Tryz.prog 164 #[.pointer (some ⟨pz, 0, none⟩), .pointer (some ⟨px, 0, none⟩), .pointer (some ⟨py, 0, none⟩), .pointer (some ⟨pr, 0, none⟩)] w (QRes w pz pr tz tr az cz ar cr (x.tdiv y) (x.tmod y)) := by
  have Hz := hid hz; have Hx := hid hx; have Hy := hid hy; have Hr := hid hr
  obtain ⟨z1, z2, z3, z4⟩ := hz.row.facts
  obtain ⟨x1, x2, _, _⟩ := hx.row.facts
  obtain ⟨y1, y2, _, _⟩ := hy.row.facts
  obtain ⟨r1, r2, r3, r4⟩ := hr.row.facts
  have Hcall := hid (div199_nil az lz cz _ ar lr cr _ ax lx cx x.natAbs ay ly cy y.natAbs w.drew hz.rd.drew hr.rd.drew hx.rd.drew hy.rd.drew (by omega) hly hlx hzr hzx hrx (G.drewN 1))
  have Hzr := hid hzr
  have d6 := Ne.symm d3
  clear hz hx hy hr hzr hzx hrx
  go_enter Tryz.func164, Tryz.ntmps164
  have Fin1 : Hid (∀ (w1 : World) (qa : Option Addr) (ql qc : Nat) (ra : Option Addr) (rl rc : Nat), Rd w1 qa ql qc (words (x.natAbs / y.natAbs)) → Into w.drew az cz qa qc → Rd w1 ra rl rc (words (x.natAbs % y.natAbs)) → Into w.drew ar cr ra rc → (∀ k, InB qa k → ¬ InB ra k) → Keeps (fun k => InB az k ∨ InB ar k) w w1 →
      ∀ wx, wx = ((w1.setCell ⟨pz, 1, none⟩ (.slice qa ql qc)).setCell ⟨pr, 1, none⟩ (.slice ra rl rc)) → ∃ qa ql qc ra rl rc, IntRow wx pz tz bZ qa ql qc ∧ IntRow wx pr tr bR ra rl rc ∧ Rd wx qa ql qc (words (x.natAbs / y.natAbs)) ∧ Rd wx ra rl rc (words (x.natAbs % y.natAbs)) ∧ Into w az cz qa qc ∧ Into w ar cr ra rc ∧ (∀ k, InB qa k → ¬ InB ra k) ∧ Keeps (fun k => k = pz ∨ InB az k ∨ k = pr ∨ InB ar k) w wx) := hid (by
    rintro w1 qa ql qc ra rl rc h1 h2 h3 h4 h5 h6 wx rfl
    have k1 : IntRow w1 pz tz bZ az lz cz := h6.row Hz.out.row (fun h => h.elim (Hz.out.rd.not_row Hz.out.row) (Hr.out.rd.not_row Hz.out.row))
    have k2 : IntRow w1 pr tr bR ar lr cr := h6.row Hr.out.row (fun h => h.elim (Hz.out.rd.not_row Hr.out.row) (Hr.out.rd.not_row Hr.out.row))
    have k3 := h1.set_row k1 1 (.slice qa ql qc)
    have k4 := h3.set_row k1 1 (.slice qa ql qc)
    have k5 : IntRow (w1.setCell ⟨pz, 1, none⟩ (.slice qa ql qc)) pr tr bR ar lr cr := RowAt.other k2 (p := ⟨pz, 1, none⟩) d3 (.slice qa ql qc)
    have k6 : IntRow (w1.setCell ⟨pz, 1, none⟩ (.slice qa ql qc)) pz tz bZ qa ql qc := IntRow.set1 k1
    exact ⟨qa, ql, qc, ra, rl, rc, RowAt.other k6 (p := ⟨pr, 1, none⟩) d6 (.slice ra rl rc), IntRow.set1 k5, k3.set_row k5 1 _, k4.set_row k5 1 _, h2.mono (Nat.le_refl _), h4.mono (Nat.le_refl _), h5,
      ((h6.mono (fun i _ h => h.elim (fun h => .inr (.inl h)) (fun h => .inr (.inr (.inr h))))).setCell ⟨pz, 1, none⟩ (.inl (.inl rfl)) _).setCell ⟨pr, 1, none⟩ (.inl (.inr (.inr (.inl rfl)))) _⟩)
  have Arm : Hid (∀ (w1 : World), Keeps (fun k => InB az k ∨ InB ar k) w w1 → w1.cell? ⟨pz, 1, none⟩ = some (.slice az lz cz) ∧ w1.frozen? ⟨pz, 1, none⟩ = false ∧ w1.cell? ⟨pr, 1, none⟩ = some (.slice ar lr cr) ∧ w1.frozen? ⟨pr, 1, none⟩ = false ∧ (∀ v, (w1.setCell ⟨pz, 1, none⟩ v).cell? ⟨pr, 1, none⟩ = some (.slice ar lr cr)) ∧ (∀ v, (w1.setCell ⟨pz, 1, none⟩ v).frozen? ⟨pr, 1, none⟩ = false)) := hid (by
    intro w1 h6
    have k1 : IntRow w1 pz tz bZ az lz cz := h6.row Hz.out.row (fun h => h.elim (Hz.out.rd.not_row Hz.out.row) (Hr.out.rd.not_row Hz.out.row))
    have k2 : IntRow w1 pr tr bR ar lr cr := h6.row Hr.out.row (fun h => h.elim (Hz.out.rd.not_row Hr.out.row) (Hr.out.rd.not_row Hr.out.row))
    obtain ⟨a0, a1, a2, a3⟩ := k1.facts
    obtain ⟨b0, b1, b2, b3⟩ := k2.facts
    refine ⟨a1, a3, b1, b3, fun v => ?_, fun v => ?_⟩
    · exact (IntRow.facts (show IntRow (w1.setCell ⟨pz, 1, none⟩ v) pr tr bR ar lr cr from RowAt.other k2 (p := ⟨pz, 1, none⟩) d3 v)).2.1
    · exact (IntRow.facts (show IntRow (w1.setCell ⟨pz, 1, none⟩ v) pr tr bR ar lr cr from RowAt.other k2 (p := ⟨pz, 1, none⟩) d3 v)).2.2.2)
  have HcallK : Hid (Calls Tryz.prog 199 #[.slice az lz cz, .pointer none, .slice ar lr cr, .slice ax lx cx, .slice ay ly cy] w.drew fun e w1 => ∃ qa ql qc ra rl rc, e = .returned (.tuple #[.slice qa ql qc, .slice ra rl rc]) ∧ Keeps (fun k => InB az k ∨ InB ar k) w w1 ∧ (∀ wx, wx = ((w1.setCell ⟨pz, 1, none⟩ (.slice qa ql qc)).setCell ⟨pr, 1, none⟩ (.slice ra rl rc)) → ∃ qa ql qc ra rl rc, IntRow wx pz tz bZ qa ql qc ∧ IntRow wx pr tr bR ra rl rc ∧ Rd wx qa ql qc (words (x.natAbs / y.natAbs)) ∧ Rd wx ra rl rc (words (x.natAbs % y.natAbs)) ∧ Into w az cz qa qc ∧ Into w ar cr ra rc ∧ (∀ k, InB qa k → ¬ InB ra k) ∧ Keeps (fun k => k = pz ∨ InB az k ∨ k = pr ∨ InB ar k) w wx)) := hid (Hcall.out.mono (by
    rintro e w1 ⟨qa, ql, qc, ra, rl, rc, rfl, h1, h2, h3, h4, h5, h6⟩
    have hk := ((Keeps.refl (fun k => InB az k ∨ InB ar k) w).drew).trans h6
    exact ⟨qa, ql, qc, ra, rl, rc, rfl, hk, Fin1.out w1 qa ql qc ra rl rc h1 h2 h3 h4 h5 hk⟩))
  clear z1 z3 r1 r3
  go_upto_region 1 with fail
  go_cut [] from 10 to 35 (fun wx => ∃ qa ql qc ra rl rc, IntRow wx pz tz bZ qa ql qc ∧ IntRow wx pr tr bR ra rl rc ∧ Rd wx qa ql qc (words (x.natAbs / y.natAbs)) ∧ Rd wx ra rl rc (words (x.natAbs % y.natAbs)) ∧ Into w az cz qa qc ∧ Into w ar cr ra rc ∧ (∀ k, InB qa k → ¬ InB ra k) ∧ Keeps (fun k => k = pz ∨ InB az k ∨ k = pr ∨ InB ar k) w wx)
  case first =>
    clear x1 y1 Fin1 G hy0 hly hlx
    go_region_law (first | (go_simp; go_at_call 199; (with_reducible refine HcallK.out.mono ?_); rintro e w1 ⟨qa, ql, qc, ra, rl, rc, rfl, hk, hf⟩; obtain ⟨a1, a2, a3, a4, a5, a6⟩ := Arm.out w1 hk; have HF := hid hf; clear hk hf))
    all_goals (go_wp2_with fail; go_meet)
    all_goals exact HF.out _ rfl
  case rest =>
    obtain ⟨qa, ql, qc, ra, rl, rc, h1, h2, h3, h4, h5, h6, h7, h8⟩ := hcut
    have sgn : ∀ (p : Nat) (t : TypeId) (v : Int) (a : Option Addr) (l c : Nat), IntS w p t v a l c → wc.cell? ⟨p, 0, none⟩ = some (.bool (decide (v < 0))) := by
      intro p t v a l c hs
      by_cases e1 : p = pz
      · subst e1
        have q1 := hs.row.facts.1
        rw [Hz.out.row.facts.1] at q1
        rw [← q1]
        exact h1.facts.1
      by_cases e2 : p = pr
      · subst e2
        have q1 := hs.row.facts.1
        rw [Hr.out.row.facts.1] at q1
        rw [← q1]
        exact h2.facts.1
      exact (IntRow.facts (h8.row hs.row (fun h => by
        rcases h with h | h | h | h
        · exact e1 h
        · exact Hz.out.rd.not_row hs.row h
        · exact e2 h
        · exact Hr.out.rd.not_row hs.row h))).1
    have g1 := sgn _ _ _ _ _ _ Hx.out
    have g2 := sgn _ _ _ _ _ _ Hy.out
    obtain ⟨e0, e1, e2, e3⟩ := h1.facts
    obtain ⟨f0, f1, f2, f3⟩ := h2.facts
    obtain ⟨bx, hbx⟩ : ∃ b, b = decide (x < 0) := ⟨_, rfl⟩
    obtain ⟨bY, hby⟩ : ∃ b, b = decide (y < 0) := ⟨_, rfl⟩
    rw [← hbx] at g1
    rw [← hby] at g2
    have hq := quo_sign x y
    have hr := rem_sign x y
    rw [← hbx, ← hby] at hq
    rw [← hbx] at hr
    obtain ⟨bq, hbq⟩ : ∃ b, b = decide (x.tdiv y < 0) := ⟨_, rfl⟩
    obtain ⟨br, hbr⟩ : ∃ b, b = decide (x.tmod y < 0) := ⟨_, rfl⟩
    rw [← hbq] at hq
    rw [← hbr] at hr
    have hlq := h3.length
    have hlr := h4.length
    -- what is left once the signs stand
    have Fin : Hid (∀ w', w' = ((wc.drew.setCell ⟨pz, 0, none⟩ (.bool bq)).setCell ⟨pr, 0, none⟩ (.bool br)) → ∃ qa ql qc ra rl rc, IntS w' pz tz (x.tdiv y) qa ql qc ∧ IntS w' pr tr (x.tmod y) ra rl rc ∧ Into w az cz qa qc ∧ Into w ar cr ra rc ∧ (∀ k, InB qa k → ¬ InB ra k) ∧ Keeps (fun k => k = pz ∨ InB az k ∨ k = pr ∨ InB ar k) w w') := hid (by
      rintro w' rfl
      have hd : Keeps (fun _ => False) wc wc.drew := (Keeps.refl _ wc).drew
      have k1 : IntRow wc.drew pz tz bZ qa ql qc := hd.row h1 (fun h => h)
      have k2 : IntRow wc.drew pr tr bR ra rl rc := hd.row h2 (fun h => h)
      have k3 := (h3.drew).set_row k1 0 (.bool bq)
      have k4 := (h4.drew).set_row k1 0 (.bool bq)
      have k5 : IntRow (wc.drew.setCell ⟨pz, 0, none⟩ (.bool bq)) pr tr bR ra rl rc := RowAt.other k2 (p := ⟨pz, 0, none⟩) d3 (.bool bq)
      have k6 : IntRow (wc.drew.setCell ⟨pz, 0, none⟩ (.bool bq)) pz tz bq qa ql qc := IntRow.set0 k1
      refine ⟨qa, ql, qc, ra, rl, rc, ⟨?_, ?_⟩, ⟨?_, ?_⟩, h5, h6, h7, ?_⟩
      · rw [← hbq]; exact RowAt.other k6 (p := ⟨pr, 0, none⟩) d6 (.bool br)
      · rw [Int.natAbs_tdiv]; exact k3.set_row k5 0 (.bool br)
      · rw [← hbr]; exact IntRow.set0 k5
      · rw [Int.natAbs_tmod]; exact k4.set_row k5 0 (.bool br)
      · exact ((h8.drew).setCell ⟨pz, 0, none⟩ (.inl (.inl rfl)) _).setCell ⟨pr, 0, none⟩ (.inl (.inr (.inr (.inl rfl)))) _)
    have HH := hid h1; have HR1 := hid h2
    clear h1 h2 h3 h4 h5 h6 h7 h8 sgn hbx hby hbq hbr Hz Hx Hy Hr Hcall Hzr z2 z4 x1 x2 y1 y2 r2 r4 HcallK Arm Fin1
    rcases Nat.eq_zero_or_pos (x.natAbs / y.natAbs) with hN | hN
    · have hql : ql = 0 := by rw [← hlq, hN, words_zero]; rfl
      have hb : bq = false := by rw [hq, hN]; simp
      subst hql; subst hb
      clear hlq hN hq
      rcases Nat.eq_zero_or_pos (x.natAbs % y.natAbs) with hM | hM
      · have hrl : rl = 0 := by rw [← hlr, hM, words_zero]; rfl
        have hb : br = false := by rw [hr, hM]; simp
        subst hrl; subst hb
        clear hlr hM hr
        go_wp2_with fail
        go_region
        go_wp2_with fail
        go_ret2
        exact ⟨rfl, Fin.out _ rfl⟩
      · have hrl : 0 < rl := by rw [← hlr]; exact words_length_pos (by omega)
        have hb : br = bx := by rw [hr, decide_eq_true (show x.natAbs % y.natAbs ≠ 0 by omega)]; simp
        have hrl' : decide ((0 : Int) < (rl : Int)) = true := by simp; omega
        subst hb
        clear hlr hM hr
        go_wp2_with fail
        go_region
        go_wp2_with fail
        go_ret2
        exact ⟨rfl, Fin.out _ rfl⟩
    · have hql : 0 < ql := by rw [← hlq]; exact words_length_pos (by omega)
      have hb : bq = (bx != bY) := by rw [hq, decide_eq_true (show x.natAbs / y.natAbs ≠ 0 by omega)]; simp
      have hql' : decide ((0 : Int) < (ql : Int)) = true := by simp; omega
      subst hb
      clear hlq hN hq
      rcases Nat.eq_zero_or_pos (x.natAbs % y.natAbs) with hM | hM
      · have hrl : rl = 0 := by rw [← hlr, hM, words_zero]; rfl
        have hb : br = false := by rw [hr, hM]; simp
        subst hrl; subst hb
        clear hlr hM hr
        go_wp2_with fail
        go_region
        go_wp2_with fail
        go_ret2
        exact ⟨rfl, Fin.out _ rfl⟩
      · have hrl : 0 < rl := by rw [← hlr]; exact words_length_pos (by omega)
        have hb : br = bx := by rw [hr, decide_eq_true (show x.natAbs % y.natAbs ≠ 0 by omega)]; simp
        have hrl' : decide ((0 : Int) < (rl : Int)) = true := by simp; omega
        subst hb
        clear hlr hM hr
        go_wp2_with fail
        go_region
        go_wp2_with fail
        go_ret2
        exact ⟨rfl, Fin.out _ rfl⟩
end Go.Proofs
namespace Go.Proofs
open Go.RowKit
set_option maxHeartbeats 1000000
set_option linter.unusedVariables false
set_option linter.unusedSimpArgs false
set_option maxRecDepth 100000

theorem EnvG.add145 {S : Nat → Prop} {w0 w : World} {V : Nat → Option (TypeId × SV)} (h : EnvG S w0 w V) {pz px py : Nat} {tz tx ty : TypeId} {z x y : SV} (hz : V pz = some (tz, z)) (hx : V px = some (tx, x)) (hy : V py = some (ty, y)) (h1 : x.2 < W64 ^ 40) (h2 : y.2 < W64 ^ 40) :
    Calls Tryz.prog 145 #[.pointer (some ⟨pz, 0, none⟩), .pointer (some ⟨px, 0, none⟩), .pointer (some ⟨py, 0, none⟩)] w fun e w' => e = .returned (.pointer (some ⟨pz, 0, none⟩)) ∧ EnvG S w0 w' (updG V pz tz (sv (sgnv x.1 x.2 + sgnv y.1 y.2))) :=
  h.op hz hx hy fun az ax ay lz cz lx cx ly cy gz gx gy a1 a2 b1 b2 =>
    (Go.Proofs.add145 pz px py tz tx ty _ _ _ z.2 x.2 y.2 az ax ay lz cz lx cx ly cy w gz gx gy (al_of a1 b1) (al_of a2 b2) (by have := gx.len h1; omega) (by have := gy.len h2; omega)).mono (by rintro e w' ⟨rfl, hr⟩; exact ⟨rfl, hr.h⟩)
theorem EnvG.add145p {S : Nat → Prop} {w0 w : World} {V : Nat → Option (TypeId × SV)} (h : EnvG S w0 w V) {pz px py : Nat} {tz tx ty : TypeId} {z : SV} {bx bY : Bool} {M N : Nat} {r : Int} (hz : V pz = some (tz, z)) (hx : V px = some (tx, (bx, M))) (hy : V py = some (ty, (bY, N))) (hr : sgnv bx M + sgnv bY N = r) (h1 : M < W64 ^ 40) (h2 : N < W64 ^ 40) :
    Calls Tryz.prog 145 #[.pointer (some ⟨pz, 0, none⟩), .pointer (some ⟨px, 0, none⟩), .pointer (some ⟨py, 0, none⟩)] w fun e w' => e = .returned (.pointer (some ⟨pz, 0, none⟩)) ∧ EnvG S w0 w' (updG V pz tz (sv r)) := by
  rw [← hr]
  exact h.add145 hz hx hy h1 h2
theorem EnvG.sub146 {S : Nat → Prop} {w0 w : World} {V : Nat → Option (TypeId × SV)} (h : EnvG S w0 w V) {pz px py : Nat} {tz tx ty : TypeId} {z x y : SV} (hz : V pz = some (tz, z)) (hx : V px = some (tx, x)) (hy : V py = some (ty, y)) (h1 : x.2 < W64 ^ 40) (h2 : y.2 < W64 ^ 40) :
    Calls Tryz.prog 146 #[.pointer (some ⟨pz, 0, none⟩), .pointer (some ⟨px, 0, none⟩), .pointer (some ⟨py, 0, none⟩)] w fun e w' => e = .returned (.pointer (some ⟨pz, 0, none⟩)) ∧ EnvG S w0 w' (updG V pz tz (sv (sgnv x.1 x.2 - sgnv y.1 y.2))) :=
  h.op hz hx hy fun az ax ay lz cz lx cx ly cy gz gx gy a1 a2 b1 b2 =>
    (Go.Proofs.sub146 pz px py tz tx ty _ _ _ z.2 x.2 y.2 az ax ay lz cz lx cx ly cy w gz gx gy (al_of a1 b1) (al_of a2 b2) (by have := gx.len h1; omega) (by have := gy.len h2; omega)).mono (by rintro e w' ⟨rfl, hr⟩; exact ⟨rfl, hr.h⟩)
theorem EnvG.mul147 {S : Nat → Prop} {w0 w : World} {V : Nat → Option (TypeId × SV)} (h : EnvG S w0 w V) {pz px py : Nat} {tz tx ty : TypeId} {z x y : Int} (hz : V pz = some (tz, sv z)) (hx : V px = some (tx, sv x)) (hy : V py = some (ty, sv y)) (G : Glob w) (h1 : x.natAbs < W64 ^ 11) (h2 : y.natAbs < W64 ^ 11) :
    Calls Tryz.prog 147 #[.pointer (some ⟨pz, 0, none⟩), .pointer (some ⟨px, 0, none⟩), .pointer (some ⟨py, 0, none⟩)] w fun e w' => e = .returned (.pointer (some ⟨pz, 0, none⟩)) ∧ EnvG S w0 w' (updG V pz tz (sv (x * y))) :=
  h.op hz hx hy fun az ax ay lz cz lx cx ly cy gz gx gy a1 a2 b1 b2 =>
    (mul147_any pz px py tz tx ty z x y az ax ay lz cz lx cx ly cy w gz.s gx.s gy.s G a1 a2 (by have := gx.len h1; omega) (by have := gy.len h2; omega)).mono (by rintro e w' ⟨rfl, hr⟩; exact ⟨rfl, hr.h⟩)
theorem EnvG.quoRem164 {S : Nat → Prop} {w0 w : World} {V : Nat → Option (TypeId × SV)} (h : EnvG S w0 w V) {pz px py pr : Nat} {tz tx ty tr : TypeId} {z r : SV} {x y : Int} (hz : V pz = some (tz, z)) (hx : V px = some (tx, sv x)) (hy : V py = some (ty, sv y)) (hr : V pr = some (tr, r))
    (d1 : pz ≠ px) (d2 : pz ≠ py) (d3 : pz ≠ pr) (d4 : pr ≠ px) (d5 : pr ≠ py) (G : Glob w) (hy0 : y ≠ 0) (h1 : x.natAbs < W64 ^ 40) (h2 : y.natAbs < W64 ^ 39) :
    Calls Tryz.prog 164 #[.pointer (some ⟨pz, 0, none⟩), .pointer (some ⟨px, 0, none⟩), .pointer (some ⟨py, 0, none⟩), .pointer (some ⟨pr, 0, none⟩)] w fun e w' =>
      e = .returned (.tuple #[.pointer (some ⟨pz, 0, none⟩), .pointer (some ⟨pr, 0, none⟩)]) ∧ EnvG S w0 w' (updG (updG V pz tz (sv (x.tdiv y))) pr tr (sv (x.tmod y))) := by
  obtain ⟨hk0, ho, f, g1, g2⟩ := h
  have ez : (V pz).isSome := by rw [hz]; rfl
  have ex : (V px).isSome := by rw [hx]; rfl
  have er : (V pr).isSome := by rw [hr]; rfl
  have iz := (g1 pz tz z hz).2.1; have ix := (g1 px tx _ hx).2.1; have iy := (g1 py ty _ hy).2.1; have ir := (g1 pr tr r hr).2.1
  refine (quoRem164_any pz px py pr tz tx ty tr x y z.1 r.1 z.2 r.2 _ _ _ _ _ _ _ _ _ _ _ _ w iz ix.s iy.s ir d3 (g2 pz pr ez er d3) (Al.of_ne (g2 pz px ez ex d1)) (Al.of_ne (g2 pr px er ex d4)) hy0 (by have := iy.len h2; omega) (by have := ix.len h1; omega) G).mono ?_
  rintro e w' ⟨rfl, qa, ql, qc, ra, rl, rc, k1, k2, k3, k4, k5, k6⟩
  exact ⟨rfl, EnvG.res2 hk0 ho g1 g2 hz hr d3 k1.h k2.h k3 k4 k5 k6⟩

theorem sgnv_mulW (z : Int) (neg : Bool) (v : Nat) : sgnv ((sv z).1 != neg) ((sv z).2 * v) = if neg then -((v : Int) * z) else (v : Int) * z := by
  have h : ∀ b : Bool, sgnv b (z.natAbs * v) = if b then -((v : Int) * (z.natAbs : Int)) else (v : Int) * (z.natAbs : Int) := by
    intro b; unfold sgnv; rw [Int.natCast_mul, Int.mul_comm]
  unfold sv
  simp only
  rw [h]
  by_cases hz : z < 0
  · rw [decide_eq_true hz, show (z.natAbs : Int) = -z by omega, Int.mul_neg]
    cases neg <;> simp
  · rw [decide_eq_false hz, show (z.natAbs : Int) = z by omega]
    cases neg <;> simp
theorem sv_abs (z : Int) : (sv z).2 = z.natAbs := rfl
theorem mulW_lt {z : Nat} {v : Nat} (hz : z < W64 ^ 20) (hv : v < W64) : z * v < W64 ^ 40 := by
  have h1 : z * v ≤ W64 ^ 20 * W64 := Nat.mul_le_mul (Nat.le_of_lt hz) (Nat.le_of_lt hv)
  have h2 : W64 ^ 20 * W64 < W64 ^ 40 := by rw [← Nat.pow_succ]; exact Nat.pow_lt_pow_right (by unfold W64; omega) (by omega)
  omega

theorem EnvG.lehmerUpdate {S : Nat → Prop} {w0 w : World} {V : Nat → Option (TypeId × SV)} (h : EnvG S w0 w V) {pA pB pq pr : Nat} {tA tB tq tr : TypeId} {A B : Int} {q r : SV} (hA : V pA = some (tA, sv A)) (hB : V pB = some (tB, sv B)) (hq : V pq = some (tq, q)) (hr : V pr = some (tr, r))
    (d1 : pA ≠ pB) (d2 : pA ≠ pq) (d3 : pA ≠ pr) (d4 : pB ≠ pq) (d5 : pB ≠ pr) (d6 : pq ≠ pr) (u0 u1 v0 v1 : Nat) (e : Bool) (hu0 : u0 < W64) (hu1 : u1 < W64) (hv0 : v0 < W64) (hv1 : v1 < W64) (hAl : A.natAbs < W64 ^ 20) (hBl : B.natAbs < W64 ^ 20) :
    Calls Tryz.prog 243 #[.pointer (some ⟨pA, 0, none⟩), .pointer (some ⟨pB, 0, none⟩), .pointer (some ⟨pq, 0, none⟩), .pointer (some ⟨pr, 0, none⟩), .int .u64 (u0 : Int), .int .u64 (u1 : Int), .int .u64 (v0 : Int), .int .u64 (v1 : Int), .bool e] w fun ev w' =>
      ev = .returned (.tuple #[]) ∧ ∃ V', EnvG S w0 w' V' ∧ V' pA = some (tA, sv (rowv (!e) u0 v0 A B)) ∧ V' pB = some (tB, sv (rowv e u1 v1 A B)) ∧ (∃ q', V' pq = some (tq, q')) ∧ (∃ r', V' pr = some (tr, r')) ∧ ∀ k, k ≠ pA → k ≠ pB → k ≠ pq → k ≠ pr → V' k = V k := by
  have hw20 : W64 ^ 20 ≤ W64 ^ 200 := Nat.pow_le_pow_right (by unfold W64; omega) (by omega)
  have HE := hid h
  have C1 := hid (HE.out.mulW hq hB e v0 hv0 (Nat.lt_of_lt_of_le hBl hw20))
  obtain ⟨V1, hV1⟩ : ∃ V1, V1 = updG V pq tq ((sv B).1 != e, (sv B).2 * v0) := ⟨_, rfl⟩
  have a1 : ∀ k, k ≠ pq → V1 k = V k := fun k hk => by rw [hV1, updG_ne _ _ _ hk]
  have b1 : V1 pq = some (tq, ((sv B).1 != e, (sv B).2 * v0)) := by rw [hV1, updG_eq]
  rw [← hV1] at C1
  obtain ⟨V2, hV2⟩ : ∃ V2, V2 = updG V1 pr tr ((sv A).1 != e, (sv A).2 * u1) := ⟨_, rfl⟩
  have a2 : ∀ k, k ≠ pr → V2 k = V1 k := fun k hk => by rw [hV2, updG_ne _ _ _ hk]
  have b2 : V2 pr = some (tr, ((sv A).1 != e, (sv A).2 * u1)) := by rw [hV2, updG_eq]
  obtain ⟨V3, hV3⟩ : ∃ V3, V3 = updG V2 pA tA ((sv A).1 != !e, (sv A).2 * u0) := ⟨_, rfl⟩
  have a3 : ∀ k, k ≠ pA → V3 k = V2 k := fun k hk => by rw [hV3, updG_ne _ _ _ hk]
  have b3 : V3 pA = some (tA, ((sv A).1 != !e, (sv A).2 * u0)) := by rw [hV3, updG_eq]
  obtain ⟨V4, hV4⟩ : ∃ V4, V4 = updG V3 pB tB ((sv B).1 != !e, (sv B).2 * v1) := ⟨_, rfl⟩
  have a4 : ∀ k, k ≠ pB → V4 k = V3 k := fun k hk => by rw [hV4, updG_ne _ _ _ hk]
  have b4 : V4 pB = some (tB, ((sv B).1 != !e, (sv B).2 * v1)) := by rw [hV4, updG_eq]
  have eA : sgnv ((sv A).1 != !e) ((sv A).2 * u0) + sgnv ((sv B).1 != e) ((sv B).2 * v0) = rowv (!e) u0 v0 A B := by
    rw [sgnv_mulW, sgnv_mulW]; unfold rowv; cases e <;> simp <;> omega
  have eB : sgnv ((sv B).1 != !e) ((sv B).2 * v1) + sgnv ((sv A).1 != e) ((sv A).2 * u1) = rowv e u1 v1 A B := by
    rw [sgnv_mulW, sgnv_mulW]; unfold rowv; cases e <;> simp <;> omega
  have hA0 : (sv A).2 * u0 < W64 ^ 40 := mulW_lt (z := A.natAbs) hAl hu0
  have hA1 : (sv A).2 * u1 < W64 ^ 40 := mulW_lt (z := A.natAbs) hAl hu1
  have hB0 : (sv B).2 * v0 < W64 ^ 40 := mulW_lt (z := B.natAbs) hBl hv0
  have hB1 : (sv B).2 * v1 < W64 ^ 40 := mulW_lt (z := B.natAbs) hBl hv1
  have C2 : Hid (∀ w1, EnvG S w0 w1 V1 → Calls Tryz.prog 245 #[.pointer (some ⟨pr, 0, none⟩), .pointer (some ⟨pA, 0, none⟩), .bool e, .int .u64 (u1 : Int)] w1 fun ev w' => ev = .returned (.tuple #[]) ∧ EnvG S w0 w' V2) :=
    hid (fun w1 h1 => by rw [hV2]; exact h1.mulW (by rw [a1 _ (Ne.symm d6)]; exact hr) (by rw [a1 _ d2]; exact hA) e u1 hu1 (Nat.lt_of_lt_of_le hAl hw20))
  have C3 : Hid (∀ w1, EnvG S w0 w1 V2 → Calls Tryz.prog 245 #[.pointer (some ⟨pA, 0, none⟩), .pointer (some ⟨pA, 0, none⟩), .bool (!e), .int .u64 (u0 : Int)] w1 fun ev w' => ev = .returned (.tuple #[]) ∧ EnvG S w0 w' V3) :=
    hid (fun w1 h1 => by rw [hV3]; exact h1.mulW (by rw [a2 _ d3, a1 _ d2]; exact hA) (by rw [a2 _ d3, a1 _ d2]; exact hA) (!e) u0 hu0 (Nat.lt_of_lt_of_le hAl hw20))
  have C4 : Hid (∀ w1, EnvG S w0 w1 V3 → Calls Tryz.prog 245 #[.pointer (some ⟨pB, 0, none⟩), .pointer (some ⟨pB, 0, none⟩), .bool (!e), .int .u64 (v1 : Int)] w1 fun ev w' => ev = .returned (.tuple #[]) ∧ EnvG S w0 w' V4) :=
    hid (fun w1 h1 => by rw [hV4]; exact h1.mulW (by rw [a3 _ (Ne.symm d1), a2 _ d5, a1 _ d4]; exact hB) (by rw [a3 _ (Ne.symm d1), a2 _ d5, a1 _ d4]; exact hB) (!e) v1 hv1 (Nat.lt_of_lt_of_le hBl hw20))
  obtain ⟨V5, hV5⟩ : ∃ V5, V5 = updG V4 pA tA (sv (rowv (!e) u0 v0 A B)) := ⟨_, rfl⟩
  have a5 : ∀ k, k ≠ pA → V5 k = V4 k := fun k hk => by rw [hV5, updG_ne _ _ _ hk]
  have b5 : V5 pA = some (tA, sv (rowv (!e) u0 v0 A B)) := by rw [hV5, updG_eq]
  obtain ⟨V6, hV6⟩ : ∃ V6, V6 = updG V5 pB tB (sv (rowv e u1 v1 A B)) := ⟨_, rfl⟩
  have a6 : ∀ k, k ≠ pB → V6 k = V5 k := fun k hk => by rw [hV6, updG_ne _ _ _ hk]
  have b6 : V6 pB = some (tB, sv (rowv e u1 v1 A B)) := by rw [hV6, updG_eq]
  have C5 : Hid (∀ w1, EnvG S w0 w1 V4 → Calls Tryz.prog 145 #[.pointer (some ⟨pA, 0, none⟩), .pointer (some ⟨pA, 0, none⟩), .pointer (some ⟨pq, 0, none⟩)] w1 fun ev w' => ev = .returned (.pointer (some ⟨pA, 0, none⟩)) ∧ EnvG S w0 w' V5) :=
    hid (fun w1 h1 => by
      rw [hV5]
      have hx : V4 pA = some (tA, ((sv A).1 != !e, (sv A).2 * u0)) := by rw [a4 _ d1]; exact b3
      exact h1.add145p hx hx (by rw [a4 _ (Ne.symm d4), a3 _ (Ne.symm d2), a2 _ d6]; exact b1) eA hA0 hB0)
  have C6 : Hid (∀ w1, EnvG S w0 w1 V5 → Calls Tryz.prog 145 #[.pointer (some ⟨pB, 0, none⟩), .pointer (some ⟨pB, 0, none⟩), .pointer (some ⟨pr, 0, none⟩)] w1 fun ev w' => ev = .returned (.pointer (some ⟨pB, 0, none⟩)) ∧ EnvG S w0 w' V6) :=
    hid (fun w1 h1 => by
      rw [hV6]
      have hx : V5 pB = some (tB, ((sv B).1 != !e, (sv B).2 * v1)) := by rw [a5 _ (Ne.symm d1)]; exact b4
      exact h1.add145p hx hx (by rw [a5 _ (Ne.symm d3), a4 _ (Ne.symm d5), a3 _ (Ne.symm d3)]; exact b2) eB hB1 hA1)
  have Fin : Hid (∀ w', EnvG S w0 w' V6 → ∃ V', EnvG S w0 w' V' ∧ V' pA = some (tA, sv (rowv (!e) u0 v0 A B)) ∧ V' pB = some (tB, sv (rowv e u1 v1 A B)) ∧ (∃ q', V' pq = some (tq, q')) ∧ (∃ r', V' pr = some (tr, r')) ∧ ∀ k, k ≠ pA → k ≠ pB → k ≠ pq → k ≠ pr → V' k = V k) := hid (fun w' h6 =>
    ⟨V6, h6, by rw [a6 _ d1]; exact b5, b6, ⟨_, by rw [a6 _ (Ne.symm d4), a5 _ (Ne.symm d2), a4 _ (Ne.symm d4), a3 _ (Ne.symm d2), a2 _ d6]; exact b1⟩, ⟨_, by rw [a6 _ (Ne.symm d5), a5 _ (Ne.symm d3), a4 _ (Ne.symm d5), a3 _ (Ne.symm d3)]; exact b2⟩,
      fun k k1 k2 k3 k4 => by rw [a6 _ k2, a5 _ k1, a4 _ k2, a3 _ k1, a2 _ k4, a1 _ k3]⟩)
  clear h hA hB hq hr d1 d2 d3 d4 d5 d6 hu0 hu1 hv0 hv1 hAl hBl hw20 hV1 hV2 hV3 hV4 hV5 hV6 a1 a2 a3 a4 a5 a6 b1 b2 b3 b4 b5 b6 eA eB hA0 hA1 hB0 hB1
  go_enter Tryz.func243, Tryz.ntmps243
  go_wp2_with fail
  refine C1.out.mono ?_
  rintro ev w1 ⟨rfl, h1⟩
  have H1 := hid h1
  clear h1
  go_wp2_with fail
  refine (C2.out _ H1.out).mono ?_
  rintro ev w2 ⟨rfl, h1⟩
  have H2 := hid h1
  clear h1
  go_wp2_with fail
  refine (C3.out _ H2.out).mono ?_
  rintro ev w3 ⟨rfl, h1⟩
  have H3 := hid h1
  clear h1
  go_wp2_with fail
  refine (C4.out _ H3.out).mono ?_
  rintro ev w4 ⟨rfl, h1⟩
  have H4 := hid h1
  clear h1
  go_wp2_with fail
  refine (C5.out _ H4.out).mono ?_
  rintro ev w5 ⟨rfl, h1⟩
  have H5 := hid h1
  clear h1
  go_wp2_with fail
  refine (C6.out _ H5.out).mono ?_
  rintro ev w6 ⟨rfl, h1⟩
  have H6 := hid h1
  clear h1
  go_wp2_with fail
  go_end0
  exact ⟨rfl, Fin.out _ H6.out⟩
end Go.Proofs
namespace Go.Proofs
open Go.RowKit
set_option maxHeartbeats 1000000
set_option linter.unusedVariables false
set_option linter.unusedSimpArgs false
set_option maxRecDepth 100000

/-- What the simulation hands back. -/
def SimRes (A B : Int) (w : World) (e : Ending) (w' : World) : Prop :=
  ∃ (u0 u1 v0 v1 : Nat) (ev : Bool), e = .returned (.tuple #[.int .u64 (u0 : Int), .int .u64 (u1 : Int), .int .u64 (v0 : Int), .int .u64 (v1 : Int), .bool ev]) ∧ u0 < W64 ∧ u1 < W64 ∧ v0 < W64 ∧ v1 < W64 ∧ SimOut A B u0 u1 v0 v1 ev ∧ Keeps (fun _ => False) w w'

/-- The loop's variables. -/
def SimRel (a0 b0 : Nat) (A B : Int) (w : World) (x4 x5 x6 x7 x8 x9 x10 x11 x12 : Value) (wr : World) : Prop :=
  ∃ (a1 a2 u0 u1 u2 v0 v1 v2 : Nat) (e : Bool), x4 = .int .u64 (u0 : Int) ∧ x5 = .int .u64 (u1 : Int) ∧ x6 = .int .u64 (v0 : Int) ∧ x7 = .int .u64 (v1 : Int) ∧ x8 = .bool e ∧ x9 = .int .u64 (a1 : Int) ∧ x10 = .int .u64 (a2 : Int) ∧ x11 = .int .u64 (u2 : Int) ∧ x12 = .int .u64 (v2 : Int) ∧
    Sim a0 b0 A B a1 a2 u0 u1 u2 v0 v1 v2 e ∧ Keeps (fun _ => False) w wr

theorem top_bits {t r s : Nat} (hs : s ≤ 63) (hr : r < W64) (h : t * 2 ^ s < W64) :
    bits BinOp.or IntKind.u64 (IntKind.u64.wrap ((t : Int) * 2 ^ s)) ((r : Int) / 2 ^ (64 - s)) = ((t * 2 ^ s + r / 2 ^ (64 - s) : Nat) : Int) := by
  have h1 : IntKind.u64.wrap ((t : Int) * 2 ^ s) = ((t * 2 ^ s : Nat) : Int) := by rw [← u64_wrap _ h, Int.natCast_mul, Int.natCast_pow]; rfl
  have h2 : (r : Int) / 2 ^ (64 - s) = ((r / 2 ^ (64 - s) : Nat) : Int) := by rw [Int.natCast_ediv, Int.natCast_pow]; rfl
  rw [h1, h2]
  rcases Nat.eq_zero_or_pos s with h0 | h0
  · subst h0
    have h3 : r / 2 ^ (64 - 0) = 0 := Nat.div_eq_of_lt (by unfold W64 at hr; omega)
    rw [h3, bits_or_u64_nat _ _ h W64_pos]
    simp
  · exact shl_or hs h0 hr h
theorem top_bits0 {t r : Nat} (hr : r < W64) (h : t < W64) :
    bits BinOp.or IntKind.u64 (IntKind.u64.wrap (t : Int)) ((r : Int) / 18446744073709551616) = ((t * 2 ^ 0 + r / 2 ^ (64 - 0) : Nat) : Int) := by
  have h1 := top_bits (t := t) (r := r) (s := 0) (by omega) hr (by rw [Nat.pow_zero, Nat.mul_one]; exact h)
  rw [← h1]
  rw [Int.pow_zero, Int.mul_one]
  rfl
theorem top_le {M N n : Nat} (h : N ≤ M) (hM : M < W64 ^ n) (hn : 1 ≤ n) : (words N).getD (n - 1) 0 ≤ (words M).getD (n - 1) 0 := by
  have key : ∀ x, x < W64 ^ n → x / W64 ^ (n - 1) % W64 = x / W64 ^ (n - 1) := by
    intro x hx
    refine Nat.mod_eq_of_lt ?_
    rw [Nat.div_lt_iff_lt_mul (Nat.pow_pos W64_pos), ← Nat.pow_succ', show (n - 1).succ = n by omega]
    exact hx
  rw [word_at, word_at, key _ hM, key _ (by omega)]
  exact Nat.div_le_div_right h
theorem top_zero {N m n h : Nat} (hN : N < W64 ^ m) (hmn : m + 2 ≤ n) : N / topK n h = 0 := by
  refine Nat.div_eq_of_lt ?_
  have h1 : W64 ^ m ≤ W64 ^ (n - 2) := Nat.pow_le_pow_right W64_pos (by omega)
  have h2 : W64 ^ (n - 2) * 1 ≤ topK n h := Nat.mul_le_mul_left _ (Nat.two_pow_pos _)
  omega

theorem lehmerSimulate242 (pA pB tA tB : Nat) (A B : Int) (aA aB : Option Addr) (n cA m cB : Nat) (w : World) (hA : IntS w pA tA A aA n cA) (hB : IntS w pB tB B aB m cB) (hm : 2 ≤ m) (hB0 : 0 ≤ B) (hBA : B ≤ A) (hn : n ≤ 100000) :
    Calls Tryz.prog 242 #[.pointer (some ⟨pA, 0, none⟩), .pointer (some ⟨pB, 0, none⟩)] w (SimRes A B w) := by
  obtain ⟨M, rfl⟩ := Int.eq_ofNat_of_zero_le (show 0 ≤ A by omega)
  obtain ⟨N, rfl⟩ := Int.eq_ofNat_of_zero_le hB0
  have hNM : N ≤ M := by omega
  obtain ⟨_, x2, _, _⟩ := hA.row.facts
  obtain ⟨_, y2, _, _⟩ := hB.row.facts
  have rA := hA.rd
  have rB := hB.rd
  rw [Int.natAbs_natCast] at rA rB
  have lA := rA.length
  have lB := rB.length
  have hmn : m ≤ n := by rw [← lA, ← lB]; exact words_mono hNM
  obtain ⟨t, ht⟩ : ∃ t, t = (words M).getD (n - 1) 0 := ⟨_, rfl⟩
  obtain ⟨s, hs⟩ : ∃ s, s = nz t := ⟨_, rfl⟩
  obtain ⟨n1, hn1⟩ : ∃ n1, n1 + 1 = n := ⟨n - 1, by omega⟩
  obtain ⟨n2, hn2⟩ : ∃ n2, n2 + 2 = n := ⟨n - 2, by omega⟩
  have e1 : (n : Int) - 1 = (n1 : Int) := by omega
  have e2 : (n : Int) - 2 = (n2 : Int) := by omega
  obtain ⟨r, hr⟩ : ∃ r, r = (words M).getD (n - 2) 0 := ⟨_, rfl⟩
  have ht0 : t ≠ 0 := by rw [ht]; have := words_last (n := M) (by intro h0; rw [h0, words_zero] at lA; simp at lA; omega); rwa [lA] at this
  have htl : t < W64 := by rw [ht]; exact (words_words M).getD _
  have hrl : r < W64 := by rw [hr]; exact (words_words M).getD _
  obtain ⟨hS1, hS2⟩ := nz_shift ht0 htl
  obtain ⟨hs63, _, _, _⟩ := nz_facts ht0 htl
  rw [← hs] at hS1 hS2 hs63
  obtain ⟨ab, ao, rfl, hAs⟩ := rA.sg (by omega)
  obtain ⟨bb, bo, rfl, hBs⟩ := rB.sg (by omega)
  have cA1 := hAs.cell (i := n1) (by omega)
  have cA2 := hAs.cell (i := n2) (by omega)
  rw [show n1 = n - 1 by omega, ← ht, show n - 1 = n1 by omega] at cA1
  rw [show n2 = n - 2 by omega, ← hr, show n - 2 = n2 by omega] at cA2
  have HNZ := hid (fun W => nlz_any t W ht0 htl)
  rw [← hs] at HNZ
  have hMn : M < W64 ^ n := by rw [← lA]; exact lt_words M
  have htop : M / topK n s = t * 2 ^ s + r / 2 ^ (64 - s) := by rw [ht, hr]; exact top_word hMn (by omega) hs63
  have htl2 : M / topK n s < W64 := top_lt hMn (by omega) hs63 (by rw [← ht]; exact hS2)
  have HA := hid hA; have HB := hid hB; have Hht := hid ht; have Hhs := hid hs; have Hhr := hid hr; have HAs := hid hAs; have HBs := hid hBs; have HlA := hid lA; have HlB := hid lB; have HMn := hid hMn; have Htop := hid htop; have Htl2 := hid htl2; have HS1 := hid hS1; have HS2 := hid hS2; have HrA := hid rA; have HrB := hid rB; have Ht0 := hid ht0; have Htl := hid htl; have Hrl := hid hrl; have HNM := hid hNM; have HBA := hid hBA
  clear hA hB ht hs hr hAs hBs lA lB hMn htop htl2 hS1 hS2 rA rB ht0 htl hrl hNM hBA hB0
  have Hn1 := hid hn1; have Hn2 := hid hn2
  go_enter Tryz.func242, Tryz.ntmps242
  go_wp2_with fail
  refine (HNZ.out _).mono ?_
  rintro e w1 ⟨rfl, rfl⟩
  go_upto_region 1 with fail
  go_cut [9] from 37 to 58 (fun a wx => a = .int .u64 ((M / topK n s : Nat) : Int) ∧ Keeps (fun _ => False) w1 wx)
  case first =>
    by_cases hs0 : s = 0
    · subst hs0
      go_wp2_with fail
      go_quiet (fail)
      go_wp2_with fail
      go_meet
      case rel => exact ⟨by rw [Htop.out]; exact congrArg _ (top_bits0 Hrl.out Htl.out), (Keeps.refl _ w1).drewN nq⟩
    · go_wp2_with fail
      go_quiet (fail)
      go_wp2_with fail
      go_meet
      case rel => exact ⟨by rw [Htop.out]; exact congrArg _ (top_bits hs63 Hrl.out HS2.out), (Keeps.refl _ w1).drewN nq⟩
  case rest =>
    obtain ⟨rfl, hk⟩ := hcut
    obtain ⟨_, y2', _, _⟩ := IntRow.facts (hk.row HB.out.row (fun h => h))
    have hkc : KC (fun _ _ => False) w1 wc := KC.of_keeps hk
    have HBs' := hid (HBs.out.keep hkc (fun _ _ _ h => h))
    clear hkc
    have HK := hid hk
    clear hk y2 x2 cA1 cA2
    obtain ⟨a1, ha1⟩ : ∃ a1, a1 = M / topK n s := ⟨_, rfl⟩
    rw [← ha1]
    have Ha1 := hid ha1
    clear ha1
    go_upto_block 0 with fail
    go_cut [10] from 59 to 100 (fun a wx => a = .int .u64 ((N / topK n s : Nat) : Int) ∧ Keeps (fun _ => False) w1 wx)
    case first =>
      by_cases hnm : n = m
      · subst hnm
        have t1 : ((n : Int) == (n : Int)) = true := by simp
        have cB1 := HBs'.out.cell (i := n1) (by rw [HlB.out]; omega)
        have cB2 := HBs'.out.cell (i := n2) (by rw [HlB.out]; omega)
        have hNn : N < W64 ^ n := by have := lt_words N; rwa [HlB.out] at this
        have htb := top_word hNn hm hs63
        have hle := top_le HNM.out HMn.out (n := n) (by omega)
        rw [← Hht.out] at hle
        have hl2 : (words N).getD (n - 1) 0 * 2 ^ s < W64 := Nat.lt_of_le_of_lt (Nat.mul_le_mul_right _ hle) HS2.out
        rw [show n1 = n - 1 by omega] at cB1
        rw [show n2 = n - 2 by omega] at cB2
        have hrb : (words N).getD (n - 2) 0 < W64 := (words_words N).getD _
        have htw : (words N).getD (n - 1) 0 < W64 := (words_words N).getD _
        generalize (words N).getD (n - 1) 0 = tb at *
        generalize (words N).getD (n - 2) 0 = rb at *
        rw [show n - 1 = n1 by omega] at cB1
        rw [show n - 2 = n2 by omega] at cB2
        have Htb := hid htb; have Hl2 := hid hl2; have Hrb := hid hrb; have Htw := hid htw
        clear htb hl2 hrb htw hle hNn
        by_cases hs0 : s = 0
        · subst hs0
          go_wp2_with fail
          go_quiet (fail)
          go_wp2_with fail
          go_meet
          case rel => exact ⟨by rw [Htb.out]; exact congrArg _ (top_bits0 Hrb.out Htw.out), HK.out.drewN nq⟩
        · go_wp2_with fail
          go_quiet (fail)
          go_wp2_with fail
          go_meet
          case rel => exact ⟨by rw [Htb.out]; exact congrArg _ (top_bits hs63 Hrb.out Hl2.out), HK.out.drewN nq⟩
      · have t1 : ((n : Int) == (m : Int)) = false := by simp; omega
        have hNm : N < W64 ^ m := by have := lt_words N; rwa [HlB.out] at this
        by_cases hnm1 : n = m + 1
        · have t2 : ((n : Int) == (m : Int) + 1) = true := by simp; omega
          have cB2 := HBs'.out.cell (i := n2) (by rw [HlB.out]; omega)
          have hNn : N < W64 ^ n := Nat.lt_of_lt_of_le hNm (Nat.pow_le_pow_right W64_pos (by omega))
          have htb := top_word hNn (by omega) hs63
          have hz0 : (words N).getD (n - 1) 0 = 0 := by rw [List.getD_eq_getElem?_getD, List.getElem?_eq_none (by rw [HlB.out]; omega)]; rfl
          rw [hz0, Nat.zero_mul, Nat.zero_add] at htb
          rw [show n2 = n - 2 by omega] at cB2
          have hrb : (words N).getD (n - 2) 0 < W64 := (words_words N).getD _
          generalize (words N).getD (n - 2) 0 = rb at *
          rw [show n - 2 = n2 by omega] at cB2
          have Htb := hid htb; have Hrb := hid hrb
          have hb2 : n2 < m := by omega
          clear htb hrb hNn hNm hnm1 hz0
          by_cases hs0 : s = 0
          · subst hs0
            go_wp2_with fail
            go_meet
            case rel => exact ⟨by rw [Htb.out]; rfl, HK.out⟩
          · go_wp2_with fail
            go_meet
            case rel => exact ⟨by rw [Htb.out, Int.natCast_ediv, Int.natCast_pow]; rfl, HK.out⟩
        · have t2 : ((n : Int) == (m : Int) + 1) = false := by simp; omega
          have hz : N / topK n s = 0 := top_zero hNm (by omega)
          have Hz := hid hz
          clear hz hNm hnm1
          go_wp2_with fail
          go_meet
          case rel => exact ⟨by rw [Hz.out]; rfl, HK.out⟩
    case rest =>
      obtain ⟨rfl, hk⟩ := hcut
      have HK2 := hid hk
      obtain ⟨b0, hb0⟩ : ∃ b0, b0 = N / topK n s := ⟨_, rfl⟩
      rw [← hb0]
      obtain ⟨α, hα, hα0, hα1⟩ := top_split M n s
      obtain ⟨β, hβ, hβ0, hβ1⟩ := top_split N n s
      rw [← Ha1.out] at hα
      rw [← hb0] at hβ
      have hKle : b0 ≤ a1 := by rw [hb0, Ha1.out]; exact Nat.div_le_div_right HNM.out
      have ha1l : a1 < W64 := by rw [Ha1.out]; exact Htl2.out
      have ha1p : 1 ≤ a1 := by
        rw [Ha1.out, Htop.out]
        exact Nat.le_trans (Nat.le_trans (by decide) HS1.out) (Nat.le_add_right _ _)
      have Hstep : Hid (∀ x y u0 u1 u2 v0 v1 v2 e, Sim a1 b0 (M : Int) (N : Int) x y u0 u1 u2 v0 v1 v2 e → v2 ≤ y → v1 + v2 ≤ x - y → Sim a1 b0 (M : Int) (N : Int) y (x % y) u1 u2 (u1 + x / y * u2) v1 v2 (v1 + x / y * v2) (!e)) := hid (fun x y u0 u1 u2 v0 v1 v2 e h h1 h2 => h.step h1 h2 hα hβ hα0 hα1 hβ0 hβ1)
      have Hst := hid (Sim.start (M : Int) (N : Int) hKle ha1p)
      have Ha1l := hid ha1l
      clear hk hb0 hα hα0 hα1 hβ hβ0 hβ1 hKle ha1l ha1p y2' e1 e2 hn1 hn2
      go_wp2_with fail
      go_loopw [4, 5, 6, 7, 8, 9, 10, 11, 12, 16, 17] (fun x4 x5 x6 x7 x8 x9 x10 x11 x12 _ _ wr => SimRel a1 b0 (M : Int) (N : Int) w1 x4 x5 x6 x7 x8 x9 x10 x11 x12 wr) (fun _ _ _ _ _ _ x10 _ _ _ _ _ => (intOf x10).toNat)
      case atStart => exact ⟨a1, b0, 0, 1, 0, 0, 0, 1, false, rfl, rfl, rfl, rfl, rfl, rfl, rfl, rfl, rfl, Hst.out, HK2.out⟩
      case round =>
        obtain ⟨x, y, u0, u1, u2, v0, v1, v2, e, rfl, rfl, rfl, rfl, rfl, rfl, rfl, rfl, rfl, hs, hkr⟩ := hrel
        have hyx : y ≤ x := hs.lh.le
        have hx1 : x < W64 := by
          have := hs.lh.d1
          have h2 : x * 1 ≤ x * v2 := Nat.mul_le_mul_left _ hs.lh.vpos
          have := Ha1l.out
          omega
        have hu0 := hs.u0l; have hwl := hs.wl
        have hal := Ha1l.out
        have HS := hid hs; have HKR := hid hkr
        by_cases c1 : v2 ≤ y
        · obtain ⟨b1, b2, b3⟩ := hs.lh.bounds c1
          have hv2 := hs.lh.vpos
          obtain ⟨d, hd⟩ : ∃ d, d = x - y := ⟨_, rfl⟩
          obtain ⟨sv2, hsv⟩ : ∃ sv2, sv2 = v1 + v2 := ⟨_, rfl⟩
          have g1 : IntKind.u64.wrap ((x : Int) - (y : Int)) = (d : Int) := by rw [show (x : Int) - (y : Int) = (d : Int) by omega]; exact u64_wrap _ (by omega)
          have g2 : IntKind.u64.wrap ((v1 : Int) + (v2 : Int)) = (sv2 : Int) := by rw [show (v1 : Int) + (v2 : Int) = (sv2 : Int) by omega]; exact u64_wrap _ (by omega)
          have t1 : decide (v2 ≤ y) = true := decide_eq_true c1
          by_cases c2 : v1 + v2 ≤ x - y
          · have t2 : decide (sv2 ≤ d) = true := decide_eq_true (by omega)
            have HN := hid (Hstep.out _ _ _ _ _ _ _ _ _ hs c1 c2)
            obtain ⟨q, hq⟩ : ∃ q, q = x / y := ⟨_, rfl⟩
            obtain ⟨r, hr'⟩ : ∃ r, r = x % y := ⟨_, rfl⟩
            rw [← hq] at b2 b3
            rw [← hq, ← hr'] at HN
            have hry : r < y := by rw [hr']; exact Nat.mod_lt _ (by omega)
            have hqx : q ≤ x := by rw [hq]; exact Nat.div_le_self _ _
            obtain ⟨qu, hqu⟩ : ∃ qu, qu = q * u2 := ⟨_, rfl⟩
            obtain ⟨qv, hqv⟩ : ∃ qv, qv = q * v2 := ⟨_, rfl⟩
            obtain ⟨nu, hnu⟩ : ∃ nu, nu = u1 + qu := ⟨_, rfl⟩
            obtain ⟨nv, hnv⟩ : ∃ nv, nv = v1 + qv := ⟨_, rfl⟩
            rw [← hqu] at b2
            rw [← hqv] at b3
            rw [← hqu, ← hqv, ← hnu, ← hnv] at HN
            have z0 : ((y : Int) == 0) = false := by simp; omega
            have e1 : (x : Int).tdiv (y : Int) = (q : Int) := by rw [hq]; exact (Int.ofNat_tdiv x y).symm
            have e2 : (x : Int).tmod (y : Int) = (r : Int) := by rw [hr']; exact (Int.ofNat_tmod x y).symm
            have e3 : (x : Int) / (y : Int) = (q : Int) := by rw [hq]; rfl
            have e4 : (x : Int) % (y : Int) = (r : Int) := by rw [hr']; rfl
            have g3 : IntKind.u64.wrap (q : Int) = (q : Int) := u64_wrap _ (by omega)
            have g4 : IntKind.u64.wrap (r : Int) = (r : Int) := u64_wrap _ (by omega)
            have g5 : IntKind.u64.wrap ((q : Int) * (u2 : Int)) = (qu : Int) := by rw [← Int.natCast_mul, ← hqu]; exact u64_wrap _ (by omega)
            have g6 : IntKind.u64.wrap ((q : Int) * (v2 : Int)) = (qv : Int) := by rw [← Int.natCast_mul, ← hqv]; exact u64_wrap _ (by omega)
            have g7 : IntKind.u64.wrap ((u1 : Int) + (qu : Int)) = (nu : Int) := by rw [← Int.natCast_add, ← hnu]; exact u64_wrap _ (by omega)
            have g8 : IntKind.u64.wrap ((v1 : Int) + (qv : Int)) = (nv : Int) := by rw [← Int.natCast_add, ← hnv]; exact u64_wrap _ (by omega)
            clear hs hkr hd hsv hq hr' hqu hqv hnu hnv b1 b2 b3 hu0 hwl hal hx1 c2 hqx
            go_wp2_with fail
            go_quiet (fail)
            go_wp2_with fail
            refine ⟨⟨y, r, u1, u2, nu, v1, v2, nv, !e, rfl, rfl, rfl, rfl, rfl, rfl, rfl, rfl, rfl, HN.out, HKR.out.drewN nq⟩, by simp [intOf]; omega⟩
          · have t2 : decide (sv2 ≤ d) = false := decide_eq_false (by omega)
            have b5 : u0 < W64 ∧ u1 < W64 ∧ v0 < W64 ∧ v1 < W64 := by omega
            have B5 := hid b5
            clear hs hkr hd hsv b1 b2 b3 hu0 hwl hal hx1 c2 b5
            go_wp2_with fail
            refine bodyPost_ret (v := .tuple #[.int .u64 (u0 : Int), .int .u64 (u1 : Int), .int .u64 (v0 : Int), .int .u64 (v1 : Int), .bool e]) (by simp [results, Tryz.results242, go_sem]) rfl ?_
            exact ⟨u0, u1, v0, v1, e, rfl, B5.out.1, B5.out.2.1, B5.out.2.2.1, B5.out.2.2.2, HS.out.out, HKR.out⟩
        · have t1 : decide (v2 ≤ y) = false := decide_eq_false c1
          have b5 : u0 < W64 ∧ u1 < W64 ∧ v0 < W64 ∧ v1 < W64 := by omega
          have B5 := hid b5
          clear hs hkr hu0 hwl hal hx1 b5
          go_wp2_with fail
          refine bodyPost_ret (v := .tuple #[.int .u64 (u0 : Int), .int .u64 (u1 : Int), .int .u64 (v0 : Int), .int .u64 (v1 : Int), .bool e]) (by simp [results, Tryz.results242, go_sem]) rfl ?_
          exact ⟨u0, u1, v0, v1, e, rfl, B5.out.1, B5.out.2.1, B5.out.2.2.1, B5.out.2.2.2, HS.out.out, HKR.out⟩
end Go.Proofs
namespace Go.Proofs
open Go.RowKit
set_option maxHeartbeats 1000000
set_option linter.unusedVariables false
set_option linter.unusedSimpArgs false
set_option maxRecDepth 100000

theorem EnvG.glob {S : Nat → Prop} {w0 w : World} {V : Nat → Option (TypeId × SV)} (h : EnvG S w0 w V) (G0 : Glob w0) (hSG : ∀ k, GB k → ¬ S k) : Glob w := G0.keep h.keeps hSG

/-- Six addresses, no two of them alike. -/
structure Ap6 (a b c d e f : Nat) : Prop where
  h : a ≠ b ∧ a ≠ c ∧ a ≠ d ∧ a ≠ e ∧ a ≠ f ∧ b ≠ c ∧ b ≠ d ∧ b ≠ e ∧ b ≠ f ∧ c ≠ d ∧ c ≠ e ∧ c ≠ f ∧ d ≠ e ∧ d ≠ f ∧ e ≠ f
theorem Ap6.turn {a b c d e f : Nat} (h : Ap6 a b c d e f) : Ap6 b f d c e a := by
  obtain ⟨h1, h2, h3, h4, h5, h6, h7, h8, h9, h10, h11, h12, h13, h14, h15⟩ := h
  exact ⟨h9, h7, h6, h8, Ne.symm h1, Ne.symm h14, Ne.symm h12, Ne.symm h15, Ne.symm h5, Ne.symm h10, h13, Ne.symm h3, h11, Ne.symm h2, Ne.symm h4⟩
theorem Ap6.swap {a b c d e f : Nat} (h : Ap6 a b c d e f) : Ap6 b a d c e f := by
  obtain ⟨h1, h2, h3, h4, h5, h6, h7, h8, h9, h10, h11, h12, h13, h14, h15⟩ := h
  exact ⟨Ne.symm h1, h7, h6, h8, h9, h3, h2, h4, h5, Ne.symm h10, h13, h14, h11, h12, h15⟩

/-- The six numbers that lehmerGCD works upon. -/
def Six (S : Nat → Prop) (w0 : World) (h0 : Nat) (V0 : Nat → Option (TypeId × SV)) (pA pB pU pX pq pr : Nat) (A B U X : Int) (wr : World) : Prop :=
  ∃ V q r, EnvG S w0 wr V ∧ V pA = some (103, sv A) ∧ V pB = some (103, sv B) ∧ V pU = some (103, sv U) ∧ V pX = some (103, sv X) ∧ V pq = some (103, q) ∧ V pr = some (103, r) ∧ ∀ k, k < h0 → V k = V0 k

theorem Six.upd1 {S : Nat → Prop} {w0 : World} {h0 : Nat} {V0 : Nat → Option (TypeId × SV)} {pA pB pU pX pq pr : Nat} {A B U X : Int} {w : World} (h : Six S w0 h0 V0 pA pB pU pX pq pr A B U X w) (d : Ap6 pA pB pU pX pq pr)
    (gA : h0 ≤ pA) (gB : h0 ≤ pB) (gq : h0 ≤ pq) (gr : h0 ≤ pr) (u0 u1 v0 v1 : Nat) (e : Bool) (hu0 : u0 < W64) (hu1 : u1 < W64) (hv0 : v0 < W64) (hv1 : v1 < W64) (hAl : A.natAbs < W64 ^ 20) (hBl : B.natAbs < W64 ^ 20) :
    Calls Tryz.prog 243 #[.pointer (some ⟨pA, 0, none⟩), .pointer (some ⟨pB, 0, none⟩), .pointer (some ⟨pq, 0, none⟩), .pointer (some ⟨pr, 0, none⟩), .int .u64 (u0 : Int), .int .u64 (u1 : Int), .int .u64 (v0 : Int), .int .u64 (v1 : Int), .bool e] w fun ev w' =>
      ev = .returned (.tuple #[]) ∧ Six S w0 h0 V0 pA pB pU pX pq pr (rowv (!e) u0 v0 A B) (rowv e u1 v1 A B) U X w' := by
  obtain ⟨V, q, r, hE, cA, cB, cU, cX, cq, cr, hV⟩ := h
  obtain ⟨h1, h2, h3, h4, h5, h6, h7, h8, h9, h10, h11, h12, h13, h14, h15⟩ := d
  refine (hE.lehmerUpdate cA cB cq cr h1 h4 h5 h8 h9 h15 u0 u1 v0 v1 e hu0 hu1 hv0 hv1 hAl hBl).mono ?_
  rintro ev w' ⟨rfl, V', hE', kA, kB, ⟨q', kq⟩, ⟨r', kr⟩, hk⟩
  exact ⟨rfl, V', q', r', hE', kA, kB, by rw [hk _ (Ne.symm h2) (Ne.symm h6) h11 h12]; exact cU, by rw [hk _ (Ne.symm h3) (Ne.symm h7) h13 h14]; exact cX, kq, kr, fun k hk' => by rw [hk k (by omega) (by omega) (by omega) (by omega)]; exact hV k hk'⟩
theorem Six.upd2 {S : Nat → Prop} {w0 : World} {h0 : Nat} {V0 : Nat → Option (TypeId × SV)} {pA pB pU pX pq pr : Nat} {A B U X : Int} {w : World} (h : Six S w0 h0 V0 pA pB pU pX pq pr A B U X w) (d : Ap6 pA pB pU pX pq pr)
    (gU : h0 ≤ pU) (gX : h0 ≤ pX) (gq : h0 ≤ pq) (gr : h0 ≤ pr) (u0 u1 v0 v1 : Nat) (e : Bool) (hu0 : u0 < W64) (hu1 : u1 < W64) (hv0 : v0 < W64) (hv1 : v1 < W64) (hUl : U.natAbs < W64 ^ 20) (hXl : X.natAbs < W64 ^ 20) :
    Calls Tryz.prog 243 #[.pointer (some ⟨pU, 0, none⟩), .pointer (some ⟨pX, 0, none⟩), .pointer (some ⟨pq, 0, none⟩), .pointer (some ⟨pr, 0, none⟩), .int .u64 (u0 : Int), .int .u64 (u1 : Int), .int .u64 (v0 : Int), .int .u64 (v1 : Int), .bool e] w fun ev w' =>
      ev = .returned (.tuple #[]) ∧ Six S w0 h0 V0 pA pB pU pX pq pr A B (rowv (!e) u0 v0 U X) (rowv e u1 v1 U X) w' := by
  obtain ⟨V, q, r, hE, cA, cB, cU, cX, cq, cr, hV⟩ := h
  obtain ⟨h1, h2, h3, h4, h5, h6, h7, h8, h9, h10, h11, h12, h13, h14, h15⟩ := d
  refine (hE.lehmerUpdate cU cX cq cr h10 h11 h12 h13 h14 h15 u0 u1 v0 v1 e hu0 hu1 hv0 hv1 hUl hXl).mono ?_
  rintro ev w' ⟨rfl, V', hE', kU, kX, ⟨q', kq⟩, ⟨r', kr⟩, hk⟩
  exact ⟨rfl, V', q', r', hE', by rw [hk _ h2 h3 h4 h5]; exact cA, by rw [hk _ h6 h7 h8 h9]; exact cB, kU, kX, kq, kr, fun k hk' => by rw [hk k (by omega) (by omega) (by omega) (by omega)]; exact hV k hk'⟩
theorem Six.sim {S : Nat → Prop} {w0 : World} {h0 : Nat} {V0 : Nat → Option (TypeId × SV)} {pA pB pU pX pq pr : Nat} {A B U X : Int} {w : World} (h : Six S w0 h0 V0 pA pB pU pX pq pr A B U X w) (hB2 : W64 ≤ B) (hBA : B ≤ A) (hAl : A.natAbs < W64 ^ 20) :
    Calls Tryz.prog 242 #[.pointer (some ⟨pA, 0, none⟩), .pointer (some ⟨pB, 0, none⟩)] w (SimRes A B w) := by
  obtain ⟨V, q, r, hE, cA, cB, cU, cX, cq, cr, hV⟩ := h
  obtain ⟨aA, n, cA', iA⟩ := hE.get cA
  obtain ⟨aB, m, cB', iB⟩ := hE.get cB
  have hm : 2 ≤ m := by
    have := iB.s.rd.length
    have h2 := lt_words B.natAbs
    rw [this] at h2
    refine Nat.le_of_not_lt fun hlt => ?_
    have h3 : W64 ^ m ≤ W64 ^ 1 := Nat.pow_le_pow_right (by unfold W64; omega) (by omega)
    rw [Nat.pow_one] at h3
    omega
  exact lehmerSimulate242 pA pB 103 103 A B aA aB n cA' m cB' w iA.s iB.s hm (by unfold W64 at hB2; omega) hBA (Nat.le_trans (iA.len hAl) (by omega))

theorem EnvG.euclid {S : Nat → Prop} {w0 w : World} {V : Nat → Option (TypeId × SV)} (h : EnvG S w0 w V) {pA pB pU pX pq pr : Nat} {tA tB tU tX tq tr : TypeId} {A B U X : Int} {q r : SV} (hA : V pA = some (tA, sv A)) (hB : V pB = some (tB, sv B)) (hU : V pU = some (tU, sv U)) (hX : V pX = some (tX, sv X)) (hq : V pq = some (tq, q)) (hr : V pr = some (tr, r))
    (d : Ap6 pA pB pU pX pq pr) (G0 : Glob w0) (hSG : ∀ k, GB k → ¬ S k) (hB0 : B ≠ 0) (hAl : A.natAbs < W64 ^ 11) (hBl : B.natAbs < W64 ^ 11) (hUl : U.natAbs < W64 ^ 11) (hXl : X.natAbs < W64 ^ 11) :
    Calls Tryz.prog 244 #[.pointer (some ⟨pA, 0, none⟩), .pointer (some ⟨pB, 0, none⟩), .pointer (some ⟨pU, 0, none⟩), .pointer (some ⟨pX, 0, none⟩), .pointer (some ⟨pq, 0, none⟩), .pointer (some ⟨pr, 0, none⟩), .bool true] w fun ev w' =>
      ev = .returned (.tuple #[.pointer (some ⟨pB, 0, none⟩), .pointer (some ⟨pr, 0, none⟩), .pointer (some ⟨pA, 0, none⟩), .pointer (some ⟨pX, 0, none⟩), .pointer (some ⟨pU, 0, none⟩)]) ∧
      ∃ V', EnvG S w0 w' V' ∧ V' pU = some (tU, sv (U - A.tdiv B * X)) ∧ V' pr = some (tr, sv (A.tmod B)) ∧ (∃ q', V' pq = some (tq, q')) ∧ ∀ k, k ≠ pU → k ≠ pr → k ≠ pq → V' k = V k := by
  obtain ⟨h1, h2, h3, h4, h5, h6, h7, h8, h9, h10, h11, h12, h13, h14, h15⟩ := d
  have hw40 : W64 ^ 11 ≤ W64 ^ 39 := Nat.pow_le_pow_right (by unfold W64; omega) (by omega)
  have hw41 : W64 ^ 11 ≤ W64 ^ 40 := Nat.pow_le_pow_right (by unfold W64; omega) (by omega)
  have C1 := hid (h.quoRem164 hq hA hB hr (Ne.symm h4) (Ne.symm h8) h15 (Ne.symm h5) (Ne.symm h9) (h.glob G0 hSG) hB0 (Nat.lt_of_lt_of_le hAl hw41) (Nat.lt_of_lt_of_le hBl hw40))
  obtain ⟨V1, hV1⟩ : ∃ V1, V1 = updG (updG V pq tq (sv (A.tdiv B))) pr tr (sv (A.tmod B)) := ⟨_, rfl⟩
  have a1 : ∀ k, k ≠ pq → k ≠ pr → V1 k = V k := fun k k1 k2 => by rw [hV1, updG_ne _ _ _ k2, updG_ne _ _ _ k1]
  have b1 : V1 pq = some (tq, sv (A.tdiv B)) := by rw [hV1, updG_ne _ _ _ h15, updG_eq]
  have c1 : V1 pr = some (tr, sv (A.tmod B)) := by rw [hV1, updG_eq]
  rw [← hV1] at C1
  have hql : (A.tdiv B).natAbs < W64 ^ 11 := by
    rw [Int.natAbs_tdiv]
    exact Nat.lt_of_le_of_lt (Nat.div_le_self _ _) hAl
  obtain ⟨V2, hV2⟩ : ∃ V2, V2 = updG V1 pq tq (sv (A.tdiv B * X)) := ⟨_, rfl⟩
  have a2 : ∀ k, k ≠ pq → V2 k = V1 k := fun k k1 => by rw [hV2, updG_ne _ _ _ k1]
  have b2 : V2 pq = some (tq, sv (A.tdiv B * X)) := by rw [hV2, updG_eq]
  have C2 : Hid (∀ w1, EnvG S w0 w1 V1 → Calls Tryz.prog 147 #[.pointer (some ⟨pq, 0, none⟩), .pointer (some ⟨pq, 0, none⟩), .pointer (some ⟨pX, 0, none⟩)] w1 fun ev w' => ev = .returned (.pointer (some ⟨pq, 0, none⟩)) ∧ EnvG S w0 w' V2) :=
    hid (fun w1 k1 => by rw [hV2]; exact k1.mul147 b1 b1 (by rw [a1 _ h13 h14]; exact hX) (k1.glob G0 hSG) hql hXl)
  obtain ⟨V3, hV3⟩ : ∃ V3, V3 = updG V2 pU tU (sv (U - A.tdiv B * X)) := ⟨_, rfl⟩
  have a3 : ∀ k, k ≠ pU → V3 k = V2 k := fun k k1 => by rw [hV3, updG_ne _ _ _ k1]
  have b3 : V3 pU = some (tU, sv (U - A.tdiv B * X)) := by rw [hV3, updG_eq]
  have hpl : (sv (A.tdiv B * X)).2 < W64 ^ 40 := by
    show (A.tdiv B * X).natAbs < W64 ^ 40
    rw [Int.natAbs_mul]
    have k1 : (A.tdiv B).natAbs * X.natAbs ≤ W64 ^ 11 * W64 ^ 11 := Nat.mul_le_mul (Nat.le_of_lt hql) (Nat.le_of_lt hXl)
    have k2 : W64 ^ 11 * W64 ^ 11 < W64 ^ 40 := by rw [← Nat.pow_add]; exact Nat.pow_lt_pow_right (by unfold W64; omega) (by omega)
    omega
  have hUl' : (sv U).2 < W64 ^ 40 := Nat.lt_of_lt_of_le hUl hw41
  have C3 : Hid (∀ w1, EnvG S w0 w1 V2 → Calls Tryz.prog 146 #[.pointer (some ⟨pU, 0, none⟩), .pointer (some ⟨pU, 0, none⟩), .pointer (some ⟨pq, 0, none⟩)] w1 fun ev w' => ev = .returned (.pointer (some ⟨pU, 0, none⟩)) ∧ EnvG S w0 w' V3) :=
    hid (fun w1 k1 => by
      have hu : V2 pU = some (tU, sv U) := by rw [a2 _ h11, a1 _ h11 h12]; exact hU
      have := k1.sub146 hu hu b2 hUl' hpl
      rw [sgnv_sv, sgnv_sv] at this
      rw [hV3]; exact this)
  have Fin : Hid (∀ w', EnvG S w0 w' V3 → ∃ V', EnvG S w0 w' V' ∧ V' pU = some (tU, sv (U - A.tdiv B * X)) ∧ V' pr = some (tr, sv (A.tmod B)) ∧ (∃ q', V' pq = some (tq, q')) ∧ ∀ k, k ≠ pU → k ≠ pr → k ≠ pq → V' k = V k) := hid (fun w' k =>
    ⟨V3, k, b3, by rw [a3 _ (Ne.symm h12), a2 _ (Ne.symm h15)]; exact c1, ⟨_, by rw [a3 _ (Ne.symm h11)]; exact b2⟩, fun k k1 k2 k3 => by rw [a3 _ k1, a2 _ k3, a1 _ k3 k2]⟩)
  clear h hA hB hU hX hq hr h1 h2 h3 h4 h5 h6 h7 h8 h9 h10 h11 h12 h13 h14 h15 G0 hSG hB0 hAl hBl hUl hXl hw40 hw41 hV1 hV2 hV3 a1 b1 c1 a2 b2 a3 b3 hql hpl hUl'
  go_enter Tryz.func244, Tryz.ntmps244
  go_wp2_with fail
  refine C1.out.mono ?_
  rintro ev w1 ⟨rfl, k1⟩
  have H1 := hid k1
  clear k1
  go_wp2_with fail
  refine (C2.out _ H1.out).mono ?_
  rintro ev w2 ⟨rfl, k1⟩
  have H2 := hid k1
  clear k1
  go_wp2_with fail
  refine (C3.out _ H2.out).mono ?_
  rintro ev w3 ⟨rfl, k1⟩
  have H3 := hid k1
  clear k1
  go_wp2_with fail
  refine bodyPost_ret (v := .tuple #[.pointer (some ⟨pB, 0, none⟩), .pointer (some ⟨pr, 0, none⟩), .pointer (some ⟨pA, 0, none⟩), .pointer (some ⟨pX, 0, none⟩), .pointer (some ⟨pU, 0, none⟩)]) (by simp [results, Tryz.results244, go_sem]) rfl ?_
  exact ⟨rfl, Fin.out _ H3.out⟩

theorem Six.euclid {S : Nat → Prop} {w0 : World} {h0 : Nat} {V0 : Nat → Option (TypeId × SV)} {pA pB pU pX pq pr : Nat} {A B U X : Int} {w : World} (h : Six S w0 h0 V0 pA pB pU pX pq pr A B U X w) (d : Ap6 pA pB pU pX pq pr)
    (gU : h0 ≤ pU) (gq : h0 ≤ pq) (gr : h0 ≤ pr) (G0 : Glob w0) (hSG : ∀ k, GB k → ¬ S k) (hA0 : 0 ≤ A) (hB0 : 0 < B) (hAl : A.natAbs < W64 ^ 11) (hBl : B.natAbs < W64 ^ 11) (hUl : U.natAbs < W64 ^ 11) (hXl : X.natAbs < W64 ^ 11) :
    Calls Tryz.prog 244 #[.pointer (some ⟨pA, 0, none⟩), .pointer (some ⟨pB, 0, none⟩), .pointer (some ⟨pU, 0, none⟩), .pointer (some ⟨pX, 0, none⟩), .pointer (some ⟨pq, 0, none⟩), .pointer (some ⟨pr, 0, none⟩), .bool true] w fun ev w' =>
      ev = .returned (.tuple #[.pointer (some ⟨pB, 0, none⟩), .pointer (some ⟨pr, 0, none⟩), .pointer (some ⟨pA, 0, none⟩), .pointer (some ⟨pX, 0, none⟩), .pointer (some ⟨pU, 0, none⟩)]) ∧
      Six S w0 h0 V0 pB pr pX pU pq pA B (A % B) X (U - A / B * X) w' := by
  obtain ⟨V, q, r, hE, cA, cB, cU, cX, cq, cr, hV⟩ := h
  have d' := d
  obtain ⟨h1, h2, h3, h4, h5, h6, h7, h8, h9, h10, h11, h12, h13, h14, h15⟩ := d'
  refine (hE.euclid cA cB cU cX cq cr d G0 hSG (by omega) hAl hBl hUl hXl).mono ?_
  rintro ev w' ⟨rfl, V', hE', kU, kr, ⟨q', kq⟩, hk⟩
  rw [Int.tdiv_eq_ediv_of_nonneg hA0] at kU
  rw [Int.tmod_eq_emod_of_nonneg hA0] at kr
  exact ⟨rfl, V', q', sv A, hE', by rw [hk _ h6 h9 h8]; exact cB, kr, by rw [hk _ (Ne.symm h10) h14 h13]; exact cX, kU, kq, by rw [hk _ h2 h5 h4]; exact cA, fun k hk' => by rw [hk k (by omega) (by omega) (by omega)]; exact hV k hk'⟩
end Go.Proofs
