/- Parts of the proofs over the numbers of any length: QR, QR2, QR4, QR5, Panic. -/
import Derived.BigRegion
import Derived.Test.YtacbllkmcldniaaGreatDoorRangeD
import Derived.Test.YtacbllkmcldniaaGreatDoorIntA
import Derived.Test.YtacbllkmcldniaaGreatDoorRangeB
import Derived.Test.YtacbllkmcldniaaGreatDoorExpA
import Derived.Test.YtacbllkmcldniaaGreatDoorBaseD
import Derived.Test.YtacbllkmcldniaaGreatDoorDivD
set_option linter.unusedSimpArgs false
set_option linter.unusedVariables false
namespace Go.Proofs
open Go.RowKit
set_option maxHeartbeats 1000000
set_option linter.unusedVariables false
set_option linter.unusedSimpArgs false
set_option maxRecDepth 100000

theorem rem_sign (x y : Int) : decide (x.tmod y < 0) = (decide (x.natAbs % y.natAbs ≠ 0) && decide (x < 0)) := by
  have h : (x.tmod y).natAbs = x.natAbs % y.natAbs := Int.natAbs_tmod x y
  by_cases h0 : x.natAbs % y.natAbs = 0
  · have h1 : x.tmod y = 0 := Int.natAbs_eq_zero.mp (by rw [h]; exact h0)
    rw [h1]; simp [h0]
  · by_cases hx : x < 0
    · have h2 : 0 ≤ (-x).tmod y := Int.tmod_nonneg y (by omega)
      rw [Int.neg_tmod] at h2
      rw [decide_eq_true (show x.tmod y < 0 by omega)]; simp [h0, hx]
    · have h2 : 0 ≤ x.tmod y := Int.tmod_nonneg y (by omega)
      rw [decide_eq_false (show ¬ x.tmod y < 0 by omega)]; simp [hx]

/-- Two numbers have turned. -/
theorem Env.res2 {S : Nat → Prop} {w0 w w' : World} {V : Nat → Option (TypeId × Int)} {p q : Nat} {tp tq : TypeId} {zp zq r s : Int} {f : Nat → Option Addr × Nat × Nat} {qa ra : Option Addr} {ql qc rl rc : Nat} (hk0 : Keeps S w0 w) (ho : ∀ k, S k → k < w0.heap.size)
    (h1 : ∀ p t z, V p = some (t, z) → w0.heap.size ≤ p ∧ IntS w p t z (f p).1 (f p).2.1 (f p).2.2 ∧ (∀ k, InB (f p).1 k → w0.heap.size ≤ k))
    (h2 : ∀ p q, (V p).isSome → (V q).isSome → p ≠ q → ∀ k, InB (f p).1 k → ¬ InB (f q).1 k)
    (hp : V p = some (tp, zp)) (hq : V q = some (tq, zq)) (hpq : p ≠ q) (ip : IntS w' p tp r qa ql qc) (iq : IntS w' q tq s ra rl rc) (np : Into w (f p).1 (f p).2.2 qa qc) (nq : Into w (f q).1 (f q).2.2 ra rc) (hd : ∀ k, InB qa k → ¬ InB ra k)
    (hk : Keeps (fun k => k = p ∨ InB (f p).1 k ∨ k = q ∨ InB (f q).1 k) w w') : Env S w0 w' (upd (upd V p tp r) q tq s) := by
  obtain ⟨p1, p2, p3⟩ := h1 p tp zp hp
  obtain ⟨q1, q2, q3⟩ := h1 q tq zq hq
  have hsz := hk0.size
  have hps : (V p).isSome := by rw [hp]; rfl
  have hqs : (V q).isSome := by rw [hq]; rfl
  have hkeep : Keeps S w0 w' := hk0.trans' hk (fun i hi h => by
    rcases h with rfl | h | rfl | h
    · omega
    · have := p3 i h; omega
    · omega
    · have := q3 i h; omega)
  have hV : ∀ x t z, upd (upd V p tp r) q tq s x = some (t, z) → (V x).isSome := by
    intro x t z hx
    by_cases e1 : x = q
    · subst e1; exact hqs
    · rw [upd_ne _ _ _ e1] at hx
      by_cases e2 : x = p
      · subst e2; exact hps
      · rw [upd_ne _ _ _ e2] at hx; rw [hx]; rfl
  -- each array is what it was, or new
  obtain ⟨f', hf'⟩ : ∃ f' : Nat → Option Addr × Nat × Nat, f' = fun x => if x = q then (ra, rl, rc) else if x = p then (qa, ql, qc) else f x := ⟨_, rfl⟩
  have fq : f' q = (ra, rl, rc) := by rw [hf']; simp
  have fp : f' p = (qa, ql, qc) := by rw [hf']; simp [hpq]
  have fx : ∀ x, x ≠ q → x ≠ p → f' x = f x := fun x e1 e2 => by rw [hf']; simp [e1, e2]
  have org : ∀ x, (V x).isSome → ∀ k, InB (f' x).1 k → InB (f x).1 k ∨ (w.heap.size ≤ k ∧ (x = p ∨ x = q)) := by
    intro x hx k hkk
    by_cases e1 : x = q
    · subst e1
      rw [fq] at hkk
      exact (nq.inB hkk).elim .inl (fun h => .inr ⟨h, .inr rfl⟩)
    · by_cases e2 : x = p
      · subst e2
        rw [fp] at hkk
        exact (np.inB hkk).elim .inl (fun h => .inr ⟨h, .inl rfl⟩)
      · rw [fx x e1 e2] at hkk
        exact .inl hkk
  have old : ∀ x, (V x).isSome → ∀ k, InB (f x).1 k → k < w.heap.size := by
    intro x hx k hk
    obtain ⟨⟨t, z⟩, hx⟩ := Option.isSome_iff_exists.mp hx
    exact (h1 x t z hx).2.1.rd.lt hk
  refine ⟨hkeep, ho, f', fun x t z hx => ?_, fun x y hx hy hne k hkx hky => ?_⟩
  · have hxs := hV x t z hx
    have h3 : ∀ k, InB (f' x).1 k → w0.heap.size ≤ k := by
      intro k hk
      obtain ⟨⟨t', z'⟩, hx'⟩ := Option.isSome_iff_exists.mp hxs
      rcases org x hxs k hk with h | ⟨h, _⟩
      · exact (h1 x t' z' hx').2.2 k h
      · omega
    by_cases e1 : x = q
    · subst e1
      rw [upd_eq] at hx
      cases hx
      refine ⟨q1, ?_, h3⟩
      rw [fq]; exact iq
    · by_cases e2 : x = p
      · subst e2
        rw [upd_ne _ _ _ e1, upd_eq] at hx
        cases hx
        refine ⟨p1, ?_, h3⟩
        rw [fp]; exact ip
      · rw [upd_ne _ _ _ e1, upd_ne _ _ _ e2] at hx
        obtain ⟨x1, x2, x3⟩ := h1 x t z hx
        refine ⟨x1, ?_, h3⟩
        rw [fx x e1 e2]
        refine x2.keep hk ?_ ?_
        · rintro (h | h | h | h)
          · exact e2 h
          · exact p2.rd.not_row x2.row h
          · exact e1 h
          · exact q2.rd.not_row x2.row h
        · rintro k hb (h | h | h | h)
          · subst h; exact x2.rd.not_row p2.row hb
          · exact h2 p x hps hxs (Ne.symm e2) k h hb
          · subst h; exact x2.rd.not_row q2.row hb
          · exact h2 q x hqs hxs (Ne.symm e1) k h hb
  · have hxs : (V x).isSome := by obtain ⟨⟨t, z⟩, hx'⟩ := Option.isSome_iff_exists.mp hx; exact hV x t z hx'
    have hys : (V y).isSome := by obtain ⟨⟨t, z⟩, hy'⟩ := Option.isSome_iff_exists.mp hy; exact hV y t z hy'
    rcases org x hxs k hkx with a1 | ⟨a1, a2⟩
    · rcases org y hys k hky with b1 | ⟨b1, _⟩
      · exact h2 x y hxs hys hne k a1 b1
      · have := old x hxs k a1; omega
    · rcases org y hys k hky with b1 | ⟨b1, b2⟩
      · have := old y hys k b1; omega
      · rcases a2 with rfl | rfl <;> rcases b2 with rfl | rfl
        · exact hne rfl
        · rw [fp] at hkx; rw [fq] at hky; exact hd k hkx hky
        · rw [fq] at hkx; rw [fp] at hky; exact hd k hky hkx
        · exact hne rfl
end Go.Proofs
namespace Go.Proofs
open Go.RowKit
set_option maxHeartbeats 16000000
set_option linter.unusedVariables false
set_option linter.unusedSimpArgs false
set_option maxRecDepth 100000

/-- Quotient and rest of numbers that lie apart. -/
def QRes (w : World) (pz pr tz tr : Nat) (az : Option Addr) (cz : Nat) (ar : Option Addr) (cr : Nat) (q r : Int) (e : Ending) (w' : World) : Prop :=
  e = .returned (.tuple #[.pointer (some ⟨pz, 0, none⟩), .pointer (some ⟨pr, 0, none⟩)]) ∧ ∃ qa ql qc ra rl rc, IntS w' pz tz q qa ql qc ∧ IntS w' pr tr r ra rl rc ∧ Into w az cz qa qc ∧ Into w ar cr ra rc ∧ (∀ k, InB qa k → ¬ InB ra k) ∧ Keeps (fun k => k = pz ∨ InB az k ∨ k = pr ∨ InB ar k) w w'

theorem quoRem164_new (pz px py pr tz tx ty tr : Nat) (z x y r : Int) (az ax ay ar : Option Addr) (lz cz lx cx ly cy lr cr : Nat) (w : World)
    (hz : IntS w pz tz z az lz cz) (hx : IntS w px tx x ax lx cx) (hy : IntS w py ty y ay ly cy) (hr : IntS w pr tr r ar lr cr) (d1 : pz ≠ px) (d2 : pz ≠ py) (d3 : pz ≠ pr) (d4 : pr ≠ px) (d5 : pr ≠ py)
    (hzr : ∀ k, InB az k → ¬ InB ar k) (hzx : ∀ k, InB az k → ¬ InB ax k) (hrx : ∀ k, InB ar k → ¬ InB ax k) (hy0 : y ≠ 0) (hly : ly < 40) (hlx : lx ≤ 100000) (G : Glob w) :
    Calls Tryz.prog 164 #[.pointer (some ⟨pz, 0, none⟩), .pointer (some ⟨px, 0, none⟩), .pointer (some ⟨py, 0, none⟩), .pointer (some ⟨pr, 0, none⟩)] w (QRes w pz pr tz tr az cz ar cr (x.tdiv y) (x.tmod y)) := by
  have Hz := hid hz; have Hx := hid hx; have Hy := hid hy; have Hr := hid hr
  obtain ⟨z1, z2, z3, z4⟩ := hz.row.facts
  obtain ⟨x1, x2, _, _⟩ := hx.row.facts
  obtain ⟨y1, y2, _, _⟩ := hy.row.facts
  obtain ⟨r1, r2, r3, r4⟩ := hr.row.facts
  have Hcall := hid (div199_nil az lz cz _ ar lr cr _ ax lx cx x.natAbs ay ly cy y.natAbs w.drew hz.rd.drew hr.rd.drew hx.rd.drew hy.rd.drew (by omega) hly hlx hzr (Al.of_ne hzx) (Al.of_ne hrx) (G.drewN 1))
  have Hzr := hid hzr
  have d6 := Ne.symm d3
  clear hz hx hy hr hzr hzx hrx
  go_enter Tryz.func164, Tryz.ntmps164
  have Fin1 : Hid (∀ (w1 : World) (qa : Option Addr) (ql qc : Nat) (ra : Option Addr) (rl rc : Nat), Rd w1 qa ql qc (words (x.natAbs / y.natAbs)) → Into w.drew az cz qa qc → Rd w1 ra rl rc (words (x.natAbs % y.natAbs)) → Into w.drew ar cr ra rc → (∀ k, InB qa k → ¬ InB ra k) → Keeps (fun k => InB az k ∨ InB ar k) w w1 →
      ∀ wx, wx = ((w1.setCell ⟨pz, 1, none⟩ (.slice qa ql qc)).setCell ⟨pr, 1, none⟩ (.slice ra rl rc)) → ∃ qa ql qc ra rl rc, IntRow wx pz tz (decide (z < 0)) qa ql qc ∧ IntRow wx pr tr (decide (r < 0)) ra rl rc ∧ Rd wx qa ql qc (words (x.natAbs / y.natAbs)) ∧ Rd wx ra rl rc (words (x.natAbs % y.natAbs)) ∧ Into w az cz qa qc ∧ Into w ar cr ra rc ∧ (∀ k, InB qa k → ¬ InB ra k) ∧ Keeps (fun k => k = pz ∨ InB az k ∨ k = pr ∨ InB ar k) w wx) := hid (by
    rintro w1 qa ql qc ra rl rc h1 h2 h3 h4 h5 h6 wx rfl
    have k1 : IntRow w1 pz tz (decide (z < 0)) az lz cz := h6.row Hz.out.row (fun h => h.elim (Hz.out.rd.not_row Hz.out.row) (Hr.out.rd.not_row Hz.out.row))
    have k2 : IntRow w1 pr tr (decide (r < 0)) ar lr cr := h6.row Hr.out.row (fun h => h.elim (Hz.out.rd.not_row Hr.out.row) (Hr.out.rd.not_row Hr.out.row))
    have k3 := h1.set_row k1 1 (.slice qa ql qc)
    have k4 := h3.set_row k1 1 (.slice qa ql qc)
    have k5 : IntRow (w1.setCell ⟨pz, 1, none⟩ (.slice qa ql qc)) pr tr (decide (r < 0)) ar lr cr := RowAt.other k2 (p := ⟨pz, 1, none⟩) d3 (.slice qa ql qc)
    have k6 : IntRow (w1.setCell ⟨pz, 1, none⟩ (.slice qa ql qc)) pz tz (decide (z < 0)) qa ql qc := IntRow.set1 k1
    exact ⟨qa, ql, qc, ra, rl, rc, RowAt.other k6 (p := ⟨pr, 1, none⟩) d6 (.slice ra rl rc), IntRow.set1 k5, k3.set_row k5 1 _, k4.set_row k5 1 _, h2.mono (Nat.le_refl _), h4.mono (Nat.le_refl _), h5,
      ((h6.mono (fun i _ h => h.elim (fun h => .inr (.inl h)) (fun h => .inr (.inr (.inr h))))).setCell ⟨pz, 1, none⟩ (.inl (.inl rfl)) _).setCell ⟨pr, 1, none⟩ (.inl (.inr (.inr (.inl rfl)))) _⟩)
  have Arm : Hid (∀ (w1 : World), Keeps (fun k => InB az k ∨ InB ar k) w w1 → w1.cell? ⟨pz, 1, none⟩ = some (.slice az lz cz) ∧ w1.frozen? ⟨pz, 1, none⟩ = false ∧ w1.cell? ⟨pr, 1, none⟩ = some (.slice ar lr cr) ∧ w1.frozen? ⟨pr, 1, none⟩ = false ∧ (∀ v, (w1.setCell ⟨pz, 1, none⟩ v).cell? ⟨pr, 1, none⟩ = some (.slice ar lr cr)) ∧ (∀ v, (w1.setCell ⟨pz, 1, none⟩ v).frozen? ⟨pr, 1, none⟩ = false)) := hid (by
    intro w1 h6
    have k1 : IntRow w1 pz tz (decide (z < 0)) az lz cz := h6.row Hz.out.row (fun h => h.elim (Hz.out.rd.not_row Hz.out.row) (Hr.out.rd.not_row Hz.out.row))
    have k2 : IntRow w1 pr tr (decide (r < 0)) ar lr cr := h6.row Hr.out.row (fun h => h.elim (Hz.out.rd.not_row Hr.out.row) (Hr.out.rd.not_row Hr.out.row))
    obtain ⟨a0, a1, a2, a3⟩ := k1.facts
    obtain ⟨b0, b1, b2, b3⟩ := k2.facts
    refine ⟨a1, a3, b1, b3, fun v => ?_, fun v => ?_⟩
    · exact (IntRow.facts (show IntRow (w1.setCell ⟨pz, 1, none⟩ v) pr tr (decide (r < 0)) ar lr cr from RowAt.other k2 (p := ⟨pz, 1, none⟩) d3 v)).2.1
    · exact (IntRow.facts (show IntRow (w1.setCell ⟨pz, 1, none⟩ v) pr tr (decide (r < 0)) ar lr cr from RowAt.other k2 (p := ⟨pz, 1, none⟩) d3 v)).2.2.2)
  have HcallK : Hid (Calls Tryz.prog 199 #[.slice az lz cz, .pointer none, .slice ar lr cr, .slice ax lx cx, .slice ay ly cy] w.drew fun e w1 => ∃ qa ql qc ra rl rc, e = .returned (.tuple #[.slice qa ql qc, .slice ra rl rc]) ∧ Keeps (fun k => InB az k ∨ InB ar k) w w1 ∧ (∀ wx, wx = ((w1.setCell ⟨pz, 1, none⟩ (.slice qa ql qc)).setCell ⟨pr, 1, none⟩ (.slice ra rl rc)) → ∃ qa ql qc ra rl rc, IntRow wx pz tz (decide (z < 0)) qa ql qc ∧ IntRow wx pr tr (decide (r < 0)) ra rl rc ∧ Rd wx qa ql qc (words (x.natAbs / y.natAbs)) ∧ Rd wx ra rl rc (words (x.natAbs % y.natAbs)) ∧ Into w az cz qa qc ∧ Into w ar cr ra rc ∧ (∀ k, InB qa k → ¬ InB ra k) ∧ Keeps (fun k => k = pz ∨ InB az k ∨ k = pr ∨ InB ar k) w wx)) := hid (Hcall.out.mono (by
    rintro e w1 ⟨qa, ql, qc, ra, rl, rc, rfl, h1, h2, h3, h4, h5, h6⟩
    have hk := ((Keeps.refl (fun k => InB az k ∨ InB ar k) w).drew).trans h6
    exact ⟨qa, ql, qc, ra, rl, rc, rfl, hk, Fin1.out w1 qa ql qc ra rl rc h1 h2 h3 h4 h5 hk⟩))
  clear z1 z3 r1 r3
  go_upto_region 1 with fail
  go_cut [] from 10 to 35 (fun wx => ∃ qa ql qc ra rl rc, IntRow wx pz tz (decide (z < 0)) qa ql qc ∧ IntRow wx pr tr (decide (r < 0)) ra rl rc ∧ Rd wx qa ql qc (words (x.natAbs / y.natAbs)) ∧ Rd wx ra rl rc (words (x.natAbs % y.natAbs)) ∧ Into w az cz qa qc ∧ Into w ar cr ra rc ∧ (∀ k, InB qa k → ¬ InB ra k) ∧ Keeps (fun k => k = pz ∨ InB az k ∨ k = pr ∨ InB ar k) w wx)
  case first =>
    clear x1 y1 Fin1 G hy0 hly hlx
    go_region_law (first | (go_simp; go_at_call 199; (with_reducible refine HcallK.out.mono ?_); rintro e w1 ⟨qa, ql, qc, ra, rl, rc, rfl, hk, hf⟩; obtain ⟨a1, a2, a3, a4, a5, a6⟩ := Arm.out w1 hk; have HF := hid hf; clear hk hf))
    all_goals (go_wp2_with fail; go_meet)
    all_goals exact HF.out _ rfl
  case rest =>
    obtain ⟨qa, ql, qc, ra, rl, rc, h1, h2, h3, h4, h5, h6, h7, h8⟩ := hcut
    have sgn : ∀ (p : Nat) (t : TypeId) (v : Int) (a : Option Addr) (l c : Nat), IntS w p t v a l c → p ≠ pz → p ≠ pr → wc.cell? ⟨p, 0, none⟩ = some (.bool (decide (v < 0))) := by
      intro p t v a l c hs e1 e2
      exact (IntRow.facts (h8.row hs.row (fun h => by
        rcases h with h | h | h | h
        · exact e1 h
        · exact Hz.out.rd.not_row hs.row h
        · exact e2 h
        · exact Hr.out.rd.not_row hs.row h))).1
    have g1 := sgn _ _ _ _ _ _ Hx.out (Ne.symm d1) (Ne.symm d4)
    have g2 := sgn _ _ _ _ _ _ Hy.out (Ne.symm d2) (Ne.symm d5)
    obtain ⟨e0, e1, e2, e3⟩ := h1.facts
    obtain ⟨f0, f1, f2, f3⟩ := h2.facts
    obtain ⟨bx, hbx⟩ : ∃ b, b = decide (x < 0) := ⟨_, rfl⟩
    obtain ⟨bY, hby⟩ : ∃ b, b = decide (y < 0) := ⟨_, rfl⟩
    rw [← hbx] at g1
    rw [← hby] at g2
    have hq := quo_sign x y
    have hr := rem_sign x y
    rw [← hbx, ← hby] at hq
    rw [← hbx] at hr
    obtain ⟨bq, hbq⟩ : ∃ b, b = decide (x.tdiv y < 0) := ⟨_, rfl⟩
    obtain ⟨br, hbr⟩ : ∃ b, b = decide (x.tmod y < 0) := ⟨_, rfl⟩
    rw [← hbq] at hq
    rw [← hbr] at hr
    have hlq := h3.length
    have hlr := h4.length
    -- what is left once the signs stand
    have Fin : Hid (∀ w', w' = ((wc.drew.setCell ⟨pz, 0, none⟩ (.bool bq)).setCell ⟨pr, 0, none⟩ (.bool br)) → ∃ qa ql qc ra rl rc, IntS w' pz tz (x.tdiv y) qa ql qc ∧ IntS w' pr tr (x.tmod y) ra rl rc ∧ Into w az cz qa qc ∧ Into w ar cr ra rc ∧ (∀ k, InB qa k → ¬ InB ra k) ∧ Keeps (fun k => k = pz ∨ InB az k ∨ k = pr ∨ InB ar k) w w') := hid (by
      rintro w' rfl
      have hd : Keeps (fun _ => False) wc wc.drew := (Keeps.refl _ wc).drew
      have k1 : IntRow wc.drew pz tz (decide (z < 0)) qa ql qc := hd.row h1 (fun h => h)
      have k2 : IntRow wc.drew pr tr (decide (r < 0)) ra rl rc := hd.row h2 (fun h => h)
      have k3 := (h3.drew).set_row k1 0 (.bool bq)
      have k4 := (h4.drew).set_row k1 0 (.bool bq)
      have k5 : IntRow (wc.drew.setCell ⟨pz, 0, none⟩ (.bool bq)) pr tr (decide (r < 0)) ra rl rc := RowAt.other k2 (p := ⟨pz, 0, none⟩) d3 (.bool bq)
      have k6 : IntRow (wc.drew.setCell ⟨pz, 0, none⟩ (.bool bq)) pz tz bq qa ql qc := IntRow.set0 k1
      refine ⟨qa, ql, qc, ra, rl, rc, ⟨?_, ?_⟩, ⟨?_, ?_⟩, h5, h6, h7, ?_⟩
      · rw [← hbq]; exact RowAt.other k6 (p := ⟨pr, 0, none⟩) d6 (.bool br)
      · rw [Int.natAbs_tdiv]; exact k3.set_row k5 0 (.bool br)
      · rw [← hbr]; exact IntRow.set0 k5
      · rw [Int.natAbs_tmod]; exact k4.set_row k5 0 (.bool br)
      · exact ((h8.drew).setCell ⟨pz, 0, none⟩ (.inl (.inl rfl)) _).setCell ⟨pr, 0, none⟩ (.inl (.inr (.inr (.inl rfl)))) _)
    have HH := hid h1; have HR1 := hid h2
    clear h1 h2 h3 h4 h5 h6 h7 h8 sgn hbx hby hbq hbr Hz Hx Hy Hr Hcall Hzr z2 z4 x1 x2 y1 y2 r2 r4 HcallK Arm Fin1
    rcases Nat.eq_zero_or_pos (x.natAbs / y.natAbs) with hN | hN
    · have hql : ql = 0 := by rw [← hlq, hN, words_zero]; rfl
      have hb : bq = false := by rw [hq, hN]; simp
      subst hql; subst hb
      clear hlq hN hq
      rcases Nat.eq_zero_or_pos (x.natAbs % y.natAbs) with hM | hM
      · have hrl : rl = 0 := by rw [← hlr, hM, words_zero]; rfl
        have hb : br = false := by rw [hr, hM]; simp
        subst hrl; subst hb
        clear hlr hM hr
        go_wp2_with fail
        go_region
        go_wp2_with fail
        go_ret2
        exact ⟨rfl, Fin.out _ rfl⟩
      · have hrl : 0 < rl := by rw [← hlr]; exact words_length_pos (by omega)
        have hb : br = bx := by rw [hr, decide_eq_true (show x.natAbs % y.natAbs ≠ 0 by omega)]; simp
        have hrl' : decide ((0 : Int) < (rl : Int)) = true := by simp; omega
        subst hb
        clear hlr hM hr
        go_wp2_with fail
        go_region
        go_wp2_with fail
        go_ret2
        exact ⟨rfl, Fin.out _ rfl⟩
    · have hql : 0 < ql := by rw [← hlq]; exact words_length_pos (by omega)
      have hb : bq = (bx != bY) := by rw [hq, decide_eq_true (show x.natAbs / y.natAbs ≠ 0 by omega)]; simp
      have hql' : decide ((0 : Int) < (ql : Int)) = true := by simp; omega
      subst hb
      clear hlq hN hq
      rcases Nat.eq_zero_or_pos (x.natAbs % y.natAbs) with hM | hM
      · have hrl : rl = 0 := by rw [← hlr, hM, words_zero]; rfl
        have hb : br = false := by rw [hr, hM]; simp
        subst hrl; subst hb
        clear hlr hM hr
        go_wp2_with fail
        go_region
        go_wp2_with fail
        go_ret2
        exact ⟨rfl, Fin.out _ rfl⟩
      · have hrl : 0 < rl := by rw [← hlr]; exact words_length_pos (by omega)
        have hb : br = bx := by rw [hr, decide_eq_true (show x.natAbs % y.natAbs ≠ 0 by omega)]; simp
        have hrl' : decide ((0 : Int) < (rl : Int)) = true := by simp; omega
        subst hb
        clear hlr hM hr
        go_wp2_with fail
        go_region
        go_wp2_with fail
        go_ret2
        exact ⟨rfl, Fin.out _ rfl⟩
end Go.Proofs
namespace Go.Proofs
open Go.RowKit
set_option maxHeartbeats 1000000
set_option linter.unusedVariables false
set_option linter.unusedSimpArgs false
set_option maxRecDepth 100000

theorem Env.quoRem164 {S : Nat → Prop} {w0 w : World} {V : Nat → Option (TypeId × Int)} (h : Env S w0 w V) {pz px py pr : Nat} {tz tx ty tr : TypeId} {z x y r : Int} (hz : V pz = some (tz, z)) (hx : V px = some (tx, x)) (hy : V py = some (ty, y)) (hr : V pr = some (tr, r))
    (d1 : pz ≠ px) (d2 : pz ≠ py) (d3 : pz ≠ pr) (d4 : pr ≠ px) (d5 : pr ≠ py) (G : Glob w) (hy0 : y ≠ 0) (h1 : x.natAbs < W64 ^ 40) (h2 : y.natAbs < W64 ^ 39) :
    Calls Tryz.prog 164 #[.pointer (some ⟨pz, 0, none⟩), .pointer (some ⟨px, 0, none⟩), .pointer (some ⟨py, 0, none⟩), .pointer (some ⟨pr, 0, none⟩)] w fun e w' =>
      e = .returned (.tuple #[.pointer (some ⟨pz, 0, none⟩), .pointer (some ⟨pr, 0, none⟩)]) ∧ Env S w0 w' (upd (upd V pz tz (x.tdiv y)) pr tr (x.tmod y)) := by
  obtain ⟨hk0, ho, f, g1, g2⟩ := h
  have ez : (V pz).isSome := by rw [hz]; rfl
  have ex : (V px).isSome := by rw [hx]; rfl
  have er : (V pr).isSome := by rw [hr]; rfl
  have iz := (g1 pz tz z hz).2.1; have ix := (g1 px tx x hx).2.1; have iy := (g1 py ty y hy).2.1; have ir := (g1 pr tr r hr).2.1
  refine (quoRem164_new pz px py pr tz tx ty tr z x y r _ _ _ _ _ _ _ _ _ _ _ _ w iz ix iy ir d1 d2 d3 d4 d5 (g2 pz pr ez er d3) (g2 pz px ez ex d1) (g2 pr px er ex d4) hy0 (by have := iy.len h2; omega) (by have := ix.len h1; omega) G).mono ?_
  rintro e w' ⟨rfl, qa, ql, qc, ra, rl, rc, k1, k2, k3, k4, k5, k6⟩
  exact ⟨rfl, Env.res2 hk0 ho g1 g2 hz hr d3 k1 k2 k3 k4 k5 k6⟩

theorem w101 (p q s t : Addr) (w : World) (R : World → Prop) (h : Calls Tryz.prog 164 #[.pointer (some p), .pointer (some q), .pointer (some s), .pointer (some t)] w.drew fun e w' => (∃ v, e = .returned v) ∧ R w') :
    Calls Tryz.prog 101 #[.pointer (some p), .pointer (some q), .pointer (some s), .pointer (some t)] w fun e w' => e = .returned (.tuple #[.pointer (some p), .pointer (some t)]) ∧ R w' := by
  have H := hid h
  clear h
  obtain ⟨b0, o0, s0⟩ := p
  obtain ⟨b1, o1, s1⟩ := q
  obtain ⟨b2, o2, s2⟩ := s
  obtain ⟨b3, o3, s3⟩ := t
  go_enter Tryz.func101, Tryz.ntmps101
  go_wp2_with fail
  go_still_tail 12, (by kernel_rfl)
  go_wp2_with fail
  refine H.out.mono ?_
  rintro e w1 ⟨⟨v, rfl⟩, hR⟩
  have HR := hid hR
  clear hR
  go_wp2_with fail
  go_ret2
  exact ⟨rfl, HR.out⟩
theorem w102 (p q s t : Addr) (w : World) (R : World → Prop) (h : Calls Tryz.prog 165 #[.pointer (some p), .pointer (some q), .pointer (some s), .pointer (some t)] w.drew fun e w' => (∃ v, e = .returned v) ∧ R w') :
    Calls Tryz.prog 102 #[.pointer (some p), .pointer (some q), .pointer (some s), .pointer (some t)] w fun e w' => e = .returned (.tuple #[.pointer (some p), .pointer (some t)]) ∧ R w' := by
  have H := hid h
  clear h
  obtain ⟨b0, o0, s0⟩ := p
  obtain ⟨b1, o1, s1⟩ := q
  obtain ⟨b2, o2, s2⟩ := s
  obtain ⟨b3, o3, s3⟩ := t
  go_enter Tryz.func102, Tryz.ntmps102
  go_wp2_with fail
  go_still_tail 12, (by kernel_rfl)
  go_wp2_with fail
  refine H.out.mono ?_
  rintro e w1 ⟨⟨v, rfl⟩, hR⟩
  have HR := hid hR
  clear hR
  go_wp2_with fail
  go_ret2
  exact ⟨rfl, HR.out⟩
end Go.Proofs
namespace Go.Proofs
open Go.RowKit
set_option maxHeartbeats 1000000
set_option linter.unusedVariables false
set_option linter.unusedSimpArgs false
set_option maxRecDepth 100000

/-- Quotient and rest, the rest not below 0. -/
def dmQ (x y : Int) : Int := if x.tmod y < 0 then (if y < 0 then x.tdiv y + 1 else x.tdiv y - 1) else x.tdiv y
def dmM (x y : Int) : Int := if x.tmod y < 0 then (if y < 0 then x.tmod y - y else x.tmod y + y) else x.tmod y

theorem Env.divMod165 {S : Nat → Prop} {w0 w : World} {V : Nat → Option (TypeId × Int)} (h : Env S w0 w V) {pz px py pr : Nat} {tz tx ty tr : TypeId} {z x y r : Int} (hz : V pz = some (tz, z)) (hx : V px = some (tx, x)) (hy : V py = some (ty, y)) (hr : V pr = some (tr, r))
    (d1 : pz ≠ px) (d2 : pz ≠ py) (d3 : pz ≠ pr) (d4 : pr ≠ px) (d5 : pr ≠ py) (G : Glob w) (hSG : ∀ k, GB k → ¬ S k) (G0 : Glob w0) (hy0 : y ≠ 0) (h1 : x.natAbs < W64 ^ 38) (h2 : y.natAbs < W64 ^ 38) :
    Calls Tryz.prog 165 #[.pointer (some ⟨pz, 0, none⟩), .pointer (some ⟨px, 0, none⟩), .pointer (some ⟨py, 0, none⟩), .pointer (some ⟨pr, 0, none⟩)] w fun e w' =>
      e = .returned (.tuple #[.pointer (some ⟨pz, 0, none⟩), .pointer (some ⟨pr, 0, none⟩)]) ∧ ∃ V', Env S w0 w' V' ∧ V' pz = some (tz, dmQ x y) ∧ V' pr = some (tr, dmM x y) ∧ ∀ k, k ≠ pz → k ≠ pr → V k ≠ none → V' k = V k := by
  have HE := hid h
  have hw39 : W64 ^ 38 ≤ W64 ^ 39 := Nat.pow_le_pow_right (by unfold W64; omega) (by omega)
  have hw40 : W64 ^ 38 ≤ W64 ^ 40 := Nat.pow_le_pow_right (by unfold W64; omega) (by omega)
  have HQR := hid (fun k => (h.drewN (1 + k)).quoRem164 hz hx hy hr d1 d2 d3 d4 d5 (G.drewN (1 + k)) hy0 (Nat.lt_of_lt_of_le h1 hw40) (Nat.lt_of_lt_of_le h2 hw39))
  have hall : ∃ az lz cz ay ly cy, IntS w pz tz z az lz cz ∧ IntS w py ty y ay ly cy ∧ (∀ k, InB az k → ¬ InB ay k) := by
    obtain ⟨hk0, ho, f, g1, g2⟩ := h
    exact ⟨_, _, _, _, _, _, (g1 pz tz z hz).2.1, (g1 py ty y hy).2.1, g2 pz py (by rw [hz]; rfl) (by rw [hy]; rfl) d2⟩
  obtain ⟨az, lz, cz, ay, ly, cy, iz, iy, hap⟩ := hall
  obtain ⟨z1, z2, _, _⟩ := iz.row.facts
  obtain ⟨y1, y2, _, _⟩ := iy.row.facts
  have qE := eql_ptr117_other _ _ _ _ _ _ _ _ _ _ _ _ w.drew ((Keeps.refl (fun _ => False) w).drew.row iz.row (fun h => h)) ((Keeps.refl (fun _ => False) w).drew.row iy.row (fun h => h)) d2
  have qE0 := eql_ptr117_other _ _ _ _ _ _ _ _ _ _ _ _ w iz.row iy.row d2
  have HAL := hid (alias_any az lz cz _ ay ly cy _ w.drew iz.rd.drew iy.rd.drew (Al.of_ne hap))
  rw [shares_apart (xl := ly) iz.rd.drew hap] at HAL
  have Hz := hid hz; have Hy := hid hy; have Hr := hid hr; have Hx := hid hx; have HSG := hid hSG; have HG0 := hid G0; have Hh1 := hid h1; have Hh2 := hid h2; have Hw39 := hid hw39; have Hw40 := hid hw40
  clear h hz hx hy hr iz iy hap h1 h2 hw39 hw40 z1 y1 G0 hSG
  go_enter Tryz.func165, Tryz.ntmps165
  go_wp2_with fail
  go_still_tail 12, (by kernel_rfl)
  go_wp2_with fail
  refine HAL.out.mono ?_
  rintro e w1 ⟨rfl, k, rfl⟩
  go_wp2_with fail
  refine (HQR.out k).mono ?_
  rintro e w2 ⟨rfl, E2⟩
  have ir := E2.get (upd_eq _ _ _ _)
  have iy := E2.get (p := py) (t := ty) (z := y) (by rw [upd_ne _ _ _ (Ne.symm d5), upd_ne _ _ _ (Ne.symm d2), Hy.out])
  obtain ⟨_, _, _, ir1, _⟩ := ir
  obtain ⟨_, _, _, iy1, _⟩ := iy
  obtain ⟨r1, _, _, _⟩ := ir1.facts
  obtain ⟨y1, _, _, _⟩ := iy1.facts
  have HE2 := hid E2
  clear E2 ir1 iy1 HQR HAL z2 y2 qE qE0
  have d6 := Ne.symm d3
  by_cases hm : x.tmod y < 0
  · have t1 : decide (x.tmod y < 0) = true := by simpa using hm
    rw [t1] at r1
    have Hm := hid hm
    clear hm t1
    by_cases hyn : y < 0
    · have t2 : decide (y < 0) = true := by simpa using hyn
      rw [t2] at y1
      have Hyn := hid hyn
      clear hyn t2
      go_wp2_with fail
      refine (intOne200 w2).mono ?_
      rintro e w3 ⟨p1, a1, rfl, g1, g2, g3, g4⟩
      have HG1 := hid g1
      have E3 := HE2.out.add g4 g1 g3 g2
      have hne : ∀ (q : Nat) (t : TypeId) (v : Int), (upd (upd V pz tz (x.tdiv y)) pr tr (x.tmod y)) q = some (t, v) → q ≠ p1 := fun q t v hq => by have := HE2.out.lt hq; omega
      have vz : (upd (upd V pz tz (x.tdiv y)) pr tr (x.tmod y)) pz = some (tz, x.tdiv y) := by rw [upd_ne _ _ _ d3, upd_eq]
      have vr : (upd (upd V pz tz (x.tdiv y)) pr tr (x.tmod y)) pr = some (tr, x.tmod y) := upd_eq _ _ _ _
      have vy : (upd (upd V pz tz (x.tdiv y)) pr tr (x.tmod y)) py = some (ty, y) := by rw [upd_ne _ _ _ (Ne.symm d5), upd_ne _ _ _ (Ne.symm d2), Hy.out]
      have nz := hne _ _ _ vz; have nr := hne _ _ _ vr; have ny := hne _ _ _ vy
      have hq40 : (x.tdiv y).natAbs < W64 ^ 40 := by rw [Int.natAbs_tdiv]; exact Nat.lt_of_le_of_lt (Nat.div_le_self _ _) (Nat.lt_of_lt_of_le Hh1.out Hw40.out)
      have hr40 : (x.tmod y).natAbs < W64 ^ 40 := by rw [Int.natAbs_tmod]; exact Nat.lt_of_le_of_lt (Nat.mod_le _ _) (Nat.lt_of_lt_of_le Hh1.out Hw40.out)
      have C1 := hid (E3.add145 (pz := pz) (px := pz) (py := p1) (tz := tz) (tx := tz) (ty := 103) (z := x.tdiv y) (x := x.tdiv y) (y := 1) (by rw [upd_ne _ _ _ nz, vz]) (by rw [upd_ne _ _ _ nz, vz]) (upd_eq _ _ _ _) hq40 (by unfold W64; decide))
      have N1 := hid nz; have N2 := hid nr; have N3 := hid ny; have VZ := hid vz; have VR := hid vr; have VY := hid vy; have HR40 := hid hr40
      clear g1 g2 g3 g4 E3 hne vz vr vy nz nr ny hq40 hr40 r1 y1
      go_wp2_with fail
      refine C1.out.mono ?_
      rintro e w4 ⟨rfl, E4⟩
      have C2 := hid (E4.sub146 (pz := pr) (px := pr) (py := py) (tz := tr) (tx := tr) (ty := ty) (z := x.tmod y) (x := x.tmod y) (y := y) (by rw [upd_ne _ _ _ d6, upd_ne _ _ _ N2.out, VR.out]) (by rw [upd_ne _ _ _ d6, upd_ne _ _ _ N2.out, VR.out]) (by rw [upd_ne _ _ _ (Ne.symm d2), upd_ne _ _ _ N3.out, VY.out]) HR40.out (Nat.lt_of_lt_of_le Hh2.out Hw40.out))
      clear E4 C1
      go_wp2_with fail
      refine C2.out.mono ?_
      rintro e w5 ⟨rfl, E5⟩
      have HE5 := hid E5
      clear E5 C2
      go_wp2_with fail
      go_ret2
      refine ⟨rfl, _, HE5.out, ?_, ?_, ?_⟩
      · rw [upd_ne _ _ _ d3, upd_eq]; unfold dmQ; rw [if_pos Hm.out, if_pos Hyn.out]
      · rw [upd_eq]; unfold dmM; rw [if_pos Hm.out, if_pos Hyn.out]
      · intro k e1 e2 e3
        obtain ⟨⟨t', v'⟩, hk'⟩ := Option.ne_none_iff_exists'.mp e3
        have e4 : k ≠ p1 := by
          have := HE2.out.lt (p := k) (t := t') (z := v') (by rw [upd_ne _ _ _ e2, upd_ne _ _ _ e1, hk'])
          have := HG1.out
          omega
        rw [upd_ne _ _ _ e2, upd_ne _ _ _ e1, upd_ne _ _ _ e4, upd_ne _ _ _ e2, upd_ne _ _ _ e1]
    · have t2 : decide (y < 0) = false := by simpa using hyn
      rw [t2] at y1
      have Hyn := hid hyn
      clear hyn t2
      go_wp2_with fail
      refine (intOne200 w2).mono ?_
      rintro e w3 ⟨p1, a1, rfl, g1, g2, g3, g4⟩
      have HG1 := hid g1
      have E3 := HE2.out.add g4 g1 g3 g2
      have hne : ∀ (q : Nat) (t : TypeId) (v : Int), (upd (upd V pz tz (x.tdiv y)) pr tr (x.tmod y)) q = some (t, v) → q ≠ p1 := fun q t v hq => by have := HE2.out.lt hq; omega
      have vz : (upd (upd V pz tz (x.tdiv y)) pr tr (x.tmod y)) pz = some (tz, x.tdiv y) := by rw [upd_ne _ _ _ d3, upd_eq]
      have vr : (upd (upd V pz tz (x.tdiv y)) pr tr (x.tmod y)) pr = some (tr, x.tmod y) := upd_eq _ _ _ _
      have vy : (upd (upd V pz tz (x.tdiv y)) pr tr (x.tmod y)) py = some (ty, y) := by rw [upd_ne _ _ _ (Ne.symm d5), upd_ne _ _ _ (Ne.symm d2), Hy.out]
      have nz := hne _ _ _ vz; have nr := hne _ _ _ vr; have ny := hne _ _ _ vy
      have hq40 : (x.tdiv y).natAbs < W64 ^ 40 := by rw [Int.natAbs_tdiv]; exact Nat.lt_of_le_of_lt (Nat.div_le_self _ _) (Nat.lt_of_lt_of_le Hh1.out Hw40.out)
      have hr40 : (x.tmod y).natAbs < W64 ^ 40 := by rw [Int.natAbs_tmod]; exact Nat.lt_of_le_of_lt (Nat.mod_le _ _) (Nat.lt_of_lt_of_le Hh1.out Hw40.out)
      have C1 := hid (E3.sub146 (pz := pz) (px := pz) (py := p1) (tz := tz) (tx := tz) (ty := 103) (z := x.tdiv y) (x := x.tdiv y) (y := 1) (by rw [upd_ne _ _ _ nz, vz]) (by rw [upd_ne _ _ _ nz, vz]) (upd_eq _ _ _ _) hq40 (by unfold W64; decide))
      have N1 := hid nz; have N2 := hid nr; have N3 := hid ny; have VZ := hid vz; have VR := hid vr; have VY := hid vy; have HR40 := hid hr40
      clear g1 g2 g3 g4 E3 hne vz vr vy nz nr ny hq40 hr40 r1 y1
      go_wp2_with fail
      refine C1.out.mono ?_
      rintro e w4 ⟨rfl, E4⟩
      have C2 := hid (E4.add145 (pz := pr) (px := pr) (py := py) (tz := tr) (tx := tr) (ty := ty) (z := x.tmod y) (x := x.tmod y) (y := y) (by rw [upd_ne _ _ _ d6, upd_ne _ _ _ N2.out, VR.out]) (by rw [upd_ne _ _ _ d6, upd_ne _ _ _ N2.out, VR.out]) (by rw [upd_ne _ _ _ (Ne.symm d2), upd_ne _ _ _ N3.out, VY.out]) HR40.out (Nat.lt_of_lt_of_le Hh2.out Hw40.out))
      clear E4 C1
      go_wp2_with fail
      refine C2.out.mono ?_
      rintro e w5 ⟨rfl, E5⟩
      have HE5 := hid E5
      clear E5 C2
      go_wp2_with fail
      go_ret2
      refine ⟨rfl, _, HE5.out, ?_, ?_, ?_⟩
      · rw [upd_ne _ _ _ d3, upd_eq]; unfold dmQ; rw [if_pos Hm.out, if_neg (Int.not_lt.mpr Hyn.out)]
      · rw [upd_eq]; unfold dmM; rw [if_pos Hm.out, if_neg (Int.not_lt.mpr Hyn.out)]
      · intro k e1 e2 e3
        obtain ⟨⟨t', v'⟩, hk'⟩ := Option.ne_none_iff_exists'.mp e3
        have e4 : k ≠ p1 := by
          have := HE2.out.lt (p := k) (t := t') (z := v') (by rw [upd_ne _ _ _ e2, upd_ne _ _ _ e1, hk'])
          have := HG1.out
          omega
        rw [upd_ne _ _ _ e2, upd_ne _ _ _ e1, upd_ne _ _ _ e4, upd_ne _ _ _ e2, upd_ne _ _ _ e1]
  · have t1 : decide (x.tmod y < 0) = false := by simpa using hm
    rw [t1] at r1
    have Hm := hid hm
    clear hm t1
    go_wp2_with fail
    go_ret2
    refine ⟨rfl, _, HE2.out, ?_, ?_, ?_⟩
    · rw [upd_ne _ _ _ d3, upd_eq]; unfold dmQ; rw [if_neg (Int.not_lt.mpr Hm.out)]
    · rw [upd_eq]; unfold dmM; rw [if_neg (Int.not_lt.mpr Hm.out)]
    · intro k e1 e2 _
      rw [upd_ne _ _ _ e2, upd_ne _ _ _ e1]
end Go.Proofs
namespace Go.Proofs
open Go.RowKit
set_option maxHeartbeats 400000
set_option linter.unusedVariables false
set_option linter.unusedSimpArgs false
set_option maxRecDepth 100000

/-- It ends in a panic with a value that is told. -/
def Pan (e : Ending) : Prop := ∃ T x, e = .panicked [{ v := .iface T x, recovered := false }]

theorem catch144_panic (p : Addr) (b : Bool) (T : TypeId) (x : Value) (w : World) (hc : w.cell? p = some (.bool b)) (hz : w.frozen? p = false) :
    CallsD Tryz.prog 144 #[.pointer (some p)] (.panicking [{ v := .iface T x, recovered := false }]) w fun e u' w' => e = .returned (.tuple #[]) ∧ u' = .panicking [{ v := .iface T x, recovered := true }] ∧ w' = w.setCell p (.bool false) := by
  have hnn : ∀ w, (binOp .eql 20 (.iface T x) .nilIface).run Tryz.prog w = .ok (.bool false) w := fun w => by simp [go_sem]
  refine callsD_of_wpS Tryz.func144 rfl fun c₀ cs hu => ?_
  apply wpS_region
  simp [wpOpsS, go_sem, recoverD, hu, Tryz.ntmps144, Exit.thenS, hc, hz, hnn, bodyPostS, results, Tryz.results144]

theorem safe_panics (F : FuncId) (cap : Array Value) (w : World) (R : World → Prop)
    (hcf : ∀ w, (callFunc F cap).run Tryz.prog w = .ok (.enter F cap) w) (h : Calls Tryz.prog F cap (w.alloc (.cells #[.bool false] 4)) fun e w' => Pan e ∧ R w' ∧ RowAt w' w.heap.size 4 [.bool false]) :
    Calls Tryz.prog 65 #[.func (.func F) #[] cap] w fun e w' => e = .returned (.bool false) ∧ ∃ w1, R w1 ∧ w' = w1.setCell ⟨w.heap.size, 0, none⟩ (.bool false) := by
  have hmf : ∀ (fn : Fn) (first cap : Array Value) (w : World), (Instr.makeFunc fn first cap).run Tryz.prog w = .ok (.func fn first cap) w := fun _ _ _ _ => rfl
  have H := hid h
  clear h
  go_enter_defers Tryz.func65, Tryz.ntmps65
  go_wp2_with fail
  refine H.out.mono ?_
  rintro e w1 ⟨⟨T, x, rfl⟩, hR, hr⟩
  have c1 : w1.cell? ⟨w.heap.size, 0, none⟩ = some (.bool false) := hr.cell 0
  have f1 := hr.frozen 0
  have HR := hid hR
  have c2 : (w1.setCell ⟨w.heap.size, 0, none⟩ (.bool false)).cell? ⟨w.heap.size, 0, none⟩ = some (.bool false) := (hr.set 0 (.bool false)).cell 0
  clear hR hr
  refine leaves_cons (f := 144) (args := #[.pointer (some ⟨w.heap.size, 0, none⟩)]) (by simp) (by simp [go_sem]) ?_
  refine (catch144_panic ⟨w.heap.size, 0, none⟩ false T x _ c1 f1).mono ?_
  rintro e u' w'' ⟨rfl, rfl, rfl⟩
  refine ⟨.bool false, ?_, rfl, w1, HR.out, rfl⟩
  simp [results, Tryz.results65, go_sem, c2]

theorem div199_zero (s : Option Addr) (a : Option Addr) (l c : Nat) (a2 : Option Addr) (l2 c2 : Nat) (x : Option Addr) (xl xc : Nat) (y : Option Addr) (yc : Nat) (w : World) :
    Calls Tryz.prog 199 #[.slice a l c, .pointer s, .slice a2 l2 c2, .slice x xl xc, .slice y 0 yc] w fun e w' => Pan e ∧ w' = w := by
  go_enter_defers Tryz.func199, Tryz.ntmps199
  go_wp2_with fail
  exact ⟨⟨9, _, rfl⟩, rfl⟩
end Go.Proofs
