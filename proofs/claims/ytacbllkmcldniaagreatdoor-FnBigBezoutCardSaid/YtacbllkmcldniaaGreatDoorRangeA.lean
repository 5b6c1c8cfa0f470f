/- Parts of the proofs over the numbers of any length: IMul2, Div1. -/
import Derived.BigRegion
import Derived.Test.YtacbllkmcldniaaGreatDoorBaseD
import Derived.Test.YtacbllkmcldniaaGreatDoorBaseC
import Derived.Test.YtacbllkmcldniaaGreatDoorIntA
set_option linter.unusedSimpArgs false
set_option linter.unusedVariables false
namespace Go.Proofs
open Go.RowKit
set_option maxHeartbeats 800000
set_option linter.unusedVariables false
set_option linter.unusedSimpArgs false
set_option maxRecDepth 100000

theorem IntRes.tail {w wx : World} {p : Nat} {t : TypeId} {neg s : Bool} {a ra : Option Addr} {c rl rc N : Nat} {r : Int} (hr : IntRow wx p t neg ra rl rc) (hd : Rd wx ra rl rc (words N)) (hi : Into w a c ra rc)
    (hk : Keeps (fun k => k = p ∨ InB a k) w wx) (hs : s = decide (r < 0)) (hN : N = r.natAbs) : IntRes w p t a c r (wx.setCell ⟨p, 0, none⟩ (.bool s)).drew := by
  subst hs
  subst hN
  exact ⟨ra, rl, rc, ⟨RowAt.drew hr.set0, (hd.set_row hr _ _).drew⟩, hi, (hk.setCell _ (.inl (.inl rfl)) _).drew⟩

theorem mul198_any (pz px py tz tx ty : Nat) (z x y : Int) (az ax ay : Option Addr) (lz cz lx cx ly cy : Nat) (w : World)
    (hz : IntS w pz tz z az lz cz) (hx : IntS w px tx x ax lx cx) (hy : IntS w py ty y ay ly cy) (G : Glob w)
    (hax : pz ≠ px → ∀ k, InB az k → ¬ InB ax k) (hay : pz ≠ py → ∀ k, InB az k → ¬ InB ay k) (hlx : lx < 12) (hly : ly < 12) :
    Calls Tryz.prog 198 #[.pointer (some ⟨pz, 0, none⟩), .pointer none, .pointer (some ⟨px, 0, none⟩), .pointer (some ⟨py, 0, none⟩)] w fun e w' =>
      e = .returned (.tuple #[]) ∧ IntRes w pz tz az cz (x * y) w' := by
  have Hz := hid hz; have Hx := hid hx; have Hy := hid hy; have HG := hid G
  obtain ⟨z1, z2, z3, z4⟩ := hz.row.facts
  obtain ⟨x1, x2, _, _⟩ := hx.row.facts
  obtain ⟨y1, y2, _, _⟩ := hy.row.facts
  have HGd := hid (show Glob w.drew from HG.out.drewN 1)
  have Haxx : Hid (Al az cz ax cx) := hid (by
    by_cases h : pz = px
    · subst h
      obtain ⟨_, rfl, rfl, rfl⟩ := hz.same hx
      exact Al.refl _ _
    · exact Al.of_ne (hax h))
  have Hayy : Hid (Al az cz ay cy) := hid (by
    by_cases h : pz = py
    · subst h
      obtain ⟨_, rfl, rfl, rfl⟩ := hz.same hy
      exact Al.refl _ _
    · exact Al.of_ne (hay h))
  by_cases hxy : px = py
  · subst hxy
    obtain ⟨rfl, rfl, rfl, rfl⟩ := hx.same hy
    have qE := eql_ptr117_same ⟨px, 0, none⟩ w
    have Hcall := hid (sqr_any az lz cz _ none ax lx cx x.natAbs w.drew HGd.out Hz.out.rd.drew Hx.out.rd.drew hlx Haxx.out)
    clear hz hx hy G hax hay
    go_enter Tryz.func198, Tryz.ntmps198
    go_wp2_with fail
    go_region_law (first | (go_simp; go_at_call 235; refine Hcall.out.mono ?_; rintro e w1 ⟨ra, rl, rc, rfl, h1, h2, h3⟩; obtain ⟨d0, d1, d2, d3⟩ := Hz.out.row.after (((Keeps.refl _ w).drew).trans h3) (Hz.out.rd.not_row Hz.out.row); obtain ⟨g0, g1, g2, g3⟩ := Hx.out.row.after (((Keeps.refl _ w).drew).trans h3) (Hz.out.rd.not_row Hx.out.row); have H1 := hid h1; have H2 := hid h2; have H3 := hid h3; clear h1 h2 h3))
    all_goals go_wp2_with fail
    all_goals (refine bodyPost_ret (results_none rfl _ _ _) rfl ?_)
    all_goals exact ⟨rfl, IntRes.both (((Keeps.refl _ w).drew.trans H3.out).row Hz.out.row (Hz.out.rd.not_row Hz.out.row)) H1.out (H2.out.mono (Nat.le_refl _)) (((Keeps.refl _ w).drew.trans H3.out).mono (fun i _ h => .inr h)) (by rw [mul_sign]; simp) (by rw [Int.natAbs_mul])⟩
  · have qE := eql_ptr117_other _ _ _ _ _ _ _ _ _ _ _ _ _ hx.row hy.row hxy
    have Hcall := hid (mul_any az lz cz _ none ax lx cx x.natAbs ay ly cy y.natAbs w.drew HGd.out Hz.out.rd.drew Hx.out.rd.drew Hy.out.rd.drew (by omega) (by omega) Haxx.out Hayy.out)
    clear hz hx hy G hax hay
    go_enter Tryz.func198, Tryz.ntmps198
    go_upto_region 3 with fail
    go_cut [27] from 28 to 43 (fun _ wx => ∃ ra rl rc, IntRow wx pz tz (decide (z < 0)) ra rl rc ∧ Rd wx ra rl rc (words (x.natAbs * y.natAbs)) ∧ Into w az cz ra rc ∧ Keeps (fun k => k = pz ∨ InB az k) w wx)
    case first =>
      go_region_law (first | (go_simp; go_at_call 236; refine Hcall.out.mono ?_; rintro e w1 ⟨ra, rl, rc, rfl, h1, h2, h3⟩; obtain ⟨d0, d1, d2, d3⟩ := Hz.out.row.after (((Keeps.refl _ w).drew).trans h3) (Hz.out.rd.not_row Hz.out.row); have H1 := hid h1; have H2 := hid h2; have H3 := hid h3; clear h1 h2 h3))
      all_goals (go_wp2_with fail; go_meet)
      all_goals exact ⟨ra, rl, rc, IntRow.set1 (neg := decide (z < 0)) (a := az) (l := lz) (c := cz) (((Keeps.refl _ w).drew.trans H3.out).row Hz.out.row (Hz.out.rd.not_row Hz.out.row)), H1.out.set_row (neg := decide (z < 0)) (a' := az) (l' := lz) (c' := cz) (((Keeps.refl _ w).drew.trans H3.out).row Hz.out.row (Hz.out.rd.not_row Hz.out.row)) _ _, H2.out.mono (Nat.le_refl _), (((Keeps.refl _ w).drew.trans H3.out).mono (fun i _ h => .inr h)).setCell _ (.inl (.inl rfl)) _⟩
    case rest =>
      obtain ⟨ra, rl, rc, h1, h2, h3, h4⟩ := hcut
      have sgn : ∀ (p : Nat) (t : TypeId) (v : Int) (a : Option Addr) (l c : Nat), IntS w p t v a l c → wc.cell? ⟨p, 0, none⟩ = some (.bool (decide (v < 0))) := by
        intro p t v a l c hs
        by_cases hp : p = pz
        · subst hp
          obtain ⟨rfl, _⟩ := Hz.out.same hs
          exact h1.facts.1
        · exact (IntRow.facts (h4.row hs.row (fun h => by
            rcases h with h | h
            · exact hp h
            · exact Hz.out.rd.not_row hs.row h))).1
      have hso : ∀ v, (wc.setCell ⟨pz, 0, none⟩ v).cell? ⟨pz, 1, none⟩ = some (.slice ra rl rc) := fun v => RowAt.cell (RowAt.set h1 0 v) 1
      have hso' : ∀ v, (wc.setCell ⟨pz, 0, none⟩ v).drew.cell? ⟨pz, 1, none⟩ = some (.slice ra rl rc) := fun v => RowAt.cell (RowAt.set h1 0 v) 1
      obtain ⟨d0, d1, d2, d3⟩ := h1.facts
      have g1 := sgn _ _ _ _ _ _ Hx.out
      have g2 := sgn _ _ _ _ _ _ Hy.out
      obtain ⟨bx, hbx⟩ : ∃ b, b = decide (x < 0) := ⟨_, rfl⟩
      obtain ⟨bY, hby⟩ : ∃ b, b = decide (y < 0) := ⟨_, rfl⟩
      rw [← hbx] at g1
      rw [← hby] at g2
      have hlen := h2.length
      have hms := mul_sign x y
      rw [← hbx, ← hby] at hms
      have H1 := hid h1; have H2 := hid h2; have H3 := hid h3; have H4 := hid h4; have HMS := hid hms
      clear h1 h2 h3 h4 sgn hbx hby hms
      by_cases hN : x.natAbs * y.natAbs = 0
      · have hrl : rl = 0 := by rw [← hlen, hN, words_zero]; rfl
        subst hrl
        have HN := hid hN
        clear hN hlen
        go_wp2_with fail
        go_region
        go_wp2_with fail
        first | go_end0 | refine bodyPost_ret (results_none rfl _ _ _) rfl ?_
        refine ⟨rfl, ?_⟩
        have hk := (Keeps.refl (fun k => k = pz ∨ InB az k) wc).drew
        refine IntRes.tail H1.out H2.out H3.out H4.out ?_ (by rw [Int.natAbs_mul])
        rw [HMS.out, HN.out]
        simp
      · have hrl : 0 < rl := by rw [← hlen]; exact words_length_pos hN
        have HN := hid hN
        clear hN hlen
        have hrl' : decide ((0:Int) < (rl:Int)) = true := by simp; omega
        by_cases hzx : pz = px
        · subst hzx
          clear d0
          have hyz : py ≠ pz := Ne.symm hxy
          go_wp2_with fail
          go_region
          go_wp2_with fail
          first | go_end0 | refine bodyPost_ret (results_none rfl _ _ _) rfl ?_
          refine ⟨rfl, ?_⟩
          have hk := (Keeps.refl (fun k => k = pz ∨ InB az k) wc).drew
          refine IntRes.tail H1.out H2.out H3.out H4.out ?_ (by rw [Int.natAbs_mul])
          rw [HMS.out, decide_eq_true HN.out]
          cases bx <;> cases bY <;> rfl
        · by_cases hzy : pz = py
          · subst hzy
            clear d0
            have hxz : px ≠ pz := hxy
            go_wp2_with fail
            go_region
            go_wp2_with fail
            first | go_end0 | refine bodyPost_ret (results_none rfl _ _ _) rfl ?_
            refine ⟨rfl, ?_⟩
            have hk := (Keeps.refl (fun k => k = pz ∨ InB az k) wc).drew
            refine IntRes.tail H1.out H2.out H3.out H4.out ?_ (by rw [Int.natAbs_mul])
            rw [HMS.out, decide_eq_true HN.out]
            cases bx <;> cases bY <;> rfl
          · have hxz : px ≠ pz := Ne.symm hzx
            have hyz : py ≠ pz := Ne.symm hzy
            go_wp2_with fail
            go_region
            go_wp2_with fail
            first | go_end0 | refine bodyPost_ret (results_none rfl _ _ _) rfl ?_
            refine ⟨rfl, ?_⟩
            have hk := (Keeps.refl (fun k => k = pz ∨ InB az k) wc).drew
            refine IntRes.tail H1.out H2.out H3.out H4.out ?_ (by rw [Int.natAbs_mul])
            rw [HMS.out, decide_eq_true HN.out]
            cases bx <;> cases bY <;> rfl

theorem mul147_any (pz px py tz tx ty : Nat) (z x y : Int) (az ax ay : Option Addr) (lz cz lx cx ly cy : Nat) (w : World)
    (hz : IntS w pz tz z az lz cz) (hx : IntS w px tx x ax lx cx) (hy : IntS w py ty y ay ly cy) (G : Glob w)
    (hax : pz ≠ px → ∀ k, InB az k → ¬ InB ax k) (hay : pz ≠ py → ∀ k, InB az k → ¬ InB ay k) (hlx : lx < 12) (hly : ly < 12) :
    Calls Tryz.prog 147 #[.pointer (some ⟨pz, 0, none⟩), .pointer (some ⟨px, 0, none⟩), .pointer (some ⟨py, 0, none⟩)] w fun e w' =>
      e = .returned (.pointer (some ⟨pz, 0, none⟩)) ∧ IntRes w pz tz az cz (x * y) w' := by
  have H := hid (mul198_any pz px py tz tx ty z x y az ax ay lz cz lx cx ly cy w hz hx hy G hax hay hlx hly)
  clear hz hx hy G hax hay hlx hly
  go_enter Tryz.func147, Tryz.ntmps147
  go_wp2_with fail
  refine H.out.mono ?_
  rintro e w1 ⟨rfl, hk⟩
  have hk := hid hk
  go_wp2_with fail
  go_ret
  exact ⟨rfl, hk.out⟩
end Go.Proofs
namespace Go.Proofs
open Go.RowKit
set_option maxHeartbeats 800000
set_option linter.unusedVariables false
set_option linter.unusedSimpArgs false
set_option maxRecDepth 100000

/-- A quotient and a fresh rest. -/
def DivQ (w : World) (a : Option Addr) (c : Nat) (N d : Nat) (e : Ending) (w' : World) : Prop :=
  ∃ qa ql qc ra rl rc, e = .returned (.tuple #[.slice qa ql qc, .slice ra rl rc]) ∧ Rd w' qa ql qc (words (N / d)) ∧ Into w a c qa qc ∧ Rd w' ra rl rc (words (N % d)) ∧ Keeps (InB a) w w'

theorem div199_one (a : Option Addr) (l c : Nat) (L : List Nat) (x : Option Addr) (xl xc N : Nat) (y : Option Addr) (yc d : Nat) (w : World)
    (h : Rd w a l c L) (hx : Rd w x xl xc (words N)) (hy : Rd w y 1 yc (words d)) (hxl : xl ≤ 400000) (hd1 : d ≠ 1) (hax : Al a c x xc) :
    Calls Tryz.prog 199 #[.slice a l c, .pointer none, .slice none 0 0, .slice x xl xc, .slice y 1 yc] w (DivQ w a c N d) := by
  have hlen := hy.length
  have hd0 : d ≠ 0 := by rintro rfl; rw [words_zero] at hlen; cases hlen
  have hdw : d < W64 ∧ (words d).getD 0 0 = d := by
    have h1 := val_words d
    have h2 := words_words d
    match hw : words d, hlen with
    | [x0], _ =>
      rw [hw] at h1 h2
      have h3 : x0 = d := by simpa using h1
      exact ⟨by have := h2.getD 0; simpa [h3] using this, by simpa using h3⟩
  obtain ⟨yb, yo, rfl, hyc⟩ := hy.cell (by omega)
  have c0 := hyc 0 (by omega)
  rw [Nat.add_zero, hdw.2] at c0
  have HC := hid (divW_any a l c L x xl xc N d w h hx hxl hd0 hd1 hdw.1 hax)
  have H := hid h
  have Hd := hid hdw.1
  have Hd0 := hid hd0
  clear h hx hy hax hyc hdw hlen hd0 hd1
  go_enter Tryz.func199, Tryz.ntmps199
  go_wp2_with fail
  refine HC.out.mono ?_
  rintro e w1 ⟨qa, ql, qc, rfl, h1, h2, h3⟩
  obtain ⟨rr, hrr⟩ : ∃ rr, rr = N % d := ⟨_, rfl⟩
  rw [← hrr]
  have H1 := hid h1; have H2 := hid h2; have H3 := hid h3; have Hrr := hid hrr
  clear h1 h2 h3 hrr
  go_wp2_with fail
  refine (setWord_any none 0 0 [] rr w1 (.inl ⟨rfl, rfl, rfl, rfl⟩) (by rw [Hrr.out]; exact Nat.lt_trans (Nat.mod_lt _ (Nat.pos_of_ne_zero Hd0.out)) Hd.out)).mono ?_
  rintro e w2 ⟨ra, rl, rc, rfl, k1, k2, k3⟩
  have K1 := hid k1; have K2 := hid k2; have K3 := hid k3
  clear k1 k2 k3
  go_wp2_with fail
  go_ret2
  refine ⟨_, _, _, _, _, _, rfl, H1.out.keep K3.out ?_, H2.out, by rw [← Hrr.out]; exact K1.out, H3.out.trans (K3.out.mono ?_)⟩
  · intro k _ hk
    obtain ⟨o, ho⟩ := hk
    cases ho
  · intro k _ hk
    obtain ⟨o, ho⟩ := hk
    cases ho
end Go.Proofs
