/- Parts of the proofs over the numbers of any length: Zof. -/
import Derived.Test.YtacbllkmcldniaaGreatDoorOneD
import Derived.Test.YtacbllkmcldniaaGreatDoorSpecA
set_option linter.unusedSimpArgs false
set_option linter.unusedVariables false
namespace Go.Proofs
open Go.RowKit
set_option maxHeartbeats 400000
set_option linter.unusedVariables false
set_option linter.unusedSimpArgs false
set_option maxRecDepth 100000

theorem NumV.get {w : World} {b : Nat} {n : Bool} {a : Option Addr} {l c : Nat} {z : Int} (h : NumV w b (.agg #[.bool n, .slice a l c]) z) : RdV w a c (digs z.natAbs) ∧ (∀ k, InB a k → b ≤ k) ∧ l = (digs z.natAbs).length ∧ n = decide (z < 0) := by
  obtain ⟨a', c', he, g1, g2⟩ := h
  simp only [Value.agg.injEq, Array.mk.injEq, List.cons.injEq, Value.bool.injEq, Value.slice.injEq, and_true] at he
  obtain ⟨e1, e2, e3, e4⟩ := he
  subst e2; subst e4
  exact ⟨g1, g2, e3, e1⟩
theorem RdV.inj {w : World} {a : Option Addr} {c : Nat} {L M : List Nat} (h : RdV w a c L) (k : RdV w a c M) (hl : L.length = M.length) : L = M := by
  rcases h.2.2 with rfl | ⟨b, rfl, hc⟩
  · exact (List.length_eq_zero_iff.1 hl.symm).symm
  · rcases k.2.2 with rfl | ⟨b', he, kc⟩
    · exact List.length_eq_zero_iff.1 hl
    · cases he
      apply List.ext_getElem hl
      intro i h1 h2
      have := (hc i h1).symm.trans (kc i h2)
      simp only [Option.some.injEq, Value.int.injEq, true_and] at this
      simp only [List.getD_eq_getElem?_getD, List.getElem?_eq_getElem h1, List.getElem?_eq_getElem h2, Option.getD_some] at this
      omega
theorem NumV.inj {w : World} {b b' : Nat} {v : Value} {z z' : Int} (h : NumV w b v z) (k : NumV w b' v z') : z = z' := by
  obtain ⟨a, c, rfl, h2, _⟩ := h
  obtain ⟨a', c', he, k2, _⟩ := k
  simp only [Value.agg.injEq, Array.mk.injEq, List.cons.injEq, Value.bool.injEq, Value.slice.injEq, and_true] at he
  obtain ⟨e1, rfl, e3, rfl⟩ := he
  have e4 := digs_inj (RdV.inj h2 k2 e3)
  have e5 : (z < 0) ↔ (z' < 0) := by simpa using e1
  omega
/-- The number that a variable holds. -/
def NumP (w : World) (p : Nat) (z : Int) : Prop := ∃ b, NumE w b p z
theorem NumP.inj {w : World} {p : Nat} {z z' : Int} (h : NumP w p z) (k : NumP w p z') : z = z' := by
  obtain ⟨b, n, a, l, c, h1, h2⟩ := h
  obtain ⟨b', n', a', l', c', k1, k2⟩ := k
  have e0 := (h1.cell 0).symm.trans (k1.cell 0)
  have e1 := (h1.cell 1).symm.trans (k1.cell 1)
  simp only [List.getElem?_cons_zero, List.getElem?_cons_succ, Option.some.injEq, Value.bool.injEq, Value.slice.injEq] at e0 e1
  subst e0
  obtain ⟨rfl, rfl, rfl⟩ := e1
  exact h2.inj k2
noncomputable def zOf (w : World) (p : Nat) : Int := by
  classical exact if h : ∃ z, NumP w p z then Classical.choose h else 0
theorem zOf_eq {w : World} {b p : Nat} {z : Int} (h : NumE w b p z) : zOf w p = z := by
  unfold zOf
  have hx : ∃ z, NumP w p z := ⟨z, b, h⟩
  rw [dif_pos hx]
  exact (Classical.choose_spec hx).inj ⟨b, h⟩
theorem cmp30_z (vx vy : Value) (x y : Int) (bx b' : Nat) (w : World) (hx : NumV w bx vx x) (hy : NumV w b' vy y) (hlx : (digs x.natAbs).length ≤ 40000) (hly : (digs y.natAbs).length ≤ 40000) :
    Calls Tryz.prog 30 #[vx, vy] w fun e w' => e = .returned (.int .i64 (cmpZ x y)) ∧ Keeps (fun _ => False) w w' := by
  obtain ⟨a, c, rfl, hr, _⟩ := hx
  obtain ⟨a', c', rfl, hr', _⟩ := hy
  have := cmp30_any (decide (x < 0)) (decide (y < 0)) a a' c c' _ _ w hr hr' (by omega) (by omega)
  rwa [cmpN_z] at this
theorem cmp_eq0 (x y : Nat) : ((cmpZ (x : Int) (y : Int)) == 0) = decide (x = y) := by
  unfold cmpZ
  by_cases h : x = y
  · subst h; simp
  · rcases Nat.lt_or_ge x y with h1 | h1
    · rw [if_pos (by omega)]; simp [h]
    · rw [if_neg (by omega), if_pos (by omega)]; simp [h]
theorem cmp_le0 (x y : Nat) : decide ((cmpZ (x : Int) (y : Int)) ≤ 0) = decide (x ≤ y) := by
  unfold cmpZ
  by_cases h : x < y
  · rw [if_pos (by omega)]
    have : x ≤ y := by omega
    simp [this]
  · by_cases h2 : y < x
    · rw [if_neg (by omega), if_pos (by omega)]
      have : ¬ x ≤ y := by omega
      simp [this]
    · rw [if_neg (by omega), if_neg (by omega)]
      have : x ≤ y := by omega
      simp [this]
end Go.Proofs
