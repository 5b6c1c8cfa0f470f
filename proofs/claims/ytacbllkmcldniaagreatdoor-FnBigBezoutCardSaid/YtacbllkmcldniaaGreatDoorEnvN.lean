/- Parts of the proofs over the numbers of any length: NumEnv. -/
import Derived.Test.YtacbllkmcldniaaGreatDoorRangeD
import Derived.Test.YtacbllkmcldniaaGreatDoorBaseD
import Derived.Test.YtacbllkmcldniaaGreatDoorQSA
set_option linter.unusedSimpArgs false
set_option linter.unusedVariables false
namespace Go.Proofs
open Go.RowKit
set_option maxHeartbeats 1000000
set_option linter.unusedVariables false
set_option linter.unusedSimpArgs false
set_option maxRecDepth 100000

theorem number_env {S : Nat → Prop} {w0 w : World} {V : Nat → Option (TypeId × Int)} (h : Env S w0 w V) (sa : ByteArray) (na : Bool) (la : Nat) (da : Nat → Nat) (x : Int) (n : Nat) (hn : n ≤ w.heap.size) (ta : NumText sa na la da) (hx : x = numZ na (dval da la)) (G : Glob w) :
    Calls Tryz.prog 67 #[.string sa] w fun e w' => ∃ p, e = .returned (.pointer (some ⟨p, 0, none⟩)) ∧ n ≤ p ∧ p < w'.heap.size ∧ Env S w0 w' (upd V p 105 x) := by
  refine (number_int sa na la da w ta G).mono ?_
  rintro e w' ⟨p, a1, l1, c1, rfl, h1, h2, h3, h4⟩
  rw [← hx] at h2
  exact ⟨p, rfl, by omega, h2.row.lt, h.add h4 h1 h2 (Into.newer h3)⟩
theorem Env.new2 {S : Nat → Prop} {w0 w : World} {V : Nat → Option (TypeId × Int)} (h : Env S w0 w V) (t : TypeId) : Env S w0 ((w.alloc (.cells #[.bool false, .slice none 0 0] t)).alloc (.cells #[.bool false, .slice none 0 0] t)) (upd (upd V w.heap.size t 0) (w.heap.size + 1) t 0) := by
  have := (h.new t).new t
  rwa [show (w.alloc (.cells #[.bool false, .slice none 0 0] t)).heap.size = w.heap.size + 1 by simp] at this
/-- What is still spoken of. -/
theorem Env.two {S : Nat → Prop} {w0 w : World} {V : Nat → Option (TypeId × Int)} (h : Env S w0 w V) {p q t u : Nat} {x y : Int} (hp : V p = some (t, x)) (hq : V q = some (u, y)) : Env S w0 w (upd (upd noInts p t x) q u y) := by
  refine h.mono fun k t' z' hk => ?_
  by_cases h1 : k = q
  · subst h1; rw [upd_eq] at hk; rw [hq, hk]
  · rw [upd_ne _ _ _ h1] at hk
    by_cases h2 : k = p
    · subst h2; rw [upd_eq] at hk; rw [hp, hk]
    · rw [upd_ne _ _ _ h2] at hk; cases hk
theorem Env.one {S : Nat → Prop} {w0 w : World} {V : Nat → Option (TypeId × Int)} (h : Env S w0 w V) {p t : Nat} {x : Int} (hp : V p = some (t, x)) : Env S w0 w (upd noInts p t x) := by
  refine h.mono fun k t' z' hk => ?_
  by_cases h2 : k = p
  · subst h2; rw [upd_eq] at hk; rw [hp, hk]
  · rw [upd_ne _ _ _ h2] at hk; cases hk

end Go.Proofs
