/- Parts of the proofs over the numbers of any length: OneEnv. -/
import Derived.Test.YtacbllkmcldniaaGreatDoorOneA
import Derived.Test.YtacbllkmcldniaaGreatDoorShiftB
set_option linter.unusedSimpArgs false
set_option linter.unusedVariables false
namespace Go.Proofs
open Go.RowKit
set_option maxHeartbeats 1000000
set_option linter.unusedVariables false
set_option linter.unusedSimpArgs false
set_option maxRecDepth 100000

theorem Env.neg183 {S : Nat → Prop} {w0 w : World} {V : Nat → Option (TypeId × Int)} (h : Env S w0 w V) {pz px : Nat} {tz tx : TypeId} {z x : Int} (hz : V pz = some (tz, z)) (hx : V px = some (tx, x)) (h1 : x.natAbs < W64 ^ 200) :
    Calls Tryz.prog 183 #[.pointer (some ⟨pz, 0, none⟩), .pointer (some ⟨px, 0, none⟩)] w fun e w' => e = .returned (.pointer (some ⟨pz, 0, none⟩)) ∧ Env S w0 w' (upd V pz tz (-x)) := by
  by_cases hp : pz = px
  · subst hp
    rw [hz] at hx
    cases hx
    exact h.op1 hz fun az lz cz g => neg183_of pz pz tz z az cz w ((set160_same pz tz z az lz cz w g).mono (by rintro e w' ⟨rfl, rfl⟩; exact ⟨rfl, az, lz, cz, g, Into.refl _ _ _, Keeps.refl _ _⟩))
  · exact h.op2 hz hx fun az ax lz cz lx cx g1 g2 a1 _ => neg183_of pz px tz x az cz w (set160_other pz px tz tx z x az ax lz cz lx cx w g1 g2 hp (a1 hp) (Nat.le_trans (g2.len h1) (by omega)))
theorem Env.abs184 {S : Nat → Prop} {w0 w : World} {V : Nat → Option (TypeId × Int)} (h : Env S w0 w V) {pz px : Nat} {tz tx : TypeId} {z x : Int} (hz : V pz = some (tz, z)) (hx : V px = some (tx, x)) (h1 : x.natAbs < W64 ^ 200) :
    Calls Tryz.prog 184 #[.pointer (some ⟨pz, 0, none⟩), .pointer (some ⟨px, 0, none⟩)] w fun e w' => e = .returned (.pointer (some ⟨pz, 0, none⟩)) ∧ Env S w0 w' (upd V pz tz (x.natAbs : Int)) := by
  by_cases hp : pz = px
  · subst hp
    rw [hz] at hx
    cases hx
    exact h.op1 hz fun az lz cz g => abs184_of pz pz tz z az cz w ((set160_same pz tz z az lz cz w g).mono (by rintro e w' ⟨rfl, rfl⟩; exact ⟨rfl, az, lz, cz, g, Into.refl _ _ _, Keeps.refl _ _⟩))
  · exact h.op2 hz hx fun az ax lz cz lx cx g1 g2 a1 _ => abs184_of pz px tz x az cz w (set160_other pz px tz tx z x az ax lz cz lx cx w g1 g2 hp (a1 hp) (Nat.le_trans (g2.len h1) (by omega)))
theorem Env.set160 {S : Nat → Prop} {w0 w : World} {V : Nat → Option (TypeId × Int)} (h : Env S w0 w V) {pz px : Nat} {tz tx : TypeId} {z x : Int} (hz : V pz = some (tz, z)) (hx : V px = some (tx, x)) (h1 : x.natAbs < W64 ^ 200) :
    Calls Tryz.prog 160 #[.pointer (some ⟨pz, 0, none⟩), .pointer (some ⟨px, 0, none⟩)] w fun e w' => e = .returned (.pointer (some ⟨pz, 0, none⟩)) ∧ Env S w0 w' (upd V pz tz x) := by
  by_cases hp : pz = px
  · subst hp
    rw [hz] at hx
    cases hx
    exact h.op1 hz fun az lz cz g => ((set160_same pz tz z az lz cz w g).mono (by rintro e w' ⟨rfl, rfl⟩; exact ⟨rfl, az, lz, cz, g, Into.refl _ _ _, Keeps.refl _ _⟩))
  · exact h.op2 hz hx fun az ax lz cz lx cx g1 g2 a1 _ => set160_other pz px tz tx z x az ax lz cz lx cx w g1 g2 hp (a1 hp) (Nat.le_trans (g2.len h1) (by omega))
theorem Env.not185 {S : Nat → Prop} {w0 w : World} {V : Nat → Option (TypeId × Int)} (h : Env S w0 w V) {pz px : Nat} {tz tx : TypeId} {z x : Int} (hz : V pz = some (tz, z)) (hx : V px = some (tx, x)) (h1 : x.natAbs < W64 ^ 200) :
    Calls Tryz.prog 185 #[.pointer (some ⟨pz, 0, none⟩), .pointer (some ⟨px, 0, none⟩)] w fun e w' => e = .returned (.pointer (some ⟨pz, 0, none⟩)) ∧ Env S w0 w' (upd V pz tz (-x - 1)) := by
  refine h.op2 hz hx fun az ax lz cz lx cx g1 g2 a1 a2 => Go.Proofs.not185 pz px tz tx z x az ax lz cz lx cx w g1 g2 ?_ (Nat.le_trans (g2.len h1) (by omega))
  by_cases hp : pz = px
  · subst hp
    obtain ⟨_, h2, h3, h4⟩ := IntS.same g1 g2
    exact .inl ⟨h2, h3, h4⟩
  · exact .inr (a1 hp)
end Go.Proofs
