/- Parts of the proofs over the numbers of any length: Stores. -/
import Derived.Test.YtacbllkmcldniaaGreatDoorIntA
set_option linter.unusedSimpArgs false
set_option linter.unusedVariables false
namespace Go.Proofs
open Go.RowKit
set_option maxHeartbeats 400000
set_option linter.unusedVariables false
set_option linter.unusedSimpArgs false

/-- The results' cells, set one after the other. -/
def stores (w : World) : List (Nat × TypeId × Value) → World
  | [] => w
  | x :: r => stores (w.setCell ⟨x.1, 0, none⟩ x.2.2) r
theorem stores_keeps (L : List (Nat × TypeId × Value)) : ∀ w, Keeps (OutK L) w (stores w L) := by
  induction L with
  | nil => exact fun w => Keeps.refl _ w
  | cons x r ih =>
    intro w
    have h1 : Keeps (OutK (x :: r)) w (w.setCell ⟨x.1, 0, none⟩ x.2.2) := (Keeps.refl _ w).setCell _ (.inl ⟨x, .head _, rfl⟩) _
    exact h1.trans ((ih _).mono (fun i _ ⟨y, hy, he⟩ => ⟨y, .tail _ hy, he⟩))
theorem stores_other {L : List (Nat × TypeId × Value)} {p : Nat} {t : TypeId} {vs : List Value} : ∀ {w : World}, p ∉ L.map (·.1) → RowAt w p t vs → RowAt (stores w L) p t vs := by
  induction L with
  | nil => exact fun _ h => h
  | cons x r ih =>
    intro w hp h
    simp only [List.map_cons, List.mem_cons, not_or] at hp
    exact ih hp.2 (h.other (show (⟨x.1, 0, none⟩ : Addr).block ≠ p from fun he => hp.1 he.symm) _)
theorem stores_outL {L : List (Nat × TypeId × Value)} : ∀ {w : World}, (L.map (·.1)).Nodup → (∀ x ∈ L, ∃ v, RowAt w x.1 x.2.1 [v]) → OutL (stores w L) L := by
  induction L with
  | nil => intro w _ _ x hx; cases hx
  | cons x r ih =>
    intro w hn h
    simp only [List.map_cons, List.nodup_cons] at hn
    obtain ⟨v, hv⟩ := h x (.head _)
    intro y hy
    cases hy with
    | head =>
      have h1 := hv.set 0 x.2.2
      simp only [List.set_cons_zero] at h1
      exact (show RowAt (stores (w.setCell ⟨x.1, 0, none⟩ x.2.2) r) _ _ _ from stores_other hn.1 h1)
    | tail _ hy =>
      refine ih hn.2 (fun z hz => ?_) y hy
      obtain ⟨u, hu⟩ := h z (.tail _ hz)
      refine ⟨u, hu.other (show (⟨x.1, 0, none⟩ : Addr).block ≠ z.1 from fun he => hn.1 ?_) _⟩
      have he' : x.1 = z.1 := he
      rw [he']
      exact List.mem_map_of_mem hz
/-- What a store wants of a results' cell. -/
theorem RowAt.st {w : World} {p : Nat} {t : TypeId} {v : Value} (h : RowAt w p t [v]) : w.cell? ⟨p, 0, none⟩ = some v ∧ w.frozen? ⟨p, 0, none⟩ = false := ⟨h.cell 0, h.frozen 0⟩
end Go.Proofs
