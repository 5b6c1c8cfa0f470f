/- Parts of the proofs over the numbers of any length: ShEnv, Stores. -/
import Derived.Deep.RegionHeld3
import Derived.Test.YtacbllkmcldniaaGreatDoorShiftA
import Derived.Test.YtacbllkmcldniaaGreatDoorKeptA
import Derived.Test.YtacbllkmcldniaaGreatDoorIntA
set_option linter.unusedSimpArgs false
set_option linter.unusedVariables false
namespace Go.Proofs
open Go.RowKit
set_option maxHeartbeats 1000000
set_option linter.unusedVariables false
set_option linter.unusedSimpArgs false
set_option maxRecDepth 100000

theorem number_env {S : Nat → Prop} {w0 w : World} {V : Nat → Option (TypeId × Int)} (h : Env S w0 w V) (sa : ByteArray) (na : Bool) (la : Nat) (da : Nat → Nat) (x : Int) (n : Nat) (hn : n ≤ w.heap.size) (ta : NumText sa na la da) (hx : x = numZ na (dval da la)) (G : Glob w) :
    Calls Tryz.prog 67 #[.string sa] w fun e w' => ∃ p, e = .returned (.pointer (some ⟨p, 0, none⟩)) ∧ n ≤ p ∧ p < w'.heap.size ∧ Env S w0 w' (upd V p 105 x) := by
  refine (number_int sa na la da w ta G).mono ?_
  rintro e w' ⟨p, a1, l1, c1, rfl, h1, h2, h3, h4⟩
  rw [← hx] at h2
  exact ⟨p, rfl, by omega, h2.row.lt, h.add h4 h1 h2 (Into.newer h3)⟩
theorem Env.new2 {S : Nat → Prop} {w0 w : World} {V : Nat → Option (TypeId × Int)} (h : Env S w0 w V) (t : TypeId) : Env S w0 ((w.alloc (.cells #[.bool false, .slice none 0 0] t)).alloc (.cells #[.bool false, .slice none 0 0] t)) (upd (upd V w.heap.size t 0) (w.heap.size + 1) t 0) := by
  have := (h.new t).new t
  rwa [show (w.alloc (.cells #[.bool false, .slice none 0 0] t)).heap.size = w.heap.size + 1 by simp] at this
/-- What is still spoken of. -/
theorem Env.two {S : Nat → Prop} {w0 w : World} {V : Nat → Option (TypeId × Int)} (h : Env S w0 w V) {p q t u : Nat} {x y : Int} (hp : V p = some (t, x)) (hq : V q = some (u, y)) : Env S w0 w (upd (upd noInts p t x) q u y) := by
  refine h.mono fun k t' z' hk => ?_
  by_cases h1 : k = q
  · subst h1; rw [upd_eq] at hk; rw [hq, hk]
  · rw [upd_ne _ _ _ h1] at hk
    by_cases h2 : k = p
    · subst h2; rw [upd_eq] at hk; rw [hp, hk]
    · rw [upd_ne _ _ _ h2] at hk; cases hk
theorem Env.one {S : Nat → Prop} {w0 w : World} {V : Nat → Option (TypeId × Int)} (h : Env S w0 w V) {p t : Nat} {x : Int} (hp : V p = some (t, x)) : Env S w0 w (upd noInts p t x) := by
  refine h.mono fun k t' z' hk => ?_
  by_cases h2 : k = p
  · subst h2; rw [upd_eq] at hk; rw [hp, hk]
  · rw [upd_ne _ _ _ h2] at hk; cases hk

theorem Env.lsh166 {S : Nat → Prop} {w0 w : World} {V : Nat → Option (TypeId × Int)} (h : Env S w0 w V) {pz px : Nat} {tz tx : TypeId} {z x : Int} (s : Nat) (hz : V pz = some (tz, z)) (hx : V px = some (tx, x)) (h1 : x.natAbs < W64 ^ 200) (hs : s ≤ 1000000) :
    Calls Tryz.prog 166 #[.pointer (some ⟨pz, 0, none⟩), .pointer (some ⟨px, 0, none⟩), .int .u64 (s : Int)] w fun e w' => e = .returned (.pointer (some ⟨pz, 0, none⟩)) ∧ Env S w0 w' (upd V pz tz (x * ((2 ^ s : Nat) : Int))) := by
  by_cases hp : pz = px
  · subst hp
    rw [hz] at hx
    cases hx
    exact h.op1 hz fun az lz cz g => lsh166_same pz tz z az lz cz s w g (Nat.le_trans (g.len h1) (by omega)) hs
  · exact h.op2 hz hx fun az ax lz cz lx cx g1 g2 a1 _ => lsh166_other pz px tz tx z x az ax lz cz lx cx s w g1 g2 hp (a1 hp) (Nat.le_trans (g2.len h1) (by omega)) hs
theorem Env.rsh167 {S : Nat → Prop} {w0 w : World} {V : Nat → Option (TypeId × Int)} (h : Env S w0 w V) {pz px : Nat} {tz tx : TypeId} {z x : Int} (s : Nat) (hz : V pz = some (tz, z)) (hx : V px = some (tx, x)) (h1 : x.natAbs < W64 ^ 200) (hs : s ≤ 1000000) :
    Calls Tryz.prog 167 #[.pointer (some ⟨pz, 0, none⟩), .pointer (some ⟨px, 0, none⟩), .int .u64 (s : Int)] w fun e w' => e = .returned (.pointer (some ⟨pz, 0, none⟩)) ∧ Env S w0 w' (upd V pz tz (x / ((2 ^ s : Nat) : Int))) := by
  refine h.op2 hz hx fun az ax lz cz lx cx g1 g2 a1 a2 => Go.Proofs.rsh167 pz px tz tx z x az ax lz cz lx cx s w g1 g2 ?_ (Nat.le_trans (g2.len h1) (by omega)) hs
  by_cases hp : pz = px
  · subst hp
    obtain ⟨_, h2, h3, h4⟩ := IntS.same g1 g2
    exact .inl ⟨h2, h3, h4⟩
  · exact .inr (a1 hp)

end Go.Proofs
namespace Go.Proofs
open Go.RowKit
set_option maxHeartbeats 400000
set_option linter.unusedVariables false
set_option linter.unusedSimpArgs false

/-- The results' cells, set one after the other. -/
def stores (w : World) : List (Nat × TypeId × Value) → World
  | [] => w
  | x :: r => stores (w.setCell ⟨x.1, 0, none⟩ x.2.2) r
theorem stores_keeps (L : List (Nat × TypeId × Value)) : ∀ w, Keeps (OutK L) w (stores w L) := by
  induction L with
  | nil => exact fun w => Keeps.refl _ w
  | cons x r ih =>
    intro w
    have h1 : Keeps (OutK (x :: r)) w (w.setCell ⟨x.1, 0, none⟩ x.2.2) := (Keeps.refl _ w).setCell _ (.inl ⟨x, .head _, rfl⟩) _
    exact h1.trans ((ih _).mono (fun i _ ⟨y, hy, he⟩ => ⟨y, .tail _ hy, he⟩))
theorem stores_other {L : List (Nat × TypeId × Value)} {p : Nat} {t : TypeId} {vs : List Value} : ∀ {w : World}, p ∉ L.map (·.1) → RowAt w p t vs → RowAt (stores w L) p t vs := by
  induction L with
  | nil => exact fun _ h => h
  | cons x r ih =>
    intro w hp h
    simp only [List.map_cons, List.mem_cons, not_or] at hp
    exact ih hp.2 (h.other (show (⟨x.1, 0, none⟩ : Addr).block ≠ p from fun he => hp.1 he.symm) _)
theorem stores_outL {L : List (Nat × TypeId × Value)} : ∀ {w : World}, (L.map (·.1)).Nodup → (∀ x ∈ L, ∃ v, RowAt w x.1 x.2.1 [v]) → OutL (stores w L) L := by
  induction L with
  | nil => intro w _ _ x hx; cases hx
  | cons x r ih =>
    intro w hn h
    simp only [List.map_cons, List.nodup_cons] at hn
    obtain ⟨v, hv⟩ := h x (.head _)
    intro y hy
    cases hy with
    | head =>
      have h1 := hv.set 0 x.2.2
      simp only [List.set_cons_zero] at h1
      exact (show RowAt (stores (w.setCell ⟨x.1, 0, none⟩ x.2.2) r) _ _ _ from stores_other hn.1 h1)
    | tail _ hy =>
      refine ih hn.2 (fun z hz => ?_) y hy
      obtain ⟨u, hu⟩ := h z (.tail _ hz)
      refine ⟨u, hu.other (show (⟨x.1, 0, none⟩ : Addr).block ≠ z.1 from fun he => hn.1 ?_) _⟩
      have he' : x.1 = z.1 := he
      rw [he']
      exact List.mem_map_of_mem hz
/-- What a store wants of a results' cell. -/
theorem RowAt.st {w : World} {p : Nat} {t : TypeId} {v : Value} (h : RowAt w p t [v]) : w.cell? ⟨p, 0, none⟩ = some v ∧ w.frozen? ⟨p, 0, none⟩ = false := ⟨h.cell 0, h.frozen 0⟩
end Go.Proofs
