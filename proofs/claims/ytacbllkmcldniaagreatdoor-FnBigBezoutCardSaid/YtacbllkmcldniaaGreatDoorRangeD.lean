/- Parts of the proofs over the numbers of any length: Env. -/
import Derived.Test.YtacbllkmcldniaaGreatDoorRangeB
import Derived.Test.YtacbllkmcldniaaGreatDoorMadeA
set_option linter.unusedSimpArgs false
set_option linter.unusedVariables false
namespace Go.Proofs
open Go.RowKit
set_option maxHeartbeats 400000
set_option linter.unusedVariables false
set_option linter.unusedSimpArgs false
set_option maxRecDepth 100000

/-! ### Numbers that a call has made: each in a block of its own, their arrays apart -/

/-- The numbers at the addresses that V tells, all made since w0; outside of S nothing old has turned. -/
structure Env (S : Nat → Prop) (w0 w : World) (V : Nat → Option (TypeId × Int)) : Prop where
  keeps : Keeps S w0 w
  old : ∀ k, S k → k < w0.heap.size
  own : ∃ f : Nat → Option Addr × Nat × Nat, (∀ p t z, V p = some (t, z) → w0.heap.size ≤ p ∧ IntS w p t z (f p).1 (f p).2.1 (f p).2.2 ∧ (∀ k, InB (f p).1 k → w0.heap.size ≤ k)) ∧
    ∀ p q, (V p).isSome → (V q).isSome → p ≠ q → ∀ k, InB (f p).1 k → ¬ InB (f q).1 k

/-- V with one number more, or another one. -/
def upd (V : Nat → Option (TypeId × Int)) (p : Nat) (t : TypeId) (z : Int) : Nat → Option (TypeId × Int) := fun q => if q = p then some (t, z) else V q
theorem upd_eq (V : Nat → Option (TypeId × Int)) (p : Nat) (t : TypeId) (z : Int) : upd V p t z p = some (t, z) := by simp [upd]
theorem upd_ne (V : Nat → Option (TypeId × Int)) {p q : Nat} (t : TypeId) (z : Int) (h : q ≠ p) : upd V p t z q = V q := by simp [upd, h]
def noInts : Nat → Option (TypeId × Int) := fun _ => none

theorem Env.start (S : Nat → Prop) (w : World) (hS : ∀ k, S k → k < w.heap.size) : Env S w w noInts :=
  ⟨Keeps.refl _ _, hS, fun _ => (none, 0, 0), fun p t z h => (by cases h), fun p q h => (by cases h)⟩
theorem Env.mono {S : Nat → Prop} {w0 w : World} {V V' : Nat → Option (TypeId × Int)} (h : Env S w0 w V) (hV : ∀ p t z, V' p = some (t, z) → V p = some (t, z)) : Env S w0 w V' := by
  obtain ⟨hk, ho, f, h1, h2⟩ := h
  have hs : ∀ p, (V' p).isSome → (V p).isSome := by
    intro p hp
    obtain ⟨⟨t, z⟩, hx⟩ := Option.isSome_iff_exists.mp hp
    rw [hV p t z hx]; rfl
  exact ⟨hk, ho, f, fun p t z hp => h1 p t z (hV p t z hp), fun p q hp hq => h2 p q (hs p hp) (hs q hq)⟩
/-- What turns nothing of what is told. -/
theorem Env.after {S T : Nat → Prop} {w0 w w' : World} {V : Nat → Option (TypeId × Int)} (h : Env S w0 w V) (hk : Keeps T w w') (hT : ∀ k, k < w.heap.size → T k → S k) : Env S w0 w' V := by
  obtain ⟨hk0, ho, f, h1, h2⟩ := h
  refine ⟨hk0.trans' hk (fun i hi ht => hT i (Nat.lt_of_lt_of_le hi hk0.size) ht), ho, f, fun p t z hp => ?_, h2⟩
  obtain ⟨a1, a2, a3⟩ := h1 p t z hp
  have hpl : p < w.heap.size := a2.row.lt
  refine ⟨a1, a2.keep hk (fun ht => ?_) (fun k hb ht => ?_), a3⟩
  · have := ho p (hT p hpl ht); omega
  · have := ho k (hT k (a2.rd.lt hb) ht); have := a3 k hb; omega
theorem Env.same {S : Nat → Prop} {w0 w w' : World} {V : Nat → Option (TypeId × Int)} (h : Env S w0 w V) (hk : Keeps (fun _ => False) w w') : Env S w0 w' V := h.after hk (fun _ _ h => h.elim)
theorem Env.drewN {S : Nat → Prop} {w0 w : World} {V : Nat → Option (TypeId × Int)} (h : Env S w0 w V) (n : Nat) : Env S w0 (w.drewN n) V := h.same ((Keeps.refl _ w).drewN n)
theorem Env.drew {S : Nat → Prop} {w0 w : World} {V : Nat → Option (TypeId × Int)} (h : Env S w0 w V) : Env S w0 w.drew V := h.same ((Keeps.refl _ w).drew)
theorem Env.get {S : Nat → Prop} {w0 w : World} {V : Nat → Option (TypeId × Int)} (h : Env S w0 w V) {p : Nat} {t : TypeId} {z : Int} (hp : V p = some (t, z)) : IntAt w p t z := by
  obtain ⟨_, _, f, h1, _⟩ := h
  exact (h1 p t z hp).2.1.at
theorem Env.ge {S : Nat → Prop} {w0 w : World} {V : Nat → Option (TypeId × Int)} (h : Env S w0 w V) {p : Nat} {t : TypeId} {z : Int} (hp : V p = some (t, z)) : w0.heap.size ≤ p := by
  obtain ⟨_, _, f, h1, _⟩ := h
  exact (h1 p t z hp).1
theorem Env.lt {S : Nat → Prop} {w0 w : World} {V : Nat → Option (TypeId × Int)} (h : Env S w0 w V) {p : Nat} {t : TypeId} {z : Int} (hp : V p = some (t, z)) : p < w.heap.size := by
  obtain ⟨_, _, f, h1, _⟩ := h
  exact (h1 p t z hp).2.1.row.lt
/-- The number at p has turned. -/
theorem Env.res {S : Nat → Prop} {w0 w w' : World} {V : Nat → Option (TypeId × Int)} {p : Nat} {t : TypeId} {z r : Int} {f : Nat → Option Addr × Nat × Nat} (hk0 : Keeps S w0 w) (ho : ∀ k, S k → k < w0.heap.size)
    (h1 : ∀ p t z, V p = some (t, z) → w0.heap.size ≤ p ∧ IntS w p t z (f p).1 (f p).2.1 (f p).2.2 ∧ (∀ k, InB (f p).1 k → w0.heap.size ≤ k))
    (h2 : ∀ p q, (V p).isSome → (V q).isSome → p ≠ q → ∀ k, InB (f p).1 k → ¬ InB (f q).1 k)
    (hp : V p = some (t, z)) (hr : IntRes w p t (f p).1 (f p).2.2 r w') : Env S w0 w' (upd V p t r) := by
  obtain ⟨a, l, c, k1, k2, k3⟩ := hr
  obtain ⟨p1, p2, p3⟩ := h1 p t z hp
  have hsz := hk0.size
  have hps : (V p).isSome := by rw [hp]; rfl
  have hfresh : ∀ k, InB a k → InB (f p).1 k ∨ w.heap.size ≤ k := fun k hk => k2.inB hk
  have hkeep : Keeps S w0 w' := hk0.trans' k3 (fun i hi h => by
    rcases h with rfl | h
    · omega
    · have := p3 i h; omega)
  refine ⟨hkeep, ho, fun q => if q = p then (a, l, c) else f q, fun q t' z' hq => ?_, fun q1 q2 hq1 hq2 hne k hk => ?_⟩
  · by_cases hqp : q = p
    · subst hqp
      rw [upd_eq] at hq
      cases hq
      simp only [if_true]
      refine ⟨p1, k1, fun k hk => ?_⟩
      rcases hfresh k hk with h | h
      · exact p3 k h
      · omega
    · rw [upd_ne _ _ _ hqp] at hq
      obtain ⟨q1, q2, q3⟩ := h1 q t' z' hq
      simp only [if_neg hqp]
      have hqs : (V q).isSome := by rw [hq]; rfl
      refine ⟨q1, q2.keep k3 ?_ ?_, q3⟩
      · rintro (h | h)
        · exact hqp h
        · exact p2.rd.not_row q2.row h
      · rintro k hb (h | h)
        · subst h; exact q2.rd.not_row p2.row hb
        · exact h2 p q hps hqs (Ne.symm hqp) k h hb
  · by_cases e1 : q1 = p
    · subst e1
      have e2 : q2 ≠ q1 := Ne.symm hne
      simp only [if_true, if_neg e2] at hk ⊢
      rw [upd_ne _ _ _ e2] at hq2
      rcases hfresh k hk with h | h
      · exact h2 q1 q2 hps hq2 hne k h
      · intro hb
        obtain ⟨⟨t', z'⟩, hx⟩ := Option.isSome_iff_exists.mp hq2
        have := (h1 q2 t' z' hx).2.1.rd.lt hb
        omega
    · rw [upd_ne _ _ _ e1] at hq1
      simp only [if_neg e1] at hk
      by_cases e2 : q2 = p
      · subst e2
        simp only [if_true]
        intro hb
        rcases hfresh k hb with h | h
        · exact h2 q1 q2 hq1 hps hne k hk h
        · obtain ⟨⟨t', z'⟩, hx⟩ := Option.isSome_iff_exists.mp hq1
          have := (h1 q1 t' z' hx).2.1.rd.lt hk
          omega
      · rw [upd_ne _ _ _ e2] at hq2
        simp only [if_neg e2]
        exact h2 q1 q2 hq1 hq2 hne k hk
/-- A number that is new. -/
theorem Env.add {S : Nat → Prop} {w0 w w' : World} {V : Nat → Option (TypeId × Int)} {p : Nat} {t : TypeId} {z : Int} {a : Option Addr} {l c : Nat} (h : Env S w0 w V) (hk : Keeps (fun _ => False) w w')
    (hp : w.heap.size ≤ p) (hi : IntS w' p t z a l c) (ha : ∀ k, InB a k → w.heap.size ≤ k) : Env S w0 w' (upd V p t z) := by
  obtain ⟨hk0, ho, f, h1, h2⟩ := h.same hk
  obtain ⟨hk00, _, f0, g1, _⟩ := h
  have hsz := hk00.size
  have hVp : ∀ q, (V q).isSome → q ≠ p ∧ ∀ k, InB (f q).1 k → k < w'.heap.size := by
    intro q hq
    obtain ⟨⟨t', z'⟩, hx⟩ := Option.isSome_iff_exists.mp hq
    have hl := (g1 q t' z' hx).2.1.row.lt
    exact ⟨by omega, fun k hb => (h1 q t' z' hx).2.1.rd.lt hb⟩
  have hold : ∀ q, (V q).isSome → ∀ k, InB (f q).1 k → k < w.heap.size := by
    intro q hq k hb
    obtain ⟨⟨t', z'⟩, hx⟩ := Option.isSome_iff_exists.mp hq
    have e1 := (h1 q t' z' hx).2.1
    have e2 := (g1 q t' z' hx).2.1
    have e3 := IntS.same e1 (e2.keep hk (fun h => h) (fun _ _ h => h))
    rw [e3.2.1] at hb
    exact e2.rd.lt hb
  refine ⟨hk0, ho, fun q => if q = p then (a, l, c) else f q, fun q t' z' hq => ?_, fun q1 q2 hq1 hq2 hne k hb => ?_⟩
  · by_cases hqp : q = p
    · subst hqp
      rw [upd_eq] at hq
      cases hq
      simp only [if_true]
      exact ⟨by omega, hi, fun k hk => by have := ha k hk; omega⟩
    · rw [upd_ne _ _ _ hqp] at hq
      simp only [if_neg hqp]
      exact h1 q t' z' hq
  · by_cases e1 : q1 = p
    · subst e1
      have e2 : q2 ≠ q1 := Ne.symm hne
      simp only [if_true, if_neg e2] at hb ⊢
      rw [upd_ne _ _ _ e2] at hq2
      intro hb2
      have := hold q2 hq2 k hb2
      have := ha k hb
      omega
    · rw [upd_ne _ _ _ e1] at hq1
      simp only [if_neg e1] at hb
      by_cases e2 : q2 = p
      · subst e2
        simp only [if_true]
        intro hb2
        have := hold q1 hq1 k hb
        have := ha k hb2
        omega
      · rw [upd_ne _ _ _ e2] at hq2
        simp only [if_neg e2]
        exact h2 q1 q2 hq1 hq2 hne k hb
/-- A new number, 0. -/
theorem Env.new {S : Nat → Prop} {w0 w : World} {V : Nat → Option (TypeId × Int)} (h : Env S w0 w V) (t : TypeId) : Env S w0 (w.alloc (.cells #[.bool false, .slice none 0 0] t)) (upd V w.heap.size t 0) :=
  h.add ((Keeps.refl _ w).alloc _) (Nat.le_refl _) (intS_new w t) (fun k hk => by obtain ⟨o, ho⟩ := hk; cases ho)

/-- How an operation on three numbers is used. -/
theorem Env.op {S : Nat → Prop} {w0 w : World} {V : Nat → Option (TypeId × Int)} (h : Env S w0 w V) {pz px py : Nat} {tz tx ty : TypeId} {z x y : Int} (hz : V pz = some (tz, z)) (hx : V px = some (tx, x)) (hy : V py = some (ty, y))
    {K : FuncId} {r : Int} (hc : ∀ (az ax ay : Option Addr) (lz cz lx cx ly cy : Nat), IntS w pz tz z az lz cz → IntS w px tx x ax lx cx → IntS w py ty y ay ly cy →
      (pz ≠ px → ∀ k, InB az k → ¬ InB ax k) → (pz ≠ py → ∀ k, InB az k → ¬ InB ay k) → (pz = px → az = ax ∧ cz = cx) → (pz = py → az = ay ∧ cz = cy) →
      Calls Tryz.prog K #[.pointer (some ⟨pz, 0, none⟩), .pointer (some ⟨px, 0, none⟩), .pointer (some ⟨py, 0, none⟩)] w fun e w' => e = .returned (.pointer (some ⟨pz, 0, none⟩)) ∧ IntRes w pz tz az cz r w') :
    Calls Tryz.prog K #[.pointer (some ⟨pz, 0, none⟩), .pointer (some ⟨px, 0, none⟩), .pointer (some ⟨py, 0, none⟩)] w fun e w' => e = .returned (.pointer (some ⟨pz, 0, none⟩)) ∧ Env S w0 w' (upd V pz tz r) := by
  obtain ⟨hk0, ho, f, h1, h2⟩ := h
  have ez : (V pz).isSome := by rw [hz]; rfl
  have ex : (V px).isSome := by rw [hx]; rfl
  have ey : (V py).isSome := by rw [hy]; rfl
  refine (hc _ _ _ _ _ _ _ _ _ (h1 pz tz z hz).2.1 (h1 px tx x hx).2.1 (h1 py ty y hy).2.1 (fun hne => h2 pz px ez ex hne) (fun hne => h2 pz py ez ey hne) ?_ ?_).mono ?_
  · rintro rfl; exact ⟨rfl, rfl⟩
  · rintro rfl; exact ⟨rfl, rfl⟩
  · rintro e w' ⟨rfl, hr⟩
    exact ⟨rfl, Env.res hk0 ho h1 h2 hz hr⟩
end Go.Proofs
