/- Parts of the proofs over the numbers of any length: EnvG, EnvG2. -/
import Derived.Test.YtacbllkmcldniaaGreatDoorRangeD
import Derived.Test.YtacbllkmcldniaaGreatDoorQSA
import Derived.Test.YtacbllkmcldniaaGreatDoorGcdP
set_option linter.unusedSimpArgs false
set_option linter.unusedVariables false
namespace Go.Proofs
open Go.RowKit
set_option maxHeartbeats 400000
set_option linter.unusedVariables false
set_option linter.unusedSimpArgs false
set_option maxRecDepth 100000

/-- A sign and a size: a nought may bear a sign. -/
abbrev SV := Bool × Nat
def IntH (w : World) (p : Nat) (t : TypeId) (z : SV) (a : Option Addr) (l c : Nat) : Prop := IntG w p t z.1 z.2 a l c
def IntHR (w : World) (p : Nat) (t : TypeId) (a : Option Addr) (c : Nat) (r : SV) (w' : World) : Prop :=
  ∃ a' l' c', IntH w' p t r a' l' c' ∧ Into w a c a' c' ∧ Keeps (fun k => k = p ∨ InB a k) w w'
theorem IntH.row {w : World} {p : Nat} {t : TypeId} {z : SV} {a : Option Addr} {l c : Nat} (h : IntH w p t z a l c) : IntRow w p t z.1 a l c := IntG.row h
theorem IntH.rd {w : World} {p : Nat} {t : TypeId} {z : SV} {a : Option Addr} {l c : Nat} (h : IntH w p t z a l c) : Rd w a l c (words z.2) := IntG.rd h
theorem IntH.keep {S : Nat → Prop} {w w' : World} {p : Nat} {t : TypeId} {z : SV} {a : Option Addr} {l c : Nat} (h : IntH w p t z a l c) (hk : Keeps S w w') (hp : ¬ S p) (ha : ∀ k, InB a k → ¬ S k) : IntH w' p t z a l c :=
  IntG.mk (hk.row h.row hp) (h.rd.keep hk ha)
theorem IntH.same {w : World} {p : Nat} {t t' : TypeId} {z z' : SV} {a a' : Option Addr} {l c l' c' : Nat} (h : IntH w p t z a l c) (k : IntH w p t' z' a' l' c') : z.1 = z'.1 ∧ a = a' ∧ l = l' ∧ c = c' := by
  have := RowAt.inj h.row k.row
  simp only [List.cons.injEq, Value.bool.injEq, Value.slice.injEq, and_true] at this
  exact this
theorem intH_new (w : World) (t : TypeId) : IntH (w.alloc (.cells #[.bool false, .slice none 0 0] t)) w.heap.size t (false, 0) none 0 0 :=
  IntG.mk (RowAt.new w t [.bool false, .slice none 0 0]) (by rw [words_zero]; exact Rd.nil _)
/-! ### Numbers that a call has made: each in a block of its own, their arrays apart -/

/-- The numbers at the addresses that V tells, all made since w0; outside of S nothing old has turned. -/
structure EnvG (S : Nat → Prop) (w0 w : World) (V : Nat → Option (TypeId × SV)) : Prop where
  keeps : Keeps S w0 w
  old : ∀ k, S k → k < w0.heap.size
  own : ∃ f : Nat → Option Addr × Nat × Nat, (∀ p t z, V p = some (t, z) → w0.heap.size ≤ p ∧ IntH w p t z (f p).1 (f p).2.1 (f p).2.2 ∧ (∀ k, InB (f p).1 k → w0.heap.size ≤ k)) ∧
    ∀ p q, (V p).isSome → (V q).isSome → p ≠ q → ∀ k, InB (f p).1 k → ¬ InB (f q).1 k

/-- V with one number more, or another one. -/
def updG (V : Nat → Option (TypeId × SV)) (p : Nat) (t : TypeId) (z : SV) : Nat → Option (TypeId × SV) := fun q => if q = p then some (t, z) else V q
theorem updG_eq (V : Nat → Option (TypeId × SV)) (p : Nat) (t : TypeId) (z : SV) : updG V p t z p = some (t, z) := by simp [updG]
theorem updG_ne (V : Nat → Option (TypeId × SV)) {p q : Nat} (t : TypeId) (z : SV) (h : q ≠ p) : updG V p t z q = V q := by simp [updG, h]

theorem EnvG.mono {S : Nat → Prop} {w0 w : World} {V V' : Nat → Option (TypeId × SV)} (h : EnvG S w0 w V) (hV : ∀ p t z, V' p = some (t, z) → V p = some (t, z)) : EnvG S w0 w V' := by
  obtain ⟨hk, ho, f, h1, h2⟩ := h
  have hs : ∀ p, (V' p).isSome → (V p).isSome := by
    intro p hp
    obtain ⟨⟨t, z⟩, hx⟩ := Option.isSome_iff_exists.mp hp
    rw [hV p t z hx]; rfl
  exact ⟨hk, ho, f, fun p t z hp => h1 p t z (hV p t z hp), fun p q hp hq => h2 p q (hs p hp) (hs q hq)⟩
/-- What turns nothing of what is told. -/
theorem EnvG.after {S T : Nat → Prop} {w0 w w' : World} {V : Nat → Option (TypeId × SV)} (h : EnvG S w0 w V) (hk : Keeps T w w') (hT : ∀ k, k < w.heap.size → T k → S k) : EnvG S w0 w' V := by
  obtain ⟨hk0, ho, f, h1, h2⟩ := h
  refine ⟨hk0.trans' hk (fun i hi ht => hT i (Nat.lt_of_lt_of_le hi hk0.size) ht), ho, f, fun p t z hp => ?_, h2⟩
  obtain ⟨a1, a2, a3⟩ := h1 p t z hp
  have hpl : p < w.heap.size := a2.row.lt
  refine ⟨a1, a2.keep hk (fun ht => ?_) (fun k hb ht => ?_), a3⟩
  · have := ho p (hT p hpl ht); omega
  · have := ho k (hT k (a2.rd.lt hb) ht); have := a3 k hb; omega
theorem EnvG.same {S : Nat → Prop} {w0 w w' : World} {V : Nat → Option (TypeId × SV)} (h : EnvG S w0 w V) (hk : Keeps (fun _ => False) w w') : EnvG S w0 w' V := h.after hk (fun _ _ h => h.elim)
theorem EnvG.drewN {S : Nat → Prop} {w0 w : World} {V : Nat → Option (TypeId × SV)} (h : EnvG S w0 w V) (n : Nat) : EnvG S w0 (w.drewN n) V := h.same ((Keeps.refl _ w).drewN n)
theorem EnvG.drew {S : Nat → Prop} {w0 w : World} {V : Nat → Option (TypeId × SV)} (h : EnvG S w0 w V) : EnvG S w0 w.drew V := h.same ((Keeps.refl _ w).drew)
theorem EnvG.ge {S : Nat → Prop} {w0 w : World} {V : Nat → Option (TypeId × SV)} (h : EnvG S w0 w V) {p : Nat} {t : TypeId} {z : SV} (hp : V p = some (t, z)) : w0.heap.size ≤ p := by
  obtain ⟨_, _, f, h1, _⟩ := h
  exact (h1 p t z hp).1
theorem EnvG.lt {S : Nat → Prop} {w0 w : World} {V : Nat → Option (TypeId × SV)} (h : EnvG S w0 w V) {p : Nat} {t : TypeId} {z : SV} (hp : V p = some (t, z)) : p < w.heap.size := by
  obtain ⟨_, _, f, h1, _⟩ := h
  exact (h1 p t z hp).2.1.row.lt
/-- The number at p has turned. -/
theorem EnvG.res {S : Nat → Prop} {w0 w w' : World} {V : Nat → Option (TypeId × SV)} {p : Nat} {t : TypeId} {z r : SV} {f : Nat → Option Addr × Nat × Nat} (hk0 : Keeps S w0 w) (ho : ∀ k, S k → k < w0.heap.size)
    (h1 : ∀ p t z, V p = some (t, z) → w0.heap.size ≤ p ∧ IntH w p t z (f p).1 (f p).2.1 (f p).2.2 ∧ (∀ k, InB (f p).1 k → w0.heap.size ≤ k))
    (h2 : ∀ p q, (V p).isSome → (V q).isSome → p ≠ q → ∀ k, InB (f p).1 k → ¬ InB (f q).1 k)
    (hp : V p = some (t, z)) (hr : IntHR w p t (f p).1 (f p).2.2 r w') : EnvG S w0 w' (updG V p t r) := by
  obtain ⟨a, l, c, k1, k2, k3⟩ := hr
  obtain ⟨p1, p2, p3⟩ := h1 p t z hp
  have hsz := hk0.size
  have hps : (V p).isSome := by rw [hp]; rfl
  have hfresh : ∀ k, InB a k → InB (f p).1 k ∨ w.heap.size ≤ k := fun k hk => k2.inB hk
  have hkeep : Keeps S w0 w' := hk0.trans' k3 (fun i hi h => by
    rcases h with rfl | h
    · omega
    · have := p3 i h; omega)
  refine ⟨hkeep, ho, fun q => if q = p then (a, l, c) else f q, fun q t' z' hq => ?_, fun q1 q2 hq1 hq2 hne k hk => ?_⟩
  · by_cases hqp : q = p
    · subst hqp
      rw [updG_eq] at hq
      cases hq
      simp only [if_true]
      refine ⟨p1, k1, fun k hk => ?_⟩
      rcases hfresh k hk with h | h
      · exact p3 k h
      · omega
    · rw [updG_ne _ _ _ hqp] at hq
      obtain ⟨q1, q2, q3⟩ := h1 q t' z' hq
      simp only [if_neg hqp]
      have hqs : (V q).isSome := by rw [hq]; rfl
      refine ⟨q1, q2.keep k3 ?_ ?_, q3⟩
      · rintro (h | h)
        · exact hqp h
        · exact p2.rd.not_row q2.row h
      · rintro k hb (h | h)
        · subst h; exact q2.rd.not_row p2.row hb
        · exact h2 p q hps hqs (Ne.symm hqp) k h hb
  · by_cases e1 : q1 = p
    · subst e1
      have e2 : q2 ≠ q1 := Ne.symm hne
      simp only [if_true, if_neg e2] at hk ⊢
      rw [updG_ne _ _ _ e2] at hq2
      rcases hfresh k hk with h | h
      · exact h2 q1 q2 hps hq2 hne k h
      · intro hb
        obtain ⟨⟨t', z'⟩, hx⟩ := Option.isSome_iff_exists.mp hq2
        have := (h1 q2 t' z' hx).2.1.rd.lt hb
        omega
    · rw [updG_ne _ _ _ e1] at hq1
      simp only [if_neg e1] at hk
      by_cases e2 : q2 = p
      · subst e2
        simp only [if_true]
        intro hb
        rcases hfresh k hb with h | h
        · exact h2 q1 q2 hq1 hps hne k hk h
        · obtain ⟨⟨t', z'⟩, hx⟩ := Option.isSome_iff_exists.mp hq1
          have := (h1 q1 t' z' hx).2.1.rd.lt hk
          omega
      · rw [updG_ne _ _ _ e2] at hq2
        simp only [if_neg e2]
        exact h2 q1 q2 hq1 hq2 hne k hk
/-- A number that is new. -/
theorem EnvG.add {S : Nat → Prop} {w0 w w' : World} {V : Nat → Option (TypeId × SV)} {p : Nat} {t : TypeId} {z : SV} {a : Option Addr} {l c : Nat} (h : EnvG S w0 w V) (hk : Keeps (fun _ => False) w w')
    (hp : w.heap.size ≤ p) (hi : IntH w' p t z a l c) (ha : ∀ k, InB a k → w.heap.size ≤ k) : EnvG S w0 w' (updG V p t z) := by
  obtain ⟨hk0, ho, f, h1, h2⟩ := h.same hk
  obtain ⟨hk00, _, f0, g1, _⟩ := h
  have hsz := hk00.size
  have hVp : ∀ q, (V q).isSome → q ≠ p ∧ ∀ k, InB (f q).1 k → k < w'.heap.size := by
    intro q hq
    obtain ⟨⟨t', z'⟩, hx⟩ := Option.isSome_iff_exists.mp hq
    have hl := (g1 q t' z' hx).2.1.row.lt
    exact ⟨by omega, fun k hb => (h1 q t' z' hx).2.1.rd.lt hb⟩
  have hold : ∀ q, (V q).isSome → ∀ k, InB (f q).1 k → k < w.heap.size := by
    intro q hq k hb
    obtain ⟨⟨t', z'⟩, hx⟩ := Option.isSome_iff_exists.mp hq
    have e1 := (h1 q t' z' hx).2.1
    have e2 := (g1 q t' z' hx).2.1
    have e3 := IntH.same e1 (e2.keep hk (fun h => h) (fun _ _ h => h))
    rw [e3.2.1] at hb
    exact e2.rd.lt hb
  refine ⟨hk0, ho, fun q => if q = p then (a, l, c) else f q, fun q t' z' hq => ?_, fun q1 q2 hq1 hq2 hne k hb => ?_⟩
  · by_cases hqp : q = p
    · subst hqp
      rw [updG_eq] at hq
      cases hq
      simp only [if_true]
      exact ⟨by omega, hi, fun k hk => by have := ha k hk; omega⟩
    · rw [updG_ne _ _ _ hqp] at hq
      simp only [if_neg hqp]
      exact h1 q t' z' hq
  · by_cases e1 : q1 = p
    · subst e1
      have e2 : q2 ≠ q1 := Ne.symm hne
      simp only [if_true, if_neg e2] at hb ⊢
      rw [updG_ne _ _ _ e2] at hq2
      intro hb2
      have := hold q2 hq2 k hb2
      have := ha k hb
      omega
    · rw [updG_ne _ _ _ e1] at hq1
      simp only [if_neg e1] at hb
      by_cases e2 : q2 = p
      · subst e2
        simp only [if_true]
        intro hb2
        have := hold q1 hq1 k hb
        have := ha k hb2
        omega
      · rw [updG_ne _ _ _ e2] at hq2
        simp only [if_neg e2]
        exact h2 q1 q2 hq1 hq2 hne k hb
/-- A new number, 0. -/
theorem EnvG.new {S : Nat → Prop} {w0 w : World} {V : Nat → Option (TypeId × SV)} (h : EnvG S w0 w V) (t : TypeId) : EnvG S w0 (w.alloc (.cells #[.bool false, .slice none 0 0] t)) (updG V w.heap.size t (false, 0)) :=
  h.add ((Keeps.refl _ w).alloc _) (Nat.le_refl _) (intH_new w t) (fun k hk => by obtain ⟨o, ho⟩ := hk; cases ho)

/-- How an operation on three numbers is used. -/
theorem EnvG.op {S : Nat → Prop} {w0 w : World} {V : Nat → Option (TypeId × SV)} (h : EnvG S w0 w V) {pz px py : Nat} {tz tx ty : TypeId} {z x y : SV} (hz : V pz = some (tz, z)) (hx : V px = some (tx, x)) (hy : V py = some (ty, y))
    {K : FuncId} {r : SV} (hc : ∀ (az ax ay : Option Addr) (lz cz lx cx ly cy : Nat), IntH w pz tz z az lz cz → IntH w px tx x ax lx cx → IntH w py ty y ay ly cy →
      (pz ≠ px → ∀ k, InB az k → ¬ InB ax k) → (pz ≠ py → ∀ k, InB az k → ¬ InB ay k) → (pz = px → az = ax ∧ cz = cx) → (pz = py → az = ay ∧ cz = cy) →
      Calls Tryz.prog K #[.pointer (some ⟨pz, 0, none⟩), .pointer (some ⟨px, 0, none⟩), .pointer (some ⟨py, 0, none⟩)] w fun e w' => e = .returned (.pointer (some ⟨pz, 0, none⟩)) ∧ IntHR w pz tz az cz r w') :
    Calls Tryz.prog K #[.pointer (some ⟨pz, 0, none⟩), .pointer (some ⟨px, 0, none⟩), .pointer (some ⟨py, 0, none⟩)] w fun e w' => e = .returned (.pointer (some ⟨pz, 0, none⟩)) ∧ EnvG S w0 w' (updG V pz tz r) := by
  obtain ⟨hk0, ho, f, h1, h2⟩ := h
  have ez : (V pz).isSome := by rw [hz]; rfl
  have ex : (V px).isSome := by rw [hx]; rfl
  have ey : (V py).isSome := by rw [hy]; rfl
  refine (hc _ _ _ _ _ _ _ _ _ (h1 pz tz z hz).2.1 (h1 px tx x hx).2.1 (h1 py ty y hy).2.1 (fun hne => h2 pz px ez ex hne) (fun hne => h2 pz py ez ey hne) ?_ ?_).mono ?_
  · rintro rfl; exact ⟨rfl, rfl⟩
  · rintro rfl; exact ⟨rfl, rfl⟩
  · rintro e w' ⟨rfl, hr⟩
    exact ⟨rfl, EnvG.res hk0 ho h1 h2 hz hr⟩

/-- A whole number as a sign and a size. -/
def sv (z : Int) : SV := (decide (z < 0), z.natAbs)
theorem sgnv_sv (z : Int) : sgnv (sv z).1 (sv z).2 = z := sgnv_of z
theorem IntS.h {w : World} {p : Nat} {t : TypeId} {z : Int} {a : Option Addr} {l c : Nat} (h : IntS w p t z a l c) : IntH w p t (sv z) a l c := h.g
theorem IntH.s {w : World} {p : Nat} {t : TypeId} {z : Int} {a : Option Addr} {l c : Nat} (h : IntH w p t (sv z) a l c) : IntS w p t z a l c := ⟨h.row, h.rd⟩
theorem IntRes.h {w w' : World} {p : Nat} {t : TypeId} {z : Int} {a : Option Addr} {c : Nat} (h : IntRes w p t a c z w') : IntHR w p t a c (sv z) w' := by
  obtain ⟨a', l', c', h1, h2, h3⟩ := h
  exact ⟨a', l', c', h1.h, h2, h3⟩
def svV (V : Nat → Option (TypeId × Int)) : Nat → Option (TypeId × SV) := fun p => (V p).map fun x => (x.1, sv x.2)
theorem svV_some {V : Nat → Option (TypeId × Int)} {p : Nat} {t : TypeId} {z : Int} (h : V p = some (t, z)) : svV V p = some (t, sv z) := by simp [svV, h]
theorem svV_upd (V : Nat → Option (TypeId × Int)) (p : Nat) (t : TypeId) (z : Int) : svV (upd V p t z) = updG (svV V) p t (sv z) := by
  funext q
  unfold svV upd updG
  by_cases h : q = p <;> simp [h]
theorem Env.h {S : Nat → Prop} {w0 w : World} {V : Nat → Option (TypeId × Int)} (h : Env S w0 w V) : EnvG S w0 w (svV V) := by
  obtain ⟨hk, ho, f, h1, h2⟩ := h
  refine ⟨hk, ho, f, fun p t z hp => ?_, fun p q hp hq => h2 p q ?_ ?_⟩
  · simp only [svV, Option.map_eq_some_iff] at hp
    obtain ⟨⟨t', z'⟩, h3, h4⟩ := hp
    cases h4
    obtain ⟨g1, g2, g3⟩ := h1 p _ z' h3
    exact ⟨g1, g2.h, g3⟩
  · simpa [svV] using hp
  · simpa [svV] using hq
theorem EnvG.s {S : Nat → Prop} {w0 w : World} {V : Nat → Option (TypeId × Int)} (h : EnvG S w0 w (svV V)) : Env S w0 w V := by
  obtain ⟨hk, ho, f, h1, h2⟩ := h
  refine ⟨hk, ho, f, fun p t z hp => ?_, fun p q hp hq => h2 p q ?_ ?_⟩
  · obtain ⟨g1, g2, g3⟩ := h1 p t (sv z) (svV_some hp)
    exact ⟨g1, g2.s, g3⟩
  · simpa [svV] using hp
  · simpa [svV] using hq
end Go.Proofs
namespace Go.Proofs
open Go.RowKit
set_option maxHeartbeats 400000
set_option linter.unusedVariables false
set_option linter.unusedSimpArgs false
set_option maxRecDepth 100000

/-- Two numbers have turned. -/
theorem EnvG.res2 {S : Nat → Prop} {w0 w w' : World} {V : Nat → Option (TypeId × SV)} {p q : Nat} {tp tq : TypeId} {zp zq r s : SV} {f : Nat → Option Addr × Nat × Nat} {qa ra : Option Addr} {ql qc rl rc : Nat} (hk0 : Keeps S w0 w) (ho : ∀ k, S k → k < w0.heap.size)
    (h1 : ∀ p t z, V p = some (t, z) → w0.heap.size ≤ p ∧ IntH w p t z (f p).1 (f p).2.1 (f p).2.2 ∧ (∀ k, InB (f p).1 k → w0.heap.size ≤ k))
    (h2 : ∀ p q, (V p).isSome → (V q).isSome → p ≠ q → ∀ k, InB (f p).1 k → ¬ InB (f q).1 k)
    (hp : V p = some (tp, zp)) (hq : V q = some (tq, zq)) (hpq : p ≠ q) (ip : IntH w' p tp r qa ql qc) (iq : IntH w' q tq s ra rl rc) (np : Into w (f p).1 (f p).2.2 qa qc) (nq : Into w (f q).1 (f q).2.2 ra rc) (hd : ∀ k, InB qa k → ¬ InB ra k)
    (hk : Keeps (fun k => k = p ∨ InB (f p).1 k ∨ k = q ∨ InB (f q).1 k) w w') : EnvG S w0 w' (updG (updG V p tp r) q tq s) := by
  obtain ⟨p1, p2, p3⟩ := h1 p tp zp hp
  obtain ⟨q1, q2, q3⟩ := h1 q tq zq hq
  have hsz := hk0.size
  have hps : (V p).isSome := by rw [hp]; rfl
  have hqs : (V q).isSome := by rw [hq]; rfl
  have hkeep : Keeps S w0 w' := hk0.trans' hk (fun i hi h => by
    rcases h with rfl | h | rfl | h
    · omega
    · have := p3 i h; omega
    · omega
    · have := q3 i h; omega)
  have hV : ∀ x t z, updG (updG V p tp r) q tq s x = some (t, z) → (V x).isSome := by
    intro x t z hx
    by_cases e1 : x = q
    · subst e1; exact hqs
    · rw [updG_ne _ _ _ e1] at hx
      by_cases e2 : x = p
      · subst e2; exact hps
      · rw [updG_ne _ _ _ e2] at hx; rw [hx]; rfl
  -- each array is what it was, or new
  obtain ⟨f', hf'⟩ : ∃ f' : Nat → Option Addr × Nat × Nat, f' = fun x => if x = q then (ra, rl, rc) else if x = p then (qa, ql, qc) else f x := ⟨_, rfl⟩
  have fq : f' q = (ra, rl, rc) := by rw [hf']; simp
  have fp : f' p = (qa, ql, qc) := by rw [hf']; simp [hpq]
  have fx : ∀ x, x ≠ q → x ≠ p → f' x = f x := fun x e1 e2 => by rw [hf']; simp [e1, e2]
  have org : ∀ x, (V x).isSome → ∀ k, InB (f' x).1 k → InB (f x).1 k ∨ (w.heap.size ≤ k ∧ (x = p ∨ x = q)) := by
    intro x hx k hkk
    by_cases e1 : x = q
    · subst e1
      rw [fq] at hkk
      exact (nq.inB hkk).elim .inl (fun h => .inr ⟨h, .inr rfl⟩)
    · by_cases e2 : x = p
      · subst e2
        rw [fp] at hkk
        exact (np.inB hkk).elim .inl (fun h => .inr ⟨h, .inl rfl⟩)
      · rw [fx x e1 e2] at hkk
        exact .inl hkk
  have old : ∀ x, (V x).isSome → ∀ k, InB (f x).1 k → k < w.heap.size := by
    intro x hx k hk
    obtain ⟨⟨t, z⟩, hx⟩ := Option.isSome_iff_exists.mp hx
    exact (h1 x t z hx).2.1.rd.lt hk
  refine ⟨hkeep, ho, f', fun x t z hx => ?_, fun x y hx hy hne k hkx hky => ?_⟩
  · have hxs := hV x t z hx
    have h3 : ∀ k, InB (f' x).1 k → w0.heap.size ≤ k := by
      intro k hk
      obtain ⟨⟨t', z'⟩, hx'⟩ := Option.isSome_iff_exists.mp hxs
      rcases org x hxs k hk with h | ⟨h, _⟩
      · exact (h1 x t' z' hx').2.2 k h
      · omega
    by_cases e1 : x = q
    · subst e1
      rw [updG_eq] at hx
      cases hx
      refine ⟨q1, ?_, h3⟩
      rw [fq]; exact iq
    · by_cases e2 : x = p
      · subst e2
        rw [updG_ne _ _ _ e1, updG_eq] at hx
        cases hx
        refine ⟨p1, ?_, h3⟩
        rw [fp]; exact ip
      · rw [updG_ne _ _ _ e1, updG_ne _ _ _ e2] at hx
        obtain ⟨x1, x2, x3⟩ := h1 x t z hx
        refine ⟨x1, ?_, h3⟩
        rw [fx x e1 e2]
        refine x2.keep hk ?_ ?_
        · rintro (h | h | h | h)
          · exact e2 h
          · exact p2.rd.not_row x2.row h
          · exact e1 h
          · exact q2.rd.not_row x2.row h
        · rintro k hb (h | h | h | h)
          · subst h; exact x2.rd.not_row p2.row hb
          · exact h2 p x hps hxs (Ne.symm e2) k h hb
          · subst h; exact x2.rd.not_row q2.row hb
          · exact h2 q x hqs hxs (Ne.symm e1) k h hb
  · have hxs : (V x).isSome := by obtain ⟨⟨t, z⟩, hx'⟩ := Option.isSome_iff_exists.mp hx; exact hV x t z hx'
    have hys : (V y).isSome := by obtain ⟨⟨t, z⟩, hy'⟩ := Option.isSome_iff_exists.mp hy; exact hV y t z hy'
    rcases org x hxs k hkx with a1 | ⟨a1, a2⟩
    · rcases org y hys k hky with b1 | ⟨b1, _⟩
      · exact h2 x y hxs hys hne k a1 b1
      · have := old x hxs k a1; omega
    · rcases org y hys k hky with b1 | ⟨b1, b2⟩
      · have := old y hys k b1; omega
      · rcases a2 with rfl | rfl <;> rcases b2 with rfl | rfl
        · exact hne rfl
        · rw [fp] at hkx; rw [fq] at hky; exact hd k hkx hky
        · rw [fq] at hkx; rw [fp] at hky; exact hd k hky hkx
        · exact hne rfl
/-- Operations on one and on two numbers. -/
theorem EnvG.op1 {S : Nat → Prop} {w0 w : World} {V : Nat → Option (TypeId × SV)} (h : EnvG S w0 w V) {pz : Nat} {tz : TypeId} {z : SV} (hz : V pz = some (tz, z)) {K : FuncId} {A : Array Value} {r : SV} {E : Ending}
    (hc : ∀ (az : Option Addr) (lz cz : Nat), IntH w pz tz z az lz cz → Calls Tryz.prog K A w fun e w' => e = E ∧ IntHR w pz tz az cz r w') :
    Calls Tryz.prog K A w fun e w' => e = E ∧ EnvG S w0 w' (updG V pz tz r) := by
  obtain ⟨hk0, ho, f, h1, h2⟩ := h
  refine (hc _ _ _ (h1 pz tz z hz).2.1).mono ?_
  rintro e w' ⟨rfl, hr⟩
  exact ⟨rfl, EnvG.res hk0 ho h1 h2 hz hr⟩
theorem EnvG.op2 {S : Nat → Prop} {w0 w : World} {V : Nat → Option (TypeId × SV)} (h : EnvG S w0 w V) {pz px : Nat} {tz tx : TypeId} {z x : SV} (hz : V pz = some (tz, z)) (hx : V px = some (tx, x)) {K : FuncId} {A : Array Value} {r : SV} {E : Ending}
    (hc : ∀ (az ax : Option Addr) (lz cz lx cx : Nat), IntH w pz tz z az lz cz → IntH w px tx x ax lx cx → (pz ≠ px → ∀ k, InB az k → ¬ InB ax k) → (pz = px → az = ax ∧ cz = cx) → Calls Tryz.prog K A w fun e w' => e = E ∧ IntHR w pz tz az cz r w') :
    Calls Tryz.prog K A w fun e w' => e = E ∧ EnvG S w0 w' (updG V pz tz r) := by
  obtain ⟨hk0, ho, f, h1, h2⟩ := h
  have ez : (V pz).isSome := by rw [hz]; rfl
  have ex : (V px).isSome := by rw [hx]; rfl
  refine (hc _ _ _ _ _ _ (h1 pz tz z hz).2.1 (h1 px tx x hx).2.1 (fun hne => h2 pz px ez ex hne) (by rintro rfl; exact ⟨rfl, rfl⟩)).mono ?_
  rintro e w' ⟨rfl, hr⟩
  exact ⟨rfl, EnvG.res hk0 ho h1 h2 hz hr⟩
theorem IntH.len {w : World} {p : Nat} {t : TypeId} {z : SV} {a : Option Addr} {l c k : Nat} (h : IntH w p t z a l c) (hz : z.2 < W64 ^ k) : l ≤ k := by
  rw [← h.rd.length]; exact words_lt hz
theorem EnvG.get {S : Nat → Prop} {w0 w : World} {V : Nat → Option (TypeId × SV)} (h : EnvG S w0 w V) {p : Nat} {t : TypeId} {z : SV} (hp : V p = some (t, z)) : ∃ a l c, IntH w p t z a l c := by
  obtain ⟨_, _, f, h1, _⟩ := h
  exact ⟨_, _, _, (h1 p t z hp).2.1⟩
end Go.Proofs
