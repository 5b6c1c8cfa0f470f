/- Parts of the proofs over the numbers of any length: Env, QuoG, Range1, Binom. -/
import Derived.Test.YtacbllkmcldniaaGreatDoorRangeB
import Derived.Test.YtacbllkmcldniaaGreatDoorMadeA
import Derived.Test.YtacbllkmcldniaaGreatDoorDivD
import Derived.Test.YtacbllkmcldniaaGreatDoorRangeA
import Derived.Test.YtacbllkmcldniaaGreatDoorRangeC
import Derived.Test.YtacbllkmcldniaaGreatDoorIntA
set_option linter.unusedSimpArgs false
set_option linter.unusedVariables false
namespace Go.Proofs
open Go.RowKit
set_option maxHeartbeats 400000
set_option linter.unusedVariables false
set_option linter.unusedSimpArgs false
set_option maxRecDepth 100000

/-! ### Numbers that a call has made: each in a block of its own, their arrays apart -/

/-- The numbers at the addresses that V tells, all made since w0; outside of S nothing old has turned. -/
structure Env (S : Nat → Prop) (w0 w : World) (V : Nat → Option (TypeId × Int)) : Prop where
  keeps : Keeps S w0 w
  old : ∀ k, S k → k < w0.heap.size
  own : ∃ f : Nat → Option Addr × Nat × Nat, (∀ p t z, V p = some (t, z) → w0.heap.size ≤ p ∧ IntS w p t z (f p).1 (f p).2.1 (f p).2.2 ∧ (∀ k, InB (f p).1 k → w0.heap.size ≤ k)) ∧
    ∀ p q, (V p).isSome → (V q).isSome → p ≠ q → ∀ k, InB (f p).1 k → ¬ InB (f q).1 k

/-- V with one number more, or another one. -/
def upd (V : Nat → Option (TypeId × Int)) (p : Nat) (t : TypeId) (z : Int) : Nat → Option (TypeId × Int) := fun q => if q = p then some (t, z) else V q
theorem upd_eq (V : Nat → Option (TypeId × Int)) (p : Nat) (t : TypeId) (z : Int) : upd V p t z p = some (t, z) := by simp [upd]
theorem upd_ne (V : Nat → Option (TypeId × Int)) {p q : Nat} (t : TypeId) (z : Int) (h : q ≠ p) : upd V p t z q = V q := by simp [upd, h]
def noInts : Nat → Option (TypeId × Int) := fun _ => none

theorem Env.start (S : Nat → Prop) (w : World) (hS : ∀ k, S k → k < w.heap.size) : Env S w w noInts :=
  ⟨Keeps.refl _ _, hS, fun _ => (none, 0, 0), fun p t z h => (by cases h), fun p q h => (by cases h)⟩
theorem Env.mono {S : Nat → Prop} {w0 w : World} {V V' : Nat → Option (TypeId × Int)} (h : Env S w0 w V) (hV : ∀ p t z, V' p = some (t, z) → V p = some (t, z)) : Env S w0 w V' := by
  obtain ⟨hk, ho, f, h1, h2⟩ := h
  have hs : ∀ p, (V' p).isSome → (V p).isSome := by
    intro p hp
    obtain ⟨⟨t, z⟩, hx⟩ := Option.isSome_iff_exists.mp hp
    rw [hV p t z hx]; rfl
  exact ⟨hk, ho, f, fun p t z hp => h1 p t z (hV p t z hp), fun p q hp hq => h2 p q (hs p hp) (hs q hq)⟩
/-- What turns nothing of what is told. -/
theorem Env.after {S T : Nat → Prop} {w0 w w' : World} {V : Nat → Option (TypeId × Int)} (h : Env S w0 w V) (hk : Keeps T w w') (hT : ∀ k, k < w.heap.size → T k → S k) : Env S w0 w' V := by
  obtain ⟨hk0, ho, f, h1, h2⟩ := h
  refine ⟨hk0.trans' hk (fun i hi ht => hT i (Nat.lt_of_lt_of_le hi hk0.size) ht), ho, f, fun p t z hp => ?_, h2⟩
  obtain ⟨a1, a2, a3⟩ := h1 p t z hp
  have hpl : p < w.heap.size := a2.row.lt
  refine ⟨a1, a2.keep hk (fun ht => ?_) (fun k hb ht => ?_), a3⟩
  · have := ho p (hT p hpl ht); omega
  · have := ho k (hT k (a2.rd.lt hb) ht); have := a3 k hb; omega
theorem Env.same {S : Nat → Prop} {w0 w w' : World} {V : Nat → Option (TypeId × Int)} (h : Env S w0 w V) (hk : Keeps (fun _ => False) w w') : Env S w0 w' V := h.after hk (fun _ _ h => h.elim)
theorem Env.drewN {S : Nat → Prop} {w0 w : World} {V : Nat → Option (TypeId × Int)} (h : Env S w0 w V) (n : Nat) : Env S w0 (w.drewN n) V := h.same ((Keeps.refl _ w).drewN n)
theorem Env.drew {S : Nat → Prop} {w0 w : World} {V : Nat → Option (TypeId × Int)} (h : Env S w0 w V) : Env S w0 w.drew V := h.same ((Keeps.refl _ w).drew)
theorem Env.get {S : Nat → Prop} {w0 w : World} {V : Nat → Option (TypeId × Int)} (h : Env S w0 w V) {p : Nat} {t : TypeId} {z : Int} (hp : V p = some (t, z)) : IntAt w p t z := by
  obtain ⟨_, _, f, h1, _⟩ := h
  exact (h1 p t z hp).2.1.at
theorem Env.ge {S : Nat → Prop} {w0 w : World} {V : Nat → Option (TypeId × Int)} (h : Env S w0 w V) {p : Nat} {t : TypeId} {z : Int} (hp : V p = some (t, z)) : w0.heap.size ≤ p := by
  obtain ⟨_, _, f, h1, _⟩ := h
  exact (h1 p t z hp).1
theorem Env.lt {S : Nat → Prop} {w0 w : World} {V : Nat → Option (TypeId × Int)} (h : Env S w0 w V) {p : Nat} {t : TypeId} {z : Int} (hp : V p = some (t, z)) : p < w.heap.size := by
  obtain ⟨_, _, f, h1, _⟩ := h
  exact (h1 p t z hp).2.1.row.lt
/-- The number at p has turned. -/
theorem Env.res {S : Nat → Prop} {w0 w w' : World} {V : Nat → Option (TypeId × Int)} {p : Nat} {t : TypeId} {z r : Int} {f : Nat → Option Addr × Nat × Nat} (hk0 : Keeps S w0 w) (ho : ∀ k, S k → k < w0.heap.size)
    (h1 : ∀ p t z, V p = some (t, z) → w0.heap.size ≤ p ∧ IntS w p t z (f p).1 (f p).2.1 (f p).2.2 ∧ (∀ k, InB (f p).1 k → w0.heap.size ≤ k))
    (h2 : ∀ p q, (V p).isSome → (V q).isSome → p ≠ q → ∀ k, InB (f p).1 k → ¬ InB (f q).1 k)
    (hp : V p = some (t, z)) (hr : IntRes w p t (f p).1 (f p).2.2 r w') : Env S w0 w' (upd V p t r) := by
  obtain ⟨a, l, c, k1, k2, k3⟩ := hr
  obtain ⟨p1, p2, p3⟩ := h1 p t z hp
  have hsz := hk0.size
  have hps : (V p).isSome := by rw [hp]; rfl
  have hfresh : ∀ k, InB a k → InB (f p).1 k ∨ w.heap.size ≤ k := fun k hk => k2.inB hk
  have hkeep : Keeps S w0 w' := hk0.trans' k3 (fun i hi h => by
    rcases h with rfl | h
    · omega
    · have := p3 i h; omega)
  refine ⟨hkeep, ho, fun q => if q = p then (a, l, c) else f q, fun q t' z' hq => ?_, fun q1 q2 hq1 hq2 hne k hk => ?_⟩
  · by_cases hqp : q = p
    · subst hqp
      rw [upd_eq] at hq
      cases hq
      simp only [if_true]
      refine ⟨p1, k1, fun k hk => ?_⟩
      rcases hfresh k hk with h | h
      · exact p3 k h
      · omega
    · rw [upd_ne _ _ _ hqp] at hq
      obtain ⟨q1, q2, q3⟩ := h1 q t' z' hq
      simp only [if_neg hqp]
      have hqs : (V q).isSome := by rw [hq]; rfl
      refine ⟨q1, q2.keep k3 ?_ ?_, q3⟩
      · rintro (h | h)
        · exact hqp h
        · exact p2.rd.not_row q2.row h
      · rintro k hb (h | h)
        · subst h; exact q2.rd.not_row p2.row hb
        · exact h2 p q hps hqs (Ne.symm hqp) k h hb
  · by_cases e1 : q1 = p
    · subst e1
      have e2 : q2 ≠ q1 := Ne.symm hne
      simp only [if_true, if_neg e2] at hk ⊢
      rw [upd_ne _ _ _ e2] at hq2
      rcases hfresh k hk with h | h
      · exact h2 q1 q2 hps hq2 hne k h
      · intro hb
        obtain ⟨⟨t', z'⟩, hx⟩ := Option.isSome_iff_exists.mp hq2
        have := (h1 q2 t' z' hx).2.1.rd.lt hb
        omega
    · rw [upd_ne _ _ _ e1] at hq1
      simp only [if_neg e1] at hk
      by_cases e2 : q2 = p
      · subst e2
        simp only [if_true]
        intro hb
        rcases hfresh k hb with h | h
        · exact h2 q1 q2 hq1 hps hne k hk h
        · obtain ⟨⟨t', z'⟩, hx⟩ := Option.isSome_iff_exists.mp hq1
          have := (h1 q1 t' z' hx).2.1.rd.lt hk
          omega
      · rw [upd_ne _ _ _ e2] at hq2
        simp only [if_neg e2]
        exact h2 q1 q2 hq1 hq2 hne k hk
/-- A number that is new. -/
theorem Env.add {S : Nat → Prop} {w0 w w' : World} {V : Nat → Option (TypeId × Int)} {p : Nat} {t : TypeId} {z : Int} {a : Option Addr} {l c : Nat} (h : Env S w0 w V) (hk : Keeps (fun _ => False) w w')
    (hp : w.heap.size ≤ p) (hi : IntS w' p t z a l c) (ha : ∀ k, InB a k → w.heap.size ≤ k) : Env S w0 w' (upd V p t z) := by
  obtain ⟨hk0, ho, f, h1, h2⟩ := h.same hk
  obtain ⟨hk00, _, f0, g1, _⟩ := h
  have hsz := hk00.size
  have hVp : ∀ q, (V q).isSome → q ≠ p ∧ ∀ k, InB (f q).1 k → k < w'.heap.size := by
    intro q hq
    obtain ⟨⟨t', z'⟩, hx⟩ := Option.isSome_iff_exists.mp hq
    have hl := (g1 q t' z' hx).2.1.row.lt
    exact ⟨by omega, fun k hb => (h1 q t' z' hx).2.1.rd.lt hb⟩
  have hold : ∀ q, (V q).isSome → ∀ k, InB (f q).1 k → k < w.heap.size := by
    intro q hq k hb
    obtain ⟨⟨t', z'⟩, hx⟩ := Option.isSome_iff_exists.mp hq
    have e1 := (h1 q t' z' hx).2.1
    have e2 := (g1 q t' z' hx).2.1
    have e3 := IntS.same e1 (e2.keep hk (fun h => h) (fun _ _ h => h))
    rw [e3.2.1] at hb
    exact e2.rd.lt hb
  refine ⟨hk0, ho, fun q => if q = p then (a, l, c) else f q, fun q t' z' hq => ?_, fun q1 q2 hq1 hq2 hne k hb => ?_⟩
  · by_cases hqp : q = p
    · subst hqp
      rw [upd_eq] at hq
      cases hq
      simp only [if_true]
      exact ⟨by omega, hi, fun k hk => by have := ha k hk; omega⟩
    · rw [upd_ne _ _ _ hqp] at hq
      simp only [if_neg hqp]
      exact h1 q t' z' hq
  · by_cases e1 : q1 = p
    · subst e1
      have e2 : q2 ≠ q1 := Ne.symm hne
      simp only [if_true, if_neg e2] at hb ⊢
      rw [upd_ne _ _ _ e2] at hq2
      intro hb2
      have := hold q2 hq2 k hb2
      have := ha k hb
      omega
    · rw [upd_ne _ _ _ e1] at hq1
      simp only [if_neg e1] at hb
      by_cases e2 : q2 = p
      · subst e2
        simp only [if_true]
        intro hb2
        have := hold q1 hq1 k hb
        have := ha k hb2
        omega
      · rw [upd_ne _ _ _ e2] at hq2
        simp only [if_neg e2]
        exact h2 q1 q2 hq1 hq2 hne k hb
/-- A new number, 0. -/
theorem Env.new {S : Nat → Prop} {w0 w : World} {V : Nat → Option (TypeId × Int)} (h : Env S w0 w V) (t : TypeId) : Env S w0 (w.alloc (.cells #[.bool false, .slice none 0 0] t)) (upd V w.heap.size t 0) :=
  h.add ((Keeps.refl _ w).alloc _) (Nat.le_refl _) (intS_new w t) (fun k hk => by obtain ⟨o, ho⟩ := hk; cases ho)

/-- How an operation on three numbers is used. -/
theorem Env.op {S : Nat → Prop} {w0 w : World} {V : Nat → Option (TypeId × Int)} (h : Env S w0 w V) {pz px py : Nat} {tz tx ty : TypeId} {z x y : Int} (hz : V pz = some (tz, z)) (hx : V px = some (tx, x)) (hy : V py = some (ty, y))
    {K : FuncId} {r : Int} (hc : ∀ (az ax ay : Option Addr) (lz cz lx cx ly cy : Nat), IntS w pz tz z az lz cz → IntS w px tx x ax lx cx → IntS w py ty y ay ly cy →
      (pz ≠ px → ∀ k, InB az k → ¬ InB ax k) → (pz ≠ py → ∀ k, InB az k → ¬ InB ay k) → (pz = px → az = ax ∧ cz = cx) → (pz = py → az = ay ∧ cz = cy) →
      Calls Tryz.prog K #[.pointer (some ⟨pz, 0, none⟩), .pointer (some ⟨px, 0, none⟩), .pointer (some ⟨py, 0, none⟩)] w fun e w' => e = .returned (.pointer (some ⟨pz, 0, none⟩)) ∧ IntRes w pz tz az cz r w') :
    Calls Tryz.prog K #[.pointer (some ⟨pz, 0, none⟩), .pointer (some ⟨px, 0, none⟩), .pointer (some ⟨py, 0, none⟩)] w fun e w' => e = .returned (.pointer (some ⟨pz, 0, none⟩)) ∧ Env S w0 w' (upd V pz tz r) := by
  obtain ⟨hk0, ho, f, h1, h2⟩ := h
  have ez : (V pz).isSome := by rw [hz]; rfl
  have ex : (V px).isSome := by rw [hx]; rfl
  have ey : (V py).isSome := by rw [hy]; rfl
  refine (hc _ _ _ _ _ _ _ _ _ (h1 pz tz z hz).2.1 (h1 px tx x hx).2.1 (h1 py ty y hy).2.1 (fun hne => h2 pz px ez ex hne) (fun hne => h2 pz py ez ey hne) ?_ ?_).mono ?_
  · rintro rfl; exact ⟨rfl, rfl⟩
  · rintro rfl; exact ⟨rfl, rfl⟩
  · rintro e w' ⟨rfl, hr⟩
    exact ⟨rfl, Env.res hk0 ho h1 h2 hz hr⟩
end Go.Proofs
namespace Go.Proofs
open Go.RowKit
set_option maxHeartbeats 1000000
set_option linter.unusedVariables false
set_option linter.unusedSimpArgs false
set_option maxRecDepth 100000

/-- Where arrays lie apart or are one. -/
theorem al_of {pz px : Nat} {az ax : Option Addr} {cz cx : Nat} (h : pz ≠ px → ∀ k, InB az k → ¬ InB ax k) (k : pz = px → az = ax ∧ cz = cx) : Al az cz ax cx := by
  by_cases e : pz = px
  · obtain ⟨h1, h2⟩ := k e
    subst h1; subst h2
    exact Al.refl _ _
  · exact Al.of_ne (h e)

theorem div_q (az ax ay : Option Addr) (lz cz lx cx ly cy N d : Nat) (L : List Nat) (w : World) (hz : Rd w az lz cz L) (hx : Rd w ax lx cx (words N)) (hy : Rd w ay ly cy (words d)) (hd0 : d ≠ 0) (hly : ly < 40) (hlx : lx ≤ 100000) (hax : Al az cz ax cx) (G : Glob w) :
    Calls Tryz.prog 199 #[.slice az lz cz, .pointer none, .slice none 0 0, .slice ax lx cx, .slice ay ly cy] w (DivQ w az cz N d) := by
  refine (div199_nil az lz cz L none 0 0 [] ax lx cx N ay ly cy d w hz (Rd.nil w) hx hy hd0 hly hlx (fun k _ h => by obtain ⟨o, ho⟩ := h; cases ho) hax (Al.none _ _ _) G).mono ?_
  rintro e w' ⟨qa, ql, qc, ra, rl, rc, rfl, h1, h2, h3, h4, h5, h6⟩
  refine ⟨qa, ql, qc, ra, rl, rc, rfl, h1, h2, h3, h6.mono (fun i _ h => ?_)⟩
  rcases h with h | ⟨o, ho⟩
  · exact h
  · cases ho

theorem quo148_any (pz px py tz tx ty : Nat) (z x y : Int) (az ax ay : Option Addr) (lz cz lx cx ly cy : Nat) (w : World)
    (hz : IntS w pz tz z az lz cz) (hx : IntS w px tx x ax lx cx) (hy : IntS w py ty y ay ly cy) (hax : Al az cz ax cx) (hy0 : y ≠ 0) (hly : ly < 40) (hlx : lx ≤ 100000) (G : Glob w) :
    Calls Tryz.prog 148 #[.pointer (some ⟨pz, 0, none⟩), .pointer (some ⟨px, 0, none⟩), .pointer (some ⟨py, 0, none⟩)] w fun e w' =>
      e = .returned (.pointer (some ⟨pz, 0, none⟩)) ∧ IntRes w pz tz az cz (x.tdiv y) w' :=
  quo148_of pz px py tz tx ty z x y az ax ay lz cz lx cx ly cy w hz hx hy (div_q az ax ay lz cz lx cx ly cy x.natAbs y.natAbs _ w.drew hz.rd.drew hx.rd.drew hy.rd.drew (by omega) hly hlx hax (G.drewN 1))

/-- Operations on one and on two numbers. -/
theorem Env.op1 {S : Nat → Prop} {w0 w : World} {V : Nat → Option (TypeId × Int)} (h : Env S w0 w V) {pz : Nat} {tz : TypeId} {z : Int} (hz : V pz = some (tz, z)) {K : FuncId} {A : Array Value} {r : Int} {E : Ending}
    (hc : ∀ (az : Option Addr) (lz cz : Nat), IntS w pz tz z az lz cz → Calls Tryz.prog K A w fun e w' => e = E ∧ IntRes w pz tz az cz r w') :
    Calls Tryz.prog K A w fun e w' => e = E ∧ Env S w0 w' (upd V pz tz r) := by
  obtain ⟨hk0, ho, f, h1, h2⟩ := h
  refine (hc _ _ _ (h1 pz tz z hz).2.1).mono ?_
  rintro e w' ⟨rfl, hr⟩
  exact ⟨rfl, Env.res hk0 ho h1 h2 hz hr⟩
theorem Env.op2 {S : Nat → Prop} {w0 w : World} {V : Nat → Option (TypeId × Int)} (h : Env S w0 w V) {pz px : Nat} {tz tx : TypeId} {z x : Int} (hz : V pz = some (tz, z)) (hx : V px = some (tx, x)) {K : FuncId} {A : Array Value} {r : Int} {E : Ending}
    (hc : ∀ (az ax : Option Addr) (lz cz lx cx : Nat), IntS w pz tz z az lz cz → IntS w px tx x ax lx cx → (pz ≠ px → ∀ k, InB az k → ¬ InB ax k) → (pz = px → az = ax ∧ cz = cx) → Calls Tryz.prog K A w fun e w' => e = E ∧ IntRes w pz tz az cz r w') :
    Calls Tryz.prog K A w fun e w' => e = E ∧ Env S w0 w' (upd V pz tz r) := by
  obtain ⟨hk0, ho, f, h1, h2⟩ := h
  have ez : (V pz).isSome := by rw [hz]; rfl
  have ex : (V px).isSome := by rw [hx]; rfl
  refine (hc _ _ _ _ _ _ (h1 pz tz z hz).2.1 (h1 px tx x hx).2.1 (fun hne => h2 pz px ez ex hne) (by rintro rfl; exact ⟨rfl, rfl⟩)).mono ?_
  rintro e w' ⟨rfl, hr⟩
  exact ⟨rfl, Env.res hk0 ho h1 h2 hz hr⟩
theorem IntS.len {w : World} {p : Nat} {t : TypeId} {z : Int} {a : Option Addr} {l c k : Nat} (h : IntS w p t z a l c) (hz : z.natAbs < W64 ^ k) : l ≤ k := by
  rw [← h.rd.length]; exact words_lt hz

theorem Env.mul147 {S : Nat → Prop} {w0 w : World} {V : Nat → Option (TypeId × Int)} (h : Env S w0 w V) {pz px py : Nat} {tz tx ty : TypeId} {z x y : Int} (hz : V pz = some (tz, z)) (hx : V px = some (tx, x)) (hy : V py = some (ty, y)) (G : Glob w) (h1 : x.natAbs < W64 ^ 11) (h2 : y.natAbs < W64 ^ 11) :
    Calls Tryz.prog 147 #[.pointer (some ⟨pz, 0, none⟩), .pointer (some ⟨px, 0, none⟩), .pointer (some ⟨py, 0, none⟩)] w fun e w' => e = .returned (.pointer (some ⟨pz, 0, none⟩)) ∧ Env S w0 w' (upd V pz tz (x * y)) :=
  h.op hz hx hy fun az ax ay lz cz lx cx ly cy gz gx gy a1 a2 _ _ => mul147_any pz px py tz tx ty z x y az ax ay lz cz lx cx ly cy w gz gx gy G a1 a2 (by have := gx.len h1; omega) (by have := gy.len h2; omega)
theorem Env.add145 {S : Nat → Prop} {w0 w : World} {V : Nat → Option (TypeId × Int)} (h : Env S w0 w V) {pz px py : Nat} {tz tx ty : TypeId} {z x y : Int} (hz : V pz = some (tz, z)) (hx : V px = some (tx, x)) (hy : V py = some (ty, y)) (h1 : x.natAbs < W64 ^ 40) (h2 : y.natAbs < W64 ^ 40) :
    Calls Tryz.prog 145 #[.pointer (some ⟨pz, 0, none⟩), .pointer (some ⟨px, 0, none⟩), .pointer (some ⟨py, 0, none⟩)] w fun e w' => e = .returned (.pointer (some ⟨pz, 0, none⟩)) ∧ Env S w0 w' (upd V pz tz (x + y)) :=
  h.op hz hx hy fun az ax ay lz cz lx cx ly cy gz gx gy a1 a2 b1 b2 => by
    have := Go.Proofs.add145 pz px py tz tx ty _ _ _ z.natAbs x.natAbs y.natAbs az ax ay lz cz lx cx ly cy w gz.g gx.g gy.g (al_of a1 b1) (al_of a2 b2) (by have := gx.len h1; omega) (by have := gy.len h2; omega)
    rwa [sgnv_of, sgnv_of] at this
theorem Env.sub146 {S : Nat → Prop} {w0 w : World} {V : Nat → Option (TypeId × Int)} (h : Env S w0 w V) {pz px py : Nat} {tz tx ty : TypeId} {z x y : Int} (hz : V pz = some (tz, z)) (hx : V px = some (tx, x)) (hy : V py = some (ty, y)) (h1 : x.natAbs < W64 ^ 40) (h2 : y.natAbs < W64 ^ 40) :
    Calls Tryz.prog 146 #[.pointer (some ⟨pz, 0, none⟩), .pointer (some ⟨px, 0, none⟩), .pointer (some ⟨py, 0, none⟩)] w fun e w' => e = .returned (.pointer (some ⟨pz, 0, none⟩)) ∧ Env S w0 w' (upd V pz tz (x - y)) :=
  h.op hz hx hy fun az ax ay lz cz lx cx ly cy gz gx gy a1 a2 b1 b2 => by
    have := Go.Proofs.sub146 pz px py tz tx ty _ _ _ z.natAbs x.natAbs y.natAbs az ax ay lz cz lx cx ly cy w gz.g gx.g gy.g (al_of a1 b1) (al_of a2 b2) (by have := gx.len h1; omega) (by have := gy.len h2; omega)
    rwa [sgnv_of, sgnv_of] at this
theorem Env.quo148 {S : Nat → Prop} {w0 w : World} {V : Nat → Option (TypeId × Int)} (h : Env S w0 w V) {pz px py : Nat} {tz tx ty : TypeId} {z x y : Int} (hz : V pz = some (tz, z)) (hx : V px = some (tx, x)) (hy : V py = some (ty, y)) (G : Glob w) (hy0 : y ≠ 0) (h1 : x.natAbs < W64 ^ 40) (h2 : y.natAbs < W64 ^ 39) :
    Calls Tryz.prog 148 #[.pointer (some ⟨pz, 0, none⟩), .pointer (some ⟨px, 0, none⟩), .pointer (some ⟨py, 0, none⟩)] w fun e w' => e = .returned (.pointer (some ⟨pz, 0, none⟩)) ∧ Env S w0 w' (upd V pz tz (x.tdiv y)) :=
  h.op hz hx hy fun az ax ay lz cz lx cx ly cy gz gx gy a1 a2 b1 b2 => quo148_any pz px py tz tx ty z x y az ax ay lz cz lx cx ly cy w gz gx gy (al_of a1 b1) hy0 (by have := gy.len h2; omega) (by have := gx.len h1; omega) G
end Go.Proofs
namespace Go.Proofs
open Go.RowKit
set_option maxHeartbeats 1000000
set_option linter.unusedVariables false
set_option linter.unusedSimpArgs false
set_option maxRecDepth 100000

/-- The product of n whole numbers from a on. -/
def prodZ (a : Int) : Nat → Int
  | 0 => 1
  | n + 1 => prodZ a n * (a + n)
theorem prodZ_head (a : Int) : ∀ n, prodZ a (n + 1) = a * prodZ (a + 1) n
  | 0 => by simp [prodZ]
  | n + 1 => by
    show prodZ a (n + 1) * (a + ((n + 1 : Nat) : Int)) = a * (prodZ (a + 1) n * (a + 1 + n))
    rw [prodZ_head a n, Int.mul_assoc, show a + ((n + 1 : Nat) : Int) = a + 1 + n by omega]
theorem prodZ_nat (a : Nat) : ∀ n, prodZ (a : Int) n = ((prodR a n : Nat) : Int)
  | 0 => rfl
  | n + 1 => by
    show prodZ (a : Int) n * ((a : Int) + n) = ((prodR a n * (a + n) : Nat) : Int)
    rw [prodZ_nat a n, Int.natCast_mul, Int.natCast_add]
theorem prodZ_zero (a : Int) (h0 : a ≤ 0) : ∀ n, (-a).toNat < n → prodZ a n = 0
  | 0, h => by omega
  | n + 1, h => by
    show prodZ a n * (a + n) = 0
    by_cases h1 : (-a).toNat < n
    · rw [prodZ_zero a h0 n h1, Int.zero_mul]
    · rw [show a + (n : Int) = 0 by omega, Int.mul_zero]
theorem prodZ_neg (c : Nat) : ∀ n, prodZ (1 - ((c + n : Nat) : Int)) n = if n % 2 = 1 then -((prodR c n : Nat) : Int) else ((prodR c n : Nat) : Int)
  | 0 => rfl
  | n + 1 => by
    rw [prodZ_head, show (1 : Int) - ((c + (n + 1) : Nat) : Int) + 1 = 1 - ((c + n : Nat) : Int) by omega, prodZ_neg c n]
    show _ = if (n + 1) % 2 = 1 then -((prodR c n * (c + n) : Nat) : Int) else ((prodR c n * (c + n) : Nat) : Int)
    rw [show (1 : Int) - ((c + (n + 1) : Nat) : Int) = -((c + n : Nat) : Int) by omega, Int.natCast_mul, Int.mul_comm ((prodR c n : Nat) : Int)]
    by_cases h : n % 2 = 1
    · rw [if_pos h, if_neg (by omega), Int.neg_mul_neg]
    · rw [if_neg h, if_pos (by omega), Int.neg_mul]

/-- What MulRange gives. -/
def rngZ (a b : Int) : Int := prodZ a (b - a + 1).toNat
theorem rngZ_empty {a b : Int} (h : b < a) : rngZ a b = 1 := by unfold rngZ; rw [show (b - a + 1).toNat = 0 by omega]; rfl
theorem rngZ_zero {a b : Int} (h : a ≤ 0) (k : 0 ≤ b) : rngZ a b = 0 := prodZ_zero a h _ (by omega)
theorem rngZ_pos {a b : Nat} (h : a ≤ b) : rngZ (a : Int) (b : Int) = ((prodR a (b + 1 - a) : Nat) : Int) := by
  unfold rngZ; rw [show ((b : Int) - (a : Int) + 1).toNat = b + 1 - a by omega, prodZ_nat]
theorem rngZ_neg {a b : Nat} (h : b ≤ a) : rngZ (-(a : Int)) (-(b : Int)) = if (a + 1 - b) % 2 = 1 then -((prodR b (a + 1 - b) : Nat) : Int) else ((prodR b (a + 1 - b) : Nat) : Int) := by
  unfold rngZ
  have := prodZ_neg b (a + 1 - b)
  rw [show (1 : Int) - ((b + (a + 1 - b) : Nat) : Int) = -(a : Int) by omega] at this
  rw [show (-(b : Int) - -(a : Int) + 1).toNat = a + 1 - b by omega, this]
theorem prodR_small {a b : Nat} (h0 : 0 < a) (hab : a ≤ b) (hb : b ≤ 60) : prodR a (b + 1 - a) < W64 ^ 8 := by
  have h1 := prodR_le (a := a) (B := 60) (b + 1 - a) (by omega)
  have h2 : 60 ^ (b + 1 - a) ≤ 60 ^ 60 := Nat.pow_le_pow_right (by omega) (by omega)
  have h3 : (60 : Nat) ^ 60 < W64 ^ 8 := by unfold W64; decide
  omega
theorem rngZ_small {a b : Int} (h1 : -60 ≤ a) (h2 : b ≤ 60) : (rngZ a b).natAbs < W64 ^ 8 := by
  have hW : 1 < W64 ^ 8 := by unfold W64; decide
  by_cases hab : b < a
  · rw [rngZ_empty hab]; simpa using hW
  by_cases h0 : a ≤ 0 ∧ 0 ≤ b
  · rw [rngZ_zero h0.1 h0.2]; simp; omega
  by_cases hp : 0 < a
  · obtain ⟨x, rfl⟩ := Int.eq_ofNat_of_zero_le (show 0 ≤ a by omega)
    obtain ⟨y, rfl⟩ := Int.eq_ofNat_of_zero_le (show 0 ≤ b by omega)
    rw [rngZ_pos (by omega)]
    have := prodR_small (a := x) (b := y) (by omega) (by omega) (by omega)
    simpa using this
  · obtain ⟨x, hx⟩ := Int.eq_ofNat_of_zero_le (show 0 ≤ -a by omega)
    obtain ⟨y, hy⟩ := Int.eq_ofNat_of_zero_le (show 0 ≤ -b by omega)
    obtain rfl : a = -(x : Int) := by omega
    obtain rfl : b = -(y : Int) := by omega
    rw [rngZ_neg (by omega)]
    have := prodR_small (a := y) (b := x) (by omega) (by omega) (by omega)
    split <;> simpa using this

theorem mulRange180 (p t : Nat) (a b : Int) (w : World) (hz : IntS w p t 0 none 0 0) (ha1 : -60 ≤ a) (ha2 : a ≤ 60) (hb1 : -60 ≤ b) (hb2 : b ≤ 60) (G : Glob w) :
    Calls Tryz.prog 180 #[.pointer (some ⟨p, 0, none⟩), .int .i64 a, .int .i64 b] w fun e w' => e = .returned (.pointer (some ⟨p, 0, none⟩)) ∧ IntRes w p t none 0 (rngZ a b) w' := by
  by_cases hab : b < a
  · have HC := hid (setInt64_163 p t 0 none 0 0 1 w hz (by omega) (by omega))
    have t1 : decide (b < a) = true := by simpa using hab
    rw [rngZ_empty hab]
    clear hz G hab
    go_enter Tryz.func180, Tryz.ntmps180
    go_wp2_with fail
    refine HC.out.mono ?_
    rintro e w1 ⟨rfl, h1⟩
    have H1 := hid h1
    clear h1
    go_wp2_with fail
    go_ret
    exact ⟨rfl, H1.out⟩
  have t1 : decide (b < a) = false := by simpa using hab
  by_cases h0 : a ≤ 0 ∧ 0 ≤ b
  · have HC := hid (setInt64_163 p t 0 none 0 0 0 w hz (by omega) (by omega))
    have t2 : decide (a ≤ 0) = true := by simp; omega
    have t3 : decide (0 ≤ b) = true := by simp; omega
    rw [rngZ_zero h0.1 h0.2]
    clear hz G hab h0
    go_enter Tryz.func180, Tryz.ntmps180
    go_wp2_with fail
    refine HC.out.mono ?_
    rintro e w1 ⟨rfl, h1⟩
    have H1 := hid h1
    clear h1
    go_wp2_with fail
    go_ret
    exact ⟨rfl, H1.out⟩
  have Hz := hid hz
  obtain ⟨z1, z2, z3, z4⟩ := hz.row.facts
  by_cases hp : 0 < a
  · obtain ⟨x, hx⟩ := Int.eq_ofNat_of_zero_le (show 0 ≤ a by omega)
    obtain ⟨y, hy⟩ := Int.eq_ofNat_of_zero_le (show 0 ≤ b by omega)
    have HC := hid (mulRange_nil x y w (by omega) (by omega) (by unfold W64; omega) G (Nat.lt_of_lt_of_le (prodR_small (by omega) (by omega) (by omega)) (Nat.pow_le_pow_right W64_pos (by omega))))
    rw [← hx, ← hy] at HC
    have t2 : decide (a ≤ 0) = false := by simp; omega
    have t4 : decide (a < 0) = false := by simp; omega
    have g1 : IntKind.u64.wrap a = a := by rw [IntKind.wrap_u64]; omega
    have g2 : IntKind.u64.wrap b = b := by rw [IntKind.wrap_u64]; omega
    have HR := hid (rngZ_pos (a := x) (b := y) (by omega))
    rw [← hx, ← hy] at HR
    clear hz G hab h0 hp hx hy ha1 ha2 hb1 hb2
    go_enter Tryz.func180, Tryz.ntmps180
    go_wp2_with fail
    refine HC.out.mono ?_
    rintro e w1 ⟨ra, rl, rc, rfl, h1, h2, h3⟩
    obtain ⟨d0, d1, d2, d3⟩ := Hz.out.row.after h3 (Hz.out.rd.not_row Hz.out.row)
    have H1 := hid h1; have H2 := hid h2; have H3 := hid h3
    clear h1 h2 h3 HC
    go_wp2_with fail
    go_ret
    refine ⟨rfl, IntRes.both (H3.out.row Hz.out.row (Hz.out.rd.not_row Hz.out.row)) H1.out H2.out (H3.out.mono (fun i _ h => .inr h)) ?_ ?_⟩
    · rw [HR.out]; exact (decide_eq_false (by omega)).symm
    · rw [HR.out]; simp
  · obtain ⟨x, hx⟩ := Int.eq_ofNat_of_zero_le (show 0 ≤ -a by omega)
    obtain ⟨y, hy⟩ := Int.eq_ofNat_of_zero_le (show 0 ≤ -b by omega)
    have HC := hid (mulRange_nil y x w (by omega) (by omega) (by unfold W64; omega) G (Nat.lt_of_lt_of_le (prodR_small (by omega) (by omega) (by omega)) (Nat.pow_le_pow_right W64_pos (by omega))))
    rw [← hx, ← hy] at HC
    have t2 : decide (a ≤ 0) = true := by simp; omega
    have t3 : decide (0 ≤ b) = false := by simp; omega
    have t4 : decide (a < 0) = true := by simp; omega
    have g1 : IntKind.u64.wrap (-a) = -a := by rw [IntKind.wrap_u64]; omega
    have g2 : IntKind.u64.wrap (-b) = -b := by rw [IntKind.wrap_u64]; omega
    have g3 : IntKind.i64.wrap (-a) = -a := by rw [IntKind.wrap_i64]; omega
    have g4 : IntKind.i64.wrap (-b) = -b := by rw [IntKind.wrap_i64]; omega
    have g5 : IntKind.i64.wrap (b - a) = b - a := by rw [IntKind.wrap_i64]; omega
    have g6 := i64_and1 (b - a)
    obtain ⟨ng, hng⟩ : ∃ ng, ng = ((b - a) % 2 == 0) := ⟨_, rfl⟩
    have g7 := hng.symm
    have HR : Hid (ng = decide (rngZ a b < 0) ∧ prodR y (x + 1 - y) = (rngZ a b).natAbs) := hid (by
      have h1 := rngZ_neg (a := x) (b := y) (by omega)
      rw [show -(x : Int) = a by omega, show -(y : Int) = b by omega] at h1
      have h2 := prodR_pos (a := y) (by omega) (x + 1 - y)
      rw [h1, hng]
      by_cases hodd : (x + 1 - y) % 2 = 1
      · rw [if_pos hodd]
        refine ⟨?_, by omega⟩
        rw [decide_eq_true (show -((prodR y (x + 1 - y) : Nat) : Int) < 0 by omega)]
        simp only [beq_iff_eq]; omega
      · rw [if_neg hodd]
        refine ⟨?_, by omega⟩
        rw [decide_eq_false (show ¬ ((prodR y (x + 1 - y) : Nat) : Int) < 0 by omega)]
        simp only [beq_eq_false_iff_ne]; omega)
    clear hz G hab h0 hp hx hy ha1 ha2 hb1 hb2 hng
    go_enter Tryz.func180, Tryz.ntmps180
    go_wp2_with fail
    refine HC.out.mono ?_
    rintro e w1 ⟨ra, rl, rc, rfl, h1, h2, h3⟩
    obtain ⟨d0, d1, d2, d3⟩ := Hz.out.row.after h3 (Hz.out.rd.not_row Hz.out.row)
    have H1 := hid h1; have H2 := hid h2; have H3 := hid h3
    clear h1 h2 h3 HC
    go_wp2_with fail
    go_ret
    exact ⟨rfl, IntRes.both (H3.out.row Hz.out.row (Hz.out.rd.not_row Hz.out.row)) H1.out H2.out (H3.out.mono (fun i _ h => .inr h)) HR.out.1 HR.out.2⟩
end Go.Proofs
namespace Go.Proofs
open Go.RowKit
set_option maxHeartbeats 1000000
set_option linter.unusedVariables false
set_option linter.unusedSimpArgs false
set_option maxRecDepth 100000

theorem ch_self : ∀ n, ch n n = 1
  | 0 => rfl
  | n + 1 => by
    show ch n n + ch n (n + 1) = 1
    rw [ch_self n, ch_big n (n + 1) (by omega)]
theorem ch_symm : ∀ (n k : Nat), k ≤ n → ch n (n - k) = ch n k
  | n, 0, _ => by rw [ch_zero, Nat.sub_zero, ch_self]
  | n + 1, k + 1, h => by
    rw [show n + 1 - (k + 1) = n - k by omega]
    by_cases e : k = n
    · subst e; rw [Nat.sub_self, ch_zero, ch_self]
    · have h1 := ch_symm n (k + 1) (by omega)
      have h2 := ch_symm n k (by omega)
      obtain ⟨j, hj⟩ : ∃ j, n - k = j + 1 := ⟨n - k - 1, by omega⟩
      rw [show n - (k + 1) = j by omega] at h1
      rw [hj] at h2 ⊢
      show ch n j + ch n (j + 1) = ch n k + ch n (k + 1)
      rw [h1, h2]; omega
theorem ch_le : ∀ (n k : Nat), ch n k ≤ 2 ^ n
  | n, 0 => by rw [ch_zero]; exact Nat.one_le_two_pow
  | 0, k + 1 => by simp [ch]
  | n + 1, k + 1 => by
    show ch n k + ch n (k + 1) ≤ _
    have h1 := ch_le n k
    have h2 := ch_le n (k + 1)
    rw [Nat.pow_succ]; omega

/-- What Binomial gives. -/
def binZ (n k : Int) : Int := if n < k ∨ k < 0 then 0 else ((ch n.toNat k.toNat : Nat) : Int)
theorem binZ_small {n k : Int} (h : n ≤ 60) : (binZ n k).natAbs < W64 := by
  unfold binZ
  split
  · simp; exact W64_pos
  · have h1 := ch_le n.toNat k.toNat
    have h2 : 2 ^ n.toNat ≤ 2 ^ 60 := Nat.pow_le_pow_right (by omega) (by omega)
    rw [Int.natAbs_natCast]; unfold W64; omega

theorem Env.congr {S : Nat → Prop} {w0 w : World} {V V' : Nat → Option (TypeId × Int)} (h : Env S w0 w V) (hV : ∀ q, V' q = V q) : Env S w0 w V' := h.mono fun p t z hp => by rw [← hV]; exact hp

/-- The numbers of Binomial. -/
def VB (V : Nat → Option (TypeId × Int)) (p t b : Nat) (z n k i u : Int) : Nat → Option (TypeId × Int) :=
  fun q => if q = p then some (t, z) else if q = b then some (103, n) else if q = b + 1 then some (103, k) else if q = b + 1 + 1 then some (103, i) else if q = b + 1 + 1 + 1 then some (103, u) else V q

section
variable (V : Nat → Option (TypeId × Int)) (p t b : Nat) (z n k i u r : Int)
theorem VB.uz : upd (VB V p t b z n k i u) p t r = VB V p t b r n k i u := by
  funext q; unfold VB upd; grind
theorem VB.un (h : p < b) : upd (VB V p t b z n k i u) b 103 r = VB V p t b z r k i u := by
  funext q; unfold VB upd; grind
theorem VB.uk (h : p < b) : upd (VB V p t b z n k i u) (b + 1) 103 r = VB V p t b z n r i u := by
  funext q; unfold VB upd; grind
theorem VB.ui (h : p < b) : upd (VB V p t b z n k i u) (b + 1 + 1) 103 r = VB V p t b z n k r u := by
  funext q; unfold VB upd; grind
theorem VB.uu (h : p < b) : upd (VB V p t b z n k i u) (b + 1 + 1 + 1) 103 r = VB V p t b z n k i r := by
  funext q; unfold VB upd; grind
theorem VB.zero (h : p < b) (hp : V p = some (t, z)) : upd (upd (upd (upd V b 103 0) (b + 1) 103 0) (b + 1 + 1) 103 0) (b + 1 + 1 + 1) 103 0 = VB V p t b z 0 0 0 0 := by
  funext q; unfold VB upd; grind
theorem VB.gz : VB V p t b z n k i u p = some (t, z) := by unfold VB; grind
theorem VB.gn (h : p < b) : VB V p t b z n k i u b = some (103, n) := by unfold VB; grind
theorem VB.gk (h : p < b) : VB V p t b z n k i u (b + 1) = some (103, k) := by unfold VB; grind
theorem VB.gi (h : p < b) : VB V p t b z n k i u (b + 1 + 1) = some (103, i) := by unfold VB; grind
theorem VB.gu (h : p < b) : VB V p t b z n k i u (b + 1 + 1 + 1) = some (103, u) := by unfold VB; grind
end

theorem cmpZ_lt (i k : Int) : decide (cmpZ i k < 0) = decide (i < k) := by
  unfold cmpZ
  by_cases h : i < k
  · simp [h]
  · rw [if_neg h]
    split <;> simp [h]

theorem intOne_env {S : Nat → Prop} {w0 w : World} {V : Nat → Option (TypeId × Int)} (h : Env S w0 w V) :
    Calls Tryz.prog 200 #[] w fun e w' => ∃ q, e = .returned (.pointer (some ⟨q, 0, none⟩)) ∧ w.heap.size ≤ q ∧ Keeps (fun _ => False) w w' ∧ Env S w0 w' (upd V q 103 1) := by
  refine (intOne200 w).mono ?_
  rintro e w' ⟨q, a, rfl, h1, h2, h3, h4⟩
  exact ⟨q, rfl, h1, h4, h.add h4 h1 h3 h2⟩

theorem Env.none_ge {S : Nat → Prop} {w0 w : World} {V : Nat → Option (TypeId × Int)} (h : Env S w0 w V) {q : Nat} (hq : w.heap.size ≤ q) : V q = none := by
  cases hv : V q with
  | none => rfl
  | some x => obtain ⟨t, z⟩ := x; have := h.lt hv; omega
/-- A number is forgotten. -/
theorem Env.drop {S : Nat → Prop} {w0 w : World} {V : Nat → Option (TypeId × Int)} {q p t t' : Nat} {x r : Int} (h : Env S w0 w (upd (upd V q t' x) p t r)) (hq : V q = none) (hpq : p ≠ q) : Env S w0 w (upd V p t r) := by
  refine h.mono ?_
  intro k t1 z1 hk
  unfold upd at *
  by_cases h1 : k = p
  · rw [if_pos h1] at hk ⊢; exact hk
  · rw [if_neg h1] at hk ⊢
    by_cases h2 : k = q
    · subst h2; rw [hq] at hk; cases hk
    · rw [if_neg h2]; exact hk
/-- The number that lies at p. -/
noncomputable def intAtOf (w : World) (p t : Nat) : Int := Classical.epsilon fun z => IntAt w p t z
theorem intAtOf_eq {w : World} {p t : Nat} {z : Int} (h : IntAt w p t z) : intAtOf w p t = z := by
  have h1 : IntAt w p t (intAtOf w p t) := Classical.epsilon_spec ⟨z, h⟩
  obtain ⟨a, l, c, k1, k2⟩ := h
  obtain ⟨a', l', c', k3, k4⟩ := h1
  exact (IntS.same (⟨k3, k4⟩ : IntS w p t _ a' l' c') (⟨k1, k2⟩ : IntS w p t z a l c)).1

theorem small_pow {x k : Nat} (h : x < W64) (hk : 0 < k) : x < W64 ^ k :=
  Nat.lt_of_lt_of_le h (by have := Nat.pow_le_pow_right W64_pos hk; rwa [Nat.pow_one] at this)

theorem binomial181 {S : Nat → Prop} {w0 w : World} {V : Nat → Option (TypeId × Int)} (h : Env S w0 w V) {p t : Nat} {z : Int} (hp : V p = some (t, z)) (n k : Int) (hn1 : -60 ≤ n) (hn2 : n ≤ 60) (hk1 : -60 ≤ k) (hk2 : k ≤ 60) (G : Glob w0) (hGS : ∀ q, GB q → ¬ S q) :
    Calls Tryz.prog 181 #[.pointer (some ⟨p, 0, none⟩), .int .i64 n, .int .i64 k] w fun e w' => e = .returned (.pointer (some ⟨p, 0, none⟩)) ∧ Env S w0 w' (upd V p t (binZ n k)) := by
  by_cases h0 : n < k ∨ k < 0
  · have HC := hid (h.op1 hp (K := 163) (A := #[.pointer (some ⟨p, 0, none⟩), .int .i64 0]) (r := 0) (E := .returned (.pointer (some ⟨p, 0, none⟩))) fun az lz cz g => setInt64_163 p t z az lz cz 0 w g (by omega) (by omega))
    have hb : binZ n k = 0 := by unfold binZ; rw [if_pos h0]
    rw [hb]
    clear h hp G hGS hb
    by_cases h1 : n < k
    · have t1 : decide (n < k) = true := by simpa using h1
      clear h0 h1
      go_enter Tryz.func181, Tryz.ntmps181
      go_wp2_with fail
      refine HC.out.mono ?_
      rintro e w1 ⟨rfl, h1⟩
      have H1 := hid h1
      clear h1
      go_wp2_with fail
      go_ret
      exact ⟨rfl, H1.out⟩
    · have t1 : decide (n < k) = false := by simpa using h1
      have t2 : decide (k < 0) = true := by simp; omega
      clear h0 h1
      go_enter Tryz.func181, Tryz.ntmps181
      go_wp2_with fail
      refine HC.out.mono ?_
      rintro e w1 ⟨rfl, h1⟩
      have H1 := hid h1
      clear h1
      go_wp2_with fail
      go_ret
      exact ⟨rfl, H1.out⟩
  · have t1 : decide (n < k) = false := by simp; omega
    have t2 : decide (k < 0) = false := by simp; omega
    obtain ⟨N, hN⟩ := Int.eq_ofNat_of_zero_le (show 0 ≤ n by omega)
    obtain ⟨K, hK⟩ := Int.eq_ofNat_of_zero_le (show 0 ≤ k by omega)
    have hb : binZ n k = ((ch N K : Nat) : Int) := by unfold binZ; rw [if_neg h0, hN, hK]; rfl
    have g1 : wrap64 (n - k) = n - k := by unfold wrap64; omega
    have HE := hid h; have HG := hid G; have HGS := hid hGS
    have hpl := h.lt hp
    have Hp := hid hp; have Hb := hid hb
    have HN := hid hN; have HK := hid hK
    have Hle : Hid (K ≤ N ∧ N ≤ 60) := hid (by omega)
    clear h hp hb G hGS hN hK h0 hn1 hn2 hk1 hk2
    go_enter Tryz.func181, Tryz.ntmps181
    go_upto_if 24 with fail
    obtain ⟨J, hJ⟩ : ∃ J, J = if N - K < K then N - K else K := ⟨_, rfl⟩
    have hJN : Hid (J ≤ N ∧ ch N J = ch N K) := hid (by
      rw [hJ]; split
      · exact ⟨by omega, ch_symm N K Hle.out.1⟩
      · exact ⟨Hle.out.1, rfl⟩)
    have HJ := hid hJ
    clear hJ
    go_cut [2] from 23 to 27 (fun kv wx => kv = .int .i64 (J : Int) ∧ wx = w)
    case first =>
      by_cases hlt : n - k < k
      · have t3 : decide (n - k < k) = true := by simpa using hlt
        have hJe : n - k = (J : Int) := by
          have := HJ.out; have := HN.out; have := HK.out; have := Hle.out
          rw [if_pos (by omega)] at *; omega
        have HJe := hid hJe
        clear hJe
        go_wp2_with fail
        go_meet
        case rel => exact ⟨by rw [← HJe.out, g1], rfl⟩
      · have t3 : decide (n - k < k) = false := by simpa using hlt
        have hJe : k = (J : Int) := by
          have := HJ.out; have := HN.out; have := HK.out; have := Hle.out
          rw [if_neg (by omega)] at *; omega
        have HJe := hid hJe
        clear hJe
        go_wp2_with fail
        go_meet
        case rel => exact ⟨by rw [← HJe.out], rfl⟩
    case rest =>
      obtain ⟨rfl, rfl⟩ := hcut
      obtain ⟨b, hb⟩ : ∃ b, b = wc.heap.size := ⟨_, rfl⟩
      obtain ⟨W4, hW4⟩ : ∃ W, W = ((((wc.alloc (.cells #[.bool false, .slice none 0 0] 103)).alloc (.cells #[.bool false, .slice none 0 0] 103)).alloc (.cells #[.bool false, .slice none 0 0] 103)).alloc (.cells #[.bool false, .slice none 0 0] 103)) := ⟨_, rfl⟩
      have hpb : p < b := by omega
      have hE4 : Env S w0 W4 (VB V p t b z 0 0 0 0) := by
        have := (((HE.out.new 103).new 103).new 103).new 103
        rw [← hW4] at this
        simp only [World.size_alloc] at this
        rw [← hb, VB.zero V p t b z hpb Hp.out] at this
        exact this
      have hGe : ∀ (w1 : World) (V1 : Nat → Option (TypeId × Int)), Env S w0 w1 V1 → Glob w1 := fun w1 V1 h => HG.out.keep h.keeps HGS.out
      have HGe := hid hGe
      have hs1 : Hid (n = (N : Int)) := HN
      have HC1 := hid (hE4.op1 (VB.gn V p t b z 0 0 0 0 hpb) (K := 163) (A := #[.pointer (some ⟨b, 0, none⟩), .int .i64 n]) (r := n) (E := .returned (.pointer (some ⟨b, 0, none⟩))) fun az lz cz g => setInt64_163 b 103 0 az lz cz n _ g (by have := HN.out; omega) (by have := HN.out; have := Hle.out; omega))
      rw [VB.un V p t b z 0 0 0 0 n hpb] at HC1
      have Hb2 := hid hb; have HW4 := hid hW4
      clear hE4 hGe hb hW4
      go_wp2_with fail
      rw [← Hb2.out, ← HW4.out]
      refine HC1.out.mono ?_
      rintro e w1 ⟨rfl, h1⟩
      have E1 := hid h1
      have HC2 := hid (h1.op1 (VB.gk V p t b z n 0 0 0 hpb) (K := 163) (A := #[.pointer (some ⟨b + 1, 0, none⟩), .int .i64 (J : Int)]) (r := (J : Int)) (E := .returned (.pointer (some ⟨b + 1, 0, none⟩))) fun az lz cz g => setInt64_163 (b + 1) 103 0 az lz cz (J : Int) _ g (by omega) (by have := hJN.out; have := Hle.out; omega))
      rw [VB.uk V p t b z n 0 0 0 (J : Int) hpb] at HC2
      clear h1 HC1
      go_wp2_with fail
      refine HC2.out.mono ?_
      rintro e w2 ⟨rfl, h2⟩
      have E2 := hid h2
      have HO := hid (intOne_env h2)
      clear h2 HC2
      go_wp2_with fail
      refine HO.out.mono ?_
      rintro e w3 ⟨q, rfl, hq1, hq2, hq3⟩
      have hqn := E2.out.none_ge hq1
      have hpq : p ≠ q := by have := E2.out.lt (VB.gz V p t b z n J 0 0); omega
      have HC3 := hid (hq3.op2 (pz := p) (px := q) (tz := t) (tx := 103) (z := z) (x := 1) (by rw [upd_ne _ _ _ hpq]; exact VB.gz V p t b z n J 0 0) (upd_eq _ _ _ _) (K := 160) (A := #[.pointer (some ⟨p, 0, none⟩), .pointer (some ⟨q, 0, none⟩)]) (r := 1) (E := .returned (.pointer (some ⟨p, 0, none⟩)))
        fun az ax lz cz lx cx g1 g2 g3 _ => set160_other p q t 103 z 1 az ax lz cz lx cx _ g1 g2 hpq (g3 hpq) (by have := g2.len (k := 1) (by unfold W64; decide); omega))
      have Hqn := hid hqn; have Hpq := hid hpq
      clear hq3 hqn hpq hq1 hq2 HO
      go_wp2_with fail
      refine HC3.out.mono ?_
      rintro e w4 ⟨rfl, h4⟩
      have h5 := h4.drop Hqn.out Hpq.out
      rw [VB.uz V p t b z n J 0 0 1] at h5
      have E4 := hid h5
      clear h4 h5 HC3
      go_wp2_with fail
      go_loopw [] (fun wr => ∃ (j : Nat) (u : Int), j ≤ J ∧ Env S w0 wr (VB V p t b ((ch N j : Nat) : Int) n J j u)) (fun wr => J - (intAtOf wr (b + 1 + 1) 103).toNat)
      case atStart => exact ⟨0, 0, Nat.zero_le _, by rw [ch_zero]; exact E4.out⟩
      case round =>
        obtain ⟨j, u, hj, henv⟩ := hrel
        have E5 := hid henv
        have HC5 := hid (cmp158_any (b + 1 + 1) (b + 1) 103 103 (j : Int) (J : Int) wr (henv.get (VB.gi V p t b _ n J j u hpb)) (henv.get (VB.gk V p t b _ n J j u hpb)))
        obtain ⟨cm, hcm⟩ : ∃ cm, cm = cmpZ (j : Int) (J : Int) := ⟨_, rfl⟩
        have hct : decide (cm < 0) = decide (j < J) := by rw [hcm, cmpZ_lt]; simp
        rw [← hcm] at HC5
        clear henv hcm
        by_cases hlt : j < J
        · have t5 : decide (cm < 0) = true := by rw [hct]; simpa using hlt
          clear hct
          have B1 : Hid (n.natAbs < W64) := hid (by have := HN.out; have := Hle.out; unfold W64; omega)
          have B2 : Hid (((j : Int)).natAbs < W64) := hid (by have := hJN.out; have := Hle.out; unfold W64; omega)
          go_wp2_with fail
          refine HC5.out.mono ?_
          rintro e w6 ⟨rfl, kk, rfl⟩
          have h6 := E5.out.drewN kk
          have HS := hid (h6.sub146 (VB.gu V p t b _ n J j u hpb) (VB.gn V p t b _ n J j u hpb) (VB.gi V p t b _ n J j u hpb) (small_pow B1.out (by omega)) (small_pow B2.out (by omega)))
          rw [VB.uu V p t b _ n J j u (n - (j : Int)) hpb] at HS
          clear h6 HC5
          go_wp2_with fail
          refine HS.out.mono ?_
          rintro e w7 ⟨rfl, h7⟩
          have hzb : Hid (((ch N j : Nat) : Int).natAbs < W64) := hid (by
            have h1 := ch_le N j
            have h2 : 2 ^ N ≤ 2 ^ 60 := Nat.pow_le_pow_right (by omega) Hle.out.2
            rw [Int.natAbs_natCast]; unfold W64; omega)
          have HMl := hid (h7.mul147 (VB.gz V p t b _ n J j _) (VB.gz V p t b _ n J j _) (VB.gu V p t b _ n J j _ hpb) (HGe.out _ _ h7) (small_pow hzb.out (by omega)) (small_pow (by have := HN.out; have := Hle.out; have := hJN.out; unfold W64; omega) (by omega)))
          rw [VB.uz V p t b _ n J j _] at HMl
          clear h7 HS
          go_wp2_with fail
          refine HMl.out.mono ?_
          rintro e w8 ⟨rfl, h8⟩
          have E8 := hid h8
          have HO2 := hid (intOne_env h8)
          clear h8 HMl
          go_wp2_with fail
          refine HO2.out.mono ?_
          rintro e w9 ⟨q, rfl, hq1, hq2, hq3⟩
          have hqn := E8.out.none_ge hq1
          have hiq : b + 1 + 1 ≠ q := by have := E8.out.lt (VB.gi V p t b _ n J j _ hpb); omega
          have HA := hid (hq3.add145 (pz := b + 1 + 1) (px := b + 1 + 1) (py := q) (tz := 103) (tx := 103) (ty := 103) (z := (j : Int)) (x := (j : Int)) (y := 1) (by rw [upd_ne _ _ _ hiq]; exact VB.gi V p t b _ n J j _ hpb) (by rw [upd_ne _ _ _ hiq]; exact VB.gi V p t b _ n J j _ hpb) (upd_eq _ _ _ _) (small_pow B2.out (by omega)) (small_pow (by unfold W64; decide) (by omega)))
          have Hqn2 := hid hqn; have Hiq := hid hiq
          clear hq3 hqn hiq hq1 hq2 HO2
          go_wp2_with fail
          refine HA.out.mono ?_
          rintro e w10 ⟨rfl, h10⟩
          have h11 := h10.drop Hqn2.out Hiq.out
          rw [VB.ui V p t b _ n J j _ _ hpb] at h11
          have hpr : Hid ((((ch N j : Nat) : Int) * (n - (j : Int))) = ((ch N j * (N - j) : Nat) : Int)) := hid (by
            rw [HN.out, Int.natCast_mul]
            congr 1
            have := hJN.out
            omega)
          have hprb : ch N j * (N - j) < W64 ^ 40 := by
            have h1 := ch_le N j
            have h2 : 2 ^ N ≤ 2 ^ 60 := Nat.pow_le_pow_right (by omega) Hle.out.2
            have h3 : ch N j * (N - j) ≤ 2 ^ 60 * 60 := Nat.mul_le_mul (Nat.le_trans h1 h2) (by have := Hle.out; omega)
            have h4 : (2 : Nat) ^ 60 * 60 < W64 ^ 2 := by unfold W64; decide
            have h5 : W64 ^ 2 ≤ W64 ^ 40 := Nat.pow_le_pow_right W64_pos (by omega)
            omega
          have HQ := hid (h11.quo148 (VB.gz V p t b _ n J _ _) (VB.gz V p t b _ n J _ _) (VB.gi V p t b _ n J _ _ hpb) (HGe.out _ _ h11) (by omega) (by rw [hpr.out, Int.natAbs_natCast]; exact hprb) (small_pow (by have := Hle.out; have := hJN.out; unfold W64; omega) (by omega)))
          rw [VB.uz V p t b _ n J _ _] at HQ
          have hdv : Hid ((((ch N j : Nat) : Int) * (n - (j : Int))).tdiv ((j : Int) + 1) = ((ch N (j + 1) : Nat) : Int)) := hid (by
            rw [hpr.out, show (j : Int) + 1 = ((j + 1 : Nat) : Int) by omega, ← Int.ofNat_tdiv, ch_div])
          rw [hdv.out] at HQ
          clear h10 h11 HA hprb
          go_wp2_with fail
          refine HQ.out.mono ?_
          rintro e w12 ⟨rfl, h12⟩
          have E12 := hid h12
          clear h12 HQ
          go_wp2_with fail
          refine ⟨⟨j + 1, _, by omega, by rw [show ((j + 1 : Nat) : Int) = (j : Int) + 1 by omega]; exact E12.out⟩, ?_⟩
          rw [intAtOf_eq (E5.out.get (VB.gi V p t b _ n J j u hpb)), intAtOf_eq (E12.out.get (VB.gi V p t b _ n J _ _ hpb))]
          omega
        · have t5 : decide (cm < 0) = false := by rw [hct]; simpa using hlt
          obtain rfl : j = J := by omega
          clear hct hlt
          go_wp2_with fail
          refine HC5.out.mono ?_
          rintro e w6 ⟨rfl, kk, rfl⟩
          go_wp2_with fail
          go_ret
          refine ⟨rfl, (E5.out.drewN kk).mono ?_⟩
          intro q' t1 z1 hk
          have hlow : q' ≠ p → q' < b := fun hne => by
            rw [upd_ne _ _ _ hne] at hk
            have := HE.out.lt hk
            rw [Hb2.out]; exact this
          unfold upd at hk
          unfold VB
          by_cases h1 : q' = p
          · rw [if_pos h1] at hk ⊢
            rw [Hb.out, ← hJN.out.2] at hk
            exact hk
          · have := hlow h1
            rw [if_neg h1] at hk ⊢
            rw [if_neg (by omega), if_neg (by omega), if_neg (by omega), if_neg (by omega)]
            exact hk
end Go.Proofs
