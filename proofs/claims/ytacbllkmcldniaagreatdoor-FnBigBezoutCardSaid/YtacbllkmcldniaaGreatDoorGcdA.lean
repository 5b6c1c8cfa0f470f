/- Parts of the proofs over the numbers of any length: Lehm, Lehm2, Lehm3, Lehm4. -/
import Derived.Test.YtacbllkmcldniaaGreatDoorBaseA
set_option linter.unusedSimpArgs false
set_option linter.unusedVariables false
namespace Go.Proofs
set_option linter.unusedVariables false

/-- A row of the two factors: what it makes of A and B. -/
def rowv (odd : Bool) (u v : Nat) (A B : Int) : Int := if odd then (v : Int) * B - u * A else (u : Int) * A - v * B

/-- The state of the simulation at the head of its loop. -/
structure Lh (a0 b0 a1 a2 u1 u2 v1 v2 : Nat) (e : Bool) : Prop where
  r1 : (a1 : Int) = rowv e u1 v1 a0 b0
  r2 : (a2 : Int) = rowv (!e) u2 v2 a0 b0
  d1 : a1 * v2 + a2 * v1 = a0
  d2 : a1 * u2 + a2 * u1 = b0
  vpos : 1 ≤ v2
  uv : u2 ≤ v2
  uv1 : e = true → u1 ≤ v1
  st : e = false → u1 ≤ v1 ∨ (u1 = 1 ∧ v1 = 0 ∧ u2 = 0 ∧ v2 = 1)
  le : a2 ≤ a1

theorem Lh.start {a0 b0 : Nat} (h : b0 ≤ a0) : Lh a0 b0 a0 b0 1 0 0 1 false :=
  ⟨by simp [rowv], by simp [rowv], by omega, by omega, by omega, by omega, (fun h => by cases h), fun _ => .inr ⟨rfl, rfl, rfl, rfl⟩, h⟩

theorem Lh.step {a0 b0 a1 a2 u1 u2 v1 v2 : Nat} {e : Bool} (h : Lh a0 b0 a1 a2 u1 u2 v1 v2 e) (hc : v2 ≤ a2) :
    Lh a0 b0 a2 (a1 % a2) u2 (u1 + a1 / a2 * u2) v2 (v1 + a1 / a2 * v2) (!e) := by
  obtain ⟨r1, r2, d1, d2, vp, uv, uv1, st, le⟩ := h
  have hp : 0 < a2 := by omega
  have hq : 1 ≤ a1 / a2 := (Nat.le_div_iff_mul_le hp).2 (by omega)
  have hd := Nat.div_add_mod a1 a2
  have hm := Nat.mod_lt a1 hp
  generalize a1 / a2 = q at *
  generalize a1 % a2 = r at *
  have hz : (r : Int) = a1 - a2 * q := by
    have : (a1 : Int) = a2 * q + r := by rw [← hd]; push_cast; rfl
    omega
  refine ⟨r2, ?_, ?_, ?_, ?_, ?_, ?_, ?_, by omega⟩
  · rw [hz, r1, r2]
    cases e <;> simp only [rowv, Bool.not_true, Bool.not_false, if_true, Bool.false_eq_true, if_false] <;> push_cast <;> grind
  · rw [← d1, ← hd]; grind
  · rw [← d2, ← hd]; grind
  · have : 1 * 1 ≤ q * v2 := Nat.mul_le_mul hq vp
    omega
  · have h1 : q * u2 ≤ q * v2 := Nat.mul_le_mul_left _ uv
    cases e with
    | true => have := uv1 rfl; omega
    | false =>
      rcases st rfl with h | ⟨rfl, rfl, rfl, rfl⟩
      · omega
      · omega
  · intro _; exact uv
  · intro _; exact .inl uv
/-- No word runs over. -/
theorem Lh.bounds {a0 b0 a1 a2 u1 u2 v1 v2 : Nat} {e : Bool} (h : Lh a0 b0 a1 a2 u1 u2 v1 v2 e) (hc : v2 ≤ a2) :
    v1 + v2 ≤ a0 ∧ u1 + a1 / a2 * u2 ≤ a0 ∧ v1 + a1 / a2 * v2 ≤ a0 := by
  have h' := h.step hc
  obtain ⟨r1, r2, d1, d2, vp, uv, uv1, st, le⟩ := h
  have hp : 0 < a2 := by omega
  have hv : a2 * (v1 + a1 / a2 * v2) ≤ a0 := by have := h'.d1; omega
  have h1 : 1 * (v1 + a1 / a2 * v2) ≤ a2 * (v1 + a1 / a2 * v2) := Nat.mul_le_mul_right _ hp
  have hq : 1 ≤ a1 / a2 := (Nat.le_div_iff_mul_le hp).2 (by omega)
  have h2 : 1 * v2 ≤ a1 / a2 * v2 := Nat.mul_le_mul_right _ hq
  have := h'.uv
  omega

/-- Where the test holds the rows make numbers of the whole A and B, in order. -/
theorem Lh.good {a0 b0 a1 a2 u1 u2 v1 v2 : Nat} {e : Bool} (h : Lh a0 b0 a1 a2 u1 u2 v1 v2 e) (hc : v2 ≤ a2) (hc2 : v1 + v2 ≤ a1 - a2)
    {A B K α β : Int} (hA : A = a0 * K + α) (hB : B = b0 * K + β) (hα : 0 ≤ α) (hα' : α < K) (hβ : 0 ≤ β) (hβ' : β < K) :
    0 ≤ rowv (!e) u2 v2 A B ∧ rowv (!e) u2 v2 A B < rowv e u1 v1 A B := by
  obtain ⟨r1, r2, d1, d2, vp, uv, uv1, st, le⟩ := h
  have lin : ∀ (o : Bool) (u v : Nat), rowv o u v A B = rowv o u v a0 b0 * K + rowv o u v α β := by
    intro o u v
    subst hA; subst hB
    cases o <;> simp only [rowv, if_true, Bool.false_eq_true, if_false] <;> grind
  rw [lin, lin, ← r1, ← r2]
  have mul_nn : ∀ {x y : Int}, 0 ≤ x → 0 ≤ y → 0 ≤ x * y := fun h k => Int.mul_nonneg h k
  have k1 : ∀ n : Nat, 0 ≤ (n : Int) * α ∧ (n : Int) * α ≤ n * K := fun n => ⟨mul_nn (by omega) hα, Int.mul_le_mul_of_nonneg_left (by omega) (by omega)⟩
  have k2 : ∀ n : Nat, 0 ≤ (n : Int) * β ∧ (n : Int) * β ≤ n * K := fun n => ⟨mul_nn (by omega) hβ, Int.mul_le_mul_of_nonneg_left (by omega) (by omega)⟩
  have sβ : ((v2 : Nat) : Int) * β < v2 * K := Int.mul_lt_mul_of_pos_left hβ' (by omega)
  have e1 : (a1 : Int) * K - a2 * K - v1 * K - v2 * K = ((a1 - a2 - v1 - v2 : Nat) : Int) * K := by
    rw [show ((a1 - a2 - v1 - v2 : Nat) : Int) = a1 - a2 - v1 - v2 by omega]; grind
  have e2 : (a2 : Int) * K - v2 * K = ((a2 - v2 : Nat) : Int) * K := by
    rw [show ((a2 - v2 : Nat) : Int) = a2 - v2 by omega]; grind
  have e3 : (v2 : Int) * K - u2 * K = ((v2 - u2 : Nat) : Int) * K := by
    rw [show ((v2 - u2 : Nat) : Int) = v2 - u2 by omega]; grind
  have hK : 0 < K := by omega
  have p1 : 0 ≤ ((a1 - a2 - v1 - v2 : Nat) : Int) * K := mul_nn (by omega) (by omega)
  have p2 : 0 ≤ ((a2 - v2 : Nat) : Int) * K := mul_nn (by omega) (by omega)
  have p3 : 0 ≤ ((v2 - u2 : Nat) : Int) * K := mul_nn (by omega) (by omega)
  have q1 := k1 u1; have q2 := k1 u2; have q3 := k2 v1; have q4 := k2 v2
  cases e with
  | false =>
    simp only [rowv, Bool.not_false, if_true, Bool.false_eq_true, if_false]
    omega
  | true =>
    have hu := uv1 rfl
    have e4 : (v1 : Int) * K - u1 * K = ((v1 - u1 : Nat) : Int) * K := by
      rw [show ((v1 - u1 : Nat) : Int) = v1 - u1 by omega]; grind
    have p4 : 0 ≤ ((v1 - u1 : Nat) : Int) * K := mul_nn (by omega) (by omega)
    have sα : u2 = 0 ∨ ((u2 : Nat) : Int) * α < u2 * K := by
      by_cases h0 : u2 = 0
      · exact .inl h0
      · exact .inr (Int.mul_lt_mul_of_pos_left hα' (by omega))
    have vK : (0 : Int) < v2 * K := Int.mul_pos (by omega) hK
    simp only [rowv, Bool.not_true, if_true, Bool.false_eq_true, if_false]
    rcases sα with h0 | h0
    · subst h0
      simp only [Int.ofNat_zero, Int.zero_mul] at *
      omega
    · omega
end Go.Proofs
namespace Go.Proofs
set_option linter.unusedVariables false

/-- The rows' determinant. -/
def LDet (u1 u2 v1 v2 : Nat) (e : Bool) : Prop := (u1 : Int) * v2 - (u2 : Int) * v1 = if e then -1 else 1
theorem LDet.start : LDet 1 0 0 1 false := by unfold LDet; rfl
theorem LDet.step {u1 u2 v1 v2 : Nat} {e : Bool} (h : LDet u1 u2 v1 v2 e) (q : Nat) : LDet u2 (u1 + q * u2) v2 (v1 + q * v2) (!e) := by
  unfold LDet at *
  push_cast
  cases e <;> simp only [Bool.not_false, Bool.not_true, if_true, Bool.false_eq_true, if_false] at * <;> grind
theorem LDet.back {u0 u1 v0 v1 : Nat} {e : Bool} (h : LDet u0 u1 v0 v1 (!e)) (A B : Int) :
    A = v1 * rowv (!e) u0 v0 A B + v0 * rowv e u1 v1 A B ∧ B = u1 * rowv (!e) u0 v0 A B + u0 * rowv e u1 v1 A B := by
  unfold LDet at h
  cases e <;> simp only [rowv, Bool.not_false, Bool.not_true, if_true, Bool.false_eq_true, if_false] at * <;> exact ⟨by grind, by grind⟩
theorem gcd_unimod {A B C D : Int} {a b c d p q r s : Int} (h1 : C = a * A + b * B) (h2 : D = c * A + d * B) (h3 : A = p * C + q * D) (h4 : B = r * C + s * D) : Int.gcd C D = Int.gcd A B := by
  apply Nat.dvd_antisymm
  · apply Int.dvd_gcd
    · rw [h3]; exact Int.dvd_add (Int.dvd_mul_of_dvd_right (Int.gcd_dvd_left ..)) (Int.dvd_mul_of_dvd_right (Int.gcd_dvd_right ..))
    · rw [h4]; exact Int.dvd_add (Int.dvd_mul_of_dvd_right (Int.gcd_dvd_left ..)) (Int.dvd_mul_of_dvd_right (Int.gcd_dvd_right ..))
  · apply Int.dvd_gcd
    · rw [h1]; exact Int.dvd_add (Int.dvd_mul_of_dvd_right (Int.gcd_dvd_left ..)) (Int.dvd_mul_of_dvd_right (Int.gcd_dvd_right ..))
    · rw [h2]; exact Int.dvd_add (Int.dvd_mul_of_dvd_right (Int.gcd_dvd_left ..)) (Int.dvd_mul_of_dvd_right (Int.gcd_dvd_right ..))
theorem rowv_lin (e : Bool) (u v : Nat) (A B : Int) : rowv e u v A B = (if e then -(u : Int) else u) * A + (if e then (v : Int) else -v) * B := by
  cases e <;> simp only [rowv, if_true, Bool.false_eq_true, if_false] <;> grind
/-- The two new numbers have the same divisors. -/
theorem LDet.gcd {u0 u1 v0 v1 : Nat} {e : Bool} (h : LDet u0 u1 v0 v1 (!e)) (A B : Int) : Int.gcd (rowv (!e) u0 v0 A B) (rowv e u1 v1 A B) = Int.gcd A B :=
  gcd_unimod (rowv_lin _ _ _ _ _) (rowv_lin _ _ _ _ _) (h.back A B).1 (h.back A B).2

/-! The root. -/
/-- s is x's root, cut off. -/
def IsRoot (x s : Nat) : Prop := s * s ≤ x ∧ x < (s + 1) * (s + 1)
theorem IsRoot.unique {x s t : Nat} (h : IsRoot x s) (k : IsRoot x t) : s = t := by
  have key : ∀ {s t : Nat}, IsRoot x s → IsRoot x t → s ≤ t := by
    intro s t h k
    rcases Nat.lt_or_ge t s with hlt | hge
    · have : (t + 1) * (t + 1) ≤ s * s := Nat.mul_le_mul hlt hlt
      have := h.1; have := k.2; omega
    · exact hge
  exact Nat.le_antisymm (key h k) (key k h)
theorem exists_root (x : Nat) : ∃ s, IsRoot x s := by
  induction x with
  | zero => exact ⟨0, by simp [IsRoot]⟩
  | succ x ih =>
    obtain ⟨s, h1, h2⟩ := ih
    by_cases h : x + 1 < (s + 1) * (s + 1)
    · exact ⟨s, by omega, h⟩
    · refine ⟨s + 1, by omega, ?_⟩
      have : (s + 1 + 1) * (s + 1 + 1) = (s + 1) * (s + 1) + 2 * s + 3 := by grind
      omega
/-- A step of Newton's from above. -/
theorem root_step {x s z : Nat} (h : IsRoot x s) (hz : s ≤ z) (hp : 0 < z) : s ≤ (x / z + z) / 2 := by
  have : 2 * s ≤ x / z + z := by
    by_cases h2 : 2 * s ≤ z
    · exact Nat.le_trans h2 (Nat.le_add_left _ _)
    · have h3 : 2 * s - z ≤ x / z := by
        rw [Nat.le_div_iff_mul_le hp]
        have h4 : (2 * s - z) * z ≤ s * s := by
          obtain ⟨d, rfl⟩ : ∃ d, z = s + d := ⟨z - s, by omega⟩
          have : 2 * s - (s + d) = s - d := by omega
          rw [this]
          obtain ⟨c, rfl⟩ : ∃ c, s = d + c := ⟨s - d, by omega⟩
          rw [show d + c - d = c by omega]
          have : (d + c) * (d + c) = c * (d + c + d) + d * d := by grind
          omega
        exact Nat.le_trans h4 h.1
      generalize x / z = t at *
      omega
  generalize x / z = t at *
  omega
theorem root_done {x s z : Nat} (h : IsRoot x s) (hz : s ≤ z) (hp : 0 < z) (hd : z ≤ (x / z + z) / 2) : z = s := by
  have h1 : z ≤ x / z := by generalize x / z = t at *; omega
  have h2 : z * z ≤ x := (Nat.le_div_iff_mul_le hp).1 h1
  rcases Nat.lt_or_ge s z with hlt | hge
  · have : (s + 1) * (s + 1) ≤ z * z := Nat.mul_le_mul hlt hlt
    have := h.2; omega
  · omega
end Go.Proofs
namespace Go.Proofs
set_option maxHeartbeats 400000
set_option linter.unusedVariables false

/-- What the simulation hands back. -/
def SimOut (A B : Int) (u0 u1 v0 v1 : Nat) (e : Bool) : Prop :=
  v0 = 0 ∨ (LDet u0 u1 v0 v1 (!e) ∧ 0 ≤ rowv e u1 v1 A B ∧ rowv e u1 v1 A B < rowv (!e) u0 v0 A B ∧ rowv (!e) u0 v0 A B ≤ B ∧ u0 ≤ u1 ∧ v0 ≤ v1)
/-- The simulation at the head of its loop. -/
structure Sim (a0 b0 : Nat) (A B : Int) (a1 a2 u0 u1 u2 v0 v1 v2 : Nat) (e : Bool) : Prop where
  lh : Lh a0 b0 a1 a2 u1 u2 v1 v2 e
  det : LDet u1 u2 v1 v2 e
  fst : (u1 = 1 ∧ u2 = 0 ∧ v1 = 0 ∧ v2 = 1 ∧ e = false) ∨ (rowv e u1 v1 A B ≤ B ∧ u1 ≤ u2 ∧ v1 ≤ v2)
  out : SimOut A B u0 u1 v0 v1 e
  u0l : u0 ≤ a0 ∧ v0 ≤ a0
  wl : u1 ≤ a0 ∧ u2 ≤ a0 ∧ v1 ≤ a0 ∧ v2 ≤ a0
theorem Sim.start {a0 b0 : Nat} (A B : Int) (h : b0 ≤ a0) (h1 : 1 ≤ a0) : Sim a0 b0 A B a0 b0 0 1 0 0 0 1 false :=
  ⟨Lh.start h, LDet.start, .inl ⟨rfl, rfl, rfl, rfl, rfl⟩, .inl rfl, ⟨Nat.zero_le _, Nat.zero_le _⟩, h1, Nat.zero_le _, Nat.zero_le _, h1⟩
theorem Sim.step {a0 b0 : Nat} {A B K α β : Int} {a1 a2 u0 u1 u2 v0 v1 v2 : Nat} {e : Bool} (h : Sim a0 b0 A B a1 a2 u0 u1 u2 v0 v1 v2 e) (hc : v2 ≤ a2) (hc2 : v1 + v2 ≤ a1 - a2)
    (hA : A = a0 * K + α) (hB : B = b0 * K + β) (hα : 0 ≤ α) (hα' : α < K) (hβ : 0 ≤ β) (hβ' : β < K) :
    Sim a0 b0 A B a2 (a1 % a2) u1 u2 (u1 + a1 / a2 * u2) v1 v2 (v1 + a1 / a2 * v2) (!e) := by
  obtain ⟨g1, g2⟩ := h.lh.good hc hc2 hA hB hα hα' hβ hβ'
  obtain ⟨b1, b2, b3⟩ := h.lh.bounds hc
  refine ⟨h.lh.step hc, h.det.step _, ?_, ?_, ⟨h.wl.1, h.wl.2.2.1⟩, h.wl.2.1, b2, h.wl.2.2.2, b3⟩
  · right
    have hp : 0 < a2 := by have := h.lh.vpos; omega
    have hq : 1 ≤ a1 / a2 := (Nat.le_div_iff_mul_le hp).2 (by have := h.lh.le; omega)
    have k1 : 1 * u2 ≤ a1 / a2 * u2 := Nat.mul_le_mul_right _ hq
    have k2 : 1 * v2 ≤ a1 / a2 * v2 := Nat.mul_le_mul_right _ hq
    rcases h.fst with ⟨e1, e2, e3, e4, e5⟩ | h1
    · subst e2 e4 e5
      refine ⟨by simp [rowv], by omega, by omega⟩
    · exact ⟨by omega, by omega, by omega⟩
  · rcases h.fst with ⟨e1, e2, e3, e4, e5⟩ | h1
    · exact .inl e3
    · right
      rw [Bool.not_not]
      exact ⟨h.det, g1, g2, h1.1, h1.2.1, h1.2.2⟩
/-- The new numbers of an update. -/
theorem SimOut.next {A B : Int} {u0 u1 v0 v1 : Nat} {e : Bool} (h : SimOut A B u0 u1 v0 v1 e) (hv : v0 ≠ 0) :
    0 ≤ rowv e u1 v1 A B ∧ rowv e u1 v1 A B < rowv (!e) u0 v0 A B ∧ rowv (!e) u0 v0 A B ≤ B ∧ Int.gcd (rowv (!e) u0 v0 A B) (rowv e u1 v1 A B) = Int.gcd A B := by
  rcases h with h | ⟨h1, h2, h3, h4⟩
  · exact absurd h hv
  · exact ⟨h2, h3, h4.1, h1.gcd A B⟩
/-- The factors turn as the numbers do. -/
theorem rowv_mod {n A B Ua Ub a : Int} (e : Bool) (u v : Nat) (hA : n ∣ Ua * a - A) (hB : n ∣ Ub * a - B) : n ∣ rowv e u v Ua Ub * a - rowv e u v A B := by
  obtain ⟨k, hk⟩ := hA
  obtain ⟨l, hl⟩ := hB
  cases e <;> simp only [rowv, if_true, Bool.false_eq_true, if_false]
  · exact ⟨u * k - v * l, by grind⟩
  · exact ⟨v * l - u * k, by grind⟩
/-- Euclid's steps upon two words. -/
structure Eu (a0 b0 a1 a2 u1 u2 v1 v2 : Nat) (e : Bool) : Prop where
  r1 : (a1 : Int) = rowv e u1 v1 a0 b0
  r2 : (a2 : Int) = rowv (!e) u2 v2 a0 b0
  d1 : a1 * v2 + a2 * v1 = a0
  d2 : a1 * u2 + a2 * u1 = b0
  pos : 0 < a1
  g : Nat.gcd a1 a2 = Nat.gcd a0 b0
  wl : u1 ≤ b0 ∧ v1 ≤ a0
theorem Eu.start {a0 b0 : Nat} (h : 0 < a0) (h1 : 0 < b0) : Eu a0 b0 a0 b0 1 0 0 1 false :=
  ⟨by simp [rowv], by simp [rowv], by omega, by omega, h, rfl, h1, Nat.zero_le _⟩
theorem Eu.bounds {a0 b0 a1 a2 u1 u2 v1 v2 : Nat} {e : Bool} (h : Eu a0 b0 a1 a2 u1 u2 v1 v2 e) : u2 ≤ b0 ∧ v2 ≤ a0 := by
  have h1 : 1 * v2 ≤ a1 * v2 := Nat.mul_le_mul_right _ h.pos
  have h2 : 1 * u2 ≤ a1 * u2 := Nat.mul_le_mul_right _ h.pos
  have := h.d1; have := h.d2
  omega
theorem Eu.step {a0 b0 a1 a2 u1 u2 v1 v2 : Nat} {e : Bool} (h : Eu a0 b0 a1 a2 u1 u2 v1 v2 e) (hp : 0 < a2) :
    Eu a0 b0 a2 (a1 % a2) u2 (u1 + a1 / a2 * u2) v2 (v1 + a1 / a2 * v2) (!e) := by
  obtain ⟨k1, k2⟩ := h.bounds
  obtain ⟨r1, r2, d1, d2, pos, g, wl⟩ := h
  have hd := Nat.div_add_mod a1 a2
  have hg : Nat.gcd a2 (a1 % a2) = Nat.gcd a1 a2 := by rw [Nat.gcd_comm a1 a2, Nat.gcd_rec a2 a1, Nat.gcd_comm]
  generalize a1 / a2 = q at *
  generalize a1 % a2 = r at *
  refine ⟨r2, ?_, ?_, ?_, hp, by rw [hg, g], k1, k2⟩
  · have : (r : Int) = a1 - a2 * q := by omega
    rw [Bool.not_not, this, r1, r2]
    push_cast
    cases e <;> simp only [rowv, Bool.not_false, Bool.not_true, if_true, Bool.false_eq_true, if_false] <;> grind
  · rw [← d1, ← hd]; grind
  · rw [← d2, ← hd]; grind
end Go.Proofs
namespace Go.Proofs
set_option maxHeartbeats 1000000
set_option linter.unusedVariables false

/-- Euclid's numbers and their factors. -/
structure Gc (a b A B Ua Ub : Int) : Prop where
  ba : 0 ≤ B ∧ B ≤ A ∧ 1 ≤ A
  g : Int.gcd A B = Int.gcd a b
  da : b ∣ Ua * a - A
  db : b ∣ Ub * a - B
  sz : (0 ≤ Ua ∧ Ub ≤ 0 ∧ B * Ua - A * Ub = b) ∨ (Ua ≤ 0 ∧ 0 ≤ Ub ∧ A * Ub - B * Ua = b)
  ul : -b ≤ Ua ∧ Ua ≤ b
theorem Gc.start {a b : Int} (ha : 1 ≤ a) (hb : 1 ≤ b) (h : b ≤ a) : Gc a b a b 1 0 :=
  ⟨by omega, rfl, ⟨0, by omega⟩, ⟨-1, by omega⟩, .inl ⟨by omega, by omega, by omega⟩, by omega⟩
theorem Gc.swap {a b : Int} (ha : 1 ≤ a) (hb : 1 ≤ b) (h : a ≤ b) : Gc a b b a 0 1 :=
  ⟨by omega, Int.gcd_comm b a, ⟨-1, by omega⟩, ⟨0, by omega⟩, .inr ⟨by omega, by omega, by omega⟩, by omega⟩
theorem gc_mul_ge {A x : Int} (hA : 1 ≤ A) (hx : 0 ≤ x) : x ≤ A * x := by
  have := Int.mul_le_mul_of_nonneg_right hA hx
  omega
/-- The second factor's size. -/
theorem Gc.ub {a b A B Ua Ub : Int} (h : Gc a b A B Ua Ub) : -b ≤ Ub ∧ Ub ≤ b := by
  obtain ⟨⟨b1, b2, b3⟩, _, _, _, sz, ul⟩ := h
  rcases sz with ⟨h1, h2, h3⟩ | ⟨h1, h2, h3⟩
  · have k1 := gc_mul_ge b3 (show 0 ≤ -Ub by omega)
    have k2 := Int.mul_nonneg b1 h1
    rw [Int.mul_neg] at k1
    omega
  · have k1 := gc_mul_ge b3 h2
    have k2 := Int.mul_nonneg b1 (show 0 ≤ -Ua by omega)
    rw [Int.mul_neg] at k2
    omega
theorem Gc.step {a b A B Ua Ub : Int} (h : Gc a b A B Ua Ub) (hB : 0 < B) : Gc a b B (A % B) Ub (Ua - A / B * Ub) := by
  have hub := h.ub
  obtain ⟨⟨b1, b2, b3⟩, g, ⟨k, hk⟩, ⟨l, hl⟩, sz, ul⟩ := h
  have hd := Int.mul_ediv_add_emod A B
  have hm := Int.emod_lt_of_pos A hB
  have hm0 := Int.emod_nonneg A (by omega : B ≠ 0)
  have hq : 0 ≤ A / B := Int.ediv_nonneg (by omega) b1
  have hg : Int.gcd B (A % B) = Int.gcd A B := by
    rw [Int.gcd_comm A B]
    apply Nat.dvd_antisymm
    · apply Int.dvd_gcd
      · exact Int.gcd_dvd_left ..
      · conv => rhs; rw [← hd]
        exact Int.dvd_add (Int.dvd_mul_of_dvd_left (Int.gcd_dvd_left ..)) (Int.gcd_dvd_right ..)
    · apply Int.dvd_gcd
      · exact Int.gcd_dvd_left ..
      · rw [show A % B = A - B * (A / B) by omega]
        exact Int.dvd_sub (Int.gcd_dvd_right ..) (Int.dvd_mul_of_dvd_left (Int.gcd_dvd_left ..))
  generalize A / B = q at *
  generalize A % B = r at *
  refine ⟨by omega, by rw [hg, g], ⟨l, hl⟩, ⟨k - q * l, by grind⟩, ?_, hub⟩
  rcases sz with ⟨h1, h2, h3⟩ | ⟨h1, h2, h3⟩
  · right
    have := Int.mul_nonneg hq (show 0 ≤ -Ub by omega)
    rw [Int.mul_neg] at this
    exact ⟨h2, by omega, by grind⟩
  · left
    have := Int.mul_nonneg hq h2
    exact ⟨h2, by omega, by grind⟩
theorem Gc.lehmer {a b A B Ua Ub : Int} {u0 u1 v0 v1 : Nat} {e : Bool} (h : Gc a b A B Ua Ub) (ho : SimOut A B u0 u1 v0 v1 e) (hv : v0 ≠ 0) :
    Gc a b (rowv (!e) u0 v0 A B) (rowv e u1 v1 A B) (rowv (!e) u0 v0 Ua Ub) (rowv e u1 v1 Ua Ub) := by
  obtain ⟨g1, g2, g3, g4⟩ := ho.next hv
  rcases ho with ho | ⟨o1, o2, o3, o4, o5, o6⟩
  · exact absurd ho hv
  obtain ⟨⟨b1, b2, b3⟩, g, da, db, sz, ul⟩ := h
  have hda := rowv_mod (!e) u0 v0 da db
  have hdb := rowv_mod e u1 v1 da db
  have key : (0 ≤ rowv (!e) u0 v0 Ua Ub ∧ rowv e u1 v1 Ua Ub ≤ 0 ∧ rowv e u1 v1 A B * rowv (!e) u0 v0 Ua Ub - rowv (!e) u0 v0 A B * rowv e u1 v1 Ua Ub = b ∧ rowv (!e) u0 v0 Ua Ub ≤ -rowv e u1 v1 Ua Ub) ∨
      (rowv (!e) u0 v0 Ua Ub ≤ 0 ∧ 0 ≤ rowv e u1 v1 Ua Ub ∧ rowv (!e) u0 v0 A B * rowv e u1 v1 Ua Ub - rowv e u1 v1 A B * rowv (!e) u0 v0 Ua Ub = b ∧ -rowv (!e) u0 v0 Ua Ub ≤ rowv e u1 v1 Ua Ub) := by
    have m : ∀ (u v : Nat) (x : Int), u ≤ v → 0 ≤ x → 0 ≤ (u : Int) * x ∧ (u : Int) * x ≤ (v : Int) * x := fun u v x h1 h2 =>
      ⟨Int.mul_nonneg (by omega) h2, Int.mul_le_mul_of_nonneg_right (by omega) h2⟩
    unfold LDet at o1
    rcases sz with ⟨h1, h2, h3⟩ | ⟨h1, h2, h3⟩
    · have k1 := m u0 u1 Ua o5 h1
      have k2 := m v0 v1 (-Ub) o6 (by omega)
      rw [Int.mul_neg, Int.mul_neg] at k2
      cases e <;> simp only [rowv, Bool.not_false, Bool.not_true, if_true, Bool.false_eq_true, if_false] at *
      · right
        exact ⟨by omega, by omega, by grind, by omega⟩
      · left
        exact ⟨by omega, by omega, by grind, by omega⟩
    · have k1 := m u0 u1 (-Ua) o5 (by omega)
      have k2 := m v0 v1 Ub o6 h2
      rw [Int.mul_neg, Int.mul_neg] at k1
      cases e <;> simp only [rowv, Bool.not_false, Bool.not_true, if_true, Bool.false_eq_true, if_false] at *
      · left
        exact ⟨by omega, by omega, by grind, by omega⟩
      · right
        exact ⟨by omega, by omega, by grind, by omega⟩
  generalize rowv (!e) u0 v0 A B = A' at *
  generalize rowv e u1 v1 A B = B' at *
  generalize rowv (!e) u0 v0 Ua Ub = Ua' at *
  generalize rowv e u1 v1 Ua Ub = Ub' at *
  refine ⟨by omega, by rw [g4, g], hda, hdb, ?_, ?_⟩
  · rcases key with ⟨h1, h2, h3, h4⟩ | ⟨h1, h2, h3, h4⟩
    · exact .inl ⟨h1, h2, h3⟩
    · exact .inr ⟨h1, h2, h3⟩
  · rcases key with ⟨h1, h2, h3, h4⟩ | ⟨h1, h2, h3, h4⟩
    · have k1 := gc_mul_ge (show 1 ≤ A' by omega) (show 0 ≤ -Ub' by omega)
      have k2 := Int.mul_nonneg g1 h1
      rw [Int.mul_neg] at k1
      omega
    · have k1 := gc_mul_ge (show 1 ≤ A' by omega) h2
      have k2 := Int.mul_nonneg g1 (show 0 ≤ -Ua' by omega)
      rw [Int.mul_neg] at k2
      omega
/-- The end, where both are words. -/
theorem Gc.words {a b A B Ua Ub : Int} {A0 B0 a1 u1 u2 v1 v2 : Nat} {e : Bool} (h : Gc a b A B Ua Ub) (hA : A = A0) (hB : B = B0) (he : Eu A0 B0 a1 0 u1 u2 v1 v2 e) :
    (a1 : Int) = Int.gcd a b ∧ b ∣ rowv e u1 v1 Ua Ub * a - a1 ∧ -b ≤ rowv e u1 v1 Ua Ub ∧ rowv e u1 v1 Ua Ub ≤ b := by
  obtain ⟨⟨b1, b2, b3⟩, g, da, db, sz, ul⟩ := h
  have hd := rowv_mod e u1 v1 da db
  subst hA hB
  rw [← he.r1] at hd
  have hg := he.g
  rw [Nat.gcd_zero_right] at hg
  have hgi : Int.gcd (A0 : Int) (B0 : Int) = Nat.gcd A0 B0 := rfl
  refine ⟨by rw [hg, ← hgi, g], hd, ?_⟩
  have m : ∀ (u v : Nat) (x : Int), u ≤ v → 0 ≤ x → 0 ≤ (u : Int) * x ∧ (u : Int) * x ≤ (v : Int) * x := fun u v x h1 h2 =>
    ⟨Int.mul_nonneg (by omega) h2, Int.mul_le_mul_of_nonneg_right (by omega) h2⟩
  obtain ⟨w1, w2⟩ := he.wl
  rcases sz with ⟨h1, h2, h3⟩ | ⟨h1, h2, h3⟩
  · have k1 := m u1 B0 Ua w1 h1
    have k2 := m v1 A0 (-Ub) w2 (by omega)
    rw [Int.mul_neg, Int.mul_neg] at k2
    cases e <;> simp only [rowv, if_true, Bool.false_eq_true, if_false] <;> omega
  · have k1 := m u1 B0 (-Ua) w1 (by omega)
    have k2 := m v1 A0 Ub w2 h2
    rw [Int.mul_neg, Int.mul_neg] at k1
    cases e <;> simp only [rowv, if_true, Bool.false_eq_true, if_false] <;> omega
/-- The end, where the second number is nought. -/
theorem Gc.done {a b A Ua Ub : Int} (h : Gc a b A 0 Ua Ub) : A = Int.gcd a b := by
  have := h.g
  rw [Int.gcd_zero_right] at this
  have := h.ba
  omega
end Go.Proofs
