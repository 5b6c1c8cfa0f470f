/- Parts of the proofs over the numbers of any length: Shift, Knuth, Knuth2, Knuth3, Db. -/
import Derived.Test.YtacbllkmcldniaaGreatDoorBaseA
set_option linter.unusedSimpArgs false
set_option linter.unusedVariables false
namespace Go.Proofs
set_option linter.unusedVariables false

theorem val_take_succ (L : List Nat) (i : Nat) : val (L.take (i + 1)) = val (L.take i) + W64 ^ i * L.getD i 0 := by
  by_cases h : i < L.length
  · rw [List.take_succ_eq_append_getElem h, val_snoc, List.length_take, Nat.min_eq_left (by omega)]
    simp [List.getElem?_eq_getElem h]
  · rw [List.take_of_length_le (by omega), List.take_of_length_le (by omega)]
    have : L.getD i 0 = 0 := by rw [List.getD_eq_getElem?_getD, List.getElem?_eq_none (by omega)]; rfl
    rw [this]; simp

/-- A word shifted up, with what comes up from the one below. -/
def shlW (s a b : Nat) : Nat := a * 2 ^ s % W64 + b / 2 ^ (64 - s)
/-- A word shifted down, with what comes down from the one above. -/
def shrW (s a b : Nat) : Nat := a / 2 ^ s + b * 2 ^ (64 - s) % W64
theorem pow_split {s : Nat} (h : s ≤ 64) : W64 = 2 ^ s * 2 ^ (64 - s) := by rw [← Nat.pow_add, W64_two]; congr 1; omega
theorem shl_mod {s : Nat} (h : s ≤ 64) (a : Nat) : a * 2 ^ s % W64 = 2 ^ s * (a % 2 ^ (64 - s)) := by
  rw [pow_split h, Nat.mul_comm a, Nat.mul_mod_mul_left]
theorem shl_div {s : Nat} (h : s ≤ 64) (a : Nat) : a * 2 ^ s / W64 = a / 2 ^ (64 - s) := by
  rw [pow_split h, Nat.mul_comm a, Nat.mul_div_mul_left _ _ (Nat.two_pow_pos s)]
theorem shlW_or {s a b : Nat} (h : s ≤ 64) (hb : b < W64) : a * 2 ^ s % W64 ||| b / 2 ^ (64 - s) = shlW s a b := by
  unfold shlW
  rw [shl_mod h, Nat.two_pow_add_eq_or_of_lt]
  rw [Nat.div_lt_iff_lt_mul (Nat.two_pow_pos _), ← pow_split h]
  exact hb
theorem shlW_lt {s a b : Nat} (h : s ≤ 64) (hb : b < W64) : shlW s a b < W64 := by
  unfold shlW
  have h1 : b / 2 ^ (64 - s) < 2 ^ s := by rw [Nat.div_lt_iff_lt_mul (Nat.two_pow_pos _), ← pow_split h]; exact hb
  have h2 : a % 2 ^ (64 - s) < 2 ^ (64 - s) := Nat.mod_lt _ (Nat.two_pow_pos _)
  have h3 : 2 ^ s * (a % 2 ^ (64 - s) + 1) ≤ 2 ^ s * 2 ^ (64 - s) := Nat.mul_le_mul_left _ h2
  rw [← pow_split h, Nat.mul_add, Nat.mul_one] at h3
  rw [shl_mod h]
  omega
theorem shrW_or {s a b : Nat} (h : s ≤ 64) (ha : a < W64) : a / 2 ^ s ||| b * 2 ^ (64 - s) % W64 = shrW s a b := by
  unfold shrW
  have h' : 64 - (64 - s) = s := by omega
  have := shlW_or (s := 64 - s) (a := b) (b := a) (by omega) ha
  unfold shlW at this
  rw [h'] at this
  rw [Nat.or_comm, this, Nat.add_comm]
theorem shrW_lt {s a b : Nat} (h : s ≤ 64) (ha : a < W64) : shrW s a b < W64 := by
  have h' : 64 - (64 - s) = s := by omega
  have := shlW_lt (s := 64 - s) (a := b) (b := a) (by omega) ha
  unfold shlW at this
  rw [h'] at this
  unfold shrW
  omega
/-- What comes up into word i. -/
def shlC (s : Nat) (X : List Nat) (i : Nat) : Nat := if i = 0 then 0 else X.getD (i - 1) 0 / 2 ^ (64 - s)
/-- The words shifted up by less than a word. -/
def shlL (s : Nat) (X : List Nat) (n : Nat) : List Nat := (List.range n).map fun i => X.getD i 0 * 2 ^ s % W64 + shlC s X i
theorem shlL_length (s : Nat) (X : List Nat) (n : Nat) : (shlL s X n).length = n := by simp [shlL]
theorem shlL_succ (s : Nat) (X : List Nat) (n : Nat) : shlL s X (n + 1) = shlL s X n ++ [X.getD n 0 * 2 ^ s % W64 + shlC s X n] := by
  unfold shlL
  rw [List.range_succ, List.map_append]; rfl
theorem shlL_words {s : Nat} {X : List Nat} (hs : s ≤ 64) (hX : Words X) (n : Nat) : Words (shlL s X n) := by
  intro x hx
  obtain ⟨i, hi, rfl⟩ := List.mem_map.1 hx
  unfold shlC
  by_cases h : i = 0
  · rw [if_pos h]; exact Nat.mod_lt _ W64_pos
  · rw [if_neg h]; exact shlW_lt hs (hX.getD _)
theorem shlL_val {s : Nat} {X : List Nat} (hs : s ≤ 64) : ∀ n, val (shlL s X n) + W64 ^ n * shlC s X n = val (X.take n) * 2 ^ s
  | 0 => by simp [shlL, shlC]
  | n + 1 => by
    have ih := shlL_val (X := X) hs n
    have hc : shlC s X (n + 1) = X.getD n 0 / 2 ^ (64 - s) := by unfold shlC; rw [if_neg (by omega), Nat.add_sub_cancel]
    rw [shlL_succ, val_snoc, shlL_length, val_take_succ, Nat.add_mul, ← ih, hc, Nat.pow_succ]
    have e : W64 ^ n * X.getD n 0 * 2 ^ s = W64 ^ n * (W64 * (X.getD n 0 / 2 ^ (64 - s))) + W64 ^ n * (X.getD n 0 * 2 ^ s % W64) := by
      rw [Nat.mul_assoc, ← Nat.mul_add]
      congr 1
      rw [← shl_div hs, Nat.div_add_mod]
    rw [e, Nat.mul_assoc, Nat.mul_add]
    omega
/-- The words shifted down by less than a word. -/
def shrL (s : Nat) (X : List Nat) (n : Nat) : List Nat := (List.range n).map fun i => shrW s (X.getD i 0) (X.getD (i + 1) 0)
theorem shrL_length (s : Nat) (X : List Nat) (n : Nat) : (shrL s X n).length = n := by simp [shrL]
theorem shrL_succ (s : Nat) (X : List Nat) (n : Nat) : shrL s X (n + 1) = shrL s X n ++ [shrW s (X.getD n 0) (X.getD (n + 1) 0)] := by
  unfold shrL
  rw [List.range_succ, List.map_append]; rfl
theorem shrL_words {s : Nat} {X : List Nat} (hs : s ≤ 64) (hX : Words X) (n : Nat) : Words (shrL s X n) := by
  intro x hx
  obtain ⟨i, hi, rfl⟩ := List.mem_map.1 hx
  exact shrW_lt hs (hX.getD _)
theorem shrL_val {s : Nat} {X : List Nat} (hs : s ≤ 64) : ∀ n, val (shrL s X n) * 2 ^ s + X.getD 0 0 % 2 ^ s = val (X.take n) + W64 ^ n * (X.getD n 0 % 2 ^ s)
  | 0 => by simp [shrL]
  | n + 1 => by
    have ih := shrL_val (X := X) hs n
    rw [shrL_succ, val_snoc, shrL_length, val_take_succ, Nat.add_mul, Nat.pow_succ]
    have e : shrW s (X.getD n 0) (X.getD (n + 1) 0) * 2 ^ s + X.getD n 0 % 2 ^ s = X.getD n 0 + W64 * (X.getD (n + 1) 0 % 2 ^ s) := by
      unfold shrW
      have h' : 64 - (64 - s) = s := by omega
      have h1 := shl_mod (s := 64 - s) (by omega) (X.getD (n + 1) 0)
      rw [h'] at h1
      rw [h1, Nat.add_mul]
      have h2 := Nat.div_add_mod (X.getD n 0) (2 ^ s)
      have h3 : 2 ^ (64 - s) * (X.getD (n + 1) 0 % 2 ^ s) * 2 ^ s = W64 * (X.getD (n + 1) 0 % 2 ^ s) := by
        rw [pow_split hs]
        simp only [Nat.mul_assoc, Nat.mul_comm, Nat.mul_left_comm]
      rw [h3, Nat.mul_comm (X.getD n 0 / 2 ^ s)]
      omega
    have e2 : W64 ^ n * (shrW s (X.getD n 0) (X.getD (n + 1) 0) * 2 ^ s) + W64 ^ n * (X.getD n 0 % 2 ^ s) = W64 ^ n * X.getD n 0 + W64 ^ n * (W64 * (X.getD (n + 1) 0 % 2 ^ s)) := by
      rw [← Nat.mul_add, e, Nat.mul_add]
    rw [Nat.mul_assoc, Nat.mul_assoc]
    omega
theorem shrL_div {s : Nat} {X : List Nat} (hs : s ≤ 64) : val (shrL s X X.length) = val X / 2 ^ s := by
  have h := shrL_val (X := X) hs X.length
  rw [List.take_length] at h
  have h0 : X.getD X.length 0 = 0 := by rw [List.getD_eq_getElem?_getD, List.getElem?_eq_none (by omega)]; rfl
  rw [h0, Nat.zero_mod, Nat.mul_zero, Nat.add_zero] at h
  have hlt : X.getD 0 0 % 2 ^ s < 2 ^ s := Nat.mod_lt _ (Nat.two_pow_pos s)
  rw [← h, Nat.mul_comm, Nat.mul_add_div (Nat.two_pow_pos s), Nat.div_eq_of_lt hlt]
  omega
end Go.Proofs
namespace Go.Proofs
set_option linter.unusedVariables false

/-- A guess that is too great by its first two words is too great. -/
theorem qhat_big {N v T d K q : Nat} (hN : N < (T + 1) * K) (hv : d * K ≤ v) (h : T < q * d) : N < q * v := by
  have h1 : (T + 1) * K ≤ q * d * K := Nat.mul_le_mul_right _ h
  have h2 : q * (d * K) ≤ q * v := Nat.mul_le_mul_left _ hv
  rw [← Nat.mul_assoc] at h2
  omega
/-- A guess that fits by the first three words is too great by at most one. -/
theorem qhat_near {N v T d K q : Nat} (hN : T * K ≤ N) (hv : v < (d + 1) * K) (hv2 : W64 * K ≤ v) (hq : q < W64) (h : q * d ≤ T) : q * v < N + v ∨ q = 0 := by
  by_cases h0 : q = 0
  · exact .inr h0
  left
  have h1 : q * v < q * ((d + 1) * K) := Nat.mul_lt_mul_of_pos_left hv (by omega)
  have h2 : q * ((d + 1) * K) = q * d * K + q * K := by rw [Nat.add_mul, Nat.mul_add, Nat.one_mul, Nat.mul_assoc]
  have h3 : q * d * K ≤ T * K := Nat.mul_le_mul_right _ h
  have h4 : q * K ≤ W64 * K := Nat.mul_le_mul_right _ (by omega)
  omega
/-- Where the first words are the same the greatest word is a good guess. -/
theorem qhat_top {N v t K : Nat} (hN : t * W64 * K ≤ N) (hv : v < (t + 1) * K) (ht : W64 ≤ 2 * t) (hp : 0 < v) : (W64 - 1) * v < N + v := by
  have h1 : (W64 - 2) * v ≤ (W64 - 2) * ((t + 1) * K) := Nat.mul_le_mul_left _ (by omega)
  have h2 : (W64 - 2) * ((t + 1) * K) ≤ t * W64 * K := by
    rw [← Nat.mul_assoc]
    apply Nat.mul_le_mul_right
    rw [Nat.mul_add, Nat.mul_one, Nat.sub_mul, Nat.mul_comm W64 t]
    have : 2 * t ≤ t * W64 := by rw [Nat.mul_comm]; exact Nat.mul_le_mul_left _ (by unfold W64; omega)
    omega
  have h3 : (W64 - 1) * v = (W64 - 2) * v + v := by
    rw [show W64 - 1 = (W64 - 2) + 1 by unfold W64; omega, Nat.add_mul, Nat.one_mul]
  have h5 : (W64 - 2) * v < (W64 - 2) * ((t + 1) * K) := Nat.mul_lt_mul_of_pos_left hv (by unfold W64; omega)
  omega
/-- The digit, and what is left. -/
theorem qhat_fits {N v q : Nat} (hq : N < (q + 1) * v) (h : q * v ≤ N) : N / v = q ∧ N % v = N - q * v := by
  have h1 : N / v = q := Nat.div_eq_of_lt_le h hq
  exact ⟨h1, by have := Nat.div_add_mod N v; rw [h1, Nat.mul_comm] at this; omega⟩
theorem qhat_less {N v q : Nat} (h : N < q * v) (hn : q * v < N + v) : N / v = q - 1 ∧ N % v = N + v - q * v ∧ 0 < q := by
  have h0 : q ≠ 0 := by rintro rfl; simp at h
  have h3 : q * v = (q - 1) * v + v := by
    rw [show q = (q - 1) + 1 by omega, Nat.add_mul, Nat.one_mul]; simp
  have h1 : N / v = q - 1 := Nat.div_eq_of_lt_le (by omega) (by rw [show q - 1 + 1 = q by omega]; exact h)
  exact ⟨h1, by have := Nat.div_add_mod N v; rw [h1, Nat.mul_comm] at this; omega, by omega⟩
end Go.Proofs
namespace Go.Proofs
set_option linter.unusedVariables false

/-- The words from place j on, laid open at the top three. -/
theorem val_top3 {L : List Nat} {j n : Nat} (hn : 2 ≤ n) (hL : Words L) (hz : ∀ i, j + n < i → L.getD i 0 = 0) :
    ∃ low, low < W64 ^ (n - 2) ∧ val (L.drop j) = low + W64 ^ (n - 2) * (L.getD (j + n - 2) 0 + W64 * (L.getD (j + n - 1) 0 + W64 * L.getD (j + n) 0)) := by
  have hd : ∀ i, val (L.drop i) = L.getD i 0 + W64 * val (L.drop (i + 1)) := by
    intro i
    by_cases h : i < L.length
    · rw [List.drop_eq_getElem_cons h, val_cons]
      simp [List.getElem?_eq_getElem h]
    · rw [List.drop_of_length_le (by omega), List.drop_of_length_le (by omega)]
      have : L.getD i 0 = 0 := by rw [List.getD_eq_getElem?_getD, List.getElem?_eq_none (by omega)]; rfl
      rw [this]; simp
  have hzero : ∀ k i, L.length ≤ i + k → j + n < i → val (L.drop i) = 0 := by
    intro k
    induction k with
    | zero => intro i h _; rw [List.drop_of_length_le (by omega)]; rfl
    | succ k ih => intro i h h2; rw [hd, hz i h2, ih (i + 1) (by omega) (by omega)]; simp
  have htop : val (L.drop (j + (n - 2))) = L.getD (j + n - 2) 0 + W64 * (L.getD (j + n - 1) 0 + W64 * L.getD (j + n) 0) := by
    rw [hd, hd, hd, hzero L.length (j + (n - 2) + 1 + 1 + 1) (by omega) (by omega)]
    rw [show j + (n - 2) = j + n - 2 by omega, show j + n - 2 + 1 = j + n - 1 by omega, show j + n - 1 + 1 = j + n by omega]
    simp
  have split : val (L.drop j) = val ((L.drop j).take (n - 2)) + W64 ^ (n - 2) * val (L.drop (j + (n - 2))) ∨ L.length < j + (n - 2) := by
    by_cases h : j + (n - 2) ≤ L.length
    · left
      have := val_append ((L.drop j).take (n - 2)) ((L.drop j).drop (n - 2))
      rw [List.take_append_drop, List.length_take, List.length_drop, Nat.min_eq_left (by omega), List.drop_drop] at this
      exact this
    · right; omega
  have hlt : val ((L.drop j).take (n - 2)) < W64 ^ (n - 2) := by
    have := val_lt ((hL.drop j).take (n - 2))
    exact Nat.lt_of_lt_of_le this (Nat.pow_le_pow_right W64_pos (List.length_take_le _ _))
  rcases split with h | h
  · exact ⟨_, hlt, by rw [h, htop]⟩
  · refine ⟨val (L.drop j), ?_, ?_⟩
    · have := val_lt (hL.drop j)
      exact Nat.lt_of_lt_of_le this (Nat.pow_le_pow_right W64_pos (by rw [List.length_drop]; omega))
    · have g : ∀ i, L.length ≤ i → L.getD i 0 = 0 := by
        intro i hi; rw [List.getD_eq_getElem?_getD, List.getElem?_eq_none hi]; rfl
      rw [g _ (by omega), g _ (by omega), g _ (by omega)]; simp

/-- A number laid open at the top two words of n. -/
theorem val_top2 {L : List Nat} {n : Nat} (hn : 2 ≤ n) (hL : Words L) (hl : L.length = n) :
    ∃ low, low < W64 ^ (n - 2) ∧ val L = low + W64 ^ (n - 2) * (L.getD (n - 2) 0 + W64 * L.getD (n - 1) 0) := by
  obtain ⟨low, h1, h2⟩ := val_top3 (L := L) (j := 0) (n := n) hn hL (fun i hi => by rw [List.getD_eq_getElem?_getD, List.getElem?_eq_none (by omega)]; rfl)
  refine ⟨low, h1, ?_⟩
  have h0 : L.getD n 0 = 0 := by rw [List.getD_eq_getElem?_getD, List.getElem?_eq_none (by omega)]; rfl
  rw [List.drop_zero, Nat.zero_add, h0] at h2
  simpa using h2

/-- The first guess is not too small. -/
theorem kn_first {N V v1 T K q : Nat} (hN : N < (T + 1) * K) (hV : v1 * K ≤ V) (hq : T < (q + 1) * v1) : N < (q + 1) * V := qhat_big hN hV hq

/-- What the test of the guess says. -/
theorem kn_test {q v1 v2 r u2 x1 x2 T' : Nat} (hx : x2 + W64 * x1 = q * v2) (hr : q * v1 + r = T') (hu : u2 < W64) (hx2 : x2 < W64) :
    (x1 > r ∨ x1 = r ∧ x2 > u2) ↔ T' * W64 + u2 < q * (v1 * W64 + v2) := by
  have e : q * (v1 * W64 + v2) = q * v1 * W64 + (x2 + W64 * x1) := by rw [Nat.mul_add, ← Nat.mul_assoc, hx]
  have e2 : T' * W64 = q * v1 * W64 + r * W64 := by rw [← hr, Nat.add_mul]
  rw [e, e2]
  generalize q * v1 * W64 = A
  unfold W64 at *
  omega
theorem kn_wrap {q v1 v2 r u2 T' : Nat} (hr : q * v1 + r = T') (hW : W64 ≤ r) (hq : q < W64) (hv : v2 < W64) : q * (v1 * W64 + v2) ≤ T' * W64 + u2 := by
  have e2 : T' * W64 = q * v1 * W64 + r * W64 := by rw [← hr, Nat.add_mul]
  have h1 : q * v2 ≤ W64 * W64 := Nat.mul_le_mul (by omega) (by omega)
  have h2 : W64 * W64 ≤ r * W64 := Nat.mul_le_mul_right _ hW
  rw [Nat.mul_add, ← Nat.mul_assoc, e2]
  omega
end Go.Proofs
namespace Go.Proofs
set_option linter.unusedVariables false

/-- A guess of a digit: not too small, with what is left of the first two words. -/
structure Guess (N V v1 T q r : Nat) : Prop where
  big : N < (q + 1) * V
  rest : q * v1 + r = T
  ql : q < W64

/-- The last guess of a digit: right, or too great by one. -/
structure Good (N V q : Nat) : Prop where
  big : N < (q + 1) * V
  near : q * V < N + V
  ql : q < W64

/-- N and V laid open at their top words. -/
structure Tops (N V K v1 v2 T u2 : Nat) : Prop where
  nlo : (T * W64 + u2) * K ≤ N
  nhi : N < (T * W64 + u2 + 1) * K
  vlo : (v1 * W64 + v2) * K ≤ V
  vhi : V < (v1 * W64 + v2 + 1) * K
  v1l : v1 < W64
  v1h : W64 ≤ 2 * v1
  v2l : v2 < W64
  u2l : u2 < W64

theorem Tops.pos {N V K v1 v2 T u2 : Nat} (h : Tops N V K v1 v2 T u2) : 0 < V ∧ 0 < K := by
  have hK : 0 < K := by
    rcases Nat.eq_zero_or_pos K with h0 | h0
    · have := h.vhi; rw [h0] at this; simp at this
    · exact h0
  refine ⟨Nat.lt_of_lt_of_le ?_ h.vlo, hK⟩
  apply Nat.mul_pos _ hK
  have := h.v1h
  have : 0 < v1 := by unfold W64 at *; omega
  have := Nat.mul_pos this W64_pos
  omega

theorem Tops.wk {N V K v1 v2 T u2 : Nat} (h : Tops N V K v1 v2 T u2) : W64 * K ≤ V := by
  refine Nat.le_trans (Nat.mul_le_mul_right _ ?_) h.vlo
  have h1 := h.v1h
  have h2 : 1 * W64 ≤ v1 * W64 := Nat.mul_le_mul_right _ (by unfold W64 at *; omega)
  omega

theorem Tops.first {N V K v1 v2 T u2 : Nat} (h : Tops N V K v1 v2 T u2) (hT : T / v1 < W64) : Guess N V v1 T (T / v1) (T % v1) := by
  have h1 := h.v1h
  have hv : 0 < v1 := by unfold W64 at *; omega
  have hdm := Nat.div_add_mod T v1
  have hm := Nat.mod_lt T hv
  refine ⟨?_, by rw [Nat.mul_comm]; exact hdm, hT⟩
  have hN : N < (T + 1) * (W64 * K) := by
    refine Nat.lt_of_lt_of_le h.nhi ?_
    rw [← Nat.mul_assoc]
    apply Nat.mul_le_mul_right
    have := h.u2l
    rw [Nat.add_mul]; omega
  have hV : v1 * (W64 * K) ≤ V := by
    refine Nat.le_trans ?_ h.vlo
    rw [← Nat.mul_assoc]
    exact Nat.mul_le_mul_right _ (Nat.le_add_right _ _)
  exact kn_first hN hV (by rw [Nat.add_mul, Nat.one_mul, Nat.mul_comm]; omega)

/-- The top guess, where the first words are the same. -/
theorem Tops.top {N V K v1 v2 T u2 : Nat} (h : Tops N V K v1 v2 T u2) (hT : v1 * W64 ≤ T) (hNV : N < W64 * V) : Good N V (W64 - 1) := by
  have hp := h.pos
  refine ⟨by rw [show W64 - 1 + 1 = W64 by unfold W64; omega]; exact hNV, ?_, by unfold W64; omega⟩
  refine qhat_top (t := v1) (K := W64 * K) ?_ ?_ h.v1h hp.1
  · refine Nat.le_trans ?_ h.nlo
    rw [← Nat.mul_assoc]
    apply Nat.mul_le_mul_right
    have := Nat.mul_le_mul_right W64 hT
    omega
  · refine Nat.lt_of_lt_of_le h.vhi ?_
    rw [← Nat.mul_assoc]
    apply Nat.mul_le_mul_right
    have := h.v2l
    rw [Nat.add_mul]; omega

/-- The guess stands. -/
theorem Tops.good {N V K v1 v2 T u2 q r : Nat} (h : Tops N V K v1 v2 T u2) (g : Guess N V v1 T q r) (hq : q * (v1 * W64 + v2) ≤ T * W64 + u2) : Good N V q := by
  have hp := h.pos
  refine ⟨g.big, ?_, g.ql⟩
  rcases qhat_near (T := T * W64 + u2) h.nlo h.vhi h.wk g.ql hq with h1 | h1
  · exact h1
  · rw [h1]; omega
/-- The guess is too great. -/
theorem Tops.dec {N V K v1 v2 T u2 q r : Nat} (h : Tops N V K v1 v2 T u2) (g : Guess N V v1 T (q + 1) r) (hq : T * W64 + u2 < (q + 1) * (v1 * W64 + v2)) : Guess N V v1 T q (r + v1) := by
  refine ⟨qhat_big h.nhi h.vlo hq, ?_, by have := g.ql; omega⟩
  have := g.rest
  rw [Nat.add_mul] at this
  omega

/-- The digit, by the borrow of the subtraction. -/
theorem Good.fits {N V q : Nat} (g : Good N V q) (h : q * V ≤ N) : N / V = q ∧ N % V = N - q * V := qhat_fits g.big h
theorem Good.less {N V q : Nat} (g : Good N V q) (h : N < q * V) : N / V = q - 1 ∧ N % V = N + V - q * V ∧ 0 < q := qhat_less h g.near

/-- The adding back. -/
theorem kn_back {N P V n r t s c : Nat} (hr : r + P = N + W64 ^ n * W64) (hNP : N < P) (hPV : P < N + V) (hV : V < W64 ^ n) (hre : ∃ lo, lo + W64 ^ n * t = r ∧ s + W64 ^ n * c = lo + V) (ht : t < W64) (hc : c ≤ 1) (hs : s < W64 ^ n) :
    (t + c) % W64 = 0 ∧ s = N + V - P := by
  obtain ⟨lo, h1, h2⟩ := hre
  have e : s + W64 ^ n * (t + c) = N + V - P + W64 ^ n * W64 := by rw [Nat.mul_add]; omega
  have hlt : N + V - P < W64 ^ n := by omega
  generalize hK : W64 ^ n = K at *
  have hK0 : 0 < K := by omega
  have htc : t + c = W64 := by
    rcases Nat.lt_or_ge (t + c) W64 with h | h
    · exfalso
      have h3 : K * (t + c + 1) ≤ K * W64 := Nat.mul_le_mul_left _ h
      rw [Nat.mul_add, Nat.mul_one] at h3
      omega
    · omega
  rw [htc] at e
  exact ⟨by rw [htc, Nat.mod_self], by omega⟩
end Go.Proofs
namespace Go.Proofs
set_option linter.unusedVariables false

theorem val_cut (L : List Nat) (i : Nat) (h : i ≤ L.length) : val L = val (L.take i) + W64 ^ i * val (L.drop i) := by
  have := val_append (L.take i) (L.drop i)
  rwa [List.take_append_drop, List.length_take, Nat.min_eq_left h] at this
theorem val_drop' (L : List Nat) (i : Nat) : val (L.drop i) = L.getD i 0 + W64 * val (L.drop (i + 1)) := by
  by_cases h : i < L.length
  · rw [List.drop_eq_getElem_cons h]
    simp [val, h]
  · rw [List.drop_of_length_le (by omega), List.drop_of_length_le (by omega), List.getD_eq_getElem?_getD, List.getElem?_eq_none (by omega)]
    simp
theorem getD_high {L : List Nat} {n i : Nat} (h : val L < W64 ^ n) (hi : n ≤ i) : L.getD i 0 = 0 := by
  rcases Nat.lt_or_ge i L.length with hl | hl
  · have h1 := val_cut L i (by omega)
    have h2 := val_drop' L i
    rcases Nat.eq_zero_or_pos (L.getD i 0) with h0 | h0
    · exact h0
    · exfalso
      have h3 : W64 ^ n ≤ W64 ^ i := Nat.pow_le_pow_right W64_pos hi
      have h4 : W64 ^ i * 1 ≤ W64 ^ i * val (L.drop i) := Nat.mul_le_mul_left _ (by omega)
      omega
  · rw [List.getD_eq_getElem?_getD, List.getElem?_eq_none hl]; rfl
theorem val_high {L : List Nat} {n : Nat} (h : val L < W64 ^ n) : val (L.drop n) = 0 := by
  rcases Nat.lt_or_ge n L.length with hl | hl
  · have h1 := val_cut L n (by omega)
    rcases Nat.eq_zero_or_pos (val (L.drop n)) with h0 | h0
    · exact h0
    · exfalso
      have h4 : W64 ^ n * 1 ≤ W64 ^ n * val (L.drop n) := Nat.mul_le_mul_left _ h0
      omega
  · rw [List.drop_of_length_le hl]; rfl

/-- A divisor whose top bit is set. -/
structure DvV (V : List Nat) (n v1 v2 : Nat) : Prop where
  len : V.length = n
  wds : Words V
  two : 2 ≤ n
  e1 : V.getD (n - 1) 0 = v1
  e2 : V.getD (n - 2) 0 = v2
  top : W64 ≤ 2 * v1

/-- The words from k on are the rest. -/
structure Db (U0 V U : List Nat) (m n k : Nat) : Prop where
  len0 : U0.length = m + n
  len : U.length = m + n
  wds : Words U
  pre : ∀ i, i < k → U.getD i 0 = U0.getD i 0
  rem : val (U.drop k) = val (U0.drop k) % val V

theorem DvV.lt {V : List Nat} {n v1 v2 : Nat} (h : DvV V n v1 v2) : val V < W64 ^ n := by
  have := val_lt h.wds
  rwa [h.len] at this
theorem DvV.v1l {V : List Nat} {n v1 v2 : Nat} (h : DvV V n v1 v2) : v1 < W64 := by rw [← h.e1]; exact h.wds.getD _
theorem DvV.v2l {V : List Nat} {n v1 v2 : Nat} (h : DvV V n v1 v2) : v2 < W64 := by rw [← h.e2]; exact h.wds.getD _
theorem DvV.tops {V : List Nat} {n v1 v2 : Nat} (h : DvV V n v1 v2) : (v1 * W64 + v2) * W64 ^ (n - 2) ≤ val V ∧ val V < (v1 * W64 + v2 + 1) * W64 ^ (n - 2) := by
  obtain ⟨low, h1, h2⟩ := val_top2 h.two h.wds h.len
  rw [h.e1, h.e2] at h2
  have e : v2 + W64 * v1 = v1 * W64 + v2 := by rw [Nat.mul_comm]; omega
  rw [e] at h2
  rw [h2, Nat.mul_comm (W64 ^ (n - 2)), Nat.add_mul (v1 * W64 + v2) 1]
  omega
theorem DvV.pos {V : List Nat} {n v1 v2 : Nat} (h : DvV V n v1 v2) : 0 < val V := by
  have h1 := h.tops.1
  have h2 := h.top
  have h3 : 0 < v1 * W64 := Nat.mul_pos (by unfold W64 at *; omega) W64_pos
  have h4 : 0 < (v1 * W64 + v2) * W64 ^ (n - 2) := Nat.mul_pos (by omega) (Nat.pow_pos W64_pos)
  omega

theorem Db.tops {U0 V U : List Nat} {m n p v1 v2 : Nat} (h : Db U0 V U m n (p + 1)) (hv : DvV V n v1 v2) :
    Tops (val (U.drop p)) (val V) (W64 ^ (n - 2)) v1 v2 (U.getD (p + n) 0 * W64 + U.getD (p + n - 1) 0) (U.getD (p + n - 2) 0) ∧ val (U.drop p) < W64 * val V ∧ U.getD (p + n) 0 ≤ v1 := by
  have hR : val (U.drop (p + 1)) < val V := by rw [h.rem]; exact Nat.mod_lt _ hv.pos
  have hRn : val (U.drop (p + 1)) < W64 ^ n := Nat.lt_trans hR hv.lt
  have hd := val_drop' U p
  have h0 : U.getD p 0 < W64 := h.wds.getD _
  have hN : val (U.drop p) < W64 * val V := by
    rw [hd]
    have : W64 * (val (U.drop (p + 1)) + 1) ≤ W64 * val V := Nat.mul_le_mul_left _ hR
    rw [Nat.mul_add] at this
    omega
  have hz : ∀ i, p + n < i → U.getD i 0 = 0 := by
    intro i hi
    have := getD_high (i := i - (p + 1)) hRn (by omega)
    rw [List.getD_eq_getElem?_getD, List.getElem?_drop, show p + 1 + (i - (p + 1)) = i by omega, ← List.getD_eq_getElem?_getD] at this
    exact this
  obtain ⟨low, hlow, hv3⟩ := val_top3 hv.two h.wds hz
  obtain ⟨t1, t2⟩ := hv.tops
  have e : U.getD (p + n - 2) 0 + W64 * (U.getD (p + n - 1) 0 + W64 * U.getD (p + n) 0) = (U.getD (p + n) 0 * W64 + U.getD (p + n - 1) 0) * W64 + U.getD (p + n - 2) 0 := by
    rw [Nat.mul_comm W64 (U.getD (p + n) 0), Nat.mul_comm W64, Nat.add_comm (U.getD (p + n - 1) 0)]; omega
  rw [e] at hv3
  refine ⟨⟨?_, ?_, t1, t2, hv.v1l, hv.top, hv.v2l, h.wds.getD _⟩, hN, ?_⟩
  · rw [hv3, Nat.mul_comm (W64 ^ (n - 2))]; omega
  · rw [hv3, Nat.mul_comm (W64 ^ (n - 2)), Nat.add_mul _ 1]; omega
  · rcases Nat.lt_or_ge v1 (U.getD (p + n) 0) with hlt | hge
    · exfalso
      have h2 : (v1 + 1) * (W64 * W64 * W64 ^ (n - 2)) ≤ val (U.drop p) := by
        rw [hv3]
        refine Nat.le_trans ?_ (Nat.le_add_left _ _)
        rw [Nat.mul_comm (W64 ^ (n - 2)), ← Nat.mul_assoc]
        apply Nat.mul_le_mul_right
        rw [← Nat.mul_assoc]
        refine Nat.le_trans ?_ (Nat.le_add_right _ _)
        apply Nat.mul_le_mul_right
        refine Nat.le_trans ?_ (Nat.le_add_right _ _)
        exact Nat.mul_le_mul_right _ hlt
      have h3 : W64 * val V ≤ (v1 + 1) * (W64 * W64 * W64 ^ (n - 2)) := by
        have h4 : val V ≤ (v1 + 1) * (W64 * W64 ^ (n - 2)) := by
          refine Nat.le_trans (Nat.le_of_lt t2) ?_
          rw [← Nat.mul_assoc]
          apply Nat.mul_le_mul_right
          have := hv.v2l
          rw [Nat.add_mul]; omega
        calc W64 * val V ≤ W64 * ((v1 + 1) * (W64 * W64 ^ (n - 2))) := Nat.mul_le_mul_left _ h4
          _ = _ := by simp only [Nat.mul_comm, Nat.mul_left_comm, Nat.mul_assoc]
      omega
    · exact hge

/-- One digit more. -/
theorem Db.next {U0 V U W : List Nat} {m n p v1 v2 : Nat} (h : Db U0 V U m n (p + 1)) (hv : DvV V n v1 v2) (hp : p < m + n) (hlW : W.length = m + n) (hW : Words W) (hpre : ∀ i, i < p → W.getD i 0 = U.getD i 0)
    (hval : val (W.drop p) = val (U.drop p) % val V) : Db U0 V W m n p ∧ val (U0.drop p) / val V = val (U.drop p) / val V + W64 * (val (U0.drop (p + 1)) / val V) := by
  have h1 := val_drop' U p
  have h2 := val_drop' U0 p
  have h3 := h.pre p (by omega)
  rw [h.rem] at h1
  rw [← h3] at h2
  have hdm := Nat.div_add_mod (val (U0.drop (p + 1))) (val V)
  generalize hQ : val (U0.drop (p + 1)) / val V = Q at *
  generalize hR : val (U0.drop (p + 1)) % val V = R at *
  have e : val (U0.drop p) = val (U.drop p) + val V * (W64 * Q) := by
    rw [h2, h1, ← hdm, Nat.mul_add, Nat.mul_left_comm]
    omega
  refine ⟨⟨h.len0, hlW, hW, fun i hi => (hpre i hi).trans (h.pre i (by omega)), ?_⟩, ?_⟩
  · rw [hval, e, Nat.add_mul_mod_self_left]
  · rw [e, Nat.add_mul_div_left _ _ hv.pos]
end Go.Proofs
