/- Parts of the proofs over the numbers of any length: Ten, Ten2. -/
import Derived.Test.YtacbllkmcldniaaGreatDoorBaseA
set_option linter.unusedSimpArgs false
set_option linter.unusedVariables false
namespace Go.Proofs
set_option linter.unusedVariables false

/-- The number that decimal digits are, the lowest one first. -/
def ten : List Nat → Nat
  | [] => 0
  | x :: xs => x + 10 * ten xs
@[simp] theorem ten_nil : ten [] = 0 := rfl
@[simp] theorem ten_cons (x : Nat) (xs : List Nat) : ten (x :: xs) = x + 10 * ten xs := rfl
/-- Each is a digit. -/
def Dig (L : List Nat) : Prop := ∀ x ∈ L, x < 10
theorem Dig.nil : Dig [] := by intro x h; cases h
theorem Dig.cons {x : Nat} {xs : List Nat} (hx : x < 10) (h : Dig xs) : Dig (x :: xs) := by
  intro y hy
  cases hy with
  | head => exact hx
  | tail _ hy => exact h y hy
theorem Dig.head {x : Nat} {xs : List Nat} (h : Dig (x :: xs)) : x < 10 := h x (List.mem_cons_self ..)
theorem Dig.tail {x : Nat} {xs : List Nat} (h : Dig (x :: xs)) : Dig xs := fun y hy => h y (List.mem_cons_of_mem _ hy)
theorem Dig.append {xs ys : List Nat} (h : Dig xs) (k : Dig ys) : Dig (xs ++ ys) := by
  intro y hy
  rcases List.mem_append.1 hy with hy | hy
  · exact h y hy
  · exact k y hy
theorem Dig.snoc {xs : List Nat} {y : Nat} (h : Dig xs) (k : y < 10) : Dig (xs ++ [y]) := h.append (Dig.cons k Dig.nil)
theorem Dig.take {xs : List Nat} (h : Dig xs) (n : Nat) : Dig (xs.take n) := fun y hy => h y (List.mem_of_mem_take hy)
theorem Dig.drop {xs : List Nat} (h : Dig xs) (n : Nat) : Dig (xs.drop n) := fun y hy => h y (List.mem_of_mem_drop hy)
theorem Dig.getD {xs : List Nat} (h : Dig xs) (i : Nat) : xs.getD i 0 < 10 := by
  rw [List.getD_eq_getElem?_getD]
  cases hh : xs[i]? with
  | none => simp
  | some v => exact h v (List.mem_of_getElem? hh)
theorem Dig.set {xs : List Nat} (h : Dig xs) (i v : Nat) (hv : v < 10) : Dig (xs.set i v) := by
  intro y hy
  rcases List.mem_or_eq_of_mem_set hy with hy | hy
  · exact h y hy
  · exact hy ▸ hv
theorem Dig.replicate_zero (n : Nat) : Dig (List.replicate n 0) := by
  intro y hy
  rw [List.eq_of_mem_replicate hy]
  omega
theorem ten_append (xs ys : List Nat) : ten (xs ++ ys) = ten xs + 10 ^ xs.length * ten ys := by
  induction xs with
  | nil => simp
  | cons x xs ih =>
    simp only [List.cons_append, ten_cons, ih, List.length_cons, Nat.pow_succ]
    rw [Nat.mul_add, Nat.add_assoc, Nat.mul_comm (10 ^ xs.length) 10, Nat.mul_assoc]
theorem ten_snoc (xs : List Nat) (y : Nat) : ten (xs ++ [y]) = ten xs + 10 ^ xs.length * y := by
  rw [ten_append]; simp
theorem ten_replicate_zero (n : Nat) : ten (List.replicate n 0) = 0 := by
  induction n with
  | zero => rfl
  | succ n ih => simp [List.replicate_succ, ih]
theorem ten_lt {xs : List Nat} (h : Dig xs) : ten xs < 10 ^ xs.length := by
  induction xs with
  | nil => simp
  | cons x xs ih =>
    have hx := h.head
    have ht := ih h.tail
    simp only [ten_cons, List.length_cons, Nat.pow_succ]
    omega
theorem ten_take_drop (L : List Nat) (n : Nat) (h : n ≤ L.length) : ten L = ten (L.take n) + 10 ^ n * ten (L.drop n) := by
  have := ten_append (L.take n) (L.drop n)
  rw [List.take_append_drop, List.length_take, Nat.min_eq_left h] at this
  exact this

/-- A number's digits, the lowest one first; none for 0. -/
def digs (n : Nat) : List Nat := if _h : n = 0 then [] else n % 10 :: digs (n / 10)
termination_by n
decreasing_by exact Nat.div_lt_self (by omega) (by omega)
theorem digs_zero : digs 0 = [] := by rw [digs]; simp
theorem digs_pos {n : Nat} (h : n ≠ 0) : digs n = n % 10 :: digs (n / 10) := by rw [digs]; simp [h]
theorem ten_digs (n : Nat) : ten (digs n) = n := by
  induction n using Nat.strongRecOn with
  | _ n ih =>
    by_cases h : n = 0
    · subst h; rw [digs_zero]; rfl
    · rw [digs_pos h, ten_cons, ih _ (Nat.div_lt_self (by omega) (by omega))]
      omega
theorem dig_digs (n : Nat) : Dig (digs n) := by
  induction n using Nat.strongRecOn with
  | _ n ih =>
    by_cases h : n = 0
    · subst h; rw [digs_zero]; exact Dig.nil
    · rw [digs_pos h]
      exact Dig.cons (Nat.mod_lt _ (by omega)) (ih _ (Nat.div_lt_self (by omega) (by omega)))
theorem trimZ_eq_digs {L : List Nat} (h : Dig L) : trimZ L = digs (ten L) := by
  induction L with
  | nil => rw [ten_nil, digs_zero]; rfl
  | cons x xs ih =>
    have ih' := ih h.tail
    have hx := h.head
    simp only [trimZ, ten_cons]
    by_cases h0 : ten xs = 0
    · rw [h0, digs_zero] at ih'
      rw [ih', h0]
      by_cases hx0 : x = 0
      · subst hx0; simp [digs_zero]
      · rw [digs_pos (by omega)]
        simp only [Nat.mul_zero, Nat.add_zero]
        rw [Nat.mod_eq_of_lt hx, Nat.div_eq_of_lt hx, digs_zero]
        simp [hx0]
    · have hne : trimZ xs ≠ [] := by rw [ih', digs_pos h0]; simp
      rw [if_neg (by simp [hne])]
      rw [digs_pos (n := x + 10 * ten xs) (by omega), Nat.add_mul_mod_self_left, Nat.mod_eq_of_lt hx, Nat.add_mul_div_left _ _ (by omega), Nat.div_eq_of_lt hx, Nat.zero_add, ih']
theorem digs_eq_nil {n : Nat} : digs n = [] ↔ n = 0 := by
  constructor
  · intro h
    have := ten_digs n
    rw [h] at this
    exact this.symm
  · rintro rfl; exact digs_zero
theorem digs_ne_nil {n : Nat} (h : n ≠ 0) : digs n ≠ [] := fun hh => h (digs_eq_nil.1 hh)
theorem digs_inj {m n : Nat} (h : digs m = digs n) : m = n := by rw [← ten_digs m, ← ten_digs n, h]
theorem digs_len {n k : Nat} (h : n < 10 ^ k) : (digs n).length ≤ k := by
  induction k generalizing n with
  | zero => have : n = 0 := by simpa using h
            subst this; rw [digs_zero]; simp
  | succ k ih =>
    by_cases h0 : n = 0
    · subst h0; rw [digs_zero]; simp
    · rw [digs_pos h0, List.length_cons]
      have : n / 10 < 10 ^ k := by
        rw [Nat.div_lt_iff_lt_mul (by omega), ← Nat.pow_succ]; exact h
      have := ih this
      omega
theorem lt_digs (n : Nat) : n < 10 ^ (digs n).length := by
  have := ten_lt (dig_digs n)
  rwa [ten_digs] at this
theorem digs_len_pos {n : Nat} (h : n ≠ 0) : 0 < (digs n).length := by rw [digs_pos h]; simp
theorem digs_ge {n : Nat} (h : n ≠ 0) : 10 ^ ((digs n).length - 1) ≤ n := by
  rcases Nat.lt_or_ge n (10 ^ ((digs n).length - 1)) with h' | h'
  · have := digs_len h'
    have h2 := digs_len_pos h
    omega
  · exact h'
theorem digs_mono {m n : Nat} (h : m ≤ n) : (digs m).length ≤ (digs n).length := digs_len (Nat.lt_of_le_of_lt h (lt_digs n))
theorem digs_len_lt {m n : Nat} (h : (digs m).length < (digs n).length) : m < n := by
  rcases Nat.lt_or_ge m n with h' | h'
  · exact h'
  · have := digs_mono h'; omega
theorem digs_get (n i : Nat) : (digs n).getD i 0 = n / 10 ^ i % 10 := by
  induction i generalizing n with
  | zero =>
    by_cases h : n = 0
    · subst h; rw [digs_zero]; simp
    · rw [digs_pos h]; simp
  | succ i ih =>
    by_cases h : n = 0
    · subst h; rw [digs_zero]; simp
    · rw [digs_pos h]
      simp only [List.getD_cons_succ]
      rw [ih, Nat.div_div_eq_div_mul, Nat.pow_succ, Nat.mul_comm]
end Go.Proofs
namespace Go.Proofs
set_option linter.unusedVariables false

theorem ten_take_succ (L : List Nat) (i : Nat) : ten (L.take (i + 1)) = ten (L.take i) + 10 ^ i * L.getD i 0 := by
  by_cases h : i < L.length
  · rw [List.take_succ_eq_append_getElem h, ten_snoc, List.length_take, Nat.min_eq_left (by omega)]
    simp [List.getElem?_eq_getElem h]
  · rw [List.take_of_length_le (by omega), List.take_of_length_le (by omega)]
    have : L.getD i 0 = 0 := by rw [List.getD_eq_getElem?_getD, List.getElem?_eq_none (by omega)]; rfl
    rw [this]; simp
theorem ten_take_all {L : List Nat} {i : Nat} (h : L.length ≤ i) : ten (L.take i) = ten L := by rw [List.take_of_length_le h]
theorem ten_drop (L : List Nat) (i : Nat) : ten (L.drop i) = L.getD i 0 + 10 * ten (L.drop (i + 1)) := by
  by_cases h : i < L.length
  · rw [List.drop_eq_getElem_cons h, ten_cons]
    simp [List.getElem?_eq_getElem h]
  · rw [List.drop_of_length_le (by omega), List.drop_of_length_le (by omega)]
    have : L.getD i 0 = 0 := by rw [List.getD_eq_getElem?_getD, List.getElem?_eq_none (by omega)]; rfl
    rw [this]; simp
theorem ten_set {L : List Nat} {i : Nat} (h : i < L.length) (x : Nat) : ten (L.set i (L.getD i 0 + x)) = ten L + 10 ^ i * x := by
  induction L generalizing i with
  | nil => simp at h
  | cons y ys ih =>
    cases i with
    | zero => simp; omega
    | succ i =>
      simp only [List.length_cons] at h
      have := ih (i := i) (by omega)
      simp only [List.set_cons_succ, List.getD_cons_succ, ten_cons, this, Nat.pow_succ]
      rw [Nat.mul_add, Nat.add_assoc, Nat.mul_comm (10 ^ i) 10, Nat.mul_assoc]

/-- A round of plus. -/
theorem plus_step {O A B : List Nat} {i c n : Nat} (hi : O.length = i) (h : ten O + 10 ^ i * c = ten (A.take i) + ten (B.take i)) (hn : n = c + A.getD i 0 + B.getD i 0) :
    ten (O ++ [n % 10]) + 10 ^ (i + 1) * (n / 10) = ten (A.take (i + 1)) + ten (B.take (i + 1)) := by
  rw [ten_snoc, ten_take_succ, ten_take_succ, hi, Nat.pow_succ, Nat.mul_assoc]
  have h1 : 10 ^ i * n = 10 ^ i * (n % 10) + 10 ^ i * (10 * (n / 10)) := by rw [← Nat.mul_add]; congr 1; omega
  have h2 : 10 ^ i * n = 10 ^ i * c + 10 ^ i * A.getD i 0 + 10 ^ i * B.getD i 0 := by rw [hn, Nat.mul_add, Nat.mul_add]
  omega
/-- A round of less. -/
theorem less_step {O A B : List Nat} {i c n : Nat} (hi : O.length = i) (h : ten O + ten (B.take i) = ten (A.take i) + 10 ^ i * c) (hA : A.getD i 0 < 10) (hB : B.getD i 0 < 10) (hc : c ≤ 1) (hn : n + c + B.getD i 0 = 10 + A.getD i 0) :
    ten (O ++ [n % 10]) + ten (B.take (i + 1)) = ten (A.take (i + 1)) + 10 ^ (i + 1) * (1 - n / 10) ∧ n / 10 ≤ 1 := by
  have hq : n / 10 ≤ 1 := by omega
  refine ⟨?_, hq⟩
  rw [ten_snoc, ten_take_succ, ten_take_succ, hi, Nat.pow_succ, Nat.mul_assoc]
  have h1 : 10 ^ i * (n % 10) + 10 ^ i * c + 10 ^ i * B.getD i 0 = 10 ^ i * (10 * (1 - n / 10)) + 10 ^ i * A.getD i 0 := by
    rw [← Nat.mul_add, ← Nat.mul_add, ← Nat.mul_add]; congr 1; omega
  omega
/-- A round of Mul's carry. -/
theorem carry_step {O A : List Nat} {i c n : Nat} (hi : O.length = i) (h : ten O + 10 ^ i * c = ten (A.take i)) (hn : n = c + A.getD i 0) :
    ten (O ++ [n % 10]) + 10 ^ (i + 1) * (n / 10) = ten (A.take (i + 1)) := by
  rw [ten_snoc, ten_take_succ, hi, Nat.pow_succ, Nat.mul_assoc]
  have h1 : 10 ^ i * n = 10 ^ i * (n % 10) + 10 ^ i * (10 * (n / 10)) := by rw [← Nat.mul_add]; congr 1; omega
  have h2 : 10 ^ i * n = 10 ^ i * c + 10 ^ i * A.getD i 0 := by rw [hn, Nat.mul_add]
  omega
theorem carry_done {O A : List Nat} {i c : Nat} (hO : O.length = i) (hi : A.length ≤ i) (h : ten O + 10 ^ i * c = ten (A.take i)) (hlt : ten A < 10 ^ i) : ten O = ten A := by
  rw [ten_take_all hi] at h
  have : c = 0 := by
    rcases Nat.eq_zero_or_pos c with h0 | h0
    · exact h0
    · have : 10 ^ i * 1 ≤ 10 ^ i * c := Nat.mul_le_mul_left _ h0
      omega
  subst this
  omega
/-- The sum of two products of one word. -/
theorem mul_step {O X Y : List Nat} {i k : Nat} (hlen : i + k < O.length)
    (h : ten O = ten (X.take i) * ten Y + 10 ^ i * X.getD i 0 * ten (Y.take k)) :
    ten (O.set (i + k) (O.getD (i + k) 0 + X.getD i 0 * Y.getD k 0)) = ten (X.take i) * ten Y + 10 ^ i * X.getD i 0 * ten (Y.take (k + 1)) := by
  rw [ten_set hlen, h, ten_take_succ, Nat.mul_add, Nat.pow_add]
  have : 10 ^ i * 10 ^ k * (X.getD i 0 * Y.getD k 0) = 10 ^ i * X.getD i 0 * (10 ^ k * Y.getD k 0) := by
    simp only [Nat.mul_assoc, Nat.mul_comm, Nat.mul_left_comm]
  omega
theorem mul_next {O X Y : List Nat} {i k : Nat} (hk : Y.length ≤ k) (h : ten O = ten (X.take i) * ten Y + 10 ^ i * X.getD i 0 * ten (Y.take k)) :
    ten O = ten (X.take (i + 1)) * ten Y + 10 ^ (i + 1) * X.getD (i + 1) 0 * ten (Y.take 0) := by
  rw [h, ten_take_all hk, ten_take_succ, Nat.add_mul]
  simp
/-- The digits ahead of a number's. -/
theorem digs_cons (x r : Nat) (hx : x < 10) : trimZ (x :: digs r) = digs (x + 10 * r) := by
  rw [trimZ_eq_digs (Dig.cons hx (dig_digs r)), ten_cons, ten_digs]
theorem trimZ_digs (n : Nat) : trimZ (digs n) = digs n := by rw [trimZ_eq_digs (dig_digs n), ten_digs]
end Go.Proofs
