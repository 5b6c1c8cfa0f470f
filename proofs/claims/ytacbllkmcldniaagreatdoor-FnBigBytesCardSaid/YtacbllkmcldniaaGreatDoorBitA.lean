/- Parts of the proofs over the numbers of any length: BitZ, BitW, OpL, Same, Lsh, Rsh. -/
import Derived.Test.YtacbllkmcldniaaGreatDoorBaseA
import Derived.Test.YtacbllkmcldniaaGreatDoorDivD
set_option linter.unusedSimpArgs false
set_option linter.unusedVariables false
namespace Go.Proofs
set_option linter.unusedVariables false

/-- A bit of a number in two's complement. -/
def zbit (x : Int) (i : Nat) : Bool := if 0 ≤ x then x.toNat.testBit i else !((-x - 1).toNat.testBit i)
theorem zbit_nat (n i : Nat) : zbit (n : Int) i = n.testBit i := by unfold zbit; simp
theorem zbit_neg (m i : Nat) : zbit (-(m : Int) - 1) i = !m.testBit i := by
  unfold zbit
  rw [if_neg (by omega), show (-(-(m : Int) - 1) - 1).toNat = m by omega]
/-- The number of bits, the lowest one first. -/
def ofB : List Bool → Nat
  | [] => 0
  | b :: bs => b.toNat + 2 * ofB bs
theorem ofB_snoc (l : List Bool) (b : Bool) : ofB (l ++ [b]) = ofB l + 2 ^ l.length * b.toNat := by
  induction l with
  | nil => simp [ofB]
  | cons x xs ih => simp only [List.cons_append, ofB, ih, List.length_cons, Nat.pow_succ]; rw [Nat.mul_add, Nat.add_assoc, Nat.mul_comm (2 ^ xs.length) 2, Nat.mul_assoc]
theorem ofB_bits (N n : Nat) : ofB ((List.range n).map fun i => N.testBit i) = N % 2 ^ n := by
  induction n with
  | zero => simp [ofB, Nat.mod_one]
  | succ n ih =>
    rw [List.range_succ, List.map_append, List.map_singleton, ofB_snoc, ih, List.length_map, List.length_range, Nat.mod_pow_succ, Nat.toNat_testBit]
theorem testBit_compl {m n i : Nat} (h : m < 2 ^ n) (hi : i < n) : (2 ^ n - (m + 1)).testBit i = !m.testBit i := by
  rw [Nat.testBit_two_pow_sub_succ h, decide_eq_true hi, Bool.true_and]
/-- What bits in two's complement are. -/
theorem ofB_zbits {r : Int} {n : Nat} (h1 : -(2 ^ n : Nat) ≤ r) (h2 : r < (2 ^ n : Nat)) :
    (ofB ((List.range (n + 1)).map (zbit r)) : Int) - (if zbit r n then ((2 ^ (n + 1) : Nat) : Int) else 0) = r := by
  have hp : 2 ^ (n + 1) = 2 * 2 ^ n := by rw [Nat.pow_succ]; omega
  by_cases h0 : 0 ≤ r
  · obtain ⟨m, rfl⟩ := Int.eq_ofNat_of_zero_le h0
    have e : zbit (m : Int) = fun i => m.testBit i := by funext i; exact zbit_nat m i
    have hm : m < 2 ^ n := by omega
    rw [e, ofB_bits, Nat.mod_eq_of_lt (by omega)]
    simp [Nat.testBit_lt_two_pow hm]
  · obtain ⟨m, rfl⟩ : ∃ m : Nat, r = -(m : Int) - 1 := ⟨(-r - 1).toNat, by omega⟩
    have hm : m < 2 ^ n := by omega
    have e : (List.range (n + 1)).map (zbit (-(m : Int) - 1)) = (List.range (n + 1)).map fun i => (2 ^ (n + 1) - (m + 1)).testBit i := by
      apply List.map_congr_left
      intro i hi
      rw [zbit_neg, testBit_compl (by omega) (List.mem_range.1 hi)]
    rw [e, ofB_bits, Nat.mod_eq_of_lt (by omega), zbit_neg, Nat.testBit_lt_two_pow hm]
    simp only [Bool.not_false, if_true]
    omega
/-- The bits that the reference reckons with. -/
theorem zbit_enc {x : Int} {n i : Nat} (h : -(2 ^ n : Nat) ≤ x) (hi : i < n) : (if x < 0 then x + (2 ^ n : Nat) else x).toNat.testBit i = zbit x i := by
  by_cases h0 : x < 0
  · rw [if_pos h0]
    obtain ⟨m, rfl⟩ : ∃ m : Nat, x = -(m : Int) - 1 := ⟨(-x - 1).toNat, by omega⟩
    have hm : m < 2 ^ n := by omega
    rw [zbit_neg, show (-(m : Int) - 1 + (2 ^ n : Nat)).toNat = 2 ^ n - (m + 1) by omega, testBit_compl hm hi]
  · rw [if_neg h0]
    obtain ⟨m, rfl⟩ := Int.eq_ofNat_of_zero_le (show 0 ≤ x by omega)
    rw [zbit_nat]; rfl
/-- Bits of x that y lacks. -/
def nandn (x y : Nat) : Nat := x ^^^ (x &&& y)
theorem testBit_nandn (x y i : Nat) : (nandn x y).testBit i = (x.testBit i && !y.testBit i) := by
  unfold nandn
  rw [Nat.testBit_xor, Nat.testBit_and]
  cases x.testBit i <;> cases y.testBit i <;> rfl
theorem zext {r s : Int} (h : ∀ i, zbit r i = zbit s i) : r = s := by
  have big : ∀ m n : Nat, ¬ ∀ i, m.testBit i = !n.testBit i := by
    intro m n hh
    have h1 : m.testBit (m + n) = false := Nat.testBit_lt_two_pow (Nat.lt_of_le_of_lt (Nat.le_add_right m n) Nat.lt_two_pow_self)
    have h2 : n.testBit (m + n) = false := Nat.testBit_lt_two_pow (Nat.lt_of_le_of_lt (Nat.le_add_left n m) Nat.lt_two_pow_self)
    have := hh (m + n)
    rw [h1, h2] at this
    cases this
  have par : ∀ z : Int, (∃ m : Nat, z = m) ∨ ∃ m : Nat, z = -(m : Int) - 1 := by
    intro z
    by_cases h0 : 0 ≤ z
    · exact .inl (Int.eq_ofNat_of_zero_le h0)
    · exact .inr ⟨(-z - 1).toNat, by omega⟩
  rcases par r with ⟨m, rfl⟩ | ⟨m, rfl⟩ <;> rcases par s with ⟨n, rfl⟩ | ⟨n, rfl⟩
  · congr 1
    apply Nat.eq_of_testBit_eq
    intro i
    have := h i
    rwa [zbit_nat, zbit_nat] at this
  · exact absurd (fun i => by have := h i; rwa [zbit_nat, zbit_neg] at this) (big m n)
  · exact absurd (fun i => by have := h i; rw [zbit_nat, zbit_neg] at this; exact this.symm) (big n m)
  · have : m = n := by
      apply Nat.eq_of_testBit_eq
      intro i
      have := h i
      rw [zbit_neg, zbit_neg] at this
      simpa using this
    rw [this]
/-- Two's complement, operation by operation: m stands for -m-1. -/
theorem zand_nn (x y i : Nat) : zbit ((x &&& y : Nat) : Int) i = (zbit x i && zbit y i) := by simp only [zbit_nat, Nat.testBit_and]
theorem zand_mm (x y i : Nat) : zbit (-((x ||| y : Nat) : Int) - 1) i = (zbit (-(x : Int) - 1) i && zbit (-(y : Int) - 1) i) := by simp only [zbit_neg, Nat.testBit_or, Bool.not_or]
theorem zand_nm (x y i : Nat) : zbit ((nandn x y : Nat) : Int) i = (zbit x i && zbit (-(y : Int) - 1) i) := by simp only [zbit_neg, zbit_nat, testBit_nandn]
theorem zor_nn (x y i : Nat) : zbit ((x ||| y : Nat) : Int) i = (zbit x i || zbit y i) := by simp only [zbit_nat, Nat.testBit_or]
theorem zor_mm (x y i : Nat) : zbit (-((x &&& y : Nat) : Int) - 1) i = (zbit (-(x : Int) - 1) i || zbit (-(y : Int) - 1) i) := by simp only [zbit_neg, Nat.testBit_and, Bool.not_and]
theorem zor_nm (x y i : Nat) : zbit (-((nandn y x : Nat) : Int) - 1) i = (zbit x i || zbit (-(y : Int) - 1) i) := by
  simp only [zbit_neg, zbit_nat, testBit_nandn]; cases x.testBit i <;> cases y.testBit i <;> rfl
theorem zxor_nn (x y i : Nat) : zbit ((x ^^^ y : Nat) : Int) i = (zbit x i != zbit y i) := by simp only [zbit_nat, Nat.testBit_xor]
theorem zxor_mm (x y i : Nat) : zbit ((x ^^^ y : Nat) : Int) i = (zbit (-(x : Int) - 1) i != zbit (-(y : Int) - 1) i) := by
  simp only [zbit_neg, zbit_nat, Nat.testBit_xor]; cases x.testBit i <;> cases y.testBit i <;> rfl
theorem zxor_nm (x y i : Nat) : zbit (-((x ^^^ y : Nat) : Int) - 1) i = (zbit x i != zbit (-(y : Int) - 1) i) := by
  simp only [zbit_neg, zbit_nat, Nat.testBit_xor]; cases x.testBit i <;> cases y.testBit i <;> rfl
theorem zandn_nn (x y i : Nat) : zbit ((nandn x y : Nat) : Int) i = (zbit x i && !zbit y i) := by simp only [zbit_nat, testBit_nandn]
theorem zandn_mm (x y i : Nat) : zbit ((nandn y x : Nat) : Int) i = (zbit (-(x : Int) - 1) i && !zbit (-(y : Int) - 1) i) := by
  simp only [zbit_neg, zbit_nat, testBit_nandn]; cases x.testBit i <;> cases y.testBit i <;> rfl
theorem zandn_mn (x y i : Nat) : zbit (-((x ||| y : Nat) : Int) - 1) i = (zbit (-(x : Int) - 1) i && !zbit y i) := by
  simp only [zbit_neg, zbit_nat, Nat.testBit_or]; cases x.testBit i <;> cases y.testBit i <;> rfl
theorem zandn_nm (x y i : Nat) : zbit ((x &&& y : Nat) : Int) i = (zbit x i && !zbit (-(y : Int) - 1) i) := by
  simp only [zbit_neg, zbit_nat, Nat.testBit_and]; cases x.testBit i <;> cases y.testBit i <;> rfl

/-! Word by word. -/
theorem bitop_cons (f : Bool → Bool → Bool) (op : Nat → Nat → Nat) (hop : ∀ x y i, (op x y).testBit i = f (x.testBit i) (y.testBit i)) (hlt : ∀ x y, x < W64 → y < W64 → op x y < W64) {x y : Nat} (a b : Nat) (hx : x < W64) (hy : y < W64) :
    op (x + W64 * a) (y + W64 * b) = op x y + W64 * op a b := by
  apply Nat.eq_of_testBit_eq
  intro i
  have e : W64 = 2 ^ 64 := W64_two
  have h1 := hlt x y hx hy
  rw [e] at hx hy h1 ⊢
  rw [hop, Nat.add_comm x, Nat.add_comm y, Nat.add_comm (op x y), Nat.testBit_two_pow_mul_add a hx, Nat.testBit_two_pow_mul_add b hy, Nat.testBit_two_pow_mul_add (op a b) h1]
  by_cases h : i < 64
  · simp only [if_pos h, hop]
  · simp only [if_neg h, hop]
theorem and_lt {x y : Nat} (hx : x < W64) : x &&& y < W64 := Nat.lt_of_le_of_lt Nat.and_le_left hx
theorem or_lt {x y : Nat} (hx : x < W64) (hy : y < W64) : x ||| y < W64 := by rw [W64_two] at *; exact Nat.or_lt_two_pow hx hy
theorem xor_lt {x y : Nat} (hx : x < W64) (hy : y < W64) : x ^^^ y < W64 := by rw [W64_two] at *; exact Nat.xor_lt_two_pow hx hy
theorem nandn_lt {x y : Nat} (hx : x < W64) : nandn x y < W64 := xor_lt hx (and_lt hx)
theorem and_cons {x y : Nat} (a b : Nat) (hx : x < W64) (hy : y < W64) : (x + W64 * a) &&& (y + W64 * b) = (x &&& y) + W64 * (a &&& b) :=
  bitop_cons and (· &&& ·) (fun x y i => Nat.testBit_and x y i) (fun _ _ h _ => and_lt h) a b hx hy
theorem or_cons {x y : Nat} (a b : Nat) (hx : x < W64) (hy : y < W64) : (x + W64 * a) ||| (y + W64 * b) = (x ||| y) + W64 * (a ||| b) :=
  bitop_cons or (· ||| ·) (fun x y i => Nat.testBit_or x y i) (fun _ _ h k => or_lt h k) a b hx hy
theorem xor_cons {x y : Nat} (a b : Nat) (hx : x < W64) (hy : y < W64) : (x + W64 * a) ^^^ (y + W64 * b) = (x ^^^ y) + W64 * (a ^^^ b) :=
  bitop_cons xor (· ^^^ ·) (fun x y i => Nat.testBit_xor x y i) (fun _ _ h k => xor_lt h k) a b hx hy
theorem nandn_cons {x y : Nat} (a b : Nat) (hx : x < W64) (hy : y < W64) : nandn (x + W64 * a) (y + W64 * b) = nandn x y + W64 * nandn a b :=
  bitop_cons (fun p q => p && !q) nandn testBit_nandn (fun _ _ h _ => nandn_lt h) a b hx hy
end Go.Proofs
namespace Go.Proofs
set_option linter.unusedVariables false

/-! One bit of a number, set or cleared; word by word. -/
theorem nandn_zero (x : Nat) : nandn x 0 = x := by unfold nandn; simp
theorem val_or_at (L : List Nat) (hL : Words L) (j m : Nat) (hj : j < L.length) (hm : m < W64) : val (L.set j (L.getD j 0 ||| m)) = val L ||| (W64 ^ j * m) := by
  induction L generalizing j with
  | nil => simp at hj
  | cons x xs ih =>
    cases j with
    | zero =>
      simp only [List.set_cons_zero, List.getD_cons_zero, val_cons, Nat.pow_zero, Nat.one_mul]
      have := or_cons (val xs) 0 hL.head hm
      simp only [Nat.mul_zero, Nat.add_zero, Nat.or_zero] at this
      exact this.symm
    | succ j =>
      simp only [List.set_cons_succ, List.getD_cons_succ, val_cons]
      rw [ih hL.tail j (by simpa using hj)]
      have := or_cons (x := x) (y := 0) (val xs) (W64 ^ j * m) hL.head W64_pos
      rw [Nat.zero_add, Nat.or_zero] at this
      rw [Nat.pow_succ, Nat.mul_comm (W64 ^ j) W64, Nat.mul_assoc, this]
theorem val_nandn_at (L : List Nat) (hL : Words L) (j m : Nat) (hj : j < L.length) (hm : m < W64) : val (L.set j (nandn (L.getD j 0) m)) = nandn (val L) (W64 ^ j * m) := by
  induction L generalizing j with
  | nil => simp at hj
  | cons x xs ih =>
    cases j with
    | zero =>
      simp only [List.set_cons_zero, List.getD_cons_zero, val_cons, Nat.pow_zero, Nat.one_mul]
      have := nandn_cons (val xs) 0 hL.head hm
      simp only [Nat.mul_zero, Nat.add_zero, nandn_zero] at this
      exact this.symm
    | succ j =>
      simp only [List.set_cons_succ, List.getD_cons_succ, val_cons]
      rw [ih hL.tail j (by simpa using hj)]
      have := nandn_cons (x := x) (y := 0) (val xs) (W64 ^ j * m) hL.head W64_pos
      rw [Nat.zero_add, nandn_zero] at this
      rw [Nat.pow_succ, Nat.mul_comm (W64 ^ j) W64, Nat.mul_assoc, this]
theorem pow_place (i : Nat) : W64 ^ (i / 64) * 2 ^ (i % 64) = 2 ^ i := by
  rw [W64_two, ← Nat.pow_mul, ← Nat.pow_add]
  congr 1
  omega
/-- A number around its bit i. -/
theorem bit_split (N i : Nat) : ∃ a c, N = 2 ^ (i + 1) * a + 2 ^ i * (N.testBit i).toNat + c ∧ c < 2 ^ i := by
  refine ⟨N / 2 ^ (i + 1), N % 2 ^ i, ?_, Nat.mod_lt _ (Nat.two_pow_pos i)⟩
  have h1 := Nat.div_add_mod N (2 ^ (i + 1))
  have h2 : N % 2 ^ (i + 1) = N % 2 ^ i + 2 ^ i * (N / 2 ^ i % 2) := Nat.mod_pow_succ
  rw [Nat.toNat_testBit]
  omega
theorem testBit_parts (a c i : Nat) (b : Bool) (hc : c < 2 ^ i) (j : Nat) : (2 ^ (i + 1) * a + 2 ^ i * b.toNat + c).testBit j = if j < i then c.testBit j else if j = i then b else a.testBit (j - (i + 1)) := by
  have e : 2 ^ (i + 1) * a + 2 ^ i * b.toNat + c = 2 ^ i * (2 * a + b.toNat) + c := by
    rw [Nat.mul_add, Nat.pow_succ, Nat.mul_assoc]
  rw [e, Nat.testBit_two_pow_mul_add _ hc]
  by_cases h : j < i
  · simp [h]
  · simp only [if_neg h]
    by_cases h2 : j = i
    · subst h2
      rw [Nat.sub_self, if_pos rfl, Nat.testBit_zero]
      cases b <;> simp <;> omega
    · rw [if_neg h2]
      obtain ⟨k, hk⟩ : ∃ k, j - i = k + 1 := ⟨j - i - 1, by omega⟩
      rw [hk, Nat.testBit_add_one, show j - (i + 1) = k by omega]
      congr 1
      cases b <;> simp <;> omega
theorem or_bit (N i : Nat) : N ||| 2 ^ i = if N.testBit i then N else N + 2 ^ i := by
  apply Nat.eq_of_testBit_eq
  intro j
  obtain ⟨a, c, hN, hc⟩ := bit_split N i
  rw [Nat.testBit_or, Nat.testBit_two_pow]
  by_cases hb : N.testBit i
  · rw [if_pos hb]
    by_cases hj : i = j
    · subst hj; simp [hb]
    · simp [hj]
  · rw [if_neg hb]
    have hb' : N.testBit i = false := by simpa using hb
    rw [hb'] at hN
    have e : N + 2 ^ i = 2 ^ (i + 1) * a + 2 ^ i * (true).toNat + c := by
      simp only [Bool.toNat_false, Bool.toNat_true, Nat.mul_zero, Nat.mul_one] at hN ⊢; omega
    rw [e, testBit_parts a c i true hc]
    conv => lhs; rw [hN]
    rw [testBit_parts a c i false hc]
    by_cases h : j < i
    · simp only [if_pos h]; simp; omega
    · simp only [if_neg h]
      by_cases h2 : j = i
      · subst h2; simp
      · simp only [if_neg h2]; simp; omega
theorem nandn_bit (N i : Nat) : nandn N (2 ^ i) = if N.testBit i then N - 2 ^ i else N := by
  apply Nat.eq_of_testBit_eq
  intro j
  obtain ⟨a, c, hN, hc⟩ := bit_split N i
  rw [testBit_nandn, Nat.testBit_two_pow]
  by_cases hb : N.testBit i
  · rw [if_pos hb]
    rw [hb] at hN
    have e : N - 2 ^ i = 2 ^ (i + 1) * a + 2 ^ i * (false).toNat + c := by
      simp only [Bool.toNat_false, Bool.toNat_true, Nat.mul_zero, Nat.mul_one] at hN ⊢; omega
    rw [e, testBit_parts a c i false hc]
    conv => lhs; rw [hN]
    rw [testBit_parts a c i true hc]
    by_cases h : j < i
    · simp only [if_pos h]; simp; omega
    · simp only [if_neg h]
      by_cases h2 : j = i
      · subst h2; simp
      · simp only [if_neg h2]; simp; omega
  · rw [if_neg hb]
    by_cases hj : i = j
    · subst hj; simp at hb; simp [hb]
    · simp [hj]
theorem nandn_lt2 (N i : Nat) : nandn N (2 ^ i) ≤ N := by
  rw [nandn_bit]
  split
  · exact Nat.sub_le _ _
  · exact Nat.le_refl _
end Go.Proofs
namespace Go.Proofs
set_option linter.unusedVariables false

/-! Words put together one by one. -/
def opL (op : Nat → Nat → Nat) (X Y : List Nat) (n : Nat) : List Nat := (List.range n).map fun i => op (X.getD i 0) (Y.getD i 0)
theorem opL_length (op : Nat → Nat → Nat) (X Y : List Nat) (n : Nat) : (opL op X Y n).length = n := by simp [opL]
theorem opL_getD {op : Nat → Nat → Nat} {X Y : List Nat} {n i : Nat} (h : i < n) : (opL op X Y n).getD i 0 = op (X.getD i 0) (Y.getD i 0) := by simp [opL, h]
theorem opL_succ (op : Nat → Nat → Nat) (X Y : List Nat) (n : Nat) : opL op X Y (n + 1) = opL op X Y n ++ [op (X.getD n 0) (Y.getD n 0)] := by
  unfold opL; rw [List.range_succ, List.map_append]; rfl
/-- What is asked of such an operation. -/
structure WOp (op : Nat → Nat → Nat) : Prop where
  zero : op 0 0 = 0
  lt : ∀ x y, x < W64 → y < W64 → op x y < W64
  cons : ∀ x y a b, x < W64 → y < W64 → op (x + W64 * a) (y + W64 * b) = op x y + W64 * op a b
theorem wop_and : WOp (· &&& ·) := ⟨rfl, fun _ _ h _ => and_lt h, fun _ _ a b h k => and_cons a b h k⟩
theorem wop_or : WOp (· ||| ·) := ⟨rfl, fun _ _ h k => or_lt h k, fun _ _ a b h k => or_cons a b h k⟩
theorem wop_xor : WOp (· ^^^ ·) := ⟨rfl, fun _ _ h k => xor_lt h k, fun _ _ a b h k => xor_cons a b h k⟩
theorem wop_nandn : WOp nandn := ⟨rfl, fun _ _ h _ => nandn_lt h, fun _ _ a b h k => nandn_cons a b h k⟩
theorem opL_words {op : Nat → Nat → Nat} (ho : WOp op) {X Y : List Nat} (hX : Words X) (hY : Words Y) (n : Nat) : Words (opL op X Y n) := by
  intro x hx
  obtain ⟨i, hi, rfl⟩ := List.mem_map.1 hx
  exact ho.lt _ _ (hX.getD _) (hY.getD _)
theorem val_head_tail (X : List Nat) : val X = X.getD 0 0 + W64 * val X.tail := by
  cases X <;> simp
theorem getD_tail (X : List Nat) (i : Nat) : X.tail.getD i 0 = X.getD (i + 1) 0 := by
  cases X <;> simp
theorem Words.tl {X : List Nat} (h : Words X) : Words X.tail := by
  cases X with
  | nil => exact h
  | cons x xs => exact Words.tail h
theorem opL_val {op : Nat → Nat → Nat} (ho : WOp op) (n : Nat) : ∀ X Y : List Nat, Words X → Words Y → X.length ≤ n → Y.length ≤ n → val (opL op X Y n) = op (val X) (val Y) := by
  induction n with
  | zero =>
    intro X Y _ _ h1 h2
    rw [List.eq_nil_of_length_eq_zero (by omega : X.length = 0), List.eq_nil_of_length_eq_zero (by omega : Y.length = 0)]
    simp [opL, ho.zero]
  | succ n ih =>
    intro X Y hX hY h1 h2
    have e : opL op X Y (n + 1) = op (X.getD 0 0) (Y.getD 0 0) :: opL op X.tail Y.tail n := by
      unfold opL
      rw [List.range_succ_eq_map, List.map_cons, List.map_map]
      congr 1
      apply List.map_congr_left
      intro i _
      simp only [Function.comp, getD_tail]
    rw [e, val_cons, ih X.tail Y.tail hX.tl hY.tl (by simp; omega) (by simp; omega), ← ho.cons _ _ _ _ (hX.getD 0) (hY.getD 0), ← val_head_tail, ← val_head_tail]
theorem val_append_zeros (L : List Nat) (k : Nat) : val (L ++ List.replicate k 0) = val L := by
  rw [val_append, val_replicate_zero]; simp
/-- Fewer words do where the rest comes to nothing. -/
theorem opL_cut {op : Nat → Nat → Nat} (ho : WOp op) {X Y : List Nat} (hX : Words X) (hY : Words Y) (m : Nat) (hz : ∀ i, m ≤ i → op (X.getD i 0) (Y.getD i 0) = 0) : val (opL op X Y m) = op (val X) (val Y) := by
  rw [← opL_val ho (m + (X.length + Y.length)) X Y hX hY (by omega) (by omega)]
  have key : ∀ k, val (opL op X Y (m + k)) = val (opL op X Y m) := by
    intro k
    induction k with
    | zero => rfl
    | succ k ih => rw [← Nat.add_assoc, opL_succ, val_snoc, hz (m + k) (by omega), ih]; simp
  exact (key _).symm
theorem getD_out {X : List Nat} {i : Nat} (h : X.length ≤ i) : X.getD i 0 = 0 := by
  rw [List.getD_eq_getElem?_getD, List.getElem?_eq_none h]; rfl
theorem and_cut {X Y : List Nat} (hX : Words X) (hY : Words Y) {m : Nat} (h : X.length ≤ m ∨ Y.length ≤ m) : val (opL (· &&& ·) X Y m) = val X &&& val Y := by
  refine opL_cut wop_and hX hY m fun i hi => ?_
  rcases h with h | h
  · rw [getD_out (X := X) (by omega)]; simp
  · rw [getD_out (X := Y) (by omega)]; simp
theorem nandn_cut {X Y : List Nat} (hX : Words X) (hY : Words Y) {m : Nat} (h : X.length ≤ m) : val (opL nandn X Y m) = nandn (val X) (val Y) := by
  refine opL_cut wop_nandn hX hY m fun i hi => ?_
  rw [getD_out (X := X) (by omega)]; simp [nandn]
/-- The upper part, where one of the two has ended. -/
theorem opL_right {op : Nat → Nat → Nat} (hr : ∀ x, op x 0 = x) {X Y : List Nat} {n m : Nat} (hnm : n ≤ m) (hY : Y.length ≤ n) (hX : X.length = m) : opL op X Y m = opL op X Y n ++ X.drop n := by
  apply List.ext_getElem
  · simp [opL_length]; omega
  · intro i h1 h2
    rw [opL_length] at h1
    by_cases hi : i < n
    · rw [List.getElem_append_left (by rw [opL_length]; exact hi)]; simp [opL]
    · rw [List.getElem_append_right (by rw [opL_length]; omega)]
      simp only [opL, List.getElem_map, List.getElem_range, List.getElem_drop, List.length_map, List.length_range]
      rw [getD_out (X := Y) (by omega), hr]
      have e : n + (i - n) = i := by omega
      simp [e, show i < X.length by omega]
theorem opL_left {op : Nat → Nat → Nat} (hl : ∀ x, op 0 x = x) {X Y : List Nat} {n m : Nat} (hnm : n ≤ m) (hX : X.length ≤ n) (hY : Y.length = m) : opL op X Y m = opL op X Y n ++ Y.drop n := by
  apply List.ext_getElem
  · simp [opL_length]; omega
  · intro i h1 h2
    rw [opL_length] at h1
    by_cases hi : i < n
    · rw [List.getElem_append_left (by rw [opL_length]; exact hi)]; simp [opL]
    · rw [List.getElem_append_right (by rw [opL_length]; omega)]
      simp only [opL, List.getElem_map, List.getElem_range, List.getElem_drop, List.length_map, List.length_range]
      rw [getD_out (X := X) (by omega), hl]
      have e : n + (i - n) = i := by omega
      simp [e, show i < Y.length by omega]
end Go.Proofs
namespace Go.Proofs
open Go.RowKit
set_option maxHeartbeats 400000
set_option linter.unusedVariables false
set_option linter.unusedSimpArgs false
set_option maxRecDepth 100000

/-- Two slices are one, or lie in different blocks. -/
def SoA (a : Option Addr) (l c : Nat) (x : Option Addr) (xl xc : Nat) : Prop := (a = x ∧ l = xl ∧ c = xc) ∨ ∀ k, InB a k → ¬ InB x k
theorem SoA.refl (a : Option Addr) (l c : Nat) : SoA a l c a l c := .inl ⟨rfl, rfl, rfl⟩
theorem SoA.al {a x : Option Addr} {l c xl xc : Nat} (h : SoA a l c x xl xc) : Al a c x xc := by
  rcases h with ⟨rfl, rfl, rfl⟩ | h
  · exact Al.refl _ _
  · exact Al.of_ne h

theorem same_no (a : Option Addr) (l c : Nat) (L : List Nat) (x : Option Addr) (xl xc : Nat) (X : List Nat) (w : World) (h : Rd w a l c L) (hx : Rd w x xl xc X) (hs : l ≠ xl ∨ l = 0 ∨ ∀ k, InB a k → ¬ InB x k) :
    Calls Tryz.prog 246 #[.slice a l c, .slice x xl xc] w fun e w' => e = .returned (.bool false) ∧ ∃ k, w' = w.drewN k := by
  have hle := h.len_le; have hlex := hx.len_le
  unfold LIM at hle hlex
  by_cases h1 : l = xl
  · subst h1
    by_cases h2 : l = 0
    · subst h2
      clear h hx hs
      go_enter Tryz.func246, Tryz.ntmps246
      go_wp2_with fail
      go_quiet (fail)
      go_wp2_with fail
      go_ret
      exact ⟨rfl, _, rfl⟩
    · rcases hs with hs | hs | hs
      · exact absurd rfl hs
      · exact absurd hs h2
      rcases h with ⟨_, _, h3, _⟩ | ⟨b, o, M, rfl, hb, hw, k1, k2, rfl, k3⟩
      · exact absurd h3 h2
      rcases hx with ⟨_, _, h3, _⟩ | ⟨xb, xo, XB, rfl, hxb, hxw, j1, j2, rfl, j3⟩
      · exact absurd h3 h2
      have hbb : b ≠ xb := by
        rintro rfl
        exact hs b ⟨o, rfl⟩ ⟨xo, rfl⟩
      have heq := eql195_other (o := o) (o' := xo) hb hxb hbb
      have heq' := fun k => eql195_other (w := w.drewN k) (o := o) (o' := xo) hb hxb hbb
      have t1 : ((l : Int) == (l : Int)) = true := by simp
      have t2 : decide (0 < l) = true := by simp; omega
      have t3 : decide ((0 : Int) < (l : Int)) = true := by simp; omega
      have h0 : 0 < l := by omega
      clear hs hb hw hxb hxw hbb h2
      go_enter Tryz.func246, Tryz.ntmps246
      go_wp2_with fail
      go_quiet (fail)
      go_wp2_with fail
      go_ret
      exact ⟨rfl, _, rfl⟩
  · have t1 : ((l : Int) == (xl : Int)) = false := by simp; omega
    clear h hx hs h1
    go_enter Tryz.func246, Tryz.ntmps246
    go_wp2_with fail
    go_quiet (fail)
    go_wp2_with fail
    go_ret
    exact ⟨rfl, _, rfl⟩

theorem same_yes (a : Option Addr) (l c : Nat) (L : List Nat) (w : World) (h : Rd w a l c L) (h0 : 0 < l) :
    Calls Tryz.prog 246 #[.slice a l c, .slice a l c] w fun e w' => e = .returned (.bool true) ∧ ∃ k, w' = w.drewN k := by
  have hle := h.len_le
  unfold LIM at hle
  rcases h with ⟨_, _, h3, _⟩ | ⟨b, o, M, rfl, hb, hw, k1, k2, rfl, k3⟩
  · omega
  have heq := eql195_same ⟨b, o, none⟩
  have t1 : ((l : Int) == (l : Int)) = true := by simp
  have t2 : decide (0 < l) = true := by simp; omega
  have t3 : decide ((0 : Int) < (l : Int)) = true := by simp; omega
  clear hb hw
  go_enter Tryz.func246, Tryz.ntmps246
  go_wp2_with fail
  go_quiet (fail)
  go_wp2_with fail
  go_ret
  exact ⟨rfl, _, rfl⟩

/-- z[k:k+n]. -/
theorem slice101_range (b o l c k n : Nat) (hn : 0 < n) (h : k + n ≤ c) (lo hi : Int) (e1 : lo = (k : Int)) (e2 : hi = (k : Int) + (n : Int)) :
    ∀ w : World, (Instr.slice 101 (.slice (some ⟨b, o, none⟩) l c) (some (.int .i64 lo)) (some (.int .i64 hi)) none).run Tryz.prog w = .ok (.slice (some ⟨b, o + k, none⟩) n (c - k)) w := by
  intro w
  subst e1; subst e2
  rw [run_slice_lh (P := Tryz.prog) w 101 (some ⟨b, o, none⟩) l c (by rw [elem101]; exact u101) .i64 .i64 (k : Int) ((k : Int) + (n : Int)) (by omega) (by omega) (by omega), elem101, size177]
  simp only [Result.andThen_ok, sliced, Int.toNat_natCast, Nat.mul_one]
  have e1 : ((k : Int) + (n : Int)).toNat - k = n := by omega
  rw [e1]
  congr 2
  rw [if_neg (by omega)]
  simp only [Option.map_some, Addr.add]
  by_cases hk : k = 0
  · subst hk; simp
  · simp [hk]
theorem slice101_to0 (b o l c n : Nat) (h : n ≤ c) :
    ∀ w : World, (Instr.slice 101 (.slice (some ⟨b, o, none⟩) l c) (some (.int .i64 0)) (some (.int .i64 (n : Int))) none).run Tryz.prog w = .ok (.slice (some ⟨b, o, none⟩) n c) w := by
  intro w
  rw [run_slice_lh (P := Tryz.prog) w 101 (some ⟨b, o, none⟩) l c (by rw [elem101]; exact u101) .i64 .i64 0 (n : Int) (by omega) (by omega) (by omega), elem101, size177]
  simp only [Result.andThen_ok, sliced, Int.toNat_natCast, Nat.mul_one, Int.toNat_zero, Nat.sub_zero]
  congr 2
  split
  · rfl
  · simp [Addr.add]
theorem splice_below {α : Type} {M R S : List α} {o q : Nat} (hS : S.length = q) (h : o + q + R.length ≤ M.length) : splice (splice M (o + q) R) o S = splice M o (S ++ R) := by
  subst hS
  unfold splice
  have e1 : (M.take (o + S.length) ++ R ++ M.drop (o + S.length + R.length)).take o = M.take o := by
    rw [List.append_assoc, List.take_append_of_le_length (by simp; omega), List.take_take, Nat.min_eq_left (by omega)]
  have e2 : (M.take (o + S.length) ++ R ++ M.drop (o + S.length + R.length)).drop (o + S.length) = R ++ M.drop (o + S.length + R.length) := by
    rw [List.append_assoc, List.drop_append_of_le_length (by simp; omega), List.drop_of_length_le (by simp; omega), List.nil_append]
  rw [e1, e2, List.length_append, ← Nat.add_assoc]
  simp only [List.append_assoc]
theorem seg_splice_off {α : Type} {M S : List α} {o k n : Nat} (hS : S.length = k) (h : o + k + n ≤ M.length) : Go.Proofs.seg (splice M o S) o (k + n) = S ++ Go.Proofs.seg M (o + k) n := by
  subst hS
  unfold Go.Proofs.seg splice
  rw [List.append_assoc, List.drop_append_of_le_length (by simp; omega), List.drop_of_length_le (by simp; omega), List.nil_append, List.take_length_add_append]
theorem seg_set_last {M : List Nat} {o m v : Nat} (h : o + m < M.length) : Go.Proofs.seg (M.set (o + m) v) o (m + 1) = Go.Proofs.seg M o m ++ [v] := by
  rw [seg_succ (by simpa using h)]
  congr 1
  · unfold Go.Proofs.seg
    rw [List.drop_set, if_neg (by omega), List.take_set_of_le (by omega)]
  · simp [h]
end Go.Proofs
namespace Go.Proofs
open Go.RowKit
set_option maxHeartbeats 1000000
set_option linter.unusedVariables false
set_option linter.unusedSimpArgs false
set_option maxRecDepth 100000

/-- The words of a number that was shifted up lie at o + q, the lower ones are free. -/
def LshMid (w1 : World) (b o q m : Nat) (len T : Nat) (wx : World) : Prop :=
  ∃ M3, Blk wx b M3 ∧ Words M3 ∧ M3.length = len ∧ val (Go.Proofs.seg M3 (o + q) (m + 1)) = T ∧ Keeps (· = b) w1 wx

theorem NatRes.same {w : World} {a : Option Addr} {l c N : Nat} {k : Nat} (h : Rd w a l c (words N)) : NatRes w a c N (.returned (.slice a l c)) (w.drewN k) :=
  ⟨a, l, c, rfl, h.drewN k, Into.refl _ _ _, (Keeps.refl _ w).drewN k⟩
theorem NatRes.afterN {w : World} {a : Option Addr} {c N k : Nat} {e : Ending} {w' : World} (h : NatRes (w.drewN k) a c N e w') : NatRes w a c N e w' := by
  obtain ⟨ra, rl, rc, h1, h2, h3, h4⟩ := h
  exact ⟨ra, rl, rc, h1, h2, h3.mono (Nat.le_refl _), ((Keeps.refl _ w).drewN k).trans h4⟩
theorem NatRes.of_set {w w' : World} {a ra : Option Addr} {c xl rc N : Nat} (hr : Rd w' ra xl rc (words N)) (hi : Into w a c ra rc) (hk : Keeps (InB a) w w') : NatRes w a c N (.returned (.slice ra xl rc)) w' :=
  ⟨ra, xl, rc, rfl, hr, hi, hk⟩

theorem lsh_any (a : Option Addr) (l c : Nat) (L : List Nat) (x : Option Addr) (xl xc N s : Nat) (w : World) (h : Rd w a l c L) (hx : Rd w x xl xc (words N)) (hs : SoA a l c x xl xc) (hxl : xl ≤ 100000) (hsb : s ≤ 1000000) :
    Calls Tryz.prog 210 #[.slice a l c, .slice x xl xc, .int .u64 (s : Int)] w (NatRes w a c (N * 2 ^ s)) := by
  have H := hid h; have Hx := hid hx; have Hs := hid hs
  have Hlx := hid hx.length
  by_cases h0 : s = 0
  · subst h0
    rw [Nat.pow_zero, Nat.mul_one]
    by_cases hsame : a = x ∧ l = xl ∧ c = xc ∧ 0 < l
    · obtain ⟨rfl, rfl, rfl, hl0⟩ := hsame
      have HS := hid (same_yes a l c L w h hl0)
      clear h hx hs
      go_enter Tryz.func210, Tryz.ntmps210
      go_wp2_with fail
      refine HS.out.mono ?_
      rintro e w1 ⟨rfl, k, rfl⟩
      go_wp2_with fail
      go_ret
      exact NatRes.same Hx.out
    · have HN : Hid (l ≠ xl ∨ l = 0 ∨ ∀ k, InB a k → ¬ InB x k) := hid (by
        rcases Hs.out with ⟨h1, h2, h3⟩ | h1
        · exact .inr (.inl (by by_cases hh : l = 0; exact hh; exact absurd ⟨h1, h2, h3, by omega⟩ hsame))
        · exact .inr (.inr h1))
      have HS := hid (same_no a l c L x xl xc _ w h hx HN.out)
      have HA := hid (fun k => alias_any a l c L x xl xc _ (w.drewN k) (h.drewN k) (hx.drewN k) hs.al)
      have HSet := hid (fun k => set_any a l c L x xl xc _ (w.drewN k) (h.drewN k) (hx.drewN k) (by omega))
      obtain ⟨sb, hsb⟩ : ∃ b, b = sharesB a c x xc := ⟨_, rfl⟩
      rw [← hsb] at HA
      cases sb with
      | false =>
        clear h hx hs hsame hsb
        go_enter Tryz.func210, Tryz.ntmps210
        go_wp2_with fail
        refine HS.out.mono ?_
        rintro e w1 ⟨rfl, k, rfl⟩
        go_wp2_with fail
        refine (HA.out k).mono ?_
        rintro e w2 ⟨rfl, k2, rfl⟩
        rw [World.drewN_drewN]
        go_wp2_with fail
        refine (HSet.out _).mono ?_
        rintro e w3 ⟨ra, rc, rfl, hr, hi, hk⟩
        go_wp2_with fail
        go_ret
        exact NatRes.afterN (NatRes.of_set hr hi hk)
      | true =>
        have hl0 : xl = 0 := by
          unfold sharesB at hsb
          have h1 := hsb.symm
          simp only [Bool.and_eq_true, decide_eq_true_eq] at h1
          obtain ⟨⟨⟨h1, h2⟩, h3⟩, h4⟩ := h1
          rcases Hs.out with ⟨g1, g2, g3⟩ | g
          · rw [← g2]
            by_cases hh : l = 0
            · exact hh
            · exact absurd ⟨g1, g2, g3, by omega⟩ hsame
          · exfalso
            subst h4
            rcases h with ⟨rfl, _⟩ | ⟨b, o, M, rfl, _⟩
            · cases h3
            · exact g b ⟨o, rfl⟩ ⟨o, rfl⟩
        subst hl0
        have hN : N = 0 := words_length_zero Hlx.out
        subst hN
        clear h hx hs hsame hsb
        go_enter Tryz.func210, Tryz.ntmps210
        go_wp2_with fail
        refine HS.out.mono ?_
        rintro e w1 ⟨rfl, k, rfl⟩
        go_wp2_with fail
        refine (HA.out k).mono ?_
        rintro e w2 ⟨rfl, k2, rfl⟩
        rw [World.drewN_drewN]
        go_wp2_with fail
        go_ret
        exact ⟨_, _, _, rfl, by rw [words_zero]; exact H.out.zero.drewN _, Into.refl _ _ _, (Keeps.refl _ w).drewN _⟩
  · have t0 : ((s : Int) == 0) = false := by simp; omega
    by_cases hm0 : xl = 0
    · subst hm0
      have hN : N = 0 := words_length_zero Hlx.out
      subst hN
      clear h hx hs
      go_enter Tryz.func210, Tryz.ntmps210
      go_wp2_with fail
      go_ret
      exact ⟨_, _, _, rfl, by rw [Nat.zero_mul, words_zero]; exact H.out.zero, Into.refl _ _ _, Keeps.refl _ w⟩
    · have t1 : ((xl : Int) == 0) = false := by simp; omega
      obtain ⟨q, hq⟩ : ∃ q, q = s / 64 := ⟨_, rfl⟩
      obtain ⟨r, hr⟩ : ∃ r, r = s % 64 := ⟨_, rfl⟩
      obtain ⟨n, hn⟩ : ∃ n, n = xl + q := ⟨_, rfl⟩
      have e1 : (s : Int) / 64 = (q : Int) := by omega
      have e2 : (s : Int) % 64 = (r : Int) := by omega
      have e3 : (xl : Int) + (q : Int) = (n : Int) := by omega
      have e4 : (n : Int) - (xl : Int) = (q : Int) := by omega
      have hqb : q ≤ 20000 := by omega
      have hnb : n ≤ 200000 := by omega
      have hval : Hid (N * 2 ^ s = W64 ^ q * (N * 2 ^ r)) := hid (by
        rw [W64_two, ← Nat.pow_mul, Nat.mul_left_comm, ← Nat.pow_add]
        congr 2; omega)
      have HMk := hid (make_any a l c (n + 1) L w h (by omega) (by omega))
      rw [show ((n + 1 : Nat) : Int) = (n : Int) + 1 by omega] at HMk
      clear h hx hs
      have hr64 : r < 64 := by omega
      have HQ := hid hq; have HR := hid hr; have HN := hid hn
      clear hq hr hn
      go_enter Tryz.func210, Tryz.ntmps210
      go_wp2_with fail
      refine HMk.out.mono ?_
      rintro e w1 ⟨ra, rc, rfl, b, o, M, rfl, hb, hw, h1, h2, h3, hi, hk, _⟩
      have Hx1 := hid (Hx.out.keep hk (fun _ _ h => h))
      have Hal := hid (hi.al Hs.out.al (fun k hk => Hx.out.lt hk))
      have Hb := hid hb; have Hw := hid hw; have Hi := hid hi; have Hk := hid hk
      clear hb hw hi hk HMk
      go_upto_if 40 with fail
      rw [e2]
      go_cut [] from 40 to 64 (fun wx => LshMid w1 b o q xl M.length (N * 2 ^ r) wx)
      case first =>
        have hlenx := Hlx.out
        rcases Hx1.out with ⟨_, _, hz, _⟩ | ⟨xb, xo, XB, rfl, hxb, hxw, hx1, hx2, hx3, hx4⟩
        · omega
        have Aax : b ≠ xb ∨ o = xo := by
          rcases Hal.out _ _ _ _ rfl rfl with h | h
          · exact .inl h
          · exact .inr h.1
        have HAax := hid Aax
        obtain ⟨_, _, hxq, Hxc'⟩ := Hx1.out.cells (by omega)
        cases hxq
        have Hxc := hid Hxc'
        have hslz := slice101_range b o (n + 1) rc q xl (by omega) (by omega) (q : Int) (n : Int) rfl (by omega)
        have HX3 := hid hx3
        clear Aax hxb hxw hx3 Hxc' hlenx
        by_cases hr0 : r = 0
        · have t2 : ((r : Int) == 0) = true := by simp; omega
          have HR0 := hid hr0
          clear hr0
          go_wp2_with (refine wpList_cp rfl (.tmp 46) (.tmp 47) 101 101 rfl 177 u101 s177 (some ⟨b, o + q, none⟩) (some ⟨xb, xo, none⟩) xl (rc - q) xl xc rfl rfl b (o + q) (M.map wv) 177 Hb.out ((words N).map wv) (by simp [Hlx.out, Nat.min_self]) (fun _ => ⟨rfl, xb, xo, rfl, Hxc.out⟩) (by simp only [List.length_map]; rw [Hlx.out]; omega) wv_one ?_; intro w2 hb2 hk2; rw [← splice_map] at hb2; have fz := Blk.frozen hb2 (o + n); have cz := Blk.cell hb2 (o := o + n) (by rw [length_splice (by rw [Hlx.out]; omega)]; omega); have Hb2 := hid hb2; have Hk2 := hid hk2; clear hb2 hk2)
          go_meet
          case rel =>
            have hl := Hlx.out
            have e5 : o + n = o + q + xl := by omega
            have hfit : o + q + (words N).length ≤ M.length := by rw [hl]; omega
            have hls := length_splice hfit
            have hbs := Blk.set Hb2.out (o + n) 0
            refine ⟨_, hbs, (Hw.out.splice (words_words N) _).set _ _ W64_pos, by rw [List.length_set, hls], ?_, Hk2.out.setCell ⟨b, o + n, none⟩ (.inl rfl) _⟩
            rw [e5, seg_set_last (by rw [hls]; omega), val_snoc, seg_splice_all hl (by omega), val_words, HR0.out]
            simp
        · have t2 : ((r : Int) == 0) = false := by simp; omega
          have hLIM := LIM_BIGL
          obtain ⟨Z, hZl, hZ⟩ := Blk.sg (o := o + q) (n := xl) Hb.out Hw.out (by omega) (by omega)
          obtain ⟨_, _, hq2, hsgx⟩ := Hx1.out.sg (by omega)
          cases hq2
          have HLs := hid (lshVU_sg b (o + q) (rc - q) xb xo xc xl r Z (words N) w1 (by omega) (by omega) hZ hsgx hZl Hlx.out (by omega) (by omega) (by
            rcases HAax.out with h | h
            · exact .inl (Ne.symm h)
            · exact .inr (.inl (by omega))))
          obtain ⟨cc, hcc⟩ : ∃ cc, cc = (words N).getD (xl - 1) 0 / 2 ^ (64 - r) := ⟨_, rfl⟩
          rw [← hcc] at HLs
          have HCC := hid hcc
          clear hZl hZ hsgx hcc hLIM
          go_wp2_with fail
          refine HLs.out.mono ?_
          rintro e w2 ⟨rfl, hsg, hkc⟩
          obtain ⟨M2, hb2, hl2, hw2, hs2⟩ := hkc.words b M Hb.out Hw.out
          obtain ⟨M2', hb2', _, _, _, hseg⟩ := hsg
          obtain rfl := hb2.inj hb2'
          have fz := Blk.frozen hb2 (o + n)
          have cz := Blk.cell hb2 (o := o + n) (by omega)
          have Hb2 := hid hb2; have Hw2 := hid hw2; have Hseg := hid hseg; have Hkc := hid hkc; have Hl2 := hid hl2
          clear hb2 hb2' hw2 hs2 hseg hkc hl2 HLs
          go_wp2_with fail
          go_meet
          case rel =>
            have e5 : o + n = o + q + xl := by omega
            have hl2 := Hl2.out
            have hk2 : Keeps (· = b) w1 w2 := Hkc.out.keeps.mono (fun i _ h => by obtain ⟨j, h⟩ := h; exact h.1)
            have hcl : cc < W64 := by rw [HCC.out]; exact Nat.lt_of_le_of_lt (Nat.div_le_self _ _) ((words_words N).getD _)
            refine ⟨_, Blk.set Hb2.out (o + n) cc, Hw2.out.set _ _ hcl, by rw [List.length_set, hl2], ?_, hk2.setCell ⟨b, o + n, none⟩ (.inl rfl) _⟩
            have hsegl := Hseg.out
            rw [shlL_length] at hsegl
            have hv := shlL_val (s := r) (X := words N) (by omega) xl
            have hc : shlC r (words N) xl = cc := by unfold shlC; rw [if_neg (by omega), HCC.out]
            rw [hc, List.take_of_length_le (by rw [Hlx.out]; exact Nat.le_refl _), val_words] at hv
            rw [e5, seg_set_last (by omega), val_snoc, length_seg (by omega), hsegl]
            exact hv
      case rest =>
        obtain ⟨M3, hb3, hw3, hl3, hv3, hk3⟩ := hcut
        have Hb3 := hid hb3; have Hw3 := hid hw3; have Hl3 := hid hl3; have Hv3 := hid hv3; have Hk3 := hid hk3
        have hsl := slice101_to0 b o (n + 1) rc q (by omega)
        clear hb3 hw3 hl3 hv3 hk3
        go_wp2_with (refine wpList_clr rfl (.tmp 68) 101 rfl 177 u101 (.int .u64 0) zero177 rfl rfl (some ⟨b, o, none⟩) q rc rfl b o (M3.map wv) 177 Hb3.out (fun _ => rfl) (by simp only [List.length_map]; have := Hl3.out; omega) ?_; intro w4 hb4 hk4; rw [← Words.wv_replicate, ← splice_map] at hb4; have Hb4 := hid hb4; have Hk4 := hid hk4; clear hb4 hk4)
        have hl3 := Hl3.out
        have hn : n + 1 = q + (xl + 1) := by have := HN.out; omega
        have hls : (splice M3 o (List.replicate q 0)).length = M3.length := length_splice (by simp; omega)
        have hrd := Rd.of_blk (o := o) (l := n + 1) (c := rc) Hb4.out (Hw3.out.splice (Words.replicate_zero q) o) h1 (by rw [hls, hl3]; exact h2) (by rw [hls, hl3]; exact h3)
        have hvl : val (Go.Proofs.seg (splice M3 o (List.replicate q 0)) o (n + 1)) = N * 2 ^ s := by
          rw [hn, seg_splice_off (by simp) (by omega), val_append, val_replicate_zero, Hv3.out, hval.out]; simp
        have Hrd := hid hrd; have Hvl := hid hvl
        have HNo := hid (norm_any _ _ _ _ _ hrd)
        clear hl3 hn hls hrd hvl hsl
        refine HNo.out.mono ?_
        rintro e w5 ⟨n5, rfl, hr5, _, rfl⟩
        rw [trimZ_eq_words Hrd.out.words, Hvl.out] at hr5
        have Hr5 := hid hr5
        clear hr5 HNo
        go_wp2_with fail
        go_ret
        exact ⟨_, _, _, rfl, Hr5.out, Hi.out, Made.keeps Hi.out Hk.out (Hk3.out.trans Hk4.out)⟩
end Go.Proofs
namespace Go.Proofs
open Go.RowKit
set_option maxHeartbeats 1000000
set_option linter.unusedVariables false
set_option linter.unusedSimpArgs false
set_option maxRecDepth 100000

theorem val_drop_div {X : List Nat} (hX : Words X) (q : Nat) : val (X.drop q) = val X / W64 ^ q := by
  by_cases hq : q ≤ X.length
  · have h1 : val X = val (X.take q) + W64 ^ q * val (X.drop q) := by
      conv => lhs; rw [← List.take_append_drop q X]
      rw [val_append, List.length_take, Nat.min_eq_left hq]
    have h2 := val_lt (hX.take q)
    rw [List.length_take, Nat.min_eq_left hq] at h2
    rw [h1, Nat.add_mul_div_left _ _ (Nat.pow_pos W64_pos), Nat.div_eq_of_lt h2, Nat.zero_add]
  · rw [List.drop_of_length_le (by omega), val_nil, Nat.div_eq_of_lt]
    exact Nat.lt_of_lt_of_le (val_lt hX) (Nat.pow_le_pow_right W64_pos (by omega))
theorem div_place (N s : Nat) : N / 2 ^ s = N / W64 ^ (s / 64) / 2 ^ (s % 64) := by
  rw [Nat.div_div_eq_div_mul, pow_place]

/-- The words of a number that was shifted down lie at o. -/
def RshMid (w1 : World) (b o n : Nat) (len T : Nat) (wx : World) : Prop :=
  ∃ M3, Blk wx b M3 ∧ Words M3 ∧ M3.length = len ∧ val (Go.Proofs.seg M3 o n) = T ∧ Keeps (· = b) w1 wx

theorem rsh_any (a : Option Addr) (l c : Nat) (L : List Nat) (x : Option Addr) (xl xc N s : Nat) (w : World) (h : Rd w a l c L) (hx : Rd w x xl xc (words N)) (hs : SoA a l c x xl xc) (hxl : xl ≤ 100000) (hsb : s ≤ 1000000) :
    Calls Tryz.prog 211 #[.slice a l c, .slice x xl xc, .int .u64 (s : Int)] w (NatRes w a c (N / 2 ^ s)) := by
  have H := hid h; have Hx := hid hx; have Hs := hid hs
  have Hlx := hid hx.length
  by_cases h0 : s = 0
  · subst h0
    rw [Nat.pow_zero, Nat.div_one]
    by_cases hsame : a = x ∧ l = xl ∧ c = xc ∧ 0 < l
    · obtain ⟨rfl, rfl, rfl, hl0⟩ := hsame
      have HS := hid (same_yes a l c L w h hl0)
      clear h hx hs
      go_enter Tryz.func211, Tryz.ntmps211
      go_wp2_with fail
      refine HS.out.mono ?_
      rintro e w1 ⟨rfl, k, rfl⟩
      go_wp2_with fail
      go_ret
      exact NatRes.same Hx.out
    · have HN : Hid (l ≠ xl ∨ l = 0 ∨ ∀ k, InB a k → ¬ InB x k) := hid (by
        rcases Hs.out with ⟨h1, h2, h3⟩ | h1
        · exact .inr (.inl (by by_cases hh : l = 0; exact hh; exact absurd ⟨h1, h2, h3, by omega⟩ hsame))
        · exact .inr (.inr h1))
      have HS := hid (same_no a l c L x xl xc _ w h hx HN.out)
      have HA := hid (fun k => alias_any a l c L x xl xc _ (w.drewN k) (h.drewN k) (hx.drewN k) hs.al)
      have HSet := hid (fun k => set_any a l c L x xl xc _ (w.drewN k) (h.drewN k) (hx.drewN k) (by omega))
      obtain ⟨sb, hsb⟩ : ∃ b, b = sharesB a c x xc := ⟨_, rfl⟩
      rw [← hsb] at HA
      cases sb with
      | false =>
        clear h hx hs hsame hsb
        go_enter Tryz.func211, Tryz.ntmps211
        go_wp2_with fail
        refine HS.out.mono ?_
        rintro e w1 ⟨rfl, k, rfl⟩
        go_wp2_with fail
        refine (HA.out k).mono ?_
        rintro e w2 ⟨rfl, k2, rfl⟩
        rw [World.drewN_drewN]
        go_wp2_with fail
        refine (HSet.out _).mono ?_
        rintro e w3 ⟨ra, rc, rfl, hr, hi, hk⟩
        go_wp2_with fail
        go_ret
        exact NatRes.afterN (NatRes.of_set hr hi hk)
      | true =>
        have hl0 : xl = 0 := by
          unfold sharesB at hsb
          have h1 := hsb.symm
          simp only [Bool.and_eq_true, decide_eq_true_eq] at h1
          obtain ⟨⟨⟨h1, h2⟩, h3⟩, h4⟩ := h1
          rcases Hs.out with ⟨g1, g2, g3⟩ | g
          · rw [← g2]
            by_cases hh : l = 0
            · exact hh
            · exact absurd ⟨g1, g2, g3, by omega⟩ hsame
          · exfalso
            subst h4
            rcases h with ⟨rfl, _⟩ | ⟨b, o, M, rfl, _⟩
            · cases h3
            · exact g b ⟨o, rfl⟩ ⟨o, rfl⟩
        subst hl0
        have hN : N = 0 := words_length_zero Hlx.out
        subst hN
        clear h hx hs hsame hsb
        go_enter Tryz.func211, Tryz.ntmps211
        go_wp2_with fail
        refine HS.out.mono ?_
        rintro e w1 ⟨rfl, k, rfl⟩
        go_wp2_with fail
        refine (HA.out k).mono ?_
        rintro e w2 ⟨rfl, k2, rfl⟩
        rw [World.drewN_drewN]
        go_wp2_with fail
        go_ret
        exact ⟨_, _, _, rfl, by rw [words_zero]; exact H.out.zero.drewN _, Into.refl _ _ _, (Keeps.refl _ w).drewN _⟩
  · have t0 : ((s : Int) == 0) = false := by simp; omega
    obtain ⟨q, hq⟩ : ∃ q, q = s / 64 := ⟨_, rfl⟩
    obtain ⟨r, hr⟩ : ∃ r, r = s % 64 := ⟨_, rfl⟩
    have e1 : (s : Int) / 64 = (q : Int) := by omega
    have e2 : (s : Int) % 64 = (r : Int) := by omega
    by_cases hm0 : xl ≤ q
    · have t1 : decide ((xl : Int) - (q : Int) ≤ 0) = true := by simp; omega
      have hz : Hid (N / 2 ^ s = 0) := hid (by
        rw [Nat.div_eq_of_lt]
        refine Nat.lt_of_lt_of_le (lt_words N) ?_
        rw [Hlx.out, W64_two, ← Nat.pow_mul]
        exact Nat.pow_le_pow_right (by omega) (by omega))
      clear h hx hs hq hr
      go_enter Tryz.func211, Tryz.ntmps211
      go_wp2_with fail
      go_ret
      exact ⟨_, _, _, rfl, by rw [hz.out, words_zero]; exact H.out.zero, Into.refl _ _ _, Keeps.refl _ w⟩
    · obtain ⟨n, hn⟩ : ∃ n, n = xl - q := ⟨_, rfl⟩
      have e3 : (xl : Int) - (q : Int) = (n : Int) := by omega
      have e4 : (xl : Int) - (n : Int) = (q : Int) := by omega
      have hn0 : 0 < n := by omega
      have t1 : decide ((n : Int) ≤ 0) = false := by simp; omega
      have hval : Hid (N / 2 ^ s = val ((words N).drop q) / 2 ^ r) := hid (by
        rw [val_drop_div (words_words N), val_words, hq, hr]; exact div_place N s)
      have HMk := hid (make_any a l c n L w h (by omega) hn0)
      clear h hx hs
      have hr64 : r < 64 := by omega
      have hqx : q < xl := by omega
      have hnx : n ≤ 100000 := by omega
      have HQ := hid hq; have HR := hid hr; have HN := hid hn
      clear hq hr hn
      go_enter Tryz.func211, Tryz.ntmps211
      go_wp2_with fail
      refine HMk.out.mono ?_
      rintro e w1 ⟨ra, rc, rfl, b, o, M, rfl, hb, hw, h1, h2, h3, hi, hk, _⟩
      have Hx1 := hid (Hx.out.keep hk (fun _ _ h => h))
      have Hal := hid (hi.al Hs.out.al (fun k hk => Hx.out.lt hk))
      have Hb := hid hb; have Hw := hid hw; have Hi := hid hi; have Hk := hid hk
      clear hb hw hi hk HMk
      go_upto_if 39 with fail
      rw [e2]
      go_cut [] from 39 to 55 (fun wx => RshMid w1 b o n M.length (N / 2 ^ s) wx)
      case first =>
        have hlenx := Hlx.out
        have hln := HN.out
        rcases Hx1.out with ⟨_, _, hz, _⟩ | ⟨xb, xo, XB, rfl, hxb, hxw, hx1, hx2, hx3, hx4⟩
        · omega
        have Aax : b ≠ xb ∨ o = xo := by
          rcases Hal.out _ _ _ _ rfl rfl with h | h
          · exact .inl h
          · exact .inr h.1
        have HAax := hid Aax
        obtain ⟨_, _, hxq, Hxc'⟩ := Hx1.out.cells (by omega)
        cases hxq
        have Hxc : Hid (∀ j v, (((words N).drop q).map wv)[j]? = some v → w1.cell? ⟨xb, xo + q + j, none⟩ = some v) := hid (fun j v hv => by
          have := Hxc' (q + j) v (by rw [← hv, List.getElem?_map, List.getElem?_map, List.getElem?_drop])
          rwa [← Nat.add_assoc] at this)
        have HDl : Hid (((words N).drop q).length = n) := hid (by rw [List.length_drop]; omega)
        obtain ⟨p, hsf, hpq⟩ := slice101_from xb xo xl xc q (by omega) hx1
        obtain rfl := hpq (by omega)
        rw [show xl - q = n by omega] at hsf
        clear Aax hxb hxw hx3 Hxc' hlenx hpq hln
        by_cases hr0 : r = 0
        · have t2 : ((r : Int) == 0) = true := by simp; omega
          have HR0 := hid hr0
          clear hr0
          go_wp2_with (refine wpList_cp rfl (.tmp 40) (.tmp 45) 101 101 rfl 177 u101 s177 (some ⟨b, o, none⟩) (some ⟨xb, xo + q, none⟩) n rc n (xc - q) rfl rfl b o (M.map wv) 177 Hb.out (((words N).drop q).map wv) (by rw [List.length_map, HDl.out]; exact (Nat.min_self _).symm) (fun _ => ⟨rfl, xb, xo + q, rfl, Hxc.out⟩) (by rw [List.length_map, List.length_map, HDl.out]; omega) wv_one ?_; intro w2 hb2 hk2; rw [← splice_map] at hb2; have Hb2 := hid hb2; have Hk2 := hid hk2; clear hb2 hk2)
          go_meet
          case rel =>
            have hl := HDl.out
            have hls := length_splice (L := M) (o := o) (R := (words N).drop q) (by rw [hl]; omega)
            refine ⟨_, Hb2.out, Hw.out.splice ((words_words N).drop q) _, hls, ?_, Hk2.out⟩
            rw [seg_splice_all hl (by omega), hval.out, HR0.out]
            simp
        · have t2 : ((r : Int) == 0) = false := by simp; omega
          have hLIM := LIM_BIGL
          obtain ⟨Z, hZl, hZ⟩ := Blk.sg (o := o) (n := n) Hb.out Hw.out (by omega) (by omega)
          obtain ⟨_, _, hq2, hsgx⟩ := Hx1.out.sg (by omega)
          cases hq2
          have hsub := hsgx.sub q n (by rw [Hlx.out]; omega)
          have hsd : Go.Proofs.seg (words N) q n = (words N).drop q := by
            unfold Go.Proofs.seg
            exact List.take_of_length_le (by rw [HDl.out]; exact Nat.le_refl _)
          rw [hsd] at hsub
          have HLs := hid (rshVU_sg b o rc xb (xo + q) (xc - q) n r Z ((words N).drop q) w1 hn0 (by omega) hZ hsub hZl HDl.out (by omega) (by omega) (by
            rcases HAax.out with h | h
            · exact .inl (Ne.symm h)
            · exact .inr (.inl (by omega))))
          clear hZl hZ hsgx hLIM hsub hsd
          go_wp2_with fail
          refine HLs.out.mono ?_
          rintro e w2 ⟨⟨cy, rfl⟩, hsg, hkc⟩
          obtain ⟨M2, hb2, hl2, hw2, hs2⟩ := hkc.words b M Hb.out Hw.out
          obtain ⟨M2', hb2', _, _, _, hseg⟩ := hsg
          obtain rfl := hb2.inj hb2'
          have Hb2 := hid hb2; have Hw2 := hid hw2; have Hseg := hid hseg; have Hkc := hid hkc; have Hl2 := hid hl2
          clear hb2 hb2' hw2 hs2 hseg hkc hl2 HLs
          go_wp2_with fail
          go_meet
          case rel =>
            have hk2 : Keeps (· = b) w1 w2 := Hkc.out.keeps.mono (fun i _ h => by obtain ⟨j, h⟩ := h; exact h.1)
            refine ⟨_, Hb2.out, Hw2.out, Hl2.out, ?_, hk2⟩
            have hsegl := Hseg.out
            rw [shrL_length] at hsegl
            rw [hsegl, hval.out]
            have hd := shrL_div (s := r) (X := (words N).drop q) (by omega)
            rwa [HDl.out] at hd
      case rest =>
        obtain ⟨M3, hb3, hw3, hl3, hv3, hk3⟩ := hcut
        have hrd := Rd.of_blk (o := o) (l := n) (c := rc) hb3 hw3 h1 (by rw [hl3]; exact h2) (by rw [hl3]; exact h3)
        have Hrd := hid hrd; have Hv3 := hid hv3; have Hk3 := hid hk3
        have HNo := hid (norm_any _ _ _ _ _ hrd)
        clear hb3 hw3 hl3 hv3 hk3 hrd
        go_wp2_with fail
        refine HNo.out.mono ?_
        rintro e w5 ⟨n5, rfl, hr5, _, rfl⟩
        rw [trimZ_eq_words Hrd.out.words, Hv3.out] at hr5
        have Hr5 := hid hr5
        clear hr5 HNo
        go_wp2_with fail
        go_ret
        exact ⟨_, _, _, rfl, Hr5.out, Hi.out, Made.keeps Hi.out Hk.out Hk3.out⟩
end Go.Proofs
