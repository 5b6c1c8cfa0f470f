/- Parts of the proofs over the numbers of any length: BytesP, BeP, BeP2, NBytes, IBytes. -/
import Derived.Test.YtacbllkmcldniaaGreatDoorBaseA
import Derived.Test.YtacbllkmcldniaaGreatDoorBaseC
import Derived.Test.YtacbllkmcldniaaGreatDoorSpecA
import Derived.Test.YtacbllkmcldniaaGreatDoorBaseD
set_option linter.unusedSimpArgs false
set_option linter.unusedVariables false
namespace Go.Proofs
set_option maxHeartbeats 400000
set_option linter.unusedVariables false

/-- The byte number i of a number, the lowest one first. -/
def byt (N i : Nat) : Nat := N / 256 ^ i % 256
theorem byt_lt (N i : Nat) : byt N i < 256 := Nat.mod_lt _ (by omega)
/-- The n lowest bytes, the highest one first. -/
def beL (N n : Nat) : List Nat := (List.range n).map fun t => byt N (n - 1 - t)
theorem beL_length (N n : Nat) : (beL N n).length = n := by simp [beL]
theorem beL_get (N n t : Nat) (h : t < n) : (beL N n).getD t 0 = byt N (n - 1 - t) := by
  simp [beL, List.getD_eq_getElem?_getD, h]
/-- The fewest bytes that hold a number. -/
def IsLen (N k : Nat) : Prop := N < 256 ^ k ∧ (k = 0 ∨ 256 ^ (k - 1) ≤ N)
theorem IsLen.unique {N k j : Nat} (h : IsLen N k) (g : IsLen N j) : k = j := by
  have key : ∀ {k j : Nat}, IsLen N k → IsLen N j → ¬ k < j := by
    intro k j h g hlt
    rcases g.2 with h0 | h0
    · omega
    · have := Nat.pow_le_pow_right (show 0 < 256 by omega) (show k ≤ j - 1 by omega)
      have := h.1
      omega
  have h1 := key h g
  have h2 := key g h
  omega
theorem byt_zero {N i : Nat} (h : N < 256 ^ (i + 1)) (h0 : byt N i = 0) : N < 256 ^ i := by
  unfold byt at h0
  have hp : 0 < 256 ^ i := Nat.pow_pos (by omega)
  have h1 : N / 256 ^ i < 256 := by
    rw [Nat.div_lt_iff_lt_mul hp, Nat.mul_comm, ← Nat.pow_succ]
    exact h
  rw [Nat.mod_eq_of_lt h1] at h0
  rcases Nat.lt_or_ge N (256 ^ i) with h2 | h2
  · exact h2
  · have := Nat.div_pos h2 hp
    omega
theorem byt_high {N i k : Nat} (h : N < 256 ^ k) (hi : k ≤ i) : byt N i = 0 := by
  unfold byt
  rw [Nat.div_eq_of_lt (Nat.lt_of_lt_of_le h (Nat.pow_le_pow_right (by omega) hi))]
theorem len_lt {N n : Nat} (hN : N < 256 ^ n) : ∀ i, i ≤ n → (∀ t, t < i → byt N (n - 1 - t) = 0) → N < 256 ^ (n - i) := by
  intro i
  induction i with
  | zero => intro _ _; exact hN
  | succ i ih =>
    intro hi h
    have h1 := ih (by omega) (fun t ht => h t (by omega))
    have h2 := h i (by omega)
    rw [show n - (i + 1) = n - 1 - i by omega]
    refine byt_zero ?_ h2
    rw [show n - 1 - i + 1 = n - i by omega]
    exact h1
theorem len_of {N n i : Nat} (hN : N < 256 ^ n) (hi : i ≤ n) (h1 : ∀ t, t < i → byt N (n - 1 - t) = 0) (h2 : i < n → byt N (n - 1 - i) ≠ 0) : IsLen N (n - i) := by
  refine ⟨len_lt hN i hi h1, ?_⟩
  rcases Nat.lt_or_ge i n with h | h
  · right
    have h3 := h2 h
    rw [show n - i - 1 = n - 1 - i by omega]
    rcases Nat.lt_or_ge N (256 ^ (n - 1 - i)) with h4 | h4
    · exact absurd (byt_high h4 (Nat.le_refl _)) h3
    · exact h4
  · left; omega
theorem beL_drop (N n i : Nat) (hi : i ≤ n) : (beL N n).drop i = beL N (n - i) := by
  apply List.ext_getElem
  · simp [beL]
  · intro t h1 h2
    simp [beL]
    congr 1
    omega
/-- The bytes of a word of a number. -/
theorem byt_word (N k j : Nat) (hj : j < 8) : N / W64 ^ k % W64 / 256 ^ j % 256 = byt N (8 * k + j) := by
  have h1 : W64 = 256 ^ 8 := rfl
  have h2 : W64 ^ k = 256 ^ (8 * k) := by rw [h1, ← Nat.pow_mul]
  unfold byt
  rw [Nat.pow_add, ← Nat.div_div_eq_div_mul, ← h2, h1]
  generalize N / W64 ^ k = A
  have h3 : (256 : Nat) ^ 8 = 256 ^ j * 256 ^ (8 - j) := by rw [← Nat.pow_add]; congr 1; omega
  rw [h3, Nat.mod_mul_right_div_self]
  have h4 : (256 : Nat) ^ (8 - j) = 256 * 256 ^ (7 - j) := by rw [← Nat.pow_succ']; congr 1; omega
  rw [h4, Nat.mod_mul_right_mod]
/-- The buffer after m bytes. -/
def bufL (N n m : Nat) : List Nat := (List.range n).map fun t => if n - 1 - t < m then byt N (n - 1 - t) else 0
theorem bufL_length (N n m : Nat) : (bufL N n m).length = n := by simp [bufL]
theorem bufL_zero (N n : Nat) : bufL N n 0 = List.replicate n 0 := by
  apply List.ext_getElem
  · simp [bufL]
  · intro t h1 h2; simp [bufL]
theorem bufL_next (N n m : Nat) (h : m < n) : (bufL N n m).set (n - 1 - m) (byt N m) = bufL N n (m + 1) := by
  apply List.ext_getElem
  · simp [bufL]
  · intro t h1 h2
    simp [bufL] at h1 h2
    rw [List.getElem_set]
    by_cases ht : n - 1 - m = t
    · subst ht
      simp [bufL]
      have : n - 1 - (n - 1 - m) = m := by omega
      rw [this]
      simp
    · rw [if_neg ht]
      simp [bufL]
      have hne : n - 1 - t ≠ m := by omega
      by_cases hlt : n - 1 - t < m
      · rw [if_pos hlt, if_pos (by omega)]
      · rw [if_neg hlt, if_neg (by omega)]
theorem bufL_skip (N n m : Nat) (h : n ≤ m) : bufL N n m = bufL N n (m + 1) := by
  apply List.ext_getElem
  · simp [bufL]
  · intro t h1 h2
    simp [bufL] at h1 h2
    simp [bufL]
    rw [if_pos (by omega), if_pos (by omega)]
theorem bufL_full (N n m : Nat) (h : N < 256 ^ m) : bufL N n m = beL N n := by
  apply List.ext_getElem
  · simp [bufL, beL]
  · intro t h1 h2
    simp [bufL, beL]
    intro h3
    exact (byt_high h h3).symm
end Go.Proofs
namespace Go.Proofs
set_option maxHeartbeats 400000
set_option linter.unusedVariables false

/-- The number of bytes, the highest one first. -/
def ofBE (L : List Nat) : Nat := L.foldl (fun n d => n * 256 + d) 0
theorem ofBE_snoc (L : List Nat) (d : Nat) : ofBE (L ++ [d]) = ofBE L * 256 + d := by simp [ofBE]
theorem ofBE_take (L : List Nat) (i : Nat) (h : i < L.length) : ofBE (L.take (i + 1)) = ofBE (L.take i) * 256 + L.getD i 0 := by
  rw [List.take_succ_eq_append_getElem h, ofBE_snoc]
  simp [List.getD_eq_getElem?_getD, h]
theorem ofBE_lt (L : List Nat) (h : ∀ x ∈ L, x < 256) : ofBE L < 256 ^ L.length := by
  have key : ∀ i, i ≤ L.length → ofBE (L.take i) < 256 ^ i := by
    intro i
    induction i with
    | zero => intro _; simp [ofBE]
    | succ i ih =>
      intro hi
      have h1 := ih (by omega)
      have h2 : L.getD i 0 < 256 := by
        rw [List.getD_eq_getElem?_getD, List.getElem?_eq_getElem (show i < L.length by omega)]
        exact h _ (List.getElem_mem _)
      rw [ofBE_take L i (by omega), Nat.pow_succ]
      generalize 256 ^ i = P at *
      omega
  have := key L.length (Nat.le_refl _)
  rwa [List.take_length] at this
end Go.Proofs
namespace Go.Proofs
set_option maxHeartbeats 400000
set_option linter.unusedVariables false

theorem ofBE_byt (L : List Nat) (h : ∀ x ∈ L, x < 256) : ∀ t, t < L.length → byt (ofBE L) (L.length - 1 - t) = L.getD t 0 := by
  have key : ∀ i, i ≤ L.length → ∀ t, t < i → byt (ofBE (L.take i)) (i - 1 - t) = L.getD t 0 := by
    intro i
    induction i with
    | zero => intro _ t ht; omega
    | succ i ih =>
      intro hi t ht
      have h2 : L.getD i 0 < 256 := by
        rw [List.getD_eq_getElem?_getD, List.getElem?_eq_getElem (show i < L.length by omega)]
        exact h _ (List.getElem_mem _)
      rw [ofBE_take L i (by omega)]
      rcases Nat.lt_or_ge t i with h3 | h3
      · rw [← ih (by omega) t h3]
        unfold byt
        rw [show i + 1 - 1 - t = (i - 1 - t) + 1 by omega, Nat.pow_succ', ← Nat.div_div_eq_div_mul]
        congr 2
        omega
      · have : t = i := by omega
        subst this
        rw [show t + 1 - 1 - t = 0 by omega]
        unfold byt
        rw [Nat.pow_zero, Nat.div_one]
        omega
  intro t ht
  have := key L.length (Nat.le_refl _) t ht
  rwa [List.take_length] at this
theorem beL_ofBE (L : List Nat) (h : ∀ x ∈ L, x < 256) : beL (ofBE L) L.length = L := by
  apply List.ext_getElem
  · exact beL_length _ _
  · intro t h1 h2
    have := ofBE_byt L h t h2
    simp [beL]
    rw [this, List.getD_eq_getElem?_getD, List.getElem?_eq_getElem h2]
    rfl
/-- The words of a number, m of them. -/
def wordsL (N m : Nat) : List Nat := (List.range m).map fun k => N / W64 ^ k % W64
theorem wordsL_length (N m : Nat) : (wordsL N m).length = m := by simp [wordsL]
theorem wordsL_succ (N m : Nat) : wordsL N (m + 1) = wordsL N m ++ [N / W64 ^ m % W64] := by simp [wordsL, List.range_succ]
theorem wordsL_words (N m : Nat) : Words (wordsL N m) := by
  intro x hx
  obtain ⟨k, _, rfl⟩ := List.mem_map.1 hx
  exact Nat.mod_lt _ W64_pos
theorem wordsL_val (N m : Nat) : val (wordsL N m) = N % W64 ^ m := by
  induction m with
  | zero => simp [wordsL, Nat.mod_one]
  | succ m ih =>
    rw [wordsL_succ, val_snoc, ih, wordsL_length, Nat.pow_succ, Nat.mod_mul]
theorem wordsL_trim {N m : Nat} (h : N < W64 ^ m) : trimZ (wordsL N m) = words N := by
  rw [trimZ_eq_words (wordsL_words N m), wordsL_val, Nat.mod_eq_of_lt h]
/-- j bytes of a number from byte s on. -/
def leS (N s j : Nat) : Nat := N / 256 ^ s % 256 ^ j
theorem leS_zero (N s : Nat) : leS N s 0 = 0 := by simp [leS, Nat.mod_one]
theorem leS_succ (N s j : Nat) : leS N s (j + 1) = leS N s j + 256 ^ j * byt N (s + j) := by
  unfold leS byt
  rw [Nat.pow_succ, Nat.mod_mul, Nat.pow_add, ← Nat.div_div_eq_div_mul]
theorem leS_lt (N s j : Nat) : leS N s j < 256 ^ j := Nat.mod_lt _ (Nat.pow_pos (by omega))
theorem leS_word (N k : Nat) : leS N (8 * k) 8 = N / W64 ^ k % W64 := by
  unfold leS
  rw [show W64 = 256 ^ 8 from rfl, ← Nat.pow_mul]
theorem leS_or (N s j : Nat) : leS N s j ||| byt N (s + j) * 2 ^ (8 * j) = leS N s (j + 1) := by
  rw [leS_succ, show (256 : Nat) ^ j = 2 ^ (8 * j) by rw [Nat.pow_mul], Nat.or_comm]
  have h := leS_lt N s j
  rw [show (256 : Nat) ^ j = 2 ^ (8 * j) by rw [Nat.pow_mul]] at h
  have := Nat.shiftLeft_add_eq_or_of_lt h (byt N (s + j))
  rw [Nat.shiftLeft_eq] at this
  rw [← this, Nat.mul_comm]
  omega
theorem leS_add (N s i j : Nat) : leS N s (i + j) = leS N s i + 256 ^ i * leS N (s + i) j := by
  unfold leS
  rw [Nat.pow_add 256 i j, Nat.mod_mul, Nat.pow_add 256 s i, ← Nat.div_div_eq_div_mul]
theorem leS_or2 (N s : Nat) : leS N (s + 4) 4 * 2 ^ 32 ||| leS N s 4 = leS N s 8 := by
  have h := leS_lt N s 4
  rw [show (256 : Nat) ^ 4 = 2 ^ 32 from rfl] at h
  have := Nat.shiftLeft_add_eq_or_of_lt h (leS N (s + 4) 4)
  rw [Nat.shiftLeft_eq] at this
  rw [← this, show (8 : Nat) = 4 + 4 from rfl, leS_add N s 4 4, show (256 : Nat) ^ 4 = 2 ^ 32 from rfl]
  omega
/-- The last word, where it is not full. -/
theorem leS_last {N n k : Nat} (h : N < 256 ^ n) (hk : 8 * k ≤ n) (hn : n - 8 * k ≤ 8) : leS N (8 * k) (n - 8 * k) = N / W64 ^ k % W64 := by
  rw [← leS_word]
  unfold leS
  have h1 : N / 256 ^ (8 * k) < 256 ^ (n - 8 * k) := by
    rw [Nat.div_lt_iff_lt_mul (Nat.pow_pos (by omega)), ← Nat.pow_add]
    rwa [show n - 8 * k + 8 * k = n by omega]
  rw [Nat.mod_eq_of_lt h1, Nat.mod_eq_of_lt (Nat.lt_of_lt_of_le h1 (Nat.pow_le_pow_right (by omega) hn))]
/-- The bytes of the reference: one more in front. -/
theorem beL_cons (N k : Nat) : beL N (k + 1) = byt N k :: beL N k := by
  unfold beL
  rw [List.range_succ_eq_map, List.map_cons, List.map_map]
  congr 1
  apply List.map_congr_left
  intro t ht
  simp
  congr 1
  omega
/-- With noughts ahead. -/
theorem beL_more {N k : Nat} (h : N < 256 ^ k) (m : Nat) : beL N (m + k) = List.replicate m 0 ++ beL N k := by
  induction m with
  | zero => simp
  | succ m ih =>
    rw [show m + 1 + k = (m + k) + 1 by omega, beL_cons, ih, byt_high h (by omega), List.replicate_succ]
    rfl
theorem beL_lt (N k : Nat) : ∀ x ∈ beL N k, x < 256 := by
  intro x hx
  obtain ⟨t, _, rfl⟩ := List.mem_map.1 hx
  exact byt_lt _ _
end Go.Proofs
namespace Go.Proofs
open Go.RowKit
set_option maxHeartbeats 1600000
set_option linter.unusedVariables false
set_option linter.unusedSimpArgs false
set_option maxRecDepth 100000

theorem words_at (N k : Nat) : (words N).getD k 0 = N / W64 ^ k % W64 := by
  induction k generalizing N with
  | zero =>
    by_cases h : N = 0
    · subst h; rw [words_zero]; simp
    · rw [words_pos h]; simp
  | succ k ih =>
    by_cases h : N = 0
    · subst h; rw [words_zero]; simp
    · rw [words_pos h, List.getD_cons_succ, ih, Nat.div_div_eq_div_mul, ← Nat.pow_succ']
theorem div_256 (D j : Nat) : D / 256 ^ j / 256 = D / 256 ^ (j + 1) := by rw [Nat.div_div_eq_div_mul, ← Nat.pow_succ]

theorem bytes221 (a : Option Addr) (l c N b n nc : Nat) (w : World) (hx : Rd w a l c (words N)) (hb : Byt w b (bufL N n 0)) (hN : N < 256 ^ n) (hn : n ≤ 100000) (hl : l ≤ 10000) (hab : ¬ InB a b) :
    Calls Tryz.prog 221 #[.slice a l c, .slice (some ⟨b, 0, none⟩) n nc] w fun e w' => ∃ i : Nat, e = .returned (.int .i64 (i : Int)) ∧ i ≤ n ∧ IsLen N (n - i) ∧ Byt w' b (beL N n) ∧ Keeps (fun k => k = b) w w' := by
  have HX := hid hx; have HB := hid hb; have HN := hid hN; have Hn := hid hn; have Hl := hid hl; have HAB := hid hab
  have HL := hid hx.length
  clear hx hb hN hab
  go_enter Tryz.func221, Tryz.ntmps221
  go_wp2_with fail
  go_loopw [12, 4] (fun kv iv wr => ∃ k : Nat, kv = .int .i64 (k : Int) ∧ iv = .int .i64 ((n : Int) - ((8 * k : Nat) : Int)) ∧ k ≤ l ∧ Byt wr b (bufL N n (8 * k)) ∧ Keeps (fun k => k = b) w wr) (fun kv _ _ => l - (intOf kv).toNat)
  case atStart => exact ⟨0, rfl, by simp, Nat.zero_le _, HB.out, Keeps.refl _ _⟩
  case round =>
    obtain ⟨k, rfl, rfl, hk, hbt, hkr⟩ := hrel
    have HBT := hid hbt; have HKR := hid hkr
    clear hbt hkr
    by_cases hkl : k < l
    · have hl0 : 0 < l := by omega
      obtain ⟨xb, xo, rfl, hc⟩ := (HX.out.keep HKR.out (fun k hk h => by subst h; exact HAB.out hk)).cell hl0
      have c0 := hc k hkl
      rw [words_at] at c0
      obtain ⟨D, hD⟩ : ∃ D, D = N / W64 ^ k % W64 := ⟨_, rfl⟩
      rw [← hD] at c0
      have HD := hid hD
      have hDl : D < W64 := by rw [hD]; exact Nat.mod_lt _ W64_pos
      have HDL := hid hDl
      have t1 : decide (k < l) = true := by simp; omega
      have gk : wrap64 ((k : Int) + 1) = ((k + 1 : Nat) : Int) := by unfold wrap64; omega
      clear hc hD hDl
      go_wp2_with fail
      go_loopw [7, 4, 6] (fun jv iv dv wr => ∃ j : Nat, jv = .int .i64 (j : Int) ∧ iv = .int .i64 ((n : Int) - ((8 * k + j : Nat) : Int)) ∧ dv = .int .u64 ((D / 256 ^ j : Nat) : Int) ∧ j ≤ 8 ∧ Byt wr b (bufL N n (8 * k + j)) ∧ Keeps (fun k => k = b) w wr) (fun jv _ _ _ => 8 - (intOf jv).toNat)
      case atStart => exact ⟨0, rfl, rfl, by simp, by omega, HBT.out, HKR.out⟩
      case round =>
        obtain ⟨j, rfl, rfl, rfl, hj, hbt, hkr⟩ := hrel
        have HBJ := hid hbt; have HKJ := hid hkr
        clear hbt hkr c0
        by_cases hj8 : j < 8
        · have hbw := byt_word N k j hj8
          rw [← HD.out] at hbw
          obtain ⟨m, hm⟩ : ∃ m, m = 8 * k + j := ⟨_, rfl⟩
          obtain ⟨E, hE⟩ : ∃ E, E = D / 256 ^ j := ⟨_, rfl⟩
          rw [← hm, ← hE] at hbw
          have hEl : E < 18446744073709551616 := by rw [hE]; exact Nat.lt_of_le_of_lt (Nat.div_le_self _ _) HDL.out
          have hnx := div_256 D j
          rw [← hE] at hnx
          have g1 : wrap64 ((n : Int) - (m : Int) - 1) = (n : Int) - (m : Int) - 1 := by unfold wrap64; omega
          have g2 : IntKind.u8.wrap (E : Int) = ((byt N m : Nat) : Int) := by rw [IntKind.wrap_u8]; omega
          have g3 : wrap64 ((j : Int) + 1) = ((j + 1 : Nat) : Int) := by unfold wrap64; omega
          have HM := hid hm; have HE := hid hE; have HNX := hid hnx; have HBW := hid hbw
          rw [← hm, ← hE]
          clear hbw hm hE hnx
          by_cases hmn : m < n
          · have t2 : decide ((0 : Int) ≤ (n : Int) - (m : Int) - 1) = true := by simp; omega
            have hqn : n - m - 1 < n := by omega
            have hq0 : n - m - 1 = n - 1 - m := by omega
            have hqe : (n : Int) - (m : Int) - 1 = ((n - m - 1 : Nat) : Int) := by omega
            have hbj := HBJ.out
            rw [← HM.out] at hbj
            have hc0 := hbj.cell (o := n - m - 1) (by rw [bufL_length]; exact hqn)
            have hf0 := RowAt.frozen hbj (n - m - 1)
            have HBJ2 := hid hbj; have HQ := hid hq0
            have Hqe := hid hqe
            clear hbj hq0 hqe t2 g1
            go_wp2_with fail
            have hset := Byt.set HBJ2.out (n - m - 1) (byt N m)
            rw [show (bufL N n m).set (n - m - 1) (byt N m) = bufL N n (m + 1) by rw [HQ.out, bufL_next N n m (by omega)]] at hset
            refine ⟨⟨j + 1, rfl, ?_, ?_, by omega, ?_, HKJ.out.setCell _ (.inl rfl) _⟩, by simp [intOf] <;> omega⟩
            · have := HM.out; have := HQ.out; congr 1; omega
            · rw [← HNX.out] <;> rfl
            · rw [show 8 * k + (j + 1) = m + 1 by rw [HM.out]; omega]; exact hset
          · obtain ⟨r, hr⟩ : ∃ r : Int, r = (n : Int) - (m : Int) - 1 := ⟨_, rfl⟩
            have t2 : decide ((0 : Int) ≤ r) = false := by simp; omega
            have g4 : wrap64 ((n : Int) - (m : Int) - 1) = r := by rw [g1, hr]
            have HRr := hid hr
            clear hr g1
            have hz : byt N m = 0 := byt_high HN.out (by omega)
            have t3 : (((byt N m : Nat) : Int) != 0) = false := by rw [hz]; rfl
            have hmn' := hid hmn
            clear hz hmn
            go_wp2_with fail
            refine ⟨⟨j + 1, rfl, ?_, ?_, by omega, ?_, HKJ.out⟩, by simp [intOf] <;> omega⟩
            · have := HM.out; have := HRr.out; congr 1; omega
            · rw [← HNX.out] <;> rfl
            · have hb := HBJ.out
              rw [← HM.out, bufL_skip N n m (by have := hmn'.out; omega)] at hb
              rw [show 8 * k + (j + 1) = m + 1 by rw [HM.out]; omega]; exact hb
        · have h8 : j = 8 := by omega
          subst h8
          have he := HBJ.out
          rw [show 8 * k + 8 = 8 * (k + 1) by omega] at he
          have HB8 := hid he
          clear he
          go_wp2_with fail
          refine ⟨⟨k + 1, rfl, ?_, by omega, HB8.out, HKJ.out⟩, by simp [intOf] <;> omega⟩
          congr 1
    · have hkl' : k = l := by omega
      subst hkl'
      have hNk : N < 256 ^ (8 * k) := by
        have h1 := lt_words N
        rw [HL.out, show W64 = 256 ^ 8 from rfl, ← Nat.pow_mul] at h1
        exact h1
      have HF : Hid (Byt wr b (beL N n)) := hid (by have h := HBT.out; rw [bufL_full N n (8 * k) hNk] at h; exact h)
      have HNK := hid hNk
      clear hNk
      by_cases hneg : n < 8 * k
      · go_wp2_with fail
        go_loopw [4] (fun iv w2 => ∃ i : Nat, iv = .int .i64 (i : Int) ∧ i ≤ n ∧ (∀ t, t < i → byt N (n - 1 - t) = 0) ∧ w2 = wr) (fun iv _ => n - (intOf iv).toNat)
        case atStart => exact ⟨0, rfl, by omega, fun t ht => by omega, rfl⟩
        case round =>
          obtain ⟨i, rfl, hin, hz, rfl⟩ := hrel
          have HZ := hid hz
          clear hz
          by_cases hi : i < n
          · have hc := HF.out.cell (o := i) (by rw [beL_length]; exact hi)
            rw [beL_get N n i hi] at hc
            obtain ⟨B, hB⟩ : ∃ B, B = byt N (n - 1 - i) := ⟨_, rfl⟩
            rw [← hB] at hc
            have HBB := hid hB
            clear hB
            by_cases hB0 : B = 0
            · subst hB0
              have g3 : wrap64 ((i : Int) + 1) = ((i + 1 : Nat) : Int) := by unfold wrap64; omega
              go_wp2_with fail
              refine ⟨⟨i + 1, rfl, hi, fun t ht => ?_, by first | rfl | trivial⟩, by simp [intOf] <;> omega⟩
              rcases Nat.lt_or_ge t i with h | h
              · exact HZ.out t h
              · have : t = i := by omega
                subst this
                exact HBB.out.symm
            · have t5 : ((B : Int) == 0) = false := by simp; omega
              have HB0 := hid hB0
              clear hB0
              go_wp2_with fail
              go_ret
              exact ⟨i, rfl, hin, len_of HN.out hin HZ.out (fun _ => by rw [← HBB.out]; exact HB0.out), HF.out, HKR.out⟩
          · have hie : i = n := by omega
            subst hie
            go_wp2_with fail
            go_ret
            exact ⟨_, rfl, hin, len_of HN.out hin HZ.out (fun h => absurd h (Nat.lt_irrefl _)), HF.out, HKR.out⟩
      · go_wp2_with fail
        go_loopw [4] (fun iv w2 => ∃ i : Nat, iv = .int .i64 (i : Int) ∧ i ≤ n ∧ (∀ t, t < i → byt N (n - 1 - t) = 0) ∧ w2 = wr) (fun iv _ => n - (intOf iv).toNat)
        case atStart => exact ⟨n - 8 * k, by congr 1; omega, by omega, fun t ht => byt_high HNK.out (by omega), rfl⟩
        case round =>
          obtain ⟨i, rfl, hin, hz, rfl⟩ := hrel
          have HZ := hid hz
          clear hz
          by_cases hi : i < n
          · have hc := HF.out.cell (o := i) (by rw [beL_length]; exact hi)
            rw [beL_get N n i hi] at hc
            obtain ⟨B, hB⟩ : ∃ B, B = byt N (n - 1 - i) := ⟨_, rfl⟩
            rw [← hB] at hc
            have HBB := hid hB
            clear hB
            by_cases hB0 : B = 0
            · subst hB0
              have g3 : wrap64 ((i : Int) + 1) = ((i + 1 : Nat) : Int) := by unfold wrap64; omega
              go_wp2_with fail
              refine ⟨⟨i + 1, rfl, hi, fun t ht => ?_, by first | rfl | trivial⟩, by simp [intOf] <;> omega⟩
              rcases Nat.lt_or_ge t i with h | h
              · exact HZ.out t h
              · have : t = i := by omega
                subst this
                exact HBB.out.symm
            · have t5 : ((B : Int) == 0) = false := by simp; omega
              have HB0 := hid hB0
              clear hB0
              go_wp2_with fail
              go_ret
              exact ⟨i, rfl, hin, len_of HN.out hin HZ.out (fun _ => by rw [← HBB.out]; exact HB0.out), HF.out, HKR.out⟩
          · have hie : i = n := by omega
            subst hie
            go_wp2_with fail
            go_ret
            exact ⟨_, rfl, hin, len_of HN.out hin HZ.out (fun h => absurd h (Nat.lt_irrefl _)), HF.out, HKR.out⟩
end Go.Proofs
namespace Go.Proofs
open Go.RowKit
set_option maxHeartbeats 1000000
set_option linter.unusedVariables false
set_option linter.unusedSimpArgs false
set_option maxRecDepth 100000

theorem intBytes177 (p t : Nat) (x : Int) (a : Option Addr) (l c : Nat) (w : World) (h : IntS w p t x a l c) (hl : l ≤ 1000) :
    Calls Tryz.prog 177 #[.pointer (some ⟨p, 0, none⟩)] w fun e w' => ∃ b i k : Nat, ∃ P, e = .returned (.slice P k k) ∧ (0 < k → P = some ⟨b, i, none⟩) ∧ i + k = 8 * l ∧ IsLen x.natAbs k ∧ Byt w' b (beL x.natAbs (8 * l)) ∧ w.heap.size ≤ b ∧ Keeps (fun _ => False) w w' := by
  obtain ⟨i5, hi5, hz0, hz1, hz2⟩ := info_parts info5
  obtain ⟨x1, x2, _, _⟩ := h.row.facts
  obtain ⟨W, hW⟩ : ∃ W, W = w.alloc (.cells (Array.replicate (8 * l) (.int .u8 0)) 5) := ⟨_, rfl⟩
  have hk : Keeps (fun _ => False) w W := by rw [hW]; exact (Keeps.refl _ w).alloc _
  have hb : Byt W w.heap.size (bufL x.natAbs (8 * l) 0) := by
    have h := RowAt.new w 5 (List.replicate (8 * l) (.int .u8 0))
    unfold Byt
    rw [bufL_zero, List.map_replicate, hW]
    simpa [bv] using h
  have hN : x.natAbs < 256 ^ (8 * l) := by
    have h1 := lt_words x.natAbs
    rw [h.rd.length, show W64 = 256 ^ 8 from rfl, ← Nat.pow_mul] at h1
    exact h1
  have HC := hid (bytes221 a l c x.natAbs w.heap.size (8 * l) (8 * l) W (h.rd.keep hk (fun _ _ h => h)) hb hN (by omega) (by omega) (fun hh => by have := h.rd.lt hh; omega))
  have hr := hk.row h.row (fun h => h)
  obtain ⟨y1, y2, _, _⟩ := IntRow.facts (show IntRow W p t (decide (x < 0)) a l c from hr)
  have HK := hid hk; have HWW := hid hW
  rw [hW] at y2
  have g1 : wrap64 ((l : Int) * 8) = ((8 * l : Nat) : Int) := by unfold wrap64; omega
  have g2 : IntKind.i64.wrap ((l : Int) * 8) = ((8 * l : Nat) : Int) := by rw [IntKind.wrap_i64]; omega
  clear h hb hN hk hr
  go_enter Tryz.func177, Tryz.ntmps177
  go_wp2_with (at_make; refine wpList_mk rfl _ _ _ rfl 5 i5 (.int .u8 0) (by kernel_rfl) hi5 hz0 hz1 (by rw [hz2]; omega) rfl .i64 .i64 _ _ (8 * l) (8 * l) rfl rfl (by push_cast; omega) (by push_cast; omega) (Nat.le_refl _) (by omega) ?_)
  rw [← HWW.out]
  refine HC.out.mono ?_
  rintro e w1 ⟨i, rfl, hi, hlen, hbt, hkb⟩
  have HLEN := hid hlen; have HBT := hid hbt
  have HKF : Hid (Keeps (fun _ => False) w w1) := hid (HK.out.trans' hkb (fun j hj h => by omega))
  obtain ⟨P, hsl, hP⟩ := slice22_from w.heap.size 0 (8 * l) (8 * l) i hi (Nat.le_refl _)
  have HPP := hid hP
  have HI := hid hi
  clear hP
  clear hlen hbt hkb HC y1 y2
  go_wp2_with fail
  go_ret
  exact ⟨w.heap.size, i, 8 * l - i, P, rfl, fun h => by rw [HPP.out (by omega), Nat.zero_add], by have := HI.out; omega, HLEN.out, HBT.out, Nat.le_refl _, HKF.out⟩
theorem w123 (p : Addr) (w : World) (Q : Value → World → Prop) (h : Calls Tryz.prog 177 #[.pointer (some p)] w fun e w' => ∃ v, e = .returned v ∧ Q v w') :
    Calls Tryz.prog 123 #[.pointer (some p)] w fun e w' => ∃ v, e = .returned v ∧ Q v w' := by
  have H := hid h
  clear h
  obtain ⟨b0, o0, s0⟩ := p
  go_enter Tryz.func123, Tryz.ntmps123
  go_wp2_with fail
  refine H.out.mono ?_
  rintro e w1 ⟨v, rfl, hQ⟩
  have HQ := hid hQ
  clear hQ
  go_wp2_with fail
  go_ret
  exact ⟨_, rfl, HQ.out⟩
end Go.Proofs
