/- Parts of the proofs over the numbers of any length: Tell1, Tell2, Tell3, Tell4. -/
import Derived.Shelf.Spec.TrailingZeros
import Derived.Test.YtacbllkmcldniaaGreatDoorBaseB
import Derived.Test.YtacbllkmcldniaaGreatDoorBaseC
import Derived.Test.YtacbllkmcldniaaGreatDoorIntA
import Derived.Test.YtacbllkmcldniaaGreatDoorSpecC
import Derived.Test.YtacbllkmcldniaaGreatDoorTellA
import Derived.Test.YtacbllkmcldniaaGreatDoorOneA
import Derived.Test.YtacbllkmcldniaaGreatDoorOneB
import Derived.Test.YtacbllkmcldniaaGreatDoorDigit
import Derived.Test.YtacbllkmcldniaaGreatDoorShiftB
set_option linter.unusedSimpArgs false
set_option linter.unusedVariables false
namespace Go.Proofs
open Go.RowKit
set_option maxHeartbeats 1000000
set_option linter.unusedVariables false
set_option linter.unusedSimpArgs false
set_option maxRecDepth 100000

theorem w136 (p : Addr) (w : World) (Q : Value → World → Prop) (h : Calls Tryz.prog 187 #[.pointer (some p)] w fun e w' => ∃ v, e = .returned v ∧ Q v w') :
    Calls Tryz.prog 136 #[.pointer (some p)] w fun e w' => ∃ v, e = .returned v ∧ Q v w' := by
  have H := hid h
  clear h
  obtain ⟨b0, o0, s0⟩ := p
  go_enter Tryz.func136, Tryz.ntmps136
  go_wp2_with fail
  refine H.out.mono ?_
  rintro e w1 ⟨v, rfl, hQ⟩
  have HQ := hid hQ
  clear hQ
  go_wp2_with fail
  go_ret
  exact ⟨_, rfl, HQ.out⟩
theorem w137 (p : Addr) (w : World) (Q : Value → World → Prop) (h : Calls Tryz.prog 188 #[.pointer (some p)] w fun e w' => ∃ v, e = .returned v ∧ Q v w') :
    Calls Tryz.prog 137 #[.pointer (some p)] w fun e w' => ∃ v, e = .returned v ∧ Q v w' := by
  have H := hid h
  clear h
  obtain ⟨b0, o0, s0⟩ := p
  go_enter Tryz.func137, Tryz.ntmps137
  go_wp2_with fail
  refine H.out.mono ?_
  rintro e w1 ⟨v, rfl, hQ⟩
  have HQ := hid hQ
  clear hQ
  go_wp2_with fail
  go_ret
  exact ⟨_, rfl, HQ.out⟩
theorem w138 (p : Addr) (w : World) (Q : Value → World → Prop) (h : Calls Tryz.prog 189 #[.pointer (some p)] w fun e w' => ∃ v, e = .returned v ∧ Q v w') :
    Calls Tryz.prog 138 #[.pointer (some p)] w fun e w' => ∃ v, e = .returned v ∧ Q v w' := by
  have H := hid h
  clear h
  obtain ⟨b0, o0, s0⟩ := p
  go_enter Tryz.func138, Tryz.ntmps138
  go_wp2_with fail
  refine H.out.mono ?_
  rintro e w1 ⟨v, rfl, hQ⟩
  have HQ := hid hQ
  clear hQ
  go_wp2_with fail
  go_ret
  exact ⟨_, rfl, HQ.out⟩
theorem w139 (p : Addr) (w : World) (Q : Value → World → Prop) (h : Calls Tryz.prog 190 #[.pointer (some p)] w fun e w' => ∃ v, e = .returned v ∧ Q v w') :
    Calls Tryz.prog 139 #[.pointer (some p)] w fun e w' => ∃ v, e = .returned v ∧ Q v w' := by
  have H := hid h
  clear h
  obtain ⟨b0, o0, s0⟩ := p
  go_enter Tryz.func139, Tryz.ntmps139
  go_wp2_with fail
  refine H.out.mono ?_
  rintro e w1 ⟨v, rfl, hQ⟩
  have HQ := hid hQ
  clear hQ
  go_wp2_with fail
  go_ret
  exact ⟨_, rfl, HQ.out⟩
theorem w140 (p : Addr) (w : World) (Q : Value → World → Prop) (h : Calls Tryz.prog 191 #[.pointer (some p)] w fun e w' => ∃ v, e = .returned v ∧ Q v w') :
    Calls Tryz.prog 140 #[.pointer (some p)] w fun e w' => ∃ v, e = .returned v ∧ Q v w' := by
  have H := hid h
  clear h
  obtain ⟨b0, o0, s0⟩ := p
  go_enter Tryz.func140, Tryz.ntmps140
  go_wp2_with fail
  refine H.out.mono ?_
  rintro e w1 ⟨v, rfl, hQ⟩
  have HQ := hid hQ
  clear hQ
  go_wp2_with fail
  go_ret
  exact ⟨_, rfl, HQ.out⟩
theorem w141 (p : Addr) (w : World) (Q : Value → World → Prop) (h : Calls Tryz.prog 192 #[.pointer (some p)] w fun e w' => ∃ v, e = .returned v ∧ Q v w') :
    Calls Tryz.prog 141 #[.pointer (some p)] w fun e w' => ∃ v, e = .returned v ∧ Q v w' := by
  have H := hid h
  clear h
  obtain ⟨b0, o0, s0⟩ := p
  go_enter Tryz.func141, Tryz.ntmps141
  go_wp2_with fail
  refine H.out.mono ?_
  rintro e w1 ⟨v, rfl, hQ⟩
  have HQ := hid hQ
  clear hQ
  go_wp2_with fail
  go_ret
  exact ⟨_, rfl, HQ.out⟩
theorem w142 (p : Addr) (w : World) (Q : Value → World → Prop) (h : Calls Tryz.prog 193 #[.pointer (some p)] w fun e w' => ∃ v, e = .returned v ∧ Q v w') :
    Calls Tryz.prog 142 #[.pointer (some p)] w fun e w' => ∃ v, e = .returned v ∧ Q v w' := by
  have H := hid h
  clear h
  obtain ⟨b0, o0, s0⟩ := p
  go_enter Tryz.func142, Tryz.ntmps142
  go_wp2_with fail
  refine H.out.mono ?_
  rintro e w1 ⟨v, rfl, hQ⟩
  have HQ := hid hQ
  clear hQ
  go_wp2_with fail
  go_ret
  exact ⟨_, rfl, HQ.out⟩
theorem low227 (a : Option Addr) (l c N : Nat) (w : World) (h : Rd w a l c (words N)) :
    Calls Tryz.prog 227 #[.slice a l c] w fun e w' => e = .returned (.int .u64 ((N % W64 : Nat) : Int)) ∧ w' = w := by
  by_cases h0 : l = 0
  · have hN : N = 0 := (words_len_zero N).1 (by rw [h.length]; exact h0)
    subst h0; subst hN
    clear h
    go_enter Tryz.func227, Tryz.ntmps227
    go_wp2_with fail
    go_ret
    exact ⟨rfl, rfl⟩
  · obtain ⟨b, o, rfl, hc⟩ := h.cell (by omega)
    have c0 := hc 0 (by omega)
    have hN : N ≠ 0 := fun hh => h0 (by rw [← h.length]; exact (words_len_zero N).2 hh)
    rw [words_pos hN] at c0
    simp only [Nat.add_zero, List.getD_cons_zero] at c0
    have t1 : ((l : Int) == 0) = false := by simp; omega
    have hl : 0 < l := by omega
    clear h hc h0
    go_enter Tryz.func227, Tryz.ntmps227
    go_wp2_with fail
    go_ret
    exact ⟨rfl, rfl⟩
theorem sign187 (p t : Nat) (x : Int) (w : World) (h : IntAt w p t x) : Calls Tryz.prog 187 #[.pointer (some ⟨p, 0, none⟩)] w fun e w' => ∃ v, e = .returned v ∧ (v = .int .i64 (sgn x) ∧ w' = w) := by
  obtain ⟨a, l, c, hr, hd⟩ := h
  obtain ⟨x1, x2, _, _⟩ := hr.facts
  have hl := hd.length
  have hz := words_len_zero x.natAbs
  rw [hl] at hz
  by_cases h0 : l = 0
  · have hx : x = 0 := by have := hz.1 h0; omega
    subst hx; subst h0
    clear hz hl hd hr
    go_enter Tryz.func187, Tryz.ntmps187
    go_wp2_with fail
    go_ret
    exact ⟨_, rfl, rfl, rfl⟩
  · have hx : x ≠ 0 := by rintro rfl; exact h0 (hz.2 rfl)
    have t1 : ((l : Int) == 0) = false := by simp; omega
    by_cases hn : x < 0
    · rw [decide_eq_true hn] at x1
      have hs : sgn x = -1 := by unfold sgn; rw [if_pos hn, if_neg hx]
      have HS := hid hs
      clear hz hl hd hr hs hx hn h0
      go_enter Tryz.func187, Tryz.ntmps187
      go_wp2_with fail
      go_ret
      exact ⟨_, rfl, by rw [HS.out] <;> rfl, rfl⟩
    · rw [decide_eq_false hn] at x1
      have hs : sgn x = 1 := by unfold sgn; rw [if_neg hn, if_neg hx]
      have HS := hid hs
      clear hz hl hd hr hs hx hn h0
      go_enter Tryz.func187, Tryz.ntmps187
      go_wp2_with fail
      go_ret
      exact ⟨_, rfl, by rw [HS.out] <;> rfl, rfl⟩
theorem bitLen188 (p t : Nat) (x : Int) (w : World) (h : IntAt w p t x) : Calls Tryz.prog 188 #[.pointer (some ⟨p, 0, none⟩)] w fun e w' => ∃ v, e = .returned v ∧ ((∃ b : Nat, v = .int .i64 (b : Int) ∧ IsBits x.natAbs b) ∧ w' = w) := by
  obtain ⟨a, l, c, hr, hd⟩ := h
  obtain ⟨x1, x2, _, _⟩ := hr.facts
  have HC := hid (bitLen225_any a l c x.natAbs w hd)
  clear hd hr
  go_enter Tryz.func188, Tryz.ntmps188
  go_wp2_with fail
  refine HC.out.mono ?_
  rintro e w1 ⟨b, rfl, hb, _, rfl⟩
  have HB := hid hb
  clear hb
  go_wp2_with fail
  go_ret
  exact ⟨_, rfl, ⟨b, rfl, HB.out⟩, rfl⟩
/-- The number is an int64. -/
def isI64 (x : Int) : Bool := decide (-9223372036854775808 ≤ x) && decide (x ≤ 9223372036854775807)
def isU64 (x : Int) : Bool := decide (0 ≤ x) && decide (x ≤ 18446744073709551615)
theorem isInt190 (p t : Nat) (x : Int) (w : World) (h : IntAt w p t x) : Calls Tryz.prog 190 #[.pointer (some ⟨p, 0, none⟩)] w fun e w' => ∃ v, e = .returned v ∧ (v = .bool (isI64 x) ∧ w' = w) := by
  obtain ⟨a, l, c, hr, hd⟩ := h
  obtain ⟨x1, x2, _, _⟩ := hr.facts
  have hl := hd.length
  have HC := hid (low227 a l c x.natAbs w hd)
  obtain ⟨s, hs⟩ : ∃ s, s = decide (x < 0) := ⟨_, rfl⟩
  rw [← hs] at x1
  by_cases h1 : l ≤ 1
  · have hN : x.natAbs < 18446744073709551616 := by
      have := lt_words x.natAbs
      rw [hl] at this
      have h2 : W64 ^ l ≤ W64 ^ 1 := Nat.pow_le_pow_right (by unfold W64; decide) h1
      rw [Nat.pow_one] at h2
      have h3 : W64 = 18446744073709551616 := rfl
      omega
    have t1 : decide ((l : Int) ≤ 1) = true := by simp; omega
    have t1' : decide (l ≤ 1) = true := by simp; omega
    obtain ⟨N, hNe⟩ : ∃ N, N = x.natAbs := ⟨_, rfl⟩
    rw [← hNe] at HC hN
    rw [Nat.mod_eq_of_lt (show N < W64 from hN)] at HC
    rcases Nat.lt_trichotomy N 9223372036854775808 with hlt | heq | hgt
    · have g1 : IntKind.i64.wrap (N : Int) = (N : Int) := by rw [IntKind.wrap_i64]; omega
      have t2 : decide ((0 : Int) ≤ (N : Int)) = true := by simp
      have hw : isI64 x = true := by unfold isI64; simp; omega
      have HW := hid hw
      clear hw hs hN hNe hlt h1 hl hd hr
      go_enter Tryz.func190, Tryz.ntmps190
      go_wp2_with fail
      refine HC.out.mono ?_
      rintro e w1 ⟨rfl, rfl⟩
      go_wp2_with fail
      go_ret
      exact ⟨_, rfl, by rw [HW.out] <;> rfl, rfl⟩
    · subst heq
      have g1 : IntKind.i64.wrap 9223372036854775808 = -9223372036854775808 := by decide +kernel
      have g2 : IntKind.i64.wrap (-(-9223372036854775808)) = -9223372036854775808 := by decide +kernel
      have hw : isI64 x = s := by unfold isI64; rw [hs]; by_cases hx : x < 0 <;> simp [hx] <;> omega
      have HW := hid hw
      clear hw hs hN hNe h1 hl hd hr
      cases s
      all_goals
        go_enter Tryz.func190, Tryz.ntmps190
        go_wp2_with fail
        refine HC.out.mono ?_
        rintro e w1 ⟨rfl, rfl⟩
        go_wp2_with fail
        go_ret
        exact ⟨_, rfl, by rw [HW.out] <;> rfl, rfl⟩
    · have g1 : IntKind.i64.wrap (N : Int) = (N : Int) - 18446744073709551616 := by rw [IntKind.wrap_i64]; omega
      obtain ⟨M, hM⟩ : ∃ M : Nat, (N : Int) - 18446744073709551616 = -(M : Int) := ⟨18446744073709551616 - N, by omega⟩
      rw [hM] at g1
      have hM1 : 0 < M := by omega
      have hM2 : M < 9223372036854775808 := by omega
      have t2 : decide ((0 : Int) ≤ -(M : Int)) = false := by simp; omega
      have g2 : IntKind.i64.wrap (M : Int) = (M : Int) := by rw [IntKind.wrap_i64]; omega
      have g3 : wrap64 (M : Int) = (M : Int) := by unfold wrap64; omega
      have t3 : ((-(M : Int)) == (M : Int)) = false := by simp; omega
      have hw : isI64 x = false := by unfold isI64; by_cases hx : x < 0 <;> simp <;> omega
      have HW := hid hw
      clear hw hs hN hNe hgt h1 hl hd hr hM
      cases s
      all_goals
        go_enter Tryz.func190, Tryz.ntmps190
        go_wp2_with fail
        refine HC.out.mono ?_
        rintro e w1 ⟨rfl, rfl⟩
        go_wp2_with fail
        go_ret
        exact ⟨_, rfl, by rw [HW.out] <;> rfl, rfl⟩
  · have t1 : decide ((l : Int) ≤ 1) = false := by simp; omega
    have t1' : decide (l ≤ 1) = false := by simp; omega
    have hw : isI64 x = false := by
      have h2 : 18446744073709551616 ≤ x.natAbs := by
        rcases Nat.lt_or_ge x.natAbs 18446744073709551616 with h | h
        · have := words_len_le_one h
          omega
        · exact h
      unfold isI64
      by_cases hx : x < 0 <;> simp <;> omega
    have HW := hid hw
    clear hw hs h1 hl hd hr
    go_enter Tryz.func190, Tryz.ntmps190
    go_wp2_with fail
    go_ret
    exact ⟨_, rfl, by rw [HW.out] <;> rfl, rfl⟩
theorem isUint191 (p t : Nat) (x : Int) (w : World) (h : IntAt w p t x) : Calls Tryz.prog 191 #[.pointer (some ⟨p, 0, none⟩)] w fun e w' => ∃ v, e = .returned v ∧ (v = .bool (isU64 x) ∧ w' = w) := by
  obtain ⟨a, l, c, hr, hd⟩ := h
  obtain ⟨x1, x2, _, _⟩ := hr.facts
  have hl := hd.length
  by_cases hx : x < 0
  · rw [decide_eq_true hx] at x1
    have hw : isU64 x = false := by unfold isU64; simp; omega
    have HW := hid hw
    clear hw hx hl hd hr
    go_enter Tryz.func191, Tryz.ntmps191
    go_wp2_with fail
    go_ret
    exact ⟨_, rfl, by rw [HW.out] <;> rfl, rfl⟩
  · rw [decide_eq_false hx] at x1
    by_cases h1 : l ≤ 1
    · have t1 : decide ((l : Int) ≤ 1) = true := by simp; omega
      have t1' : decide (l ≤ 1) = true := by simp; omega
      have hw : isU64 x = true := by
        have := lt_words x.natAbs
        rw [hl] at this
        have h2 : W64 ^ l ≤ W64 ^ 1 := Nat.pow_le_pow_right (by unfold W64; decide) h1
        rw [Nat.pow_one] at h2
        have h3 : W64 = 18446744073709551616 := rfl
        unfold isU64; simp; omega
      have HW := hid hw
      clear hw hx hl hd hr h1
      go_enter Tryz.func191, Tryz.ntmps191
      go_wp2_with fail
      go_ret
      exact ⟨_, rfl, by rw [HW.out] <;> rfl, rfl⟩
    · have t1 : decide ((l : Int) ≤ 1) = false := by simp; omega
      have t1' : decide (l ≤ 1) = false := by simp; omega
      have hw : isU64 x = false := by
        have h2 : 18446744073709551616 ≤ x.natAbs := by
          rcases Nat.lt_or_ge x.natAbs 18446744073709551616 with h | h
          · have := words_len_le_one h
            omega
          · exact h
        unfold isU64
        simp; omega
      have HW := hid hw
      clear hw hx hl hd hr h1
      go_enter Tryz.func191, Tryz.ntmps191
      go_wp2_with fail
      go_ret
      exact ⟨_, rfl, by rw [HW.out] <;> rfl, rfl⟩
theorem neg_wrap {N : Nat} {x : Int} (h1 : N = x.natAbs % 18446744073709551616) (h2 : x < 0) (h3 : -9223372036854775808 ≤ x) : (-(((N : Int) + 9223372036854775808) % 18446744073709551616 - 9223372036854775808) + 9223372036854775808) % 18446744073709551616 - 9223372036854775808 = x := by
  rcases (by omega : x = -9223372036854775808 ∨ -9223372036854775808 < x) with h | h
  · subst h; subst h1; decide
  · omega
theorem int192 (p t : Nat) (x : Int) (w : World) (h : IntAt w p t x) : Calls Tryz.prog 192 #[.pointer (some ⟨p, 0, none⟩)] w fun e w' => ∃ v, e = .returned v ∧ ((∃ q : Int, v = .int .i64 q ∧ (isI64 x = true → q = x)) ∧ w' = w) := by
  obtain ⟨a, l, c, hr, hd⟩ := h
  obtain ⟨x1, x2, _, _⟩ := hr.facts
  have HC := hid (low227 a l c x.natAbs w hd)
  obtain ⟨N, hNe⟩ : ∃ N, N = x.natAbs % W64 := ⟨_, rfl⟩
  rw [← hNe] at HC
  by_cases hx : x < 0
  · rw [decide_eq_true hx] at x1
    have HN := hid hNe; have HX := hid hx
    clear hd hr hNe hx
    go_enter Tryz.func192, Tryz.ntmps192
    go_wp2_with fail
    refine HC.out.mono ?_
    rintro e w1 ⟨rfl, rfl⟩
    go_wp2_with fail
    go_ret
    refine ⟨_, rfl, ⟨wrap64 (-(wrap64 (N : Int))), rfl, fun hi => ?_⟩, rfl⟩
    have h1 := HN.out; have h2 := HX.out
    have h3 : W64 = 18446744073709551616 := rfl
    rw [h3] at h1
    unfold isI64 at hi
    simp at hi
    unfold wrap64
    exact neg_wrap h1 h2 hi.1
  · rw [decide_eq_false hx] at x1
    have HN := hid hNe; have HX := hid hx
    clear hd hr hNe hx
    go_enter Tryz.func192, Tryz.ntmps192
    go_wp2_with fail
    refine HC.out.mono ?_
    rintro e w1 ⟨rfl, rfl⟩
    go_wp2_with fail
    go_ret
    refine ⟨_, rfl, ⟨wrap64 (N : Int), rfl, fun hi => ?_⟩, rfl⟩
    have h1 := HN.out; have h2 := HX.out
    have h3 : W64 = 18446744073709551616 := rfl
    rw [h3] at h1
    unfold isI64 at hi
    simp at hi
    unfold wrap64
    omega
theorem uint193 (p t : Nat) (x : Int) (w : World) (h : IntAt w p t x) : Calls Tryz.prog 193 #[.pointer (some ⟨p, 0, none⟩)] w fun e w' => ∃ v, e = .returned v ∧ ((∃ q : Int, v = .int .u64 q ∧ (isU64 x = true → q = x)) ∧ w' = w) := by
  obtain ⟨a, l, c, hr, hd⟩ := h
  obtain ⟨x1, x2, _, _⟩ := hr.facts
  have HC := hid (low227 a l c x.natAbs w hd)
  obtain ⟨N, hNe⟩ : ∃ N, N = x.natAbs % W64 := ⟨_, rfl⟩
  rw [← hNe] at HC
  have HN := hid hNe
  clear hd hr hNe
  go_enter Tryz.func193, Tryz.ntmps193
  go_wp2_with fail
  refine HC.out.mono ?_
  rintro e w1 ⟨rfl, rfl⟩
  go_wp2_with fail
  go_ret
  refine ⟨_, rfl, ⟨_, rfl, fun hi => ?_⟩, rfl⟩
  have h1 := HN.out
  have h3 : W64 = 18446744073709551616 := rfl
  rw [h3] at h1
  unfold isU64 at hi
  simp at hi
  omega
end Go.Proofs
namespace Go.Proofs
open Go.RowKit
set_option maxHeartbeats 1000000
set_option linter.unusedVariables false
set_option linter.unusedSimpArgs false
set_option maxRecDepth 100000

theorem tz284 (x : Nat) (w : World) (hx : x < 18446744073709551616) (h0 : x ≠ 0) (G : Glob w) :
    Calls Tryz.prog 284 #[.int .u64 (x : Int)] w fun e w' => e = .returned (.int .i64 ((Lib.ctz 64 x : Nat) : Int)) ∧ w' = w := by
  obtain ⟨hlow, hk⟩ := Lib.lowest_bit 64 x h0 hx
  obtain ⟨hi, htab⟩ := Lib.deBruijn64_at _ hk
  have key := tz64_key x _ hx h0 hlow
  obtain ⟨k, hkk⟩ : ∃ k, k = Lib.ctz 64 x := ⟨_, rfl⟩
  rw [← hkk] at hi htab key hk ⊢
  obtain ⟨idx, hidx⟩ : ∃ i, i = 2 ^ k * 285870213051353865 % 18446744073709551616 / 288230376151711744 := ⟨_, rfl⟩
  rw [← hidx] at hi htab key
  have hc : w.cell? ⟨8, idx, none⟩ = some (.int .u8 (k : Int)) := by
    rw [G.tz idx hi]
    have : ([0, 1, 56, 2, 57, 49, 28, 3, 61, 58, 42, 50, 38, 29, 17, 4, 62, 47, 59, 36, 45, 43, 51, 22, 53, 39, 33, 30, 24, 18, 12, 5, 63, 55, 48, 27, 60, 41, 37, 16, 46, 35, 44, 21, 52, 32, 23, 11, 54, 26, 40, 15, 34, 20, 31, 10, 25, 14, 19, 9, 13, 8, 7, 6] : List Int).getD idx 0 = ((Lib.deBruijn64tab.getD idx 0 : Nat) : Int) := by
      have : ∀ i, i < 64 → ([0, 1, 56, 2, 57, 49, 28, 3, 61, 58, 42, 50, 38, 29, 17, 4, 62, 47, 59, 36, 45, 43, 51, 22, 53, 39, 33, 30, 24, 18, 12, 5, 63, 55, 48, 27, 60, 41, 37, 16, 46, 35, 44, 21, 52, 32, 23, 11, 54, 26, 40, 15, 34, 20, 31, 10, 25, 14, 19, 9, 13, 8, 7, 6] : List Int).getD i 0 = ((Lib.deBruijn64tab.getD i 0 : Nat) : Int) := by decide +kernel
      exact this idx hi
    rw [this, htab]
  have t0 : ((x : Int) == 0) = false := by simp; omega
  have hi2 : idx < 64 := hi
  clear hlow htab hkk hidx G h0
  go_enter Tryz.func284, Tryz.ntmps284
  go_wp2_with (simp only [key])
  go_ret
  exact ⟨rfl, rfl⟩
theorem tz251 (x : Nat) (w : World) (hx : x < 18446744073709551616) (h0 : x ≠ 0) (G : Glob w) :
    Calls Tryz.prog 251 #[.int .u64 (x : Int)] w fun e w' => e = .returned (.int .i64 ((Lib.ctz 64 x : Nat) : Int)) ∧ w' = w := by
  have H := hid (tz284 x w hx h0 G)
  clear hx h0 G
  go_enter Tryz.func251, Tryz.ntmps251
  go_wp2_with fail
  refine H.out.mono ?_
  rintro e w1 ⟨rfl, rfl⟩
  go_wp2_with fail
  go_ret
  exact ⟨rfl, rfl⟩
/-- The noughts at the end of a number's bits. -/
def IsTz (N k : Nat) : Prop := (N = 0 ∧ k = 0) ∨ ∃ m, N = 2 ^ k * (2 * m + 1)
theorem tz_word {N i x k m r : Nat} (hN : N = W64 ^ i * (x + W64 * r)) (hx : x = 2 ^ k * (2 * m + 1)) (hk : k < 64) : IsTz N (i * 64 + k) := by
  right
  refine ⟨m + 2 ^ (63 - k) * r, ?_⟩
  have h1 : W64 = 2 ^ 64 := rfl
  have h2 : (2 : Nat) ^ 64 = 2 ^ k * (2 * 2 ^ (63 - k)) := by
    rw [Nat.mul_comm 2, ← Nat.pow_succ, ← Nat.pow_add]
    congr 1
    omega
  have h3 : W64 ^ i = 2 ^ (i * 64) := by rw [h1, ← Nat.pow_mul, Nat.mul_comm]
  rw [hN, h3, Nat.pow_add, hx, h1, h2, Nat.mul_assoc (2 ^ (i * 64)), Nat.mul_assoc (2 ^ k), ← Nat.mul_add]
  congr 2
  rw [Nat.mul_add, Nat.mul_assoc 2]
  omega
theorem tz226 (a : Option Addr) (l c N : Nat) (w : World) (h : Rd w a l c (words N)) (hl : l ≤ 1000) (G : Glob w) :
    Calls Tryz.prog 226 #[.slice a l c] w fun e w' => ∃ k : Nat, e = .returned (.int .u64 (k : Int)) ∧ IsTz N k ∧ w' = w := by
  by_cases h0 : l = 0
  · have hN : N = 0 := (words_len_zero N).1 (by rw [h.length]; exact h0)
    subst h0; subst hN
    clear h
    go_enter Tryz.func226, Tryz.ntmps226
    go_wp2_with fail
    go_ret
    exact ⟨0, rfl, .inl ⟨rfl, rfl⟩, rfl⟩
  · have hN : N ≠ 0 := fun hh => h0 (by rw [← h.length]; exact (words_len_zero N).2 hh)
    obtain ⟨b, o, rfl, hc⟩ := h.cell (by omega)
    have t1 : ((l : Int) == 0) = false := by simp; omega
    have HC := hid hc; have HLN := hid h.length; have HWS := hid (words_words N); have HV := hid (val_words N); have HN := hid hN; have HL := hid hl; have HG := hid G
    clear hc h hN h0 G
    go_enter Tryz.func226, Tryz.ntmps226
    go_wp2_with fail
    go_loopw [3] (fun iv wr => ∃ i : Nat, iv = .int .u64 (i : Int) ∧ N = W64 ^ i * val ((words N).drop i) ∧ i ≤ l ∧ wr = w) (fun iv _ => l - (intOf iv).toNat)
    case atStart => exact ⟨0, rfl, by rw [List.drop_zero, HV.out]; simp, Nat.zero_le _, rfl⟩
    case round =>
      obtain ⟨i, rfl, hi, hil, rfl⟩ := hrel
      have hlt : i < l := by
        rcases Nat.lt_or_ge i l with h | h
        · exact h
        · exfalso
          rw [List.drop_of_length_le (by rw [HLN.out]; exact h)] at hi
          simp at hi
          exact HN.out hi
      have hd := val_drop (S := words N) (m := i) (by rw [HLN.out]; exact hlt)
      have c0 := HC.out i hlt
      obtain ⟨x, hx⟩ : ∃ x, x = (words N).getD i 0 := ⟨_, rfl⟩
      have hxw : x < W64 := by
        rw [hx, List.getD_eq_getElem?_getD, List.getElem?_eq_getElem (by rw [HLN.out]; exact hlt)]
        exact HWS.out _ (List.getElem_mem _)
      rw [← hx] at c0 hd
      have HI := hid hi; have HD := hid hd; have HXW := hid hxw
      clear hi hd hx hxw
      by_cases hx0 : x = 0
      · subst hx0
        have gw : IntKind.u64.wrap ((i : Int) + 1) = ((i + 1 : Nat) : Int) := by rw [IntKind.wrap_u64]; omega
        go_wp2_with fail
        refine ⟨⟨i + 1, rfl, ?_, hlt, by first | rfl | trivial⟩, by simp [intOf]; omega⟩
        have h := HI.out
        rw [HD.out, Nat.zero_add, ← Nat.mul_assoc, ← Nat.pow_succ] at h
        exact h
      · have t2 : ((x : Int) == 0) = false := by simp; omega
        have HT := hid (tz251 x wr HXW.out hx0 HG.out)
        obtain ⟨m, hm, hk⟩ := Lib.ctzFrom_spec 64 x (by omega) HXW.out
        have he : Lib.ctz 64 x = Lib.ctzFrom 64 x := by simp [Lib.ctz, hx0]
        obtain ⟨k, hkk⟩ : ∃ k, k = Lib.ctz 64 x := ⟨_, rfl⟩
        rw [← he, ← hkk] at hm hk
        rw [← hkk] at HT
        have HM := hid hm
        have g1 : IntKind.u64.wrap ((i : Int) * 64) = ((i * 64 : Nat) : Int) := by rw [IntKind.wrap_u64]; omega
        have g2 : IntKind.u64.wrap (k : Int) = (k : Int) := by rw [IntKind.wrap_u64]; omega
        have g3 : IntKind.u64.wrap (((i * 64 : Nat) : Int) + (k : Int)) = ((i * 64 + k : Nat) : Int) := by rw [IntKind.wrap_u64]; omega
        have HK := hid hk
        clear hm hkk he hk hx0
        go_wp2_with fail
        refine HT.out.mono ?_
        rintro e w1 ⟨rfl, rfl⟩
        go_wp2_with fail
        go_ret
        have hk64 := HK.out
        have g4 : IntKind.u64.wrap ((i : Int) * 64 + (k : Int)) = ((i * 64 + k : Nat) : Int) := by rw [IntKind.wrap_u64]; omega
        exact ⟨i * 64 + k, by rw [← g4] <;> rfl, tz_word (by rw [HI.out, HD.out] <;> rfl) HM.out HK.out, rfl⟩
theorem tz189 (p t : Nat) (x : Int) (w : World) (h : IntAt w p t x) (hx : x.natAbs < 10 ^ 200) (G : Glob w) : Calls Tryz.prog 189 #[.pointer (some ⟨p, 0, none⟩)] w fun e w' => ∃ v, e = .returned v ∧ ((∃ k : Nat, v = .int .u64 (k : Int) ∧ IsTz x.natAbs k) ∧ w' = w) := by
  obtain ⟨a, l, c, hr, hd⟩ := h
  obtain ⟨x1, x2, _, _⟩ := hr.facts
  have hl : l ≤ 1000 := by rw [← hd.length]; exact Nat.le_trans (words_len11 hx (by omega)) (by omega)
  have HC := hid (tz226 a l c x.natAbs w hd hl G)
  clear hd hr hl G hx
  go_enter Tryz.func189, Tryz.ntmps189
  go_wp2_with fail
  refine HC.out.mono ?_
  rintro e w1 ⟨k, rfl, hb, rfl⟩
  have HB := hid hb
  clear hb
  go_wp2_with fail
  go_ret
  exact ⟨_, rfl, ⟨k, rfl, HB.out⟩, rfl⟩
end Go.Proofs
namespace Go.Proofs
open Go.RowKit
set_option maxHeartbeats 1000000
set_option linter.unusedVariables false
set_option linter.unusedSimpArgs false
set_option maxRecDepth 100000

theorem dig_count {N b k : Nat} (hb : IsBits N b) (hN : N ≠ 0) (hk : 2 ^ b ≤ 10 ^ (k + 1)) (hk2 : 10 ^ k ≤ 10 * 2 ^ (b - 1)) : (if 10 ^ k ≤ N then k + 1 else k) = (digs N).length := by
  obtain ⟨h1, h2, _⟩ := hb
  obtain ⟨hb1, hb2⟩ := h2 hN
  have hlt := lt_digs N
  have hpos := digs_len_pos hN
  by_cases h : 10 ^ k ≤ N
  · rw [if_pos h]
    have h3 := digs_len (Nat.lt_of_lt_of_le h1 hk)
    rcases Nat.lt_or_ge k (digs N).length with h4 | h4
    · omega
    · have := Nat.pow_le_pow_right (show 0 < 10 by omega) h4
      omega
  · rw [if_neg h]
    have h3 := digs_len (show N < 10 ^ k by omega)
    rcases Nat.lt_or_ge (digs N).length k with h4 | h4
    · exfalso
      obtain ⟨j, rfl⟩ : ∃ j, k = j + 1 := ⟨k - 1, by omega⟩
      rw [Nat.pow_succ] at hk2
      have h5 : 10 ^ (digs N).length ≤ 10 ^ j := Nat.pow_le_pow_right (by omega) (by omega)
      omega
    · omega
theorem decLow_all : (List.range 700).all (fun b => b == 0 || decide (10 ^ (decLen b).toNat ≤ 10 * 2 ^ (b - 1))) = true := by decide +kernel
theorem decLen_steps2 (b : Nat) (hb : b < 700) (hb0 : b ≠ 0) : ∃ (q : Nat) (k : Nat), k ≤ 1000 ∧ 2 ^ b ≤ 10 ^ (k + 1) ∧ 10 ^ k ≤ 10 * 2 ^ (b - 1) ∧
    (∀ w, (convert 3 156 (.int .i64 (b : Int))).run Tryz.prog w = .ok (.float .f64 (FloatKind.f64.nearest (b : Int))) w) ∧
    (∀ w, (binOp .quo 156 (.float .f64 (FloatKind.f64.nearest (b : Int))) (.float .f64 4614662735865160561)).run Tryz.prog w = .ok (.float .f64 q) w) ∧
    (∀ w, (convert 156 2 (.float .f64 q)).run Tryz.prog w = .ok (.int .i64 (k : Int)) w) := by
  have h := decOk_all
  rw [List.all_eq_true] at h
  have h := h b (List.mem_range.mpr (by omega))
  have hl := decLow_all
  rw [List.all_eq_true] at hl
  have hl := hl b (List.mem_range.mpr hb)
  simp only [Bool.or_eq_true, beq_iff_eq, decide_eq_true_eq] at hl
  have hl := hl.resolve_left hb0
  unfold decOk at h
  simp only [Bool.and_eq_true, decide_eq_true_eq] at h
  obtain ⟨⟨⟨⟨h1, h2⟩, h3⟩, h4⟩, h5⟩ := h
  obtain ⟨q, hq⟩ := Option.isSome_iff_exists.mp h1
  unfold decLen at h2 h3 h5 hl
  rw [hq] at h2 h3 h4 h5 hl
  simp only [Option.getD_some] at h2 h3 h4 h5 hl
  obtain ⟨k, hk⟩ := Option.isSome_iff_exists.mp h4
  rw [hk] at h2 h3 h5 hl
  simp only [Option.getD_some] at h2 h3 h5 hl
  refine ⟨q, k.toNat, by omega, h5, hl, fun w => by rfl, fun w => ?_, fun w => ?_⟩
  · show (Op.floatArith .quo .f64 _ _).run _ w = _
    simp [Op.floatArith, hq]
  · have hc : (k.toNat : Int) = k := by omega
    rw [hc]
    have hmin : IntKind.i64.min ≤ k := by show (-9223372036854775808 : Int) ≤ k; omega
    have hmax : k ≤ IntKind.i64.max := by show k ≤ (9223372036854775807 : Int); omega
    have h9 : floatToIntVal .f64 q .i64 = some k := by
      unfold floatToIntVal
      rw [hk]
      simp only []
      rw [if_pos ⟨hmin, hmax⟩]
    exact run_convert_float_int (P := Tryz.prog) (w := w) 156 2 .f64 .i64 q k (by rw [Tryz.underlying156]; rfl) Tryz.underlying2 h9
theorem bits_700 {N b : Nat} (h : IsBits N b) (hN : N < 10 ^ 200) : b < 700 := by
  rcases Nat.lt_or_ge b 700 with h1 | h1
  · exact h1
  · exfalso
    have h0 : N ≠ 0 := fun hh => by have := h.2.2 hh; omega
    have h2 := (h.2.1 h0).2
    obtain ⟨M, hM⟩ : ∃ M, M = 233 * 3 := ⟨_, rfl⟩
    have h3 : 2 ^ M ≤ 2 ^ (b - 1) := Nat.pow_le_pow_right (by omega) (by omega)
    have h4 : (10 : Nat) ^ 200 ≤ 2 ^ M := by
      have h5 : (10 : Nat) ^ 200 ≤ (2 ^ 233) ^ 3 := by decide +kernel
      rw [← Nat.pow_mul] at h5
      rw [hM]; exact h5
    omega

theorem ten401 (A B C : Nat) (hA : A = 175 * 4) (hC : C = 100 * 4) (hB : B = C + 1) : 10 * (2 : Nat) ^ A < 10 ^ B := by
  have h1 : (2 : Nat) ^ A = (2 ^ 175) ^ 4 := by rw [← Nat.pow_mul, hA]
  have h2 : (10 : Nat) ^ B = 10 ^ C * 10 := by rw [hB, Nat.pow_succ]
  have h3 : (10 : Nat) ^ C = (10 ^ 100) ^ 4 := by rw [← Nat.pow_mul, hC]
  rw [h1, h2, h3, Nat.mul_comm]
  exact Nat.mul_lt_mul_of_pos_right (by decide +kernel) (by omega)
theorem cmp_ge0 (x y : Nat) : decide (0 ≤ cmpZ (x : Int) (y : Int)) = decide (y ≤ x) := by
  unfold cmpZ
  by_cases h : x < y
  · rw [if_pos (by omega)]
    have : ¬ y ≤ x := by omega
    simp [this]
  · have h2 : y ≤ x := by omega
    rw [if_neg (by omega)]
    by_cases h3 : y < x
    · rw [if_pos (by omega)]; simp [h2]
    · rw [if_neg (by omega)]; simp [h2]
theorem digits143 {w0 w : World} {V : Nat → Option (TypeId × Int)} (h : Env (fun _ => False) w0 w V) (px : Nat) (x : Int) (hp : V px = some (105, x)) (hx : x.natAbs < 10 ^ 200) (G : Glob w) :
    Calls Tryz.prog 143 #[.pointer (some ⟨px, 0, none⟩)] w fun e w' => e = .returned (.int .i64 ((max (digs x.natAbs).length 1 : Nat) : Int)) ∧ Env (fun _ => False) w0 w' V := by
  have HB := hid (w137 ⟨px, 0, none⟩ w (fun v w' => (∃ b : Nat, v = .int .i64 (b : Int) ∧ IsBits x.natAbs b) ∧ w' = w) (bitLen188 px 105 x w (h.get hp)))
  have HE := hid (Env.start (fun _ => False) w (fun _ h => h.elim))
  have HI := hid (h.get hp); have HG := hid G; have HXB := hid hx
  have HX : Hid (x.natAbs < W64 ^ 200) := hid (Nat.lt_of_lt_of_le hx (by unfold W64; decide +kernel))
  have hplt := h.lt hp
  have HEN := hid h; have HPX := hid hp
  clear h hp hx G
  go_enter Tryz.func143, Tryz.ntmps143
  go_wp2_with fail
  refine HB.out.mono ?_
  rintro e w1 ⟨v, rfl, ⟨b, rfl, hb⟩, rfl⟩
  by_cases hb0 : b = 0
  · subst hb0
    have h0 : x.natAbs = 0 := by
      rcases Nat.eq_zero_or_pos x.natAbs with h | h
      · exact h
      · have := (hb.2.1 (by omega)).1; omega
    have H0 := hid h0
    clear hb h0 HB
    go_wp2_with fail
    go_ret
    refine ⟨?_, HEN.out⟩
    rw [H0.out, digs_zero]
    rfl
  · have t1 : ((b : Int) == 0) = false := by simp; omega
    obtain ⟨q, k, hk1, hk2, hk3, f1, f2, f3⟩ := decLen_steps2 b (bits_700 hb HXB.out) hb0
    have hN : x.natAbs ≠ 0 := fun hh => hb0 (hb.2.2 hh)
    have HD := hid (dig_count hb hN hk2 hk3)
    have hk400 : k ≤ 400 := by
      rcases Nat.lt_or_ge 400 k with h | h
      · exfalso
        have h1 : b < 700 := bits_700 hb HXB.out
        obtain ⟨K, hK⟩ : ∃ K, K = 100 * 4 + 1 := ⟨_, rfl⟩
        obtain ⟨B, hB⟩ : ∃ B, B = 175 * 4 := ⟨_, rfl⟩
        have h2 : (10 : Nat) ^ K ≤ 10 ^ k := Nat.pow_le_pow_right (by omega) (by omega)
        have h3 : (2 : Nat) ^ (b - 1) ≤ 2 ^ B := Nat.pow_le_pow_right (by omega) (by omega)
        have h4 : 10 * (2 : Nat) ^ B < 10 ^ K := ten401 B K (100 * 4) hB rfl hK
        omega
      · exact h
    obtain ⟨W1, hW1⟩ : ∃ W, W = w1.alloc (.cells #[.bool false, .slice none 0 0] 105) := ⟨_, rfl⟩
    obtain ⟨pT, hpT⟩ : ∃ p, p = w1.heap.size := ⟨_, rfl⟩
    have hkW : Keeps (fun _ => False) w1 W1 := by rw [hW1]; exact (Keeps.refl _ w1).alloc _
    have HT := hid (table194 pT k W1 (by rw [hW1, hpT]; exact intS_new w1 105) hk400 (HG.out.keep hkW (fun _ _ h => h)))
    have HKW := hid hkW; have HPT := hid hpT
    obtain ⟨bd, hbd⟩ : ∃ B : Bool, B = decide (10 ^ k ≤ x.natAbs) := ⟨_, rfl⟩
    have HBD := hid hbd
    have hk1000 := hk400
    have HN := hid hN
    clear hb hb0 hk1 hk2 hk3 hN HB hkW hk400 hbd
    go_wp2_with fail
    rw [← hW1, ← hpT]
    clear hW1 hpT
    refine HT.out.mono ?_
    rintro e w2 ⟨rfl, ⟨a, l, c, hI, hge⟩, hk⟩
    have hkk : Keeps (fun _ => False) w1 w2 := HKW.out.trans' hk (fun i hi h => by have := HPT.out; omega)
    have hE2 := HEN.out.add hkk (show w1.heap.size ≤ pT by rw [HPT.out]; exact Nat.le_refl _) hI (fun k hk => Nat.le_trans HKW.out.size (hge k hk))
    have hE3 := hE2.new 105
    have hsz : pT < w2.heap.size := hI.row.lt
    have HA := hid (w132 ⟨w2.heap.size, 0, none⟩ ⟨px, 0, none⟩ _ _ ((hE3.drew.abs184 (upd_eq _ _ _ _) (show _ = some (105, x) by
      rw [upd_ne _ _ _ (show px ≠ w2.heap.size by have := HPT.out; omega), upd_ne _ _ _ (show px ≠ pT by have := HPT.out; omega)]; exact HPX.out) HX.out).mono (fun e w' ⟨he, h⟩ => ⟨⟨_, he⟩, h⟩)))
    have HK2 := hid hkk; have HSZ := hid hsz
    clear hkk hE2 hE3 hsz hI hge hk HT
    go_wp2_with fail
    refine HA.out.mono ?_
    rintro e w3 ⟨rfl, hE4⟩
    have ha := hE4.get (upd_eq _ _ _ _)
    have ht : IntAt w3 pT 105 ((10 ^ k : Nat) : Int) := hE4.get (show _ = some (105, ((10 ^ k : Nat) : Int)) by
      rw [upd_ne _ _ _ (show pT ≠ w2.heap.size by have := HSZ.out; omega), upd_ne _ _ _ (show pT ≠ w2.heap.size by have := HSZ.out; omega), upd_eq])
    have HCM := hid (cmp88_any _ pT 105 105 _ _ w3 ha ht)
    obtain ⟨cz, hcz⟩ : ∃ c, c = cmpZ ((x.natAbs : Nat) : Int) ((10 ^ k : Nat) : Int) := ⟨_, rfl⟩
    rw [← hcz] at HCM
    have t2 : decide ((0 : Int) ≤ cz) = bd := by rw [hcz, HBD.out]; exact cmp_ge0 _ _
    have HK3 : Hid (Env (fun _ => False) w0 w3 V) := hid (hE4.mono (fun q t z hq => by
      have hl := HEN.out.lt hq
      have h1 := HPT.out
      have h2 := HK2.out.size
      rw [upd_ne _ _ _ (show q ≠ w2.heap.size by omega), upd_ne _ _ _ (show q ≠ w2.heap.size by omega), upd_ne _ _ _ (show q ≠ pT by omega)]
      exact hq))
    clear ha ht hE4 hcz HA
    go_wp2_with fail
    refine HCM.out.mono ?_
    rintro e w4 ⟨rfl, k4, rfl⟩
    have gw : IntKind.i64.wrap ((k : Int) + 1) = ((k + 1 : Nat) : Int) := by rw [IntKind.wrap_i64]; omega
    have gw2 : wrap64 ((k : Int) + 1) = ((k + 1 : Nat) : Int) := by unfold wrap64; omega
    have hpos := digs_len_pos HN.out
    have hlen : (if bd = true then k + 1 else k) = max (digs x.natAbs).length 1 := by
      have hD := HD.out
      rw [HBD.out]
      by_cases h : 10 ^ k ≤ x.natAbs
      · rw [if_pos h] at hD; simp [h]; omega
      · rw [if_neg h] at hD; simp [h]; omega
    have HLEN := hid hlen
    clear hpos hlen HCM
    cases bd with
    | true =>
      go_wp2_with fail
      go_ret
      exact ⟨by rw [← HLEN.out] <;> rfl, HK3.out.drewN k4⟩
    | false =>
      go_wp2_with fail
      go_ret
      exact ⟨by rw [← HLEN.out] <;> rfl, HK3.out.drewN k4⟩
end Go.Proofs
namespace Go.Proofs
open Go.RowKit
set_option maxHeartbeats 1600000
set_option linter.unusedVariables false
set_option linter.unusedSimpArgs false
set_option maxRecDepth 100000

/-- What a number tells, as the cells hold it. -/
def Told (x : Int) (v0 v1 v2 v3 v4 v5 v6 v7 : Value) : Prop :=
  ∃ (b k : Nat) (q1 q2 : Int), IsBits x.natAbs b ∧ IsTz x.natAbs k ∧ (isI64 x = true → q1 = x) ∧ (isU64 x = true → q2 = x) ∧ v0 = .int .i64 (sgn x) ∧ v1 = .int .i64 (b : Int) ∧ v2 = .int .u64 (k : Int) ∧ v3 = .bool (isI64 x) ∧ v4 = .bool (isU64 x) ∧ v5 = .int .i64 q1 ∧ v6 = .int .u64 q2 ∧ v7 = .int .i64 ((max (digs x.natAbs).length 1 : Nat) : Int)
theorem RowAt.set8 {w : World} {p : Nat} {t : TypeId} {u0 u1 u2 u3 u4 u5 u6 u7 : Value} (h : RowAt w p t [u0, u1, u2, u3, u4, u5, u6, u7]) (v0 v1 v2 v3 v4 v5 v6 v7 : Value) : RowAt ((((((((w.setCell ⟨p, 0, none⟩ v0).setCell ⟨p, 1, none⟩ v1).setCell ⟨p, 2, none⟩ v2).setCell ⟨p, 3, none⟩ v3).setCell ⟨p, 4, none⟩ v4).setCell ⟨p, 5, none⟩ v5).setCell ⟨p, 6, none⟩ v6).setCell ⟨p, 7, none⟩ v7) p t [v0, v1, v2, v3, v4, v5, v6, v7] := by
  have h0 := RowAt.set h 0 v0
  have h1 := RowAt.set h0 1 v1
  have h2 := RowAt.set h1 2 v2
  have h3 := RowAt.set h2 3 v3
  have h4 := RowAt.set h3 4 v4
  have h5 := RowAt.set h4 5 v5
  have h6 := RowAt.set h5 6 v6
  have h7 := RowAt.set h6 7 v7
  simpa using h7
theorem Keeps.set8 {S : Nat → Prop} {w0 w : World} (h : Keeps S w0 w) (p : Nat) (hp : S p ∨ w0.heap.size ≤ p) (v0 v1 v2 v3 v4 v5 v6 v7 : Value) : Keeps S w0 ((((((((w.setCell ⟨p, 0, none⟩ v0).setCell ⟨p, 1, none⟩ v1).setCell ⟨p, 2, none⟩ v2).setCell ⟨p, 3, none⟩ v3).setCell ⟨p, 4, none⟩ v4).setCell ⟨p, 5, none⟩ v5).setCell ⟨p, 6, none⟩ v6).setCell ⟨p, 7, none⟩ v7) := ((((((((h.setCell ⟨p, 0, none⟩ hp v0).setCell ⟨p, 1, none⟩ hp v1).setCell ⟨p, 2, none⟩ hp v2).setCell ⟨p, 3, none⟩ hp v3).setCell ⟨p, 4, none⟩ hp v4).setCell ⟨p, 5, none⟩ hp v5).setCell ⟨p, 6, none⟩ hp v6).setCell ⟨p, 7, none⟩ hp v7)
theorem tell135 (A O : Nat) (sa : ByteArray) (na : Bool) (da : Nat → Nat) (la : Nat) (x : Int) (w : World)
    (hA : w.cell? ⟨A, 0, none⟩ = some (.string sa)) (ta : NumText sa na la da) (r : RowAt w O 87 [.int .i64 0, .int .i64 0, .int .u64 0, .bool false, .bool false, .int .i64 0, .int .u64 0, .int .i64 0])
    (hx : x = numZ na (dval da la)) (hxb : x.natAbs < 10 ^ 200) (G : Glob w) :
    Calls Tryz.prog 135 #[.pointer (some ⟨A, 0, none⟩), .pointer (some ⟨O, 0, none⟩)] w fun e w' => e = .returned (.tuple #[]) ∧ (∃ v0 v1 v2 v3 v4 v5 v6 v7, Told x v0 v1 v2 v3 v4 v5 v6 v7 ∧ RowAt w' O 87 [v0, v1, v2, v3, v4, v5, v6, v7]) ∧ Keeps (fun k => k = O) w w' := by
  have HN := hid (number_env (Env.start (fun _ => False) w (fun _ h => h.elim)) sa na la da x w.heap.size (Nat.le_refl _) ta hx G)
  have HR := hid r; have HXB := hid hxb; have HG := hid G
  clear ta r hx hxb G
  go_enter Tryz.func135, Tryz.ntmps135
  go_wp2_with fail
  refine HN.out.mono ?_
  rintro e w1 ⟨p1, rfl, o1, o2, h⟩
  have HE := hid h
  have hi : IntAt w1 p1 105 x := h.get (upd_eq _ _ _ _)
  have HG1 := hid (HG.out.keep h.keeps (fun _ _ h => h))
  have C0 := hid (w136 ⟨p1, 0, none⟩ w1 _ (sign187 p1 105 x w1 hi))
  have C1 := hid (w137 ⟨p1, 0, none⟩ w1 _ (bitLen188 p1 105 x w1 hi))
  have C2 := hid (w138 ⟨p1, 0, none⟩ w1 _ (tz189 p1 105 x w1 hi HXB.out HG1.out))
  have C3 := hid (w139 ⟨p1, 0, none⟩ w1 _ (isInt190 p1 105 x w1 hi))
  have C4 := hid (w140 ⟨p1, 0, none⟩ w1 _ (isUint191 p1 105 x w1 hi))
  have C5 := hid (w141 ⟨p1, 0, none⟩ w1 _ (int192 p1 105 x w1 hi))
  have C6 := hid (w142 ⟨p1, 0, none⟩ w1 _ (uint193 p1 105 x w1 hi))
  have C7 := hid (digits143 h p1 x (upd_eq _ _ _ _) HXB.out HG1.out)
  clear h hi HN
  go_wp2_with fail
  refine C0.out.mono ?_
  rintro e w2 ⟨v0, rfl, rfl, rfl⟩
  go_wp2_with fail
  refine C1.out.mono ?_
  rintro e w2 ⟨v1, rfl, ⟨b, rfl, hb⟩, rfl⟩
  have HBI := hid hb
  clear hb
  go_wp2_with fail
  refine C2.out.mono ?_
  rintro e w2 ⟨v2, rfl, ⟨k, rfl, hb⟩, rfl⟩
  have HTZ := hid hb
  clear hb
  go_wp2_with fail
  refine C3.out.mono ?_
  rintro e w2 ⟨v3, rfl, rfl, rfl⟩
  go_wp2_with fail
  refine C4.out.mono ?_
  rintro e w2 ⟨v4, rfl, rfl, rfl⟩
  go_wp2_with fail
  refine C5.out.mono ?_
  rintro e w2 ⟨v5, rfl, ⟨q1, rfl, hb⟩, rfl⟩
  have HQ1 := hid hb
  clear hb
  go_wp2_with fail
  refine C6.out.mono ?_
  rintro e w2 ⟨v6, rfl, ⟨q2, rfl, hb⟩, rfl⟩
  have HQ2 := hid hb
  clear hb
  go_wp2_with fail
  refine C7.out.mono ?_
  rintro e w3 ⟨rfl, hE⟩
  obtain ⟨dn, hdn⟩ : ∃ d, d = max (digs x.natAbs).length 1 := ⟨_, rfl⟩
  rw [← hdn]
  obtain ⟨sg, hsg⟩ : ∃ d, d = sgn x := ⟨_, rfl⟩
  obtain ⟨i6, hi6⟩ : ∃ d, d = isI64 x := ⟨_, rfl⟩
  obtain ⟨u6, hu6⟩ : ∃ d, d = isU64 x := ⟨_, rfl⟩
  rw [← hsg, ← hi6, ← hu6]
  have hr : RowAt w3 O 87 [.int .i64 0, .int .i64 0, .int .u64 0, .bool false, .bool false, .int .i64 0, .int .u64 0, .int .i64 0] := hE.keeps.row HR.out (fun h => h)
  have f0 := hr.frozen 0
  have c0 := hr.cell 0
  have f1 := hr.frozen 1
  have c1 := hr.cell 1
  have f2 := hr.frozen 2
  have c2 := hr.cell 2
  have f3 := hr.frozen 3
  have c3 := hr.cell 3
  have f4 := hr.frozen 4
  have c4 := hr.cell 4
  have f5 := hr.frozen 5
  have c5 := hr.cell 5
  have f6 := hr.frozen 6
  have c6 := hr.cell 6
  have f7 := hr.frozen 7
  have c7 := hr.cell 7
  simp only [List.getElem?_cons_zero, List.getElem?_cons_succ] at c0 c1 c2 c3 c4 c5 c6 c7
  have HK := hid hE.keeps; have HR3 := hid hr
  have HDN := hid hdn; have HSG := hid hsg; have HI6 := hid hi6; have HU6 := hid hu6
  clear hE hr hdn hsg hi6 hu6 C0 C1 C2 C3 C4 C5 C6 C7
  go_wp2_with fail
  go_end0
  exact ⟨rfl, ⟨_, _, _, _, _, _, _, _, ⟨b, k, q1, q2, HBI.out, HTZ.out, HQ1.out, HQ2.out, by rw [HSG.out], rfl, rfl, by rw [HI6.out], by rw [HU6.out], rfl, rfl, by rw [HDN.out]⟩, HR3.out.set8 _ _ _ _ _ _ _ _⟩, Keeps.set8 (S := fun k => k = O) (HK.out.any) O (.inl rfl) _ _ _ _ _ _ _ _⟩
theorem call135 (cap : Array Value) (w : World) : (callFunc 135 cap).run Tryz.prog w = .ok (.enter 135 cap) w := by simp [go_sem, callFunc, Tryz.func135]; rfl

theorem bigTell59 (sa : ByteArray) (na : Bool) (da : Nat → Nat) (la : Nat) (x : Int) (w : World) (ta : NumText sa na la da) (hx : x = numZ na (dval da la)) (hxb : x.natAbs < 10 ^ 200) (G : Glob w) :
    Calls Tryz.prog 59 #[.string sa] w fun e w' => (∃ v0 v1 v2 v3 v4 v5 v6 v7, e = .returned (.agg #[v0, v1, v2, v3, v4, v5, v6, v7]) ∧ Told x v0 v1 v2 v3 v4 v5 v6 v7) ∧ Keeps (fun _ => False) w w' := by
  have hmf : ∀ (fn : Fn) (first cap : Array Value) (w : World), (Instr.makeFunc fn first cap).run Tryz.prog w = .ok (.func fn first cap) w := fun _ _ _ _ => rfl
  obtain ⟨W, hW⟩ : ∃ W, W = (w.alloc (.cells #[.string sa] 9)).alloc (.cells #[.int .i64 0, .int .i64 0, .int .u64 0, .bool false, .bool false, .int .i64 0, .int .u64 0, .int .i64 0] 87) := ⟨_, rfl⟩
  obtain ⟨m, hm⟩ : ∃ m, m = w.heap.size := ⟨_, rfl⟩
  have hk : Keeps (fun _ => False) w W := by rw [hW]; exact ((Keeps.refl _ w).alloc _).alloc _
  have hs : W.heap.size = m + 2 := by rw [hW, hm]; simp
  have q0 : RowAt W m 9 [.string sa] := by rw [hW, hm]; exact RowAt.alloc (RowAt.new w 9 _) _
  have q1 : RowAt W (m + 1) 87 [.int .i64 0, .int .i64 0, .int .u64 0, .bool false, .bool false, .int .i64 0, .int .u64 0, .int .i64 0] := by
    have h := RowAt.new (w.alloc (.cells #[.string sa] 9)) 87 [.int .i64 0, .int .i64 0, .int .u64 0, .bool false, .bool false, .int .i64 0, .int .u64 0, .int .i64 0]
    rw [show (w.alloc (.cells #[.string sa] 9)).heap.size = m + 1 by rw [hm]; simp] at h
    rw [hW]; exact h
  have hk8 : Keeps (fun _ => False) W (W.alloc (.cells #[.bool false] 4)) := (Keeps.refl _ W).alloc _
  have hsafe := safe_any 135 #[.pointer (some ⟨m, 0, none⟩), .pointer (some ⟨m + 1, 0, none⟩)] W (fun w1 => (∃ v0 v1 v2 v3 v4 v5 v6 v7, Told x v0 v1 v2 v3 v4 v5 v6 v7 ∧ RowAt w1 (m + 1) 87 [v0, v1, v2, v3, v4, v5, v6, v7]) ∧ Keeps (fun k => k = m + 1) W w1) (call135 _)
    ((tell135 m (m + 1) sa na da la x _ ((hk8.row q0 (fun h => h)).cell 0) ta (hk8.row q1 (fun h => h)) hx hxb (G.keep (hk.trans hk8) (fun _ _ h => h))).mono (by
      rintro e w' ⟨he, hv, hk'⟩
      exact ⟨he, ⟨hv, hk8.any.trans hk'⟩, hk'.row (RowAt.new W 4 [.bool false]) (fun h => by omega)⟩))
  have HS := hid hsafe; have HK := hid hk; have HM := hid hm; have HSZ := hid hs
  clear hsafe hk hs q0 q1 hk8 ta hx hxb G
  go_enter Tryz.func59, Tryz.ntmps59
  go_wp2_with fail
  rw [← hW, ← hm]
  clear hW hm
  refine HS.out.mono ?_
  rintro e w2 ⟨rfl, w1, ⟨⟨v0, v1, v2, v3, v4, v5, v6, v7, ht, hr⟩, hk1⟩, hw2⟩
  have hr2 : RowAt w2 (m + 1) 87 [v0, v1, v2, v3, v4, v5, v6, v7] := by
    rw [hw2]
    have hne : W.heap.size ≠ m + 1 := by have := HSZ.out; omega
    exact (hr.other (p := ⟨W.heap.size, 0, none⟩) hne _).other (p := ⟨W.heap.size, 0, none⟩) hne _
  have hk2 : Keeps (fun k => k = m + 1) W w2 := by rw [hw2]; exact (hk1.setCell _ (.inr (Nat.le_refl _)) _).setCell _ (.inr (Nat.le_refl _)) _
  have hkf : Keeps (fun _ => False) w w2 := HK.out.trans' hk2 (fun i hi h => by have := HM.out; omega)
  have f0 := hr2.frozen 0
  have c0 := hr2.cell 0
  have f1 := hr2.frozen 1
  have c1 := hr2.cell 1
  have f2 := hr2.frozen 2
  have c2 := hr2.cell 2
  have f3 := hr2.frozen 3
  have c3 := hr2.cell 3
  have f4 := hr2.frozen 4
  have c4 := hr2.cell 4
  have f5 := hr2.frozen 5
  have c5 := hr2.cell 5
  have f6 := hr2.frozen 6
  have c6 := hr2.cell 6
  have f7 := hr2.frozen 7
  have c7 := hr2.cell 7
  simp only [List.getElem?_cons_zero, List.getElem?_cons_succ] at c0 c1 c2 c3 c4 c5 c6 c7
  obtain ⟨b, k, r1, r2, _, _, _, _, e0, e1, e2, e3, e4, e5, e6, e7⟩ := id ht
  obtain ⟨sg, hsg⟩ : ∃ d, d = sgn x := ⟨_, rfl⟩
  obtain ⟨i6, hi6⟩ : ∃ d, d = isI64 x := ⟨_, rfl⟩
  obtain ⟨u6, hu6⟩ : ∃ d, d = isU64 x := ⟨_, rfl⟩
  obtain ⟨dn, hdn⟩ : ∃ d, d = max (digs x.natAbs).length 1 := ⟨_, rfl⟩
  rw [← hsg] at e0; rw [← hi6] at e3; rw [← hu6] at e4; rw [← hdn] at e7
  subst e0 e1 e2 e3 e4 e5 e6 e7
  have HT := hid ht; have HR := hid hr2; have HKF := hid hkf
  clear ht hr hk1 hw2 hr2 hk2 hkf hsg hi6 hu6 hdn
  go_wp2_with fail
  have hrf := HR.out.set8 (.int .i64 sg) (.int .i64 (b : Int)) (.int .u64 (k : Int)) (.bool i6) (.bool u6) (.int .i64 r1) (.int .u64 r2) (.int .i64 (dn : Int))
  have hkf := Keeps.set8 HKF.out (m + 1) (.inr (show w.heap.size ≤ m + 1 by have := HM.out; omega)) (.int .i64 sg) (.int .i64 (b : Int)) (.int .u64 (k : Int)) (.bool i6) (.bool u6) (.int .i64 r1) (.int .u64 r2) (.int .i64 (dn : Int))
  have d0 := hrf.cell 0
  have d1 := hrf.cell 1
  have d2 := hrf.cell 2
  have d3 := hrf.cell 3
  have d4 := hrf.cell 4
  have d5 := hrf.cell 5
  have d6 := hrf.cell 6
  have d7 := hrf.cell 7
  simp only [List.getElem?_cons_zero, List.getElem?_cons_succ] at d0 d1 d2 d3 d4 d5 d6 d7
  generalize ((((((((w2.setCell ⟨m + 1, 0, none⟩ (.int .i64 sg)).setCell ⟨m + 1, 1, none⟩ (.int .i64 (b : Int))).setCell ⟨m + 1, 2, none⟩ (.int .u64 (k : Int))).setCell ⟨m + 1, 3, none⟩ (.bool i6)).setCell ⟨m + 1, 4, none⟩ (.bool u6)).setCell ⟨m + 1, 5, none⟩ (.int .i64 r1)).setCell ⟨m + 1, 6, none⟩ (.int .u64 r2)).setCell ⟨m + 1, 7, none⟩ (.int .i64 (dn : Int))) = wf at *
  refine bodyPost_ret (v := .agg #[.int .i64 sg, .int .i64 (b : Int), .int .u64 (k : Int), .bool i6, .bool u6, .int .i64 r1, .int .u64 r2, .int .i64 (dn : Int)]) ?_ rfl ⟨⟨_, _, _, _, _, _, _, _, rfl, HT.out⟩, hkf⟩
  simp [results, Tryz.results59, go_sem, d0, d1, d2, d3, d4, d5, d6, d7]
end Go.Proofs
