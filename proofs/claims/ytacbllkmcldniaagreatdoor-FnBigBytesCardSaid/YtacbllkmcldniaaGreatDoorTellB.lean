/- Parts of the proofs over the numbers of any length: Tell1. -/
import Derived.Test.YtacbllkmcldniaaGreatDoorBaseB
import Derived.Test.YtacbllkmcldniaaGreatDoorBaseC
import Derived.Test.YtacbllkmcldniaaGreatDoorIntA
import Derived.Test.YtacbllkmcldniaaGreatDoorSpecC
import Derived.Test.YtacbllkmcldniaaGreatDoorTellA
import Derived.Test.YtacbllkmcldniaaGreatDoorOneA
set_option linter.unusedSimpArgs false
set_option linter.unusedVariables false
namespace Go.Proofs
open Go.RowKit
set_option maxHeartbeats 1000000
set_option linter.unusedVariables false
set_option linter.unusedSimpArgs false
set_option maxRecDepth 100000

theorem w136 (p : Addr) (w : World) (Q : Value → World → Prop) (h : Calls Tryz.prog 187 #[.pointer (some p)] w fun e w' => ∃ v, e = .returned v ∧ Q v w') :
    Calls Tryz.prog 136 #[.pointer (some p)] w fun e w' => ∃ v, e = .returned v ∧ Q v w' := by
  have H := hid h
  clear h
  obtain ⟨b0, o0, s0⟩ := p
  go_enter Tryz.func136, Tryz.ntmps136
  go_wp2_with fail
  refine H.out.mono ?_
  rintro e w1 ⟨v, rfl, hQ⟩
  have HQ := hid hQ
  clear hQ
  go_wp2_with fail
  go_ret
  exact ⟨_, rfl, HQ.out⟩
theorem w137 (p : Addr) (w : World) (Q : Value → World → Prop) (h : Calls Tryz.prog 188 #[.pointer (some p)] w fun e w' => ∃ v, e = .returned v ∧ Q v w') :
    Calls Tryz.prog 137 #[.pointer (some p)] w fun e w' => ∃ v, e = .returned v ∧ Q v w' := by
  have H := hid h
  clear h
  obtain ⟨b0, o0, s0⟩ := p
  go_enter Tryz.func137, Tryz.ntmps137
  go_wp2_with fail
  refine H.out.mono ?_
  rintro e w1 ⟨v, rfl, hQ⟩
  have HQ := hid hQ
  clear hQ
  go_wp2_with fail
  go_ret
  exact ⟨_, rfl, HQ.out⟩
theorem w138 (p : Addr) (w : World) (Q : Value → World → Prop) (h : Calls Tryz.prog 189 #[.pointer (some p)] w fun e w' => ∃ v, e = .returned v ∧ Q v w') :
    Calls Tryz.prog 138 #[.pointer (some p)] w fun e w' => ∃ v, e = .returned v ∧ Q v w' := by
  have H := hid h
  clear h
  obtain ⟨b0, o0, s0⟩ := p
  go_enter Tryz.func138, Tryz.ntmps138
  go_wp2_with fail
  refine H.out.mono ?_
  rintro e w1 ⟨v, rfl, hQ⟩
  have HQ := hid hQ
  clear hQ
  go_wp2_with fail
  go_ret
  exact ⟨_, rfl, HQ.out⟩
theorem w139 (p : Addr) (w : World) (Q : Value → World → Prop) (h : Calls Tryz.prog 190 #[.pointer (some p)] w fun e w' => ∃ v, e = .returned v ∧ Q v w') :
    Calls Tryz.prog 139 #[.pointer (some p)] w fun e w' => ∃ v, e = .returned v ∧ Q v w' := by
  have H := hid h
  clear h
  obtain ⟨b0, o0, s0⟩ := p
  go_enter Tryz.func139, Tryz.ntmps139
  go_wp2_with fail
  refine H.out.mono ?_
  rintro e w1 ⟨v, rfl, hQ⟩
  have HQ := hid hQ
  clear hQ
  go_wp2_with fail
  go_ret
  exact ⟨_, rfl, HQ.out⟩
theorem w140 (p : Addr) (w : World) (Q : Value → World → Prop) (h : Calls Tryz.prog 191 #[.pointer (some p)] w fun e w' => ∃ v, e = .returned v ∧ Q v w') :
    Calls Tryz.prog 140 #[.pointer (some p)] w fun e w' => ∃ v, e = .returned v ∧ Q v w' := by
  have H := hid h
  clear h
  obtain ⟨b0, o0, s0⟩ := p
  go_enter Tryz.func140, Tryz.ntmps140
  go_wp2_with fail
  refine H.out.mono ?_
  rintro e w1 ⟨v, rfl, hQ⟩
  have HQ := hid hQ
  clear hQ
  go_wp2_with fail
  go_ret
  exact ⟨_, rfl, HQ.out⟩
theorem w141 (p : Addr) (w : World) (Q : Value → World → Prop) (h : Calls Tryz.prog 192 #[.pointer (some p)] w fun e w' => ∃ v, e = .returned v ∧ Q v w') :
    Calls Tryz.prog 141 #[.pointer (some p)] w fun e w' => ∃ v, e = .returned v ∧ Q v w' := by
  have H := hid h
  clear h
  obtain ⟨b0, o0, s0⟩ := p
  go_enter Tryz.func141, Tryz.ntmps141
  go_wp2_with fail
  refine H.out.mono ?_
  rintro e w1 ⟨v, rfl, hQ⟩
  have HQ := hid hQ
  clear hQ
  go_wp2_with fail
  go_ret
  exact ⟨_, rfl, HQ.out⟩
theorem w142 (p : Addr) (w : World) (Q : Value → World → Prop) (h : Calls Tryz.prog 193 #[.pointer (some p)] w fun e w' => ∃ v, e = .returned v ∧ Q v w') :
    Calls Tryz.prog 142 #[.pointer (some p)] w fun e w' => ∃ v, e = .returned v ∧ Q v w' := by
  have H := hid h
  clear h
  obtain ⟨b0, o0, s0⟩ := p
  go_enter Tryz.func142, Tryz.ntmps142
  go_wp2_with fail
  refine H.out.mono ?_
  rintro e w1 ⟨v, rfl, hQ⟩
  have HQ := hid hQ
  clear hQ
  go_wp2_with fail
  go_ret
  exact ⟨_, rfl, HQ.out⟩
theorem low227 (a : Option Addr) (l c N : Nat) (w : World) (h : Rd w a l c (words N)) :
    Calls Tryz.prog 227 #[.slice a l c] w fun e w' => e = .returned (.int .u64 ((N % W64 : Nat) : Int)) ∧ w' = w := by
  by_cases h0 : l = 0
  · have hN : N = 0 := (words_len_zero N).1 (by rw [h.length]; exact h0)
    subst h0; subst hN
    clear h
    go_enter Tryz.func227, Tryz.ntmps227
    go_wp2_with fail
    go_ret
    exact ⟨rfl, rfl⟩
  · obtain ⟨b, o, rfl, hc⟩ := h.cell (by omega)
    have c0 := hc 0 (by omega)
    have hN : N ≠ 0 := fun hh => h0 (by rw [← h.length]; exact (words_len_zero N).2 hh)
    rw [words_pos hN] at c0
    simp only [Nat.add_zero, List.getD_cons_zero] at c0
    have t1 : ((l : Int) == 0) = false := by simp; omega
    have hl : 0 < l := by omega
    clear h hc h0
    go_enter Tryz.func227, Tryz.ntmps227
    go_wp2_with fail
    go_ret
    exact ⟨rfl, rfl⟩
theorem sign187 (p t : Nat) (x : Int) (w : World) (h : IntAt w p t x) : Calls Tryz.prog 187 #[.pointer (some ⟨p, 0, none⟩)] w fun e w' => ∃ v, e = .returned v ∧ (v = .int .i64 (sgn x) ∧ w' = w) := by
  obtain ⟨a, l, c, hr, hd⟩ := h
  obtain ⟨x1, x2, _, _⟩ := hr.facts
  have hl := hd.length
  have hz := words_len_zero x.natAbs
  rw [hl] at hz
  by_cases h0 : l = 0
  · have hx : x = 0 := by have := hz.1 h0; omega
    subst hx; subst h0
    clear hz hl hd hr
    go_enter Tryz.func187, Tryz.ntmps187
    go_wp2_with fail
    go_ret
    exact ⟨_, rfl, rfl, rfl⟩
  · have hx : x ≠ 0 := by rintro rfl; exact h0 (hz.2 rfl)
    have t1 : ((l : Int) == 0) = false := by simp; omega
    by_cases hn : x < 0
    · rw [decide_eq_true hn] at x1
      have hs : sgn x = -1 := by unfold sgn; rw [if_pos hn, if_neg hx]
      have HS := hid hs
      clear hz hl hd hr hs hx hn h0
      go_enter Tryz.func187, Tryz.ntmps187
      go_wp2_with fail
      go_ret
      exact ⟨_, rfl, by rw [HS.out] <;> rfl, rfl⟩
    · rw [decide_eq_false hn] at x1
      have hs : sgn x = 1 := by unfold sgn; rw [if_neg hn, if_neg hx]
      have HS := hid hs
      clear hz hl hd hr hs hx hn h0
      go_enter Tryz.func187, Tryz.ntmps187
      go_wp2_with fail
      go_ret
      exact ⟨_, rfl, by rw [HS.out] <;> rfl, rfl⟩
theorem bitLen188 (p t : Nat) (x : Int) (w : World) (h : IntAt w p t x) : Calls Tryz.prog 188 #[.pointer (some ⟨p, 0, none⟩)] w fun e w' => ∃ v, e = .returned v ∧ ((∃ b : Nat, v = .int .i64 (b : Int) ∧ IsBits x.natAbs b) ∧ w' = w) := by
  obtain ⟨a, l, c, hr, hd⟩ := h
  obtain ⟨x1, x2, _, _⟩ := hr.facts
  have HC := hid (bitLen225_any a l c x.natAbs w hd)
  clear hd hr
  go_enter Tryz.func188, Tryz.ntmps188
  go_wp2_with fail
  refine HC.out.mono ?_
  rintro e w1 ⟨b, rfl, hb, _, rfl⟩
  have HB := hid hb
  clear hb
  go_wp2_with fail
  go_ret
  exact ⟨_, rfl, ⟨b, rfl, HB.out⟩, rfl⟩
/-- The number is an int64. -/
def isI64 (x : Int) : Bool := decide (-9223372036854775808 ≤ x) && decide (x ≤ 9223372036854775807)
def isU64 (x : Int) : Bool := decide (0 ≤ x) && decide (x ≤ 18446744073709551615)
theorem isInt190 (p t : Nat) (x : Int) (w : World) (h : IntAt w p t x) : Calls Tryz.prog 190 #[.pointer (some ⟨p, 0, none⟩)] w fun e w' => ∃ v, e = .returned v ∧ (v = .bool (isI64 x) ∧ w' = w) := by
  obtain ⟨a, l, c, hr, hd⟩ := h
  obtain ⟨x1, x2, _, _⟩ := hr.facts
  have hl := hd.length
  have HC := hid (low227 a l c x.natAbs w hd)
  obtain ⟨s, hs⟩ : ∃ s, s = decide (x < 0) := ⟨_, rfl⟩
  rw [← hs] at x1
  by_cases h1 : l ≤ 1
  · have hN : x.natAbs < 18446744073709551616 := by
      have := lt_words x.natAbs
      rw [hl] at this
      have h2 : W64 ^ l ≤ W64 ^ 1 := Nat.pow_le_pow_right (by unfold W64; decide) h1
      rw [Nat.pow_one] at h2
      have h3 : W64 = 18446744073709551616 := rfl
      omega
    have t1 : decide ((l : Int) ≤ 1) = true := by simp; omega
    have t1' : decide (l ≤ 1) = true := by simp; omega
    obtain ⟨N, hNe⟩ : ∃ N, N = x.natAbs := ⟨_, rfl⟩
    rw [← hNe] at HC hN
    rw [Nat.mod_eq_of_lt (show N < W64 from hN)] at HC
    rcases Nat.lt_trichotomy N 9223372036854775808 with hlt | heq | hgt
    · have g1 : IntKind.i64.wrap (N : Int) = (N : Int) := by rw [IntKind.wrap_i64]; omega
      have t2 : decide ((0 : Int) ≤ (N : Int)) = true := by simp
      have hw : isI64 x = true := by unfold isI64; simp; omega
      have HW := hid hw
      clear hw hs hN hNe hlt h1 hl hd hr
      go_enter Tryz.func190, Tryz.ntmps190
      go_wp2_with fail
      refine HC.out.mono ?_
      rintro e w1 ⟨rfl, rfl⟩
      go_wp2_with fail
      go_ret
      exact ⟨_, rfl, by rw [HW.out] <;> rfl, rfl⟩
    · subst heq
      have g1 : IntKind.i64.wrap 9223372036854775808 = -9223372036854775808 := by decide +kernel
      have g2 : IntKind.i64.wrap (-(-9223372036854775808)) = -9223372036854775808 := by decide +kernel
      have hw : isI64 x = s := by unfold isI64; rw [hs]; by_cases hx : x < 0 <;> simp [hx] <;> omega
      have HW := hid hw
      clear hw hs hN hNe h1 hl hd hr
      cases s
      all_goals
        go_enter Tryz.func190, Tryz.ntmps190
        go_wp2_with fail
        refine HC.out.mono ?_
        rintro e w1 ⟨rfl, rfl⟩
        go_wp2_with fail
        go_ret
        exact ⟨_, rfl, by rw [HW.out] <;> rfl, rfl⟩
    · have g1 : IntKind.i64.wrap (N : Int) = (N : Int) - 18446744073709551616 := by rw [IntKind.wrap_i64]; omega
      obtain ⟨M, hM⟩ : ∃ M : Nat, (N : Int) - 18446744073709551616 = -(M : Int) := ⟨18446744073709551616 - N, by omega⟩
      rw [hM] at g1
      have hM1 : 0 < M := by omega
      have hM2 : M < 9223372036854775808 := by omega
      have t2 : decide ((0 : Int) ≤ -(M : Int)) = false := by simp; omega
      have g2 : IntKind.i64.wrap (M : Int) = (M : Int) := by rw [IntKind.wrap_i64]; omega
      have g3 : wrap64 (M : Int) = (M : Int) := by unfold wrap64; omega
      have t3 : ((-(M : Int)) == (M : Int)) = false := by simp; omega
      have hw : isI64 x = false := by unfold isI64; by_cases hx : x < 0 <;> simp <;> omega
      have HW := hid hw
      clear hw hs hN hNe hgt h1 hl hd hr hM
      cases s
      all_goals
        go_enter Tryz.func190, Tryz.ntmps190
        go_wp2_with fail
        refine HC.out.mono ?_
        rintro e w1 ⟨rfl, rfl⟩
        go_wp2_with fail
        go_ret
        exact ⟨_, rfl, by rw [HW.out] <;> rfl, rfl⟩
  · have t1 : decide ((l : Int) ≤ 1) = false := by simp; omega
    have t1' : decide (l ≤ 1) = false := by simp; omega
    have hw : isI64 x = false := by
      have h2 : 18446744073709551616 ≤ x.natAbs := by
        rcases Nat.lt_or_ge x.natAbs 18446744073709551616 with h | h
        · have := words_len_le_one h
          omega
        · exact h
      unfold isI64
      by_cases hx : x < 0 <;> simp <;> omega
    have HW := hid hw
    clear hw hs h1 hl hd hr
    go_enter Tryz.func190, Tryz.ntmps190
    go_wp2_with fail
    go_ret
    exact ⟨_, rfl, by rw [HW.out] <;> rfl, rfl⟩
theorem isUint191 (p t : Nat) (x : Int) (w : World) (h : IntAt w p t x) : Calls Tryz.prog 191 #[.pointer (some ⟨p, 0, none⟩)] w fun e w' => ∃ v, e = .returned v ∧ (v = .bool (isU64 x) ∧ w' = w) := by
  obtain ⟨a, l, c, hr, hd⟩ := h
  obtain ⟨x1, x2, _, _⟩ := hr.facts
  have hl := hd.length
  by_cases hx : x < 0
  · rw [decide_eq_true hx] at x1
    have hw : isU64 x = false := by unfold isU64; simp; omega
    have HW := hid hw
    clear hw hx hl hd hr
    go_enter Tryz.func191, Tryz.ntmps191
    go_wp2_with fail
    go_ret
    exact ⟨_, rfl, by rw [HW.out] <;> rfl, rfl⟩
  · rw [decide_eq_false hx] at x1
    by_cases h1 : l ≤ 1
    · have t1 : decide ((l : Int) ≤ 1) = true := by simp; omega
      have t1' : decide (l ≤ 1) = true := by simp; omega
      have hw : isU64 x = true := by
        have := lt_words x.natAbs
        rw [hl] at this
        have h2 : W64 ^ l ≤ W64 ^ 1 := Nat.pow_le_pow_right (by unfold W64; decide) h1
        rw [Nat.pow_one] at h2
        have h3 : W64 = 18446744073709551616 := rfl
        unfold isU64; simp; omega
      have HW := hid hw
      clear hw hx hl hd hr h1
      go_enter Tryz.func191, Tryz.ntmps191
      go_wp2_with fail
      go_ret
      exact ⟨_, rfl, by rw [HW.out] <;> rfl, rfl⟩
    · have t1 : decide ((l : Int) ≤ 1) = false := by simp; omega
      have t1' : decide (l ≤ 1) = false := by simp; omega
      have hw : isU64 x = false := by
        have h2 : 18446744073709551616 ≤ x.natAbs := by
          rcases Nat.lt_or_ge x.natAbs 18446744073709551616 with h | h
          · have := words_len_le_one h
            omega
          · exact h
        unfold isU64
        simp; omega
      have HW := hid hw
      clear hw hx hl hd hr h1
      go_enter Tryz.func191, Tryz.ntmps191
      go_wp2_with fail
      go_ret
      exact ⟨_, rfl, by rw [HW.out] <;> rfl, rfl⟩
theorem neg_wrap {N : Nat} {x : Int} (h1 : N = x.natAbs % 18446744073709551616) (h2 : x < 0) (h3 : -9223372036854775808 ≤ x) : (-(((N : Int) + 9223372036854775808) % 18446744073709551616 - 9223372036854775808) + 9223372036854775808) % 18446744073709551616 - 9223372036854775808 = x := by
  rcases (by omega : x = -9223372036854775808 ∨ -9223372036854775808 < x) with h | h
  · subst h; subst h1; decide
  · omega
theorem int192 (p t : Nat) (x : Int) (w : World) (h : IntAt w p t x) : Calls Tryz.prog 192 #[.pointer (some ⟨p, 0, none⟩)] w fun e w' => ∃ v, e = .returned v ∧ ((∃ q : Int, v = .int .i64 q ∧ (isI64 x = true → q = x)) ∧ w' = w) := by
  obtain ⟨a, l, c, hr, hd⟩ := h
  obtain ⟨x1, x2, _, _⟩ := hr.facts
  have HC := hid (low227 a l c x.natAbs w hd)
  obtain ⟨N, hNe⟩ : ∃ N, N = x.natAbs % W64 := ⟨_, rfl⟩
  rw [← hNe] at HC
  by_cases hx : x < 0
  · rw [decide_eq_true hx] at x1
    have HN := hid hNe; have HX := hid hx
    clear hd hr hNe hx
    go_enter Tryz.func192, Tryz.ntmps192
    go_wp2_with fail
    refine HC.out.mono ?_
    rintro e w1 ⟨rfl, rfl⟩
    go_wp2_with fail
    go_ret
    refine ⟨_, rfl, ⟨wrap64 (-(wrap64 (N : Int))), rfl, fun hi => ?_⟩, rfl⟩
    have h1 := HN.out; have h2 := HX.out
    have h3 : W64 = 18446744073709551616 := rfl
    rw [h3] at h1
    unfold isI64 at hi
    simp at hi
    unfold wrap64
    exact neg_wrap h1 h2 hi.1
  · rw [decide_eq_false hx] at x1
    have HN := hid hNe; have HX := hid hx
    clear hd hr hNe hx
    go_enter Tryz.func192, Tryz.ntmps192
    go_wp2_with fail
    refine HC.out.mono ?_
    rintro e w1 ⟨rfl, rfl⟩
    go_wp2_with fail
    go_ret
    refine ⟨_, rfl, ⟨wrap64 (N : Int), rfl, fun hi => ?_⟩, rfl⟩
    have h1 := HN.out; have h2 := HX.out
    have h3 : W64 = 18446744073709551616 := rfl
    rw [h3] at h1
    unfold isI64 at hi
    simp at hi
    unfold wrap64
    omega
theorem uint193 (p t : Nat) (x : Int) (w : World) (h : IntAt w p t x) : Calls Tryz.prog 193 #[.pointer (some ⟨p, 0, none⟩)] w fun e w' => ∃ v, e = .returned v ∧ ((∃ q : Int, v = .int .u64 q ∧ (isU64 x = true → q = x)) ∧ w' = w) := by
  obtain ⟨a, l, c, hr, hd⟩ := h
  obtain ⟨x1, x2, _, _⟩ := hr.facts
  have HC := hid (low227 a l c x.natAbs w hd)
  obtain ⟨N, hNe⟩ : ∃ N, N = x.natAbs % W64 := ⟨_, rfl⟩
  rw [← hNe] at HC
  have HN := hid hNe
  clear hd hr hNe
  go_enter Tryz.func193, Tryz.ntmps193
  go_wp2_with fail
  refine HC.out.mono ?_
  rintro e w1 ⟨rfl, rfl⟩
  go_wp2_with fail
  go_ret
  refine ⟨_, rfl, ⟨_, rfl, fun hi => ?_⟩, rfl⟩
  have h1 := HN.out
  have h3 : W64 = 18446744073709551616 := rfl
  rw [h3] at h1
  unfold isU64 at hi
  simp at hi
  omega
end Go.Proofs
