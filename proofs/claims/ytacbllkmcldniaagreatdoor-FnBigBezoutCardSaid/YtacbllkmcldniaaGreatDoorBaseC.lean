/- Parts of the proofs over the numbers of any length: Div64, DivWW, DivWW2, DivW, Log, BitLen, Conv, Itoa, Itoa2, Text, App. -/
import Derived.Deep.CutBlock
import Derived.Lib.ItoaNum
import Derived.Test.YtacbllkmcldniaaGreatDoorShelf
import Derived.WalkSpells
import Derived.Defers
import Derived.Lib.SlBytesConst
import Derived.Laws.BytesArg
import Derived.Deep.AppendLies
import Derived.Test.YtacbllkmcldniaaGreatDoorBaseB
set_option linter.unusedSimpArgs false
set_option linter.unusedVariables false
namespace Go.Proofs
open Go.RowKit
set_option maxHeartbeats 400000
set_option linter.unusedVariables false
set_option linter.unusedSimpArgs false
set_option maxRecDepth 100000

/-- How many noughts stand ahead of a word. -/
def nz (x : Nat) : Nat := 64 - Lib.bitLen x

theorem nz_facts {x : Nat} (h0 : x ≠ 0) (h : x < W64) : nz x ≤ 63 ∧ (Lib.bitLen x : Int) = 64 - (nz x : Int) ∧ 2 ^ (63 - nz x) ≤ x ∧ x < 2 ^ (64 - nz x) := by
  obtain ⟨h1, h2, h3⟩ := Lib.bitLenAux_bounds 64 x h h0
  have h4 : Lib.bitLenAux 64 x = Lib.bitLen x := rfl
  rw [h4] at h1 h2 h3
  have h5 : Lib.bitLen x ≤ 64 := Lib.bitLen_le x 64 (by omega) h
  unfold nz
  rw [show 63 - (64 - Lib.bitLen x) = Lib.bitLen x - 1 from by omega, show 64 - (64 - Lib.bitLen x) = Lib.bitLen x from by omega]
  exact ⟨by omega, by omega, h2, h3⟩
theorem nz_shift {x : Nat} (h0 : x ≠ 0) (h : x < W64) : 2 ^ 63 ≤ x * 2 ^ nz x ∧ x * 2 ^ nz x < 2 ^ 64 := by
  obtain ⟨h1, _, h3, h4⟩ := nz_facts h0 h
  constructor
  · calc 2 ^ 63 = 2 ^ (63 - nz x) * 2 ^ nz x := by rw [← Nat.pow_add]; congr 1; omega
      _ ≤ _ := Nat.mul_le_mul_right _ h3
  · calc x * 2 ^ nz x < 2 ^ (64 - nz x) * 2 ^ nz x := Nat.mul_lt_mul_of_pos_right h4 (Nat.two_pow_pos _)
      _ = 2 ^ 64 := by rw [← Nat.pow_add]; congr 1; omega
theorem nz_top {x : Nat} (h0 : 2 ^ 63 ≤ x) (h : x < W64) : nz x = 0 := by
  obtain ⟨h1, _, h3, h4⟩ := nz_facts (x := x) (by omega) h
  rcases Nat.eq_zero_or_pos (nz x) with h5 | h5
  · exact h5
  · exfalso
    have : 2 ^ (64 - nz x) ≤ 2 ^ 63 := Nat.pow_le_pow_right (by omega) (by omega)
    omega

theorem nlz_any (x : Nat) (w : World) (h0 : x ≠ 0) (h : x < W64) :
    Calls Tryz.prog 276 #[.int .u64 (x : Int)] w fun e w' => e = .returned (.int .u64 (nz x : Int)) ∧ w' = w := by
  obtain ⟨h1, h2, _⟩ := nz_facts h0 h
  have hx : (x : Int) ≤ 18446744073709551615 := by unfold W64 at h; omega
  have hw : IntKind.u64.wrap (nz x : Int) = (nz x : Int) := u64_wrap _ (by unfold W64; omega)
  have H2 : Hid ((64 : Int) - (Lib.bitLen (x : Int).toNat : Int) = (nz x : Int)) := hid (by rw [Int.toNat_natCast]; omega)
  clear h2 h
  go_enter Tryz.func276, Tryz.ntmps276
  go_wp2_with fail
  refine (Tryz.bits_LeadingZeros (x : Int) _ (by omega) hx).mono ?_
  rintro e w1 ⟨rfl, rfl⟩
  rw [H2.out]
  go_wp2_with fail
  go_ret
  exact ⟨rfl, rfl⟩

/-! ### The digits of a quotient -/
def B32 : Nat := 4294967296

theorem qd_true1 {un u1 y q : Nat} (hu : un < y) (h1 : u1 < B32) (hq : B32 ≤ q) : (un * B32 + u1) / y < q := by
  apply Nat.lt_of_lt_of_le _ hq
  rw [Nat.div_lt_iff_lt_mul (by omega)]
  have : (un + 1) * B32 ≤ y * B32 := Nat.mul_le_mul_right _ hu
  rw [Nat.mul_comm B32 y]
  unfold B32 at *
  omega
theorem qd_true1' {un u1 y : Nat} (hu : un < y) (h1 : u1 < B32) : (un * B32 + u1) / y < B32 := qd_true1 hu h1 (Nat.le_refl _)
theorem qd_true2 {un u1 y1 y0 q rh : Nat} (hy : 0 < y1) (hun : un = q * y1 + rh) (h : B32 * rh + u1 < q * y0) : (un * B32 + u1) / (y1 * B32 + y0) < q := by
  have h0 : 0 < y1 * B32 + y0 := by unfold B32; omega
  rw [Nat.div_lt_iff_lt_mul h0, hun, Nat.mul_add, ← Nat.mul_assoc]
  generalize q * y1 = P at *
  generalize q * y0 = R at *
  rw [Nat.add_mul, Nat.mul_comm rh]
  omega
theorem qd_false {un u1 y1 y0 q rh : Nat} (hy : 0 < y1) (hun : un = q * y1 + rh) (h : q * y0 ≤ B32 * rh + u1) (hle : (un * B32 + u1) / (y1 * B32 + y0) ≤ q) : (un * B32 + u1) / (y1 * B32 + y0) = q := by
  apply Nat.le_antisymm hle
  have h0 : 0 < y1 * B32 + y0 := by unfold B32; omega
  rw [Nat.le_div_iff_mul_le h0, hun, Nat.mul_add, ← Nat.mul_assoc]
  generalize q * y1 = P at *
  generalize q * y0 = R at *
  rw [Nat.add_mul, Nat.mul_comm rh]
  omega
theorem qd_break {un u1 y1 y0 q rh : Nat} (hy : 0 < y1) (hy0 : y0 < B32) (hun : un = q * y1 + rh) (hq : q ≤ B32) (hr : B32 ≤ rh) (hle : (un * B32 + u1) / (y1 * B32 + y0) ≤ q) : (un * B32 + u1) / (y1 * B32 + y0) = q := by
  apply qd_false hy hun _ hle
  have h1 : q * y0 ≤ B32 * B32 := Nat.mul_le_mul hq (by omega)
  have h2 : B32 * B32 ≤ B32 * rh := Nat.mul_le_mul_left _ hr
  omega
theorem qd_start {un y1 y0 u1 : Nat} (hy1 : 2147483648 ≤ y1) (hy0 : y0 < B32) (hun : un < y1 * B32 + y0) : un / y1 ≤ B32 + 1 ∧ (un * B32 + u1) / (y1 * B32 + y0) ≤ un / y1 + 0 ∨ B32 ≤ u1 := by
  by_cases hu : B32 ≤ u1
  · exact .inr hu
  · refine .inl ⟨?_, ?_⟩
    · apply Nat.lt_succ_iff.mp
      rw [Nat.div_lt_iff_lt_mul (by omega)]
      unfold B32 at *
      omega
    · have h0 : 0 < y1 := by omega
      have hd := Nat.div_add_mod un y1
      have hm := Nat.mod_lt un h0
      rw [Nat.add_zero]
      apply Nat.lt_succ_iff.mp
      rw [Nat.div_lt_iff_lt_mul (by unfold B32; omega)]
      generalize un / y1 = q at *
      generalize un % y1 = rh at *
      have h1 : (q + 1) * (y1 * B32) = y1 * q * B32 + y1 * B32 := by rw [Nat.add_mul, Nat.one_mul, ← Nat.mul_assoc, Nat.mul_comm q y1]
      have h2 : (q + 1) * (y1 * B32) ≤ (q + 1) * (y1 * B32 + y0) := Nat.mul_le_mul_left _ (by omega)
      have h3 : un * B32 = y1 * q * B32 + rh * B32 := by rw [← hd, Nat.add_mul]
      have h4 : (rh + 1) * B32 ≤ y1 * B32 := Nat.mul_le_mul_right _ hm
      rw [Nat.succ_eq_add_one]
      unfold B32 at *
      omega

theorem bitsDiv64_zero (lo y : Nat) (w : World) (hy : 0 < y) (hyw : y < W64) (hl : lo < W64) :
    Calls Tryz.prog 327 #[.int .u64 0, .int .u64 (lo : Int), .int .u64 (y : Int)] w fun e w' => e = .returned (.tuple #[.int .u64 ((lo / y : Nat) : Int), .int .u64 ((lo % y : Nat) : Int)]) ∧ ∃ k, w' = w.drewN k := by
  have t1 : ((y : Int) == 0) = false := by simp; omega
  have t2 : decide ((y : Int) ≤ 0) = false := by simp; omega
  have e1 : (lo : Int).tdiv (y : Int) = ((lo / y : Nat) : Int) := (Int.ofNat_tdiv lo y).symm
  have e2 : (lo : Int).tmod (y : Int) = ((lo % y : Nat) : Int) := (Int.ofNat_tmod lo y).symm
  have w1 : IntKind.u64.wrap ((lo / y : Nat) : Int) = ((lo / y : Nat) : Int) := u64_wrap _ (Nat.lt_of_le_of_lt (Nat.div_le_self _ _) hl)
  have w2 : IntKind.u64.wrap ((lo % y : Nat) : Int) = ((lo % y : Nat) : Int) := u64_wrap _ (Nat.lt_of_le_of_lt (Nat.mod_le _ _) hl)
  go_enter Tryz.func327, Tryz.ntmps327
  go_wp2_with fail
  go_quiet (fail)
  go_wp2_with fail
  go_ret2
  refine ⟨?_, nq, rfl⟩
  show Ending.returned (.tuple #[.int .u64 (IntKind.u64.wrap ((lo : Int) / (y : Int))), .int .u64 ((lo : Int) % (y : Int))]) = _
  rw [← Int.natCast_ediv, ← Int.natCast_emod, w1]

/-- The loop that finds a digit of the quotient. -/
def QdRel (y1 y0 un u1 : Nat) (w0 w : World) (qv rv : Value) : Prop :=
  ∃ q rh : Nat, un = q * y1 + rh ∧ rh < B32 ∧ (un * B32 + u1) / (y1 * B32 + y0) ≤ q ∧ q ≤ B32 + 1 ∧ qv = .int .u64 (q : Int) ∧ rv = .int .u64 (rh : Int) ∧ w = w0

theorem QdRel.step {y1 y0 un u1 : Nat} {w : World} {p rh : Nat} (hun : un = (p + 1) * y1 + rh) (hlt : (un * B32 + u1) / (y1 * B32 + y0) < p + 1) (hr : rh + y1 < B32) (hq : p + 1 ≤ B32 + 1) :
    QdRel y1 y0 un u1 w w (.int .u64 (p : Int)) (.int .u64 ((rh : Int) + (y1 : Int))) := by
  refine ⟨p, rh + y1, ?_, hr, by omega, by omega, rfl, by rw [Int.natCast_add], rfl⟩
  rw [hun, Nat.add_mul]
  omega
theorem qd_break' {un u1 y1 y0 p rh : Nat} (hy : 0 < y1) (hy0 : y0 < B32) (hun : un = (p + 1) * y1 + rh) (hq : p + 1 ≤ B32 + 1) (hr : B32 ≤ rh + y1) (hlt : (un * B32 + u1) / (y1 * B32 + y0) < p + 1) : (un * B32 + u1) / (y1 * B32 + y0) = p := by
  apply qd_break (rh := rh + y1) hy hy0 _ (by omega) hr (by omega)
  rw [hun, Nat.add_mul]
  omega

theorem bitsDiv64_top (hi lo y : Nat) (w : World) (hy : 2 ^ 63 ≤ y) (hyw : y < W64) (hh0 : 0 < hi) (hh : hi < y) (hl : lo < W64) :
    Calls Tryz.prog 327 #[.int .u64 (hi : Int), .int .u64 (lo : Int), .int .u64 (y : Int)] w fun e w' => ∃ r : Int, e = .returned (.tuple #[.int .u64 (((hi * W64 + lo) / y : Nat) : Int), .int .u64 r]) ∧ ∃ k, w' = w.drewN k := by
  have t1 : ((y : Int) == 0) = false := by simp; omega
  have t2 : decide ((y : Int) ≤ (hi : Int)) = false := by simp; omega
  have t3 : ((hi : Int) == 0) = false := by simp; omega
  have hlz : Hid ((64 : Int) - (Lib.bitLen (y : Int).toNat : Int) = 0) := hid (by
    obtain ⟨_, h2, _⟩ := nz_facts (x := y) (by omega) hyw
    rw [nz_top hy hyw] at h2
    rw [Int.toNat_natCast, h2]; rfl)
  have hyle : (y : Int) ≤ 18446744073709551615 := by unfold W64 at hyw; omega
  obtain ⟨y1, hy1⟩ : ∃ y1, y1 = y / B32 := ⟨_, rfl⟩
  obtain ⟨y0, hy0⟩ : ∃ y0, y0 = y % B32 := ⟨_, rfl⟩
  obtain ⟨u1, hu1⟩ : ∃ u1, u1 = lo / B32 := ⟨_, rfl⟩
  obtain ⟨u0, hu0⟩ : ∃ u0, u0 = lo % B32 := ⟨_, rfl⟩
  have hyy : y = y1 * B32 + y0 := by rw [hy1, hy0, Nat.mul_comm]; exact (Nat.div_add_mod y B32).symm
  have hll : lo = u1 * B32 + u0 := by rw [hu1, hu0, Nat.mul_comm]; exact (Nat.div_add_mod lo B32).symm
  have hy0l : y0 < B32 := by rw [hy0]; exact Nat.mod_lt _ (by unfold B32; omega)
  have hu0l : u0 < B32 := by rw [hu0]; exact Nat.mod_lt _ (by unfold B32; omega)
  have hu1l : u1 < B32 := by rw [hu1]; unfold B32 W64 at *; omega
  have hy1l : y1 < B32 := by rw [hy1]; unfold B32 W64 at *; omega
  have hy1g : 2147483648 ≤ y1 := by rw [hy1]; unfold B32; omega
  have f1 : (y : Int) / 4294967296 = (y1 : Int) := by rw [hy1]; unfold B32; omega
  have f2 : (lo : Int) / 4294967296 = (u1 : Int) := by rw [hu1]; unfold B32; omega
  have f3 : IntKind.u64.wrap (lo : Int) = (lo : Int) := u64_wrap _ hl
  have f4 : bits BinOp.and IntKind.u64 (y : Int) 4294967295 = (y0 : Int) := by
    have h := bits_and_u64_nat y 4294967295 (by unfold W64 at hyw; exact hyw) (by omega)
    rw [show (4294967295 : Nat) = 2 ^ 32 - 1 from rfl, Nat.and_two_pow_sub_one_eq_mod] at h
    rw [hy0]; exact h
  have f5 : bits BinOp.and IntKind.u64 (lo : Int) 4294967295 = (u0 : Int) := by
    have h := bits_and_u64_nat lo 4294967295 (by unfold W64 at hl; exact hl) (by omega)
    rw [show (4294967295 : Nat) = 2 ^ 32 - 1 from rfl, Nat.and_two_pow_sub_one_eq_mod] at h
    rw [hu0]; exact h
  have hhw : hi < W64 := by omega
  have f6 : bits BinOp.or IntKind.u64 (hi : Int) ((lo : Int) / 18446744073709551616) = (hi : Int) := by
    have h := bits_or_u64_nat hi 0 (by unfold W64 at hhw; exact hhw) (by omega)
    rw [show (lo : Int) / 18446744073709551616 = ((0 : Nat) : Int) by unfold W64 at hl; omega, h, Nat.or_zero]
  obtain ⟨q0, hq0⟩ : ∃ q0, q0 = hi / y1 := ⟨_, rfl⟩
  obtain ⟨r0, hr0⟩ : ∃ r0, r0 = hi % y1 := ⟨_, rfl⟩
  have hhi : hi = q0 * y1 + r0 := by rw [hq0, hr0, Nat.mul_comm]; exact (Nat.div_add_mod hi y1).symm
  have hr0l : r0 < y1 := by rw [hr0]; exact Nat.mod_lt _ (by omega)
  have f7 : (hi : Int).tdiv (y1 : Int) = (q0 : Int) := by rw [hq0]; exact (Int.ofNat_tdiv hi y1).symm
  have hqp : q0 * y1 ≤ hi := by rw [hhi]; omega
  have hq0l : q0 ≤ hi := by rw [hq0]; exact Nat.div_le_self _ _
  have f8 : IntKind.u64.wrap (q0 : Int) = (q0 : Int) := u64_wrap _ (by omega)
  have f9 : IntKind.u64.wrap ((q0 : Int) * (y1 : Int)) = ((q0 * y1 : Nat) : Int) := by rw [← Int.natCast_mul]; exact u64_wrap _ (by omega)
  have f10 : IntKind.u64.wrap ((hi : Int) - (q0 : Int) * (y1 : Int)) = (r0 : Int) := by
    have := u64_wrap r0 (by unfold B32 W64 at *; omega)
    rw [← Int.natCast_mul, show (hi : Int) - ((q0 * y1 : Nat) : Int) = (r0 : Int) by omega]; exact this
  have f11 : ((y1 : Int) == 0) = false := by simp; omega
  have Hyy := hid hyy; have Hll := hid hll; have Hhi := hid hhi; have Hq0 := hid hq0
  clear hyy hll hhi hy1 hy0 hu1 hu0 hq0 hr0
  go_enter Tryz.func327, Tryz.ntmps327
  go_wp2_with fail
  refine (Tryz.bits_LeadingZeros64 (y : Int) _ (by omega) hyle).mono ?_
  rintro e w1 ⟨rfl, rfl⟩
  rw [hlz.out]
  go_upto_block 0 with fail
  obtain ⟨Q1, hQ1⟩ : ∃ Q1, Q1 = (hi * B32 + u1) / y := ⟨_, rfl⟩
  go_cut [15, 16] from 67 to 85 (fun q r wx => q = .int .u64 (Q1 : Int) ∧ wx = w1)
  case first =>
    have HQ1 := hid hQ1
    clear hQ1
    go_wp2_with fail
    go_loopw [15, 16] (fun q r wr => QdRel y1 y0 hi u1 w1 wr q r) (fun q r _ => (intOf q).toNat)
    case atStart =>
      obtain ⟨k1, k2⟩ : hi / y1 ≤ B32 + 1 ∧ (hi * B32 + u1) / (y1 * B32 + y0) ≤ hi / y1 + 0 := by
        rcases qd_start (u1 := u1) hy1g hy0l (by rw [← Hyy.out]; exact hh) with h | h
        · exact h
        · omega
      rw [← Hq0.out] at k1 k2
      exact ⟨q0, r0, Hhi.out, by omega, k2, k1, rfl, rfl, rfl⟩
    case round =>
      obtain ⟨q, rh, hun, hrh, hle, hqB, rfl, rfl, rfl⟩ := hrel
      have Hun := hid hun; have Hle := hid hle
      clear hun hle
      have FinB : Hid (∀ p, q = p + 1 → (hi * B32 + u1) / (y1 * B32 + y0) < p + 1 → B32 ≤ rh + y1 → Q1 = p) := hid (by
        rintro p rfl h1 h2
        have := qd_break' (by omega) hy0l Hun.out hqB h2 h1
        rw [← Hyy.out, ← HQ1.out] at this
        exact this)
      have FinC : Hid (∀ p, q = p + 1 → (hi * B32 + u1) / (y1 * B32 + y0) < p + 1 → rh + y1 < B32 → QdRel y1 y0 hi u1 wr wr (.int .u64 (p : Int)) (.int .u64 ((rh : Int) + (y1 : Int)))) := hid (by
        rintro p rfl h1 h2
        exact QdRel.step Hun.out h1 h2 hqB)
      have FinF : Hid (q * y0 ≤ B32 * rh + u1 → Q1 = q) := hid (by
        intro h
        have := qd_false (by omega) Hun.out h Hle.out
        rw [← Hyy.out, ← HQ1.out] at this
        exact this)
      have Tr1 : Hid (B32 ≤ q → (hi * B32 + u1) / (y1 * B32 + y0) < q) := hid (fun h => qd_true1 (by rw [← Hyy.out]; exact hh) hu1l h)
      have Tr2 : Hid (B32 * rh + u1 < q * y0 → (hi * B32 + u1) / (y1 * B32 + y0) < q) := hid (fun h => qd_true2 (by omega) Hun.out h)
      have g2 : IntKind.u64.wrap ((rh : Int) + (y1 : Int)) = (rh : Int) + (y1 : Int) := by rw [← Int.natCast_add]; exact u64_wrap _ (by unfold B32 W64 at *; omega)
      by_cases hb : B32 ≤ q
      · obtain ⟨p, rfl⟩ : ∃ p, q = p + 1 := ⟨q - 1, by unfold B32 at hb; omega⟩
        have hD := hid (Tr1.out hb)
        have c1 : decide ((4294967296 : Int) ≤ (p : Int) + 1) = true := by unfold B32 at hb; simp; omega
        have g1 : IntKind.u64.wrap (p : Int) = (p : Int) := u64_wrap _ (by unfold B32 W64 at *; omega)
        by_cases hbr : B32 ≤ rh + y1
        · have c2 : decide ((4294967296 : Int) ≤ (rh : Int) + (y1 : Int)) = true := by unfold B32 at hbr; simp; omega
          go_wp2_with fail
          go_meet
          case rel => exact ⟨by rw [FinB.out p rfl hD.out hbr], rfl⟩
        · have c2 : decide ((4294967296 : Int) ≤ (rh : Int) + (y1 : Int)) = false := by unfold B32 at hbr; simp; omega
          go_wp2_with fail
          exact ⟨FinC.out p rfl hD.out (by omega), by simp [intOf]⟩
      · have c1 : decide ((4294967296 : Int) ≤ (q : Int)) = false := by unfold B32 at hb; simp; omega
        have g4 : IntKind.u64.wrap (4294967296 * (rh : Int)) = 4294967296 * (rh : Int) := by
          have := u64_wrap (4294967296 * rh) (by unfold B32 W64 at *; omega)
          rw [Int.natCast_mul] at this; exact this
        have g5 : IntKind.u64.wrap (4294967296 * (rh : Int) + (u1 : Int)) = 4294967296 * (rh : Int) + (u1 : Int) := by
          have := u64_wrap (4294967296 * rh + u1) (by unfold B32 W64 at *; omega)
          rw [Int.natCast_add, Int.natCast_mul] at this; exact this
        have hqy : q * y0 < W64 := by
          have h1 : q * y0 ≤ q * B32 := Nat.mul_le_mul_left _ (by omega)
          have h2 : (q + 1) * B32 ≤ B32 * B32 := Nat.mul_le_mul_right _ (by omega)
          unfold B32 W64 at *; omega
        by_cases hc : B32 * rh + u1 < q * y0
        · obtain ⟨p, rfl⟩ : ∃ p, q = p + 1 := ⟨q - 1, by
            rcases Nat.eq_zero_or_pos q with h | h
            · subst h; rw [Nat.zero_mul] at hc; omega
            · omega⟩
          have hD := hid (Tr2.out hc)
          have c1' : decide ((4294967296 : Int) ≤ (p : Int) + 1) = false := by unfold B32 at hb; simp; omega
          have hpb : p < 4294967296 := by unfold B32 at hb; omega
          clear c1 hb
          obtain ⟨P, hP⟩ : ∃ P, P = (p + 1) * y0 := ⟨_, rfl⟩
          have g3 : IntKind.u64.wrap (((p : Int) + 1) * (y0 : Int)) = (P : Int) := by
            have := u64_wrap ((p + 1) * y0) hqy
            rw [hP]
            rw [Int.natCast_mul, Int.natCast_add] at this ⊢; exact this
          have c3 : decide (4294967296 * (rh : Int) + (u1 : Int) < (P : Int)) = true := by
            rw [← hP] at hc
            have h1 : ((B32 * rh + u1 : Nat) : Int) < (P : Int) := Int.ofNat_lt.mpr hc
            rw [Int.natCast_add, Int.natCast_mul] at h1
            exact decide_eq_true h1
          clear hP
          have g1 : IntKind.u64.wrap (p : Int) = (p : Int) := u64_wrap _ (by unfold W64; omega)
          have Hc := hid hc; have Hqy := hid hqy
          clear hc hqy
          by_cases hbr : B32 ≤ rh + y1
          · have c2 : decide ((4294967296 : Int) ≤ (rh : Int) + (y1 : Int)) = true := by unfold B32 at hbr; simp; omega
            go_wp2_with fail
            go_meet
            case rel => exact ⟨by rw [FinB.out p rfl hD.out hbr], rfl⟩
          · have c2 : decide ((4294967296 : Int) ≤ (rh : Int) + (y1 : Int)) = false := by unfold B32 at hbr; simp; omega
            go_wp2_with fail
            exact ⟨FinC.out p rfl hD.out (by omega), by simp [intOf]⟩
        · have g3 : IntKind.u64.wrap ((q : Int) * (y0 : Int)) = (q : Int) * (y0 : Int) := by
            have := u64_wrap (q * y0) hqy
            rw [Int.natCast_mul] at this; exact this
          have c3 : decide (4294967296 * (rh : Int) + (u1 : Int) < (q : Int) * (y0 : Int)) = false := by
            have h1 : ¬ ((B32 * rh + u1 : Nat) : Int) < ((q * y0 : Nat) : Int) := fun h => hc (Int.ofNat_lt.mp h)
            rw [Int.natCast_mul, Int.natCast_add, Int.natCast_mul] at h1
            exact decide_eq_false h1
          have HF := hid (FinF.out (by omega))
          clear hc hqy
          go_wp2_with fail
          go_meet
          case rel => exact ⟨by rw [HF.out], rfl⟩
  case rest =>
    obtain ⟨rfl, rfl⟩ := hcut
    obtain ⟨R1, hR1⟩ : ∃ R1, R1 = (hi * B32 + u1) % y := ⟨_, rfl⟩
    have hR1l : R1 < y := by rw [hR1]; exact Nat.mod_lt _ (by omega)
    have hdm : hi * B32 + u1 = Q1 * y + R1 := by rw [hQ1, hR1, Nat.mul_comm _ y]; exact (Nat.div_add_mod _ _).symm
    have hQ1l : Q1 < B32 := by rw [hQ1]; exact qd_true1' hh hu1l
    have f20 : IntKind.u64.wrap (IntKind.u64.wrap (IntKind.u64.wrap ((hi : Int) * 4294967296) + (u1 : Int)) - IntKind.u64.wrap ((Q1 : Int) * (y : Int))) = (R1 : Int) := by
      have h1 : (hi : Int) * 4294967296 + (u1 : Int) = (Q1 : Int) * (y : Int) + (R1 : Int) := by
        have := congrArg (fun n : Nat => (n : Int)) hdm
        simp only [Int.natCast_add, Int.natCast_mul] at this
        exact this
      have h2 : (R1 : Int) < 18446744073709551616 := by unfold W64 at hyw; omega
      generalize (Q1 : Int) * (y : Int) = P at *
      simp only [IntKind.wrap_u64]
      omega
    obtain ⟨q2, hq2⟩ : ∃ q2, q2 = R1 / y1 := ⟨_, rfl⟩
    obtain ⟨r2, hr2⟩ : ∃ r2, r2 = R1 % y1 := ⟨_, rfl⟩
    have hRR : R1 = q2 * y1 + r2 := by rw [hq2, hr2, Nat.mul_comm]; exact (Nat.div_add_mod R1 y1).symm
    have hr2l : r2 < y1 := by rw [hr2]; exact Nat.mod_lt _ (by omega)
    have f27 : (R1 : Int).tdiv (y1 : Int) = (q2 : Int) := by rw [hq2]; exact (Int.ofNat_tdiv R1 y1).symm
    have hq2p : q2 * y1 ≤ R1 := by rw [hRR]; omega
    have hq2l : q2 ≤ R1 := by rw [hq2]; exact Nat.div_le_self _ _
    have f28 : IntKind.u64.wrap (q2 : Int) = (q2 : Int) := u64_wrap _ (by omega)
    have f29 : IntKind.u64.wrap ((q2 : Int) * (y1 : Int)) = ((q2 * y1 : Nat) : Int) := by rw [← Int.natCast_mul]; exact u64_wrap _ (by omega)
    have f30 : IntKind.u64.wrap ((R1 : Int) - (q2 : Int) * (y1 : Int)) = (r2 : Int) := by
      have := u64_wrap r2 (by unfold B32 W64 at *; omega)
      rw [← Int.natCast_mul, show (R1 : Int) - ((q2 * y1 : Nat) : Int) = (r2 : Int) by omega]; exact this
    have HRR := hid hRR; have Hq2 := hid hq2; have Hdm := hid hdm; have HQ1 := hid hQ1
    clear hRR hq2 hr2 hR1 hdm hQ1
    go_upto_block 2 with fail
    obtain ⟨Q0, hQ0⟩ : ∃ Q0, Q0 = (R1 * B32 + u0) / y := ⟨_, rfl⟩
    go_cut [18, 16] from 102 to 120 (fun q r wx => q = .int .u64 (Q0 : Int) ∧ wx = wc)
    case first =>
      have HQ0 := hid hQ0
      clear hQ0
      go_wp2_with fail
      go_loopw [18, 16] (fun q r wr => QdRel y1 y0 R1 u0 wc wr q r) (fun q r _ => (intOf q).toNat)
      case atStart =>
        obtain ⟨k1, k2⟩ : R1 / y1 ≤ B32 + 1 ∧ (R1 * B32 + u0) / (y1 * B32 + y0) ≤ R1 / y1 + 0 := by
          rcases qd_start (u1 := u0) hy1g hy0l (by rw [← Hyy.out]; exact hR1l) with h | h
          · exact h
          · omega
        rw [← Hq2.out] at k1 k2
        exact ⟨q2, r2, HRR.out, by omega, k2, k1, rfl, rfl, rfl⟩
      case round =>
        obtain ⟨q, rh, hun, hrh, hle, hqB, rfl, rfl, rfl⟩ := hrel
        have Hun := hid hun; have Hle := hid hle
        clear hun hle
        have FinB : Hid (∀ p, q = p + 1 → (R1 * B32 + u0) / (y1 * B32 + y0) < p + 1 → B32 ≤ rh + y1 → Q0 = p) := hid (by
          rintro p rfl h1 h2
          have := qd_break' (by omega) hy0l Hun.out hqB h2 h1
          rw [← Hyy.out, ← HQ0.out] at this
          exact this)
        have FinC : Hid (∀ p, q = p + 1 → (R1 * B32 + u0) / (y1 * B32 + y0) < p + 1 → rh + y1 < B32 → QdRel y1 y0 R1 u0 wr wr (.int .u64 (p : Int)) (.int .u64 ((rh : Int) + (y1 : Int)))) := hid (by
          rintro p rfl h1 h2
          exact QdRel.step Hun.out h1 h2 hqB)
        have FinF : Hid (q * y0 ≤ B32 * rh + u0 → Q0 = q) := hid (by
          intro h
          have := qd_false (by omega) Hun.out h Hle.out
          rw [← Hyy.out, ← HQ0.out] at this
          exact this)
        have Tr1 : Hid (B32 ≤ q → (R1 * B32 + u0) / (y1 * B32 + y0) < q) := hid (fun h => qd_true1 (by rw [← Hyy.out]; exact hR1l) hu0l h)
        have Tr2 : Hid (B32 * rh + u0 < q * y0 → (R1 * B32 + u0) / (y1 * B32 + y0) < q) := hid (fun h => qd_true2 (by omega) Hun.out h)
        have g2 : IntKind.u64.wrap ((rh : Int) + (y1 : Int)) = (rh : Int) + (y1 : Int) := by rw [← Int.natCast_add]; exact u64_wrap _ (by unfold B32 W64 at *; omega)
        by_cases hb : B32 ≤ q
        · obtain ⟨p, rfl⟩ : ∃ p, q = p + 1 := ⟨q - 1, by unfold B32 at hb; omega⟩
          have hD := hid (Tr1.out hb)
          have c1 : decide ((4294967296 : Int) ≤ (p : Int) + 1) = true := by unfold B32 at hb; simp; omega
          have g1 : IntKind.u64.wrap (p : Int) = (p : Int) := u64_wrap _ (by unfold B32 W64 at *; omega)
          by_cases hbr : B32 ≤ rh + y1
          · have c2 : decide ((4294967296 : Int) ≤ (rh : Int) + (y1 : Int)) = true := by unfold B32 at hbr; simp; omega
            go_wp2_with fail
            go_meet
            case rel => exact ⟨by rw [FinB.out p rfl hD.out hbr], rfl⟩
          · have c2 : decide ((4294967296 : Int) ≤ (rh : Int) + (y1 : Int)) = false := by unfold B32 at hbr; simp; omega
            go_wp2_with fail
            exact ⟨FinC.out p rfl hD.out (by omega), by simp [intOf]⟩
        · have c1 : decide ((4294967296 : Int) ≤ (q : Int)) = false := by unfold B32 at hb; simp; omega
          have g4 : IntKind.u64.wrap (4294967296 * (rh : Int)) = 4294967296 * (rh : Int) := by
            have := u64_wrap (4294967296 * rh) (by unfold B32 W64 at *; omega)
            rw [Int.natCast_mul] at this; exact this
          have g5 : IntKind.u64.wrap (4294967296 * (rh : Int) + (u0 : Int)) = 4294967296 * (rh : Int) + (u0 : Int) := by
            have := u64_wrap (4294967296 * rh + u0) (by unfold B32 W64 at *; omega)
            rw [Int.natCast_add, Int.natCast_mul] at this; exact this
          have hqy : q * y0 < W64 := by
            have h1 : q * y0 ≤ q * B32 := Nat.mul_le_mul_left _ (by omega)
            have h2 : (q + 1) * B32 ≤ B32 * B32 := Nat.mul_le_mul_right _ (by omega)
            unfold B32 W64 at *; omega
          by_cases hc : B32 * rh + u0 < q * y0
          · obtain ⟨p, rfl⟩ : ∃ p, q = p + 1 := ⟨q - 1, by
              rcases Nat.eq_zero_or_pos q with h | h
              · subst h; rw [Nat.zero_mul] at hc; omega
              · omega⟩
            have hD := hid (Tr2.out hc)
            have c1' : decide ((4294967296 : Int) ≤ (p : Int) + 1) = false := by unfold B32 at hb; simp; omega
            have hpb : p < 4294967296 := by unfold B32 at hb; omega
            clear c1 hb
            obtain ⟨P, hP⟩ : ∃ P, P = (p + 1) * y0 := ⟨_, rfl⟩
            have g3 : IntKind.u64.wrap (((p : Int) + 1) * (y0 : Int)) = (P : Int) := by
              have := u64_wrap ((p + 1) * y0) hqy
              rw [hP]
              rw [Int.natCast_mul, Int.natCast_add] at this ⊢; exact this
            have c3 : decide (4294967296 * (rh : Int) + (u0 : Int) < (P : Int)) = true := by
              rw [← hP] at hc
              have h1 : ((B32 * rh + u0 : Nat) : Int) < (P : Int) := Int.ofNat_lt.mpr hc
              rw [Int.natCast_add, Int.natCast_mul] at h1
              exact decide_eq_true h1
            clear hP
            have g1 : IntKind.u64.wrap (p : Int) = (p : Int) := u64_wrap _ (by unfold W64; omega)
            have Hc := hid hc; have Hqy := hid hqy
            clear hc hqy
            by_cases hbr : B32 ≤ rh + y1
            · have c2 : decide ((4294967296 : Int) ≤ (rh : Int) + (y1 : Int)) = true := by unfold B32 at hbr; simp; omega
              go_wp2_with fail
              go_meet
              case rel => exact ⟨by rw [FinB.out p rfl hD.out hbr], rfl⟩
            · have c2 : decide ((4294967296 : Int) ≤ (rh : Int) + (y1 : Int)) = false := by unfold B32 at hbr; simp; omega
              go_wp2_with fail
              exact ⟨FinC.out p rfl hD.out (by omega), by simp [intOf]⟩
          · have g3 : IntKind.u64.wrap ((q : Int) * (y0 : Int)) = (q : Int) * (y0 : Int) := by
              have := u64_wrap (q * y0) hqy
              rw [Int.natCast_mul] at this; exact this
            have c3 : decide (4294967296 * (rh : Int) + (u0 : Int) < (q : Int) * (y0 : Int)) = false := by
              have h1 : ¬ ((B32 * rh + u0 : Nat) : Int) < ((q * y0 : Nat) : Int) := fun h => hc (Int.ofNat_lt.mp h)
              rw [Int.natCast_mul, Int.natCast_add, Int.natCast_mul] at h1
              exact decide_eq_false h1
            have HF := hid (FinF.out (by omega))
            clear hc hqy
            go_wp2_with fail
            go_meet
            case rel => exact ⟨by rw [HF.out], rfl⟩
    case rest =>
      obtain ⟨rfl, rfl⟩ := hcut
      have hQ0l : Q0 < B32 := by rw [hQ0]; exact qd_true1' hR1l hu0l
      have hQQ : (hi * W64 + lo) / y = Q1 * B32 + Q0 := by
        have e1 : hi * W64 + lo = y * (Q1 * B32 + Q0) + (R1 * B32 + u0) % y := by
          have e2 : R1 * B32 + u0 = y * Q0 + (R1 * B32 + u0) % y := by rw [hQ0]; exact (Nat.div_add_mod _ _).symm
          have e3 : hi * W64 + lo = (hi * B32 + u1) * B32 + u0 := by
            rw [Hll.out, Nat.add_mul, Nat.mul_assoc, show B32 * B32 = W64 from rfl, Nat.add_assoc]
          rw [e3, Hdm.out, Nat.add_mul, Nat.add_assoc, e2, Nat.mul_add, ← Nat.add_assoc, Nat.mul_comm Q1 y, Nat.mul_assoc]
          have e4 : (R1 * B32 + u0) % y = (y * Q0 + (R1 * B32 + u0) % y) % y := by rw [← e2]
          rw [← e4]
        rw [e1, Nat.mul_add_div (by omega), Nat.div_eq_of_lt (Nat.mod_lt _ (by omega)), Nat.add_zero]
      have f40 : IntKind.u64.wrap (IntKind.u64.wrap ((Q1 : Int) * 4294967296) + (Q0 : Int)) = ((Q1 * B32 + Q0 : Nat) : Int) := by
        unfold B32 at *
        simp only [IntKind.wrap_u64]
        omega
      have HQ0 := hid hQ0; have HQQ := hid hQQ
      clear hQ0 hQQ
      go_wp2_with fail
      go_ret2
      refine ⟨IntKind.u64.wrap (IntKind.u64.wrap (IntKind.u64.wrap ((R1 : Int) * 4294967296) + (u0 : Int)) - IntKind.u64.wrap ((Q0 : Int) * (y : Int))), ?_, 0, rfl⟩
      rw [HQQ.out, Int.natCast_add, Int.natCast_mul]
      rfl
end Go.Proofs
namespace Go.Proofs
open Go.RowKit
set_option maxHeartbeats 400000
set_option linter.unusedVariables false
set_option linter.unusedSimpArgs false
set_option maxRecDepth 100000

/-- The reciprocal of a word that has been shifted up. -/
def rcp (y : Nat) : Nat := (W64 * W64 - 1) / (y * 2 ^ nz y) - W64

theorem rcp_facts {D : Nat} (h1 : 2 ^ 63 ≤ D) (h2 : D < W64) : ∃ v e, (W64 * W64 - 1) / D = v ∧ W64 ≤ v ∧ v < 2 * W64 ∧ v * D + e = W64 * W64 - 1 ∧ e < D := by
  refine ⟨_, (W64 * W64 - 1) % D, rfl, ?_, ?_, ?_, Nat.mod_lt _ (by omega)⟩
  · rw [Nat.le_div_iff_mul_le (by omega)]
    unfold W64 at *; omega
  · rw [Nat.div_lt_iff_lt_mul (by omega)]
    unfold W64 at *; omega
  · rw [Nat.mul_comm]; exact Nat.div_add_mod _ _

theorem rcp_lt {y : Nat} (h0 : y ≠ 0) (h : y < W64) : rcp y < W64 := by
  obtain ⟨h1, h2⟩ := nz_shift h0 h
  obtain ⟨v, e, hv, hv1, hv2, _⟩ := rcp_facts h1 h2
  unfold rcp
  rw [hv]
  omega

theorem bitsDiv_top (hi lo y : Nat) (w : World) (hy : 2 ^ 63 ≤ y) (hyw : y < W64) (hh : hi < y) (hl : lo < W64) :
    Calls Tryz.prog 308 #[.int .u64 (hi : Int), .int .u64 (lo : Int), .int .u64 (y : Int)] w fun e w' => ∃ r : Int, e = .returned (.tuple #[.int .u64 (((hi * W64 + lo) / y : Nat) : Int), .int .u64 r]) ∧ ∃ k, w' = w.drewN k := by
  have hc : Hid (Calls Tryz.prog 327 #[.int .u64 (hi : Int), .int .u64 (lo : Int), .int .u64 (y : Int)] w fun e w' => ∃ r : Int, e = .returned (.tuple #[.int .u64 (((hi * W64 + lo) / y : Nat) : Int), .int .u64 r]) ∧ ∃ k, w' = w.drewN k) := hid (by
    by_cases h0 : hi = 0
    · subst h0
      refine (bitsDiv64_zero lo y w (by omega) hyw hl).mono ?_
      rintro e w' ⟨rfl, h⟩
      rw [Nat.zero_mul, Nat.zero_add]
      exact ⟨_, rfl, h⟩
    · exact bitsDiv64_top hi lo y w hy hyw (by omega) hh hl)
  clear hy hyw hh hl
  go_enter Tryz.func308, Tryz.ntmps308
  go_wp2_with fail
  refine hc.out.mono ?_
  rintro e w1 ⟨r, rfl, k, rfl⟩
  go_wp2_with fail
  go_ret2
  exact ⟨r, rfl, k, rfl⟩

theorem bitsDiv_zero (lo y : Nat) (w : World) (hy : 0 < y) (hyw : y < W64) (hl : lo < W64) :
    Calls Tryz.prog 308 #[.int .u64 0, .int .u64 (lo : Int), .int .u64 (y : Int)] w fun e w' => e = .returned (.tuple #[.int .u64 ((lo / y : Nat) : Int), .int .u64 ((lo % y : Nat) : Int)]) ∧ ∃ k, w' = w.drewN k := by
  obtain ⟨q, hq⟩ : ∃ q, q = lo / y := ⟨_, rfl⟩
  obtain ⟨r, hr⟩ : ∃ r, r = lo % y := ⟨_, rfl⟩
  have hc := hid (bitsDiv64_zero lo y w hy hyw hl)
  rw [← hq, ← hr] at hc ⊢
  clear hy hyw hl hq hr
  go_enter Tryz.func308, Tryz.ntmps308
  go_wp2_with fail
  refine hc.out.mono ?_
  rintro e w1 ⟨rfl, k, rfl⟩
  go_wp2_with fail
  go_ret2
  exact ⟨rfl, k, rfl⟩

theorem rcp_div {D : Nat} (h1 : 2 ^ 63 ≤ D) (h2 : D < W64) : ((W64 - 1 - D) * W64 + (W64 - 1)) / D = (W64 * W64 - 1) / D - W64 := by
  have e : W64 * W64 - 1 = ((W64 - 1 - D) * W64 + (W64 - 1)) + D * W64 := by unfold W64 at *; omega
  rw [e, Nat.add_mul_div_left _ _ (by omega), Nat.add_sub_cancel]

theorem xor_max (D : Nat) (h : D < W64) : bits BinOp.xor IntKind.u64 IntKind.u64.max (D : Int) = ((W64 - 1 - D : Nat) : Int) := by
  have h1 : BitVec.ofInt 64 IntKind.u64.max = BitVec.allOnes 64 := by decide
  have h2 : (BitVec.ofInt 64 (D : Int)).toNat = D := by
    rw [BitVec.ofInt_natCast, BitVec.toNat_ofNat]; exact Nat.mod_eq_of_lt h
  show IntKind.u64.wrap ((BitVec.ofInt 64 IntKind.u64.max ^^^ BitVec.ofInt 64 (D : Int)).toNat : Int) = _
  rw [h1, BitVec.allOnes_xor, BitVec.toNat_not, h2, IntKind.wrap_u64]
  unfold W64 at *
  omega

theorem reciprocalWord_any (y : Nat) (w : World) (h0 : y ≠ 0) (h : y < W64) :
    Calls Tryz.prog 309 #[.int .u64 (y : Int)] w fun e w' => e = .returned (.int .u64 (rcp y : Int)) ∧ ∃ k, w' = w.drewN k := by
  obtain ⟨h1, h2⟩ := nz_shift h0 h
  obtain ⟨D, hD⟩ : ∃ D, D = y * 2 ^ nz y := ⟨_, rfl⟩
  rw [← hD] at h1 h2
  have h2' : D < W64 := h2
  obtain ⟨_, hbl, _⟩ := nz_facts h0 h
  have hk : nz y ≤ 63 := (nz_facts h0 h).1
  have hwD : IntKind.u64.wrap ((y : Int) * 2 ^ nz y) = (D : Int) := by
    have := u64_wrap D h2'
    rw [hD] at this ⊢
    rw [Int.natCast_mul, Int.natCast_pow] at this ⊢; exact this
  have hx := xor_max D h2'
  obtain ⟨N, hN⟩ : ∃ N, N = W64 - 1 - D := ⟨_, rfl⟩
  rw [← hN] at hx
  have H2 := hid h2'; have HD := hid hD; have HN := hid hN; have H1 := hid h1
  clear hbl h2 h2' hD hN h1
  go_enter Tryz.func309, Tryz.ntmps309
  go_wp2_with fail
  refine (nlz_any y _ h0 h).mono ?_
  rintro e w1 ⟨rfl, rfl⟩
  go_wp2_with fail
  refine (bitsDiv_top N (W64 - 1) D _ H1.out H2.out (by rw [HN.out]; have := H1.out; have := H2.out; unfold W64 at *; omega) (by unfold W64; omega)).mono ?_
  rintro e w2 ⟨r, rfl, k, rfl⟩
  have e1 : (N * W64 + (W64 - 1)) / D = rcp y := by
    rw [HN.out, rcp_div H1.out H2.out, HD.out]; rfl
  rw [e1]
  clear e1
  go_wp2_with fail
  go_ret
  exact ⟨rfl, k, rfl⟩
end Go.Proofs
namespace Go.Proofs
open Go.RowKit
set_option maxHeartbeats 400000
set_option linter.unusedVariables false
set_option linter.unusedSimpArgs false
set_option maxRecDepth 100000

theorem divWW_law {D x1 x0 m qq s t1 t0 c c2 d1 d0 r0 r1 b b2 : Nat} (h1 : 2 ^ 63 ≤ D) (h2 : D < W64) (hx1 : x1 < D) (hx0 : x0 < W64)
    (hm : m = (W64 * W64 - 1) / D - W64)
    (ht : t0 + W64 * t1 = m * x1) (hs : s + W64 * c = t0 + x0 + 0) (hsl : s < W64) (hq : qq + W64 * c2 = t1 + x1 + c)
    (hd : d0 + W64 * d1 = D * qq) (hr0 : r0 + d0 + 0 = x0 + W64 * b) (hr1 : r1 + d1 + b = x1 + W64 * b2) (hr0l : r0 < W64) (hr1l : r1 < W64) :
    x1 * W64 + x0 = D * qq + (r0 + W64 * r1) ∧ r0 + W64 * r1 < W64 + D := by
  obtain ⟨v, e, hv, hv1, hv2, hve, he⟩ := rcp_facts h1 h2
  rw [hv] at hm
  have hmv : v = m + W64 := by omega
  -- products
  have e1 : v * x1 = m * x1 + W64 * x1 := by rw [hmv, Nat.add_mul]
  have e2 : v * D * x1 + e * x1 = (W64 * W64 - 1) * x1 := by rw [← Nat.add_mul, hve]
  have e3 : D * (v * x1 + x0) = v * D * x1 + D * x0 := by rw [Nat.mul_add, ← Nat.mul_assoc, Nat.mul_comm D v]
  have e4 : v * x1 + v ≤ v * D := by rw [← Nat.mul_succ]; exact Nat.mul_le_mul_left _ hx1
  have hc2 : c2 = 0 := by
    have : W64 * (qq + W64 * c2) + s = v * x1 + x0 := by rw [hq, e1, Nat.mul_add, Nat.mul_add]; omega
    generalize v * x1 = P at *
    generalize v * D = Q at *
    unfold W64 at *
    omega
  subst hc2
  have e5 : v * x1 + x0 = W64 * qq + s := by
    rw [e1, ← ht]
    unfold W64 at *
    omega
  have e6 : D * (v * x1 + x0) = W64 * (D * qq) + D * s := by rw [e5, Nat.mul_add, ← Nat.mul_assoc, Nat.mul_comm D W64, Nat.mul_assoc]
  have e7 : e * x1 + x1 ≤ D * x1 := by rw [← Nat.succ_mul]; exact Nat.mul_le_mul_right _ he
  have e8 : D * x1 ≤ D * (W64 - 1) := Nat.mul_le_mul_left _ (by omega)
  have e9 : D * s ≤ D * (W64 - 1) := Nat.mul_le_mul_left _ (by omega)
  have e10 : (W64 - D) * x0 ≤ (W64 - D) * (W64 - 1) := Nat.mul_le_mul_left _ (by omega)
  have e11 : (W64 - D) * x0 + D * x0 = W64 * x0 := by rw [← Nat.add_mul]; congr 1; omega
  rw [e3] at e6
  generalize v * D * x1 = A at *
  generalize v * x1 = P at *
  generalize m * x1 = M at *
  generalize e * x1 = E at *
  generalize D * x1 = G at *
  generalize D * s = T at *
  generalize (W64 - D) * x0 = K at *
  generalize D * x0 = B at *
  generalize D * qq = C at *
  have hC : C ≤ x1 * W64 + x0 := by
    unfold W64 at *
    omega
  have hR : x1 * W64 + x0 < C + (W64 + D) := by
    unfold W64 at *
    omega
  have hb2 : b2 = 0 ∨ 0 < b2 := by omega
  rcases hb2 with hb2 | hb2
  · subst hb2
    unfold W64 at *
    omega
  · exfalso
    unfold W64 at *
    omega

/-- The corrected quotient and rest. -/
theorem divWW_fin {X D qq R : Nat} (h : X = D * qq + R) (hR : R < W64 + D) (h1 : 2 ^ 63 ≤ D) (h2 : D < W64) :
    (W64 ≤ R ∧ (D ≤ R - D ∧ X / D = qq + 2 ∧ X % D = R - 2 * D ∨ R - D < D ∧ X / D = qq + 1 ∧ X % D = R - D) ∨ R < W64 ∧ (D ≤ R ∧ X / D = qq + 1 ∧ X % D = R - D ∨ R < D ∧ X / D = qq ∧ X % D = R)) := by
  have key : ∀ k S, R = k * D + S → S < D → X / D = qq + k ∧ X % D = S := by
    intro k S h3 h4
    have h5 : X = S + D * (qq + k) := by rw [h, h3, Nat.mul_add, Nat.mul_comm k D]; omega
    rw [h5]
    constructor
    · rw [Nat.add_mul_div_left _ _ (by omega), Nat.div_eq_of_lt h4, Nat.zero_add]
    · rw [Nat.add_mul_mod_self_left, Nat.mod_eq_of_lt h4]
  by_cases hw : W64 ≤ R
  · refine .inl ⟨hw, ?_⟩
    by_cases hd : D ≤ R - D
    · exact .inl ⟨hd, key 2 (R - 2 * D) (by omega) (by unfold W64 at *; omega)⟩
    · exact .inr ⟨by omega, key 1 (R - D) (by omega) (by omega)⟩
  · refine .inr ⟨by omega, ?_⟩
    by_cases hd : D ≤ R
    · exact .inl ⟨hd, key 1 (R - D) (by omega) (by unfold W64 at *; omega)⟩
    · exact .inr ⟨by omega, key 0 R (by omega) (by omega)⟩

theorem shl_or {x1 x0 s : Nat} (hs : s ≤ 63) (h0 : 0 < s) (hx0 : x0 < W64) (h : x1 * 2 ^ s < W64) :
    bits BinOp.or IntKind.u64 ((x1 * 2 ^ s : Nat) : Int) ((x0 / 2 ^ (64 - s) : Nat) : Int) = ((x1 * 2 ^ s + x0 / 2 ^ (64 - s) : Nat) : Int) := by
  have hb : x0 / 2 ^ (64 - s) < 2 ^ s := by
    rw [Nat.div_lt_iff_lt_mul (Nat.two_pow_pos _), ← Nat.pow_add, show s + (64 - s) = 64 from by omega]
    exact hx0
  have h1 := bits_or_u64_nat (x1 * 2 ^ s) (x0 / 2 ^ (64 - s)) h (Nat.lt_of_le_of_lt (Nat.div_le_self _ _) hx0)
  rw [h1]
  congr 1
  rw [← Nat.shiftLeft_eq, ← Nat.shiftLeft_add_eq_or_of_lt hb]

theorem divWW_any (x1 x0 y : Nat) (w : World) (h0 : y ≠ 0) (hy : y < W64) (hx1 : x1 < y) (hx0 : x0 < W64) :
    Calls Tryz.prog 310 #[.int .u64 (x1 : Int), .int .u64 (x0 : Int), .int .u64 (y : Int), .int .u64 (rcp y : Int)] w fun e w' => e = .returned (.tuple #[.int .u64 (((x1 * W64 + x0) / y : Nat) : Int), .int .u64 (((x1 * W64 + x0) % y : Nat) : Int)]) ∧ ∃ k, w' = w.drewN k := by
  obtain ⟨hD1, hD2⟩ := nz_shift h0 hy
  obtain ⟨hs63, _, _, _⟩ := nz_facts h0 hy
  obtain ⟨s, hs⟩ : ∃ s, s = nz y := ⟨_, rfl⟩
  obtain ⟨m, hm⟩ : ∃ m, m = rcp y := ⟨_, rfl⟩
  have hml : m < W64 := by rw [hm]; exact rcp_lt h0 hy
  have hmr : m = (W64 * W64 - 1) / (y * 2 ^ s) - W64 := by rw [hm, hs]; rfl
  rw [← hs] at hD1 hD2 hs63
  rw [← hm]
  have hnl := hid (show ∀ w : World, Calls Tryz.prog 276 #[.int .u64 (y : Int)] w fun e w' => e = .returned (.int .u64 (s : Int)) ∧ w' = w from fun w => by rw [hs]; exact nlz_any y w h0 hy)
  have H0 := hid h0; have Hy := hid hy; have Hx1 := hid hx1; have Hx0 := hid hx0; have HD1 := hid hD1; have HD2 := hid hD2; have Hml := hid hml; have Hmr := hid hmr
  clear h0 hy hx1 hx0 hD1 hD2 hml hmr hs hm
  go_enter Tryz.func310, Tryz.ntmps310
  go_wp2_with fail
  refine (hnl.out _).mono ?_
  rintro e w1 ⟨rfl, rfl⟩
  go_upto_if 26 with fail
  go_cut [0, 1, 2] from 27 to 40 (fun a b c wx => ∃ A B D : Nat, a = .int .u64 (A : Int) ∧ b = .int .u64 (B : Int) ∧ c = .int .u64 (D : Int) ∧ A * W64 + B = (x1 * W64 + x0) * 2 ^ s ∧ D = y * 2 ^ s ∧ B < W64 ∧ wx = w1)
  case first =>
    by_cases hs0 : s = 0
    · subst hs0
      go_wp2_with fail
      go_meet
      case rel => exact ⟨x1, x0, y, rfl, rfl, rfl, by simp, by simp, Hx0.out, rfl⟩
    · have t1 : ((s : Int) != 0) = true := by simp; omega
      have hx1s : x1 * 2 ^ s < W64 := Nat.lt_trans (Nat.mul_lt_mul_of_pos_right Hx1.out (Nat.two_pow_pos _)) HD2.out
      have g1 := shl_or (x0 := x0) hs63 (by omega) Hx0.out hx1s
      have g2 : IntKind.u64.wrap ((x1 : Int) * 2 ^ s) = ((x1 * 2 ^ s : Nat) : Int) := by
        have := u64_wrap _ hx1s
        rw [Int.natCast_mul, Int.natCast_pow] at this ⊢; exact this
      have hx0s : x0 * 2 ^ s = x0 / 2 ^ (64 - s) * W64 + x0 * 2 ^ s % W64 := by
        have h1 : x0 * 2 ^ s / W64 = x0 / 2 ^ (64 - s) := by
          rw [W64_two, show (64 : Nat) = (64 - s) + s from by omega, Nat.pow_add, Nat.mul_div_mul_right _ _ (Nat.two_pow_pos _)]
          rw [show 64 - s + s - s = 64 - s from by omega]
        rw [← h1, Nat.mul_comm _ W64]
        exact (Nat.div_add_mod _ _).symm
      have Hx0s := hid hx0s; have Hx1s := hid hx1s
      clear hx0s hx1s
      go_wp2_with fail
      go_meet
      case rel =>
        refine ⟨x1 * 2 ^ s + x0 / 2 ^ (64 - s), x0 * 2 ^ s % W64, y * 2 ^ s, ?_, ?_, ?_, ?_, rfl, Nat.mod_lt _ W64_pos, rfl⟩
        · rw [← g1, Int.natCast_mul, Int.natCast_pow, Int.natCast_ediv, Int.natCast_pow]
          rfl
        · rw [← u64_wrapM, Int.natCast_mul, Int.natCast_pow]; rfl
        · rw [← u64_wrap _ HD2.out, Int.natCast_mul, Int.natCast_pow]; rfl
        · rw [Nat.add_mul, Nat.add_assoc, ← Hx0s.out, Nat.add_mul, Nat.mul_assoc, Nat.mul_assoc, Nat.mul_comm W64]
  case rest =>
    obtain ⟨A, B, D, rfl, rfl, rfl, hX, hD, hB, rfl⟩ := hcut
    have hAD : A < D := by
      have h1 : A * W64 < D * W64 := by
        rw [hD]
        have h2 : (x1 + 1) * W64 ≤ y * W64 := Nat.mul_le_mul_right _ Hx1.out
        have h3 : x1 * W64 + x0 < y * W64 := by have := Hx0.out; rw [Nat.add_mul] at h2; omega
        have h4 : (x1 * W64 + x0) * 2 ^ s < y * W64 * 2 ^ s := Nat.mul_lt_mul_of_pos_right h3 (Nat.two_pow_pos _)
        rw [Nat.mul_right_comm]
        omega
      exact Nat.lt_of_mul_lt_mul_right h1
    have hD1 : 2 ^ 63 ≤ D := by rw [hD]; exact HD1.out
    have hD2 : D < W64 := by rw [hD]; exact HD2.out
    have hmD : m = (W64 * W64 - 1) / D - W64 := by rw [hD]; exact Hmr.out
    have hAl : A < W64 := by omega
    have Hres : Hid (∀ Q R, (A * W64 + B) / D = Q → (A * W64 + B) % D = R → (x1 * W64 + x0) / y = Q ∧ (x1 * W64 + x0) % y = R / 2 ^ s) := hid (by
      rintro Q R rfl rfl
      rw [hX, hD]
      constructor
      · rw [Nat.mul_div_mul_right _ _ (Nat.two_pow_pos _)]
      · rw [Nat.mul_mod_mul_right, Nat.mul_div_cancel _ (Nat.two_pow_pos _)])
    have HD := hid hD; have HX := hid hX; have HB := hid hB; have HAD := hid hAD; have HD1 := hid hD1; have HD2 := hid hD2; have HmD := hid hmD; have HAl := hid hAl
    clear hD hX hB hAD hD1 hD2 hmD hAl
    go_wp2_with fail
    refine (bits_Mul m A Hml.out HAl.out _).mono ?_
    rintro e w2 ⟨rfl, rfl⟩
    have k1 := hid (mu_eq m A); have k1' := hid (muLo_lt m A); have k1'' := hid (muHi_lt Hml.out HAl.out)
    generalize muLo m A = t0 at *
    generalize muHi m A = t1 at *
    go_wp2_with fail
    refine (bits_Add t0 B 0 (by omega) _).mono ?_
    rintro e w3 ⟨rfl, rfl⟩
    have k2 := hid (ad_eq t0 B 0); have k2' := hid (adLo_lt t0 B 0); have k2'' := hid (adHi_le k1'.out HB.out (Nat.zero_le 1))
    generalize adLo t0 B 0 = sl at *
    generalize adHi t0 B 0 = c at *
    go_wp2_with fail
    refine (bits_Add t1 A c k2''.out _).mono ?_
    rintro e w4 ⟨rfl, rfl⟩
    have k3 := hid (ad_eq t1 A c); have k3' := hid (adLo_lt t1 A c)
    generalize adLo t1 A c = qq at *
    generalize adHi t1 A c = c2 at *
    go_wp2_with fail
    refine (bits_Mul D qq HD2.out k3'.out _).mono ?_
    rintro e w5 ⟨rfl, rfl⟩
    have k4 := hid (mu_eq D qq); have k4' := hid (muLo_lt D qq); have k4'' := hid (muHi_lt HD2.out k3'.out)
    generalize muLo D qq = d0 at *
    generalize muHi D qq = d1 at *
    go_wp2_with fail
    refine (bits_Sub B d0 0 (by omega) _).mono ?_
    rintro e w6 ⟨rfl, rfl⟩
    have k5 := hid (sb_eq HB.out k4'.out (Nat.zero_le 1)); have k5' := hid (sbLo_lt B d0 0); have k5'' := hid (sbHi_le B d0 0)
    generalize sbLo B d0 0 = r0 at *
    generalize sbHi B d0 0 = b at *
    go_wp2_with fail
    refine (bits_Sub A d1 b k5''.out _).mono ?_
    rintro e w7 ⟨rfl, rfl⟩
    have k6 := hid (sb_eq HAl.out k4''.out k5''.out); have k6' := hid (sbLo_lt A d1 b)
    generalize sbLo A d1 b = r1 at *
    generalize sbHi A d1 b = b2 at *
    obtain ⟨hL, hR⟩ := divWW_law HD1.out HD2.out HAD.out HB.out HmD.out k1.out k2.out k2'.out k3.out k4.out k5.out k6.out k5'.out k6'.out
    have hF := divWW_fin hL hR HD1.out HD2.out
    have hQl : (A * W64 + B) / D < W64 := by
      rw [Nat.div_lt_iff_lt_mul (by have := HD1.out; omega)]
      have h1 : (A + 1) * W64 ≤ D * W64 := Nat.mul_le_mul_right _ HAD.out
      have h2 := HB.out
      rw [Nat.mul_comm W64 D]
      rw [Nat.add_mul] at h1
      omega
    have k5l := k5'.out
    have hDl := HD2.out
    have hD1 := HD1.out
    have Fin : ∀ Q R : Nat, (A * W64 + B) / D = Q → (A * W64 + B) % D = R → (Ending.returned (.tuple #[.int .u64 (Q : Int), .int .u64 ((R : Int) / 2 ^ s)]) = .returned (.tuple #[.int .u64 (((x1 * W64 + x0) / y : Nat) : Int), .int .u64 (((x1 * W64 + x0) % y : Nat) : Int)]) ∧ ∃ k, wc = wc.drewN k) := by
      intro Q R h1 h2
      obtain ⟨h3, h4⟩ := Hres.out Q R h1 h2
      refine ⟨?_, 0, rfl⟩
      rw [h3, h4, Int.natCast_ediv, Int.natCast_pow]
      rfl
    have HFin := hid Fin
    clear hL k1 k2 k3 k4 k5 k6 Fin
    generalize (A * W64 + B) / D = XQ at *
    generalize (A * W64 + B) % D = XR at *
    rcases hF with ⟨hw, hF⟩ | ⟨hw, hF⟩
    · have hr1 : r1 = 1 := by unfold W64 at *; omega
      subst hr1
      have gq1 : IntKind.u64.wrap ((qq : Int) + 1) = (qq : Int) + 1 := by
        have := u64_wrap (qq + 1) (by rcases hF with ⟨_, h, _⟩ | ⟨_, h, _⟩ <;> omega)
        rw [Int.natCast_add] at this; exact this
      obtain ⟨S, hS⟩ : ∃ S, S = r0 + W64 * 1 - D := ⟨_, rfl⟩
      have gr : IntKind.u64.wrap ((r0 : Int) - (D : Int)) = (S : Int) := by
        rw [hS, IntKind.wrap_u64]
        rcases hF with ⟨h, _⟩ | ⟨h, _⟩ <;> (unfold W64 at *; omega)
      rw [← hS] at hF
      rcases hF with ⟨h1, h2, h3⟩ | ⟨h1, h2, h3⟩
      · have gq2 : IntKind.u64.wrap ((qq : Int) + 1 + 1) = ((qq + 2 : Nat) : Int) := by
          have := u64_wrap (qq + 2) (by omega)
          rw [Int.natCast_add] at this ⊢
          rw [Int.add_assoc]; exact this
        have gq3 : IntKind.u64.wrap ((qq : Int) + 2) = ((qq + 2 : Nat) : Int) := by
          have := u64_wrap (qq + 2) (by omega)
          rw [Int.natCast_add] at this ⊢
          exact this
        obtain ⟨S2, hS2⟩ : ∃ S2, S2 = S - D := ⟨_, rfl⟩
        have gr2 : IntKind.u64.wrap ((S : Int) - (D : Int)) = (S2 : Int) := by
          rw [hS2, IntKind.wrap_u64]
          unfold W64 at *; omega
        have h3' : XR = S2 := by rw [h3, hS2, hS]; omega
        have c1 : decide ((D : Int) ≤ (S : Int)) = true := by simp; exact h1
        have HE := hid (HFin.out _ _ h2 h3')
        clear hS hS2 h2 h3 h3' hw hQl k5l hDl hD1 hR
        go_wp2_with fail
        go_ret2
        exact HE.out
      · have c1 : decide ((D : Int) ≤ (S : Int)) = false := by simp; exact h1
        have h3' : XR = S := by rw [h3, hS]
        have HE := hid (HFin.out _ _ h2 h3')
        clear hS h2 h3 h3' hw hQl k5l hDl hD1 hR
        go_wp2_with fail
        go_ret2
        exact HE.out
    · have hr1 : r1 = 0 := by unfold W64 at *; omega
      subst hr1
      rw [Nat.mul_zero, Nat.add_zero] at hF
      rcases hF with ⟨h1, h2, h3⟩ | ⟨h1, h2, h3⟩
      · have gq1 : IntKind.u64.wrap ((qq : Int) + 1) = (qq : Int) + 1 := by
          have := u64_wrap (qq + 1) (by omega)
          rw [Int.natCast_add] at this; exact this
        obtain ⟨S, hS⟩ : ∃ S, S = r0 - D := ⟨_, rfl⟩
        have gr : IntKind.u64.wrap ((r0 : Int) - (D : Int)) = (S : Int) := by
          rw [hS, IntKind.wrap_u64]
          unfold W64 at *; omega
        have c1 : decide ((D : Int) ≤ (r0 : Int)) = true := by simp; exact h1
        have h3' : XR = S := by rw [h3, hS]
        have HE := hid (HFin.out _ _ h2 h3')
        clear hS h2 h3 h3' hw hQl k5l hDl hD1 hR
        go_wp2_with fail
        go_ret2
        exact HE.out
      · have c1 : decide ((D : Int) ≤ (r0 : Int)) = false := by simp; exact h1
        have HE := hid (HFin.out _ _ h2 h3)
        clear h2 h3 hw hQl k5l hDl hD1 hR
        go_wp2_with fail
        go_ret2
        exact HE.out
end Go.Proofs
namespace Go.Proofs
open Go.RowKit
set_option maxHeartbeats 400000
set_option linter.unusedVariables false
set_option linter.unusedSimpArgs false
set_option maxRecDepth 100000

theorem splice_cons {α : Type} {L : List α} {o : Nat} {R : List α} {v : α} (h : o + 1 + R.length ≤ L.length) :
    (splice L (o + 1) R).set o v = splice L o (v :: R) := by
  unfold splice
  have h1 : L.take (o + 1) = L.take o ++ [L[o]'(by omega)] := by rw [List.take_succ_eq_append_getElem (by omega)]
  rw [h1, List.append_assoc, List.append_assoc, List.set_append_right _ _ (by simp; omega)]
  simp only [List.length_take]
  rw [show o - min o L.length = 0 from by omega]
  simp only [List.singleton_append, List.set_cons_zero, List.length_cons, List.append_assoc, List.cons_append]
  rw [show o + 1 + R.length = o + (R.length + 1) from by omega, List.nil_append]

/-- What a division by one word leaves. -/
def DivRes (w : World) (zb zo n : Nat) (Z : List Nat) (V y : Nat) (e : Ending) (w' : World) : Prop :=
  ∃ R : List Nat, R.length = n ∧ Words R ∧ val R = V / y ∧ e = .returned (.int .u64 ((V % y : Nat) : Int)) ∧ Blk w' zb (splice Z zo R) ∧ Keeps (· = zb) w w'

/-- The loop of divWVW: m words are left. -/
def DvRel (w : World) (zb zo n y : Nat) (Z S : List Nat) (iv rv : Value) (wr : World) : Prop :=
  ∃ (m r : Nat) (R : List Nat), m + R.length = n ∧ Words R ∧ r < y ∧ val (S.drop m) = val R * y + r ∧ iv = .int .i64 ((m : Int) - 1) ∧ rv = .int .u64 (r : Int) ∧ Blk wr zb (splice Z (zo + m) R) ∧ Keeps (· = zb) w wr

theorem val_drop {S : List Nat} {m : Nat} (h : m < S.length) : val (S.drop m) = S.getD m 0 + W64 * val (S.drop (m + 1)) := by
  rw [List.drop_eq_getElem_cons h]
  simp [val, h]

theorem divWVW_any (zb zo zc xb xo xc n y : Nat) (Z X : List Nat) (w : World) (hn0 : 0 < n) (hn : n ≤ 1000000) (hz : Blk w zb Z) (hx : Blk w xb X) (hwx : Words X) (hy0 : y ≠ 0) (hy : y < W64)
    (hzn : zo + n ≤ Z.length) (hxn : xo + n ≤ X.length) (hax : xb ≠ zb ∨ xo = zo) :
    Calls Tryz.prog 274 #[.slice (some ⟨zb, zo, none⟩) n zc, .int .u64 0, .slice (some ⟨xb, xo, none⟩) n xc, .int .u64 (y : Int)] w (DivRes w zb zo n Z (val (seg X xo n)) y) := by
  have Hz := hid hz; have Hx := hid hx; have Hwx := hid hwx; have Hax := hid hax; have Hy0 := hid hy0; have Hy := hid hy
  have hsl : (seg X xo n).length = n := length_seg hxn
  clear hz hx hwx hax hy0 hy
  by_cases h1 : n = 1
  · subst h1
    obtain ⟨x, hxx⟩ : ∃ x, x = X.getD xo 0 := ⟨_, rfl⟩
    have c1 := Blk.cell Hx.out (o := xo) (by omega)
    have f1 := Blk.frozen Hz.out zo
    have c2 := Blk.cell Hz.out (o := zo) (by omega)
    rw [← hxx] at c1
    have hxl := hid (Hwx.out.getD xo)
    have Hxx := hid hxx
    clear hxx
    obtain ⟨q, hq⟩ : ∃ q, q = x / y := ⟨_, rfl⟩
    obtain ⟨r, hr⟩ : ∃ r, r = x % y := ⟨_, rfl⟩
    have hc := hid (fun w => bitsDiv_zero x y w (by have := Hy0.out; omega) Hy.out (by rw [Hxx.out]; exact hxl.out))
    rw [← hq, ← hr] at hc
    have Hq := hid hq; have Hr := hid hr
    clear hq hr
    go_enter Tryz.func274, Tryz.ntmps274
    go_wp2_with fail
    refine (hc.out _).mono ?_
    rintro e w1 ⟨rfl, k, rfl⟩
    go_wp2_with fail
    go_ret
    have hs1 : seg X xo 1 = [x] := by rw [seg_succ (by omega)]; simp [Hxx.out]
    have hv : val (seg X xo 1) = x := by rw [hs1]; simp [val]
    refine ⟨[q], rfl, Words.cons (by rw [Hq.out]; exact Nat.lt_of_le_of_lt (Nat.div_le_self _ _) (by rw [Hxx.out]; exact hxl.out)) Words.nil, by rw [hv, ← Hq.out]; simp [val], by rw [hv, ← Hr.out]; rfl, ?_, ((Keeps.refl _ w).drewN k).own _ _⟩
    have hb := Blk.set (w := w.drewN k) (RowAt.drewN Hz.out k) zo q
    have := splice_snoc (L := Z) (o := zo) (R := []) (v := q) (by simp; omega)
    simp only [List.length_nil, Nat.add_zero, splice_nil, List.nil_append] at this
    rw [← this]
    exact hb
  · have t1 : ((n : Int) == 1) = false := by simp; omega
    go_enter Tryz.func274, Tryz.ntmps274
    go_wp2_with fail
    refine (reciprocalWord_any y _ Hy0.out Hy.out).mono ?_
    rintro e w1 ⟨rfl, k, rfl⟩
    go_wp2_with fail
    go_loopw [8, 12] (fun rv iv wr => DvRel w zb zo n y Z (seg X xo n) iv rv wr) (fun _ iv _ => (intOf iv + 1).toNat)
    case atStart =>
      refine ⟨n, 0, [], rfl, Words.nil, by have := Hy0.out; omega, ?_, rfl, rfl, ?_, (Keeps.refl _ w).drewN k⟩
      · rw [List.drop_of_length_le (by omega)]; simp [val]
      · rw [splice_nil]; exact RowAt.drewN Hz.out k
    case round =>
      obtain ⟨m, r, R, hmR, hR, hry, hv, rfl, rfl, hb, hkeep⟩ := hrel
      have HR := hid hR; have Hv := hid hv; have Hb := hid hb; have Hkeep := hid hkeep; have Hry := hid hry
      clear hR hv hb hkeep hry
      by_cases h0 : m = 0
      · subst h0
        go_wp2_with fail
        go_ret
        have hv := Hv.out
        rw [List.drop_zero] at hv
        have hd : val (seg X xo n) / y = val R ∧ val (seg X xo n) % y = r := by
          rw [hv, Nat.mul_comm, Nat.add_comm]
          constructor
          · rw [Nat.add_mul_div_left _ _ (by have := Hy0.out; omega), Nat.div_eq_of_lt Hry.out, Nat.zero_add]
          · rw [Nat.add_mul_mod_self_left, Nat.mod_eq_of_lt Hry.out]
        exact ⟨R, by omega, HR.out, hd.1.symm, by rw [hd.2]; rfl, Hb.out, Hkeep.out⟩
      · obtain ⟨p, rfl⟩ : ∃ p, m = p + 1 := ⟨m - 1, by omega⟩
        obtain ⟨x, hxx⟩ : ∃ x, x = X.getD (xo + p) 0 := ⟨_, rfl⟩
        have hlz : (splice Z (zo + (p + 1)) R).length = Z.length := length_splice (by omega)
        have c1 : wr.cell? ⟨xb, xo + p, none⟩ = some (.int .u64 (x : Int)) := by
          have h1 := Blk.cell Hx.out (o := xo + p) (by omega)
          rw [← hxx] at h1
          by_cases hbb : xb = zb
          · subst hbb
            have hZX := Hz.out.inj Hx.out
            have hoo : xo = zo := by rcases Hax.out with h | h; exact absurd rfl h; exact h
            subst hoo
            have h2 := Blk.cell Hb.out (o := xo + p) (by omega)
            rw [List.getD_eq_getElem?_getD, splice_get_lt (by omega) (by omega), ← List.getD_eq_getElem?_getD, hZX, ← hxx] at h2
            exact h2
          · rw [cell_of_block (p := ⟨xb, xo + p, none⟩) (Hkeep.out.block xb Hx.out.lt hbb)]
            exact h1
        have f1 := Blk.frozen Hb.out (zo + p)
        have c2 := Blk.cell Hb.out (o := zo + p) (by omega)
        have hxl : x < W64 := by rw [hxx]; exact Hwx.out.getD _
        obtain ⟨q, hq⟩ : ∃ q, q = (r * W64 + x) / y := ⟨_, rfl⟩
        obtain ⟨r', hr'⟩ : ∃ r', r' = (r * W64 + x) % y := ⟨_, rfl⟩
        have hc := hid (fun w => divWW_any r x y w Hy0.out Hy.out Hry.out hxl)
        rw [← hq, ← hr'] at hc
        have hql : q < W64 := by
          rw [hq, Nat.div_lt_iff_lt_mul (by have := Hy0.out; omega)]
          have h1 : (r + 1) * W64 ≤ y * W64 := Nat.mul_le_mul_right _ Hry.out
          rw [Nat.add_mul] at h1
          rw [Nat.mul_comm W64 y]
          omega
        have Hfin := hid (show val ((seg X xo n).drop p) = val (q :: R) * y + r' from by
          rw [val_drop (by omega), Hv.out, seg_getD (by omega), ← hxx]
          have h1 : r * W64 + x = y * q + r' := by rw [hq, hr']; exact (Nat.div_add_mod _ _).symm
          show _ = (q + W64 * val R) * y + r'
          rw [Nat.add_mul, Nat.mul_add, Nat.mul_comm q y, Nat.mul_assoc, Nat.mul_comm W64 r]
          omega)
        have hr'l : r' < y := by rw [hr']; exact Nat.mod_lt _ (by have := Hy0.out; omega)
        have Hq := hid hql; have Hr' := hid hr'l; have Hbs := hid (Blk.set (RowAt.drewN (n := 0) Hb.out) (zo + p) q)
        clear hxx hq hr' hql hr'l hxl
        go_wp2_with fail
        refine (hc.out _).mono ?_
        rintro e w2 ⟨rfl, k2, rfl⟩
        go_wp2_with fail
        refine ⟨⟨p, r', q :: R, by simp only [List.length_cons]; omega, Words.cons Hq.out HR.out, Hr'.out, Hfin.out, rfl, rfl, ?_, (Hkeep.out.drewN k2).own _ _⟩, by simp [intOf]⟩
        have hb := Blk.set (w := wr.drewN k2) (RowAt.drewN Hb.out k2) (zo + p) q
        rw [← Nat.add_assoc, splice_cons (by omega)] at hb
        exact hb

/-- What divW gives. -/
def DivWRes (w : World) (a : Option Addr) (c : Nat) (N y : Nat) (e : Ending) (w' : World) : Prop :=
  ∃ ra rl rc, e = .returned (.tuple #[.slice ra rl rc, .int .u64 ((N % y : Nat) : Int)]) ∧ Rd w' ra rl rc (words (N / y)) ∧ Into w a c ra rc ∧ Keeps (InB a) w w'

theorem divW_any (a : Option Addr) (l c : Nat) (L : List Nat) (x : Option Addr) (xl xc N y : Nat) (w : World)
    (h : Rd w a l c L) (hx : Rd w x xl xc (words N)) (hxl : xl ≤ 400000) (hy0 : y ≠ 0) (hy1 : y ≠ 1) (hy : y < W64) (hax : Al a c x xc) :
    Calls Tryz.prog 237 #[.slice a l c, .slice x xl xc, .int .u64 (y : Int)] w (DivWRes w a c N y) := by
  have H := hid h; have Hx := hid hx; have Hax := hid hax; have Hy0 := hid hy0; have Hy := hid hy
  have hlx := hid hx.length
  have t1 : ((y : Int) == 0) = false := by simp; omega
  have t2 : ((y : Int) == 1) = false := by simp; omega
  clear h hx hax hy0 hy hy1
  by_cases h0 : N = 0
  · subst h0
    have hx0 : xl = 0 := by have := hlx.out; rw [words_zero] at this; exact this.symm
    subst hx0
    go_enter Tryz.func237, Tryz.ntmps237
    go_wp2_with fail
    go_ret2
    refine ⟨_, _, _, by rw [Nat.zero_mod]; rfl, ?_, Into.refl _ _ _, Keeps.refl _ _⟩
    rw [Nat.zero_div, words_zero]
    exact H.out.zero
  · have hxp : 0 < xl := by rw [← hlx.out]; exact words_length_pos h0
    have t3 : ((xl : Int) == 0) = false := by simp; omega
    go_enter Tryz.func237, Tryz.ntmps237
    go_wp2_with fail
    refine (make_any a l c xl L _ H.out (by omega) hxp).mono ?_
    rintro e w2 ⟨ra, rc, rfl, hm⟩
    obtain ⟨b, o, M, hra, hb, hw, h1, h2, h3, hi, hk⟩ := hm.rd
    have hal := hi.al Hax.out (fun k hk => Hx.out.lt hk)
    have hxr := Hx.out.keep hk (fun _ _ h => h)
    subst hra
    rcases hxr with ⟨_, hnil, _⟩ | ⟨xb, xo, X, rfl, hxb, hxw, hx1, hx2, hx3, hx4⟩
    · exact absurd hnil (words_ne_nil h0)
    have hax : xb ≠ b ∨ xo = o := by
      rcases hal _ _ _ _ rfl rfl with h | ⟨h, _⟩
      · exact .inl (Ne.symm h)
      · exact .inr h.symm
    have HV := hid hx3
    have hv := hid (divWVW_any b o rc xb xo xc xl y M X w2 hxp (by omega) hb hxb hxw Hy0.out Hy.out (by omega) (by omega) hax)
    have Hb := hid hb; have Hw := hid hw; have Hi := hid hi; have Hk := hid hk
    clear hb hw hi hk hal hxb hxw hx3 hax hm
    go_wp2_with fail
    refine hv.out.mono ?_
    rintro e w3 ⟨R, r1, r2, r3, rfl, r5, r6⟩
    rw [HV.out, val_words] at r3 ⊢
    have hrd : Rd w3 (some ⟨b, o, none⟩) xl rc R := Made.done r5 Hw.out r2 r1 h1 h2 h3
    have Hrd := hid hrd
    have Hkk := hid (Made.keeps Hi.out Hk.out r6)
    have Hr3 := hid r3
    obtain ⟨rr, hrr⟩ : ∃ rr, rr = N % y := ⟨_, rfl⟩
    rw [← hrr]
    have Hrr := hid hrr
    clear r1 r2 r3 r5 r6 hrd hrr
    go_wp2_with fail
    refine (norm_any _ _ _ _ _ Hrd.out).mono ?_
    rintro e w4 ⟨nn, rfl, hr, hnl, rfl⟩
    have Hr := hid hr
    clear hr
    go_wp2_with fail
    go_ret2
    refine ⟨_, _, _, by rw [← Hrr.out]; rfl, ?_, Hi.out, Hkk.out⟩
    rw [← Hr3.out, ← trimZ_eq_words Hrd.out.words]
    exact Hr.out
end Go.Proofs
namespace Go.Proofs
open Go.RowKit
set_option maxHeartbeats 400000
set_option linter.unusedVariables false
set_option linter.unusedSimpArgs false
set_option maxRecDepth 100000
theorem x330 (w : World) : (callFunc 330 #[.float .f64 4603804719079489536]).run Tryz.prog w = .ok (.value (.float .f64 13825510489450817230)) w := by kernel_rfl
theorem x337 (w : World) : (callFunc 337 #[.float .f64 4621819117588971520]).run Tryz.prog w = .ok (.value (.int .u64 4621819117588971520)) w := by kernel_rfl
theorem x338 (w : World) : (callFunc 338 #[.int .u64 4621819117588971520]).run Tryz.prog w = .ok (.value (.float .f64 4621819117588971520)) w := by kernel_rfl
theorem abs341 (w : World) : Calls Tryz.prog 341 #[.float .f64 4621819117588971520] w fun e w' => e = .returned (.float .f64 4621819117588971520) ∧ w' = w := by
  have h1 := x337
  have h2 := x338
  have h3 : bits BinOp.andNot IntKind.u64 4621819117588971520 9223372036854775808 = 4621819117588971520 := by kernel_rfl
  go_enter Tryz.func341, Tryz.ntmps341
  go_wp2_with fail
  go_ret
  exact ⟨rfl, rfl⟩
theorem inf334 (w : World) : Calls Tryz.prog 334 #[.float .f64 4621819117588971520, .int .i64 0] w fun e w' => e = .returned (.bool false) ∧ w' = w := by
  have h3 : ∀ w, (binOp .gtr 156 (.float .f64 4621819117588971520) (.float .f64 9218868437227405311)).run Tryz.prog w = .ok (.bool false) w := fun w => by kernel_rfl
  go_enter Tryz.func334, Tryz.ntmps334
  go_wp2_with fail
  refine (abs341 _).mono ?_
  rintro e w1 ⟨rfl, rfl⟩
  go_wp2_with fail
  go_ret
  exact ⟨rfl, rfl⟩
theorem nan335 (w : World) : Calls Tryz.prog 335 #[.float .f64 4621819117588971520] w fun e w' => e = .returned (.bool false) ∧ w' = w := by
  have h3 : ∀ w, (binOp .neq 156 (.float .f64 4621819117588971520) (.float .f64 4621819117588971520)).run Tryz.prog w = .ok (.bool false) w := fun w => by kernel_rfl
  go_enter Tryz.func335, Tryz.ntmps335
  go_wp2_with fail
  go_ret
  exact ⟨rfl, rfl⟩
theorem norm336 (w : World) : Calls Tryz.prog 336 #[.float .f64 4621819117588971520] w fun e w' => e = .returned (.tuple #[.float .f64 4621819117588971520, .int .i64 0]) ∧ w' = w := by
  have h3 : ∀ w, (binOp .lss 156 (.float .f64 4621819117588971520) (.float .f64 4503599627370496)).run Tryz.prog w = .ok (.bool false) w := fun w => by kernel_rfl
  go_enter Tryz.func336, Tryz.ntmps336
  go_wp2_with fail
  refine (abs341 _).mono ?_
  rintro e w1 ⟨rfl, rfl⟩
  go_wp2_with fail
  go_ret2
  exact ⟨rfl, rfl⟩
theorem y338 (w : World) : (callFunc 338 #[.int .u64 4603804719079489536]).run Tryz.prog w = .ok (.value (.float .f64 4603804719079489536)) w := by kernel_rfl
theorem frexp329 (w : World) : Calls Tryz.prog 329 #[.float .f64 4621819117588971520] w fun e w' => e = .returned (.tuple #[.float .f64 4603804719079489536, .int .i64 4]) ∧ w' = w := by
  have h0 : ∀ w, (binOp .eql 156 (.float .f64 4621819117588971520) (.float .f64 0)).run Tryz.prog w = .ok (.bool false) w := fun w => by kernel_rfl
  have h1 := x337
  have h2 := y338
  have b1 : bits BinOp.and IntKind.u64 1026 2047 = 1026 := by kernel_rfl
  have b2 : bits BinOp.andNot IntKind.u64 4621819117588971520 9218868437227405312 = 1125899906842624 := by kernel_rfl
  have b3 : bits BinOp.or IntKind.u64 1125899906842624 4602678819172646912 = 4603804719079489536 := by kernel_rfl
  go_enter Tryz.func329, Tryz.ntmps329
  go_wp2_with fail
  refine (inf334 _).mono ?_
  rintro e w1 ⟨rfl, rfl⟩
  go_wp2_with fail
  refine (nan335 _).mono ?_
  rintro e w1 ⟨rfl, rfl⟩
  go_wp2_with fail
  refine (norm336 _).mono ?_
  rintro e w1 ⟨rfl, rfl⟩
  go_wp2_with fail
  go_ret2
  exact ⟨rfl, rfl⟩
theorem frexp314 (w : World) : Calls Tryz.prog 314 #[.float .f64 4621819117588971520] w fun e w' => e = .returned (.tuple #[.float .f64 4603804719079489536, .int .i64 4]) ∧ w' = w := by
  go_enter Tryz.func314, Tryz.ntmps314
  go_wp2_with fail
  refine (frexp329 _).mono ?_
  rintro e w1 ⟨rfl, rfl⟩
  go_wp2_with fail
  go_ret2
  exact ⟨rfl, rfl⟩
theorem log315 (w : World) : Calls Tryz.prog 315 #[.float .f64 4603804719079489536] w fun e w' => e = .returned (.float .f64 13825510489450817230) ∧ w' = w := by
  have h1 := x330
  go_enter Tryz.func315, Tryz.ntmps315
  go_wp2_with fail
  go_ret
  exact ⟨rfl, rfl⟩
theorem log282 (w : World) : Calls Tryz.prog 282 #[.float .f64 4621819117588971520] w fun e w' => e = .returned (.float .f64 4614662735865160561) ∧ w' = w := by
  have h0 : ∀ w, (binOp .eql 156 (.float .f64 4603804719079489536) (.float .f64 4602678819172646912)).run Tryz.prog w = .ok (.bool false) w := fun w => by kernel_rfl
  have h1 : ∀ w, (convert 3 156 (.int .i64 4)).run Tryz.prog w = .ok (.float .f64 4616189618054758400) w := fun w => by kernel_rfl
  have h2 : ∀ w, (binOp .mul 156 (.float .f64 13825510489450817230) (.float .f64 4609176140021203710)).run Tryz.prog w = .ok (.float .f64 13827654785158443579) w := fun w => by kernel_rfl
  have h3 : ∀ w, (binOp .add 156 (.float .f64 13827654785158443579) (.float .f64 4616189618054758400)).run Tryz.prog w = .ok (.float .f64 4614662735865160561) w := fun w => by kernel_rfl
  go_enter Tryz.func282, Tryz.ntmps282
  go_wp2_with fail
  refine (frexp314 _).mono ?_
  rintro e w1 ⟨rfl, rfl⟩
  go_wp2_with fail
  refine (log315 _).mono ?_
  rintro e w1 ⟨rfl, rfl⟩
  go_wp2_with fail
  go_ret
  exact ⟨rfl, rfl⟩
theorem log250 (w : World) : Calls Tryz.prog 250 #[.float .f64 4621819117588971520] w fun e w' => e = .returned (.float .f64 4614662735865160561) ∧ w' = w := by
  go_enter Tryz.func250, Tryz.ntmps250
  go_wp2_with fail
  refine (log282 _).mono ?_
  rintro e w1 ⟨rfl, rfl⟩
  go_wp2_with fail
  go_ret
  exact ⟨rfl, rfl⟩

/-- The float of a count of bits, divided by log2 of 10, cut off. -/
def decLen (n : Nat) : Int := ((FloatKind.f64.decode ((FloatKind.f64.format.div (FloatKind.f64.nearest (n : Int)) 4614662735865160561).getD 0)).toInt .zero).getD (-1)
def decOk (n : Nat) : Bool := (FloatKind.f64.format.div (FloatKind.f64.nearest (n : Int)) 4614662735865160561).isSome && decide (0 ≤ decLen n) && decide (decLen n ≤ 1000) && ((FloatKind.f64.decode ((FloatKind.f64.format.div (FloatKind.f64.nearest (n : Int)) 4614662735865160561).getD 0)).toInt .zero).isSome && decide (2 ^ n ≤ 10 ^ ((decLen n).toNat + 1))
theorem decOk_all : (List.range 1800).all decOk = true := by decide +kernel
end Go.Proofs
namespace Go.Proofs
open Go.RowKit
set_option maxHeartbeats 400000
set_option linter.unusedVariables false
set_option linter.unusedSimpArgs false
set_option maxRecDepth 100000

theorem smear {x m d : Nat} (hx : x < 2 ^ m) (hm : m ≤ 64) : ∃ y : Nat, bits BinOp.or IntKind.u64 (x : Int) ((x : Int) / (d : Int)) = (y : Int) ∧ x ≤ y ∧ y < 2 ^ m := by
  have hw : 2 ^ m ≤ 2 ^ 64 := Nat.pow_le_pow_right (by omega) hm
  have hd : x / d ≤ x := Nat.div_le_self _ _
  refine ⟨x ||| x / d, ?_, Nat.left_le_or, Nat.or_lt_two_pow hx (by omega)⟩
  rw [← Int.natCast_ediv]
  exact bits_or_u64_nat x (x / d) (by omega) (by omega)

theorem bitLen_unique {x b : Nat} (h0 : x ≠ 0) (h : x < 2 ^ 64) (h1 : 2 ^ (b - 1) ≤ x) (h2 : x < 2 ^ b) : Lib.bitLen x = b := by
  obtain ⟨k1, k2, k3⟩ := Lib.bitLenAux_bounds 64 x h h0
  have h4 : Lib.bitLenAux 64 x = Lib.bitLen x := rfl
  rw [h4] at k1 k2 k3
  rcases Nat.lt_trichotomy (Lib.bitLen x) b with h5 | h5 | h5
  · exfalso
    have := Nat.pow_le_pow_right (show 0 < 2 by omega) (show Lib.bitLen x ≤ b - 1 by omega)
    omega
  · exact h5
  · exfalso
    have := Nat.pow_le_pow_right (show 0 < 2 by omega) (show b ≤ Lib.bitLen x - 1 by omega)
    omega

theorem bitLen_same {x y : Nat} (h0 : x ≠ 0) (hxy : x ≤ y) (hy : y < 2 ^ Lib.bitLen x) (hx : x < 2 ^ 64) : Lib.bitLen y = Lib.bitLen x := by
  obtain ⟨k1, k2, k3⟩ := Lib.bitLenAux_bounds 64 x hx h0
  have h4 : Lib.bitLenAux 64 x = Lib.bitLen x := rfl
  rw [h4] at k1 k2 k3
  have hl : Lib.bitLen x ≤ 64 := Lib.bitLen_le x 64 (by omega) hx
  have := Nat.pow_le_pow_right (show 0 < 2 by omega) hl
  exact bitLen_unique (by omega) (by omega) (by omega) hy

/-- How many bits a number has. -/
def IsBits (N b : Nat) : Prop := N < 2 ^ b ∧ (N ≠ 0 → 1 ≤ b ∧ 2 ^ (b - 1) ≤ N) ∧ (N = 0 → b = 0)

theorem isBits_words {N : Nat} (h0 : N ≠ 0) : IsBits N (((words N).length - 1) * 64 + Lib.bitLen ((words N).getD ((words N).length - 1) 0)) := by
  obtain ⟨t, ht⟩ : ∃ t, t = (words N).getD ((words N).length - 1) 0 := ⟨_, rfl⟩
  rw [← ht]
  have ht0 : t ≠ 0 := by rw [ht]; exact words_last h0
  have htl : t < W64 := by rw [ht]; exact (words_words N).getD _
  have hl := words_length_pos h0
  obtain ⟨k1, k2, k3⟩ := Lib.bitLenAux_bounds 64 t htl ht0
  have h4 : Lib.bitLenAux 64 t = Lib.bitLen t := rfl
  rw [h4] at k1 k2 k3
  have hv : N = val ((words N).take ((words N).length - 1)) + W64 ^ ((words N).length - 1) * t := by
    have h1 : words N = (words N).take ((words N).length - 1) ++ [t] := by
      have h2 := List.take_succ_eq_append_getElem (l := words N) (i := (words N).length - 1) (by omega)
      rw [show (words N).length - 1 + 1 = (words N).length from by omega, List.take_length] at h2
      rw [ht, List.getD_eq_getElem?_getD, List.getElem?_eq_getElem (by omega), Option.getD_some]
      exact h2
    have h3 := congrArg val h1
    rw [val_words, val_snoc, List.length_take, Nat.min_eq_left (by omega)] at h3
    exact h3
  have hlow := val_lt ((words_words N).take ((words N).length - 1))
  rw [List.length_take, Nat.min_eq_left (by omega)] at hlow
  generalize (words N).length - 1 = m at *
  have hW : W64 ^ m = 2 ^ (m * 64) := by rw [W64_two, ← Nat.pow_mul, Nat.mul_comm]
  rw [hW] at hv hlow
  refine ⟨?_, fun _ => ⟨by omega, ?_⟩, fun h => absurd h h0⟩
  · rw [Nat.pow_add]
    have : 2 ^ (m * 64) * (t + 1) ≤ 2 ^ (m * 64) * 2 ^ Lib.bitLen t := Nat.mul_le_mul_left _ k3
    rw [Nat.mul_add] at this
    omega
  · rw [show m * 64 + Lib.bitLen t - 1 = m * 64 + (Lib.bitLen t - 1) from by omega, Nat.pow_add]
    have := Nat.mul_le_mul_left (2 ^ (m * 64)) k2
    omega

theorem bitLen225_any (x : Option Addr) (xl xc N : Nat) (w : World) (hx : Rd w x xl xc (words N)) :
    Calls Tryz.prog 225 #[.slice x xl xc] w fun e w' => ∃ b : Nat, e = .returned (.int .i64 (b : Int)) ∧ IsBits N b ∧ b ≤ 64 * xl ∧ w' = w := by
  have hlx := hx.length
  have hle := hx.len_le
  unfold LIM at hle
  by_cases h0 : N = 0
  · subst h0
    rw [words_zero] at hlx
    have hx0 : xl = 0 := hlx.symm
    subst hx0
    clear hx
    go_enter Tryz.func225, Tryz.ntmps225
    go_wp2_with fail
    go_ret
    exact ⟨0, rfl, ⟨by simp, fun h => absurd rfl h, fun _ => rfl⟩, by omega, rfl⟩
  · have hxp : 0 < xl := by rw [← hlx]; exact words_length_pos h0
    obtain ⟨b, o, hxb, hcell⟩ := hx.cell hxp
    subst hxb
    have c1 := hcell (xl - 1) (by omega)
    obtain ⟨m, hm⟩ : ∃ m, m = xl - 1 := ⟨_, rfl⟩
    have hxm : xl = m + 1 := by omega
    subst hxm
    clear hm
    rw [Nat.add_sub_cancel] at c1
    have HB := hid (isBits_words h0)
    rw [hlx, Nat.add_sub_cancel] at HB
    obtain ⟨t, ht⟩ : ∃ t, t = (words N).getD m 0 := ⟨_, rfl⟩
    rw [← ht] at c1 HB
    have ht0 : t ≠ 0 := by have := words_last h0; rw [hlx, Nat.add_sub_cancel] at this; rw [ht]; exact this
    have htl : t < 2 ^ 64 := by rw [ht]; exact (words_words N).getD _
    obtain ⟨L, hL⟩ : ∃ L, L = Lib.bitLen t := ⟨_, rfl⟩
    have hL64 : L ≤ 64 := by rw [hL]; exact Lib.bitLen_le t 64 (by omega) htl
    have htL : t < 2 ^ L := by rw [hL]; exact (Lib.bitLenAux_bounds 64 t htl ht0).2.2
    obtain ⟨t1, e1, g1, l1⟩ := smear (d := 2) htL hL64
    obtain ⟨t2, e2, g2, l2⟩ := smear (d := 4) l1 hL64
    obtain ⟨t3, e3, g3, l3⟩ := smear (d := 16) l2 hL64
    obtain ⟨t4, e4, g4, l4⟩ := smear (d := 256) l3 hL64
    obtain ⟨t5, e5, g5, l5⟩ := smear (d := 65536) l4 hL64
    obtain ⟨t6, e6, g6, l6⟩ := smear (d := 4294967296) l5 hL64
    have hs : Hid (Lib.bitLen (t6 : Int).toNat = L) := hid (by rw [Int.toNat_natCast, hL]; exact bitLen_same ht0 (by omega) (by rw [← hL]; exact l6) htl)
    have h64 := Nat.pow_le_pow_right (show 0 < 2 by omega) hL64
    have ht6 : (t6 : Int) ≤ 18446744073709551615 := by omega
    rw [← hL] at HB
    have e6' : bits BinOp.or IntKind.u64 (t5 : Int) ((t5 : Int) / 65536 / 65536) = (t6 : Int) := by
      rw [show (t5 : Int) / 65536 / 65536 = (t5 : Int) / ((4294967296 : Nat) : Int) by omega]; exact e6
    replace e1 : bits BinOp.or IntKind.u64 (t : Int) ((t : Int) / 2) = (t1 : Int) := e1
    replace e2 : bits BinOp.or IntKind.u64 (t1 : Int) ((t1 : Int) / 4) = (t2 : Int) := e2
    replace e3 : bits BinOp.or IntKind.u64 (t2 : Int) ((t2 : Int) / 16) = (t3 : Int) := e3
    replace e4 : bits BinOp.or IntKind.u64 (t3 : Int) ((t3 : Int) / 256) = (t4 : Int) := e4
    replace e5 : bits BinOp.or IntKind.u64 (t4 : Int) ((t4 : Int) / 65536) = (t5 : Int) := e5
    clear hx hcell hlx ht hL e6 g1 g2 g3 g4 g5 g6 l1 l2 l3 l4 l5 l6 htL h64 htl ht0
    go_enter Tryz.func225, Tryz.ntmps225
    go_wp2_with fail
    refine (Tryz.bits_Len (t6 : Int) _ (by omega) ht6).mono ?_
    rintro e w1 ⟨rfl, rfl⟩
    rw [hs.out]
    go_wp2_with fail
    go_ret
    exact ⟨m * 64 + L, by simp, HB.out, by omega, rfl⟩
end Go.Proofs
namespace Go.Proofs
open Go.RowKit
set_option maxHeartbeats 400000
set_option linter.unusedVariables false
set_option linter.unusedSimpArgs false
set_option maxRecDepth 100000

/-- A byte as a value. -/
def bv (x : Nat) : Value := .int .u8 (x : Int)
/-- A block of bytes. -/
def Byt (w : World) (b : Nat) (L : List Nat) : Prop := RowAt w b 5 (L.map bv)
theorem Byt.cell {w : World} {b : Nat} {L : List Nat} (h : Byt w b L) {o : Nat} (ho : o < L.length) : w.cell? ⟨b, o, none⟩ = some (.int .u8 ((L.getD o 0 : Nat) : Int)) := by
  rw [RowAt.cell h]; simp [bv, ho]
theorem Byt.set {w : World} {b : Nat} {L : List Nat} (h : Byt w b L) (o x : Nat) : Byt (w.setCell ⟨b, o, none⟩ (.int .u8 (x : Int))) b (L.set o x) := by
  have := RowAt.set h o (.int .u8 (x : Int))
  unfold Byt
  rw [List.map_set]
  exact this
theorem Byt.cons {w : World} {b o x : Nat} {M R : List Nat} (h : Byt w b (splice M (o + 1) R)) (hl : o + 1 + R.length ≤ M.length) :
    Byt (w.setCell ⟨b, o, none⟩ (.int .u8 (x : Int))) b (splice M o (x :: R)) := by
  have := h.set o x
  rwa [splice_cons hl] at this

/-- The lowest n digits, the highest one first. -/
def lowDigs (N : Nat) : Nat → List Nat
  | 0 => []
  | n + 1 => (48 + N / 10 ^ n % 10) :: lowDigs N n
theorem lowDigs_length (N n : Nat) : (lowDigs N n).length = n := by
  induction n with
  | zero => rfl
  | succ n ih => simp [lowDigs, ih]

/-- The number that a slice reads as. -/
noncomputable def natOf (w : World) (q : Value) : Nat := Classical.epsilon fun N => ∃ a l c, q = .slice a l c ∧ Rd w a l c (words N)
theorem natOf_eq {w : World} {a : Option Addr} {l c N : Nat} (h : Rd w a l c (words N)) : natOf w (.slice a l c) = N := by
  have : ∃ N, ∃ a' l' c', Value.slice a l c = .slice a' l' c' ∧ Rd w a' l' c' (words N) := ⟨N, a, l, c, rfl, h⟩
  obtain ⟨a', l', c', h1, h2⟩ := Classical.epsilon_spec this
  cases h1
  exact words_inj (h2.inj h)

/-- The loop over the words: j digits are written. -/
structure CwRel (w0 : World) (qa : Option Addr) (qc sb so n N : Nat) (M : List Nat) (w : World) (q iv : Value) (m j Q : Nat) (ra : Option Addr) (rl rc : Nat) : Prop where
  hm : m + j = n
  hq : q = .slice ra rl rc
  hi : iv = .int .i64 (m : Int)
  rd : Rd w ra rl rc (words Q)
  len : rl ≤ 400000
  into : Into w0 qa qc ra rc
  val : j < n → Q = N / 10 ^ j
  byt : Byt w sb (splice M (so + m) (lowDigs N j))
  keeps : Keeps (fun k => k = sb ∨ InB qa k) w0 w

/-- The loop that fills up with noughts. -/
structure CzRel (w0 : World) (qa : Option Addr) (sb so n N : Nat) (M : List Nat) (w : World) (iv : Value) (m j : Nat) : Prop where
  hm : m + j = n
  hi : iv = .int .i64 (m : Int)
  hz : 0 < m → N / 10 ^ j = 0
  byt : Byt w sb (splice M (so + m) (lowDigs N j))
  keeps : Keeps (fun k => k = sb ∨ InB qa k) w0 w

/-- The loop over one word's digits. -/
structure CiRel (w0 : World) (qa : Option Addr) (qc sb so n N j0 Q : Nat) (M : List Nat) (ra : Option Addr) (rl rc : Nat) (w : World) (iv rv cv : Value) (m c : Nat) : Prop where
  hm : m + (j0 + c) = n
  hc : c ≤ 19
  hi : iv = .int .i64 (m : Int)
  hr : rv = .int .u64 ((Q % 10 ^ 19 / 10 ^ c : Nat) : Int)
  hcv : cv = .int .i64 (c : Int)
  rd : Rd w ra rl rc (words (Q / 10 ^ 19))
  byt : Byt w sb (splice M (so + m) (lowDigs N (j0 + c)))
  keeps : Keeps (fun k => k = sb ∨ InB qa k) w0 w

theorem convertWords_leaf (qa : Option Addr) (ql qc : Nat) (sp : Option Addr) (sb so n sc N : Nat) (M : List Nat) (w : World)
    (hq : Rd w qa ql qc (words N)) (hs : Byt w sb M) (hn : so + n ≤ M.length) (hnc : n ≤ 1000000) (hqs : ¬ InB qa sb) (hql : ql ≤ 400000) :
    Calls Tryz.prog 254 #[.slice qa ql qc, .pointer sp, .slice (some ⟨sb, so, none⟩) n sc, .int .u64 10, .int .i64 19, .int .u64 10000000000000000000, .slice none 0 0] w
      fun e w' => e = .returned (.tuple #[]) ∧ Byt w' sb (splice M so (lowDigs N n)) ∧ Keeps (fun k => k = sb ∨ InB qa k) w w' := by
  have qT : ∀ (w : World) (a : Option Addr) (n c n' c' : Nat), (binOp .neq 208 (.slice a n c) (.slice none n' c')).run Tryz.prog w = .ok (.bool (!a.isNone)) w := fun w a n c n' c' => run_neq_slice_nil_any w _ _ a n c n' c' Tryz.underlying208
  have HQ := hid hq; have HS := hid hs; have HQS := hid hqs
  clear hq hs hqs
  go_enter Tryz.func254, Tryz.ntmps254
  go_wp2_with fail
  go_loopw [0, 19, 20] (fun q iv _ wr => ∃ m j Q ra rl rc, CwRel w qa qc sb so n N M wr q iv m j Q ra rl rc) (fun q _ _ wr => natOf wr q)
  case atStart =>
    refine ⟨n, 0, N, qa, ql, qc, rfl, rfl, rfl, HQ.out, hql, Into.refl _ _ _, fun _ => by simp, ?_, Keeps.refl _ _⟩
    rw [show lowDigs N 0 = [] from rfl, splice_nil]; exact HS.out
  case round =>
    obtain ⟨m, j, Q, ra, rl, rc, hm, rfl, rfl, hrd, hlen, hinto, hval, hbyt, hkeeps⟩ := hrel
    have Hrd := hid hrd; have Hinto := hid hinto; have Hval := hid hval; have Hbyt := hid hbyt; have Hkeeps := hid hkeeps
    have hlq := hrd.length
    clear hrd hinto hval hbyt hkeeps
    by_cases hQ0 : Q = 0
    · have hrl0 : rl = 0 := by rw [← hlq, hQ0, words_zero]; rfl
      subst hrl0
      have hz : 0 < m → N / 10 ^ j = 0 := fun h => by rw [← Hval.out (by omega)]; exact hQ0
      have Hz := hid hz
      clear hlq hQ0 hz
      go_wp2_with fail
      go_loopw [19] (fun iv wr => ∃ m j, CzRel w qa sb so n N M wr iv m j) (fun iv _ => (intOf iv).toNat)
      case atStart => exact ⟨m, j, hm, rfl, Hz.out, Hbyt.out, Hkeeps.out⟩
      case round =>
        obtain ⟨m, j, hm, rfl, hz, hb, hk⟩ := hrel
        have HZ := hid hz; have HB := hid hb; have HK := hid hk
        clear hz hb hk
        by_cases h0 : m = 0
        · subst h0
          go_wp2_with fail
          go_end0
          refine ⟨rfl, ?_, HK.out⟩
          have := HB.out
          rw [show j = n from by omega, Nat.add_zero] at this
          exact this
        · obtain ⟨p, rfl⟩ : ∃ p, m = p + 1 := ⟨m - 1, by omega⟩
          have hlen : (splice M (so + (p + 1)) (lowDigs N j)).length = M.length := length_splice (by rw [lowDigs_length]; omega)
          have c1 := Byt.cell HB.out (o := so + p) (by omega)
          have f1 := RowAt.frozen HB.out (so + p)
          have hb1 := Byt.cons (x := 48) (by have := HB.out; rwa [← Nat.add_assoc] at this) (by rw [lowDigs_length]; omega)
          have HB1 := hid hb1
          clear hb1 hlen
          go_wp2_with fail
          refine ⟨⟨p, j + 1, by omega, rfl, ?_, ?_, HK.out.setCell _ (.inl (.inl rfl)) _⟩, by simp [intOf]⟩
          · intro _
            rw [Nat.pow_succ, ← Nat.div_div_eq_div_mul, HZ.out (by omega)]
          · have := HB1.out
            show Byt _ sb (splice M (so + p) ((48 + N / 10 ^ j % 10) :: lowDigs N j))
            rw [HZ.out (by omega)]
            exact this
    · have hrlp : 0 < rl := by rw [← hlq]; exact words_length_pos hQ0
      clear hlq
      go_wp2_with fail
      refine (divW_any ra rl rc _ ra rl rc Q 10000000000000000000 _ Hrd.out Hrd.out hlen (by omega) (by omega) (by unfold W64; omega) (Al.refl _ _)).mono ?_
      rintro e w2 ⟨ra', rl', rc', rfl, h1, h2, h3⟩
      have H1 := hid h1; have H2 := hid h2; have H3 := hid h3
      have hkk : Keeps (fun k => k = sb ∨ InB qa k) w w2 := Hkeeps.out.trans' h3 (fun i hi hh => by
        rcases Hinto.out.inB hh with h | h
        · exact .inr h
        · omega)
      have hrs : ¬ InB ra sb := fun hh => by
        rcases Hinto.out.inB hh with h | h
        · exact HQS.out h
        · have := HS.out.lt; omega
      have hrs' : ¬ InB ra' sb := fun hh => by
        rcases (Hinto.out.trans H2.out Hkeeps.out.size).inB hh with h | h
        · exact HQS.out h
        · have := HS.out.lt; omega
      have hby2 : Byt w2 sb (splice M (so + m) (lowDigs N j)) := h3.row Hbyt.out hrs
      have HRS := hid hrs'; have HKK := hid hkk; have HBY := hid hby2
      have hlen' : rl' ≤ 400000 := by
        rw [← h1.length]
        have := words_mono (Nat.div_le_self Q 10000000000000000000)
        rw [Hrd.out.length] at this
        omega
      have HQlt := hid (show Q / 10 ^ 19 < Q from Nat.div_lt_self (by omega) (by decide))
      have HQr := hid (show natOf wr (.slice ra rl rc) = Q from natOf_eq Hrd.out)
      clear h1 h2 h3 hkk hrs hrs' hby2 hQ0
      go_wp2_with fail
      go_loopw [19, 20, 21] (fun iv rv cv wi => ∃ m c, CiRel w qa qc sb so n N j Q M ra' rl' rc' wi iv rv cv m c) (fun _ _ cv _ => 100 - (intOf cv).toNat)
      case atStart => exact ⟨m, 0, by omega, by omega, rfl, by rw [Nat.pow_zero, Nat.div_one]; rfl, rfl, H1.out, HBY.out, HKK.out⟩
      case round =>
        obtain ⟨m, c, hm2, hc, rfl, rfl, rfl, hrd2, hby2, hkk2⟩ := hrel
        have HRD2 := hid hrd2; have HBY2 := hid hby2; have HKK2 := hid hkk2
        clear hrd2 hby2 hkk2
        have Exit1 : Hid (c = 19 ∨ m = 0 → ∃ m' j' Q' ra2 rl2 rc2, CwRel w qa qc sb so n N M wr (.slice ra' rl' rc') (.int .i64 (m : Int)) m' j' Q' ra2 rl2 rc2) := hid (fun h => by
          refine ⟨m, j + c, Q / 10 ^ 19, ra', rl', rc', hm2, rfl, rfl, HRD2.out, hlen', Hinto.out.trans H2.out Hkeeps.out.size, ?_, HBY2.out, HKK2.out⟩
          intro hlt
          have hc19 : c = 19 := by omega
          rw [hc19, Nat.pow_add, ← Nat.div_div_eq_div_mul, ← Hval.out (by omega)])
        have HM : Hid (natOf wr (.slice ra' rl' rc') = Q / 10 ^ 19) := hid (natOf_eq HRD2.out)
        obtain ⟨r, hr⟩ : ∃ r, r = Q % 10 ^ 19 / 10 ^ c := ⟨_, rfl⟩
        rw [← hr]
        have Hr := hid hr
        clear hr
        by_cases hc19 : c = 19
        · subst hc19
          have E := hid (Exit1.out (.inl rfl))
          clear Exit1
          go_wp2_with fail
          refine ⟨E.out, ?_⟩
          rw [HM.out, HQr.out]
          exact HQlt.out
        · by_cases hm0 : m = 0
          · subst hm0
            have E := hid (Exit1.out (.inr rfl))
            have t1 : decide ((c : Int) < 19) = true := by simp; omega
            clear Exit1
            go_wp2_with fail
            refine ⟨E.out, ?_⟩
            rw [HM.out, HQr.out]
            exact HQlt.out
          · obtain ⟨p, rfl⟩ : ∃ p, m = p + 1 := ⟨m - 1, by omega⟩
            have t1 : decide ((c : Int) < 19) = true := by simp; omega
            obtain ⟨t, htt⟩ : ∃ t, t = r / 10 := ⟨_, rfl⟩
            obtain ⟨x, hx⟩ : ∃ x, x = r % 10 := ⟨_, rfl⟩
            have hrl : r < W64 := by
              rw [Hr.out]
              have h1 := Nat.div_le_self (Q % 10 ^ 19) (10 ^ c)
              have h2 := Nat.mod_lt Q (show 0 < 10 ^ 19 by decide)
              unfold W64; omega
            have e1 : (r : Int).tdiv 10 = (t : Int) := by rw [htt]; exact (Int.ofNat_tdiv r 10).symm
            have e2 : IntKind.u64.wrap (t : Int) = (t : Int) := u64_wrap t (by omega)
            have e3 : IntKind.u64.wrap ((t : Int) * 10) = (t : Int) * 10 := by
              have := u64_wrap (t * 10) (by omega)
              rw [Int.natCast_mul] at this; exact this
            have e4 : IntKind.u64.wrap ((r : Int) - (t : Int) * 10) = (x : Int) := by
              have := u64_wrap x (by omega)
              rw [show (r : Int) - (t : Int) * 10 = (x : Int) by omega]; exact this
            have e5 : IntKind.u8.wrap (x : Int) = (x : Int) := by rw [IntKind.wrap_u8]; omega
            have e6 : IntKind.u8.wrap (48 + (x : Int)) = ((48 + x : Nat) : Int) := by rw [IntKind.wrap_u8]; omega
            have hlenS : (splice M (so + (p + 1)) (lowDigs N (j + c))).length = M.length := length_splice (by rw [lowDigs_length]; omega)
            have c1 := Byt.cell HBY2.out (o := so + p) (by omega)
            have f1 := RowAt.frozen HBY2.out (so + p)
            have HB1 := hid (Byt.cons (x := 48 + x) (by have := HBY2.out; rwa [← Nat.add_assoc] at this) (by rw [lowDigs_length]; omega))
            have HQj : Hid (Q = N / 10 ^ j) := hid (Hval.out (by omega))
            have hxN : Hid (x = N / 10 ^ (j + c) % 10) := hid (by
              rw [hx, Hr.out, Nat.pow_add, ← Nat.div_div_eq_div_mul, ← HQj.out]
              have h10 : 10 ^ 19 = 10 ^ c * (10 * 10 ^ (18 - c)) := by rw [← Nat.mul_assoc, ← Nat.pow_succ, ← Nat.pow_add]; congr 1; omega
              rw [h10, Nat.mod_mul_right_div_self, Nat.mod_mul_right_mod])
            have hrt : Hid (t = Q % 10 ^ 19 / 10 ^ (c + 1)) := hid (by rw [htt, Hr.out, Nat.div_div_eq_div_mul, ← Nat.pow_succ])
            clear htt hx hrl hlenS Exit1
            go_wp2_with fail
            refine ⟨⟨p, c + 1, by omega, by omega, rfl, ?_, ?_, ?_, ?_, HKK2.out.setCell _ (.inl (.inl rfl)) _⟩, by simp [intOf]; omega⟩
            · rw [hrt.out]
            · simp
            · exact HRD2.out.keep (Keeps.set1 wr sb (so + p) _) (fun k hk => by
                rintro rfl
                exact HRS.out hk)
            · have := HB1.out
              show Byt _ sb (splice M (so + p) ((48 + N / 10 ^ (j + c) % 10) :: lowDigs N (j + c)))
              rw [← hxN.out]
              exact this

end Go.Proofs
namespace Go.Proofs
open Go.RowKit
set_option maxHeartbeats 400000
set_option linter.unusedVariables false
set_option linter.unusedSimpArgs false
set_option maxRecDepth 100000

/-- How many decimal digits a number has (1 for 0). -/
def nd (N : Nat) : Nat := if h : N < 10 then 1 else 1 + nd (N / 10)
termination_by N
decreasing_by omega

theorem nd_pos (N : Nat) : 1 ≤ nd N := by rw [nd]; split <;> omega
theorem nd_lt (N : Nat) : N < 10 ^ nd N := by
  induction N using Nat.strongRecOn with
  | _ N ih =>
    rw [nd]
    split
    · simpa
    · have := ih (N / 10) (by omega)
      rw [Nat.pow_add]
      omega
theorem nd_ge {N : Nat} (h : N ≠ 0) : 10 ^ (nd N - 1) ≤ N := by
  induction N using Nat.strongRecOn with
  | _ N ih =>
    rw [nd]
    split
    · simp; omega
    · have h1 := ih (N / 10) (by omega) (by omega)
      have h2 := nd_pos (N / 10)
      rw [show 1 + nd (N / 10) - 1 = (nd (N / 10) - 1) + 1 from by omega, Nat.pow_succ]
      omega
theorem nd_le {N d : Nat} (h : N < 10 ^ d) (hd : 0 < d) : nd N ≤ d := by
  by_cases h0 : N = 0
  · subst h0
    rw [nd]; simp; omega
  · by_cases hle : nd N ≤ d
    · exact hle
    · exfalso
      have h1 := nd_ge h0
      have h2 := Nat.pow_le_pow_right (show 0 < 10 by omega) (show d ≤ nd N - 1 by omega)
      omega

/-- The decimal digits of a number. -/
def decs (N : Nat) : List Nat := lowDigs N (nd N)
/-- The text of a number. -/
def txt (neg : Bool) (N : Nat) : List Nat := (if neg then [45] else []) ++ decs N

theorem lowDigs_drop (N : Nat) : ∀ (n k : Nat), k ≤ n → (lowDigs N n).drop (n - k) = lowDigs N k
  | 0, k, h => by have : k = 0 := by omega
                  subst this; rfl
  | n + 1, k, h => by
    by_cases hk : k = n + 1
    · subst hk; simp
    · rw [show n + 1 - k = (n - k) + 1 from by omega]
      simp only [lowDigs, List.drop_succ_cons]
      exact lowDigs_drop N n k (by omega)
theorem lowDigs_get (N : Nat) : ∀ (n i : Nat), i < n → (lowDigs N n).getD i 0 = 48 + N / 10 ^ (n - 1 - i) % 10
  | 0, i, h => by omega
  | n + 1, 0, h => by simp [lowDigs]
  | n + 1, i + 1, h => by
    have := lowDigs_get N n i (by omega)
    simp only [lowDigs, List.getD_cons_succ]
    rw [this, show n - 1 - i = n + 1 - 1 - (i + 1) from by omega]

theorem free240 (s : Addr) (u : FrameMode) (w : World) (h : w.cell? s = some (.pointer none)) :
    CallsD Tryz.prog 240 #[.pointer (some s)] u w fun e u' w' => u' = u ∧ e = .returned (.tuple #[]) ∧ w' = w := by
  go_enter_d Tryz.func240, Tryz.ntmps240
  go_wp2_with fail
  go_end0
  exact ⟨rfl, rfl⟩

theorem getStack_any (w : World) : Calls Tryz.prog 239 #[] w fun e w' => e = .returned (.pointer (some ⟨w.heap.size, 0, none⟩)) ∧ w' = w.alloc (.cells #[.pointer none] 240) := by
  go_enter Tryz.func239, Tryz.ntmps239
  go_wp2_with fail
  go_ret
  exact ⟨rfl, rfl⟩

theorem divisors_none (sp : Option Addr) (m : Nat) (b nd' bb : Int) (w : World) (hg : Glob w) (hm : m ≤ 8) :
    Calls Tryz.prog 253 #[.pointer sp, .int .i64 (m : Int), .int .u64 b, .int .i64 nd', .int .u64 bb] w fun e w' => e = .returned (.slice none 0 0) ∧ w' = w := by
  have c1 := hg.lf
  have t1 : decide ((m : Int) ≤ 8) = true := by simp; omega
  clear hg
  go_enter Tryz.func253, Tryz.ntmps253
  go_wp2_with fail
  go_ret
  exact ⟨rfl, rfl⟩

theorem size5 (w : World) : (sizeOf 5).run Tryz.prog w = .ok 1 w := by kernel_rfl
theorem elem22 : Tryz.prog.elem 22 = 5 := by kernel_rfl
theorem info5 : (Tryz.prog.info? 5).map (fun i => (i.zero, i.size, i.bytes)) = some (some (.int .u8 0), 1, 1) := by kernel_rfl
theorem u22 : Tryz.prog.underlying 22 = some (.slice (Tryz.prog.elem 22)) := by kernel_rfl
theorem slice22_from (b o l c k : Nat) (h1 : k ≤ l) (h2 : l ≤ c) :
    ∃ p, (∀ w : World, (Instr.slice 22 (.slice (some ⟨b, o, none⟩) l c) (some (.int .i64 (k : Int))) none none).run Tryz.prog w = .ok (.slice p (l - k) (c - k)) w) ∧ (k < c → p = some ⟨b, o + k, none⟩) := by
  refine ⟨if c = k then some ⟨b, o, none⟩ else some ⟨b, o + k, none⟩, fun w => ?_, fun h => by rw [if_neg (by omega)]⟩
  rw [run_slice_l (P := Tryz.prog) w 22 (some ⟨b, o, none⟩) l c u22 .i64 (k : Int) (by omega) (by omega), elem22, size5]
  simp only [Result.andThen_ok, sliced, Int.toNat_natCast, Nat.mul_one]
  congr 2
  by_cases h : c = k
  · rw [if_pos h, if_pos h]
  · rw [if_neg h, if_neg h]
    simp only [Option.map_some, Addr.add]
    by_cases hk : k = 0
    · subst hk; simp
    · simp [hk]

/-- The skipping of noughts. -/
theorem lowDigs_lead {N n i : Nat} (hN : N ≠ 0) (hnd : nd N ≤ n) (hi : i ≤ n - nd N) :
    ((lowDigs N n).getD i 0 = 48 ↔ i < n - nd N) := by
  have h1 := nd_pos N
  rw [lowDigs_get N n i (by omega)]
  constructor
  · intro h
    by_cases hlt : i < n - nd N
    · exact hlt
    · exfalso
      have hi2 : n - 1 - i = nd N - 1 := by omega
      rw [hi2] at h
      have h2 := nd_ge hN
      have h3 := nd_lt N
      have h4 : 0 < N / 10 ^ (nd N - 1) := Nat.div_pos h2 (Nat.pow_pos (by omega))
      have h5 : N / 10 ^ (nd N - 1) < 10 := by
        rw [Nat.div_lt_iff_lt_mul (Nat.pow_pos (by omega)), Nat.mul_comm, ← Nat.pow_succ, show (nd N - 1).succ = nd N from by omega]
        exact h3
      rw [Nat.mod_eq_of_lt h5] at h
      omega
  · intro h
    have h2 : N < 10 ^ (n - 1 - i) := Nat.lt_of_lt_of_le (nd_lt N) (Nat.pow_le_pow_right (by omega) (by omega))
    rw [Nat.div_eq_of_lt h2]

/-- The float's part of itoa. -/
theorem decLen_steps (b : Nat) (hb : b < 1800) : ∃ (q : Nat) (k : Nat), k ≤ 1000 ∧ 2 ^ b ≤ 10 ^ (k + 1) ∧
    (∀ w, (convert 3 156 (.int .i64 (b : Int))).run Tryz.prog w = .ok (.float .f64 (FloatKind.f64.nearest (b : Int))) w) ∧
    (∀ w, (binOp .quo 156 (.float .f64 (FloatKind.f64.nearest (b : Int))) (.float .f64 4614662735865160561)).run Tryz.prog w = .ok (.float .f64 q) w) ∧
    (∀ w, (convert 156 3 (.float .f64 q)).run Tryz.prog w = .ok (.int .i64 (k : Int)) w) := by
  have h := decOk_all
  rw [List.all_eq_true] at h
  have h := h b (List.mem_range.mpr hb)
  unfold decOk at h
  simp only [Bool.and_eq_true, decide_eq_true_eq] at h
  obtain ⟨⟨⟨⟨h1, h2⟩, h3⟩, h4⟩, h5⟩ := h
  obtain ⟨q, hq⟩ := Option.isSome_iff_exists.mp h1
  unfold decLen at h2 h3 h5
  rw [hq] at h2 h3 h4 h5
  simp only [Option.getD_some] at h2 h3 h4 h5
  obtain ⟨k, hk⟩ := Option.isSome_iff_exists.mp h4
  rw [hk] at h2 h3 h5
  simp only [Option.getD_some] at h2 h3 h5
  refine ⟨q, k.toNat, by omega, h5, fun w => by rfl, fun w => ?_, fun w => ?_⟩
  · show (Op.floatArith .quo .f64 _ _).run _ w = _
    simp [Op.floatArith, hq]
  · have hc : (k.toNat : Int) = k := by omega
    rw [hc]
    have hmin : IntKind.i64.min ≤ k := by show (-9223372036854775808 : Int) ≤ k; omega
    have hmax : k ≤ IntKind.i64.max := by show k ≤ (9223372036854775807 : Int); omega
    have h9 : floatToIntVal .f64 q .i64 = some k := by
      unfold floatToIntVal
      rw [hk]
      simp only []
      rw [if_pos ⟨hmin, hmax⟩]
    exact run_convert_float_int (P := Tryz.prog) (w := w) 156 3 .f64 .i64 q k (by rw [Tryz.underlying156]; rfl) Tryz.underlying3 h9
end Go.Proofs
namespace Go.Proofs
open Go.RowKit
set_option maxHeartbeats 800000
set_option linter.unusedVariables false
set_option linter.unusedSimpArgs false
set_option maxRecDepth 100000

/-- The slice of bytes v reads as B, and lies from block n on. -/
def RdB (w : World) (n : Nat) (v : Value) (B : List Nat) : Prop :=
  ∃ b o c, v = .slice (some ⟨b, o, none⟩) B.length c ∧ n ≤ b ∧ b < w.heap.size ∧ ∀ i, i < B.length → w.cell? ⟨b, o + i, none⟩ = some (.int .u8 ((B.getD i 0 : Nat) : Int))

theorem cell_new_at (w : World) (cs : Array Value) (t : TypeId) (fr : Nat × Nat) (i : Nat) (v : Value) (h : cs[i]? = some v) : (w.alloc (.cells cs t fr)).cell? ⟨w.heap.size, i, none⟩ = some v := by
  have h1 : (w.alloc (.cells cs t fr)).heap[w.heap.size]? = some (.cells cs t fr) := by
    show (w.heap.push _)[w.heap.size]? = _
    simp
  simp only [World.cell?, h1]
  exact h

theorem itoa10_leaf (a : Option Addr) (l c N : Nat) (neg : Bool) (w : World) (h : Rd w a l c (words N)) (hl : l ≤ 8) (G : Glob w) (hneg : neg = true → N ≠ 0) :
    Calls Tryz.prog 213 #[.slice a l c, .bool neg, .int .i64 10] w fun e w' => ∃ v, e = .returned v ∧ RdB w' w.heap.size v (txt neg N) ∧ Keeps (fun _ => False) w w' := by
  have H := hid h; have HG := hid G
  have hll := h.length
  clear h G
  by_cases h0 : N = 0
  · subst h0
    have hn : neg = false := by
      cases neg with
      | false => rfl
      | true => exact absurd rfl (hneg rfl)
    subst hn
    have hl0 : l = 0 := by rw [words_zero] at hll; exact hll.symm
    subst hl0
    clear hll hneg
    have kc := fun (w : World) (C : Array Value) (n c : Nat) => Lib.run_convert_bytes_const (P := Tryz.prog) w 22 5 C n c Tryz.underlying22 Tryz.underlying5
    clear H HG
    go_enter_defers Tryz.func213, Tryz.ntmps213
    go_wp2_with fail
    refine ⟨_, results_tmp rfl _ _ _, _, rfl, ?_, (Keeps.refl _ w).alloc _⟩
    have ht : txt false 0 = [48] := by unfold txt decs; rw [nd]; simp [lowDigs]
    rw [ht]
    refine ⟨w.heap.size, 0, 1, rfl, Nat.le_refl _, by simp, ?_⟩
    intro i hi
    have hi0 : i = 0 := by simp at hi; omega
    subst hi0
    exact cell_new_at w #[.int .u8 48] 5 (1, 2) 0 _ rfl
  · have hlp : 0 < l := by rw [← hll]; exact words_length_pos h0
    clear hneg
    have t3 : ((l : Int) == 0) = false := by simp; omega
    have H0 := hid h0
    clear h0 hll
    go_enter_defers Tryz.func213, Tryz.ntmps213
    go_wp2_with fail
    refine (bitLen225_any a l c N _ H.out).mono ?_
    rintro e w1 ⟨bl, rfl, hbl, hb8, rfl⟩
    have hbl1800 : bl < 1800 := by omega
    obtain ⟨qf, k, hk, hkd, f1, f2, f3⟩ := decLen_steps bl hbl1800
    have f0 : ∀ w, (convert 3 156 (.int .i64 10)).run Tryz.prog w = .ok (.float .f64 4621819117588971520) w := fun w => by kernel_rfl
    have Hbl := hid hbl; have Hkd := hid hkd
    clear hbl hkd
    go_wp2_with fail
    refine (log250 _).mono ?_
    rintro e w2 ⟨rfl, rfl⟩
    go_upto_if 41 with fail
    obtain ⟨n, hn⟩ : ∃ n, n = k + 1 + (if neg then 1 else 0) := ⟨_, rfl⟩
    go_cut [7] from 42 to 43 (fun i wx => i = .int .i64 (n : Int) ∧ wx = w2)
    case first =>
      cases neg with
      | true =>
        go_wp2_with fail
        go_meet
        case rel => exact ⟨by rw [hn]; rfl, rfl⟩
      | false =>
        go_wp2_with fail
        go_meet
        case rel => exact ⟨by rw [hn]; rfl, rfl⟩
    case rest =>
      obtain ⟨rfl, rfl⟩ := hcut
      obtain ⟨i5, hi5, hz0, hz1, hz2⟩ := info_parts info5
      have hn1 : n ≤ 1010 := by rw [hn]; split <;> omega
      have b0 : bits BinOp.and IntKind.u64 10 18446744073709551606 = 2 := by kernel_rfl
      have Hn := hid hn
      clear hn f0 f1 f2 f3
      go_wp2_with (at_make; refine wpList_mk rfl _ _ _ rfl 5 i5 (.int .u8 0) (by kernel_rfl) hi5 hz0 hz1 (by rw [hz2]; omega) rfl .i64 .i64 _ _ n n rfl rfl rfl rfl (Nat.le_refl _) (by omega) ?_)
      obtain ⟨W1, hW1⟩ : ∃ W1, W1 = wc.alloc (.cells (Array.replicate n (.int .u8 0)) 5) := ⟨_, rfl⟩
      have hkA : Keeps (fun _ => False) wc W1 := by rw [hW1]; exact (Keeps.refl (fun _ => False) wc).alloc _
      obtain ⟨sb, hsb⟩ : ∃ sb, sb = wc.heap.size := ⟨_, rfl⟩
      have hby : Byt W1 sb (List.replicate n 0) := by
        have := RowAt.new wc 5 (List.replicate n (.int .u8 0))
        unfold Byt
        rw [List.map_replicate, hW1, hsb]
        simpa [bv] using this
      have hsz : W1.heap.size = sb + 1 := by rw [hsb, hW1]; simp
      rw [← hW1, ← hsb]
      clear hW1
      refine (getStack_any _).mono ?_
      rintro e w3 ⟨rfl, rfl⟩
      obtain ⟨W2, hW2⟩ : ∃ W2, W2 = W1.alloc (.cells #[.pointer none] 240) := ⟨_, rfl⟩
      have hby2 : Byt W2 sb (List.replicate n 0) := by rw [hW2]; exact RowAt.alloc hby _
      have hst : RowAt W2 (sb + 1) 240 [.pointer none] := by rw [hW2, ← hsz]; exact RowAt.new W1 240 [.pointer none]
      have hkB : Keeps (fun _ => False) wc W2 := by rw [hW2]; exact hkA.alloc _
      rw [hsz, ← hW2]
      have hst0 : W2.cell? ⟨sb + 1, 0, none⟩ = some (.pointer none) := hst.cell 0
      have HBY := hid hby2; have HST := hid hst; have HKB := hid hkB; have HSB := hid hsb
      have HR2 := hid (H.out.keep hkB (fun _ _ h => h))
      have HG2 := hid (HG.out.keep hkB (fun _ _ h => h))
      clear hby hby2 hst hkB hkA hsz hW2 hsb hz0 hz1 hz2 hi5
      go_wp2_with fail
      refine (maxPow_any 10 19 _ (by omega) (by unfold W64; omega) (by unfold W64; omega) (by omega)).mono ?_
      rintro e w4 ⟨rfl, rfl⟩
      go_wp2_with fail
      refine (divisors_none _ l _ _ _ _ HG2.out hl).mono ?_
      rintro e w5 ⟨rfl, rfl⟩
      go_wp2_with fail
      refine (set_any none 0 0 [] a l c _ _ (Rd.nil _) HR2.out (by omega)).mono ?_
      rintro e w6 ⟨qa, qc, rfl, q1, q2, q3⟩
      have hqs : ¬ InB qa sb := by
        rintro ⟨o, ho⟩
        rcases q2.inB ⟨o, ho⟩ with ⟨o', ho'⟩ | hge
        · cases ho'
        · have := HBY.out.lt; omega
      have hqs' : ¬ InB qa (sb + 1) := by
        rintro ⟨o, ho⟩
        rcases q2.inB ⟨o, ho⟩ with ⟨o', ho'⟩ | hge
        · cases ho'
        · have := HST.out.lt; omega
      have hk6 : Keeps (fun _ => False) w5 w6 := q3.mono (fun i _ hh => by obtain ⟨o, ho⟩ := hh; cases ho)
      have hby6 : Byt w6 sb (List.replicate n 0) := hk6.row HBY.out (fun h => h)
      have hst6 : RowAt w6 (sb + 1) 240 [.pointer none] := hk6.row HST.out (fun h => h)
      have Q1 := hid q1; have Q2 := hid q2; have HK6 := hid (HKB.out.trans hk6); have HBY6 := hid hby6; have HST6 := hid hst6; have HQS := hid hqs; have HQS' := hid hqs'
      clear q1 q2 q3 hk6 hby6 hst6 hqs hqs' hst0
      go_wp2_with fail
      refine (convertWords_leaf qa l qc _ sb 0 n n N _ _ Q1.out HBY6.out (by simp) (by omega) HQS.out (by omega)).mono ?_
      rintro e w7 ⟨rfl, r1, r2⟩
      have hM : splice (List.replicate n 0) 0 (lowDigs N n) = lowDigs N n := by
        unfold splice
        simp [lowDigs_length]
      rw [hM] at r1
      have hst7 : RowAt w7 (sb + 1) 240 [.pointer none] := r2.row HST6.out (fun h => by
        rcases h with h | h
        · omega
        · exact HQS'.out h)
      have hk7 : Keeps (fun _ => False) wc w7 := HK6.out.trans' r2 (fun i hi hh => by
        rcases hh with rfl | hh
        · have := HSB.out; omega
        · rcases Q2.out.inB hh with ⟨o', ho'⟩ | hge
          · cases ho'
          · have := HKB.out.size; omega)
      have HBY7 := hid r1; have HST7 := hid hst7; have HK7 := hid hk7
      clear r1 r2 hM hst7 hk7
      have hnd := nd_pos N
      have hndn : nd N + (if neg then 1 else 0) ≤ n := by
        have h1 : nd N ≤ k + 1 := nd_le (Nat.lt_of_lt_of_le Hbl.out.1 Hkd.out) (by omega)
        have h2 := Hn.out
        omega
      go_wp2_with fail
      go_loopw [7] (fun iv wr => ∃ i, i ≤ n - nd N ∧ iv = .int .i64 (i : Int) ∧ wr = w7) (fun iv _ => n - (intOf iv).toNat)
      case atStart => exact ⟨0, Nat.zero_le _, rfl, rfl⟩
      case round =>
        obtain ⟨i, hi, rfl, rfl⟩ := hrel
        have hlead := lowDigs_lead H0.out (by omega) hi
        have c1 := Byt.cell HBY7.out (o := i) (by rw [lowDigs_length]; omega)
        obtain ⟨x, hx⟩ : ∃ x, x = (lowDigs N n).getD i 0 := ⟨_, rfl⟩
        rw [← hx] at hlead c1
        have Hlead := hid hlead; have Hx := hid hx
        clear hlead hx
        by_cases hlt : i < n - nd N
        · have hx48 : x = 48 := Hlead.out.mpr hlt
          subst hx48
          go_wp2_with fail
          exact ⟨⟨i + 1, by omega, by simp, trivial⟩, by simp [intOf]; omega⟩
        · have hx48 : ((x : Int) == 48) = false := by
            simp only [beq_eq_false_iff_ne]
            intro h
            exact hlt (Hlead.out.mp (by omega))
          have hin : i + nd N = n := by omega
          have hdr : ∀ j, j < nd N → (lowDigs N n).getD (i + j) 0 = (decs N).getD j 0 := by
            intro j hj
            have h1 := lowDigs_drop N n (nd N) (by omega)
            rw [show n - nd N = i from by omega] at h1
            unfold decs
            rw [← h1, List.getD_eq_getElem?_getD, List.getD_eq_getElem?_getD, List.getElem?_drop]
          have Hdr := hid hdr
          clear hdr hlt hi hndn
          cases neg with
          | true =>
            have hip : 1 ≤ i := by have := Hn.out; have h1 : nd N ≤ k + 1 := nd_le (Nat.lt_of_lt_of_le Hbl.out.1 Hkd.out) (by omega); simp only [if_true] at this; omega
            obtain ⟨p, rfl⟩ : ∃ p, i = p + 1 := ⟨i - 1, by omega⟩
            have c2 := Byt.cell HBY7.out (o := p) (by rw [lowDigs_length]; omega)
            have f2 := RowAt.frozen HBY7.out p
            have HB8 := hid (Byt.set HBY7.out p 45)
            have hs0 : (wr.setCell ⟨sb, p, none⟩ (.int .u8 45)).cell? ⟨sb + 1, 0, none⟩ = some (.pointer none) := RowAt.cell (RowAt.other HST7.out (show sb ≠ sb + 1 by omega) _) 0
            have hpn : (p : Int) + 1 - 1 = (p : Int) := by omega
            obtain ⟨sp, hsl, hsp⟩ := slice22_from sb 0 n n p (by omega) (Nat.le_refl _)
            go_wp2_with fail
            refine leaves_cons (f := 240) (args := #[.pointer (some ⟨sb + 1, 0, none⟩)]) (by simp) (by simp [go_sem]) ?_
            refine (free240 ⟨sb + 1, 0, none⟩ _ _ hs0).mono ?_
            rintro e u' w'' ⟨rfl, rfl, rfl⟩
            have hdl : (decs N).length = nd N := lowDigs_length _ _
            have htl : (txt true N).length = n - p := by unfold txt; simp [hdl]; omega
            refine ⟨_, results_tmp rfl _ _ _, _, rfl, ?_, HK7.out.setCell _ (.inr (by show wc.heap.size ≤ sb; rw [HSB.out]; omega)) _⟩
            refine ⟨sb, p, n - p, ?_, by rw [HSB.out]; omega, HB8.out.lt, ?_⟩
            · rw [htl, hsp (by omega), Nat.zero_add]; rfl
            · intro j hj
              rw [htl] at hj
              refine (Byt.cell HB8.out (o := p + j) (by simp [lowDigs_length]; omega)).trans ?_
              congr 3
              rw [List.getD_eq_getElem?_getD, List.getElem?_set]
              cases j with
              | zero =>
                have hpn' : p < n := by omega
                simp [txt, lowDigs_length, hpn']
              | succ j =>
                rw [if_neg (by omega), ← List.getD_eq_getElem?_getD, show p + (j + 1) = p + 1 + j from by omega, Hdr.out j (by omega)]
                simp [txt]
          | false =>
            have hs0 : wr.cell? ⟨sb + 1, 0, none⟩ = some (.pointer none) := RowAt.cell HST7.out 0
            obtain ⟨sp, hsl, hsp⟩ := slice22_from sb 0 n n i (by omega) (Nat.le_refl _)
            go_wp2_with fail
            refine leaves_cons (f := 240) (args := #[.pointer (some ⟨sb + 1, 0, none⟩)]) (by simp) (by simp [go_sem]) ?_
            refine (free240 ⟨sb + 1, 0, none⟩ _ _ hs0).mono ?_
            rintro e u' w'' ⟨rfl, rfl, rfl⟩
            have hdl : (decs N).length = nd N := lowDigs_length _ _
            have htl : (txt false N).length = n - i := by unfold txt; simp [hdl]; omega
            refine ⟨_, results_tmp rfl _ _ _, _, rfl, ?_, HK7.out⟩
            refine ⟨sb, i, n - i, ?_, by rw [HSB.out]; omega, HBY7.out.lt, ?_⟩
            · rw [htl, hsp (by omega), Nat.zero_add]; rfl
            · intro j hj
              rw [htl] at hj
              rw [Byt.cell HBY7.out (by rw [lowDigs_length]; omega)]
              congr 3
              rw [Hdr.out j (by omega)]
              simp [txt]
end Go.Proofs
namespace Go.Proofs
open Go.RowKit
set_option maxHeartbeats 400000
set_option linter.unusedVariables false
set_option linter.unusedSimpArgs false
set_option maxRecDepth 100000

/-- The string of some bytes. -/
def strB (B : List Nat) : ByteArray := strOfNums (B.map Int.ofNat)

theorem RdB.string {w : World} {n : Nat} {v : Value} {B : List Nat} (h : RdB w n v B) : (convert 22 9 v).run Tryz.prog w = .ok (.string (strB B)) w := by
  obtain ⟨b, o, c, rfl, _, _, hc⟩ := h
  exact run_convert_bytes_arg (P := Tryz.prog) w 22 5 Tryz.underlying22 Tryz.underlying5 b o B.length c (B.map Int.ofNat) (by simp) (fun i hi => by
    rw [hc i hi]
    simp [List.getD_eq_getElem?_getD, List.getElem?_map, List.getElem?_eq_getElem hi]) 9 Tryz.underlying9

theorem nat_nonneg_neg {z : Int} : decide (z < 0) = true → z.natAbs ≠ 0 := by
  intro h
  have := of_decide_eq_true h
  omega

theorem text170_leaf (p : Nat) (t : TypeId) (z : Int) (w : World) (h : IntAt w p t z) (hz : z.natAbs < W64 ^ 8) (G : Glob w) :
    Calls Tryz.prog 170 #[.pointer (some ⟨p, 0, none⟩), .int .i64 10] w fun e w' => e = .returned (.string (strB (txt (decide (z < 0)) z.natAbs))) ∧ Keeps (fun _ => False) w w' := by
  obtain ⟨a, l, c, h1, h2⟩ := h
  obtain ⟨c1, c2, _, _⟩ := h1.facts
  have hl : l ≤ 8 := by rw [← h2.length]; exact words_lt hz
  have H1 := hid h1; have H2 := hid h2; have HG := hid G
  obtain ⟨ng, hng⟩ : ∃ ng, ng = decide (z < 0) := ⟨_, rfl⟩
  have hngz : ng = true → z.natAbs ≠ 0 := fun h => nat_nonneg_neg (by rw [← hng]; exact h)
  rw [← hng] at c1 ⊢
  have HNZ := hid hngz
  clear h1 h2 G hz hng hngz
  have hpt : (binOp .eql 117 (.pointer (some ⟨p, 0, none⟩)) (.pointer none)).run Tryz.prog w = .ok (.bool false) w := by simp [go_sem]
  go_enter Tryz.func170, Tryz.ntmps170
  go_wp2_with fail
  go_still_tail 9, (by kernel_rfl)
  go_wp2_with fail
  refine (itoa10_leaf a l c z.natAbs ng w.drew H2.out.drew hl (HG.out.drewN 1) HNZ.out).mono ?_
  rintro e w1 ⟨v, rfl, hv, hk⟩
  have hs := hv.string
  have HV := hid hv; have HK := hid hk
  clear hv hk
  go_wp2_with fail
  go_ret
  exact ⟨rfl, ((Keeps.refl _ w).drew).trans HK.out⟩

theorem string157_leaf (p : Nat) (t : TypeId) (z : Int) (w : World) (h : IntAt w p t z) (hz : z.natAbs < W64 ^ 8) (G : Glob w) :
    Calls Tryz.prog 157 #[.pointer (some ⟨p, 0, none⟩)] w fun e w' => e = .returned (.string (strB (txt (decide (z < 0)) z.natAbs))) ∧ Keeps (fun _ => False) w w' := by
  have H := hid (text170_leaf p t z w h hz G)
  clear h hz G
  go_enter Tryz.func157, Tryz.ntmps157
  go_wp2_with fail
  refine H.out.mono ?_
  rintro e w1 ⟨rfl, hk⟩
  have hk := hid hk
  go_wp2_with fail
  go_ret
  exact ⟨rfl, hk.out⟩

theorem string80_leaf (p : Nat) (t : TypeId) (z : Int) (w : World) (h : IntAt w p t z) (hz : z.natAbs < W64 ^ 8) (G : Glob w) :
    Calls Tryz.prog 80 #[.pointer (some ⟨p, 0, none⟩)] w fun e w' => e = .returned (.string (strB (txt (decide (z < 0)) z.natAbs))) ∧ Keeps (fun _ => False) w w' := by
  have H := hid (string157_leaf p t z w h hz G)
  clear h hz G
  go_enter Tryz.func80, Tryz.ntmps80
  go_wp2_with fail
  refine H.out.mono ?_
  rintro e w1 ⟨rfl, hk⟩
  have hk := hid hk
  go_wp2_with fail
  go_ret
  exact ⟨rfl, hk.out⟩

theorem text110_leaf (p : Nat) (t : TypeId) (z : Int) (w : World) (h : IntAt w p t z) (hz : z.natAbs < W64 ^ 8) (G : Glob w) :
    Calls Tryz.prog 110 #[.pointer (some ⟨p, 0, none⟩), .int .i64 10] w fun e w' => e = .returned (.string (strB (txt (decide (z < 0)) z.natAbs))) ∧ Keeps (fun _ => False) w w' := by
  have H := hid (text170_leaf p t z w h hz G)
  clear h hz G
  go_enter Tryz.func110, Tryz.ntmps110
  go_wp2_with fail
  refine H.out.mono ?_
  rintro e w1 ⟨rfl, hk⟩
  have hk := hid hk
  go_wp2_with fail
  go_ret
  exact ⟨rfl, hk.out⟩

/-- MarshalJSON. -/
theorem json169_leaf (p : Nat) (t : TypeId) (z : Int) (w : World) (h : IntAt w p t z) (hz : z.natAbs < W64 ^ 8) (G : Glob w) :
    Calls Tryz.prog 169 #[.pointer (some ⟨p, 0, none⟩)] w fun e w' => ∃ v, e = .returned (.tuple #[v, .nilIface]) ∧ RdB w' w.heap.size v (txt (decide (z < 0)) z.natAbs) ∧ Keeps (fun _ => False) w w' := by
  obtain ⟨a, l, c, h1, h2⟩ := h
  obtain ⟨c1, c2, _, _⟩ := h1.facts
  have hl : l ≤ 8 := by rw [← h2.length]; exact words_lt hz
  have H1 := hid h1; have H2 := hid h2; have HG := hid G
  obtain ⟨ng, hng⟩ : ∃ ng, ng = decide (z < 0) := ⟨_, rfl⟩
  have hngz : ng = true → z.natAbs ≠ 0 := fun h => nat_nonneg_neg (by rw [← hng]; exact h)
  rw [← hng] at c1 ⊢
  have HNZ := hid hngz
  clear h1 h2 G hz hng hngz
  go_enter Tryz.func169, Tryz.ntmps169
  go_wp2_with fail
  go_still_tail 8, (by kernel_rfl)
  go_wp2_with fail
  refine (itoa10_leaf a l c z.natAbs ng w.drew H2.out.drew hl (HG.out.drewN 1) HNZ.out).mono ?_
  rintro e w1 ⟨v, rfl, hv, hk⟩
  have HV := hid hv; have HK := hid hk
  clear hv hk
  go_wp2_with fail
  go_ret2
  exact ⟨_, rfl, HV.out, ((Keeps.refl _ w).drew).trans HK.out⟩

theorem json109_leaf (p : Nat) (t : TypeId) (z : Int) (w : World) (h : IntAt w p t z) (hz : z.natAbs < W64 ^ 8) (G : Glob w) :
    Calls Tryz.prog 109 #[.pointer (some ⟨p, 0, none⟩)] w fun e w' => ∃ v, e = .returned (.tuple #[v, .nilIface]) ∧ RdB w' w.heap.size v (txt (decide (z < 0)) z.natAbs) ∧ Keeps (fun _ => False) w w' := by
  have H := hid (json169_leaf p t z w h hz G)
  clear h hz G
  go_enter Tryz.func109, Tryz.ntmps109
  go_wp2_with fail
  refine H.out.mono ?_
  rintro e w1 ⟨v, rfl, hv, hk⟩
  have hv := hid hv; have hk := hid hk
  go_wp2_with fail
  go_ret2
  exact ⟨_, rfl, hv.out, hk.out⟩
end Go.Proofs
namespace Go.Proofs
open Go.RowKit
set_option maxHeartbeats 400000
set_option linter.unusedVariables false
set_option linter.unusedSimpArgs false
set_option maxRecDepth 100000

/-- append(nil, v...): a new block. -/
theorem append_nil_bytes (n : Nat) (v : Value) (B : List Nat) (w : World) (h : RdB w n v B) (h0 : 0 < B.length) (hl : B.length ≤ 1000000) :
    ∃ v' w', (Builtin.append_ #[22, 22] 22 #[.slice none 0 0, v]).run Tryz.prog w = .ok v' w' ∧ RdB w' w.heap.size v' B ∧ Keeps (fun _ => False) w w' := by
  obtain ⟨b, o, c, rfl, _, _, hc⟩ := h
  obtain ⟨i5, hi5, hz0, hz1, hz2⟩ := info_parts info5
  have hr := run_append_nil (P := Tryz.prog) (w := w) 22 22 5 i5 (.int .u8 0) Tryz.underlying22 hi5 hz0 ⟨b, o, none⟩ B.length c (B.map bv) (by simp [hz1]) (fun j u hj => by
    have hj' : j < B.length := by
      have := (List.getElem?_eq_some_iff.1 hj).1
      simpa using this
    have hadd : (⟨b, o, none⟩ : Addr).add j = ⟨b, o + j, none⟩ := by unfold Addr.add; split <;> simp_all
    rw [hadd, hc j hj']
    simp [bv, List.getElem?_eq_getElem hj'] at hj
    rw [← hj]
    simp [List.getElem?_eq_getElem hj']) h0 (by omega) (by rw [hz2]; omega)
  refine ⟨_, _, hr, ⟨w.heap.size, 0, _, rfl, Nat.le_refl _, by simp, fun j hj => ?_⟩, ((Keeps.refl _ w).drew).alloc _⟩
  have := cell_new_at w.drew ((B.map bv).toArray ++ Builtin.zeroCells (Value.int .u8 0).cells (grownCap w B.length 0 5 - B.length)) 5 (0, 0) j (bv (B.getD j 0)) (by
    rw [Array.getElem?_append_left (by simpa using hj)]
    simp [List.getElem?_eq_getElem hj])
  rw [Nat.zero_add]
  exact this

theorem txt_length (neg : Bool) (N : Nat) : 0 < (txt neg N).length := by
  unfold txt decs
  have := nd_pos N
  simp [lowDigs_length]
  omega

theorem txt_len_leaf (neg : Bool) {N : Nat} (h : N < W64 ^ 8) : (txt neg N).length ≤ 1000000 := by
  have h1 : nd N ≤ 200 := nd_le (Nat.lt_of_lt_of_le h (by unfold W64; decide)) (by omega)
  unfold txt decs
  rw [List.length_append, lowDigs_length]
  split <;> simp <;> omega

theorem step_app {P : Program} {w : World} {ops : Array Oper} {o : Oper} {a : Act} {K : Act → World → Prop} {Q : Exit → Act → World → Prop} {E : Prop} (hgd : o.guard = none) (s x : Operand)
    (ho : o.op = .call { callee := .builtin .append, args := #[s, x], argTypes := #[22, 22] }) (hty : o.type = 22) (v v' : Value) (w' : World)
    (hs : a.eval s = .slice none 0 0) (hx : a.eval x = v) (hr : (Builtin.append_ #[22, 22] 22 #[.slice none 0 0, v]).run P w = .ok v' w') (h : K (a.put o.dst v') w') :
    if Region.wanted o (yielded ops a.tmps) = true then Oper.wp P o a w K Q else E := by
  have hw : Region.wanted o (yielded ops a.tmps) = true := by simp [Region.wanted, hgd]
  rw [if_pos hw]
  unfold Oper.wp execOp
  simp only [ho, hty, resolve, invoke, builtin, Sem.run_bind, Sem.run_pure, Result.andThen_ok, List.map_toArray, List.map_cons, List.map_nil, hs, hx, hr]
  exact h

theorem append249_leaf (p : Nat) (t : TypeId) (z : Int) (w : World) (h : IntAt w p t z) (hz : z.natAbs < W64 ^ 8) (G : Glob w) :
    Calls Tryz.prog 249 #[.pointer (some ⟨p, 0, none⟩), .slice none 0 0, .int .i64 10] w fun e w' => ∃ v, e = .returned v ∧ RdB w' w.heap.size v (txt (decide (z < 0)) z.natAbs) ∧ Keeps (fun _ => False) w w' := by
  obtain ⟨a, l, c, h1, h2⟩ := h
  obtain ⟨c1, c2, _, _⟩ := h1.facts
  have hl : l ≤ 8 := by rw [← h2.length]; exact words_lt hz
  have H1 := hid h1; have H2 := hid h2; have HG := hid G
  obtain ⟨ng, hng⟩ : ∃ ng, ng = decide (z < 0) := ⟨_, rfl⟩
  have hngz : ng = true → z.natAbs ≠ 0 := fun h => nat_nonneg_neg (by rw [← hng]; exact h)
  rw [← hng] at c1 ⊢
  have HNZ := hid hngz
  have htl := hid (txt_len_leaf ng hz)
  clear h1 h2 G hz hng hngz
  go_enter Tryz.func249, Tryz.ntmps249
  go_wp2_with fail
  go_region_held3 (fun w' => w'.cell? ⟨p, 0, none⟩ = some (.bool ng) ∧ w'.cell? ⟨p, 1, none⟩ = some (.slice a l c)) (go_keep) (first | (go_at_call 213; refine (itoa10_leaf a l c z.natAbs ng _ (H2.out.drewN 1) hl (HG.out.drewN 1) HNZ.out).mono ?_; rintro e w1 ⟨v, rfl, hv, hk⟩; obtain ⟨v', w2, hap, hv', hk'⟩ := append_nil_bytes _ v _ w1 hv (txt_length _ _) htl.out; have d0 := (cell_of_block (p := ⟨p, 0, none⟩) (hk.block p H1.out.lt (fun h => h))).trans c1; have d1 := (cell_of_block (p := ⟨p, 1, none⟩) (hk.block p H1.out.lt (fun h => h))).trans c2; have d2 := (cell_of_block (p := ⟨p, 0, none⟩) (hk'.block p (Nat.lt_of_lt_of_le H1.out.lt hk.size) (fun h => h))).trans d0; have d3 := (cell_of_block (p := ⟨p, 1, none⟩) (hk'.block p (Nat.lt_of_lt_of_le H1.out.lt hk.size) (fun h => h))).trans d1; have HV := hid hv'; have HK := hid hk; have HK2 := hid hk'; clear hv hv' hk hk') | (refine step_app rfl (.tmp 11) (.tmp 21) rfl rfl _ _ _ rfl rfl (by assumption) ?_))
  go_wp2_with fail
  go_ret
  obtain ⟨b, o, cc, e1, e2, e3, e4⟩ := HV.out
  exact ⟨_, rfl, ⟨b, o, cc, e1, Nat.le_trans HK.out.size e2, e3, e4⟩, ((Keeps.refl _ w).drew).trans (HK.out.trans HK2.out)⟩

theorem appendText212_leaf (p : Nat) (t : TypeId) (z : Int) (w : World) (h : IntAt w p t z) (hz : z.natAbs < W64 ^ 8) (G : Glob w) :
    Calls Tryz.prog 212 #[.pointer (some ⟨p, 0, none⟩), .slice none 0 0] w fun e w' => ∃ v, e = .returned (.tuple #[v, .nilIface]) ∧ RdB w' w.heap.size v (txt (decide (z < 0)) z.natAbs) ∧ Keeps (fun _ => False) w w' := by
  have H := hid (append249_leaf p t z w h hz G)
  clear h hz G
  go_enter Tryz.func212, Tryz.ntmps212
  go_wp2_with fail
  refine H.out.mono ?_
  rintro e w1 ⟨v, rfl, hv, hk⟩
  have hv := hid hv; have hk := hid hk
  go_wp2_with fail
  go_ret2
  exact ⟨_, rfl, hv.out, hk.out⟩

theorem marshalText168_leaf (p : Nat) (t : TypeId) (z : Int) (w : World) (h : IntAt w p t z) (hz : z.natAbs < W64 ^ 8) (G : Glob w) :
    Calls Tryz.prog 168 #[.pointer (some ⟨p, 0, none⟩)] w fun e w' => ∃ v, e = .returned (.tuple #[v, .nilIface]) ∧ RdB w' w.heap.size v (txt (decide (z < 0)) z.natAbs) ∧ Keeps (fun _ => False) w w' := by
  have H := hid (appendText212_leaf p t z w h hz G)
  clear h hz G
  go_enter Tryz.func168, Tryz.ntmps168
  go_wp2_with fail
  refine H.out.mono ?_
  rintro e w1 ⟨v, rfl, hv, hk⟩
  have hv := hid hv; have hk := hid hk
  go_wp2_with fail
  go_ret2
  exact ⟨_, rfl, hv.out, hk.out⟩

theorem marshalText108_leaf (p : Nat) (t : TypeId) (z : Int) (w : World) (h : IntAt w p t z) (hz : z.natAbs < W64 ^ 8) (G : Glob w) :
    Calls Tryz.prog 108 #[.pointer (some ⟨p, 0, none⟩)] w fun e w' => ∃ v, e = .returned (.tuple #[v, .nilIface]) ∧ RdB w' w.heap.size v (txt (decide (z < 0)) z.natAbs) ∧ Keeps (fun _ => False) w w' := by
  have H := hid (marshalText168_leaf p t z w h hz G)
  clear h hz G
  go_enter Tryz.func108, Tryz.ntmps108
  go_wp2_with fail
  refine H.out.mono ?_
  rintro e w1 ⟨v, rfl, hv, hk⟩
  have hv := hid hv; have hk := hid hk
  go_wp2_with fail
  go_ret2
  exact ⟨_, rfl, hv.out, hk.out⟩
end Go.Proofs
