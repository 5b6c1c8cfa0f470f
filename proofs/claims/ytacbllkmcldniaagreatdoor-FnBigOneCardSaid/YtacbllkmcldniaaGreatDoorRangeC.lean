/- Parts of the proofs over the numbers of any length: MulR, MulR3, MulR4. -/
import Derived.Test.YtacbllkmcldniaaGreatDoorRangeB
import Derived.Test.YtacbllkmcldniaaGreatDoorRangeA
import Derived.Test.YtacbllkmcldniaaGreatDoorBaseC
set_option linter.unusedSimpArgs false
set_option linter.unusedVariables false
namespace Go.Proofs
open Go.RowKit
set_option maxHeartbeats 400000
set_option linter.unusedVariables false
set_option linter.unusedSimpArgs false
set_option maxRecDepth 100000

theorem mulRange_one (sp : Option Addr) (a : Nat) (w : World) (h0 : 0 < a) (ha : a < W64) :
    Calls Tryz.prog 223 #[.slice none 0 0, .pointer sp, .int .u64 (a : Int), .int .u64 (a : Int)] w (NatRes w none 0 (prodR a 1)) := by
  rw [prodR_one]
  have H := hid (setUint64_any none 0 0 [] a w (Rd.nil w) ha)
  have t1 : ((a : Int) == 0) = false := by simp; omega
  have t2 : decide ((a : Int) < (a : Int)) = false := by simp
  have t3 : ((a : Int) == (a : Int)) = true := by simp
  clear h0 ha
  go_enter_defers Tryz.func223, Tryz.ntmps223
  go_wp2_with fail
  refine H.out.mono ?_
  rintro e w1 ⟨ra, rl, rc, rfl, h1, h2, h3⟩
  have H1 := hid h1; have H2 := hid h2; have H3 := hid h3
  clear h1 h2 h3
  go_wp2_with fail
  refine ⟨_, results_tmp rfl _ _ _, ?_⟩
  exact ⟨ra, rl, rc, rfl, H1.out, H2.out, H3.out⟩
end Go.Proofs
namespace Go.Proofs
open Go.RowKit
set_option maxHeartbeats 400000
set_option linter.unusedVariables false
set_option linter.unusedSimpArgs false
set_option maxRecDepth 100000

theorem mulRange_two (sp : Option Addr) (a b : Nat) (w : World) (h0 : 0 < a) (he : a + 1 = b) (hb : b < W64) (G : Glob w) :
    Calls Tryz.prog 223 #[.slice none 0 0, .pointer sp, .int .u64 (a : Int), .int .u64 (b : Int)] w (NatRes w none 0 (a * b)) := by
  have t1 : ((a : Int) == 0) = false := by simp; omega
  have t2 : decide (b < a) = false := by simp; omega
  have t3 : ((a : Int) == (b : Int)) = false := by simp; omega
  have t4 : IntKind.u64.wrap ((a : Int) + 1) = (b : Int) := by
    rw [show (a : Int) + 1 = ((b : Nat) : Int) by omega, u64_wrapM, Nat.mod_eq_of_lt hb]
  have t5 : ((b : Int) == (b : Int)) = true := by simp
  have H1 := hid (setUint64_any none 0 0 [] a w (Rd.nil w) (by omega))
  have Ha : Hid (a < W64) := hid (by omega); have Hb := hid hb; have HG := hid G
  clear h0 hb G he
  go_enter_defers Tryz.func223, Tryz.ntmps223
  go_upto_region 7 with fail
  go_wp2_with fail
  refine H1.out.mono ?_
  rintro e w1 ⟨xa, xl, xc, rfl, h1, h2, h3⟩
  have X1 := hid h1; have H3 := hid h3
  clear h1 h2 h3 H1
  have HB := hid (setUint64_any none 0 0 [] b w1 (Rd.nil w1) Hb.out)
  go_wp2_with fail
  refine HB.out.mono ?_
  rintro e w2 ⟨ya, yl, yc, rfl, k1, k2, k3⟩
  have K1 := hid k1; have K3 := hid k3
  clear k1 k2 k3 HB
  have G2 := hid ((HG.out.in_rd (Rd.nil w) H3.out).in_rd (Rd.nil w1) K3.out)
  have X2 := hid (X1.out.keep K3.out (fun k _ hk => by obtain ⟨o, ho⟩ := hk; cases ho))
  have lx := words_lt (n := a) (k := 1) (by simpa using Ha.out)
  have ly := words_lt (n := b) (k := 1) (by simpa using Hb.out)
  have ex := X1.out.length
  have ey := K1.out.length
  have HM := hid (mul_any none 0 0 [] sp xa xl xc a ya yl yc b w2 G2.out (Rd.nil w2) X2.out K1.out (by omega) (by omega) (Al.of_ne (fun k hk => by obtain ⟨o, ho⟩ := hk; cases ho)) (Al.of_ne (fun k hk => by obtain ⟨o, ho⟩ := hk; cases ho)))
  clear lx ly ex ey
  go_wp2_with fail
  refine HM.out.mono ?_
  rintro e w3 ⟨ra, rl, rc, rfl, m1, m2, m3⟩
  have M1 := hid m1; have M2 := hid m2; have M3 := hid m3
  clear m1 m2 m3
  go_wp2_with fail
  refine ⟨_, results_tmp rfl _ _ _, ?_⟩
  exact ⟨ra, rl, rc, rfl, M1.out, M2.out.mono (Nat.le_trans H3.out.size K3.out.size), (H3.out.trans K3.out).trans M3.out⟩
end Go.Proofs
namespace Go.Proofs
open Go.RowKit
set_option maxHeartbeats 1000000
set_option linter.unusedVariables false
set_option linter.unusedSimpArgs false
set_option maxRecDepth 100000

theorem prodR_le_left {a m b : Nat} (h0 : 0 < a) (h1 : a ≤ m) (h2 : m < b) : prodR a (m + 1 - a) ≤ prodR a (b + 1 - a) ∧ prodR (m + 1) (b + 1 - (m + 1)) ≤ prodR a (b + 1 - a) := by
  rw [prodR_halves h1 h2]
  have p1 := prodR_pos h0 (m + 1 - a)
  have p2 := prodR_pos (a := m + 1) (by omega) (b + 1 - (m + 1))
  exact ⟨Nat.le_mul_of_pos_right _ p2, Nat.le_mul_of_pos_left _ p1⟩

theorem mulRange_rec (sp : Addr) : ∀ (n a b : Nat) (w : World), b - a ≤ n → 0 < a → a ≤ b → b < W64 → Glob w → prodR a (b + 1 - a) < W64 ^ 39 →
    Calls Tryz.prog 223 #[.slice none 0 0, .pointer (some sp), .int .u64 (a : Int), .int .u64 (b : Int)] w (NatRes w none 0 (prodR a (b + 1 - a))) := by
  intro n
  induction n with
  | zero =>
    intro a b w h1 h0 hab hb G hp
    obtain rfl : a = b := by omega
    have := mulRange_one (some sp) a w h0 hb
    rwa [show a + 1 - a = 1 by omega]
  | succ n ih =>
    intro a b w h1 h0 hab hb G hp
    by_cases e1 : a = b
    · subst e1
      have := mulRange_one (some sp) a w h0 hb
      rwa [show a + 1 - a = 1 by omega]
    by_cases e2 : a + 1 = b
    · subst e2
      have := mulRange_two (some sp) a (a + 1) w h0 rfl hb G
      rwa [show a + 1 + 1 - a = 2 by omega, prodR_two]
    obtain ⟨m, hm⟩ : ∃ m, m = a + (b - a) / 2 := ⟨_, rfl⟩
    have hm1 : a ≤ m := by omega
    have hm2 : m < b := by omega
    have hl := prodR_le_left h0 hm1 hm2
    have HI1 := hid (ih a m w (by omega) h0 hm1 (by omega) G (Nat.lt_of_le_of_lt hl.1 hp))
    have HI2 := hid (fun (w1 : World) (G1 : Glob w1) => ih (m + 1) b w1 (by omega) (by omega) (by omega) hb G1 (Nat.lt_of_le_of_lt hl.2 hp))
    have HP := hid (prodR_halves hm1 hm2)
    have Hl1 := hid (Nat.lt_of_le_of_lt hl.1 hp); have Hl2 := hid (Nat.lt_of_le_of_lt hl.2 hp)
    obtain ⟨P1, hP1⟩ : ∃ P, P = prodR a (m + 1 - a) := ⟨_, rfl⟩
    obtain ⟨P2, hP2⟩ : ∃ P, P = prodR (m + 1) (b + 1 - (m + 1)) := ⟨_, rfl⟩
    rw [← hP1] at HI1 HP Hl1
    rw [← hP2] at HI2 HP Hl2
    have HG := hid G
    have t1 : ((a : Int) == 0) = false := by simp; omega
    have t2 : decide (b < a) = false := by simp; omega
    have t3 : ((a : Int) == (b : Int)) = false := by simp; omega
    have t4 : IntKind.u64.wrap ((a : Int) + 1) = (a : Int) + 1 := by rw [IntKind.wrap_u64]; unfold W64 at hb; omega
    have t5 : ((a : Int) + 1 == (b : Int)) = false := by simp; omega
    obtain ⟨h, hh⟩ : ∃ h, h = (b - a) / 2 := ⟨_, rfl⟩
    have g2 : IntKind.u64.wrap (((b - a : Nat) : Int) / 2) = (h : Int) := by rw [IntKind.wrap_u64]; unfold W64 at hb; omega
    have g3 : IntKind.u64.wrap ((a : Int) + (h : Int)) = (m : Int) := by rw [IntKind.wrap_u64]; unfold W64 at hb; omega
    obtain ⟨m1, hm11⟩ : ∃ m1, m1 = m + 1 := ⟨_, rfl⟩
    have g4 : IntKind.u64.wrap ((m : Int) + 1) = (m1 : Int) := by rw [IntKind.wrap_u64]; unfold W64 at hb; omega
    rw [← hm11] at HI2
    have g1 : IntKind.u64.wrap ((b : Int) - (a : Int)) = ((b - a : Nat) : Int) := by rw [IntKind.wrap_u64]; unfold W64 at hb; omega
    have Hm := hid hm; have Hb := hid hb
    clear ih h1 h0 hab hb G hp e1 e2 hm hm1 hm2 hl hP1 hP2 hh hm11
    go_enter_defers Tryz.func223, Tryz.ntmps223
    go_upto_region 13 with fail
    go_wp2_with fail
    refine HI1.out.mono ?_
    rintro e w1 ⟨xa, xl, xc, rfl, h1, h2, h3⟩
    have X1 := hid h1; have K1 := hid h3
    have G1 := hid (HG.out.in_rd (Rd.nil w) h3)
    clear h1 h2 h3 HI1
    have HJ := hid (HI2.out w1 G1.out)
    go_wp2_with fail
    refine HJ.out.mono ?_
    rintro e w2 ⟨ya, yl, yc, rfl, k1, k2, k3⟩
    have Y1 := hid k1; have K2 := hid k3
    have G2 := hid (G1.out.in_rd (Rd.nil w1) k3)
    have X2 := hid (X1.out.keep k3 (fun k _ hk => by obtain ⟨o, ho⟩ := hk; cases ho))
    clear k1 k2 k3 HJ HI2
    have lx := words_lt Hl1.out
    have ly := words_lt Hl2.out
    have ex := X1.out.length
    have ey := Y1.out.length
    have HM := hid (mul_any none 0 0 [] (some sp) xa xl xc P1 ya yl yc P2 w2 G2.out (Rd.nil w2) X2.out Y1.out (by omega) (by omega) (Al.of_ne (fun k hk => by obtain ⟨o, ho⟩ := hk; cases ho)) (Al.of_ne (fun k hk => by obtain ⟨o, ho⟩ := hk; cases ho)))
    clear lx ly ex ey
    go_wp2_with fail
    refine HM.out.mono ?_
    rintro e w3 ⟨ra, rl, rc, rfl, m1, m2, m3⟩
    have M1 := hid m1; have M2 := hid m2; have M3 := hid m3
    clear m1 m2 m3
    go_wp2_with fail
    refine ⟨_, results_tmp rfl _ _ _, ?_⟩
    rw [HP.out]
    exact ⟨ra, rl, rc, rfl, M1.out, M2.out.mono (Nat.le_trans K1.out.size K2.out.size), (K1.out.trans K2.out).trans M3.out⟩

/-- The product of a range, the stack its own. -/
theorem mulRange_nil (a b : Nat) (w : World) (h0 : 0 < a) (hab : a ≤ b) (hb : b < W64) (G : Glob w) (hp : prodR a (b + 1 - a) < W64 ^ 39) :
    Calls Tryz.prog 223 #[.slice none 0 0, .pointer none, .int .u64 (a : Int), .int .u64 (b : Int)] w (NatRes w none 0 (prodR a (b + 1 - a))) := by
  by_cases e1 : a = b
  · subst e1
    have := mulRange_one none a w h0 hb
    rwa [show a + 1 - a = 1 by omega]
  by_cases e2 : a + 1 = b
  · subst e2
    have := mulRange_two none a (a + 1) w h0 rfl hb G
    rwa [show a + 1 + 1 - a = 2 by omega, prodR_two]
  obtain ⟨m, hm⟩ : ∃ m, m = a + (b - a) / 2 := ⟨_, rfl⟩
  have hm1 : a ≤ m := by omega
  have hm2 : m < b := by omega
  have hl := prodR_le_left h0 hm1 hm2
  obtain ⟨W, hW⟩ : ∃ W, W = w.alloc (.cells #[.pointer none] 240) := ⟨_, rfl⟩
  have hkW : Keeps (fun _ => False) w W := by rw [hW]; exact (Keeps.refl _ w).alloc _
  have GW : Glob W := G.keep hkW (fun _ _ h => h)
  obtain ⟨s, hs⟩ : ∃ s, s = w.heap.size := ⟨_, rfl⟩
  have hrow : RowAt W s 240 [.pointer none] := by rw [hW, hs]; exact RowAt.new w 240 _
  have HI1 := hid (mulRange_rec ⟨s, 0, none⟩ (b - a) a m W (by omega) h0 hm1 (by omega) GW (Nat.lt_of_le_of_lt hl.1 hp))
  have HI2 := hid (fun (w1 : World) (G1 : Glob w1) => mulRange_rec ⟨s, 0, none⟩ (b - a) (m + 1) b w1 (by omega) (by omega) (by omega) hb G1 (Nat.lt_of_le_of_lt hl.2 hp))
  have HP := hid (prodR_halves hm1 hm2)
  have Hl1 := hid (Nat.lt_of_le_of_lt hl.1 hp); have Hl2 := hid (Nat.lt_of_le_of_lt hl.2 hp)
  obtain ⟨P1, hP1⟩ : ∃ P, P = prodR a (m + 1 - a) := ⟨_, rfl⟩
  obtain ⟨P2, hP2⟩ : ∃ P, P = prodR (m + 1) (b + 1 - (m + 1)) := ⟨_, rfl⟩
  rw [← hP1] at HI1 HP Hl1
  rw [← hP2] at HI2 HP Hl2
  have HG := hid GW; have HkW := hid hkW; have Hrow := hid hrow; have HW := hid hW; have Hs := hid hs
  have t1 : ((a : Int) == 0) = false := by simp; omega
  have t2 : decide (b < a) = false := by simp; omega
  have t3 : ((a : Int) == (b : Int)) = false := by simp; omega
  have t4 : IntKind.u64.wrap ((a : Int) + 1) = (a : Int) + 1 := by rw [IntKind.wrap_u64]; unfold W64 at hb; omega
  have t5 : ((a : Int) + 1 == (b : Int)) = false := by simp; omega
  obtain ⟨h, hh⟩ : ∃ h, h = (b - a) / 2 := ⟨_, rfl⟩
  have g2 : IntKind.u64.wrap (((b - a : Nat) : Int) / 2) = (h : Int) := by rw [IntKind.wrap_u64]; unfold W64 at hb; omega
  have g3 : IntKind.u64.wrap ((a : Int) + (h : Int)) = (m : Int) := by rw [IntKind.wrap_u64]; unfold W64 at hb; omega
  obtain ⟨m1, hm11⟩ : ∃ m1, m1 = m + 1 := ⟨_, rfl⟩
  have g4 : IntKind.u64.wrap ((m : Int) + 1) = (m1 : Int) := by rw [IntKind.wrap_u64]; unfold W64 at hb; omega
  rw [← hm11] at HI2
  have g1 : IntKind.u64.wrap ((b : Int) - (a : Int)) = ((b - a : Nat) : Int) := by rw [IntKind.wrap_u64]; unfold W64 at hb; omega
  clear h0 hab hb G hp e1 e2 hm hm1 hm2 hl hP1 hP2 hh hm11 GW hkW hrow hW hs
  go_enter_defers Tryz.func223, Tryz.ntmps223
  go_upto_region 10 with fail
  go_wp2_with fail
  refine (getStack_any _).mono ?_
  rintro e w0 ⟨rfl, rfl⟩
  rw [← Hs.out, ← HW.out]
  go_wp2_with fail
  refine HI1.out.mono ?_
  rintro e w1 ⟨xa, xl, xc, rfl, h1, h2, h3⟩
  have X1 := hid h1; have K1 := hid h3
  have G1 := hid (HG.out.in_rd (Rd.nil W) h3)
  clear h1 h2 h3 HI1
  have HJ := hid (HI2.out w1 G1.out)
  go_wp2_with fail
  refine HJ.out.mono ?_
  rintro e w2 ⟨ya, yl, yc, rfl, k1, k2, k3⟩
  have Y1 := hid k1; have K2 := hid k3
  have G2 := hid (G1.out.in_rd (Rd.nil w1) k3)
  have X2 := hid (X1.out.keep k3 (fun k _ hk => by obtain ⟨o, ho⟩ := hk; cases ho))
  clear k1 k2 k3 HJ HI2
  have lx := words_lt Hl1.out
  have ly := words_lt Hl2.out
  have ex := X1.out.length
  have ey := Y1.out.length
  have HM := hid (mul_any none 0 0 [] (some ⟨s, 0, none⟩) xa xl xc P1 ya yl yc P2 w2 G2.out (Rd.nil w2) X2.out Y1.out (by omega) (by omega) (Al.of_ne (fun k hk => by obtain ⟨o, ho⟩ := hk; cases ho)) (Al.of_ne (fun k hk => by obtain ⟨o, ho⟩ := hk; cases ho)))
  clear lx ly ex ey
  go_wp2_with fail
  refine HM.out.mono ?_
  rintro e w3 ⟨ra, rl, rc, rfl, m1, m2, m3⟩
  have M1 := hid m1; have M2 := hid m2; have M3 := hid m3
  clear m1 m2 m3
  have hrow3 := hid (((K1.out.trans K2.out).trans M3.out).row Hrow.out (fun h => by obtain ⟨o, ho⟩ := h; cases ho))
  go_wp2_with fail
  refine leaves_cons (f := 240) (args := #[.pointer (some ⟨s, 0, none⟩)]) (by simp) (by simp [go_sem]) ?_
  refine (free240 ⟨s, 0, none⟩ _ _ (hrow3.out.cell 0)).mono ?_
  rintro e u' w'' ⟨rfl, rfl, rfl⟩
  refine ⟨_, results_tmp rfl _ _ _, ?_⟩
  rw [HP.out]
  exact ⟨ra, rl, rc, rfl, M1.out, M2.out.mono (Nat.le_trans HkW.out.size (Nat.le_trans K1.out.size K2.out.size)), HkW.out.any.trans ((K1.out.trans K2.out).trans M3.out)⟩
end Go.Proofs
