/- Parts of the proofs over the numbers of any length: Shl, Shr, DivB. -/
import Derived.BigRegion
import Derived.Test.YtacbllkmcldniaaGreatDoorDivB
import Derived.Test.YtacbllkmcldniaaGreatDoorBaseB
import Derived.Test.YtacbllkmcldniaaGreatDoorDivA
import Derived.Test.YtacbllkmcldniaaGreatDoorBaseC
set_option linter.unusedSimpArgs false
set_option linter.unusedVariables false
namespace Go.Proofs
open Go.RowKit
set_option maxHeartbeats 1000000
set_option linter.unusedVariables false
set_option linter.unusedSimpArgs false
set_option maxRecDepth 100000

theorem and63 (s : Nat) (h : s ≤ 63) : bits .and .u64 (s : Int) 63 = (s : Int) := by
  have h2 := bits_and_u64_nat s 63 (by omega) (by omega)
  rw [show (63 : Nat) = 2 ^ 6 - 1 from rfl, Nat.and_two_pow_sub_one_eq_mod, Nat.mod_eq_of_lt (by omega)] at h2
  exact h2
theorem shl_wrap (a s : Nat) : IntKind.u64.wrap ((a : Int) * 2 ^ s) = ((a * 2 ^ s % W64 : Nat) : Int) := by
  have : (a : Int) * 2 ^ s = ((a * 2 ^ s : Nat) : Int) := by rw [Int.natCast_mul, Int.natCast_pow]; rfl
  rw [this, u64_wrapM]
theorem shr_cast (a s : Nat) : (a : Int) / 2 ^ s = ((a / 2 ^ s : Nat) : Int) := by
  rw [Int.natCast_ediv, Int.natCast_pow]; rfl
theorem shlL_getD {s : Nat} {X : List Nat} {n i : Nat} (h : i < n) : (shlL s X n).getD i 0 = X.getD i 0 * 2 ^ s % W64 + shlC s X i := by
  simp [shlL, h]
theorem tk_set {Z S : List Nat} {n k v : Nat} (hZ : Z.length = n) (hS : S.length = n) (hk : k < n) (hv : S.getD k 0 = v) : (Z.take (k + 1) ++ S.drop (k + 1)).set k v = Z.take k ++ S.drop k := by
  rw [List.take_succ_eq_append_getElem (by omega), List.append_assoc, List.set_append_right _ _ (by simp; omega)]
  have e : k - (Z.take k).length = 0 := by simp; omega
  rw [e]
  have h2 : S.drop k = v :: S.drop (k + 1) := by
    rw [List.drop_eq_getElem_cons (by omega)]
    congr 1
    rw [← hv]; simp [hS, hk]
  rw [h2]; rfl
theorem shlW_bits {s xk xp : Nat} (hs : s ≤ 63) (hp : xp < W64) : bits .or .u64 (IntKind.u64.wrap ((xk : Int) * 2 ^ s)) ((xp : Int) / 2 ^ (64 - s)) = ((shlW s xk xp : Nat) : Int) := by
  rw [shl_wrap, shr_cast]
  have h := bits_or_u64_nat (xk * 2 ^ s % W64) (xp / 2 ^ (64 - s)) (Nat.mod_lt _ W64_pos) (Nat.lt_of_le_of_lt (Nat.div_le_self _ _) hp)
  rw [h, shlW_or (by omega) hp]
theorem shlL_zero {s : Nat} {X : List Nat} {n : Nat} (h : 0 < n) : (shlL s X n).getD 0 0 = X.getD 0 0 * 2 ^ s % W64 := by
  rw [shlL_getD h]; simp [shlC]
theorem shlL_pos {s : Nat} {X : List Nat} {n p : Nat} (h : p + 1 < n) : (shlL s X n).getD (p + 1) 0 = shlW s (X.getD (p + 1) 0) (X.getD p 0) := by
  rw [shlL_getD h]; simp [shlC, shlW]
/-- Reading a range while its upper part is laid over. -/
def ShRel (w : World) (zb zo xb xo n s : Nat) (Z X : List Nat) (iv : Value) (wr : World) : Prop :=
  ∃ k, k + 1 ≤ n ∧ iv = .int .i64 (k : Int) ∧ Sg wr zb zo (Z.take (k + 1) ++ (shlL s X n).drop (k + 1)) ∧ (∀ j, j ≤ k → wr.cell? ⟨xb, xo + j, none⟩ = some (.int .u64 ((X.getD j 0 : Nat) : Int))) ∧ KC (Cl zb zo n) w wr

theorem lshVU_g_sg (zb zo zc xb xo xc n s : Nat) (Z X : List Nat) (w : World) (hn0 : 0 < n) (hn : n ≤ 1000000) (hz : Sg w zb zo Z) (hx : Sg w xb xo X) (hZ : Z.length = n) (hX : X.length = n) (hs0 : 0 < s) (hs : s ≤ 63)
    (hax : xb ≠ zb ∨ xo ≤ zo ∨ zo + n ≤ xo) :
    Calls Tryz.prog 279 #[.slice (some ⟨zb, zo, none⟩) n zc, .slice (some ⟨xb, xo, none⟩) n xc, .int .u64 (s : Int)] w fun e w' =>
      e = .returned (.int .u64 ((X.getD (n - 1) 0 / 2 ^ (64 - s) : Nat) : Int)) ∧ Sg w' zb zo (shlL s X n) ∧ KC (Cl zb zo n) w w' := by
  obtain ⟨t, ht⟩ : ∃ t, t = 64 - s := ⟨_, rfl⟩
  have ht63 : t ≤ 63 := by omega
  have a1 := and63 s hs
  have a2 := and63 t (by omega)
  have a3 : (64 : Int) - (s : Int) = (t : Int) := by omega
  have a4 : ((s : Int) == 0) = false := by simp; omega
  have a5 : ((n : Int) == 0) = false := by simp; omega
  obtain ⟨m, rfl⟩ : ∃ m, n = m + 1 := ⟨n - 1, by omega⟩
  have a6 : ((m + 1 : Nat) : Int) - 1 = (m : Int) := by omega
  have c1 := hx.cell (i := m) (by omega)
  obtain ⟨x0, hx0⟩ : ∃ x0, x0 = X.getD m 0 := ⟨_, rfl⟩
  rw [← hx0] at c1
  have A7 := hid (shr_cast x0 t)
  have Hz := hid hz; have Hx := hid hx; have Hax := hid hax; have HZ := hid hZ; have HX := hid hX; have Ht := hid ht; have Hx0 := hid hx0
  have Hs := hid hs; have Hs0 := hid hs0
  clear hz hx hax hZ hX ht hx0
  rw [Nat.add_sub_cancel]
  go_enter Tryz.func279, Tryz.ntmps279
  go_wp2_with fail
  go_loopw [8] (fun iv wr => ShRel w zb zo xb xo (m + 1) s (Z) X iv wr) (fun iv _ => (intOf iv).toNat)
  case atStart =>
    refine ⟨m, Nat.le_refl _, rfl, ?_, fun j hj => Hx.out.cell (by have := HX.out; omega), KC.refl _ _⟩
    rw [List.take_of_length_le (by have := HZ.out; omega), List.drop_of_length_le (by rw [shlL_length]; omega), List.append_nil]
    exact Hz.out
  case round =>
    obtain ⟨k, hk, rfl, hsg, hxc, hkc⟩ := hrel
    have HSG := hid hsg; have HXC := hid hxc; have HKC := hid hkc
    have hlen : (Z.take (k + 1) ++ (shlL s X (m + 1)).drop (k + 1)).length = m + 1 := by
      rw [List.length_append, List.length_take, List.length_drop, shlL_length]; have := HZ.out; omega
    have cx := hxc k (Nat.le_refl _)
    have cz := hsg.cell (i := k) (by omega)
    have fz := hsg.frozen (zo + k)
    clear hsg hxc hkc
    obtain ⟨xk, hxk⟩ : ∃ v, v = X.getD k 0 := ⟨_, rfl⟩
    rw [← hxk] at cx
    have Hxk := hid hxk
    clear hxk
    have B1 := hid (shl_wrap xk s)
    by_cases h0 : k = 0
    · subst h0
      have t0 : decide ((0 : Int) < ((0 : Nat) : Int)) = false := by simp
      simp only [Nat.add_zero] at cx cz fz
      go_wp2_with fail
      go_ret
      have hv := B1.out
      rw [hv]
      obtain ⟨g1, g2⟩ := HSG.out.set (i := 0) (v := xk * 2 ^ s % W64) (by omega) (Nat.mod_lt _ W64_pos)
      rw [tk_set HZ.out (shlL_length s X (m + 1)) (by omega) (by rw [shlL_zero (by omega), Hxk.out]), List.take_zero, List.nil_append, List.drop_zero] at g1
      refine ⟨by rw [A7.out, Hx0.out, Ht.out]; rfl, g1, HKC.out.trans' g2 (fun _ _ _ h => h) ?_⟩
      rintro x i _ ⟨h1, h2, h3⟩
      exact ⟨h1, by omega, by omega⟩
    · obtain ⟨p, rfl⟩ : ∃ p, k = p + 1 := ⟨k - 1, by omega⟩
      have cx2 := HXC.out p (by omega)
      obtain ⟨xp, hxp⟩ : ∃ v, v = X.getD p 0 := ⟨_, rfl⟩
      rw [← hxp] at cx2
      have Hxp := hid hxp
      clear hxp
      have B2 := hid (shr_cast xp t)
      have b3 : bits .or .u64 (IntKind.u64.wrap ((xk : Int) * 2 ^ s)) ((xp : Int) / 2 ^ t) = ((shlW s xk xp : Nat) : Int) := by
        have hp : xp < W64 := by rw [Hxp.out]; exact Hx.out.words.getD _
        rw [Ht.out]; exact shlW_bits hs hp
      go_wp2_with fail
      go_region
      go_wp2_with fail
      have hvl : shlW s xk xp < W64 := shlW_lt (by omega) (by rw [Hxp.out]; exact Hx.out.words.getD _)
      obtain ⟨g1, g2⟩ := HSG.out.set (i := p + 1) (by omega) hvl
      rw [tk_set HZ.out (shlL_length s X (m + 1)) (by omega) (by rw [shlL_pos (by omega), Hxk.out, Hxp.out])] at g1
      refine ⟨⟨p, by omega, rfl, g1.keep ((KC.refl (fun _ _ => False) _).drew) (fun _ _ _ h => h), fun j hj => ?_, (HKC.out.trans' g2 (fun _ _ _ h => h) ?_).drew⟩, by simp [intOf]⟩
      · have := HXC.out j (by omega)
        rw [← this]
        refine World.cell?_setCell_other wr ⟨zb, zo + (p + 1), none⟩ ⟨xb, xo + j, none⟩ _ ?_
        intro he
        injection he with h1 h2
        rcases Hax.out with h | h | h
        · exact h h1.symm
        · omega
        · omega
      · rintro x i _ ⟨h1, h2, h3⟩
        exact ⟨h1, by omega, by omega⟩
end Go.Proofs
namespace Go.Proofs
open Go.RowKit
set_option maxHeartbeats 1000000
set_option linter.unusedVariables false
set_option linter.unusedSimpArgs false
set_option maxRecDepth 100000

theorem shrL_getD {s : Nat} {X : List Nat} {n i : Nat} (h : i < n) : (shrL s X n).getD i 0 = shrW s (X.getD i 0) (X.getD (i + 1) 0) := by
  simp [shrL, h]
theorem tk_set2 {Z S : List Nat} {n k v : Nat} (hZ : Z.length = n) (hS : S.length = n) (hk : k < n) (hv : S.getD k 0 = v) : (S.take k ++ Z.drop k).set k v = S.take (k + 1) ++ Z.drop (k + 1) := by
  have e : k - (S.take k).length = 0 := by simp; omega
  rw [List.set_append_right _ _ (by simp; omega), e]
  have h2 : Z.drop k = (Z[k]'(by omega)) :: Z.drop (k + 1) := List.drop_eq_getElem_cons (by omega)
  rw [h2, List.set_cons_zero, List.take_succ_eq_append_getElem (by omega), List.append_assoc]
  congr 2
  rw [← hv]; simp [hS, hk]
theorem shrW_bits {s a b : Nat} (hs : s ≤ 63) (ha : a < W64) : bits .or .u64 ((a : Int) / 2 ^ s) (IntKind.u64.wrap ((b : Int) * 2 ^ (64 - s))) = ((shrW s a b : Nat) : Int) := by
  rw [shl_wrap, shr_cast]
  have h := bits_or_u64_nat (a / 2 ^ s) (b * 2 ^ (64 - s) % W64) (Nat.lt_of_le_of_lt (Nat.div_le_self _ _) ha) (Nat.mod_lt _ W64_pos)
  rw [h, shrW_or (by omega) ha]
def RsRel (w : World) (zb zo xb xo n s : Nat) (Z X : List Nat) (iv : Value) (wr : World) : Prop :=
  ∃ p, p + 1 ≤ n ∧ iv = .int .i64 ((p : Int) + 1) ∧ Sg wr zb zo ((shrL s X n).take p ++ Z.drop p) ∧ (∀ j, p ≤ j → j < n → wr.cell? ⟨xb, xo + j, none⟩ = some (.int .u64 ((X.getD j 0 : Nat) : Int))) ∧ KC (Cl zb zo n) w wr

theorem rshVU_g_sg (zb zo zc xb xo xc n s : Nat) (Z X : List Nat) (w : World) (hn0 : 0 < n) (hn : n ≤ 1000000) (hz : Sg w zb zo Z) (hx : Sg w xb xo X) (hZ : Z.length = n) (hX : X.length = n) (hs0 : 0 < s) (hs : s ≤ 63)
    (hax : xb ≠ zb ∨ zo ≤ xo ∨ xo + n ≤ zo) :
    Calls Tryz.prog 280 #[.slice (some ⟨zb, zo, none⟩) n zc, .slice (some ⟨xb, xo, none⟩) n xc, .int .u64 (s : Int)] w fun e w' =>
      (∃ c : Int, e = .returned (.int .u64 c)) ∧ Sg w' zb zo (shrL s X n) ∧ KC (Cl zb zo n) w w' := by
  obtain ⟨t, ht⟩ : ∃ t, t = 64 - s := ⟨_, rfl⟩
  have ht63 : t ≤ 63 := by omega
  have a1 := and63 s hs
  have a2 := and63 t (by omega)
  have a3 : (64 : Int) - (s : Int) = (t : Int) := by omega
  have a4 : ((s : Int) == 0) = false := by simp; omega
  have a5 : ((n : Int) == 0) = false := by simp; omega
  have c1 := hx.cell (i := 0) (by omega)
  simp only [Nat.add_zero] at c1
  have Hz := hid hz; have Hx := hid hx; have Hax := hid hax; have HZ := hid hZ; have HX := hid hX; have Ht := hid ht
  have Hs := hid hs; have Hs0 := hid hs0
  clear hz hx hax hZ hX ht
  go_enter Tryz.func280, Tryz.ntmps280
  go_wp2_with fail
  go_loopw [8] (fun iv wr => RsRel w zb zo xb xo n s Z X iv wr) (fun iv _ => n - (intOf iv).toNat)
  case atStart =>
    refine ⟨0, by omega, rfl, ?_, fun j _ hj => Hx.out.cell (by have := HX.out; omega), KC.refl _ _⟩
    rw [List.take_zero, List.drop_zero, List.nil_append]
    exact Hz.out
  case round =>
    obtain ⟨p, hp, rfl, hsg, hxc, hkc⟩ := hrel
    have HSG := hid hsg; have HXC := hid hxc; have HKC := hid hkc
    have hlen : ((shrL s X n).take p ++ Z.drop p).length = n := by
      rw [List.length_append, List.length_take, List.length_drop, shrL_length]; have := HZ.out; omega
    have cx := hxc p (Nat.le_refl _) (by omega)
    have cz := hsg.cell (i := p) (by omega)
    have fz := hsg.frozen (zo + p)
    clear hsg hxc hkc
    obtain ⟨xk, hxk⟩ : ∃ v, v = X.getD p 0 := ⟨_, rfl⟩
    rw [← hxk] at cx
    have Hxk := hid hxk
    clear hxk
    by_cases hpn : p + 1 < n
    · have cx2 := HXC.out (p + 1) (by omega) hpn
      obtain ⟨xp, hxp⟩ : ∃ v, v = X.getD (p + 1) 0 := ⟨_, rfl⟩
      rw [← hxp] at cx2
      have Hxp := hid hxp
      clear hxp
      have b3 : bits .or .u64 ((xk : Int) / 2 ^ s) (IntKind.u64.wrap ((xp : Int) * 2 ^ t)) = ((shrW s xk xp : Nat) : Int) := by
        rw [Ht.out]; exact shrW_bits hs (by rw [Hxk.out]; exact Hx.out.words.getD _)
      go_wp2_with fail
      go_region
      go_wp2_with fail
      have hvl : shrW s xk xp < W64 := shrW_lt (by omega) (by rw [Hxk.out]; exact Hx.out.words.getD _)
      obtain ⟨g1, g2⟩ := HSG.out.set (i := p) (by omega) hvl
      rw [tk_set2 HZ.out (shrL_length s X n) (by omega) (by rw [shrL_getD (by omega), Hxk.out, Hxp.out])] at g1
      refine ⟨⟨p + 1, by omega, by simp, g1.keep ((KC.refl (fun _ _ => False) _).drew) (fun _ _ _ h => h), fun j hj hjn => ?_, (HKC.out.trans' g2 (fun _ _ _ h => h) ?_).drew⟩, by simp [intOf]; omega⟩
      · have := HXC.out j (by omega) hjn
        rw [← this]
        refine World.cell?_setCell_other wr ⟨zb, zo + p, none⟩ ⟨xb, xo + j, none⟩ _ ?_
        intro he
        injection he with h1 h2
        rcases Hax.out with h | h | h
        · exact h h1.symm
        · omega
        · omega
      · rintro x i _ ⟨h1, h2, h3⟩
        exact ⟨h1, by omega, by omega⟩
    · obtain rfl : n = p + 1 := by omega
      have A7 := hid (shr_cast xk s)
      have b6 : ((p + 1 : Nat) : Int) - 1 = (p : Int) := by omega
      have b7 : ((p : Int) + 1) - 1 = (p : Int) := by omega
      go_wp2_with fail
      go_ret
      have hv := A7.out
      have hvl : xk / 2 ^ s < W64 := Nat.lt_of_le_of_lt (Nat.div_le_self _ _) (by rw [Hxk.out]; exact Hx.out.words.getD _)
      rw [hv]
      obtain ⟨g1, g2⟩ := HSG.out.set (i := p) (by omega) hvl
      rw [tk_set2 HZ.out (shrL_length s X (p + 1)) (by omega) (by
        rw [shrL_getD (by omega), Hxk.out]
        have h0 : X.getD (p + 1) 0 = 0 := by rw [List.getD_eq_getElem?_getD, List.getElem?_eq_none (by have := HX.out; omega)]; rfl
        rw [h0]; simp [shrW]), List.take_of_length_le (by rw [shrL_length]; omega), List.drop_of_length_le (by have := HZ.out; omega), List.append_nil] at g1
      refine ⟨⟨_, rfl⟩, g1, HKC.out.trans' g2 (fun _ _ _ h => h) ?_⟩
      rintro x i _ ⟨h1, h2, h3⟩
      exact ⟨h1, by omega, by omega⟩

/-- The doors. -/
theorem lshVU_sg (zb zo zc xb xo xc n s : Nat) (Z X : List Nat) (w : World) (hn0 : 0 < n) (hn : n ≤ 1000000) (hz : Sg w zb zo Z) (hx : Sg w xb xo X) (hZ : Z.length = n) (hX : X.length = n) (hs0 : 0 < s) (hs : s ≤ 63)
    (hax : xb ≠ zb ∨ xo ≤ zo ∨ zo + n ≤ xo) :
    Calls Tryz.prog 247 #[.slice (some ⟨zb, zo, none⟩) n zc, .slice (some ⟨xb, xo, none⟩) n xc, .int .u64 (s : Int)] w fun e w' =>
      e = .returned (.int .u64 ((X.getD (n - 1) 0 / 2 ^ (64 - s) : Nat) : Int)) ∧ Sg w' zb zo (shlL s X n) ∧ KC (Cl zb zo n) w w' := by
  have H := hid (lshVU_g_sg zb zo zc xb xo xc n s Z X w hn0 hn hz hx hZ hX hs0 hs hax)
  obtain ⟨c, hc⟩ : ∃ c : Int, c = ((X.getD (n - 1) 0 / 2 ^ (64 - s) : Nat) : Int) := ⟨_, rfl⟩
  rw [← hc] at H ⊢
  clear hz hx hax hZ hX hc
  go_enter Tryz.func247, Tryz.ntmps247
  go_wp2_with fail
  refine H.out.mono ?_
  rintro e w' ⟨rfl, h1, h2⟩
  have H1 := hid h1; have H2 := hid h2
  clear h1 h2
  go_wp2_with fail
  go_ret
  exact ⟨rfl, H1.out, H2.out⟩
theorem rshVU_sg (zb zo zc xb xo xc n s : Nat) (Z X : List Nat) (w : World) (hn0 : 0 < n) (hn : n ≤ 1000000) (hz : Sg w zb zo Z) (hx : Sg w xb xo X) (hZ : Z.length = n) (hX : X.length = n) (hs0 : 0 < s) (hs : s ≤ 63)
    (hax : xb ≠ zb ∨ zo ≤ xo ∨ xo + n ≤ zo) :
    Calls Tryz.prog 248 #[.slice (some ⟨zb, zo, none⟩) n zc, .slice (some ⟨xb, xo, none⟩) n xc, .int .u64 (s : Int)] w fun e w' =>
      (∃ c : Int, e = .returned (.int .u64 c)) ∧ Sg w' zb zo (shrL s X n) ∧ KC (Cl zb zo n) w w' := by
  have H := hid (rshVU_g_sg zb zo zc xb xo xc n s Z X w hn0 hn hz hx hZ hX hs0 hs hax)
  clear hz hx hax hZ hX
  go_enter Tryz.func248, Tryz.ntmps248
  go_wp2_with fail
  refine H.out.mono ?_
  rintro e w' ⟨⟨c, rfl⟩, h1, h2⟩
  have H1 := hid h1; have H2 := hid h2
  clear h1 h2
  go_wp2_with fail
  go_ret
  exact ⟨⟨c, rfl⟩, H1.out, H2.out⟩
end Go.Proofs
namespace Go.Proofs
open Go.RowKit
set_option maxHeartbeats 1000000
set_option linter.unusedVariables false
set_option linter.unusedSimpArgs false
set_option maxRecDepth 100000

theorem greater312 (x1 x2 y1 y2 : Nat) (w : World) : Calls Tryz.prog 312 #[.int .u64 (x1 : Int), .int .u64 (x2 : Int), .int .u64 (y1 : Int), .int .u64 (y2 : Int)] w fun e w' => e = .returned (.bool (decide (y1 < x1 ∨ x1 = y1 ∧ y2 < x2))) ∧ w' = w := by
  by_cases h1 : y1 < x1
  · have t1 : decide (y1 < x1) = true := by simpa using h1
    have hr := hid (show decide (y1 < x1 ∨ x1 = y1 ∧ y2 < x2) = true by simp [h1])
    clear h1
    go_enter Tryz.func312, Tryz.ntmps312
    go_wp2_with fail
    go_ret
    exact ⟨by rw [hr.out]; rfl, rfl⟩
  · have t1 : decide (y1 < x1) = false := by simpa using h1
    by_cases h2 : x1 = y1
    · subst h2
      have t2 : ((x1 : Int) == (x1 : Int)) = true := by simp
      have hr := hid (show decide (x1 < x1 ∨ x1 = x1 ∧ y2 < x2) = decide (y2 < x2) by simp)
      obtain ⟨b, hb⟩ : ∃ b, b = decide (x1 < x1 ∨ x1 = x1 ∧ y2 < x2) := ⟨_, rfl⟩
      have Hb := hid hb
      rw [← hb]
      clear h1 hb
      go_enter Tryz.func312, Tryz.ntmps312
      go_wp2_with fail
      go_ret
      refine ⟨?_, rfl⟩
      rw [Hb.out]
      simp
    · have t2 : ((x1 : Int) == (y1 : Int)) = false := by simp; omega
      have hr := hid (show decide (y1 < x1 ∨ x1 = y1 ∧ y2 < x2) = false by simp [h1, h2])
      clear h1 h2
      go_enter Tryz.func312, Tryz.ntmps312
      go_wp2_with fail
      go_ret
      exact ⟨by rw [hr.out]; rfl, rfl⟩

/-- Two ranges lie apart. -/
def Dis (b o n b' o' n' : Nat) : Prop := b ≠ b' ∨ o + n ≤ o' ∨ o' + n' ≤ o
theorem Dis.symm {b o n b' o' n' : Nat} (h : Dis b o n b' o' n') : Dis b' o' n' b o n := by
  rcases h with h | h | h
  · exact .inl (Ne.symm h)
  · exact .inr (.inr h)
  · exact .inr (.inl h)
theorem Dis.sub {b o n b' o' n' j k : Nat} (h : Dis b o n b' o' n') (hj : j + k ≤ n') : Dis b o n b' (o' + j) k := by
  rcases h with h | h | h
  · exact .inl h
  · exact .inr (.inl (by omega))
  · exact .inr (.inr (by omega))
theorem Sg.keepCl {w w' : World} {b o b' o' n' : Nat} {L : List Nat} (h : Sg w b o L) (hk : KC (Cl b' o' n') w w') (hd : Dis b o L.length b' o' n') : Sg w' b o L :=
  h.keep hk (by rintro i h1 h2 ⟨rfl, h3, h4⟩; rcases hd with hd | hd | hd; exact hd rfl; omega; omega)
theorem KC.drewN0 (w : World) (n : Nat) : KC (fun _ _ => False) w (w.drewN n) := (KC.refl _ w).drewN n
theorem Sg.drewN {w : World} {b o : Nat} {L : List Nat} (h : Sg w b o L) (n : Nat) : Sg (w.drewN n) b o L := h.keep (KC.drewN0 w n) (fun _ _ _ h => h)
theorem Sg.drew {w : World} {b o : Nat} {L : List Nat} (h : Sg w b o L) : Sg w.drew b o L := h.drewN 1
theorem Stk.drewN {w : World} {p sp : Nat} {D : Option (Nat × Nat)} (h : Stk w p sp D) (n : Nat) : Stk (w.drewN n) p sp D := h.keepF ((Keeps.refl _ w).drewN n)

/-- The piece lies apart from what was under the stack's top. -/
theorem SNat.dis {w w' : World} {p sp n : Nat} {D : Option (Nat × Nat)} {b o sp' : Nat} {D' : Option (Nat × Nat)} (h : SNat w w' p sp n D b o sp' D') {b' o' n' : Nat} (hb : b' < w.heap.size) (hu : Under D sp b' o' n') : Dis b' o' n' b o n := by
  rcases h.place with h1 | ⟨s, h1, h2⟩
  · exact .inl (by omega)
  · by_cases hbb : b' = b
    · subst hbb; exact .inr (.inl (Nat.le_trans (hu s b' h1 rfl) h2))
    · exact .inl hbb

/-- The words of a long division in memory. -/
structure DbM (w1 w : World) (zb zo ub uo vb vo hb ho m n p sp : Nat) (D : Option (Nat × Nat)) (Z U V : List Nat) : Prop where
  u : Sg w ub uo U
  z : Sg w zb zo Z
  v : Sg w vb vo V
  h : ∃ H : List Nat, H.length = n + 1 ∧ Sg w hb ho H
  s : Stk w p sp D
  k : KC (fun b i => Cl zb zo m b i ∨ Cl ub uo (m + n) b i ∨ Cl hb ho (n + 1) b i) w1 w
structure Geo (zb zo ub uo vb vo hb ho m n : Nat) : Prop where
  zu : Dis zb zo m ub uo (m + n)
  zv : Dis zb zo m vb vo n
  uv : Dis ub uo (m + n) vb vo n
  zh : Dis zb zo m hb ho (n + 1)
  uh : Dis ub uo (m + n) hb ho (n + 1)
  vh : Dis vb vo n hb ho (n + 1)

theorem DbM.drewN {w1 w : World} {zb zo ub uo vb vo hb ho m n p sp : Nat} {D : Option (Nat × Nat)} {Z U V : List Nat} (h : DbM w1 w zb zo ub uo vb vo hb ho m n p sp D Z U V) (j : Nat) : DbM w1 (w.drewN j) zb zo ub uo vb vo hb ho m n p sp D Z U V := by
  obtain ⟨H, h1, h2⟩ := h.h
  exact ⟨h.u.drewN j, h.z.drewN j, h.v.drewN j, ⟨H, h1, h2.drewN j⟩, h.s.drewN j, h.k.drewN j⟩
theorem DbM.setH {w1 w w' : World} {zb zo ub uo vb vo hb ho m n p sp : Nat} {D : Option (Nat × Nat)} {Z U V : List Nat} (h : DbM w1 w zb zo ub uo vb vo hb ho m n p sp D Z U V) (G : Geo zb zo ub uo vb vo hb ho m n)
    (hZ : Z.length = m) (hU : U.length = m + n) (hV : V.length = n) {j k : Nat} (hj : j + k ≤ n + 1) {H : List Nat} (hH : H.length = n + 1) (hs : Sg w' hb ho H) (hk : KC (Cl hb (ho + j) k) w w') : DbM w1 w' zb zo ub uo vb vo hb ho m n p sp D Z U V := by
  obtain ⟨H0, h1, h2⟩ := h.h
  refine ⟨h.u.keepCl hk (by rw [hU]; exact G.uh.sub hj), h.z.keepCl hk (by rw [hZ]; exact G.zh.sub hj), h.v.keepCl hk (by rw [hV]; exact G.vh.sub hj), ⟨H, hH, hs⟩, h.s.keepCl h2 hk, h.k.trans' hk (fun _ _ _ h => h) ?_⟩
  rintro x i _ ⟨h1, h2, h3⟩
  exact .inr (.inr ⟨h1, by omega, by omega⟩)
theorem DbM.setU {w1 w w' : World} {zb zo ub uo vb vo hb ho m n p sp : Nat} {D : Option (Nat × Nat)} {Z U V U' : List Nat} (h : DbM w1 w zb zo ub uo vb vo hb ho m n p sp D Z U V) (G : Geo zb zo ub uo vb vo hb ho m n)
    (hZ : Z.length = m) (hV : V.length = n) {j k : Nat} (hj : j + k ≤ m + n) (hs : Sg w' ub uo U') (hk : KC (Cl ub (uo + j) k) w w') : DbM w1 w' zb zo ub uo vb vo hb ho m n p sp D Z U' V := by
  obtain ⟨H0, h1, h2⟩ := h.h
  refine ⟨hs, h.z.keepCl hk (by rw [hZ]; exact G.zu.sub hj), h.v.keepCl hk (by rw [hV]; exact G.uv.symm.sub hj), ⟨H0, h1, h2.keepCl hk (by rw [h1]; exact G.uh.symm.sub hj)⟩, h.s.keepCl h.u hk, h.k.trans' hk (fun _ _ _ h => h) ?_⟩
  rintro x i _ ⟨h1, h2, h3⟩
  exact .inr (.inl ⟨h1, by omega, by omega⟩)
theorem DbM.setZ {w1 w w' : World} {zb zo ub uo vb vo hb ho m n p sp : Nat} {D : Option (Nat × Nat)} {Z U V Z' : List Nat} (h : DbM w1 w zb zo ub uo vb vo hb ho m n p sp D Z U V) (G : Geo zb zo ub uo vb vo hb ho m n)
    (hU : U.length = m + n) (hV : V.length = n) {j k : Nat} (hj : j + k ≤ m) (hs : Sg w' zb zo Z') (hk : KC (Cl zb (zo + j) k) w w') : DbM w1 w' zb zo ub uo vb vo hb ho m n p sp D Z' U V := by
  obtain ⟨H0, h1, h2⟩ := h.h
  refine ⟨h.u.keepCl hk (by rw [hU]; exact G.zu.symm.sub hj), hs, h.v.keepCl hk (by rw [hV]; exact G.zv.symm.sub hj), ⟨H0, h1, h2.keepCl hk (by rw [h1]; exact G.zh.symm.sub hj)⟩, h.s.keepCl h.z hk, h.k.trans' hk (fun _ _ _ h => h) ?_⟩
  rintro x i _ ⟨h1, h2, h3⟩
  exact .inl ⟨h1, by omega, by omega⟩

/-- The loop over the digits: those from k on are there. -/
structure DbL (w1 : World) (zb zo ub uo vb vo hb ho m n p sp : Nat) (D : Option (Nat × Nat)) (Z0 U0 V : List Nat) (jv uv : Value) (w : World) (k : Nat) (U Q : List Nat) : Prop where
  hk : k ≤ m + 1
  jv : jv = .int .i64 ((k : Int) - 1)
  uv : uv = .int .u64 ((U.getD (k + n - 1) 0 : Nat) : Int)
  db : Db U0 V U m n k
  fst : k = m + 1 → U = U0
  ql : Q.length = m - k
  qw : Words Q
  qv : val Q = val (U0.drop k) / val V
  mem : DbM w1 w zb zo ub uo vb vo hb ho m n p sp D (Z0.take k ++ Q) U V

/-- The guessing of one digit. -/
def QgRel (N V v1 v2 T : Nat) (w0 : World) (qv rv xv yv : Value) (w : World) : Prop :=
  ∃ q r, Guess N V v1 T q r ∧ r < W64 ∧ q ≤ T / v1 ∧ qv = .int .u64 (q : Int) ∧ rv = .int .u64 (r : Int) ∧ xv = .int .u64 (muHi q v2 : Int) ∧ yv = .int .u64 (muLo q v2 : Int) ∧ w = w0

theorem mu_dec {q v2 : Nat} (hq : q + 1 < W64) (hv : v2 < W64) : (muLo q v2 : Int) = IntKind.u64.wrap ((muLo (q + 1) v2 : Int) - (v2 : Int)) ∧ (v2 ≤ muLo (q + 1) v2 → muHi q v2 = muHi (q + 1) v2) ∧ (muLo (q + 1) v2 < v2 → muHi (q + 1) v2 = muHi q v2 + 1) := by
  have h1 := mu_eq q v2
  have h2 := mu_eq (q + 1) v2
  have h3 := muLo_lt q v2
  have h4 := muLo_lt (q + 1) v2
  rw [Nat.add_mul, Nat.one_mul] at h2
  rw [IntKind.wrap_u64]
  generalize muLo (q + 1) v2 = a at *
  generalize muHi (q + 1) v2 = b at *
  generalize muLo q v2 = c at *
  generalize muHi q v2 = d at *
  generalize q * v2 = e at *
  unfold W64 at *
  refine ⟨?_, ?_, ?_⟩ <;> omega

theorem StC.back {w : World} {p sp sp' x i : Nat} {D D' : Option (Nat × Nat)} (hi : StI w D D') (hs : sp ≤ sp') (hx : x < w.heap.size) (h : StC p sp' D' x i) : StC p sp D x i := by
  rcases h with h | ⟨s, d, h1, h2 | ⟨h2, h3⟩⟩
  · exact .inl h
  · subst h2
    rcases (hi x d h1).1 with ⟨d', h4⟩ | h4
    · exact .inr ⟨x, d', h4, .inl rfl⟩
    · omega
  · subst h2
    rcases (hi s x h1).2 with ⟨s', h4⟩ | h4
    · exact .inr ⟨s', x, h4, .inr ⟨rfl, by omega⟩⟩
    · omega
theorem SNat.back {w w' : World} {p sp n : Nat} {D : Option (Nat × Nat)} {b o sp' : Nat} {D' : Option (Nat × Nat)} (h : SNat w w' p sp n D b o sp' D') {x i : Nat} (hx : x < w.heap.size) (hc : Cl b o n x i) : StC p sp D x i := by
  obtain ⟨rfl, h1, h2⟩ := hc
  rcases h.place with h3 | ⟨s, h3, h4⟩
  · omega
  · exact .inr ⟨s, x, h3, .inr ⟨rfl, by omega⟩⟩
theorem db_first {U V : List Nat} {m n v1 v2 : Nat} (hU : U.length = m + n) (hw : Words U) (hV : DvV V n v1 v2) : val (U.drop (m + 1)) < val V := by
  have h2 := hV.two
  have h1 : val (U.drop (m + 1)) < W64 ^ (n - 1) := by
    have := val_lt (hw.drop (m + 1))
    rwa [List.length_drop, hU, show m + n - (m + 1) = n - 1 by omega] at this
  have h3 := hV.tops.1
  have h4 : 1 * W64 ≤ v1 * W64 := Nat.mul_le_mul_right _ (by have := hV.top; unfold W64 at this; omega)
  have h5 : W64 * W64 ^ (n - 2) ≤ (v1 * W64 + v2) * W64 ^ (n - 2) := Nat.mul_le_mul_right _ (by omega)
  have h6 : W64 * W64 ^ (n - 2) = W64 ^ (n - 1) := by rw [Nat.mul_comm, ← Nat.pow_succ]; congr 1; omega
  omega

theorem splice_over {α : Type} {L A B : List α} {o : Nat} (h : A.length = B.length) (hf : o + A.length ≤ L.length) : splice (splice L o A) o B = splice L o B := by
  have h1 := splice_in (Z := L) (A := A) (R := B) (o := o) (k := 0) (by omega) hf
  rw [Nat.add_zero] at h1
  rw [h1]
  congr 1
  simp [splice, h]
theorem splice_drop_val {U R : List Nat} {j : Nat} (hf : j + R.length ≤ U.length) : val ((splice U j R).drop j) = val R + W64 ^ R.length * val (U.drop (j + R.length)) := by
  have e : (splice U j R).drop j = R ++ U.drop (j + R.length) := by
    unfold splice
    rw [List.append_assoc, List.drop_append_of_le_length (by simp; omega), List.drop_of_length_le (by simp; omega), List.nil_append]
  rw [e, val_append]
/-- What is read of the window. -/
theorem db_window {U0 V U : List Nat} {m n j v1 v2 h : Nat} (hd : Db U0 V U m n (j + 1)) (hv : DvV V n v1 v2) (hh : n + 1 ≤ h ∨ j + h = m + n) (hf : j + h ≤ m + n) : val (seg U j h) = val (U.drop j) ∧ val (U.drop (j + h)) = 0 := by
  have hR : val (U.drop (j + 1)) < W64 ^ n := by
    have : val (U.drop (j + 1)) < val V := by rw [hd.rem]; exact Nat.mod_lt _ hv.pos
    exact Nat.lt_trans this hv.lt
  have h0 : val (U.drop (j + h)) = 0 := by
    rcases hh with hh | hh
    · have h1 := val_high hR
      rw [List.drop_drop] at h1
      have h2 := val_cut (U.drop (j + 1 + n)) (j + h - (j + 1 + n)) (by rw [List.length_drop, hd.len]; omega)
      rw [h1, List.drop_drop, show j + 1 + n + (j + h - (j + 1 + n)) = j + h by omega] at h2
      have h3 : 0 < W64 ^ (j + h - (j + 1 + n)) := Nat.pow_pos W64_pos
      rcases Nat.eq_zero_or_pos (val (U.drop (j + h))) with h4 | h4
      · exact h4
      · have := Nat.mul_pos h3 h4; omega
    · rw [hh, List.drop_of_length_le (by rw [hd.len]; omega)]; rfl
  refine ⟨?_, h0⟩
  have h1 := val_cut (U.drop j) h (by rw [List.length_drop, hd.len]; omega)
  rw [List.drop_drop, h0, Nat.mul_zero, Nat.add_zero] at h1
  exact h1.symm

/-- One digit more, in memory. -/
theorem DbL.next {w1 w : World} {zb zo ub uo vb vo hb ho m n p sp v1 v2 j q N : Nat} {D : Option (Nat × Nat)} {Z0 U0 V U Q Rw Q' : List Nat} (hd : Db U0 V U m n (j + 1)) (hv : DvV V n v1 v2) (hjm : j ≤ m)
    (hN : N = val (U.drop j)) (hl : n + 1 ≤ Rw.length ∨ j + Rw.length = m + n) (hf : j + Rw.length ≤ m + n) (hw : Words Rw) (hr : val Rw = N % val V) (hq : q = N / val V)
    (hql : Q.length = m - (j + 1)) (hqw : Words Q) (hqv : val Q = val (U0.drop (j + 1)) / val V) (hQ : (j < m ∧ Q' = q :: Q ∧ q < W64) ∨ (j = m ∧ Q' = [] ∧ q = 0))
    (hm : DbM w1 w zb zo ub uo vb vo hb ho m n p sp D (Z0.take j ++ Q') (splice U j Rw) V) :
    DbL w1 zb zo ub uo vb vo hb ho m n p sp D Z0 U0 V (.int .i64 ((j : Int) - 1)) (.int .u64 (((splice U j Rw).getD (j + n - 1) 0 : Nat) : Int)) w j (splice U j Rw) Q' := by
  have hlen : (splice U j Rw).length = m + n := by rw [length_splice (by rw [hd.len]; exact hf), hd.len]
  obtain ⟨_, h0⟩ := db_window hd hv hl hf
  have hval : val ((splice U j Rw).drop j) = val (U.drop j) % val V := by
    rw [splice_drop_val (by rw [hd.len]; exact hf), h0, Nat.mul_zero, Nat.add_zero, hr, hN]
  obtain ⟨k1, k2⟩ := Db.next hd hv (by have := hv.two; omega) hlen (hd.wds.splice hw j) (fun i hi => by
    rw [List.getD_eq_getElem?_getD, splice_get_lt (by rw [hd.len]; omega) hi, ← List.getD_eq_getElem?_getD]) hval
  rw [← hN, ← hq, ← hqv] at k2
  refine ⟨by omega, rfl, rfl, k1, fun h => by omega, ?_, ?_, ?_, hm⟩
  · rcases hQ with ⟨h1, rfl, _⟩ | ⟨h1, rfl, _⟩
    · simp [hql]; omega
    · simp; omega
  · rcases hQ with ⟨h1, rfl, h2⟩ | ⟨h1, rfl, _⟩
    · exact Words.cons h2 hqw
    · exact Words.nil
  · rcases hQ with ⟨h1, rfl, h2⟩ | ⟨h1, rfl, h2⟩
    · rw [k2]; rfl
    · have : Q = [] := List.eq_nil_of_length_eq_zero (by omega)
      subst this
      rw [k2, h2]; rfl

theorem zl_set {Z Q : List Nat} {j q : Nat} (hj : j < Z.length) : (Z.take (j + 1) ++ Q).set j q = Z.take j ++ (q :: Q) := by
  rw [List.take_succ_eq_append_getElem hj, List.append_assoc, List.set_append_right _ _ (by simp; omega)]
  have e : j - (Z.take j).length = 0 := by simp; omega
  rw [e]; rfl

theorem divBasic277 (zb zo zc ub uo uc vb vo vc m n p sp v1 v2 : Nat) (D : Option (Nat × Nat)) (Z U V : List Nat) (w : World)
    (hz : Sg w zb zo Z) (hZ : Z.length = m) (hu : Sg w ub uo U) (hU : U.length = m + n) (huc : m + n ≤ uc) (hv : Sg w vb vo V) (hV : DvV V n v1 v2) (hm0 : 1 ≤ m) (hmn : m + n ≤ 400000)
    (htop : U.getD (m + n - 1) 0 < v1) (hst : Stk w p sp D) (hsp : sp ≤ 400000)
    (hzD : Under D sp zb zo m) (huD : Under D sp ub uo (m + n)) (hvD : Under D sp vb vo n) (d1 : Dis zb zo m ub uo (m + n)) (d2 : Dis zb zo m vb vo n) (d3 : Dis ub uo (m + n) vb vo n) :
    Calls Tryz.prog 277 #[.slice (some ⟨zb, zo, none⟩) m zc, .pointer (some ⟨p, 0, none⟩), .slice (some ⟨ub, uo, none⟩) (m + n) uc, .slice (some ⟨vb, vo, none⟩) n vc] w fun e w' => e = .returned (.tuple #[]) ∧
      (∃ R, R.length = m + n ∧ val R = val U % val V ∧ Sg w' ub uo R) ∧ (∃ Q, Q.length = m ∧ val Q = val U / val V ∧ Sg w' zb zo Q) ∧ (∃ D', Stk w' p sp D' ∧ StI w D D') ∧
      KC (fun b i => Cl zb zo m b i ∨ Cl ub uo (m + n) b i ∨ StC p sp D b i) w w' := by
  have hn2 := hV.two
  obtain ⟨n1, hn1⟩ : ∃ n1, n1 + 1 = n := ⟨n - 1, by omega⟩
  obtain ⟨n2, hn2'⟩ : ∃ n2, n2 + 2 = n := ⟨n - 2, by omega⟩
  have e1 : (n : Int) - 1 = (n1 : Int) := by omega
  have e2 : (n : Int) - 2 = (n2 : Int) := by omega
  have HS := hid (save271 p sp D w hst)
  have HN := hid (nat272 p sp (n + 1) D w hst (by omega) (by omega))
  have cv1 := hv.cell (i := n1) (by rw [hV.len]; omega)
  rw [show n1 = n - 1 by omega, hV.e1, show n - 1 = n1 by omega] at cv1
  have hv1 := hV.v1l
  have hv2 := hV.v2l
  have hv10 : v1 ≠ 0 := by have := hV.top; unfold W64 at this; omega
  have HZ := hid hz; have HZl := hid hZ; have HU := hid hu; have HUl := hid hU; have HV := hid hv; have HVd := hid hV; have Htop := hid htop; have Hst := hid hst
  have HzD := hid hzD; have HuD := hid huD; have HvD := hid hvD; have D1 := hid d1; have D2 := hid d2; have D3 := hid d3
  have Hv1 := hid hv1; have Hv2 := hid hv2; have Hv10 := hid hv10
  clear hz hZ hu hU hv hV htop hst hzD huD hvD d1 d2 d3 hv1 hv2 hv10
  go_enter_defers Tryz.func277, Tryz.ntmps277
  go_wp2_with fail
  refine HS.out.mono ?_
  rintro e w0 ⟨rfl, rfl⟩
  go_wp2_with fail
  refine HN.out.mono ?_
  rintro e w1 ⟨hb, ho, hc, sp', D', rfl, hc1, hc2, hsn⟩
  have hc2' : hc ≤ 9223372036854775807 := hc2
  have SN := hid hsn
  have hkz : Sg w1 zb zo Z := HZ.out.keep hsn.kc (Hst.out.not_c HZ.out (by rw [HZl.out]; exact HzD.out))
  have hku : Sg w1 ub uo U := HU.out.keep hsn.kc (Hst.out.not_c HU.out (by rw [HUl.out]; exact HuD.out))
  have hkv : Sg w1 vb vo V := HV.out.keep hsn.kc (Hst.out.not_c HV.out (by rw [HVd.out.len]; exact HvD.out))
  have GEO : Hid (Geo zb zo ub uo vb vo hb ho m n) := hid ⟨D1.out, D2.out, D3.out, hsn.dis HZ.out.lt HzD.out, hsn.dis HU.out.lt HuD.out, hsn.dis HV.out.lt HvD.out⟩
  have M1 : Hid (DbM w1 w1 zb zo ub uo vb vo hb ho m n p sp' D' Z U V) := hid ⟨hku, hkz, hkv, hsn.sg, hsn.stk, KC.refl _ _⟩
  have cv2 := hkv.cell (i := n1) (by rw [HVd.out.len]; omega)
  rw [show n1 = n - 1 by omega, HVd.out.e1, show n - 1 = n1 by omega] at cv2
  clear cv1 hsn hkz hku hkv HS HN
  go_wp2_with fail
  refine (reciprocalWord_any v1 w1 Hv10.out Hv1.out).mono ?_
  rintro e w2 ⟨rfl, kk, rfl⟩
  have M2 := hid (M1.out.drewN kk)
  obtain ⟨rc, hrc⟩ : ∃ rc, rc = rcp v1 := ⟨_, rfl⟩
  rw [← hrc]
  have Hrc := hid hrc
  clear cv2 M1 hrc
  go_wp2_with fail
  go_loopw [13, 14] (fun uv jv wr => ∃ k U' Q, DbL w1 zb zo ub uo vb vo hb ho m n p sp' D' Z U V jv uv wr k U' Q) (fun _ jv _ => (intOf jv + 1).toNat)
  case atStart =>
    have hlt := db_first HUl.out HU.out.words HVd.out
    refine ⟨m + 1, U, [], Nat.le_refl _, by simp, ?_, ⟨HUl.out, HUl.out, HU.out.words, fun _ _ => rfl, (Nat.mod_eq_of_lt hlt).symm⟩, fun _ => rfl, by simp, Words.nil, (Nat.div_eq_of_lt hlt).symm, ?_⟩
    · rw [List.getD_eq_getElem?_getD, List.getElem?_eq_none (by have := HUl.out; omega)]; rfl
    · rw [List.take_of_length_le (by have := HZl.out; omega), List.append_nil]; exact M2.out
  case round =>
    obtain ⟨k, U', Q, hk, rfl, rfl, hdb, hfst, hql, hqw, hqv, hmem⟩ := hrel
    have HM := hid hmem; have HDB := hid hdb; have Hfst := hid hfst; have Hqw := hid hqw; have Hqv := hid hqv; have Hql := hid hql
    clear hmem hdb hfst hqw hqv hql
    by_cases h0 : k = 0
    · subst h0
      go_wp2_with fail
      refine leaves_cons (f := 270) (args := #[.pointer (some ⟨p, 0, none⟩), .int .i64 (sp : Int)]) (by simp) (by simp [go_sem]) ?_
      refine (restore270 p sp' sp D' _ _ HM.out.s SN.out.top.1).mono ?_
      rintro e u' w'' ⟨rfl, rfl, hst', hk'⟩
      have hso := SN.out.into
      refine ⟨_, results_none rfl _ _ _, ?_⟩
      have hqm : Sg wr zb zo Q := by have := HM.out.z; rwa [List.take_zero, List.nil_append] at this
      refine ⟨rfl, ⟨U', HDB.out.len, by simpa using HDB.out.rem, HM.out.u.restored HM.out.s hk'⟩, ⟨Q, by simpa using Hql.out, by simpa using Hqv.out, hqm.restored HM.out.s hk'⟩, ⟨D', hst', hso⟩, ?_⟩
      refine (SN.out.kc.trans' (HM.out.k.trans' hk' (E := fun b i => Cl zb zo m b i ∨ Cl ub uo (m + n) b i ∨ Cl hb ho (n + 1) b i ∨ ∃ d, D' = some (b, d)) ?_ ?_) ?_ ?_)
      · rintro x i _ (h | h | h)
        · exact .inl h
        · exact .inr (.inl h)
        · exact .inr (.inr (.inl h))
      · rintro x i _ h
        exact .inr (.inr (.inr h))
      · rintro x i _ h
        exact .inr (.inr h)
      · rintro x i hx (h | h | h | ⟨d, h⟩)
        · exact .inl h
        · exact .inr (.inl h)
        · exact .inr (.inr (SN.out.back hx h))
        · exact .inr (.inr (StC.back (sp' := sp) hso (Nat.le_refl _) hx (.inr ⟨x, d, h, .inl rfl⟩)))
    · obtain ⟨j, rfl⟩ : ∃ j, k = j + 1 := ⟨k - 1, by omega⟩
      have hjv : ((j + 1 : Nat) : Int) - 1 = (j : Int) := by omega
      rw [hjv, show j + 1 + n - 1 = j + n by omega]
      clear hjv h0
      obtain ⟨T3, hNV, hle⟩ := HDB.out.tops HVd.out
      have hx0 : j = m → U'.getD (j + n) 0 = 0 ∧ U'.getD (j + n - 1) 0 < v1 := by
        rintro rfl
        rw [Hfst.out rfl]
        exact ⟨by rw [List.getD_eq_getElem?_getD, List.getElem?_eq_none (by have := HUl.out; omega)]; rfl, Htop.out⟩
      have hul : U'.length = m + n := HDB.out.len
      have c1 := HM.out.u.cell (i := j + n1) (by omega)
      have c2 := HM.out.u.cell (i := j + n2) (by omega)
      have c3 := HM.out.v.cell (i := n2) (by rw [HVd.out.len]; omega)
      rw [show n2 = n - 2 by omega, HVd.out.e2, show n - 2 = n2 by omega] at c3
      rw [show j + n - 1 = j + n1 by omega, show j + n - 2 = j + n2 by omega] at T3
      rw [show j + n - 1 = j + n1 by omega] at hx0
      have hu1 : U'.getD (j + n1) 0 < W64 := HDB.out.wds.getD _
      have hu2 : U'.getD (j + n2) 0 < W64 := HDB.out.wds.getD _
      obtain ⟨x, hx⟩ : ∃ x, x = U'.getD (j + n) 0 := ⟨_, rfl⟩
      obtain ⟨y, hy⟩ : ∃ y, y = U'.getD (j + n1) 0 := ⟨_, rfl⟩
      obtain ⟨z, hz⟩ : ∃ z, z = U'.getD (j + n2) 0 := ⟨_, rfl⟩
      obtain ⟨N, hN⟩ : ∃ N, N = val (U'.drop j) := ⟨_, rfl⟩
      rw [← hx] at T3 hle hx0 ⊢
      rw [← hy] at T3 hx0 c1 hu1
      rw [← hz] at T3 c2 hu2
      rw [← hN] at T3 hNV
      have HT3 := hid T3; have HNV := hid hNV; have Hle := hid hle; have Hx0 := hid hx0; have Hu1 := hid hu1; have Hu2 := hid hu2
      have HN' := hid hN
      have e3 : (j : Int) + (n : Int) - 1 = (j : Int) + (n1 : Int) := by omega
      have e4 : (j : Int) + (n : Int) - 2 = (j : Int) + (n2 : Int) := by omega
      clear T3 hNV hle hx0 hu1 hu2 hx hy hz hN
      go_upto_if 51 with fail
      go_cut [15, 16, 17, 18, 19, 20] from 51 to 104 (fun q _ _ _ _ _ wx => ∃ qn : Nat, q = .int .u64 (qn : Int) ∧ Good N (val V) qn ∧ (j = m → qn = 0) ∧ ∃ kk, wx = wr.drewN kk)
      case first =>
        by_cases hxv : x = v1
        · have t1 : ((x : Int) != (v1 : Int)) = false := by simp; omega
          have hg : Good N (val V) (W64 - 1) := HT3.out.top (by rw [hxv]; omega) HNV.out
          have Hg := hid hg
          have hjm : j ≠ m := fun h => by have := (Hx0.out h).1; have := Hv10.out; omega
          clear hg hxv
          go_wp2_with fail
          go_meet
          case rel => exact ⟨W64 - 1, rfl, Hg.out, fun h => absurd h hjm, 0, rfl⟩
        · have t1 : ((x : Int) != (v1 : Int)) = true := by simp; omega
          have hxl : x < v1 := by have := Hle.out; omega
          have HC := hid (divWW_any x y v1 wr Hv10.out Hv1.out hxl Hu1.out)
          have hTl : (x * W64 + y) / v1 < W64 := by
            rw [Nat.div_lt_iff_lt_mul (by omega)]
            have h1 : (x + 1) * W64 ≤ v1 * W64 := Nat.mul_le_mul_right _ hxl
            have := Hu1.out
            rw [Nat.add_mul] at h1; rw [Nat.mul_comm W64]; omega
          have HG := hid (HT3.out.first hTl)
          have hrl : (x * W64 + y) % v1 < W64 := Nat.lt_trans (Nat.mod_lt _ (by omega)) Hv1.out
          obtain ⟨q0, hq0⟩ : ∃ q0, q0 = (x * W64 + y) / v1 := ⟨_, rfl⟩
          obtain ⟨r0, hr0⟩ : ∃ r0, r0 = (x * W64 + y) % v1 := ⟨_, rfl⟩
          have hq00 : j = m → q0 = 0 := fun h => by
            obtain ⟨h1, h2⟩ := Hx0.out h
            rw [hq0, h1, Nat.zero_mul, Nat.zero_add, Nat.div_eq_of_lt h2]
          rw [← hq0, ← hr0] at HC HG
          rw [← hq0] at hTl
          rw [← hr0] at hrl
          have HQ0 := hid hq0; have HTl := hid hTl; have Hrl := hid hrl; have Hq00 := hid hq00; have Hxl := hid hxl
          rw [← Hrc.out] at HC
          clear hq0 hr0 hTl hrl hq00 hxv hxl
          go_wp2_with fail
          refine HC.out.mono ?_
          rintro e w3 ⟨rfl, kk3, rfl⟩
          go_wp2_with fail
          refine (mulWW_any q0 v2 HTl.out Hv2.out _).mono ?_
          rintro e w4 ⟨rfl, rfl⟩
          go_wp2_with fail
          go_loopw [15, 16, 18, 19] (fun qv rv xv yv wr' => QgRel N (val V) v1 v2 (x * W64 + y) (wr.drewN kk3) qv rv xv yv wr') (fun qv _ _ _ _ => (intOf qv).toNat)
          case atStart => exact ⟨q0, r0, HG.out, Hrl.out, by rw [HQ0.out]; exact Nat.le_refl _, rfl, rfl, rfl, rfl, rfl⟩
          case round =>
            obtain ⟨q, r, hg, hr, hqle, rfl, rfl, rfl, rfl, rfl⟩ := hrel
            have htest := kn_test (v1 := v1) (r := r) (u2 := z) (T' := x * W64 + y) (x1 := muHi q v2) (x2 := muLo q v2) (mu_eq q v2) hg.rest Hu2.out (muLo_lt q v2)
            have HGq := hid hg; have Hr := hid hr; have Hqle := hid hqle
            have Hq0m : Hid (j = m → q = 0) := hid (fun h => by have := Hq00.out h; have := HQ0.out; omega)
            clear hg hr hqle
            by_cases ht : r < muHi q v2 ∨ muHi q v2 = r ∧ z < muLo q v2
            · have HC2 := hid (fun W => greater312 (muHi q v2) (muLo q v2) r z W)
              rw [decide_eq_true ht] at HC2
              obtain ⟨q', rfl⟩ : ∃ q', q = q' + 1 := ⟨q - 1, by
                rcases Nat.eq_zero_or_pos q with h | h
                · subst h; exfalso
                  have h1 := htest.1 ht
                  rw [Nat.zero_mul] at h1; omega
                · omega⟩
              have HD := hid (HT3.out.dec HGq.out (htest.1 ht))
              have hql' : q' + 1 < W64 := HGq.out.ql
              have g1 : IntKind.u64.wrap (q' : Int) = (q' : Int) := u64_wrap _ (by omega)
              have hjm : j ≠ m := fun h => by have := Hq0m.out h; omega
              obtain ⟨m1, m2, m3⟩ := mu_dec hql' Hv2.out
              have hqv1 : q' ≤ (x * W64 + y) / v1 := by have := Hqle.out; omega
              have Hqv1 := hid hqv1
              obtain ⟨a, ha⟩ : ∃ a, a = muHi (q' + 1) v2 := ⟨_, rfl⟩
              obtain ⟨b, hb'⟩ : ∃ b, b = muLo (q' + 1) v2 := ⟨_, rfl⟩
              obtain ⟨a', ha'⟩ : ∃ a', a' = muHi q' v2 := ⟨_, rfl⟩
              obtain ⟨b', hb''⟩ : ∃ b', b' = muLo q' v2 := ⟨_, rfl⟩
              rw [← ha, ← hb'] at HC2 ⊢
              rw [← hb', ← hb''] at m1
              rw [← hb', ← ha, ← ha'] at m2 m3
              have Ha' := hid ha'; have Hb'' := hid hb''; have M2' := hid m2; have M3' := hid m3; have m1' := m1.symm
              have Hal : Hid (a' < W64) := hid (by rw [ha']; exact muHi_lt (by omega) Hv2.out)
              clear m1 m2 m3 ha hb' ha' hb'' ht htest hqv1
              by_cases hov : W64 ≤ r + v1
              · obtain ⟨s, hs⟩ : ∃ s, s = r + v1 - W64 := ⟨_, rfl⟩
                have g2 : IntKind.u64.wrap ((r : Int) + (v1 : Int)) = (s : Int) := by
                  have := Hr.out; have := Hv1.out
                  rw [IntKind.wrap_u64]; unfold W64 at *; omega
                have g3 : decide (s < v1) = true := by have := Hr.out; simp; omega
                have HGd : Hid (Good N (val V) q') := hid (HT3.out.good HD.out (kn_wrap HD.out.rest hov (by omega) Hv2.out))
                clear hov hs
                go_wp2_with fail
                refine (HC2.out _).mono ?_
                rintro e w5 ⟨rfl, rfl⟩
                go_wp2_with fail
                go_meet
                case rel => exact ⟨q', rfl, HGd.out, fun h => absurd h hjm, kk3, rfl⟩
              · obtain ⟨s, hs⟩ : ∃ s, s = r + v1 := ⟨_, rfl⟩
                have g2 : IntKind.u64.wrap ((r : Int) + (v1 : Int)) = (s : Int) := by
                  rw [IntKind.wrap_u64]; unfold W64 at *; omega
                have g3 : decide (s < v1) = false := by simp; omega
                have HDs : Hid (Guess N (val V) v1 (x * W64 + y) q' s) := hid (by rw [hs]; exact HD.out)
                have Hsl : Hid (s < W64) := hid (by omega)
                clear hov hs
                by_cases hbv : b < v2
                · have g4 : decide (b < v2) = true := by simpa using hbv
                  have g5 : IntKind.u64.wrap ((a : Int) - 1) = (a' : Int) := by
                    have := M3'.out hbv
                    rw [show (a : Int) - 1 = (a' : Int) by omega]; exact u64_wrap _ Hal.out
                  clear hbv
                  go_wp2_with fail
                  refine (HC2.out _).mono ?_
                  rintro e w5 ⟨rfl, rfl⟩
                  go_wp2_with fail
                  exact ⟨⟨q', s, HDs.out, Hsl.out, Hqv1.out, rfl, rfl, by rw [Ha'.out], by rw [Hb''.out], rfl⟩, by simp [intOf]⟩
                · have g4 : decide (b < v2) = false := by simpa using hbv
                  obtain rfl : a' = a := M2'.out (by omega)
                  clear hbv
                  go_wp2_with fail
                  refine (HC2.out _).mono ?_
                  rintro e w5 ⟨rfl, rfl⟩
                  go_wp2_with fail
                  exact ⟨⟨q', s, HDs.out, Hsl.out, Hqv1.out, rfl, rfl, by rw [Ha'.out], by rw [Hb''.out], rfl⟩, by simp [intOf]⟩
            · have HC2 := hid (fun W => greater312 (muHi q v2) (muLo q v2) r z W)
              rw [decide_eq_false ht] at HC2
              have HGd : Hid (Good N (val V) q) := hid (HT3.out.good HGq.out (Nat.le_of_not_lt (fun h => ht (htest.2 h))))
              clear ht htest
              go_wp2_with fail
              refine (HC2.out _).mono ?_
              rintro e w5 ⟨rfl, rfl⟩
              go_wp2_with fail
              go_meet
              case rel => exact ⟨q, rfl, HGd.out, Hq0m.out, kk3, rfl⟩
      case rest =>
        obtain ⟨qn, rfl, hg, hq0, kk4, rfl⟩ := hcut
        have HMc := hid (HM.out.drewN kk4)
        generalize wr.drewN kk4 = wA at HMc ⊢
        have Hg := hid hg; have Hq0 := hid hq0
        clear c1 c2 c3 HT3 HNV Hle Hx0 Hu1 Hu2 HM hg hq0
        obtain ⟨H, hHl, hHs⟩ := HMc.out.h
        have hHsub : Sg wA hb ho (seg H 0 n) := by have := hHs.sub 0 n (by omega); rwa [Nat.add_zero] at this
        have HC := hid (mulAddVWW_sg hb ho hc vb vo vc n qn 0 (seg H 0 n) V wA (by omega) hHsub HMc.out.v (length_seg (by omega)) HVd.out.len Hg.out.ql (by unfold W64; omega) (by
          rcases GEO.out.vh with h | h | h
          · exact .inl h
          · exact .inr (.inr h)
          · exact .inr (.inl (by omega))))
        have s0 : ∀ w : World, (Instr.slice 101 (.slice (some ⟨hb, ho, none⟩) (n + 1) hc) (some (.int .i64 0)) (some (.int .i64 (n : Int))) none).run Tryz.prog w = .ok (.slice (some ⟨hb, ho, none⟩) n hc) w := by
          obtain ⟨pp, hp1, hp2⟩ := slice101_mid hb ho (n + 1) hc 0 n (by omega) (by omega)
          obtain rfl := hp2 (by omega)
          exact hp1
        have HHl := hid hHl; have HHs := hid hHs
        clear hHl hHs hHsub
        go_wp2_with fail
        refine HC.out.mono ?_
        rintro e w5 ⟨R, c, r1, r2, r3, r4, rfl, r5, r6⟩
        have hH1 : Sg w5 hb ho (splice H 0 R) := Sg.part HHs.out (by rw [r1]; exact r6) (by rw [Nat.add_zero]; exact r5) (by rw [r1, HHl.out]; omega)
        have hH1l : (splice H 0 R).length = n + 1 := by rw [length_splice (by rw [r1, HHl.out]; omega), HHl.out]
        have hZl : (List.take (j + 1) Z ++ Q).length = m := by rw [List.length_append, List.length_take, HZl.out, Hql.out]; omega
        have HM5 := hid (HMc.out.setH GEO.out hZl hul HVd.out.len (j := 0) (k := n) (by omega) hH1l hH1 (by rw [Nat.add_zero]; exact r6))
        have ch := hH1.cell (i := n) (by omega)
        have fh := hH1.frozen (ho + n)
        obtain ⟨g1, g2⟩ := hH1.set (i := n) (v := c) (by omega) r3
        have hRc : (splice H 0 R).set n c = R ++ [c] := by
          have h1 := splice_snoc (L := H) (o := 0) (R := R) (v := c) (by rw [r1, HHl.out]; omega)
          rw [Nat.zero_add, r1] at h1
          rw [h1]
          simp [splice, r1, HHl.out]
        rw [hRc] at g1
        have HM6 := hid (HM5.out.setH GEO.out hZl hul HVd.out.len (j := n) (k := 1) (by omega) (by rw [List.length_append, r1]; rfl) g1 g2)
        have HH6 := hid g1
        have HP : Hid (val (R ++ [c]) = qn * val V) := hid (by rw [val_snoc, r1, r4, Nat.add_zero, Nat.mul_comm])
        have HRl : Hid ((R ++ [c]).length = n + 1) := hid (by rw [List.length_append, r1]; rfl)
        have HPw : Hid (Words (R ++ [c])) := hid (r2.snoc r3)
        have Hc : Hid (qn = 0 → c = 0) := hid (fun h => by
          rw [h, Nat.mul_zero, Nat.add_zero] at r4
          have h1 : W64 ^ n * c = 0 := by omega
          rcases Nat.mul_eq_zero.mp h1 with h2 | h2
          · have := Nat.pow_pos (n := n) W64_pos; omega
          · exact h2)
        have HRt : Hid ((R ++ [c]).take n = R) := hid (by rw [List.take_append_of_le_length (by omega), List.take_of_length_le (by omega)])
        have Hr1 := hid r1
        have Hr0 : Hid (qn = 0 → val R = 0) := hid (fun h => by
          rw [h, Nat.mul_zero, Nat.add_zero] at r4
          omega)
        have HRw := hid r2
        clear r1 r2 r3 r4 r5 r6 hH1 hH1l g1 g2 hRc HC s0 HM5
        go_upto_region 25 with fail
        generalize w5.setCell ⟨hb, ho + n, none⟩ (.int .u64 (c : Int)) = w6 at HM6 HH6 ⊢
        clear ch fh HHs HHl HMc
        have hcap1 : ∀ w : World, (Instr.slice 101 (.slice (some ⟨hb, ho, none⟩) (n + 1) hc) none (some (.int .i64 ((n : Int) + 1))) none).run Tryz.prog w = .ok (.slice (some ⟨hb, ho, none⟩) (n + 1) hc) w := by
          have := slice101_pre hb ho (n + 1) hc (n + 1) hc1
          rwa [Int.natCast_add] at this
        by_cases hjm : j = m
        · obtain rfl := hjm
          obtain rfl := Hq0.out rfl
          obtain rfl := Hc.out rfl
          have hRv := Hr0.out rfl
          have hQ : Q = [] := List.eq_nil_of_length_eq_zero (by have := Hql.out; omega)
          subst hQ
          have hs3 : ∀ w : World, (Instr.slice 101 (.slice (some ⟨ub, uo, none⟩) (j + n) uc) (some (.int .i64 (j : Int))) (some (.int .i64 ((j : Int) + (n : Int)))) none).run Tryz.prog w = .ok (.slice (some ⟨ub, uo + j, none⟩) n (uc - j)) w := by
            obtain ⟨pp, hp1, hp2⟩ := slice101_mid ub uo (j + n) uc j (j + n) (by omega) (by omega)
            obtain rfl := hp2 (by omega)
            rw [Int.natCast_add, show j + n - j = n by omega] at hp1
            exact hp1
          have hs4 := slice101_pre hb ho (n + 1) hc n (by omega)
          have hwr : IntKind.i64.wrap ((j : Int) + (n : Int)) = (j : Int) + (n : Int) := by rw [IntKind.wrap_i64]; omega
          obtain ⟨hwin, hz0⟩ := db_window HDB.out HVd.out (h := n) (.inr rfl) (by omega)
          have hsub := HM6.out.u.sub j n (by omega)
          have hsubH := HH6.out.sub 0 n (by rw [HRl.out]; omega)
          have hsR : seg (R ++ [0]) 0 n = R := by
            have := HRt.out
            simpa [seg] using this
          rw [Nat.add_zero, hsR] at hsubH
          have ch := HH6.out.cell (i := n) (by rw [HRl.out]; omega)
          have hg0 : (R ++ [0]).getD n 0 = 0 := by
            rw [List.getD_eq_getElem?_getD, List.getElem?_append_right (by rw [Hr1.out]; exact Nat.le_refl _), Hr1.out]; simp
          rw [hg0] at ch
          have HC := hid (subVV_sg ub (uo + j) (uc - j) ub (uo + j) (uc - j) hb ho hc n _ _ R w6.drew (by omega) hsub.drew hsub.drew hsubH.drew (length_seg (by omega)) (length_seg (by omega)) Hr1.out (.inr (.inl (Nat.le_refl _))) (by
            rcases GEO.out.uh with h | h | h
            · exact .inl (Ne.symm h)
            · exact .inr (.inl (by omega))
            · exact .inr (.inr (by omega))))
          have Hwin := hid hwin
          have HRv := hid hRv
          clear hwin hz0 hsub hsubH hRv
          go_wp2_with fail
          go_still_tail 15, (by kernel_rfl)
          clear hs3 hs4 hwr hcap1 ch
          go_wp2_with fail
          refine HC.out.mono ?_
          rintro e w7 ⟨R2, c2, s1, s2, s3, s4, rfl, s5, s6⟩
          rw [HRv.out, Hwin.out, ← HN'.out, Nat.add_zero] at s4
          have hR2v : val R2 < W64 ^ n := by have := val_lt s2; rwa [s1] at this
          have hc20 : c2 = 0 := by
            rcases Nat.eq_zero_or_pos c2 with h | h
            · exact h
            · have : W64 ^ n * 1 ≤ W64 ^ n * c2 := Nat.mul_le_mul_left _ h
              omega
          subst hc20
          rw [Nat.mul_zero, Nat.add_zero] at s4
          obtain ⟨f1, f2⟩ := Hg.out.fits (by omega)
          rw [Nat.zero_mul, Nat.sub_zero] at f2
          have hU7 := Sg.part (w := w6.drew) HM6.out.u.drew (by rw [s1]; exact s6) s5 (by rw [s1]; omega)
          have HM7 := hid ((HM6.out.drewN 1).setU GEO.out hZl HVd.out.len (j := j) (k := n) (by omega) hU7 s6)
          have hu7l : (splice U' j R2).length = j + n := by rw [length_splice (by rw [s1]; omega), hul]
          have c4 := HM7.out.u.cell (i := j + n1) (by omega)
          obtain ⟨uj, huj⟩ : ∃ uj, uj = (splice U' j R2).getD (j + n1) 0 := ⟨_, rfl⟩
          rw [← huj] at c4
          have Huj := hid huj; have S1 := hid s1; have S2 := hid s2; have S4 := hid s4; have F1 := hid f1; have F2 := hid f2
          clear huj s1 s2 s4 s5 s6 hU7 f1 f2 hR2v HC
          go_wp2_with fail
          refine ⟨⟨j, splice U' j R2, [], ?_⟩, by simp [intOf]⟩
          have hZ0 : List.take (j + 1) Z ++ [] = List.take j Z ++ [] := by
            rw [List.take_of_length_le (by have := HZl.out; omega), List.take_of_length_le (by have := HZl.out; omega)]
          have hm7 := HM7.out
          rw [hZ0] at hm7
          have := DbL.next (w1 := w1) (Z0 := Z) (q := 0) (Q' := []) HDB.out HVd.out (Nat.le_refl _) HN'.out (Rw := R2) (.inr (by rw [S1.out])) (by rw [S1.out]; exact Nat.le_refl _) S2.out (by rw [S4.out, F2.out]) F1.out.symm Hql.out Hqw.out Hqv.out (.inr ⟨rfl, rfl, rfl⟩) hm7
          rw [show j + n - 1 = j + n1 by omega, ← Huj.out] at this
          exact this
        · have hjm' : j < m := by omega
          have t2 : ((j : Int) == (m : Int)) = false := by simp; omega
          have hwr : IntKind.i64.wrap ((j : Int) + ((n : Int) + 1)) = (j : Int) + ((n : Int) + 1) := by rw [IntKind.wrap_i64]; omega
          have hs1 : ∀ w : World, (Instr.slice 101 (.slice (some ⟨ub, uo, none⟩) (m + n) uc) (some (.int .i64 (j : Int))) (some (.int .i64 ((j : Int) + ((n : Int) + 1)))) none).run Tryz.prog w = .ok (.slice (some ⟨ub, uo + j, none⟩) (n + 1) (uc - j)) w := by
            obtain ⟨pp, hp1, hp2⟩ := slice101_mid ub uo (m + n) uc j (j + (n + 1)) (by omega) (by omega)
            obtain rfl := hp2 (by omega)
            rw [Int.natCast_add, Int.natCast_add, show j + (n + 1) - j = n + 1 by omega] at hp1
            exact hp1
          obtain ⟨hwin, hz0⟩ := db_window HDB.out HVd.out (h := n + 1) (.inl (Nat.le_refl _)) (by omega)
          have hsub := HM6.out.u.sub j (n + 1) (by omega)
          have HC := hid (subVV_sg ub (uo + j) (uc - j) ub (uo + j) (uc - j) hb ho hc (n + 1) _ _ _ w6.drew (by omega) hsub.drew hsub.drew HH6.out.drew (length_seg (by omega)) (length_seg (by omega)) HRl.out (.inr (.inl (Nat.le_refl _))) (by
            rcases GEO.out.uh with h | h | h
            · exact .inl (Ne.symm h)
            · exact .inr (.inl (by omega))
            · exact .inr (.inr (by omega))))
          have Hwin := hid hwin
          clear hwin hz0 hsub
          go_wp2_with fail
          go_still_tail 15, (by kernel_rfl)
          clear hs1 hcap1 hwr
          go_wp2_with fail
          refine HC.out.mono ?_
          rintro e w7 ⟨R2, c2, s1, s2, s3, s4, rfl, s5, s6⟩
          rw [HP.out, Hwin.out, ← HN'.out] at s4
          have hU7 := Sg.part (w := w6.drew) HM6.out.u.drew (by rw [s1]; exact s6) s5 (by rw [s1]; omega)
          have HM7 := hid ((HM6.out.drewN 1).setU GEO.out hZl HVd.out.len (j := j) (k := n + 1) (by omega) hU7 s6)
          have hu7l : (splice U' j R2).length = m + n := by rw [length_splice (by rw [s1]; omega), hul]
          have S1 := hid s1; have S2 := hid s2; have S4 := hid s4; have S5 := hid s5; have S6 := hid s6
          have hR2v : val R2 < W64 ^ (n + 1) := by have := val_lt s2; rwa [s1] at this
          have cz := HM7.out.z.cell (i := j) (by omega)
          have fz := HM7.out.z.frozen (zo + j)
          have hZj : j < Z.length := by rw [HZl.out]; exact hjm'
          have HZj := hid hZj
          clear s1 s2 s4 s5 s6 hU7 HC Hwin hZj
          by_cases hc2 : c2 = 0
          · subst hc2
            have hv4 := S4.out
            rw [Nat.mul_zero, Nat.add_zero] at hv4
            obtain ⟨f1, f2⟩ := Hg.out.fits (by omega)
            have Hf1 := hid f1
            have Hf2 : Hid (val R2 = N % val V) := hid (by omega)
            have c4 := HM7.out.u.cell (i := j + n1) (by omega)
            obtain ⟨uj, huj⟩ : ∃ uj, uj = (splice U' j R2).getD (j + n1) 0 := ⟨_, rfl⟩
            rw [← huj] at c4
            have Huj := hid huj
            clear hv4 f1 f2 huj hR2v
            go_wp2_with fail
            refine ⟨⟨j, splice U' j R2, qn :: Q, ?_⟩, by simp [intOf]⟩
            obtain ⟨g1, g2⟩ := HM7.out.z.set (i := j) (v := qn) (by omega) Hg.out.ql
            rw [zl_set HZj.out] at g1
            have := DbL.next (w1 := w1) (Z0 := Z) (q := qn) HDB.out HVd.out (by omega) HN'.out (Rw := R2) (.inl (by rw [S1.out]; exact Nat.le_refl _)) (by rw [S1.out]; omega) S2.out Hf2.out Hf1.out.symm Hql.out Hqw.out Hqv.out (.inl ⟨hjm', rfl, Hg.out.ql⟩)
              (HM7.out.setZ GEO.out hu7l HVd.out.len (j := j) (k := 1) (by omega) g1 g2)
            rw [show j + n - 1 = j + n1 by omega, ← Huj.out] at this
            exact this
          · obtain rfl : c2 = 1 := by omega
            have hv4 := S4.out
            rw [Nat.mul_one] at hv4
            have hlt : N < qn * val V := by omega
            obtain ⟨f1, f2, f3⟩ := Hg.out.less hlt
            obtain ⟨q1, hq1⟩ : ∃ q1, q1 = qn - 1 := ⟨_, rfl⟩
            have g5 : IntKind.u64.wrap ((qn : Int) - 1) = (q1 : Int) := by
              have := Hg.out.ql
              rw [IntKind.wrap_u64]; unfold W64 at *; omega
            have hs3 : ∀ w : World, (Instr.slice 101 (.slice (some ⟨ub, uo, none⟩) (m + n) uc) (some (.int .i64 (j : Int))) (some (.int .i64 ((j : Int) + (n : Int)))) none).run Tryz.prog w = .ok (.slice (some ⟨ub, uo + j, none⟩) n (uc - j)) w := by
              obtain ⟨pp, hp1, hp2⟩ := slice101_mid ub uo (m + n) uc j (j + n) (by omega) (by omega)
              obtain rfl := hp2 (by omega)
              rw [Int.natCast_add, show j + n - j = n by omega] at hp1
              exact hp1
            have hwr : IntKind.i64.wrap ((j : Int) + (n : Int)) = (j : Int) + (n : Int) := by rw [IntKind.wrap_i64]; omega
            have hsub := S5.out.sub 0 n (by rw [S1.out]; omega)
            rw [Nat.add_zero] at hsub
            have HC := hid (addVV_sg ub (uo + j) (uc - j) ub (uo + j) (uc - j) vb vo vc n _ _ V w7.drew (by omega) hsub.drew hsub.drew HM7.out.v.drew (length_seg (by rw [S1.out]; omega)) (length_seg (by rw [S1.out]; omega)) HVd.out.len (.inr (.inl (Nat.le_refl _))) (by
              rcases GEO.out.uv with h | h | h
              · exact .inl (Ne.symm h)
              · exact .inr (.inl (by omega))
              · exact .inr (.inr (by omega))))
            have Hf : Hid (q1 = N / val V ∧ N % val V = N + val V - qn * val V) := hid ⟨by omega, f2⟩
            have Hq1l : Hid (q1 < W64) := hid (by have := Hg.out.ql; omega)
            have Hv4 := hid hv4; have Hlt := hid hlt
            have t8 : decide (n < n + 1) = true := by simp
            clear hv4 f1 f2 f3 hq1 hsub hlt hR2v hc2 cz fz
            go_wp2_with fail
            go_still_tail 13, (by kernel_rfl)
            clear hs3 hwr
            go_wp2_with fail
            refine HC.out.mono ?_
            rintro e w8 ⟨R3, c3, s1, s2, s3, s4, rfl, s5, s6⟩
            have hU8 := Sg.part (w := w7.drew) HM7.out.u.drew (by rw [s1]; exact s6) s5 (by rw [s1]; omega)
            have HM8 := hid ((HM7.out.drewN 1).setU GEO.out hZl HVd.out.len (j := j) (k := n) (by omega) hU8 s6)
            have hu8l : (splice (splice U' j R2) j R3).length = m + n := by rw [length_splice (by rw [s1]; omega), hu7l]
            obtain ⟨t, ht⟩ : ∃ t, t = R2.getD n 0 := ⟨_, rfl⟩
            have ht8 : (splice (splice U' j R2) j R3).getD (j + n) 0 = t := by
              rw [List.getD_eq_getElem?_getD, splice_get_ge (by rw [s1]; omega) (by rw [s1]; exact Nat.le_refl _), splice_get_in (by omega) (by rw [S1.out]; omega), ← List.getD_eq_getElem?_getD, ht]
            have htl : t < W64 := by rw [ht]; exact S2.out.getD _
            have hR2d : val (R2.take n) + W64 ^ n * t = val R2 := by
              have h1 := val_take_succ R2 n
              rw [List.take_of_length_le (by rw [S1.out]; omega), ← ht] at h1
              exact h1.symm
            have hsg : seg R2 0 n = R2.take n := by simp [seg]
            rw [hsg] at s4
            obtain ⟨b1, b2⟩ := kn_back (N := N) (P := qn * val V) (V := val V) (n := n) (r := val R2) (t := t) (s := val R3) (c := c3) (by rw [Hv4.out, Nat.pow_succ]) Hlt.out Hg.out.near HVd.out.lt ⟨_, hR2d, s4⟩ htl s3 (by have := val_lt s2; rwa [s1] at this)
            obtain ⟨v0, hv0⟩ : ∃ v0, v0 = (t + c3) % W64 := ⟨_, rfl⟩
            have g6 : IntKind.u64.wrap ((t : Int) + (c3 : Int)) = (v0 : Int) := by rw [hv0, ← u64_wrapM, Int.natCast_add]
            have hv00 : v0 = 0 := by rw [hv0]; exact b1
            have c5 := HM8.out.u.cell (i := j + n) (by omega)
            have f5 := HM8.out.u.frozen (uo + (j + n))
            rw [ht8] at c5
            obtain ⟨k1, k2⟩ := HM8.out.u.set (i := j + n) (v := v0) (by omega) (by rw [hv00]; exact W64_pos)
            have hfin : (splice (splice U' j R2) j R3).set (j + n) v0 = splice U' j (R3 ++ [v0]) := by
              have h1 := splice_snoc (L := splice U' j R2) (o := j) (R := R3) (v := v0) (by rw [s1]; omega)
              rw [s1] at h1
              rw [h1, splice_over (by rw [S1.out, List.length_append, s1]; rfl) (by rw [S1.out]; omega)]
            rw [hfin] at k1
            have HM9 := hid (HM8.out.setU GEO.out hZl HVd.out.len (j := j + n) (k := 1) (by omega) k1 k2)
            have HR3 : Hid ((R3 ++ [v0]).length = n + 1 ∧ Words (R3 ++ [v0]) ∧ val (R3 ++ [v0]) = N % val V) := hid ⟨by rw [List.length_append, s1]; rfl, s2.snoc (by rw [hv00]; exact W64_pos), by rw [val_snoc, hv00, Nat.mul_zero, Nat.add_zero, b2, Hf.out.2]⟩
            have hu9l : (splice U' j (R3 ++ [v0])).length = m + n := by rw [length_splice (by rw [HR3.out.1]; omega), hul]
            clear s1 s2 s3 s4 s5 s6 hU8 ht ht8 htl hR2d hsg b1 b2 hv0 hv00 hfin k1 k2 HC
            go_upto_region 34 with fail
            generalize w8.setCell ⟨ub, uo + (j + n), none⟩ (.int .u64 (v0 : Int)) = w9 at HM9 ⊢
            have c4 := HM9.out.u.cell (i := j + n1) (by omega)
            obtain ⟨uj, huj⟩ : ∃ uj, uj = (splice U' j (R3 ++ [v0])).getD (j + n1) 0 := ⟨_, rfl⟩
            rw [← huj] at c4
            have Huj := hid huj
            have cz := HM9.out.z.cell (i := j) (by omega)
            have fz := HM9.out.z.frozen (zo + j)
            clear huj c5 f5
            go_wp2_with fail
            refine ⟨⟨j, splice U' j (R3 ++ [v0]), q1 :: Q, ?_⟩, by simp [intOf]⟩
            obtain ⟨g1, g2⟩ := HM9.out.z.set (i := j) (v := q1) (by omega) Hq1l.out
            rw [zl_set HZj.out] at g1
            have := DbL.next (w1 := w1) (Z0 := Z) (q := q1) HDB.out HVd.out (by omega) HN'.out (Rw := R3 ++ [v0]) (.inl (by rw [HR3.out.1]; exact Nat.le_refl _)) (by rw [HR3.out.1]; omega) HR3.out.2.1 HR3.out.2.2 Hf.out.1 Hql.out Hqw.out Hqv.out (.inl ⟨hjm', rfl, Hq1l.out⟩)
              (HM9.out.setZ GEO.out hu9l HVd.out.len (j := j) (k := 1) (by omega) g1 g2)
            rw [show j + n - 1 = j + n1 by omega, ← Huj.out] at this
            exact this
end Go.Proofs
