/- Parts of the proofs over the numbers of any length: Law12. -/
import Derived.Test.YtacbllkmcldniaaGreatDoorPowB
import Derived.Test.YtacbllkmcldniaaGreatDoorPowC
import Derived.Test.YtacbllkmcldniaaGreatDoorOneD
import Derived.Test.YtacbllkmcldniaaGreatDoorSpecB
import Derived.Test.YtacbllkmcldniaaGreatDoorBaseD
import Derived.Test.YtacbllkmcldniaaGreatDoorSpecC
set_option linter.unusedSimpArgs false
set_option linter.unusedVariables false
namespace Go.Proofs
open Go.RowKit
set_option maxHeartbeats 2000000
set_option linter.unusedVariables false
set_option linter.unusedSimpArgs false
set_option maxRecDepth 100000

theorem Txt.lt20 {s : ByteArray} {z : Int} (h : Txt s z) (hs : s.size ≤ 20) : z.natAbs < 10 ^ 20 := by
  obtain ⟨n, l, d, ht, rfl, _⟩ := h
  rw [numZ_abs]
  have h1 := dval_lt (fun k hk => (ht.dig.2 k hk).1)
  have h2 := ht.dig.1
  exact Nat.lt_of_lt_of_le h1 (Nat.pow_le_pow_right (by omega) (by omega))
theorem pow20 {x : Int} {n : Nat} (hx : x.natAbs < 10 ^ 20) (hn : n ≤ 12) : x.natAbs ^ (n / 2) < W64 ^ 11 ∧ (x ^ n).natAbs < TXB ∧ ∀ k, k ≤ n → (digs (x ^ k).natAbs).length ≤ 40000 := by
  have key : ∀ k, k ≤ 12 → x.natAbs ^ k ≤ (10 ^ 20) ^ 12 := fun k hk => by
    have h1 : x.natAbs ^ k ≤ (10 ^ 20) ^ k := Nat.pow_le_pow_left (Nat.le_of_lt hx) k
    exact Nat.le_trans h1 (Nat.pow_le_pow_right (by decide) hk)
  have h6 : x.natAbs ^ (n / 2) ≤ (10 ^ 20) ^ 6 := Nat.le_trans (Nat.pow_le_pow_left (Nat.le_of_lt hx) _) (Nat.pow_le_pow_right (by decide) (by omega))
  have hb : ((10 : Nat) ^ 20) ^ 12 < 10 ^ 250 := by decide +kernel
  refine ⟨Nat.lt_of_le_of_lt h6 (by unfold W64; decide +kernel), lt_TXB ?_, fun k hk => ?_⟩
  · rw [Int.natAbs_pow]; exact Nat.lt_trans (Nat.lt_of_le_of_lt (key n hn) hb) (by decide +kernel)
  · rw [Int.natAbs_pow]; exact Nat.le_trans (digs_len (Nat.lt_of_le_of_lt (key k (by omega)) hb)) (by omega)
theorem law12 (a : ByteArray) (n : Nat) (m : ByteArray) (w : World) (G : Glob w) (hma : a.size ≤ 9223372036854775807) (hn : n ≤ 4294967295) (hmm : m.size ≤ 9223372036854775807) :
    Calls Tryz.prog 12 #[.string a, .int .u32 (n : Int), .string m] w fun e w' => e = .returned (.bool true) ∧ Keeps (fun _ => False) w w' := by
  have HG := hid G
  clear G
  by_cases ha : a.size ≤ 2147483647
  · by_cases hm : m.size ≤ 2147483647
    · have H1 := hid (bigRight_any a w ha)
      have t0 : decide (2147483647 < a.size) = false := by simp; omega
      have t0' : decide (2147483647 < m.size) = false := by simp; omega
      go_enter Tryz.func12, Tryz.ntmps12
      go_wp2_with fail
      refine H1.out.mono ?_
      rintro e w1 ⟨hk1, hcase⟩
      have HK1 := hid hk1
      clear hk1 H1 t0 t0'
      rcases hcase with ⟨x, v, htx, rfl, hnv⟩ | ⟨n1, a1, l1, c1, rfl⟩
      · have HTX := hid htx
        obtain ⟨n1, a1, l1, c1, rfl, hp⟩ := hnv.parts
        have HP := hid hp
        clear htx hnv hp
        obtain ⟨W1, hW1⟩ : ∃ W, W = w1.alloc (.cells #[.bool n1, .slice a1 l1 c1] 24) := ⟨_, rfl⟩
        obtain ⟨p1, hp1⟩ : ∃ p, p = w1.heap.size := ⟨_, rfl⟩
        have hB1 : NumB W1 p1 n1 a1 l1 c1 x := by rw [hW1, hp1]; exact NumB.new HP.out
        have hK1 : Keeps (fun _ => False) w W1 := by rw [hW1]; exact HK1.out.alloc _
        have HB1 := hid hB1; have HKW := hid hK1
        have HG1 := hid (HG.out.keep hK1 (fun _ _ h => h))
        have HXL := hid (Txt.lt HTX.out)
        have HAl := hid (fun W (hk : Keeps (fun _ => False) W1 W) => bigAlive_true W (HG1.out.keep hk (fun _ _ h => h)))
        go_upto_region 6 with fail
        rw [← hW1, ← hp1]
        clear hW1 hp1 hB1 hK1 HP
        have gw : IntKind.u64.wrap (n : Int) = (n : Int) := by rw [IntKind.wrap_u64]; omega
        have gi : IntKind.i64.wrap (n : Int) = (n : Int) := by rw [IntKind.wrap_i64]; omega
        have HOF := hid (fun W => ofUint38 n W (by unfold W64; omega))
        obtain ⟨SB, hSB⟩ : ∃ S, S = strB (txt (decide ((n : Int) < 0)) n) := ⟨_, rfl⟩
        have HTN : Hid (∃ l d, NumText SB false l d ∧ (n : Int) = numZ false (dval d l)) := hid (by rw [hSB]; exact numText_of n (by omega))
        have HTXn : Hid (∀ W v b, NumV W b v (n : Int) → Calls Tryz.prog 22 #[v] W fun e w' => e = .returned (.string SB) ∧ Keeps (fun _ => False) W w') := hid (fun W v b h => by
          have := text22 v (n : Int) b W h (Nat.le_trans (digs_len (k := 20) (by rw [Int.natAbs_natCast]; omega)) (by omega))
          rw [Int.natAbs_natCast, ← hSB] at this
          exact this)
        clear hSB
        by_cases hm0 : m.size = 0
        · have hme : m = { data := #[] } := by
            cases m with
            | mk d => rw [show d = #[] from Array.eq_empty_of_size_eq_zero hm0]
          subst hme
          clear hm0 hm
          by_cases ha20 : a.size ≤ 20
          · have t1 : decide (20 < a.size) = false := by simp; omega
            by_cases hn12 : n ≤ 12
            · have t2 : decide (12 < n) = false := by simp; omega
              have t2' : decide ((12 : Int) < (n : Int)) = false := by simp; omega
              obtain ⟨T, hT⟩ : ∃ T, T = strB (txt (decide (x ^ n < 0)) (x ^ n).natAbs) := ⟨_, rfl⟩
              have HXS := hid (Txt.lt20 HTX.out ha20)
              have HPB := hid (pow20 HXS.out hn12)
              have HBP : Hid (∀ W, Keeps (fun _ => False) W1 W → Calls Tryz.prog 47 #[.string a, .string SB, .string { data := #[] }] W fun e w' => e = .returned (.tuple #[.string T, .bool true]) ∧ Keeps (fun _ => False) W w') := hid (fun W hk => by
                obtain ⟨na, la, da, hta, hx, _⟩ := HTX.out
                obtain ⟨lb, db, htb, hv⟩ := HTN.out
                exact bigPower47_nil { data := #[] } a SB na false da db la lb x n T W hta htb hx hv (by unfold W64; omega) (HG1.out.keep hk (fun _ _ h => h)) rfl HXL.out HPB.out.1 HPB.out.2.1 hT)
              have HPW : Hid (∀ W, Keeps (fun _ => False) W1 W → Calls Tryz.prog 48 #[.agg #[.bool n1, .slice a1 l1 c1], .int .i64 (n : Int)] W (NRes W (x ^ n))) := hid (fun W hk => power48 _ x 0 n W (HB1.out.keep hk).v HPB.out.2.2 (Nat.le_trans (digs_len HXL.out) (by omega)) (by omega))
              have HTP : Hid (∀ W v b, NumV W b v (x ^ n) → Calls Tryz.prog 22 #[v] W fun e w' => e = .returned (.string T) ∧ Keeps (fun _ => False) W w') := hid (fun W v b h => by
                rw [hT]; exact text22 v (x ^ n) b W h (Nat.le_trans (HPB.out.2.2 n (Nat.le_refl _)) (by omega)))
              clear hT
              go_wp2_with fail
              refine (HOF.out W1).mono ?_
              rintro e w2 ⟨v2, rfl, hv2, hk2⟩
              have HV2 := hid hv2; have HK2 := hid hk2
              clear hv2 hk2 HOF
              go_wp2_with fail
              refine (HTXn.out w2 _ _ HV2.out).mono ?_
              rintro e w3 ⟨rfl, hk3⟩
              have HK3 := hid (HK2.out.trans hk3)
              clear hk3 HTXn
              go_wp2_with fail
              refine (HBP.out w3 HK3.out).mono ?_
              rintro e w4 ⟨rfl, hk4⟩
              have HK4 := hid (HK3.out.trans hk4)
              clear hk4 HBP
              go_wp2_with fail
              refine (HAl.out w4 HK4.out).mono ?_
              rintro e w5 ⟨rfl, hk5⟩
              have HK5 := hid (HK4.out.trans hk5)
              obtain ⟨b0, b1⟩ := (HB1.out.keep HK5.out).cells
              clear hk5 HAl
              go_wp2_with fail
              refine (HPW.out w5 HK5.out).mono ?_
              rintro e w6 ⟨v6, rfl, hv6, hk6⟩
              have HV6 := hid hv6; have HK6 := hid (HK5.out.trans hk6)
              clear hv6 hk6 HPW b0 b1
              go_wp2_with fail
              refine (HTP.out w6 _ _ HV6.out).mono ?_
              rintro e w7 ⟨rfl, hk7⟩
              have HK7 := hid (HK6.out.trans hk7)
              clear hk7 HTP
              go_wp2_with fail
              go_ret
              exact ⟨rfl, HKW.out.trans HK7.out⟩
            · have t2 : decide (12 < n) = true := by simp; omega
              have t2' : decide ((12 : Int) < (n : Int)) = true := by simp; omega
              go_wp2_with fail
              refine (HAl.out _ (Keeps.refl _ _)).mono ?_
              rintro e w9 ⟨rfl, hk9⟩
              have HK9 := hid hk9
              clear hk9 HAl
              go_wp2_with fail
              go_ret
              exact ⟨rfl, HKW.out.trans HK9.out⟩
          · have t1 : decide (20 < a.size) = true := by simp; omega
            go_wp2_with fail
            refine (HAl.out _ (Keeps.refl _ _)).mono ?_
            rintro e w9 ⟨rfl, hk9⟩
            have HK9 := hid hk9
            clear hk9 HAl
            go_wp2_with fail
            go_ret
            exact ⟨rfl, HKW.out.trans HK9.out⟩
        · have tm : m.toList.isEmpty = false := isEmpty_false hm0
          have H2 := hid (bigRight_any m W1 hm)
          clear hm0
          go_wp2_with fail
          refine H2.out.mono ?_
          rintro e w2 ⟨hk2, hcase⟩
          have HK2 := hid hk2
          clear hk2 H2 tm
          rcases hcase with ⟨y, v, hty, rfl, hnv⟩ | ⟨n2, a2, l2, c2, rfl⟩
          · have HTY := hid hty
            obtain ⟨n2, a2, l2, c2, rfl, hp⟩ := hnv.parts
            have HP := hid hp
            clear hty hnv hp
            obtain ⟨W2, hW2⟩ : ∃ W, W = w2.alloc (.cells #[.bool n2, .slice a2 l2 c2] 24) := ⟨_, rfl⟩
            obtain ⟨p2, hp2⟩ : ∃ p, p = w2.heap.size := ⟨_, rfl⟩
            have hB2 : NumB W2 p2 n2 a2 l2 c2 y := by rw [hW2, hp2]; exact NumB.new HP.out
            have hK2 : Keeps (fun _ => False) W1 W2 := by rw [hW2]; exact HK2.out.alloc _
            have HB2 := hid hB2; have HKW2 := hid hK2
            have HYL := hid (Txt.lt HTY.out)
            have HC2 := hid hB2.cells
            go_upto_region 12 with fail
            rw [← hW2, ← hp2]
            clear hW2 hp2 hB2 hK2 HP
            obtain ⟨y0, y1⟩ := HC2.out
            have HSG := hid (sign35 _ y 0 W2 HB2.out.v)
            by_cases hy0 : 0 < y
            · rw [show sgn y = 1 by unfold sgn; rw [if_neg (by omega), if_neg (by omega)]] at HSG
              by_cases hn6 : n ≤ 1000000
              · have t2 : decide (1000000 < n) = false := by simp; omega
                have t2' : decide ((1000000 : Int) < (n : Int)) = false := by simp; omega
                obtain ⟨N, hN⟩ : ∃ N : Nat, (N : Int) = y := ⟨y.toNat, by omega⟩
                have HNY := hid hN
                obtain ⟨T, hT⟩ : ∃ T, T = strB (txt (decide (x ^ n % y < 0)) (x ^ n % y).natAbs) := ⟨_, rfl⟩
                have HBP : Hid (∀ W, Keeps (fun _ => False) W1 W → Calls Tryz.prog 47 #[.string a, .string SB, .string m] W fun e w' => e = .returned (.tuple #[.string T, .bool true]) ∧ Keeps (fun _ => False) W w') := hid (fun W hk => by
                  obtain ⟨na, la, da, hta, hx, _⟩ := HTX.out
                  obtain ⟨nm, lm, dm, htm, hym, _⟩ := HTY.out
                  obtain ⟨lb, db, htb, hv⟩ := HTN.out
                  exact bigPower47_mod m a SB na false da db la lb x n T W hta htb hx hv (by unfold W64; omega) (HG1.out.keep hk (fun _ _ h => h)) nm dm lm N htm (by rw [hN]; exact hym) (by omega) (by have := HYL.out; omega) HXL.out (by rw [hN]; exact hT))
                have HPW : Hid (∀ W, Keeps (fun _ => False) W2 W → Calls Tryz.prog 49 #[.agg #[.bool n1, .slice a1 l1 c1], .int .u64 (n : Int), .agg #[.bool n2, .slice a2 l2 c2]] W fun e w' => ∃ v, e = .returned v ∧ NumV w' 0 v (x ^ n % y) ∧ Keeps (fun _ => False) W w') := hid (fun W hk => pmod49 _ _ x y n 0 0 W (HB1.out.keep (HKW2.out.trans hk)).v (HB2.out.keep hk).v hy0 HXL.out HYL.out hn)
                have HTP : Hid (∀ W v b, NumV W b v (x ^ n % y) → Calls Tryz.prog 22 #[v] W fun e w' => e = .returned (.string T) ∧ Keeps (fun _ => False) W w') := hid (fun W v b h => by
                  rw [hT]; exact text22 v (x ^ n % y) b W h (Nat.le_trans (digs_len (emod_small hy0 HYL.out)) (by omega)))
                clear hT hN
                go_wp2_with fail
                refine HSG.out.mono ?_
                rintro e w3 ⟨rfl, hk3⟩
                have HK3 := hid (HKW2.out.trans hk3); have HK23 := hid hk3
                clear hk3 HSG y0 y1
                go_wp2_with fail
                refine (HOF.out w3).mono ?_
                rintro e w4 ⟨v4, rfl, hv4, hk4⟩
                have HV4 := hid hv4; have HK4 := hid (HK23.out.trans hk4)
                clear hv4 hk4 HOF
                go_wp2_with fail
                refine (HTXn.out w4 _ _ HV4.out).mono ?_
                rintro e w5 ⟨rfl, hk5⟩
                have HK5 := hid (HK4.out.trans hk5)
                clear hk5 HTXn
                go_wp2_with fail
                refine (HBP.out w5 (HKW2.out.trans HK5.out)).mono ?_
                rintro e w6 ⟨rfl, hk6⟩
                have HK6 := hid (HK5.out.trans hk6)
                clear hk6 HBP
                go_wp2_with fail
                refine (HAl.out w6 (HKW2.out.trans HK6.out)).mono ?_
                rintro e w7 ⟨rfl, hk7⟩
                have HK7 := hid (HK6.out.trans hk7)
                obtain ⟨b0, b1⟩ := (HB1.out.keep (HKW2.out.trans HK7.out)).cells
                obtain ⟨y0, y1⟩ := (HB2.out.keep HK7.out).cells
                clear hk7 HAl
                go_wp2_with fail
                refine (HPW.out w7 HK7.out).mono ?_
                rintro e w8 ⟨v8, rfl, hv8, hk8⟩
                have HV8 := hid hv8; have HK8 := hid (HK7.out.trans hk8)
                clear hv8 hk8 HPW b0 b1 y0 y1
                go_wp2_with fail
                refine (HTP.out w8 _ _ HV8.out).mono ?_
                rintro e w9 ⟨rfl, hk9⟩
                have HK9 := hid (HK8.out.trans hk9)
                clear hk9 HTP
                go_wp2_with fail
                go_ret
                exact ⟨rfl, HKW.out.trans (HKW2.out.trans HK9.out)⟩
              · have t2 : decide (1000000 < n) = true := by simp; omega
                have t2' : decide ((1000000 : Int) < (n : Int)) = true := by simp; omega
                go_wp2_with fail
                refine HSG.out.mono ?_
                rintro e w3 ⟨rfl, hk3⟩
                have HK3 := hid (HKW2.out.trans hk3)
                clear hk3 HSG
                go_wp2_with fail
                refine (HAl.out _ HK3.out).mono ?_
                rintro e w9 ⟨rfl, hk9⟩
                have HK9 := hid hk9
                clear hk9 HAl
                go_wp2_with fail
                go_ret
                exact ⟨rfl, HKW.out.trans (HK3.out.trans HK9.out)⟩
            · have hsg : sgn y = 0 ∨ sgn y = -1 := by unfold sgn; by_cases h : y = 0; exact .inl (if_pos h); exact .inr (by rw [if_neg h, if_pos (by omega)])
              rcases hsg with hsg | hsg
              all_goals
                rw [hsg] at HSG
                clear hsg
                go_wp2_with fail
                refine HSG.out.mono ?_
                rintro e w3 ⟨rfl, hk3⟩
                have HK3 := hid (HKW2.out.trans hk3)
                clear hk3 HSG
                go_wp2_with fail
                refine (HAl.out _ HK3.out).mono ?_
                rintro e w9 ⟨rfl, hk9⟩
                have HK9 := hid hk9
                clear hk9 HAl
                go_wp2_with fail
                go_ret
                exact ⟨rfl, HKW.out.trans (HK3.out.trans HK9.out)⟩
          · go_wp2_with fail
            have HKK := hid (HK2.out.alloc (.cells #[.bool n2, .slice a2 l2 c2] 24))
            refine (HAl.out _ HKK.out).mono ?_
            rintro e w9 ⟨rfl, hk9⟩
            have HK9 := hid hk9
            clear hk9 HAl
            go_wp2_with fail
            go_ret
            exact ⟨rfl, HKW.out.trans (HKK.out.trans HK9.out)⟩
      · go_wp2_with fail
        have hk := (HK1.out.alloc (.cells #[.bool n1, .slice a1 l1 c1] 24))
        have HKK := hid hk
        have HG2 := hid (HG.out.keep hk (fun _ _ h => h))
        clear hk
        refine (bigAlive_true _ HG2.out).mono ?_
        rintro e w9 ⟨rfl, hk9⟩
        have HK9 := hid hk9
        clear hk9
        go_wp2_with fail
        go_ret
        exact ⟨rfl, HKK.out.trans HK9.out⟩
    · have t0 : decide (2147483647 < a.size) = false := by simp; omega
      have t1 : decide (2147483647 < m.size) = true := by simp; omega
      go_enter Tryz.func12, Tryz.ntmps12
      go_wp2_with fail
      go_ret
      exact ⟨rfl, Keeps.refl _ _⟩
  · have t0 : decide (2147483647 < a.size) = true := by simp; omega
    go_enter Tryz.func12, Tryz.ntmps12
    go_wp2_with fail
    go_ret
    exact ⟨rfl, Keeps.refl _ _⟩
end Go.Proofs
