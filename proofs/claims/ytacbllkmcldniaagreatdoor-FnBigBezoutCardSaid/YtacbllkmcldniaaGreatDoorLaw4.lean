/- Parts of the proofs over the numbers of any length: Law4. -/
import Derived.Deep.RegionHeld3
import Derived.Test.YtacbllkmcldniaaGreatDoorBezA
import Derived.Test.YtacbllkmcldniaaGreatDoorInvS
import Derived.Test.YtacbllkmcldniaaGreatDoorSpecD
import Derived.Test.YtacbllkmcldniaaGreatDoorSpecB
import Derived.Test.YtacbllkmcldniaaGreatDoorOneD
import Derived.Test.YtacbllkmcldniaaGreatDoorBaseD
import Derived.Test.YtacbllkmcldniaaGreatDoorSpecC
set_option linter.unusedSimpArgs false
set_option linter.unusedVariables false
namespace Go.Proofs
open Go.RowKit
set_option maxHeartbeats 8000000
set_option linter.unusedVariables false
set_option linter.unusedSimpArgs false
set_option maxRecDepth 100000

theorem law4 (a b : ByteArray) (w : World) (G : Glob w) (hma : a.size ≤ 9223372036854775807) (hmb : b.size ≤ 9223372036854775807) :
    Calls Tryz.prog 4 #[.string a, .string b] w fun e w' => e = .returned (.bool true) ∧ Keeps (fun _ => False) w w' := by
  have HG := hid G
  clear G
  by_cases ha : a.size ≤ 2147483647
  · by_cases hb : b.size ≤ 2147483647
    · have H1 := hid (bigRight_any a w ha)
      have H2 := hid (fun W => bigRight_any b W hb)
      go_enter Tryz.func4, Tryz.ntmps4
      go_wp2_with fail
      refine H1.out.mono ?_
      rintro e w1 ⟨hk1, hcase⟩
      have HK1 := hid hk1
      clear hk1 H1
      rcases hcase with ⟨x, v, htx, rfl, hnv⟩ | ⟨n1, a1, l1, c1, rfl⟩
      · have HTX := hid htx
        obtain ⟨n1, a1, l1, c1, rfl, hp⟩ := hnv.parts
        have HP := hid hp
        clear htx hnv hp
        go_wp2_with fail
        obtain ⟨W1, hW1⟩ : ∃ W, W = w1.alloc (.cells #[.bool n1, .slice a1 l1 c1] 24) := ⟨_, rfl⟩
        obtain ⟨p1, hp1⟩ : ∃ p, p = w1.heap.size := ⟨_, rfl⟩
        have HB1 : Hid (NumB W1 p1 n1 a1 l1 c1 x) := hid (by rw [hW1, hp1]; exact NumB.new HP.out)
        have HKW : Hid (Keeps (fun _ => False) w W1) := hid (by rw [hW1]; exact HK1.out.alloc _)
        rw [← hW1, ← hp1]
        clear hW1 hp1 HP
        refine (H2.out _).mono ?_
        rintro e w2 ⟨hk2, hcase⟩
        have HK2 := hid hk2
        clear hk2 H2
        rcases hcase with ⟨y, v, hty, rfl, hnv⟩ | ⟨n2, a2, l2, c2, rfl⟩
        · have HTY := hid hty
          obtain ⟨n2, a2, l2, c2, rfl, hp⟩ := hnv.parts
          have HP2 := hid hp
          clear hty hnv hp
          go_upto_region 5 with fail
          obtain ⟨W2, hW2⟩ : ∃ W, W = w2.alloc (.cells #[.bool n2, .slice a2 l2 c2] 24) := ⟨_, rfl⟩
          obtain ⟨p2, hp2⟩ : ∃ p, p = w2.heap.size := ⟨_, rfl⟩
          have HB2 : Hid (NumB W2 p2 n2 a2 l2 c2 y) := hid (by rw [hW2, hp2]; exact NumB.new HP2.out)
          have hk : Keeps (fun _ => False) W1 W2 := by rw [hW2]; exact HK2.out.alloc _
          have HKW2 := hid (HKW.out.trans hk)
          have HB12 := hid (HB1.out.keep hk)
          have HGW := hid (HG.out.keep (HKW.out.trans hk) (fun _ _ h => h))
          have HAl := hid (fun W (hk : Keeps (fun _ => False) W2 W) => bigAlive_true W (HGW.out.keep hk (fun _ _ h => h)))
          have HXL := hid (Txt.lt HTX.out); have HYL := hid (Txt.lt HTY.out)
          rw [← hW2, ← hp2]
          clear hW2 hp2 HP2 hk HK1 HK2 HB1 HKW
          obtain ⟨b0, b1⟩ := HB12.out.cells
          have HZx := hid (zero23 _ x 0 W2 HB12.out.v)
          have HZy := hid (fun W (hk : Keeps (fun _ => False) W2 W) => zero23 _ y 0 W (HB2.out.keep hk).v)
          have HCy := hid (fun W (hk : Keeps (fun _ => False) W2 W) => (HB2.out.keep hk).cells)
          obtain ⟨zz, hzz⟩ : ∃ z, z = (decide (x = 0) && decide (y = 0)) := ⟨_, rfl⟩
          go_cut [47] from 34 to 48 (fun v wx => v = .bool zz ∧ Keeps (fun _ => False) W2 wx)
          case first =>
            by_cases hx0 : x = 0
            · rw [show decide (x = 0) = true by simp [hx0]] at HZx
              rw [show decide (x = 0) = true by simp [hx0], Bool.true_and] at hzz
              have HZ2 := hid (fun W (hk : Keeps (fun _ => False) W2 W) => HZy.out W hk)
              rw [← hzz] at HZ2
              clear hx0 hzz
              go_wp2_with fail
              refine HZx.out.mono ?_
              rintro e w5 ⟨rfl, hk⟩
              have HK5a := hid hk
              obtain ⟨b2, b3⟩ := HCy.out w5 hk
              clear hk HZx b0 b1
              go_wp2_with fail
              refine (HZ2.out w5 HK5a.out).mono ?_
              rintro e w6 ⟨rfl, hk⟩
              have HK5 := hid (HK5a.out.trans hk)
              clear hk HZ2 b2 b3 HZy
              go_wp2_with fail
              go_meet
              case rel => exact ⟨rfl, HK5.out⟩
            · rw [show decide (x = 0) = false by simp [hx0]] at HZx
              have hzf : zz = false := by rw [hzz, show decide (x = 0) = false by simp [hx0]]; rfl
              subst hzf
              clear hx0 hzz
              go_wp2_with fail
              refine HZx.out.mono ?_
              rintro e w5 ⟨rfl, hk⟩
              have HK5 := hid hk
              clear hk HZx HZy
              go_wp2_with fail
              go_meet
              case rel => exact ⟨rfl, HK5.out⟩
          case rest =>
            obtain ⟨rfl, hk⟩ := hcut
            have HK5 := hid hk
            clear hk b0 b1 HZx HZy
            by_cases h00 : x = 0 ∧ y = 0
            · have hzt : zz = true := by rw [hzz]; simp [h00.1, h00.2]
              subst hzt
              clear hzz h00
              go_wp2_with fail
              refine (HAl.out _ HK5.out).mono ?_
              rintro e w9 ⟨rfl, hk9⟩
              have HK9 := hid (HK5.out.trans hk9)
              clear hk9
              go_wp2_with fail
              go_ret
              exact ⟨rfl, HKW2.out.trans HK9.out⟩
            · have hzf : zz = false := by
                rw [hzz]
                simp only [Bool.and_eq_false_iff, decide_eq_false_iff_not]
                exact Decidable.not_and_iff_not_or_not.mp h00
              subst hzf
              have HXY := hid h00
              obtain ⟨b0, b1⟩ := HB12.out.cells
              clear hzz h00
              have HGC : Hid (∀ W, Keeps (fun _ => False) W2 W → Calls Tryz.prog 26 #[.agg #[.bool n1, .slice a1 l1 c1], .agg #[.bool n2, .slice a2 l2 c2]] W fun e w' => ∃ v, e = .returned v ∧ NumV w' 0 v (Int.gcd x y : Int) ∧ Keeps (fun _ => False) W w') := hid (fun W hk => gcd26 _ _ x y 0 0 W (HB12.out.keep hk).v (HB2.out.keep hk).v HXL.out HYL.out)
              obtain ⟨g, hg⟩ : ∃ g : Int, g = (Int.gcd x y : Int) := ⟨_, rfl⟩
              obtain ⟨gT, hgT⟩ : ∃ T, T = tx g := ⟨_, rfl⟩
              have hgl : g.natAbs < 10 ^ 200 := by
                rw [hg, Int.natAbs_natCast]
                by_cases h : x = 0
                · have : Int.gcd x y ≤ y.natAbs := Nat.le_of_dvd (by have : y ≠ 0 := fun hb => HXY.out ⟨h, hb⟩; omega) (Nat.gcd_dvd_right _ _)
                  have := HYL.out
                  omega
                · have : Int.gcd x y ≤ x.natAbs := Nat.le_of_dvd (by omega) (Nat.gcd_dvd_left _ _)
                  have := HXL.out
                  omega
              have HTG : Hid (∀ W v b, NumV W b v g → Calls Tryz.prog 22 #[v] W fun e w' => e = .returned (.string gT) ∧ Keeps (fun _ => False) W w') := hid (fun W v b h => by
                rw [hgT]
                exact text22 v _ b W h (Nat.le_trans (digs_len hgl) (by omega)))
              have HBo : Hid (∀ W, Keeps (fun _ => False) W2 W → Calls Tryz.prog 24 #[.string a, .string b] W fun e w' => ∃ xy, BezP x y xy ∧ e = .returned (.tuple #[.string gT, .string (tx xy.1), .string (tx xy.2)]) ∧ Keeps (fun _ => False) W w') := hid (fun W hk => by
                obtain ⟨na, la, da, hta, hx, _⟩ := HTX.out
                obtain ⟨nb, lb, db, htb, hy, _⟩ := HTY.out
                have := bigBezout24 a b na nb da db la lb x y W hta htb hx hy (HGW.out.keep hk (fun _ _ h => h)) HXY.out HXL.out HYL.out
                rw [← hg, ← hgT] at this
                exact this)
              rw [← hg] at HGC
              have HGg := hid hg
              clear hg hgT hgl
              go_wp2_with fail
              refine (HBo.out _ HK5.out).mono ?_
              rintro e w6 ⟨⟨X, Y⟩, hP, rfl, hk⟩
              have HP := hid hP
              have HK6 := hid (HK5.out.trans hk)
              obtain ⟨T1, hT1⟩ : ∃ T, T = tx X := ⟨_, rfl⟩
              obtain ⟨T2, hT2⟩ : ∃ T, T = tx Y := ⟨_, rfl⟩
              have h1 : (10 : Nat) ^ 200 + 1 ≤ 10 ^ 201 := by decide +kernel
              have HXb : Hid (X.natAbs < 10 ^ 201 ∧ Y.natAbs < 10 ^ 201) := hid (by
                obtain ⟨_, g2, g3⟩ := hP
                have h2 := HXL.out
                have h3 := HYL.out
                simp only at g2 g3
                exact ⟨by omega, by omega⟩)
              have HR1 : Hid (∀ W, Calls Tryz.prog 25 #[.string T1] W fun e w' => ∃ v, e = .returned (.tuple #[v, .bool true]) ∧ NumV w' W.heap.size v X ∧ Keeps (fun _ => False) W w') := hid (fun W => read25_txt X T1 W hT1 (by rw [hT1]; have := txt_size (z := X) HXb.out.1 (by omega); unfold tx; omega))
              have HR2 : Hid (∀ W, Calls Tryz.prog 25 #[.string T2] W fun e w' => ∃ v, e = .returned (.tuple #[v, .bool true]) ∧ NumV w' W.heap.size v Y ∧ Keeps (fun _ => False) W w') := hid (fun W => read25_txt Y T2 W hT2 (by rw [hT2]; have := txt_size (z := Y) HXb.out.2 (by omega); unfold tx; omega))
              simp only
              rw [← hT1, ← hT2]
              clear hT1 hT2 hP hk h1 HBo b0 b1
              go_wp2_with fail
              refine (HR1.out _).mono ?_
              rintro e w3 ⟨v, rfl, hnv, hk⟩
              obtain ⟨n3, a3, l3, c3, rfl, hp⟩ := hnv.parts
              have HP3 := hid hp; have HK3 := hid (HK6.out.trans hk)
              clear hnv hp hk HR1
              go_wp2_with fail
              obtain ⟨W3, hW3⟩ : ∃ W, W = w3.alloc (.cells #[.bool n3, .slice a3 l3 c3] 24) := ⟨_, rfl⟩
              obtain ⟨p3, hp3⟩ : ∃ p, p = w3.heap.size := ⟨_, rfl⟩
              have hB3 : NumB W3 p3 n3 a3 l3 c3 X := by rw [hW3, hp3]; exact NumB.new HP3.out
              have hk3 : Keeps (fun _ => False) W2 W3 := by rw [hW3]; exact HK3.out.alloc _
              have HB3 := hid hB3; have HK23 := hid hk3
              rw [← hW3, ← hp3]
              clear hW3 hp3 hB3 hk3 HP3 HK3
              refine (HR2.out _).mono ?_
              rintro e w4 ⟨v, rfl, hnv, hk⟩
              obtain ⟨n4, a4, l4, c4, rfl, hp⟩ := hnv.parts
              have HP4 := hid hp; have HK34 := hid hk
              clear hnv hp hk HR2
              go_upto_region 10 with fail
              obtain ⟨W4, hW4⟩ : ∃ W, W = w4.alloc (.cells #[.bool n4, .slice a4 l4 c4] 24) := ⟨_, rfl⟩
              obtain ⟨p4, hp4⟩ : ∃ p, p = w4.heap.size := ⟨_, rfl⟩
              have hB4 : NumB W4 p4 n4 a4 l4 c4 Y := by rw [hW4, hp4]; exact NumB.new HP4.out
              have hk4 : Keeps (fun _ => False) W3 W4 := by rw [hW4]; exact HK34.out.alloc _
              have HB4 := hid hB4; have HB34 := hid (HB3.out.keep hk4); have HK24 := hid (HK23.out.trans hk4)
              rw [← hW4, ← hp4]
              clear hW4 hp4 hB4 hk4 HP4 HK34
              have HB14 := hid (HB12.out.keep HK24.out); have HB24 := hid (HB2.out.keep HK24.out)
              have HC : Hid (∀ W, Keeps (fun _ => False) W4 W → (W.cell? ⟨p1, 0, none⟩ = some (.bool n1) ∧ W.cell? ⟨p1, 1, none⟩ = some (.slice a1 l1 c1)) ∧ (W.cell? ⟨p2, 0, none⟩ = some (.bool n2) ∧ W.cell? ⟨p2, 1, none⟩ = some (.slice a2 l2 c2)) ∧ (W.cell? ⟨p3, 0, none⟩ = some (.bool n3) ∧ W.cell? ⟨p3, 1, none⟩ = some (.slice a3 l3 c3)) ∧ (W.cell? ⟨p4, 0, none⟩ = some (.bool n4) ∧ W.cell? ⟨p4, 1, none⟩ = some (.slice a4 l4 c4))) := hid (fun W hk => ⟨(HB14.out.keep hk).cells, (HB24.out.keep hk).cells, (HB34.out.keep hk).cells, (HB4.out.keep hk).cells⟩)
              have hdl : ∀ u v : Int, u.natAbs < 10 ^ 200 → v.natAbs < 10 ^ 201 → (digs (u * v).natAbs).length ≤ 40000 := by
                intro u v h1 h2
                obtain ⟨k, hk⟩ : ∃ k, k = 200 := ⟨_, rfl⟩
                obtain ⟨j, hj⟩ : ∃ k, k = 201 := ⟨_, rfl⟩
                rw [← hk] at h1
                rw [← hj] at h2
                refine Nat.le_trans (digs_len (k := k + j) ?_) (by omega)
                rw [Int.natAbs_mul, Nat.pow_add]
                exact Nat.mul_lt_mul'' h1 h2
              have HM1 : Hid (∀ W, Keeps (fun _ => False) W4 W → Calls Tryz.prog 27 #[.agg #[.bool n1, .slice a1 l1 c1], .agg #[.bool n3, .slice a3 l3 c3]] W (NRes W (x * X))) := hid (fun W hk => mul27 _ _ x X 0 0 W (HB14.out.keep hk).v (HB34.out.keep hk).v (Nat.le_trans (digs_len HXL.out) (by omega)) (Nat.le_trans (digs_len HXb.out.1) (by omega)))
              have HM2 : Hid (∀ W, Keeps (fun _ => False) W4 W → Calls Tryz.prog 27 #[.agg #[.bool n2, .slice a2 l2 c2], .agg #[.bool n4, .slice a4 l4 c4]] W (NRes W (y * Y))) := hid (fun W hk => mul27 _ _ y Y 0 0 W (HB24.out.keep hk).v (HB4.out.keep hk).v (Nat.le_trans (digs_len HYL.out) (by omega)) (Nat.le_trans (digs_len HXb.out.2) (by omega)))
              have HAD : Hid (∀ W va vb ba bb, NumV W ba va (x * X) → NumV W bb vb (y * Y) → Calls Tryz.prog 28 #[va, vb] W (NRes W g)) := hid (fun W va vb ba bb h1 h2 => by
                have := add28 va vb (x * X) (y * Y) ba bb W h1 h2 (Nat.le_trans (hdl x X HXL.out HXb.out.1) (by omega)) (Nat.le_trans (hdl y Y HYL.out HXb.out.2) (by omega))
                rw [show x * X + y * Y = g by rw [HGg.out]; exact HP.out.1] at this
                exact this)
              have HAl4 := hid (fun W (hk : Keeps (fun _ => False) W4 W) => HAl.out W (HK24.out.trans hk))
              have HGC4 := hid (fun W (hk : Keeps (fun _ => False) W4 W) => HGC.out W (HK24.out.trans hk))
              have HD0 : Hid (Keeps (fun _ => False) W4 W4.drew) := hid (Keeps.refl _ W4).drew
              obtain ⟨⟨x0, x1⟩, ⟨x2, x3⟩, ⟨x4, x5⟩, ⟨x6, x7⟩⟩ := HC.out W4 (Keeps.refl _ _)
              clear hdl HGC HAl
              go_cut [4] from 66 to 93 (fun v wx => v = .bool true ∧ Keeps (fun _ => False) W4 wx)
              case first =>
                go_region_held3 (fun W => (W.cell? ⟨p1, 0, none⟩ = some (.bool n1) ∧ W.cell? ⟨p1, 1, none⟩ = some (.slice a1 l1 c1)) ∧ (W.cell? ⟨p2, 0, none⟩ = some (.bool n2) ∧ W.cell? ⟨p2, 1, none⟩ = some (.slice a2 l2 c2)) ∧ (W.cell? ⟨p3, 0, none⟩ = some (.bool n3) ∧ W.cell? ⟨p3, 1, none⟩ = some (.slice a3 l3 c3)) ∧ (W.cell? ⟨p4, 0, none⟩ = some (.bool n4) ∧ W.cell? ⟨p4, 1, none⟩ = some (.slice a4 l4 c4)))
                  (first | with_reducible exact HC.out _ K11.out | with_reducible exact HC.out _ K10.out | with_reducible exact HC.out _ K9.out | with_reducible exact HC.out _ K8.out | with_reducible exact HC.out _ K7.out | with_reducible exact HC.out _ K6.out | with_reducible exact HC.out _ K5.out | with_reducible exact HC.out _ HD0.out)
                  (first
                   | (go_at_call 19; (with_reducible refine (HAl4.out _ HD0.out).mono ?_); rintro e w5 ⟨rfl, hk⟩; have K5 := hid (HD0.out.trans hk); have _t := K5.out; clear _t; clear hk)
                   | (go_at_call 26; (with_reducible refine (HGC4.out w5 K5.out).mono ?_); rintro e w6 ⟨v, rfl, hv, hk⟩; obtain ⟨n6, a6, l6, c6, rfl⟩ := hv.agg; have HV6 := hid hv; have K6 := hid (K5.out.trans hk); have _t := K6.out; clear _t; clear hv hk)
                   | (go_at_call 22; (with_reducible refine (HTG.out w6 _ _ HV6.out).mono ?_); rintro e w7 ⟨rfl, hk⟩; have K7 := hid (K6.out.trans hk); have _t := K7.out; clear _t; clear hk)
                   | (go_at_call 27; (with_reducible refine (HM1.out w7 K7.out).mono ?_); rintro e w8 ⟨v, rfl, hv, hk⟩; obtain ⟨n8, a8, l8, c8, rfl⟩ := hv.agg; have HV8 := hid hv; have K8 := hid (K7.out.trans hk); have _t := K8.out; clear _t; clear hv hk)
                   | (go_at_call 27; (with_reducible refine (HM2.out w8 K8.out).mono ?_); rintro e w9 ⟨v, rfl, hv, hk⟩; obtain ⟨n9, a9, l9, c9, rfl⟩ := hv.agg; have HV9 := hid hv; have HV89 := hid ((HV8.out.lower (Nat.zero_le _)).keep hk (fun _ _ h => h)); have K9 := hid (K8.out.trans hk); have _t := K9.out; clear _t; clear hv hk)
                   | (go_at_call 28; (with_reducible refine (HAD.out w9 _ _ _ _ HV89.out HV9.out).mono ?_); rintro e w10 ⟨v, rfl, hv, hk⟩; obtain ⟨n10, a10, l10, c10, rfl⟩ := hv.agg; have HV10 := hid hv; have K10 := hid (K9.out.trans hk); have _t := K10.out; clear _t; clear hv hk)
                   | (go_at_call 22; (with_reducible refine (HTG.out w10 _ _ HV10.out).mono ?_); rintro e w11 ⟨rfl, hk⟩; have K11 := hid (K10.out.trans hk); have _t := K11.out; clear _t; clear hk))
                all_goals
                  go_wp2_with fail
                  go_meet
                all_goals exact ⟨rfl, K11.out⟩
              case rest =>
                obtain ⟨rfl, hk⟩ := hcut
                have HKf := hid (HK24.out.trans hk)
                clear hk
                go_wp2_with fail
                go_ret
                exact ⟨rfl, HKW2.out.trans HKf.out⟩
        · go_wp2_with fail
          have hk := ((HKW.out.trans HK2.out).alloc (.cells #[.bool n2, .slice a2 l2 c2] 24))
          have HKK := hid hk
          have HG2 := hid (HG.out.keep hk (fun _ _ h => h))
          clear hk
          refine (bigAlive_true _ HG2.out).mono ?_
          rintro e w9 ⟨rfl, hk9⟩
          have HK9 := hid hk9
          clear hk9
          go_wp2_with fail
          go_ret
          exact ⟨rfl, HKK.out.trans HK9.out⟩
      · go_wp2_with fail
        refine (H2.out _).mono ?_
        rintro e w2 ⟨hk2, hcase⟩
        have HK2 := hid ((HK1.out.alloc (.cells #[.bool n1, .slice a1 l1 c1] 24)).trans hk2)
        clear hk2 H2
        rcases hcase with ⟨y, v, hty, rfl, hnv⟩ | ⟨n2, a2, l2, c2, rfl⟩
        · obtain ⟨n2, a2, l2, c2, rfl, hp⟩ := hnv.parts
          clear hty hnv hp
          go_wp2_with fail
          have hk := (HK2.out.alloc (.cells #[.bool n2, .slice a2 l2 c2] 24))
          have HKK := hid hk
          have HG2 := hid (HG.out.keep hk (fun _ _ h => h))
          clear hk
          refine (bigAlive_true _ HG2.out).mono ?_
          rintro e w9 ⟨rfl, hk9⟩
          have HK9 := hid hk9
          clear hk9
          go_wp2_with fail
          go_ret
          exact ⟨rfl, HKK.out.trans HK9.out⟩
        · go_wp2_with fail
          have hk := (HK2.out.alloc (.cells #[.bool n2, .slice a2 l2 c2] 24))
          have HKK := hid hk
          have HG2 := hid (HG.out.keep hk (fun _ _ h => h))
          clear hk
          refine (bigAlive_true _ HG2.out).mono ?_
          rintro e w9 ⟨rfl, hk9⟩
          have HK9 := hid hk9
          clear hk9
          go_wp2_with fail
          go_ret
          exact ⟨rfl, HKK.out.trans HK9.out⟩
    · go_enter Tryz.func4, Tryz.ntmps4
      go_wp2_with fail
      go_ret
      exact ⟨rfl, Keeps.refl _ _⟩
  · go_enter Tryz.func4, Tryz.ntmps4
    go_wp2_with fail
    go_ret
    exact ⟨rfl, Keeps.refl _ _⟩
end Go.Proofs
