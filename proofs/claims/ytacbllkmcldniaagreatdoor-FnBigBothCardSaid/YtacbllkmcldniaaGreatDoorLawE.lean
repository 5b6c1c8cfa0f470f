/- Parts of the proofs over the numbers of any length: Law9. -/
import Derived.Test.YtacbllkmcldniaaGreatDoorBothC
import Derived.Test.YtacbllkmcldniaaGreatDoorLawN
import Derived.Test.YtacbllkmcldniaaGreatDoorSpecD
set_option linter.unusedSimpArgs false
set_option linter.unusedVariables false
namespace Go.Proofs
open Go.RowKit
set_option maxHeartbeats 4000000
set_option linter.unusedVariables false
set_option linter.unusedSimpArgs false
set_option maxRecDepth 100000

theorem NumB.new2 {w : World} {n m : Bool} {a a' : Option Addr} {l c l' c' : Nat} {z z' : Int} (h : ∀ w', Keeps (fun _ => False) w w' → ∀ b, (∀ k, InB a k → b ≤ k) → NumV w' b (.agg #[.bool n, .slice a l c]) z)
    (h' : ∀ w', Keeps (fun _ => False) w w' → ∀ b, (∀ k, InB a' k → b ≤ k) → NumV w' b (.agg #[.bool m, .slice a' l' c']) z') :
    NumB ((w.alloc (.cells #[.bool n, .slice a l c] 24)).alloc (.cells #[.bool m, .slice a' l' c'] 24)) w.heap.size n a l c z ∧ NumB ((w.alloc (.cells #[.bool n, .slice a l c] 24)).alloc (.cells #[.bool m, .slice a' l' c'] 24)) (w.heap.size + 1) m a' l' c' z' := by
  refine ⟨(NumB.new h).keep ((Keeps.refl _ _).alloc _), ?_⟩
  have := NumB.new (w := w.alloc (.cells #[.bool n, .slice a l c] 24)) (fun w' hk b hb => h' w' (((Keeps.refl _ w).alloc _).trans hk) b hb)
  rwa [show (w.alloc (.cells #[.bool n, .slice a l c] 24)).heap.size = w.heap.size + 1 by simp] at this

theorem law9 (a b : ByteArray) (w : World) (G : Glob w) (hma : a.size ≤ 9223372036854775807) (hmb : b.size ≤ 9223372036854775807) :
    Calls Tryz.prog 9 #[.string a, .string b] w fun e w' => e = .returned (.bool true) ∧ Keeps (fun _ => False) w w' := by
  have HG := hid G
  clear G
  by_cases ha : a.size ≤ 2147483647
  · by_cases hb : b.size ≤ 2147483647
    · have H1 := hid (bigRight_any a w ha)
      have H2 := hid (fun W => bigRight_any b W hb)
      go_enter Tryz.func9, Tryz.ntmps9
      go_wp2_with fail
      refine H1.out.mono ?_
      rintro e w1 ⟨hk1, hcase⟩
      have HK1 := hid hk1
      clear hk1 H1
      rcases hcase with ⟨x, v, htx, rfl, hnv⟩ | ⟨n1, a1, l1, c1, rfl⟩
      · have HTX := hid htx
        obtain ⟨n1, a1, l1, c1, rfl, hp⟩ := hnv.parts
        have HP := hid hp
        clear htx hnv hp
        go_wp2_with fail
        obtain ⟨W1, hW1⟩ : ∃ W, W = w1.alloc (.cells #[.bool n1, .slice a1 l1 c1] 24) := ⟨_, rfl⟩
        obtain ⟨p1, hp1⟩ : ∃ p, p = w1.heap.size := ⟨_, rfl⟩
        have HB1 : Hid (NumB W1 p1 n1 a1 l1 c1 x) := hid (by rw [hW1, hp1]; exact NumB.new HP.out)
        have HKW : Hid (Keeps (fun _ => False) w W1) := hid (by rw [hW1]; exact HK1.out.alloc _)
        rw [← hW1, ← hp1]
        clear hW1 hp1 HP
        refine (H2.out _).mono ?_
        rintro e w2 ⟨hk2, hcase⟩
        have HK2 := hid hk2
        clear hk2 H2
        rcases hcase with ⟨y, v, hty, rfl, hnv⟩ | ⟨n2, a2, l2, c2, rfl⟩
        · have HTY := hid hty
          obtain ⟨n2, a2, l2, c2, rfl, hp⟩ := hnv.parts
          have HP2 := hid hp
          clear hty hnv hp
          go_upto_region 7 with fail
          obtain ⟨W2, hW2⟩ : ∃ W, W = w2.alloc (.cells #[.bool n2, .slice a2 l2 c2] 24) := ⟨_, rfl⟩
          obtain ⟨p2, hp2⟩ : ∃ p, p = w2.heap.size := ⟨_, rfl⟩
          have HB2 : Hid (NumB W2 p2 n2 a2 l2 c2 y) := hid (by rw [hW2, hp2]; exact NumB.new HP2.out)
          have hk : Keeps (fun _ => False) W1 W2 := by rw [hW2]; exact HK2.out.alloc _
          have HKW2 := hid (HKW.out.trans hk)
          have HB12 := hid (HB1.out.keep hk)
          have HGW := hid (HG.out.keep (HKW.out.trans hk) (fun _ _ h => h))
          have HAl := hid (fun W (hk : Keeps (fun _ => False) W2 W) => bigAlive_true W (HGW.out.keep hk (fun _ _ h => h)))
          rw [← hW2, ← hp2]
          clear hW2 hp2 HP2 hk HK1 HK2 HB1 HKW
          by_cases hy0 : y = 0
          · subst hy0
            have HBo : Hid (Calls Tryz.prog 39 #[.string a, .string b] W2 fun e w' => e = .returned (.tuple #[.string { data := #[] }, .string { data := #[] }, .string { data := #[] }, .string { data := #[] }, .bool false]) ∧ Keeps (fun _ => False) W2 w') := hid (by
          obtain ⟨na, la, da, hta, hx, _⟩ := HTX.out
          obtain ⟨nb, lb, db, htb, hy, _⟩ := HTY.out
          exact bigBoth39_zero a b na nb da db la lb x W2 hta htb hx hy HGW.out)
            clear HTX HTY HG HGW
            go_wp2_with fail
            refine HBo.out.mono ?_
            rintro e w3 ⟨rfl, hk3⟩
            have HB23 := hid (HB2.out.keep hk3); have HK3 := hid hk3
            obtain ⟨b0, b1⟩ := HB23.out.cells
            clear hk3 HBo
            go_wp2_with fail
            refine (zero23 _ _ _ _ HB23.out.v).mono ?_
            rintro e w4 ⟨rfl, hk4⟩
            have HA := hid (HAl.out w4 (HK3.out.trans hk4)); have HK4 := hid (HK3.out.trans hk4)
            clear hk4 b0 b1 HAl
            rw [show decide ((0 : Int) = 0) = true from rfl]
            go_wp2_with fail
            refine HA.out.mono ?_
            rintro e w5 ⟨rfl, hk5⟩
            have HK5 := hid (HK4.out.trans hk5)
            clear hk5 HA
            go_wp2_with fail
            go_ret
            exact ⟨rfl, HKW2.out.trans HK5.out⟩
          · have hz : decide (y = 0) = false := by simp [hy0]
            obtain ⟨T1, hT1⟩ : ∃ T, T = strB (txt (decide ((x.tdiv y) < 0)) (x.tdiv y).natAbs) := ⟨_, rfl⟩
            obtain ⟨T2, hT2⟩ : ∃ T, T = strB (txt (decide ((x.tmod y) < 0)) (x.tmod y).natAbs) := ⟨_, rfl⟩
            obtain ⟨T3, hT3⟩ : ∃ T, T = strB (txt (decide ((dmQ x y) < 0)) (dmQ x y).natAbs) := ⟨_, rfl⟩
            obtain ⟨T4, hT4⟩ : ∃ T, T = strB (txt (decide ((dmM x y) < 0)) (dmM x y).natAbs) := ⟨_, rfl⟩
            have hp5 : (10 : Nat) ^ 200 ≤ 10 ^ 250 := Nat.pow_le_pow_right (by omega) (by omega)
            have hxl := Nat.lt_of_lt_of_le (Txt.lt HTX.out) hp5
            have hyl := Nat.lt_of_lt_of_le (Txt.lt HTY.out) hp5
            obtain ⟨g1, g2, g3, g4⟩ := dm_bounds x y hxl hyl
            have HBo : Hid (Calls Tryz.prog 39 #[.string a, .string b] W2 fun e w' => e = .returned (.tuple #[.string T1, .string T2, .string T3, .string T4, .bool true]) ∧ Keeps (fun _ => False) W2 w') := hid (by
          obtain ⟨na, la, da, hta, hx, _⟩ := HTX.out
          obtain ⟨nb, lb, db, htb, hy, _⟩ := HTY.out
          exact bigBoth39 a b na nb da db la lb x y T1 T2 T3 T4 W2 hta htb hx hy hxl hyl hy0 HGW.out hT1 hT2 hT3 hT4)
            have HQr := hid (fun W vx vy (h1 : NumV W 0 vx x) (h2 : NumV W 0 vy y) => quoRem40 vx vy x y 0 0 W h1 h2 hy0 (digs_lt hxl (by omega)) (digs_lt hyl (by omega)))
            have HDv := hid (fun W vx vy (h1 : NumV W 0 vx x) (h2 : NumV W 0 vy y) => divided36 vx vy x y 0 0 W h1 h2 hy0 (digs_lt hxl (by omega)) (digs_lt hyl (by omega)))
            have HX1 : Hid (∀ W v, NumV W 0 v (x.tdiv y) → Calls Tryz.prog 22 #[v] W fun e w' => e = .returned (.string T1) ∧ Keeps (fun _ => False) W w') := hid (fun W v h => by
          rw [hT1]
          exact text22 v _ 0 W h (Nat.le_trans (digs_len g1) (by omega)))
            have HX2 : Hid (∀ W v, NumV W 0 v (x.tmod y) → Calls Tryz.prog 22 #[v] W fun e w' => e = .returned (.string T2) ∧ Keeps (fun _ => False) W w') := hid (fun W v h => by
          rw [hT2]
          exact text22 v _ 0 W h (Nat.le_trans (digs_len g2) (by omega)))
            have HX3 : Hid (∀ W v, NumV W 0 v (dmQ x y) → Calls Tryz.prog 22 #[v] W fun e w' => e = .returned (.string T3) ∧ Keeps (fun _ => False) W w') := hid (fun W v h => by
          rw [hT3]
          exact text22 v _ 0 W h (Nat.le_trans (digs_len g3) (by omega)))
            have HX4 : Hid (∀ W v, NumV W 0 v (dmM x y) → Calls Tryz.prog 22 #[v] W fun e w' => e = .returned (.string T4) ∧ Keeps (fun _ => False) W w') := hid (fun W v h => by
          rw [hT4]
          exact text22 v _ 0 W h (Nat.le_trans (digs_len g4) (by omega)))
            have HZ := hid hz
            obtain ⟨z1, hz1⟩ : ∃ z, z = (x.tdiv y) := ⟨_, rfl⟩
            obtain ⟨z2, hz2⟩ : ∃ z, z = (x.tmod y) := ⟨_, rfl⟩
            obtain ⟨z3, hz3⟩ : ∃ z, z = (dmQ x y) := ⟨_, rfl⟩
            obtain ⟨z4, hz4⟩ : ∃ z, z = (dmM x y) := ⟨_, rfl⟩
            simp only [← hz1, ← hz2] at HQr; simp only [← hz3, ← hz4] at HDv; rw [← hz1] at HX1; rw [← hz2] at HX2; rw [← hz3] at HX3; rw [← hz4] at HX4
            clear hz hT1 hT2 hT3 hT4 hp5 hxl hyl g1 g2 g3 g4 HTX HTY HG HGW hy0 hz1 hz2 hz3 hz4
            go_wp2_with fail
            refine HBo.out.mono ?_
            rintro e w3 ⟨rfl, hk3⟩
            have HB13 := hid (HB12.out.keep hk3); have HB23 := hid (HB2.out.keep hk3); have HK3 := hid hk3
            obtain ⟨b0, b1⟩ := HB23.out.cells
            clear hk3 HBo
            go_wp2_with fail
            refine (zero23 _ _ _ _ HB23.out.v).mono ?_
            rintro e w4 ⟨rfl, hk4⟩
            have HB14 := hid (HB13.out.keep hk4); have HB24 := hid (HB23.out.keep hk4); have HK4 := hid (HK3.out.trans hk4)
            clear hk4 b0 b1
            rw [HZ.out]
            obtain ⟨b0, b1⟩ := HB14.out.cells
            obtain ⟨b2, b3⟩ := HB24.out.cells
            go_wp2_with fail
            refine (HQr.out _ _ _ HB14.out.v HB24.out.v).mono ?_
            rintro e w5 ⟨v1, v2, rfl, hv1, hv2, hk⟩
            obtain ⟨n3, a3, l3, c3, rfl, hpa⟩ := hv1.parts
            obtain ⟨n4, a4, l4, c4, rfl, hpb⟩ := hv2.parts
            have HPa := hid hpa; have HPb := hid hpb; have HKa := hid hk
            clear hv1 hv2 hpa hpb hk b0 b1 b2 b3
            go_upto_region 11 with fail
            obtain ⟨W5, hW⟩ : ∃ W, W = (w5.alloc (.cells #[.bool n3, .slice a3 l3 c3] 24)).alloc (.cells #[.bool n4, .slice a4 l4 c4] 24) := ⟨_, rfl⟩
            obtain ⟨p5, hp⟩ : ∃ p, p = w5.heap.size := ⟨_, rfl⟩
            have hnn := NumB.new2 HPa.out HPb.out
            rw [← hW, ← hp] at hnn
            have hk : Keeps (fun _ => False) w4 W5 := by rw [hW]; exact (HKa.out.alloc _).alloc _
            rw [← hW, ← hp]
            have HQ5 := hid hnn.1; have HR5 := hid hnn.2; have HB15 := hid (HB14.out.keep hk); have HB25 := hid (HB24.out.keep hk); have HK5 := hid (HK4.out.trans hk)
            clear hW hp hnn hk HPa HPb HKa HQr
            obtain ⟨b0, b1⟩ := HB15.out.cells
            obtain ⟨b2, b3⟩ := HB25.out.cells
            go_wp2_with fail
            refine (HDv.out _ _ _ HB15.out.v HB25.out.v).mono ?_
            rintro e w6 ⟨v1, v2, rfl, hv1, hv2, hk⟩
            obtain ⟨n5, a5, l5, c5, rfl, hpa⟩ := hv1.parts
            obtain ⟨n6, a6, l6, c6, rfl, hpb⟩ := hv2.parts
            have HPa := hid hpa; have HPb := hid hpb; have HKa := hid hk
            clear hv1 hv2 hpa hpb hk b0 b1 b2 b3
            go_upto_region 12 with fail
            obtain ⟨W6, hW⟩ : ∃ W, W = (w6.alloc (.cells #[.bool n5, .slice a5 l5 c5] 24)).alloc (.cells #[.bool n6, .slice a6 l6 c6] 24) := ⟨_, rfl⟩
            obtain ⟨p6, hp⟩ : ∃ p, p = w6.heap.size := ⟨_, rfl⟩
            have hnn := NumB.new2 HPa.out HPb.out
            rw [← hW, ← hp] at hnn
            have hk : Keeps (fun _ => False) W5 W6 := by rw [hW]; exact (HKa.out.alloc _).alloc _
            rw [← hW, ← hp]
            have HD6 := hid hnn.1; have HM6 := hid hnn.2; have HQ6 := hid (HQ5.out.keep hk); have HR6 := hid (HR5.out.keep hk); have HK6 := hid (HK5.out.trans hk)
            have HA := hid (HAl.out W6 (HK5.out.trans hk))
            clear hW hp hnn hk HPa HPb HKa HDv HAl
            go_wp2_with fail
            refine HA.out.mono ?_
            rintro e w7 ⟨rfl, hk⟩
            have HQ7 := hid (HQ6.out.keep hk); have HR7 := hid (HR6.out.keep hk); have HD7 := hid (HD6.out.keep hk); have HM7 := hid (HM6.out.keep hk); have HK7 := hid (HK6.out.trans hk)
            obtain ⟨b0, b1⟩ := HQ7.out.cells
            clear hk HA
            go_wp2_with fail
            refine (HX1.out _ _ HQ7.out.v).mono ?_
            rintro e w8 ⟨rfl, hk⟩
            have HK8 := hid (HK7.out.trans hk); have HR8 := hid (HR7.out.keep hk); have HD8 := hid (HD7.out.keep hk); have HM8 := hid (HM7.out.keep hk)
            clear hk b0 b1
            obtain ⟨b0, b1⟩ := HR8.out.cells
            go_wp2_with fail
            refine (HX2.out _ _ HR8.out.v).mono ?_
            rintro e w9 ⟨rfl, hk⟩
            have HK9 := hid (HK8.out.trans hk); have HD9 := hid (HD8.out.keep hk); have HM9 := hid (HM8.out.keep hk)
            clear hk b0 b1
            obtain ⟨b0, b1⟩ := HD9.out.cells
            go_wp2_with fail
            refine (HX3.out _ _ HD9.out.v).mono ?_
            rintro e w10 ⟨rfl, hk⟩
            have HK10 := hid (HK9.out.trans hk); have HM10 := hid (HM9.out.keep hk)
            clear hk b0 b1
            obtain ⟨b0, b1⟩ := HM10.out.cells
            go_wp2_with fail
            refine (HX4.out _ _ HM10.out.v).mono ?_
            rintro e w11 ⟨rfl, hk⟩
            have HK11 := hid (HK10.out.trans hk)
            clear hk b0 b1
            go_wp2_with fail
            go_ret
            exact ⟨rfl, HKW2.out.trans HK11.out⟩
        · go_wp2_with fail
          have hk := ((HKW.out.trans HK2.out).alloc (.cells #[.bool n2, .slice a2 l2 c2] 24))
          have HKK := hid hk
          have HG2 := hid (HG.out.keep hk (fun _ _ h => h))
          clear hk
          refine (bigAlive_true _ HG2.out).mono ?_
          rintro e w9 ⟨rfl, hk9⟩
          have HK9 := hid hk9
          clear hk9
          go_wp2_with fail
          go_ret
          exact ⟨rfl, HKK.out.trans HK9.out⟩
      · go_wp2_with fail
        refine (H2.out _).mono ?_
        rintro e w2 ⟨hk2, hcase⟩
        have HK2 := hid ((HK1.out.alloc (.cells #[.bool n1, .slice a1 l1 c1] 24)).trans hk2)
        clear hk2 H2
        rcases hcase with ⟨y, v, hty, rfl, hnv⟩ | ⟨n2, a2, l2, c2, rfl⟩
        · obtain ⟨n2, a2, l2, c2, rfl, hp⟩ := hnv.parts
          clear hty hnv hp
          go_wp2_with fail
          have hk := (HK2.out.alloc (.cells #[.bool n2, .slice a2 l2 c2] 24))
          have HKK := hid hk
          have HG2 := hid (HG.out.keep hk (fun _ _ h => h))
          clear hk
          refine (bigAlive_true _ HG2.out).mono ?_
          rintro e w9 ⟨rfl, hk9⟩
          have HK9 := hid hk9
          clear hk9
          go_wp2_with fail
          go_ret
          exact ⟨rfl, HKK.out.trans HK9.out⟩
        · go_wp2_with fail
          have hk := (HK2.out.alloc (.cells #[.bool n2, .slice a2 l2 c2] 24))
          have HKK := hid hk
          have HG2 := hid (HG.out.keep hk (fun _ _ h => h))
          clear hk
          refine (bigAlive_true _ HG2.out).mono ?_
          rintro e w9 ⟨rfl, hk9⟩
          have HK9 := hid hk9
          clear hk9
          go_wp2_with fail
          go_ret
          exact ⟨rfl, HKK.out.trans HK9.out⟩
    · go_enter Tryz.func9, Tryz.ntmps9
      go_wp2_with fail
      go_ret
      exact ⟨rfl, Keeps.refl _ _⟩
  · go_enter Tryz.func9, Tryz.ntmps9
    go_wp2_with fail
    go_ret
    exact ⟨rfl, Keeps.refl _ _⟩
end Go.Proofs
