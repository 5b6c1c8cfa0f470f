/- Parts of the proofs over the numbers of any length: Law7. -/
import Derived.Deep.RegionHeld3
import Derived.Test.YtacbllkmcldniaaGreatDoorInvA
import Derived.Test.YtacbllkmcldniaaGreatDoorInvS
import Derived.Test.YtacbllkmcldniaaGreatDoorDivdA
import Derived.Test.YtacbllkmcldniaaGreatDoorSpecD
import Derived.Test.YtacbllkmcldniaaGreatDoorSpecB
import Derived.Test.YtacbllkmcldniaaGreatDoorOneD
import Derived.Test.YtacbllkmcldniaaGreatDoorBaseD
import Derived.Test.YtacbllkmcldniaaGreatDoorSpecC
set_option linter.unusedSimpArgs false
set_option linter.unusedVariables false
namespace Go.Proofs
open Go.RowKit
set_option maxHeartbeats 4000000
set_option linter.unusedVariables false
set_option linter.unusedSimpArgs false
set_option maxRecDepth 100000

theorem txt_one : strB (txt (decide ((1 : Int) < 0)) (1 : Int).natAbs) = { data := #[49] } := by
  have h : nd 1 = 1 := by rw [nd]; simp
  have e : decs 1 = [49] := by unfold decs; rw [h]; rfl
  show strB (txt false 1) = _
  simp only [txt, Bool.false_eq_true, if_false, e]
  rfl
theorem txt_not_one {N : Nat} (h : N ≠ 1) : strB (txt (decide ((N : Int) < 0)) (N : Int).natAbs) ≠ { data := #[49] } := by
  intro he
  apply h
  rw [decide_eq_false (by omega), Int.natAbs_natCast] at he
  have ht : txt false N = lowDigs N (nd N) := by simp [txt, decs]
  have hs : (strB (txt false N)).size = nd N := by rw [strB_size, ht, lowDigs_length]
  rw [he] at hs
  have h1 : nd N = 1 := hs.symm
  have h2 := strB_at (txt false N) 0 (by rw [ht, lowDigs_length, h1]; omega) (by rw [ht, lowDigs_at N _ 0 (by omega)]; omega)
  rw [he, ht, lowDigs_at N _ 0 (by omega), h1] at h2
  have h3 := nd_lt N
  rw [h1] at h3
  simp at h2
  omega
theorem list_not_one {s : ByteArray} (h : s ≠ { data := #[49] }) : (s.toList == [49]) = false := by
  rw [beq_eq_false_iff_ne]
  intro he
  apply h
  cases s with
  | mk d =>
    rw [ByteArray.toList_eq] at he
    have hd : d = #[49] := Array.ext' he
    rw [hd]
theorem law7 (a b : ByteArray) (w : World) (G : Glob w) (hma : a.size ≤ 9223372036854775807) (hmb : b.size ≤ 9223372036854775807) :
    Calls Tryz.prog 7 #[.string a, .string b] w fun e w' => e = .returned (.bool true) ∧ Keeps (fun _ => False) w w' := by
  have HG := hid G
  clear G
  by_cases ha : a.size ≤ 2147483647
  · by_cases hb : b.size ≤ 2147483647
    · have H1 := hid (bigRight_any a w ha)
      have H2 := hid (fun W => bigRight_any b W hb)
      go_enter Tryz.func7, Tryz.ntmps7
      go_wp2_with fail
      refine H1.out.mono ?_
      rintro e w1 ⟨hk1, hcase⟩
      have HK1 := hid hk1
      clear hk1 H1
      rcases hcase with ⟨x, v, htx, rfl, hnv⟩ | ⟨n1, a1, l1, c1, rfl⟩
      · have HTX := hid htx
        obtain ⟨n1, a1, l1, c1, rfl, hp⟩ := hnv.parts
        have HP := hid hp
        clear htx hnv hp
        go_wp2_with fail
        obtain ⟨W1, hW1⟩ : ∃ W, W = w1.alloc (.cells #[.bool n1, .slice a1 l1 c1] 24) := ⟨_, rfl⟩
        obtain ⟨p1, hp1⟩ : ∃ p, p = w1.heap.size := ⟨_, rfl⟩
        have HB1 : Hid (NumB W1 p1 n1 a1 l1 c1 x) := hid (by rw [hW1, hp1]; exact NumB.new HP.out)
        have HKW : Hid (Keeps (fun _ => False) w W1) := hid (by rw [hW1]; exact HK1.out.alloc _)
        rw [← hW1, ← hp1]
        clear hW1 hp1 HP
        refine (H2.out _).mono ?_
        rintro e w2 ⟨hk2, hcase⟩
        have HK2 := hid hk2
        clear hk2 H2
        rcases hcase with ⟨y, v, hty, rfl, hnv⟩ | ⟨n2, a2, l2, c2, rfl⟩
        · have HTY := hid hty
          obtain ⟨n2, a2, l2, c2, rfl, hp⟩ := hnv.parts
          have HP2 := hid hp
          clear hty hnv hp
          go_upto_region 5 with fail
          obtain ⟨W2, hW2⟩ : ∃ W, W = w2.alloc (.cells #[.bool n2, .slice a2 l2 c2] 24) := ⟨_, rfl⟩
          obtain ⟨p2, hp2⟩ : ∃ p, p = w2.heap.size := ⟨_, rfl⟩
          have HB2 : Hid (NumB W2 p2 n2 a2 l2 c2 y) := hid (by rw [hW2, hp2]; exact NumB.new HP2.out)
          have hk : Keeps (fun _ => False) W1 W2 := by rw [hW2]; exact HK2.out.alloc _
          have HKW2 := hid (HKW.out.trans hk)
          have HB12 := hid (HB1.out.keep hk)
          have HGW := hid (HG.out.keep (HKW.out.trans hk) (fun _ _ h => h))
          have HAl := hid (fun W (hk : Keeps (fun _ => False) W2 W) => bigAlive_true W (HGW.out.keep hk (fun _ _ h => h)))
          have HXL := hid (Txt.lt HTX.out); have HYL := hid (Txt.lt HTY.out)
          have HC1 := hid (fun W (hk : Keeps (fun _ => False) W2 W) => (HB12.out.keep hk).cells)
          have HC2 := hid (fun W (hk : Keeps (fun _ => False) W2 W) => (HB2.out.keep hk).cells)
          rw [← hW2, ← hp2]
          clear hW2 hp2 HP2 hk HK1 HK2 HB1 HKW
          have HO := hid (fun W => of33 2 W (by omega) (by omega))
          obtain ⟨c, hc⟩ : ∃ c, c = cmpZ y 2 := ⟨_, rfl⟩
          have HCM : Hid (∀ W vy b, NumV W b vy 2 → Keeps (fun _ => False) W2 W → Calls Tryz.prog 30 #[.agg #[.bool n2, .slice a2 l2 c2], vy] W fun e w' => e = .returned (.int .i64 c) ∧ Keeps (fun _ => False) W w') := hid (fun W vy b h1 hk => by
            rw [hc]
            exact cmp30_z _ _ y 2 0 b W (HB2.out.keep hk).v h1 (Nat.le_trans (digs_len HYL.out) (by omega)) (Nat.le_trans (digs_len (k := 2) (by decide)) (by omega)))
          have HD0 : Hid (Keeps (fun _ => False) W2 W2.drew) := hid (Keeps.refl _ W2).drew
          have hct : (c < 0) ↔ y < 2 := by rw [hc]; unfold cmpZ; (repeat' split) <;> omega
          obtain ⟨b2, b3⟩ := HC2.out W2 (Keeps.refl _ _)
          have HCT := hid hct
          clear hc hct
          go_cut [44] from 33 to 45 (fun v wx => v = .bool (decide (c < 0)) ∧ Keeps (fun _ => False) W2 wx)
          case first =>
            go_region_law (first
              | (go_simp; go_at_call 33; (with_reducible refine (HO.out _).mono ?_); rintro e w5 ⟨v, rfl, hv, hk⟩; obtain ⟨n5, a5, l5, c5, rfl⟩ := hv.agg; have HV5 := hid hv; have K5 := hid (HD0.out.trans hk); obtain ⟨b2, b3⟩ := HC2.out _ K5.out; clear hv hk)
              | (go_simp; go_at_call 30; (with_reducible refine (HCM.out w5 _ _ HV5.out K5.out).mono ?_); rintro e w6 ⟨rfl, hk⟩; have K6 := hid (K5.out.trans hk); clear hk))
            all_goals
              go_wp2_with fail
              go_meet
            all_goals exact ⟨rfl, K6.out⟩
          case rest =>
            obtain ⟨rfl, hk⟩ := hcut
            have HK5 := hid hk
            clear hk b2 b3 HO HCM HD0
            by_cases hy2 : y < 2
            · rw [decide_eq_true (HCT.out.mpr hy2)]
              clear hy2
              go_wp2_with fail
              refine (HAl.out _ HK5.out).mono ?_
              rintro e w9 ⟨rfl, hk9⟩
              have HK9 := hid (HK5.out.trans hk9)
              clear hk9
              go_wp2_with fail
              go_ret
              exact ⟨rfl, HKW2.out.trans HK9.out⟩
            · rw [decide_eq_false (fun h => hy2 (HCT.out.mp h))]
              have HY2 := hid (show 2 ≤ y by omega)
              have HGC : Hid (∀ W, Keeps (fun _ => False) W2 W → Calls Tryz.prog 26 #[.agg #[.bool n1, .slice a1 l1 c1], .agg #[.bool n2, .slice a2 l2 c2]] W fun e w' => ∃ v, e = .returned v ∧ NumV w' 0 v (Int.gcd x y : Int) ∧ Keeps (fun _ => False) W w') := hid (fun W hk => gcd26 _ _ x y 0 0 W (HB12.out.keep hk).v (HB2.out.keep hk).v HXL.out HYL.out)
              obtain ⟨gT, hgT⟩ : ∃ T, T = strB (txt (decide ((Int.gcd x y : Int) < 0)) (Int.gcd x y : Int).natAbs) := ⟨_, rfl⟩
              have HTG : Hid (∀ W v, NumV W 0 v (Int.gcd x y : Int) → Calls Tryz.prog 22 #[v] W fun e w' => e = .returned (.string gT) ∧ Keeps (fun _ => False) W w') := hid (fun W v h => by
                rw [hgT]
                refine text22 v _ 0 W h (Nat.le_trans (digs_len (k := 200) ?_) (by omega))
                have h1 : Int.gcd x y ≤ y.natAbs := Nat.le_of_dvd (by have := HY2.out; omega) (Nat.gcd_dvd_right _ _)
                rw [Int.natAbs_natCast]
                exact Nat.lt_of_le_of_lt h1 HYL.out)
              clear hy2
              by_cases hg : Int.gcd x y = 1
              · rw [hg, show ((1 : Nat) : Int) = 1 from rfl, txt_one] at hgT
                subst hgT
                obtain ⟨z, hz0, hz1, hz2⟩ := inv_exists HY2.out hg
                obtain ⟨T, hT⟩ : ∃ T, T = strB (txt (decide (z < 0)) z.natAbs) := ⟨_, rfl⟩
                have HBo : Hid (∀ W, Keeps (fun _ => False) W2 W → Calls Tryz.prog 34 #[.string a, .string b] W fun e w' => e = .returned (.tuple #[.string T, .bool true]) ∧ Keeps (fun _ => False) W w') := hid (fun W hk => by
                  obtain ⟨na, la, da, hta, hx, _⟩ := HTX.out
                  obtain ⟨nb, lb, db, htb, hy, _⟩ := HTY.out
                  exact bigInverse34 T a b na nb da db la lb x y W hta htb hx hy (HGW.out.keep hk (fun _ _ h => h)) HXL.out HYL.out HY2.out ⟨z, hz0, hz1, hz2, hT⟩)
                have hzl : z.natAbs < 10 ^ 200 := by have := HYL.out; omega
                have hTs : T.size ≤ 2147483647 := by rw [hT]; have := txt_size (z := z) hzl (by omega); omega
                have HRd : Hid (∀ W, Calls Tryz.prog 25 #[.string T] W fun e w' => ∃ v, e = .returned (.tuple #[v, .bool true]) ∧ NumV w' W.heap.size v z ∧ Keeps (fun _ => False) W w') := hid (fun W => read25_txt z T W hT hTs)
                have HZ := hid (show 0 ≤ z ∧ z < y ∧ x * z % y = 1 ∧ z.natAbs < 10 ^ 200 from ⟨hz0, hz1, hz2, hzl⟩)
                clear hz0 hz1 hz2 hT hzl hTs hg
                go_wp2_with fail
                refine (HBo.out _ HK5.out).mono ?_
                rintro e w6 ⟨rfl, hk⟩
                have HK6 := hid (HK5.out.trans hk)
                clear hk HBo
                obtain ⟨b0, b1⟩ := HC1.out w6 HK6.out
                obtain ⟨b2, b3⟩ := HC2.out w6 HK6.out
                go_wp2_with fail
                refine (HGC.out _ HK6.out).mono ?_
                rintro e w7 ⟨v, rfl, hv, hk⟩
                have HV := hid hv; have HK7 := hid (HK6.out.trans hk)
                clear hv hk b0 b1 b2 b3 HGC
                go_wp2_with fail
                refine (HTG.out _ _ HV.out).mono ?_
                rintro e w8 ⟨rfl, hk⟩
                have HK8 := hid (HK7.out.trans hk)
                clear hk HTG
                go_wp2_with fail
                refine (HRd.out _).mono ?_
                rintro e w3 ⟨v, rfl, hnv, hk⟩
                obtain ⟨n3, a3, l3, c3, rfl, hp⟩ := hnv.parts
                have HP := hid hp; have HK3 := hid (HK8.out.trans hk)
                clear hnv hp hk HRd
                go_upto_region 13 with fail
                obtain ⟨W4, hW4⟩ : ∃ W, W = w3.alloc (.cells #[.bool n3, .slice a3 l3 c3] 24) := ⟨_, rfl⟩
                obtain ⟨p3, hp3⟩ : ∃ p, p = w3.heap.size := ⟨_, rfl⟩
                have hB3 : NumB W4 p3 n3 a3 l3 c3 z := by rw [hW4, hp3]; exact NumB.new HP.out
                have hk4 : Keeps (fun _ => False) W2 W4 := by rw [hW4]; exact HK3.out.alloc _
                have HB3 := hid hB3; have HK4 := hid hk4
                rw [← hW4, ← hp3]
                clear hW4 hp3 hB3 hk4 HP HK3
                have HC3 := hid (fun W (hk : Keeps (fun _ => False) W4 W) => (HB3.out.keep hk).cells)
                obtain ⟨d0, d1⟩ := HC3.out W4 (Keeps.refl _ _)
                have HS := hid (fun W (hk : Keeps (fun _ => False) W4 W) => sign35 _ z 0 W (HB3.out.keep hk).v)
                obtain ⟨sz, hsz⟩ : ∃ s, s = sgn z := ⟨_, rfl⟩
                obtain ⟨cz, hcz⟩ : ∃ s, s = cmpZ z y := ⟨_, rfl⟩
                have HCZ := hid (fun W (hk : Keeps (fun _ => False) W4 W) => cmp30_z _ _ z y 0 0 W (HB3.out.keep hk).v (HB2.out.keep (HK4.out.trans hk)).v (Nat.le_trans (digs_len HZ.out.2.2.2) (by omega)) (Nat.le_trans (digs_len HYL.out) (by omega)))
                rw [← hsz] at HS
                rw [← hcz] at HCZ
                have t1 : decide (sz < 0) = false := by rw [hsz]; unfold sgn; have := HZ.out.1; simp; (repeat' split) <;> omega
                have t2 : decide (0 ≤ cz) = false := by rw [hcz]; unfold cmpZ; have := HZ.out.2.1; simp; (repeat' split) <;> omega
                clear hsz hcz
                go_wp2_with fail
                refine (HS.out _ (Keeps.refl _ _)).mono ?_
                rintro e w5 ⟨rfl, hk⟩
                have HK5b := hid hk
                clear d0 d1 hk
                obtain ⟨d0, d1⟩ := HC3.out w5 HK5b.out
                obtain ⟨b2, b3⟩ := HC2.out w5 (HK4.out.trans HK5b.out)
                go_wp2_with fail
                refine (HCZ.out _ HK5b.out).mono ?_
                rintro e w10 ⟨rfl, hk⟩
                have HK10 := hid (HK5b.out.trans hk)
                clear d0 d1 b2 b3 hk HS HCZ
                obtain ⟨W5, hW5⟩ : ∃ W : World, W = w10 := ⟨_, rfl⟩
                subst hW5
                have hk24 : Keeps (fun _ => False) W2 W5 := HK4.out.trans HK10.out
                have HK25 := hid hk24
                have HB15 := hid (HB12.out.keep hk24); have HB25 := hid (HB2.out.keep hk24); have HB35 := hid (HB3.out.keep HK10.out)
                clear hk24
                have HO2 : Hid (∀ W, Keeps (fun _ => False) W5 W → Calls Tryz.prog 27 #[.agg #[.bool n1, .slice a1 l1 c1], .agg #[.bool n3, .slice a3 l3 c3]] W (NRes W (x * z))) := hid (fun W hk => mul27 _ _ x z 0 0 W (HB15.out.keep hk).v (HB35.out.keep hk).v (Nat.le_trans (digs_len HXL.out) (by omega)) (Nat.le_trans (digs_len HZ.out.2.2.2) (by omega)))
                have HQR : Hid (∀ W vy b, NumV W b vy (x * z) → Keeps (fun _ => False) W5 W → Calls Tryz.prog 36 #[vy, .agg #[.bool n2, .slice a2 l2 c2]] W fun e w' => ∃ v1 v2, e = .returned (.tuple #[v1, v2]) ∧ NumV w' W.heap.size v1 (dmQ (x * z) y) ∧ NumV w' W.heap.size v2 1 ∧ Keeps (fun _ => False) W w') := hid (fun W vy b h1 hk => by
                  have hdl : (digs (x * z).natAbs).length ≤ 40000 := by
                    obtain ⟨k, hk⟩ : ∃ k, k = 200 := ⟨_, rfl⟩
                    have h1 := HXL.out
                    have h2 := HZ.out.2.2.2
                    rw [← hk] at h1 h2
                    refine Nat.le_trans (digs_len (k := k + k) ?_) (by omega)
                    rw [Int.natAbs_mul, Nat.pow_add]
                    exact Nat.mul_lt_mul'' h1 h2
                  refine (divided36 vy _ (x * z) y b 0 W h1 (HB25.out.keep hk).v (by have := HY2.out; omega) hdl (Nat.le_trans (digs_len HYL.out) (by omega))).mono ?_
                  rintro e w' ⟨v1, v2, he, g1, g2, g3⟩
                  rw [(dm_pos (show 0 < y by have := HY2.out; omega)).2, HZ.out.2.2.1] at g2
                  exact ⟨v1, v2, he, g1, g2, g3⟩)
                have HS9 : Hid (∀ w', Keeps (fun _ => False) W5 w' → (w'.cell? ⟨p1, 0, none⟩ = some (.bool n1) ∧ w'.cell? ⟨p1, 1, none⟩ = some (.slice a1 l1 c1)) ∧ (w'.cell? ⟨p3, 0, none⟩ = some (.bool n3) ∧ w'.cell? ⟨p3, 1, none⟩ = some (.slice a3 l3 c3)) ∧ (w'.cell? ⟨p2, 0, none⟩ = some (.bool n2) ∧ w'.cell? ⟨p2, 1, none⟩ = some (.slice a2 l2 c2))) := hid (fun w' hk => ⟨(HB15.out.keep hk).cells, (HB35.out.keep hk).cells, (HB25.out.keep hk).cells⟩)
                go_upto_region 15 with fail
                go_cut [13, 14] from 80 to 88 (fun u v wx => TwoC W5 0 (dmQ (x * z) y) 1 u v wx)
                case first =>
                  go_region_held3 (fun w' => (w'.cell? ⟨p1, 0, none⟩ = some (.bool n1) ∧ w'.cell? ⟨p1, 1, none⟩ = some (.slice a1 l1 c1)) ∧ (w'.cell? ⟨p3, 0, none⟩ = some (.bool n3) ∧ w'.cell? ⟨p3, 1, none⟩ = some (.slice a3 l3 c3)) ∧ (w'.cell? ⟨p2, 0, none⟩ = some (.bool n2) ∧ w'.cell? ⟨p2, 1, none⟩ = some (.slice a2 l2 c2)))
                    (((refine HS9.out _ ?_); repeat (first | (with_reducible exact K6.out) | (with_reducible exact K5.out) | (with_reducible exact Keeps.refl _ _) | (with_reducible refine Keeps.drew ?_) | (with_reducible refine Keeps.new ?_ _) | (refine Keeps.setCell ?_ _ (.inr (by dsimp only; omega)) _))))
                    (first
                      | (go_at_call 27; (with_reducible refine (HO2.out (W5.drew) (show Keeps (fun _ => False) W5 (W5.drew) from (Keeps.refl (fun _ => False) W5).drew)).mono ?_); rintro e w5 ⟨v, rfl, hv, hk⟩; obtain ⟨n5, a5, l5, c5, rfl⟩ := hv.agg; have HV5 := hid hv; have k5 := (show Keeps (fun _ => False) W5 (W5.drew) from (Keeps.refl (fun _ => False) W5).drew); have K5 := hid (k5.trans hk); have tok0 : True := trivial; have z5 := K5.out.size; clear hv hk k5)
                      | (go_at_call 27; (with_reducible refine (HO2.out ((W5.alloc (.cells #[.bool false, .slice none 0 0] 24)).drew) (show Keeps (fun _ => False) W5 ((W5.alloc (.cells #[.bool false, .slice none 0 0] 24)).drew) from ((Keeps.refl (fun _ => False) W5).alloc _).drew)).mono ?_); rintro e w5 ⟨v, rfl, hv, hk⟩; obtain ⟨n5, a5, l5, c5, rfl⟩ := hv.agg; have HV5 := hid hv; have k5 := (show Keeps (fun _ => False) W5 ((W5.alloc (.cells #[.bool false, .slice none 0 0] 24)).drew) from ((Keeps.refl (fun _ => False) W5).alloc _).drew); have K5 := hid (k5.trans hk); have FR0 := hid ((show Fr ((W5.alloc (.cells #[.bool false, .slice none 0 0] 24)).drew) W5.heap.size from (Fr.new W5)).keep hk); have tok1 : True := trivial; have z5 := K5.out.size; clear hv hk k5)
                      | (go_at_call 27; (with_reducible refine (HO2.out (((W5.alloc (.cells #[.bool false, .slice none 0 0] 24)).alloc (.cells #[.bool false, .slice none 0 0] 24)).drew) (show Keeps (fun _ => False) W5 (((W5.alloc (.cells #[.bool false, .slice none 0 0] 24)).alloc (.cells #[.bool false, .slice none 0 0] 24)).drew) from (((Keeps.refl (fun _ => False) W5).alloc _).alloc _).drew)).mono ?_); rintro e w5 ⟨v, rfl, hv, hk⟩; obtain ⟨n5, a5, l5, c5, rfl⟩ := hv.agg; have HV5 := hid hv; have k5 := (show Keeps (fun _ => False) W5 (((W5.alloc (.cells #[.bool false, .slice none 0 0] 24)).alloc (.cells #[.bool false, .slice none 0 0] 24)).drew) from (((Keeps.refl (fun _ => False) W5).alloc _).alloc _).drew); have K5 := hid (k5.trans hk); have FR0 := hid ((show Fr (((W5.alloc (.cells #[.bool false, .slice none 0 0] 24)).alloc (.cells #[.bool false, .slice none 0 0] 24)).drew) W5.heap.size from (Fr.new2 W5).1).keep hk); have FR1 := hid ((show Fr (((W5.alloc (.cells #[.bool false, .slice none 0 0] 24)).alloc (.cells #[.bool false, .slice none 0 0] 24)).drew) (W5.heap.size + 1) from (Fr.new2 W5).2).keep hk); have tok2 : True := trivial; have z5 := K5.out.size; clear hv hk k5)
                      | (go_at_call 36; have _t := tok0; (with_reducible refine (HQR.out w5 _ _ (HV5.out.keep (show Keeps (fun _ => False) w5 w5 from (Keeps.refl (fun _ => False) w5)) (fun _ _ h => h)) (K5.out.trans (show Keeps (fun _ => False) w5 w5 from (Keeps.refl (fun _ => False) w5)))).mono ?_); rintro e w6 ⟨v1, v2, rfl, hv1, hv2, hk⟩; obtain ⟨n6, a6, l6, c6, rfl⟩ := hv1.agg; obtain ⟨n7, a7, l7, c7, rfl⟩ := hv2.agg; have k56 := (show Keeps (fun _ => False) w5 w5 from (Keeps.refl (fun _ => False) w5)).trans hk; have z6 := k56.size; have HV6 := hid (hv1.lower (Nat.zero_le _)); have HV7 := hid (hv2.lower (Nat.zero_le _)); have K6 := hid (K5.out.trans k56); clear hv1 hv2 hk k56)
                      | (go_at_call 36; have _t := tok0; (with_reducible refine (HQR.out (w5.alloc (.cells #[.bool false, .slice none 0 0] 24)) _ _ (HV5.out.keep (show Keeps (fun _ => False) w5 (w5.alloc (.cells #[.bool false, .slice none 0 0] 24)) from ((Keeps.refl (fun _ => False) w5).alloc _)) (fun _ _ h => h)) (K5.out.trans (show Keeps (fun _ => False) w5 (w5.alloc (.cells #[.bool false, .slice none 0 0] 24)) from ((Keeps.refl (fun _ => False) w5).alloc _)))).mono ?_); rintro e w6 ⟨v1, v2, rfl, hv1, hv2, hk⟩; obtain ⟨n6, a6, l6, c6, rfl⟩ := hv1.agg; obtain ⟨n7, a7, l7, c7, rfl⟩ := hv2.agg; have k56 := (show Keeps (fun _ => False) w5 (w5.alloc (.cells #[.bool false, .slice none 0 0] 24)) from ((Keeps.refl (fun _ => False) w5).alloc _)).trans hk; have z6 := k56.size; have HV6 := hid (hv1.lower (Nat.zero_le _)); have HV7 := hid (hv2.lower (Nat.zero_le _)); have K6 := hid (K5.out.trans k56); have g0 := ((Fr.new w5).keep hk); obtain ⟨x00, x01, x02, x03⟩ := g0.facts; have y00 := fun o => (Fr.facts (RowAt.alloc g0 o)).1; have y01 := fun o => (Fr.facts (RowAt.alloc g0 o)).2.1; have y02 := fun o => (Fr.facts (RowAt.alloc g0 o)).2.2.1; have y03 := fun o => (Fr.facts (RowAt.alloc g0 o)).2.2.2; have lt0 := RowAt.lt g0; have ne0 := Nat.ne_of_lt lt0; have nf0 := Ne.symm ne0; have G0 := hid g0; clear g0; clear hv1 hv2 hk k56)
                      | (go_at_call 36; have _t := tok0; (with_reducible refine (HQR.out ((w5.alloc (.cells #[.bool false, .slice none 0 0] 24)).alloc (.cells #[.bool false, .slice none 0 0] 24)) _ _ (HV5.out.keep (show Keeps (fun _ => False) w5 ((w5.alloc (.cells #[.bool false, .slice none 0 0] 24)).alloc (.cells #[.bool false, .slice none 0 0] 24)) from (((Keeps.refl (fun _ => False) w5).alloc _).alloc _)) (fun _ _ h => h)) (K5.out.trans (show Keeps (fun _ => False) w5 ((w5.alloc (.cells #[.bool false, .slice none 0 0] 24)).alloc (.cells #[.bool false, .slice none 0 0] 24)) from (((Keeps.refl (fun _ => False) w5).alloc _).alloc _)))).mono ?_); rintro e w6 ⟨v1, v2, rfl, hv1, hv2, hk⟩; obtain ⟨n6, a6, l6, c6, rfl⟩ := hv1.agg; obtain ⟨n7, a7, l7, c7, rfl⟩ := hv2.agg; have k56 := (show Keeps (fun _ => False) w5 ((w5.alloc (.cells #[.bool false, .slice none 0 0] 24)).alloc (.cells #[.bool false, .slice none 0 0] 24)) from (((Keeps.refl (fun _ => False) w5).alloc _).alloc _)).trans hk; have z6 := k56.size; have HV6 := hid (hv1.lower (Nat.zero_le _)); have HV7 := hid (hv2.lower (Nat.zero_le _)); have K6 := hid (K5.out.trans k56); have g0 := ((Fr.new2 w5).1.keep hk); obtain ⟨x00, x01, x02, x03⟩ := g0.facts; have y00 := fun o => (Fr.facts (RowAt.alloc g0 o)).1; have y01 := fun o => (Fr.facts (RowAt.alloc g0 o)).2.1; have y02 := fun o => (Fr.facts (RowAt.alloc g0 o)).2.2.1; have y03 := fun o => (Fr.facts (RowAt.alloc g0 o)).2.2.2; have lt0 := RowAt.lt g0; have ne0 := Nat.ne_of_lt lt0; have nf0 := Ne.symm ne0; have G0 := hid g0; clear g0; have g1 := ((Fr.new2 w5).2.keep hk); obtain ⟨x10, x11, x12, x13⟩ := g1.facts; have y10 := fun o => (Fr.facts (RowAt.alloc g1 o)).1; have y11 := fun o => (Fr.facts (RowAt.alloc g1 o)).2.1; have y12 := fun o => (Fr.facts (RowAt.alloc g1 o)).2.2.1; have y13 := fun o => (Fr.facts (RowAt.alloc g1 o)).2.2.2; have lt1 := RowAt.lt g1; have ne1 := Nat.ne_of_lt lt1; have nf1 := Ne.symm ne1; have G1 := hid g1; clear g1; clear hv1 hv2 hk k56)
                      | (go_at_call 36; have _t := tok1; (with_reducible refine (HQR.out w5 _ _ (HV5.out.keep (show Keeps (fun _ => False) w5 w5 from (Keeps.refl (fun _ => False) w5)) (fun _ _ h => h)) (K5.out.trans (show Keeps (fun _ => False) w5 w5 from (Keeps.refl (fun _ => False) w5)))).mono ?_); rintro e w6 ⟨v1, v2, rfl, hv1, hv2, hk⟩; obtain ⟨n6, a6, l6, c6, rfl⟩ := hv1.agg; obtain ⟨n7, a7, l7, c7, rfl⟩ := hv2.agg; have k56 := (show Keeps (fun _ => False) w5 w5 from (Keeps.refl (fun _ => False) w5)).trans hk; have z6 := k56.size; have HV6 := hid (hv1.lower (Nat.zero_le _)); have HV7 := hid (hv2.lower (Nat.zero_le _)); have K6 := hid (K5.out.trans k56); have ne45 := Nat.ne_of_lt (RowAt.lt FR0.out); have nf45 := Ne.symm ne45; have g0 := (FR0.out.keep k56); obtain ⟨x00, x01, x02, x03⟩ := g0.facts; have y00 := fun o => (Fr.facts (RowAt.alloc g0 o)).1; have y01 := fun o => (Fr.facts (RowAt.alloc g0 o)).2.1; have y02 := fun o => (Fr.facts (RowAt.alloc g0 o)).2.2.1; have y03 := fun o => (Fr.facts (RowAt.alloc g0 o)).2.2.2; have lt0 := RowAt.lt g0; have ne0 := Nat.ne_of_lt lt0; have nf0 := Ne.symm ne0; have G0 := hid g0; clear g0; clear hv1 hv2 hk k56)
                      | (go_at_call 36; have _t := tok1; (with_reducible refine (HQR.out (w5.alloc (.cells #[.bool false, .slice none 0 0] 24)) _ _ (HV5.out.keep (show Keeps (fun _ => False) w5 (w5.alloc (.cells #[.bool false, .slice none 0 0] 24)) from ((Keeps.refl (fun _ => False) w5).alloc _)) (fun _ _ h => h)) (K5.out.trans (show Keeps (fun _ => False) w5 (w5.alloc (.cells #[.bool false, .slice none 0 0] 24)) from ((Keeps.refl (fun _ => False) w5).alloc _)))).mono ?_); rintro e w6 ⟨v1, v2, rfl, hv1, hv2, hk⟩; obtain ⟨n6, a6, l6, c6, rfl⟩ := hv1.agg; obtain ⟨n7, a7, l7, c7, rfl⟩ := hv2.agg; have k56 := (show Keeps (fun _ => False) w5 (w5.alloc (.cells #[.bool false, .slice none 0 0] 24)) from ((Keeps.refl (fun _ => False) w5).alloc _)).trans hk; have z6 := k56.size; have HV6 := hid (hv1.lower (Nat.zero_le _)); have HV7 := hid (hv2.lower (Nat.zero_le _)); have K6 := hid (K5.out.trans k56); have ne45 := Nat.ne_of_lt (RowAt.lt FR0.out); have nf45 := Ne.symm ne45; have g0 := (FR0.out.keep k56); obtain ⟨x00, x01, x02, x03⟩ := g0.facts; have y00 := fun o => (Fr.facts (RowAt.alloc g0 o)).1; have y01 := fun o => (Fr.facts (RowAt.alloc g0 o)).2.1; have y02 := fun o => (Fr.facts (RowAt.alloc g0 o)).2.2.1; have y03 := fun o => (Fr.facts (RowAt.alloc g0 o)).2.2.2; have lt0 := RowAt.lt g0; have ne0 := Nat.ne_of_lt lt0; have nf0 := Ne.symm ne0; have G0 := hid g0; clear g0; have g1 := ((Fr.new w5).keep hk); obtain ⟨x10, x11, x12, x13⟩ := g1.facts; have y10 := fun o => (Fr.facts (RowAt.alloc g1 o)).1; have y11 := fun o => (Fr.facts (RowAt.alloc g1 o)).2.1; have y12 := fun o => (Fr.facts (RowAt.alloc g1 o)).2.2.1; have y13 := fun o => (Fr.facts (RowAt.alloc g1 o)).2.2.2; have lt1 := RowAt.lt g1; have ne1 := Nat.ne_of_lt lt1; have nf1 := Ne.symm ne1; have G1 := hid g1; clear g1; clear hv1 hv2 hk k56)
                      | (go_at_call 36; have _t := tok2; (with_reducible refine (HQR.out w5 _ _ (HV5.out.keep (show Keeps (fun _ => False) w5 w5 from (Keeps.refl (fun _ => False) w5)) (fun _ _ h => h)) (K5.out.trans (show Keeps (fun _ => False) w5 w5 from (Keeps.refl (fun _ => False) w5)))).mono ?_); rintro e w6 ⟨v1, v2, rfl, hv1, hv2, hk⟩; obtain ⟨n6, a6, l6, c6, rfl⟩ := hv1.agg; obtain ⟨n7, a7, l7, c7, rfl⟩ := hv2.agg; have k56 := (show Keeps (fun _ => False) w5 w5 from (Keeps.refl (fun _ => False) w5)).trans hk; have z6 := k56.size; have HV6 := hid (hv1.lower (Nat.zero_le _)); have HV7 := hid (hv2.lower (Nat.zero_le _)); have K6 := hid (K5.out.trans k56); have ne45 := Nat.ne_of_lt (RowAt.lt FR0.out); have nf45 := Ne.symm ne45; have g0 := (FR0.out.keep k56); obtain ⟨x00, x01, x02, x03⟩ := g0.facts; have y00 := fun o => (Fr.facts (RowAt.alloc g0 o)).1; have y01 := fun o => (Fr.facts (RowAt.alloc g0 o)).2.1; have y02 := fun o => (Fr.facts (RowAt.alloc g0 o)).2.2.1; have y03 := fun o => (Fr.facts (RowAt.alloc g0 o)).2.2.2; have lt0 := RowAt.lt g0; have ne0 := Nat.ne_of_lt lt0; have nf0 := Ne.symm ne0; have G0 := hid g0; clear g0; have g1 := (FR1.out.keep k56); obtain ⟨x10, x11, x12, x13⟩ := g1.facts; have y10 := fun o => (Fr.facts (RowAt.alloc g1 o)).1; have y11 := fun o => (Fr.facts (RowAt.alloc g1 o)).2.1; have y12 := fun o => (Fr.facts (RowAt.alloc g1 o)).2.2.1; have y13 := fun o => (Fr.facts (RowAt.alloc g1 o)).2.2.2; have lt1 := RowAt.lt g1; have ne1 := Nat.ne_of_lt lt1; have nf1 := Ne.symm ne1; have G1 := hid g1; clear g1; clear hv1 hv2 hk k56))
                  all_goals
                    go_wp2_with fail
                    go_meet
                  all_goals first | (with_reducible exact two_D K6.out HV6.out HV7.out) | (with_reducible exact two_B K6.out HV6.out HV7.out (by omega) G0.out) | (with_reducible exact two_C K6.out HV6.out HV7.out (by omega) G0.out) | (with_reducible exact two_A K6.out HV6.out HV7.out (by omega) (by omega) G0.out G1.out (by omega)) | (with_reducible exact two_A K6.out HV6.out HV7.out (by omega) (by omega) G1.out G0.out (by omega)) | (refine TwoC.symm ?_; with_reducible exact two_D K6.out HV7.out HV6.out) | (refine TwoC.symm ?_; with_reducible exact two_B K6.out HV7.out HV6.out (by omega) G0.out) | (refine TwoC.symm ?_; with_reducible exact two_C K6.out HV7.out HV6.out (by omega) G0.out) | (refine TwoC.symm ?_; with_reducible exact two_A K6.out HV7.out HV6.out (by omega) (by omega) G0.out G1.out (by omega)) | (refine TwoC.symm ?_; with_reducible exact two_A K6.out HV7.out HV6.out (by omega) (by omega) G1.out G0.out (by omega))
                case rest =>
                  obtain ⟨P7, P, rfl, rfl, _, _, _, _, e8, hkz⟩ := hcut
                  have HE8 := hid e8; have HKz := hid hkz
                  have HKf := hid (HK25.out.trans hkz)
                  clear e8 hkz
                  go_wp2_with fail
                  refine (HAl.out _ HKf.out).mono ?_
                  rintro e w11 ⟨rfl, hk⟩
                  have HK11 := hid (HKf.out.trans hk)
                  obtain ⟨n9, a9, l9, c9, b4, b5, _, _, _, v9⟩ := (HE8.out.keep hk).facts
                  have HT9 := hid (text22 _ 1 0 w11 v9 (Nat.le_trans (digs_len (k := 2) (by decide)) (by omega)))
                  rw [txt_one] at HT9
                  clear hk v9
                  go_wp2_with fail
                  refine HT9.out.mono ?_
                  rintro e w12 ⟨rfl, hk⟩
                  have HK12 := hid (HK11.out.trans hk)
                  clear hk
                  go_wp2_with fail
                  go_ret
                  exact ⟨rfl, HKW2.out.trans HK12.out⟩
              · have hne := txt_not_one hg
                rw [← hgT] at hne
                have t1 : (gT.toList == [49]) = false := list_not_one hne
                have HBo : Hid (∀ W, Keeps (fun _ => False) W2 W → Calls Tryz.prog 34 #[.string a, .string b] W fun e w' => e = .returned (.tuple #[.string { data := #[] }, .bool false]) ∧ Keeps (fun _ => False) W w') := hid (fun W hk => by
                  obtain ⟨na, la, da, hta, hx, _⟩ := HTX.out
                  obtain ⟨nb, lb, db, htb, hy, _⟩ := HTY.out
                  exact bigInverse34_none a b na nb da db la lb x y W hta htb hx hy (HGW.out.keep hk (fun _ _ h => h)) HXL.out HYL.out HY2.out hg)
                clear hgT hg hne
                go_wp2_with fail
                refine (HBo.out _ HK5.out).mono ?_
                rintro e w6 ⟨rfl, hk⟩
                have HK6 := hid (HK5.out.trans hk)
                clear hk HBo
                obtain ⟨b0, b1⟩ := HC1.out w6 HK6.out
                obtain ⟨b2, b3⟩ := HC2.out w6 HK6.out
                go_wp2_with fail
                refine (HGC.out _ HK6.out).mono ?_
                rintro e w7 ⟨v, rfl, hv, hk⟩
                have HV := hid hv; have HK7 := hid (HK6.out.trans hk)
                clear hv hk b0 b1 b2 b3 HGC
                go_wp2_with fail
                refine (HTG.out _ _ HV.out).mono ?_
                rintro e w8 ⟨rfl, hk⟩
                have HK8 := hid (HK7.out.trans hk)
                clear hk HTG
                go_wp2_with fail
                refine (HAl.out _ HK8.out).mono ?_
                rintro e w9 ⟨rfl, hk9⟩
                have HK9 := hid (HK8.out.trans hk9)
                clear hk9
                go_wp2_with fail
                go_ret
                exact ⟨rfl, HKW2.out.trans HK9.out⟩
        · go_wp2_with fail
          go_quiet (fail)
          go_wp2_with fail
          have hk := ((HKW.out.trans HK2.out).alloc (.cells #[.bool n2, .slice a2 l2 c2] 24)).drewN nq
          have HKK := hid hk
          have HG2 := hid (HG.out.keep hk (fun _ _ h => h))
          clear hk
          refine (bigAlive_true _ HG2.out).mono ?_
          rintro e w9 ⟨rfl, hk9⟩
          have HK9 := hid hk9
          clear hk9
          go_wp2_with fail
          go_ret
          exact ⟨rfl, HKK.out.trans HK9.out⟩
      · go_wp2_with fail
        refine (H2.out _).mono ?_
        rintro e w2 ⟨hk2, hcase⟩
        have HK2 := hid ((HK1.out.alloc (.cells #[.bool n1, .slice a1 l1 c1] 24)).trans hk2)
        clear hk2 H2
        rcases hcase with ⟨y, v, hty, rfl, hnv⟩ | ⟨n2, a2, l2, c2, rfl⟩
        · obtain ⟨n2, a2, l2, c2, rfl, hp⟩ := hnv.parts
          clear hty hnv hp
          go_wp2_with fail
          go_quiet (fail)
          go_wp2_with fail
          have hk := (HK2.out.alloc (.cells #[.bool n2, .slice a2 l2 c2] 24)).drewN nq
          have HKK := hid hk
          have HG2 := hid (HG.out.keep hk (fun _ _ h => h))
          clear hk
          refine (bigAlive_true _ HG2.out).mono ?_
          rintro e w9 ⟨rfl, hk9⟩
          have HK9 := hid hk9
          clear hk9
          go_wp2_with fail
          go_ret
          exact ⟨rfl, HKK.out.trans HK9.out⟩
        · go_wp2_with fail
          go_quiet (fail)
          go_wp2_with fail
          have hk := (HK2.out.alloc (.cells #[.bool n2, .slice a2 l2 c2] 24)).drewN nq
          have HKK := hid hk
          have HG2 := hid (HG.out.keep hk (fun _ _ h => h))
          clear hk
          refine (bigAlive_true _ HG2.out).mono ?_
          rintro e w9 ⟨rfl, hk9⟩
          have HK9 := hid hk9
          clear hk9
          go_wp2_with fail
          go_ret
          exact ⟨rfl, HKK.out.trans HK9.out⟩
    · go_enter Tryz.func7, Tryz.ntmps7
      go_wp2_with fail
      go_ret
      exact ⟨rfl, Keeps.refl _ _⟩
  · go_enter Tryz.func7, Tryz.ntmps7
    go_wp2_with fail
    go_ret
    exact ⟨rfl, Keeps.refl _ _⟩
end Go.Proofs
