/- Parts of the proofs over the numbers of any length: Big52, FromBig, Law14. -/
import Derived.Deep.RegionHeld3
import Derived.Test.YtacbllkmcldniaaGreatDoorBytesB
import Derived.Test.YtacbllkmcldniaaGreatDoorBytesA
import Derived.Test.YtacbllkmcldniaaGreatDoorTellD
import Derived.Test.YtacbllkmcldniaaGreatDoorOneD
import Derived.Test.YtacbllkmcldniaaGreatDoorBaseD
import Derived.Test.YtacbllkmcldniaaGreatDoorSpecC
import Derived.Test.YtacbllkmcldniaaGreatDoorSpecD
import Derived.Test.YtacbllkmcldniaaGreatDoorSpecB
set_option linter.unusedSimpArgs false
set_option linter.unusedVariables false
namespace Go.Proofs
open Go.RowKit
set_option maxHeartbeats 4000000
set_option linter.unusedVariables false
set_option linter.unusedSimpArgs false
set_option maxRecDepth 100000

/-- A slice of one byte. -/
theorem one_byte (w : World) (r n : Nat) (hn : n ≤ w.heap.size) : BsV (w.alloc (.cells #[.int .u8 (r : Int)] 5)) n (.slice (some ⟨w.heap.size, 0, none⟩) 1 1) [r] 1 := by
  have h : Byt (w.alloc (.cells #[.int .u8 (r : Int)] 5)) w.heap.size [r] := RowAt.new w 5 [.int .u8 (r : Int)]
  exact BsV.of_byt (o := 0) h hn rfl (Nat.le_refl _) (by simp) (fun i hi => by rw [Nat.zero_add]) (fun _ => rfl)
/-- Bytes are none of a number's own cells. -/
theorem BsV.setOther {w : World} {n c p : Nat} {v x y : Value} {B : List Nat} {m : Bool} {u : Value} (h : BsV w n v B c) (hr : RowAt w p 24 [.bool m, u]) (hu : ∀ z : Int, u ≠ .int .u8 z) : BsV ((w.setCell ⟨p, 0, none⟩ x).setCell ⟨p, 1, none⟩ y) n v B c := by
  obtain ⟨a, e1, e2, e3⟩ := h
  refine ⟨a, e1, e2, fun h0 => ?_⟩
  obtain ⟨b, o, g1, g2, g3, g4⟩ := e3 h0
  have hne : b ≠ p := by
    rintro rfl
    have h5 := g4 0 h0
    have h6 := hr.cell (o + 0)
    rw [h5] at h6
    match o, h6 with
    | 0, h => simp [bv] at h
    | 1, h => simp [bv] at h; rw [← h] at hu; exact absurd rfl (hu _)
    | k + 2, h => simp at h
  have hk : Keeps (fun k => k = p) w ((w.setCell ⟨p, 0, none⟩ x).setCell ⟨p, 1, none⟩ y) := ((Keeps.refl (fun k => k = p) w).setCell ⟨p, 0, none⟩ (.inl rfl) x).setCell ⟨p, 1, none⟩ (.inl rfl) y
  refine ⟨b, o, g1, g2, Nat.lt_of_lt_of_le g3 hk.size, fun i hi => ?_⟩
  rw [cell_of_block (p := ⟨b, o + i, none⟩) (hk.block b g3 hne)]
  exact g4 i hi
def BigRel (w0 : World) (P N : Nat) (ov : Value) (wr : World) : Prop :=
  ∃ (k : Nat) (a : Option Addr) (l c : Nat), ov = .slice a l c ∧ l = (beL N k).length ∧ BsV wr w0.heap.size (.slice a l c) (beL N k) c ∧ NumE wr 0 P ((N / 256 ^ k : Nat) : Int) ∧ (k = 0 ∨ 256 ^ (k - 1) ≤ N) ∧ Keeps (fun _ => False) w0 wr ∧ w0.heap.size ≤ P
theorem pow_len {N k : Nat} (h : 256 ^ k ≤ N) (hN : N < 10 ^ 200) : k < 100 := by
  rcases Nat.lt_or_ge k 100 with h1 | h1
  · exact h1
  · exfalso
    have h3 : (10 : Nat) ^ 200 ≤ 256 ^ 100 := by decide +kernel
    have h4 : 256 ^ 100 ≤ 256 ^ k := Nat.pow_le_pow_right (by omega) h1
    omega
theorem big52 (vx : Value) (x : Int) (bx : Nat) (w : World) (hx : NumV w bx vx x) (hxb : x.natAbs < 10 ^ 200) :
    Calls Tryz.prog 52 #[vx] w fun e w' => ∃ a l c k, e = .returned (.slice a l c) ∧ l = k ∧ BsV w' w.heap.size (.slice a l c) (beL x.natAbs k) c ∧ IsLen x.natAbs k ∧ k ≤ 100 ∧ Keeps (fun _ => False) w w' := by
  obtain ⟨n1, a1, l1, c1, rfl, hp⟩ := hx.parts
  have HP := hid hp; have HXL := hid hxb
  clear hx hp hxb
  obtain ⟨N, hN⟩ : ∃ N, N = x.natAbs := ⟨_, rfl⟩
  rw [← hN] at HXL ⊢
  have HNX := hid hN
  have HVA : Hid (∀ W, Keeps (fun _ => False) w W → NumV W 0 (.agg #[.bool false, .slice a1 l1 c1]) (N : Int)) := hid (fun W hk => by rw [hN]; exact (HP.out W hk 0 (fun _ _ => Nat.zero_le _)).abs)
  clear hN
  go_enter Tryz.func52, Tryz.ntmps52
  go_wp2_with fail
  obtain ⟨W1, hW1⟩ : ∃ W, W = (w.alloc (.cells #[.bool n1, .slice a1 l1 c1] 24)).alloc (.cells #[] 5) := ⟨_, rfl⟩
  obtain ⟨P, hP⟩ : ∃ p, p = w.heap.size := ⟨_, rfl⟩
  have hk1 : Keeps (fun _ => False) w W1 := by rw [hW1]; exact ((Keeps.refl _ w).alloc _).alloc _
  have hr1 : RowAt W1 P 24 [.bool n1, .slice a1 l1 c1] := by rw [hW1, hP]; exact RowAt.alloc (RowAt.new w 24 _) _
  rw [← hW1, ← hP]
  have HPP := hid hP
  clear hW1 hP
  refine (abs31_any n1 a1 l1 c1 W1).mono ?_
  rintro e w2 ⟨rfl, hk⟩
  have hr2 := hk.row hr1 (fun h => h)
  have HK2 := hid (hk1.trans hk); have HR2 := hid hr2
  obtain ⟨b0, b1, f0, f1⟩ := RowAt.facts2 hr2
  clear hk hk1 hr1 hr2
  go_upto_block 0 with fail
  obtain ⟨hv3, hr3⟩ := NumV.setRow2 (HVA.out w2 HK2.out) HR2.out (m := false) (s := .slice a1 l1 c1)
  have hk3 := (HK2.out.setCell ⟨P, 0, none⟩ (.inr (by rw [HPP.out]; exact Nat.le_refl _)) (.bool false)).setCell ⟨P, 1, none⟩ (.inr (by rw [HPP.out]; exact Nat.le_refl _)) (.slice a1 l1 c1)
  obtain ⟨W3, hW3⟩ : ∃ W, W = (w2.setCell ⟨P, 0, none⟩ (.bool false)).setCell ⟨P, 1, none⟩ (.slice a1 l1 c1) := ⟨_, rfl⟩
  rw [← hW3] at hv3 hr3 hk3 ⊢
  have HV3 := hid hv3; have HR3 := hid hr3; have HK3 := hid hk3
  clear hW3 hv3 hr3 hk3 b0 b1 f0 f1
  have HO2 := hid (fun W => of33 256 W (by omega) (by omega))
  go_wp2_with fail
  go_loopw [3] (fun ov wr => BigRel w P N ov wr) (fun _ wr => (zOf wr P).toNat)
  case atStart =>
    refine ⟨0, _, 0, 0, rfl, by rw [beL_length], by rw [show beL N 0 = [] from rfl]; exact BsV.empty _ _ _ _, ?_, .inl rfl, HK3.out, by rw [HPP.out]; exact Nat.le_refl _⟩
    rw [Nat.pow_zero, Nat.div_one]
    exact ⟨false, a1, l1, c1, HR3.out, HV3.out⟩
  case round =>
    obtain ⟨k, a, l, c, rfl, hl, hb, hE, hk0, hk, hPw⟩ := hrel
    obtain ⟨M, hM⟩ : ∃ M, M = N / 256 ^ k := ⟨_, rfl⟩
    rw [← hM] at hE
    obtain ⟨n2, a2, l2, c2, b0, b1, f0, f1, rQ, vQ⟩ := hE.facts
    have HZ := hid (zero23 _ _ _ wr vQ)
    rw [beL_length] at hl
    have HMM := hid hM; have HEr := hid hE; have HB := hid hb; have HK0 := hid hk0; have HKr := hid hk; have HPW := hid hPw; have RQ := hid rQ; have VQ := hid vQ; have HLk := hid hl
    have HK100 : Hid (k ≤ 100) := hid (by
      rcases hk0 with h | h
      · omega
      · have := pow_len h HXL.out; omega)
    clear hM hl hb hE hk0 hk hPw rQ vQ
    by_cases h0 : M = 0
    · rw [show decide ((M : Int) = 0) = true by simp [h0]] at HZ
      have H0 := hid h0
      clear h0
      go_wp2_with fail
      refine HZ.out.mono ?_
      rintro e w7 ⟨rfl, hk⟩
      have HK7 := hid hk
      clear hk HZ
      go_wp2_with fail
      go_ret
      have hlt : N < 256 ^ k := by
        have h1 := HMM.out
        rw [H0.out] at h1
        rcases Nat.lt_or_ge N (256 ^ k) with h | h
        · exact h
        · have := Nat.div_pos h (Nat.pow_pos (by omega)); omega
      exact ⟨a, l, c, k, rfl, HLk.out, HB.out.keep HK7.out (fun _ _ h => h), ⟨hlt, HK0.out⟩, HK100.out, HKr.out.trans HK7.out⟩
    · rw [show decide ((M : Int) = 0) = false by simp [h0]] at HZ
      have H0 := hid h0
      clear h0
      go_wp2_with fail
      refine HZ.out.mono ?_
      rintro e wz ⟨rfl, hk⟩
      have HKz := hid (HKr.out.trans hk)
      have RQz := hid (hk.row RQ.out (fun h => h)); have VQz := hid (VQ.out.keep hk (fun _ _ h => h)); have HBz := hid (HB.out.keep hk (fun _ _ h => h))
      clear b0 b1 f0 f1 hk HZ
      have HS9 : Hid (∀ w', Keeps (fun _ => False) wz w' → w'.cell? ⟨P, 0, none⟩ = some (.bool n2) ∧ w'.cell? ⟨P, 1, none⟩ = some (.slice a2 l2 c2)) := hid (fun w' hk => ⟨(hk.row RQz.out (fun h => h)).cell 0, (hk.row RQz.out (fun h => h)).cell 1⟩)
      have HQR : Hid (∀ W vy b, NumV W b vy 256 → Keeps (fun _ => False) wz W → Calls Tryz.prog 40 #[.agg #[.bool n2, .slice a2 l2 c2], vy] W fun e w' => ∃ v1 v2, e = .returned (.tuple #[v1, v2]) ∧ NumV w' W.heap.size v1 ((M / 256 : Nat) : Int) ∧ NumV w' W.heap.size v2 ((M % 256 : Nat) : Int) ∧ Keeps (fun _ => False) W w') := hid (fun W vy b h1 hk => by
        have hv := VQz.out.keep hk (fun _ _ h => h)
        refine (quoRem40 _ vy _ 256 0 b W hv h1 (by omega) (digs_lt (k := 200) (Nat.lt_of_le_of_lt (show (M : Int).natAbs ≤ N by rw [HMM.out, Int.natAbs_natCast]; exact Nat.div_le_self _ _) HXL.out) (by omega)) (Nat.le_trans (digs_len (k := 3) (by decide)) (by omega))).mono ?_
        rintro e w' ⟨v1, v2, he, k1, k2, k3⟩
        exact ⟨v1, v2, he, k1, k2, k3⟩)
      go_upto_region 4 with fail
      go_cut [4, 5] from 14 to 20 (fun u v wx => TwoC wz 0 ((M / 256 : Nat) : Int) ((M % 256 : Nat) : Int) u v wx)
      case first =>
        go_region_held3 (fun w' => w'.cell? ⟨P, 0, none⟩ = some (.bool n2) ∧ w'.cell? ⟨P, 1, none⟩ = some (.slice a2 l2 c2))
          (((refine HS9.out _ ?_); repeat (first | (with_reducible exact K6.out) | (with_reducible exact K5.out) | (with_reducible exact Keeps.refl _ _) | (with_reducible refine Keeps.drew ?_) | (with_reducible refine Keeps.new ?_ _) | (refine Keeps.setCell ?_ _ (.inr (by dsimp only; omega)) _))))
          (first
            | (go_at_call 33; (with_reducible refine (HO2.out (wz.drew)).mono ?_); rintro e w5 ⟨v, rfl, hv, hk⟩; obtain ⟨n5, a5, l5, c5, rfl⟩ := hv.agg; have HV5 := hid hv; have k5 := (show Keeps (fun _ => False) wz (wz.drew) from (Keeps.refl (fun _ => False) wz).drew); have K5 := hid (k5.trans hk); have tok0 : True := trivial; have z5 := K5.out.size; clear hv hk k5)
            | (go_at_call 33; (with_reducible refine (HO2.out ((wz.alloc (.cells #[.bool false, .slice none 0 0] 24)).drew)).mono ?_); rintro e w5 ⟨v, rfl, hv, hk⟩; obtain ⟨n5, a5, l5, c5, rfl⟩ := hv.agg; have HV5 := hid hv; have k5 := (show Keeps (fun _ => False) wz ((wz.alloc (.cells #[.bool false, .slice none 0 0] 24)).drew) from ((Keeps.refl (fun _ => False) wz).alloc _).drew); have K5 := hid (k5.trans hk); have FR0 := hid ((show Fr ((wz.alloc (.cells #[.bool false, .slice none 0 0] 24)).drew) wz.heap.size from (Fr.new wz)).keep hk); have tok1 : True := trivial; have z5 := K5.out.size; clear hv hk k5)
            | (go_at_call 33; (with_reducible refine (HO2.out (((wz.alloc (.cells #[.bool false, .slice none 0 0] 24)).alloc (.cells #[.bool false, .slice none 0 0] 24)).drew)).mono ?_); rintro e w5 ⟨v, rfl, hv, hk⟩; obtain ⟨n5, a5, l5, c5, rfl⟩ := hv.agg; have HV5 := hid hv; have k5 := (show Keeps (fun _ => False) wz (((wz.alloc (.cells #[.bool false, .slice none 0 0] 24)).alloc (.cells #[.bool false, .slice none 0 0] 24)).drew) from (((Keeps.refl (fun _ => False) wz).alloc _).alloc _).drew); have K5 := hid (k5.trans hk); have FR0 := hid ((show Fr (((wz.alloc (.cells #[.bool false, .slice none 0 0] 24)).alloc (.cells #[.bool false, .slice none 0 0] 24)).drew) wz.heap.size from (Fr.new2 wz).1).keep hk); have FR1 := hid ((show Fr (((wz.alloc (.cells #[.bool false, .slice none 0 0] 24)).alloc (.cells #[.bool false, .slice none 0 0] 24)).drew) (wz.heap.size + 1) from (Fr.new2 wz).2).keep hk); have tok2 : True := trivial; have z5 := K5.out.size; clear hv hk k5)
            | (go_at_call 40; have _t := tok0; (with_reducible refine (HQR.out w5 _ _ (HV5.out.keep (show Keeps (fun _ => False) w5 w5 from (Keeps.refl (fun _ => False) w5)) (fun _ _ h => h)) (K5.out.trans (show Keeps (fun _ => False) w5 w5 from (Keeps.refl (fun _ => False) w5)))).mono ?_); rintro e w6 ⟨v1, v2, rfl, hv1, hv2, hk⟩; obtain ⟨n6, a6, l6, c6, rfl⟩ := hv1.agg; obtain ⟨n7, a7, l7, c7, rfl⟩ := hv2.agg; have k56 := (show Keeps (fun _ => False) w5 w5 from (Keeps.refl (fun _ => False) w5)).trans hk; have z6 := k56.size; have HV6 := hid (hv1.lower (Nat.zero_le _)); have HV7 := hid (hv2.lower (Nat.zero_le _)); have K6 := hid (K5.out.trans k56); clear hv1 hv2 hk k56)
            | (go_at_call 40; have _t := tok0; (with_reducible refine (HQR.out (w5.alloc (.cells #[.bool false, .slice none 0 0] 24)) _ _ (HV5.out.keep (show Keeps (fun _ => False) w5 (w5.alloc (.cells #[.bool false, .slice none 0 0] 24)) from ((Keeps.refl (fun _ => False) w5).alloc _)) (fun _ _ h => h)) (K5.out.trans (show Keeps (fun _ => False) w5 (w5.alloc (.cells #[.bool false, .slice none 0 0] 24)) from ((Keeps.refl (fun _ => False) w5).alloc _)))).mono ?_); rintro e w6 ⟨v1, v2, rfl, hv1, hv2, hk⟩; obtain ⟨n6, a6, l6, c6, rfl⟩ := hv1.agg; obtain ⟨n7, a7, l7, c7, rfl⟩ := hv2.agg; have k56 := (show Keeps (fun _ => False) w5 (w5.alloc (.cells #[.bool false, .slice none 0 0] 24)) from ((Keeps.refl (fun _ => False) w5).alloc _)).trans hk; have z6 := k56.size; have HV6 := hid (hv1.lower (Nat.zero_le _)); have HV7 := hid (hv2.lower (Nat.zero_le _)); have K6 := hid (K5.out.trans k56); have g0 := ((Fr.new w5).keep hk); obtain ⟨x00, x01, x02, x03⟩ := g0.facts; have y00 := fun o => (Fr.facts (RowAt.alloc g0 o)).1; have y01 := fun o => (Fr.facts (RowAt.alloc g0 o)).2.1; have y02 := fun o => (Fr.facts (RowAt.alloc g0 o)).2.2.1; have y03 := fun o => (Fr.facts (RowAt.alloc g0 o)).2.2.2; have lt0 := RowAt.lt g0; have ne0 := Nat.ne_of_lt lt0; have nf0 := Ne.symm ne0; have G0 := hid g0; clear g0; clear hv1 hv2 hk k56)
            | (go_at_call 40; have _t := tok0; (with_reducible refine (HQR.out ((w5.alloc (.cells #[.bool false, .slice none 0 0] 24)).alloc (.cells #[.bool false, .slice none 0 0] 24)) _ _ (HV5.out.keep (show Keeps (fun _ => False) w5 ((w5.alloc (.cells #[.bool false, .slice none 0 0] 24)).alloc (.cells #[.bool false, .slice none 0 0] 24)) from (((Keeps.refl (fun _ => False) w5).alloc _).alloc _)) (fun _ _ h => h)) (K5.out.trans (show Keeps (fun _ => False) w5 ((w5.alloc (.cells #[.bool false, .slice none 0 0] 24)).alloc (.cells #[.bool false, .slice none 0 0] 24)) from (((Keeps.refl (fun _ => False) w5).alloc _).alloc _)))).mono ?_); rintro e w6 ⟨v1, v2, rfl, hv1, hv2, hk⟩; obtain ⟨n6, a6, l6, c6, rfl⟩ := hv1.agg; obtain ⟨n7, a7, l7, c7, rfl⟩ := hv2.agg; have k56 := (show Keeps (fun _ => False) w5 ((w5.alloc (.cells #[.bool false, .slice none 0 0] 24)).alloc (.cells #[.bool false, .slice none 0 0] 24)) from (((Keeps.refl (fun _ => False) w5).alloc _).alloc _)).trans hk; have z6 := k56.size; have HV6 := hid (hv1.lower (Nat.zero_le _)); have HV7 := hid (hv2.lower (Nat.zero_le _)); have K6 := hid (K5.out.trans k56); have g0 := ((Fr.new2 w5).1.keep hk); obtain ⟨x00, x01, x02, x03⟩ := g0.facts; have y00 := fun o => (Fr.facts (RowAt.alloc g0 o)).1; have y01 := fun o => (Fr.facts (RowAt.alloc g0 o)).2.1; have y02 := fun o => (Fr.facts (RowAt.alloc g0 o)).2.2.1; have y03 := fun o => (Fr.facts (RowAt.alloc g0 o)).2.2.2; have lt0 := RowAt.lt g0; have ne0 := Nat.ne_of_lt lt0; have nf0 := Ne.symm ne0; have G0 := hid g0; clear g0; have g1 := ((Fr.new2 w5).2.keep hk); obtain ⟨x10, x11, x12, x13⟩ := g1.facts; have y10 := fun o => (Fr.facts (RowAt.alloc g1 o)).1; have y11 := fun o => (Fr.facts (RowAt.alloc g1 o)).2.1; have y12 := fun o => (Fr.facts (RowAt.alloc g1 o)).2.2.1; have y13 := fun o => (Fr.facts (RowAt.alloc g1 o)).2.2.2; have lt1 := RowAt.lt g1; have ne1 := Nat.ne_of_lt lt1; have nf1 := Ne.symm ne1; have G1 := hid g1; clear g1; clear hv1 hv2 hk k56)
            | (go_at_call 40; have _t := tok1; (with_reducible refine (HQR.out w5 _ _ (HV5.out.keep (show Keeps (fun _ => False) w5 w5 from (Keeps.refl (fun _ => False) w5)) (fun _ _ h => h)) (K5.out.trans (show Keeps (fun _ => False) w5 w5 from (Keeps.refl (fun _ => False) w5)))).mono ?_); rintro e w6 ⟨v1, v2, rfl, hv1, hv2, hk⟩; obtain ⟨n6, a6, l6, c6, rfl⟩ := hv1.agg; obtain ⟨n7, a7, l7, c7, rfl⟩ := hv2.agg; have k56 := (show Keeps (fun _ => False) w5 w5 from (Keeps.refl (fun _ => False) w5)).trans hk; have z6 := k56.size; have HV6 := hid (hv1.lower (Nat.zero_le _)); have HV7 := hid (hv2.lower (Nat.zero_le _)); have K6 := hid (K5.out.trans k56); have ne45 := Nat.ne_of_lt (RowAt.lt FR0.out); have nf45 := Ne.symm ne45; have g0 := (FR0.out.keep k56); obtain ⟨x00, x01, x02, x03⟩ := g0.facts; have y00 := fun o => (Fr.facts (RowAt.alloc g0 o)).1; have y01 := fun o => (Fr.facts (RowAt.alloc g0 o)).2.1; have y02 := fun o => (Fr.facts (RowAt.alloc g0 o)).2.2.1; have y03 := fun o => (Fr.facts (RowAt.alloc g0 o)).2.2.2; have lt0 := RowAt.lt g0; have ne0 := Nat.ne_of_lt lt0; have nf0 := Ne.symm ne0; have G0 := hid g0; clear g0; clear hv1 hv2 hk k56)
            | (go_at_call 40; have _t := tok1; (with_reducible refine (HQR.out (w5.alloc (.cells #[.bool false, .slice none 0 0] 24)) _ _ (HV5.out.keep (show Keeps (fun _ => False) w5 (w5.alloc (.cells #[.bool false, .slice none 0 0] 24)) from ((Keeps.refl (fun _ => False) w5).alloc _)) (fun _ _ h => h)) (K5.out.trans (show Keeps (fun _ => False) w5 (w5.alloc (.cells #[.bool false, .slice none 0 0] 24)) from ((Keeps.refl (fun _ => False) w5).alloc _)))).mono ?_); rintro e w6 ⟨v1, v2, rfl, hv1, hv2, hk⟩; obtain ⟨n6, a6, l6, c6, rfl⟩ := hv1.agg; obtain ⟨n7, a7, l7, c7, rfl⟩ := hv2.agg; have k56 := (show Keeps (fun _ => False) w5 (w5.alloc (.cells #[.bool false, .slice none 0 0] 24)) from ((Keeps.refl (fun _ => False) w5).alloc _)).trans hk; have z6 := k56.size; have HV6 := hid (hv1.lower (Nat.zero_le _)); have HV7 := hid (hv2.lower (Nat.zero_le _)); have K6 := hid (K5.out.trans k56); have ne45 := Nat.ne_of_lt (RowAt.lt FR0.out); have nf45 := Ne.symm ne45; have g0 := (FR0.out.keep k56); obtain ⟨x00, x01, x02, x03⟩ := g0.facts; have y00 := fun o => (Fr.facts (RowAt.alloc g0 o)).1; have y01 := fun o => (Fr.facts (RowAt.alloc g0 o)).2.1; have y02 := fun o => (Fr.facts (RowAt.alloc g0 o)).2.2.1; have y03 := fun o => (Fr.facts (RowAt.alloc g0 o)).2.2.2; have lt0 := RowAt.lt g0; have ne0 := Nat.ne_of_lt lt0; have nf0 := Ne.symm ne0; have G0 := hid g0; clear g0; have g1 := ((Fr.new w5).keep hk); obtain ⟨x10, x11, x12, x13⟩ := g1.facts; have y10 := fun o => (Fr.facts (RowAt.alloc g1 o)).1; have y11 := fun o => (Fr.facts (RowAt.alloc g1 o)).2.1; have y12 := fun o => (Fr.facts (RowAt.alloc g1 o)).2.2.1; have y13 := fun o => (Fr.facts (RowAt.alloc g1 o)).2.2.2; have lt1 := RowAt.lt g1; have ne1 := Nat.ne_of_lt lt1; have nf1 := Ne.symm ne1; have G1 := hid g1; clear g1; clear hv1 hv2 hk k56)
            | (go_at_call 40; have _t := tok2; (with_reducible refine (HQR.out w5 _ _ (HV5.out.keep (show Keeps (fun _ => False) w5 w5 from (Keeps.refl (fun _ => False) w5)) (fun _ _ h => h)) (K5.out.trans (show Keeps (fun _ => False) w5 w5 from (Keeps.refl (fun _ => False) w5)))).mono ?_); rintro e w6 ⟨v1, v2, rfl, hv1, hv2, hk⟩; obtain ⟨n6, a6, l6, c6, rfl⟩ := hv1.agg; obtain ⟨n7, a7, l7, c7, rfl⟩ := hv2.agg; have k56 := (show Keeps (fun _ => False) w5 w5 from (Keeps.refl (fun _ => False) w5)).trans hk; have z6 := k56.size; have HV6 := hid (hv1.lower (Nat.zero_le _)); have HV7 := hid (hv2.lower (Nat.zero_le _)); have K6 := hid (K5.out.trans k56); have ne45 := Nat.ne_of_lt (RowAt.lt FR0.out); have nf45 := Ne.symm ne45; have g0 := (FR0.out.keep k56); obtain ⟨x00, x01, x02, x03⟩ := g0.facts; have y00 := fun o => (Fr.facts (RowAt.alloc g0 o)).1; have y01 := fun o => (Fr.facts (RowAt.alloc g0 o)).2.1; have y02 := fun o => (Fr.facts (RowAt.alloc g0 o)).2.2.1; have y03 := fun o => (Fr.facts (RowAt.alloc g0 o)).2.2.2; have lt0 := RowAt.lt g0; have ne0 := Nat.ne_of_lt lt0; have nf0 := Ne.symm ne0; have G0 := hid g0; clear g0; have g1 := (FR1.out.keep k56); obtain ⟨x10, x11, x12, x13⟩ := g1.facts; have y10 := fun o => (Fr.facts (RowAt.alloc g1 o)).1; have y11 := fun o => (Fr.facts (RowAt.alloc g1 o)).2.1; have y12 := fun o => (Fr.facts (RowAt.alloc g1 o)).2.2.1; have y13 := fun o => (Fr.facts (RowAt.alloc g1 o)).2.2.2; have lt1 := RowAt.lt g1; have ne1 := Nat.ne_of_lt lt1; have nf1 := Ne.symm ne1; have G1 := hid g1; clear g1; clear hv1 hv2 hk k56))
        all_goals
          go_wp2_with fail
          go_meet
        all_goals first | (with_reducible exact two_D K6.out HV6.out HV7.out) | (with_reducible exact two_B K6.out HV6.out HV7.out (by omega) G0.out) | (with_reducible exact two_C K6.out HV6.out HV7.out (by omega) G0.out) | (with_reducible exact two_A K6.out HV6.out HV7.out (by omega) (by omega) G0.out G1.out (by omega)) | (with_reducible exact two_A K6.out HV6.out HV7.out (by omega) (by omega) G1.out G0.out (by omega)) | (refine TwoC.symm ?_; with_reducible exact two_D K6.out HV7.out HV6.out) | (refine TwoC.symm ?_; with_reducible exact two_B K6.out HV7.out HV6.out (by omega) G0.out) | (refine TwoC.symm ?_; with_reducible exact two_C K6.out HV7.out HV6.out (by omega) G0.out) | (refine TwoC.symm ?_; with_reducible exact two_A K6.out HV7.out HV6.out (by omega) (by omega) G0.out G1.out (by omega)) | (refine TwoC.symm ?_; with_reducible exact two_A K6.out HV7.out HV6.out (by omega) (by omega) G1.out G0.out (by omega))
      case rest =>
        obtain ⟨P8, P9, rfl, rfl, h89, h8, h9, e8, e9, hkz⟩ := hcut
        obtain ⟨wk, rfl⟩ : ∃ wk : World, wk = wc := ⟨_, rfl⟩
        have HE8 := hid e8; have HKc := hid hkz; have H8 := hid h8
        obtain ⟨n9, a9, l9, c9, b0, b1, _, _, _, v9⟩ := e9.facts
        obtain ⟨r, hr⟩ : ∃ r, r = M % 256 := ⟨_, rfl⟩
        rw [← hr] at v9
        have hr256 : r < 256 := by omega
        have hi64 : isI64 (r : Int) = true := by simp [isI64]; omega
        have hsm := small61 _ _ _ wk v9 (Nat.le_trans (digs_len (k := 3) (by rw [Int.natAbs_natCast]; omega)) (by omega))
        rw [hi64] at hsm
        simp only [if_true] at hsm
        have HSM := hid hsm
        have HRr := hid hr
        have hw8 : IntKind.u8.wrap (r : Int) = (r : Int) := by rw [IntKind.wrap_u8]; omega
        clear h89 h8 h9 e8 e9 hkz v9 HQR HS9 hi64 hsm hr
        go_wp2_with fail
        refine HSM.out.mono ?_
        rintro e w8 ⟨rfl, hk⟩
        have HK8 := hid (HKc.out.trans hk)
        have HE88 := hid (HE8.out.keep hk)
        clear b0 b1 hk HSM
        have HB8 : Hid (∀ W, Keeps (fun _ => False) w8 W → BsV W w.heap.size (.slice a l c) (beL N k) c) := hid (fun W hk => HBz.out.keep (HK8.out.trans hk) (fun _ _ h => h))
        have hsz8 : w.heap.size ≤ w8.heap.size := (HKz.out.trans HK8.out).size
        have HSZ8 := hid hsz8
        clear hsz8
        go_upto_region 7 with (refine wpList_app rfl (.tmp 27) (.tmp 28) rfl rfl (.slice (some ⟨w8.heap.size, 0, none⟩) 1 1) (.slice a l c) rfl rfl w.heap.size [r] (beL N k) c (one_byte w8 r _ HSZ8.out) (HB8.out _ ((Keeps.refl _ w8).alloc _)) (Nat.le_trans HSZ8.out ((Keeps.refl (fun _ => False) w8).alloc _).size) (by rw [beL_length]; have := HK100.out; simp; omega) ?_; intro a3 k3 w9 c3 e3 hb3 hk3; have E3 := hid e3; clear e3; have HB3 := hid hb3; have HK9 := hid (((Keeps.refl (fun _ => False) w8).alloc _).trans hk3); clear hb3 hk3)
        have e3 := E3.out
        have hE9 := HE88.out.keep HK9.out
        have hRP9 := (HK8.out.trans HK9.out).row RQz.out (fun h => h)
        obtain ⟨n8, a8, l8, c8, b0, b1, _, _, r8, v8⟩ := hE9.facts
        obtain ⟨_, _, f0, f1⟩ := RowAt.facts2 hRP9
        have HV8 := hid v8; have HRP := hid hRP9
        clear r8 v8 hE9 hRP9 E3 HB8
        have E3 := hid e3
        clear e3
        go_wp2_with fail
        obtain ⟨hv9, hr9⟩ := NumV.setRow2 HV8.out HRP.out (m := n8) (s := .slice a8 l8 c8)
        have hkk := (HKz.out.trans HK8.out).trans HK9.out
        have hk9 := (hkk.setCell ⟨P, 0, none⟩ (.inr HPW.out) (.bool n8)).setCell ⟨P, 1, none⟩ (.inr HPW.out) (.slice a8 l8 c8)
        have hbl : beL N (k + 1) = [r] ++ beL N k := by rw [beL_cons, HRr.out, HMM.out]; rfl
        have hM2 : N / 256 ^ (k + 1) = M / 256 := by rw [HMM.out, Nat.div_div_eq_div_mul, ← Nat.pow_succ]
        have hEn : NumE ((w9.setCell ⟨P, 0, none⟩ (.bool n8)).setCell ⟨P, 1, none⟩ (.slice a8 l8 c8)) 0 P ((M / 256 : Nat) : Int) := ⟨n8, a8, l8, c8, hr9, hv9⟩
        have hb9 : BsV ((w9.setCell ⟨P, 0, none⟩ (.bool n8)).setCell ⟨P, 1, none⟩ (.slice a8 l8 c8)) w.heap.size (.slice a3 k3 c3) ([r] ++ beL N k) c3 := by
          refine HB3.out.setOther HRP.out (fun z h => by cases h)
        refine ⟨⟨k + 1, a3, k3, c3, rfl, by rw [hbl]; exact E3.out, by rw [hbl]; exact hb9, by rw [hM2]; exact hEn, .inr ?_, hk9, HPW.out⟩, ?_⟩
        · rw [Nat.add_sub_cancel]
          rcases Nat.lt_or_ge N (256 ^ k) with h | h
          · exfalso
            apply H0.out
            rw [HMM.out, Nat.div_eq_of_lt h]
          · exact h
        · show (zOf _ P).toNat < (zOf wr P).toNat
          rw [zOf_eq hEn, zOf_eq HEr.out]
          have := H0.out
          omega
end Go.Proofs
namespace Go.Proofs
open Go.RowKit
set_option maxHeartbeats 2000000
set_option linter.unusedVariables false
set_option linter.unusedSimpArgs false
set_option maxRecDepth 100000

theorem be_step (N n i : Nat) (h : i < n) : N / 256 ^ (n - i) * 256 + byt N (n - 1 - i) = N / 256 ^ (n - (i + 1)) := by
  unfold byt
  rw [show n - i = (n - (i + 1)) + 1 by omega, show n - 1 - i = n - (i + 1) by omega, Nat.pow_succ, ← Nat.div_div_eq_div_mul]
  omega
theorem digs_300 {z : Int} (h : z.natAbs < 10 ^ 251) : (digs z.natAbs).length ≤ 40000 := Nat.le_trans (digs_len h) (by omega)
theorem fromBig55 (v : Value) (N n c : Nat) (w : World) (h : BsV w 0 v (beL N n) c) (hN : N < 256 ^ n) (hn : n ≤ 100) :
    Calls Tryz.prog 55 #[v] w (NRes w (N : Int)) := by
  have HN0 := hid (show N / 256 ^ (n - 0) = 0 by rw [Nat.sub_zero]; exact Nat.div_eq_of_lt hN)
  have hNT : N < 10 ^ 250 := by
    have h1 : (256 : Nat) ^ 100 ≤ 10 ^ 250 := by decide +kernel
    exact Nat.lt_of_lt_of_le hN (Nat.le_trans (Nat.pow_le_pow_right (by omega) hn) h1)
  have HNT := hid hNT
  obtain ⟨a, e, hlc, hcc⟩ := h
  subst e
  rw [beL_length] at hcc ⊢
  have HBC : Hid (0 < n → ∃ b o, a = some ⟨b, o, none⟩ ∧ ∀ W, Keeps (fun _ => False) w W → ∀ i, i < n → W.cell? ⟨b, o + i, none⟩ = some (.int .u8 ((byt N (n - 1 - i) : Nat) : Int))) := hid (fun h0 => by
    obtain ⟨b, o, g1, _, g3, g4⟩ := hcc h0
    refine ⟨b, o, g1, fun W hk i hi => ?_⟩
    rw [cell_of_block (p := ⟨b, o + i, none⟩) (hk.block b g3 (fun h => h)), g4 i hi, beL_get N n i hi]
    rfl)
  clear hcc hlc hN hNT
  obtain ⟨W0, hW0⟩ : ∃ W, W = w.alloc (.cells #[.bool false, .slice none 0 0] 24) := ⟨_, rfl⟩
  obtain ⟨R, hR⟩ : ∃ p, p = w.heap.size := ⟨_, rfl⟩
  have hk0 : Keeps (fun _ => False) w W0 := by rw [hW0]; exact (Keeps.refl _ w).alloc _
  have hrr : RowAt W0 R 24 [.bool false, .slice none 0 0] := by rw [hW0, hR]; exact RowAt.new w 24 _
  have HO := hid (of33 0 W0 (by omega) (by omega))
  have HK0 := hid hk0; have HRR := hid hrr; have HRp := hid hR
  clear hk0 hrr
  go_enter Tryz.func55, Tryz.ntmps55
  go_wp2_with fail
  rw [← hW0, ← hR]
  clear hW0 hR
  refine HO.out.mono ?_
  rintro e w1 ⟨v, rfl, hv, hk⟩
  obtain ⟨n1, a1, l1, c1, rfl⟩ := hv.agg
  have HV := hid hv; have HK1 := hid (HK0.out.trans hk); have HRR1 := hid (hk.row HRR.out (fun h => h))
  clear hv hk HO
  go_upto_block 0 with fail
  obtain ⟨W2, hW2⟩ : ∃ W, W = w1.alloc (.cells #[.bool n1, .slice a1 l1 c1] 24) := ⟨_, rfl⟩
  obtain ⟨P, hP⟩ : ∃ p, p = w1.heap.size := ⟨_, rfl⟩
  have HE2 : Hid (NumE W2 w.heap.size P 0) := hid (by rw [hW2, hP]; exact NumE.new (HV.out.lower HK0.out.size))
  have HK2 : Hid (Keeps (fun _ => False) w W2) := hid (by rw [hW2]; exact HK1.out.alloc _)
  have HRR2 : Hid (RowAt W2 R 24 [.bool false, .slice none 0 0]) := hid (by rw [hW2]; exact RowAt.alloc HRR1.out _)
  have HPR : Hid (P ≠ R ∧ w.heap.size ≤ P) := hid ⟨by have := HRR1.out.lt; omega, by rw [hP]; exact HK1.out.size⟩
  rw [← hW2, ← hP]
  clear hW2 hP
  have HOF := hid (fun (z : Nat) (hz : z ≤ 256) W => of33 (z : Int) W (by omega) (by omega))
  go_wp2_with fail
  go_loopw [4] (fun iv wr => ∃ i : Nat, iv = .int .i64 (i : Int) ∧ i ≤ n ∧ NumE wr w.heap.size P ((N / 256 ^ (n - i) : Nat) : Int) ∧ RowAt wr R 24 [.bool false, .slice none 0 0] ∧ Keeps (fun _ => False) w wr) (fun iv _ => n - (intOf iv).toNat)
  case atStart =>
    refine ⟨0, rfl, Nat.zero_le _, ?_, HRR2.out, HK2.out⟩
    rw [HN0.out]; exact HE2.out
  case round =>
    obtain ⟨i, rfl, hi, hE, hrr, hk⟩ := hrel
    obtain ⟨n2, a2, l2, c2, b0, b1, f0, f1, rQ, vQ⟩ := hE.facts
    by_cases hin : i < n
    · obtain ⟨b, o, rfl, hcell⟩ := HBC.out (by omega)
      have cb := hcell wr hk i hin
      obtain ⟨B, hB⟩ : ∃ B, B = byt N (n - 1 - i) := ⟨_, rfl⟩
      rw [← hB] at cb
      have hBl : B < 256 := by rw [hB]; exact byt_lt _ _
      obtain ⟨M, hM⟩ : ∃ M, M = N / 256 ^ (n - i) := ⟨_, rfl⟩
      rw [← hM] at vQ
      have hst := be_step N n i hin
      rw [← hB, ← hM] at hst
      have hMl : M < 10 ^ 250 := by rw [hM]; exact Nat.lt_of_le_of_lt (Nat.div_le_self _ _) HNT.out
      have HS9 : Hid (∀ w', Keeps (fun _ => False) wr w' → w'.cell? ⟨P, 0, none⟩ = some (.bool n2) ∧ w'.cell? ⟨P, 1, none⟩ = some (.slice a2 l2 c2) ∧ w'.cell? ⟨b, o + i, none⟩ = some (.int .u8 (B : Int))) := hid (fun w' hk' => ⟨(hk'.row rQ (fun h => h)).cell 0, (hk'.row rQ (fun h => h)).cell 1, by rw [hB]; exact hcell w' (hk.trans hk') i hin⟩)
      have HMUL : Hid (∀ W vy b', NumV W b' vy 256 → Keeps (fun _ => False) wr W → Calls Tryz.prog 27 #[.agg #[.bool n2, .slice a2 l2 c2], vy] W (NRes W ((M : Int) * 256))) := hid (fun W vy b' h1 hk' =>
        mul27 _ vy _ 256 _ b' W (vQ.keep hk' (fun _ _ h => h)) h1 (digs_300 (by rw [Int.natAbs_natCast]; exact Nat.lt_trans hMl (by decide +kernel))) (Nat.le_trans (digs_len (k := 3) (by decide)) (by omega)))
      have HADD : Hid (∀ W vx vy b1 b2, NumV W b1 vx ((M : Int) * 256) → NumV W b2 vy (B : Int) → Calls Tryz.prog 28 #[vx, vy] W (NRes W ((M : Int) * 256 + B))) := hid (fun W vx vy b1 b2 h1 h2 =>
        add28 vx vy _ _ b1 b2 W h1 h2 (Nat.le_trans (digs_len (k := 300) (by rw [Int.natAbs_mul, Int.natAbs_natCast]; exact Nat.lt_of_lt_of_le (Nat.mul_lt_mul_of_pos_right hMl (by decide)) (by decide +kernel))) (by omega)) (Nat.le_trans (digs_len (k := 3) (by rw [Int.natAbs_natCast]; omega)) (by omega)))
      have HOB := hid (HOF.out B (by omega))
      have HO256 := hid (fun W => of33 256 W (by omega) (by omega))
      have HE := hid hE; have HRr := hid hrr; have HKr := hid hk; have RQ := hid rQ; have HST := hid hst
      have hw0 : IntKind.i64.wrap (B : Int) = (B : Int) := by rw [IntKind.wrap_i64]; omega
      clear hM hB hst hE hrr hk rQ vQ hcell hMl
      go_upto_region 5 with fail
      go_region_law
        (first
         | (go_simp; go_at_call 33; (with_reducible refine (HO256.out wr.drew).mono ?_); rintro e w5 ⟨v, rfl, hv, hk⟩; obtain ⟨n5, a5, l5, c5, rfl⟩ := hv.agg; have HV5 := hid hv; have K5 := hid ((Keeps.refl (fun _ => False) wr).drew.trans hk); obtain ⟨p0, p1, p2⟩ := HS9.out _ K5.out; clear hv hk)
         | (go_simp; go_at_call 27; (with_reducible refine (HMUL.out w5 _ _ HV5.out K5.out).mono ?_); rintro e w6 ⟨v, rfl, hv, hk⟩; obtain ⟨n6, a6, l6, c6, rfl⟩ := hv.agg; have HV6 := hid hv; have K6 := hid (K5.out.trans hk); obtain ⟨q0, q1, q2⟩ := HS9.out _ K6.out; clear hv hk)
         | (go_simp; go_at_call 33; (with_reducible refine (HOB.out w6).mono ?_); rintro e w7 ⟨v, rfl, hv, hk⟩; obtain ⟨n7, a7, l7, c7, rfl⟩ := hv.agg; have HV7 := hid hv; have HV67 := hid (HV6.out.keep hk (fun _ _ h => h)); have K7 := hid (K6.out.trans hk); obtain ⟨r0, r1, r2⟩ := HS9.out _ K7.out; clear hv hk)
         | (go_simp; go_at_call 28; (with_reducible refine (HADD.out w7 _ _ _ _ HV67.out HV7.out).mono ?_); rintro e w8 ⟨v, rfl, hv, hk⟩; obtain ⟨n8, a8, l8, c8, rfl⟩ := hv.agg; have HV8 := hid hv; have K8 := hid (K7.out.trans hk); obtain ⟨_, _, g0, g1⟩ := RowAt.facts2 (K8.out.row RQ.out (fun h => h)); obtain ⟨s0, s1, s2⟩ := HS9.out _ K8.out; clear hv hk))
      all_goals go_wp2_with fail
      all_goals
        have rQ8 := K8.out.row RQ.out (fun h => h)
        obtain ⟨hv9, hr9⟩ := NumV.setRow2 HV8.out rQ8 (m := n8) (s := .slice a8 l8 c8)
        have hge : w.heap.size ≤ w7.heap.size := (HKr.out.trans K7.out).size
        refine ⟨⟨i + 1, ?_, by omega, ⟨n8, a8, l8, c8, hr9, ?_⟩, RowAt.other2 (K8.out.row HRr.out (fun h => h)) HPR.out.1, ((HKr.out.trans K8.out).setCell ⟨P, 0, none⟩ (.inr HPR.out.2) _).setCell ⟨P, 1, none⟩ (.inr HPR.out.2) _⟩, ?_⟩
        · rfl
        · rw [← HST.out, Int.natCast_add, Int.natCast_mul]; exact hv9.lower hge
        · simp only [intOf]
          omega
    · have hin' : i = n := by omega
      subst hin'
      rw [Nat.sub_self, Nat.pow_zero, Nat.div_one] at hE vQ
      obtain ⟨_, _, r0, r1⟩ := RowAt.facts2 hrr
      have VQ := hid vQ; have HRr := hid hrr; have HKr := hid hk
      clear hE vQ rQ hrr hk
      go_wp2_with fail
      obtain ⟨hv9, hr9⟩ := NumV.setRow2 VQ.out HRr.out (m := n2) (s := .slice a2 l2 c2)
      have hk9 := (HKr.out.setCell ⟨R, 0, none⟩ (.inr (by rw [HRp.out]; exact Nat.le_refl _)) (.bool n2)).setCell ⟨R, 1, none⟩ (.inr (by rw [HRp.out]; exact Nat.le_refl _)) (.slice a2 l2 c2)
      obtain ⟨e0, e1, _, _⟩ := RowAt.facts2 hr9
      generalize ((wr.setCell ⟨R, 0, none⟩ (.bool n2)).setCell ⟨R, 1, none⟩ (.slice a2 l2 c2)) = wf at *
      refine bodyPost_ret (v := .agg #[.bool n2, .slice a2 l2 c2]) ?_ rfl ⟨_, rfl, hv9, hk9⟩
      simp [results, Tryz.results55, go_sem, e0, e1]
end Go.Proofs
namespace Go.Proofs
open Go.RowKit
set_option maxHeartbeats 2000000
set_option linter.unusedVariables false
set_option linter.unusedSimpArgs false
set_option maxRecDepth 100000

theorem isLen_mono {N k m : Nat} (h : IsLen N k) (hk : k ≤ m) : N < 256 ^ m := Nat.lt_of_lt_of_le h.1 (Nat.pow_le_pow_right (by omega) hk)
theorem zeros_bs (w : World) (r : Nat) : BsV (w.alloc (.cells (List.replicate r (.int .u8 0)).toArray 5)) 0 (.slice (some ⟨w.heap.size, 0, none⟩) r r) (List.replicate r 0) (List.replicate r 0).length := by
  have h := BsV.of_byt (o := 0) (B := List.replicate r 0) (k := r) (c := r) (a := some ⟨w.heap.size, 0, none⟩) (byt_new w r) (Nat.zero_le _) (by simp) (Nat.le_refl _) (by simp) (fun i hi => by rw [Nat.zero_add]) (fun _ => rfl)
  rw [List.length_replicate]; exact h
theorem more_facts {more wl r m : Nat} (hr : r = more % 20) (hm : m = wl + r) (hmo : more ≤ 255) (hw : wl ≤ 100) : IntKind.i64.wrap ((more : Int) % 20) = (r : Int) ∧ (more : Int) % 20 = (r : Int) ∧ IntKind.i64.wrap (more : Int) = (more : Int) ∧ IntKind.i64.wrap (r : Int) = (r : Int) ∧ (more : Int).tmod 20 = (r : Int) ∧
    wrap64 ((wl : Int) + (r : Int)) = (m : Int) ∧ IntKind.i64.wrap ((wl : Int) + (r : Int)) = (m : Int) ∧ (wl : Int) + (r : Int) = (m : Int) ∧ wl ≤ m ∧ m ≤ 1000 ∧ r < 20 := by
  have g2 : (more : Int) % 20 = (r : Int) := by omega
  refine ⟨by rw [IntKind.wrap_i64]; omega, g2, by rw [IntKind.wrap_i64]; omega, by rw [IntKind.wrap_i64]; omega, by rw [Int.tmod_eq_emod_of_nonneg (by omega)]; exact g2, by unfold wrap64; omega, by rw [IntKind.wrap_i64]; omega, by omega, by omega, by omega, by omega⟩
theorem law14 (a : ByteArray) (more : Nat) (ra : Option Addr) (n c N : Nat) (w : World) (G : Glob w) (hma : a.size ≤ 9223372036854775807) (hmo : more ≤ 255) (hb : BsV w 0 (.slice ra n c) (beL N n) c) (hN : N < 256 ^ n) :
    Calls Tryz.prog 14 #[.string a, .int .u8 (more : Int), .slice ra n c] w fun e w' => e = .returned (.bool true) ∧ Keeps (fun _ => False) w w' := by
  have HG := hid G; have HRB := hid hb; have HNB := hid hN
  clear G hb hN
  by_cases ha : a.size ≤ 2147483647
  · by_cases hn : n ≤ 2147483647
    · have H1 := hid (bigRight_any a w ha)
      have t0 : decide (2147483647 < a.size) = false := by simp; omega
      have t0' : decide (2147483647 < n) = false := by simp; omega
      have t1' : decide ((2147483647 : Int) < (n : Int)) = false := by simp; omega
      go_enter Tryz.func14, Tryz.ntmps14
      go_wp2_with fail
      refine H1.out.mono ?_
      rintro e w1 ⟨hk1, hcase⟩
      have HK1 := hid hk1
      clear hk1 H1 t0 t0' t1'
      rcases hcase with ⟨x, v, htx, rfl, hnv⟩ | ⟨n1, a1, l1, c1, rfl⟩
      · have HTX := hid htx
        obtain ⟨n1, a1, l1, c1, rfl, hp⟩ := hnv.parts
        have HP := hid hp
        clear htx hnv hp
        by_cases h100 : n ≤ 100
        · have t1 : decide (100 < n) = false := by simp; omega
          have t1' : decide ((100 : Int) < (n : Int)) = false := by simp; omega
          obtain ⟨W1, hW1⟩ : ∃ W, W = w1.alloc (.cells #[.bool n1, .slice a1 l1 c1] 24) := ⟨_, rfl⟩
          obtain ⟨p1, hp1⟩ : ∃ p, p = w1.heap.size := ⟨_, rfl⟩
          have hB1 : NumB W1 p1 n1 a1 l1 c1 x := by rw [hW1, hp1]; exact NumB.new HP.out
          have hK1 : Keeps (fun _ => False) w W1 := by rw [hW1]; exact HK1.out.alloc _
          have HB1 := hid hB1; have HKW := hid hK1
          have HG1 := hid (HG.out.keep hK1 (fun _ _ h => h))
          have HXL := hid (Txt.lt HTX.out)
          have HC1 := hid hB1.cells
          go_upto_region 6 with fail
          rw [← hW1, ← hp1]
          clear hW1 hp1 hB1 hK1 HP t1 t1'
          obtain ⟨b0, b1⟩ := HC1.out
          have HSP := hid (big52 _ x 0 W1 HB1.out.v HXL.out)
          go_wp2_with fail
          refine HSP.out.mono ?_
          rintro e w2 ⟨wa, wl, wc, k, rfl, hwl, hbs, hlen, hk100, hk2⟩
          subst hwl
          have HWB := hid hbs; have HLEN := hid hlen; have HK2 := hid hk2
          clear hbs hlen hk2 HSP b0 b1
          obtain ⟨r, hr⟩ : ∃ r, r = more % 20 := ⟨_, rfl⟩
          obtain ⟨m, hm⟩ : ∃ m, m = wl + r := ⟨_, rfl⟩
          obtain ⟨g1, g2, g3, g4, g5, g6, g7, g8, hwm, hm1000, hr20⟩ := more_facts hr hm hmo hk100
          have HR := hid hr; have HM := hid hm; have HR20 := hid hr20
          have HBB : Hid (∀ W, Keeps (fun _ => False) W1 W → Calls Tryz.prog 53 #[.string a, .int .i64 (m : Int)] W fun e w' => (∃ a1 k1 c1 a2, e = .returned (.tuple #[.slice a1 k1 c1, .slice a2 m m]) ∧ BsV w' W.heap.size (.slice a1 k1 c1) (beL x.natAbs k1) c1 ∧ IsLen x.natAbs k1 ∧ BsV w' W.heap.size (.slice a2 m m) (beL x.natAbs m) m) ∧ Keeps (fun _ => False) W w') := hid (fun W hk => by
            obtain ⟨na, la, da, hta, hx, _⟩ := HTX.out
            exact bigBytes53 a na da la x m W hta hx HXL.out (isLen_mono HLEN.out hwm) hm1000 (HG1.out.keep hk (fun _ _ h => h)))
          clear hr hm
          go_upto_region 8 with fail
          clear g1 g2 g3 g4 g5 g6 g7 g8
          have HB0 := hid (HBB.out w2 HK2.out)
          go_wp2_with fail
          refine HB0.out.mono ?_
          rintro e w3 ⟨⟨a3, k3, c3, a4, rfl, hb3, hl3, hb4⟩, hk3⟩
          have hk3l := hl3.unique HLEN.out
          subst hk3l
          have HB3 := hid hb3; have HB4 := hid hb4; have HK3 := hid (HK2.out.trans hk3); have HWB3 := hid (HWB.out.keep hk3 (fun _ _ h => h))
          clear hb3 hl3 hb4 hk3 HB0 HBB
          have hmk := make22 r (by omega)
          have hnb := fun w => zeros_bs w r
          obtain ⟨Z, hZ⟩ : ∃ Z, Z = Obj.cells (List.replicate r (.int .u8 0)).toArray 5 := ⟨_, rfl⟩
          rw [← hZ] at hmk hnb
          have HNB2 := hid hnb
          have gz : (m : Int) - (k3 : Int) = (r : Int) := by have := HM.out; omega
          have gz2 : wrap64 ((m : Int) - (k3 : Int)) = (r : Int) := by rw [gz]; unfold wrap64; omega
          have gz3 : wrap64 (r : Int) = (r : Int) := by unfold wrap64; omega
          clear hZ hnb
          go_upto_region 9 with fail
          go_upto_region 10 with (refine wpList_app rfl (.tmp 53) (.tmp 54) rfl rfl (.slice (some ⟨w3.heap.size, 0, none⟩) r r) (.slice wa k3 wc) rfl rfl 0 (List.replicate r 0) (beL x.natAbs k3) wc (HNB2.out w3) (((HWB3.out.lower (Nat.zero_le _))).keep ((Keeps.refl (fun _ => False) w3).alloc _) (fun _ _ h => h)) (Nat.zero_le _) (by rw [beL_length, List.length_replicate]; omega) ?_; intro a5 k5 w4 c5 e5 hb5 hk5; have E5 := hid e5; clear e5; have HB5 := hid hb5; have HK5 := hid (((Keeps.refl (fun _ => False) w3).alloc _).trans hk5); clear hb5 hk5)
          have hfull : beL x.natAbs m = List.replicate r 0 ++ beL x.natAbs k3 := by
            rw [HM.out, Nat.add_comm k3 r]; exact beL_more HLEN.out.1 r
          have hb5 := HB5.out
          rw [← hfull] at hb5
          have HK4 := hid (HK3.out.trans HK5.out)
          obtain ⟨TW, hTW⟩ : ∃ T, T = strB (beL x.natAbs k3) := ⟨_, rfl⟩
          obtain ⟨TF, hTF⟩ : ∃ T, T = strB (beL x.natAbs m) := ⟨_, rfl⟩
          have HCV : Hid (∀ W, Keeps (fun _ => False) w4 W → (convert 22 9 (.slice a3 k3 c3)).run Tryz.prog W = .ok (.string TW) W ∧ (convert 22 9 (.slice wa k3 wc)).run Tryz.prog W = .ok (.string TW) W ∧ (convert 22 9 (.slice a4 m m)).run Tryz.prog W = .ok (.string TF) W ∧ (convert 22 9 (.slice a5 k5 c5)).run Tryz.prog W = .ok (.string TF) W) := hid (fun W hk => by
            rw [hTW, hTF]
            exact ⟨(HB3.out.keep (HK5.out.trans hk) (fun _ _ h => h)).string, (HWB3.out.keep (HK5.out.trans hk) (fun _ _ h => h)).string, (HB4.out.keep (HK5.out.trans hk) (fun _ _ h => h)).string, (hb5.keep hk (fun _ _ h => h)).string⟩)
          have HAl := hid (bigAlive_true w4 (HG1.out.keep HK4.out (fun _ _ h => h)))
          clear hTW hTF hb5 hfull E5 HB5 hmk gz gz2 gz3
          go_wp2_with fail
          refine HAl.out.mono ?_
          rintro e w5 ⟨rfl, hk5⟩
          obtain ⟨q1, q2, q3, q4⟩ := HCV.out w5 hk5
          have HK5' := hid (HK4.out.trans hk5)
          have HFB := hid (fromBytes54 _ N n c w5 (HRB.out.keep (HKW.out.trans (HK4.out.trans hk5)) (fun _ _ h => h)) HNB.out h100 (HG1.out.keep (HK4.out.trans hk5) (fun _ _ h => h)))
          obtain ⟨T, hT⟩ : ∃ T, T = strB (txt (decide ((N : Int) < 0)) N) := ⟨_, rfl⟩
          rw [← hT] at HFB
          have HT := hid hT
          clear hk5 HAl HCV hT
          go_wp2_with fail
          refine HFB.out.mono ?_
          rintro e w6 ⟨rfl, hk6⟩
          have HK6 := hid (HK5'.out.trans hk6)
          have HFG := hid (fromBig55 _ N n c w6 (HRB.out.keep (HKW.out.trans (HK5'.out.trans hk6)) (fun _ _ h => h)) HNB.out h100)
          clear hk6 HFB q1 q2 q3 q4
          go_wp2_with fail
          refine HFG.out.mono ?_
          rintro e w7 ⟨v7, rfl, hv7, hk7⟩
          have HTX2 := hid (text22 v7 (N : Int) _ w7 hv7 (by
            have h1 : (256 : Nat) ^ 100 ≤ 10 ^ 250 := by decide +kernel
            exact Nat.le_trans (digs_len (k := 250) (by rw [Int.natAbs_natCast]; exact Nat.lt_of_lt_of_le HNB.out (Nat.le_trans (Nat.pow_le_pow_right (by omega) h100) h1))) (by omega)))
          rw [Int.natAbs_natCast, ← HT.out] at HTX2
          have HK7 := hid (HK6.out.trans hk7)
          clear hv7 hk7 HFG
          go_wp2_with fail
          refine HTX2.out.mono ?_
          rintro e w8 ⟨rfl, hk8⟩
          have HK8 := hid (HK7.out.trans hk8)
          clear hk8 HTX2
          go_wp2_with fail
          go_ret
          exact ⟨rfl, HKW.out.trans HK8.out⟩
        · have t1 : decide (100 < n) = true := by simp; omega
          have t1' : decide ((100 : Int) < (n : Int)) = true := by simp; omega
          go_wp2_with fail
          have hk := (HK1.out.alloc (.cells #[.bool n1, .slice a1 l1 c1] 24))
          have HKK := hid hk
          have HG2 := hid (HG.out.keep hk (fun _ _ h => h))
          clear hk
          refine (bigAlive_true _ HG2.out).mono ?_
          rintro e w9 ⟨rfl, hk9⟩
          have HK9 := hid hk9
          clear hk9
          go_wp2_with fail
          go_ret
          exact ⟨rfl, HKK.out.trans HK9.out⟩
      · go_wp2_with fail
        have hk := (HK1.out.alloc (.cells #[.bool n1, .slice a1 l1 c1] 24))
        have HKK := hid hk
        have HG2 := hid (HG.out.keep hk (fun _ _ h => h))
        clear hk
        refine (bigAlive_true _ HG2.out).mono ?_
        rintro e w9 ⟨rfl, hk9⟩
        have HK9 := hid hk9
        clear hk9
        go_wp2_with fail
        go_ret
        exact ⟨rfl, HKK.out.trans HK9.out⟩
    · have t0 : decide (2147483647 < a.size) = false := by simp; omega
      have t1 : decide (2147483647 < n) = true := by simp; omega
      have t1' : decide ((2147483647 : Int) < (n : Int)) = true := by simp; omega
      go_enter Tryz.func14, Tryz.ntmps14
      go_wp2_with fail
      go_ret
      exact ⟨rfl, Keeps.refl _ _⟩
  · have t0 : decide (2147483647 < a.size) = true := by simp; omega
    go_enter Tryz.func14, Tryz.ntmps14
    go_wp2_with fail
    go_ret
    exact ⟨rfl, Keeps.refl _ _⟩
end Go.Proofs
