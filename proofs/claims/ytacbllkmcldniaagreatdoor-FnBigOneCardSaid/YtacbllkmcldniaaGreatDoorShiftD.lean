/- Parts of the proofs over the numbers of any length: Two. -/
import Derived.Test.YtacbllkmcldniaaGreatDoorSpecC
import Derived.Test.YtacbllkmcldniaaGreatDoorSpecD
import Derived.Test.YtacbllkmcldniaaGreatDoorSpecB
set_option linter.unusedSimpArgs false
set_option linter.unusedVariables false
namespace Go.Proofs
open Go.RowKit
set_option maxHeartbeats 1600000
set_option linter.unusedVariables false
set_option linter.unusedSimpArgs false
set_option maxRecDepth 100000

theorem two_digs {k : Nat} (h : k ≤ 3000) : (digs (((2 ^ k : Nat) : Int)).natAbs).length ≤ 40000 := by
  rw [Int.natAbs_natCast]
  refine Nat.le_trans (digs_len (k := k + 1) ?_) (by omega)
  exact Nat.lt_of_lt_of_le (Nat.lt_of_lt_of_le Nat.lt_two_pow_self (by omega : 2 ^ k ≤ 2 ^ k) |> fun _ => Nat.pow_lt_pow_right (by omega) (Nat.lt_succ_self k)) (Nat.pow_le_pow_left (by omega) _)

theorem two42 (n : Nat) (w : World) (hn : n ≤ 2000) : Calls Tryz.prog 42 #[.int .i64 (n : Int)] w (NRes w ((2 ^ n : Nat) : Int)) := by
  obtain ⟨w0, hw0⟩ : ∃ W, W = w.alloc (.cells #[.bool false, .slice none 0 0] 24) := ⟨_, rfl⟩
  have hk0 : Keeps (fun _ => False) w w0 := by rw [hw0]; exact (Keeps.refl _ w).alloc _
  have hr0 : RowAt w0 w.heap.size 24 [.bool false, .slice none 0 0] := by rw [hw0]; exact RowAt.new w 24 [.bool false, .slice none 0 0]
  have HO := hid (of33 1 w0 (by omega) (by omega))
  have HK0 := hid hk0; have HR0 := hid hr0
  go_enter Tryz.func42, Tryz.ntmps42
  go_wp2_with fail
  rw [← hw0]
  clear hw0 hk0 hr0
  refine HO.out.mono ?_
  rintro e w1 ⟨v, rfl, hv, hk⟩
  obtain ⟨av, cv, rfl, hv1, hv2⟩ := hv
  obtain ⟨n1, hn1⟩ : ∃ n1, n1 = decide ((1 : Int) < 0) := ⟨_, rfl⟩
  obtain ⟨l1, hl1⟩ : ∃ l1, l1 = (digs (1 : Int).natAbs).length := ⟨_, rfl⟩
  rw [← hn1, ← hl1]
  have HV := hid hv1; have HV2 := hid hv2; have HK := hid (HK0.out.trans hk); have Hn1 := hid hn1; have Hl1 := hid hl1
  have HR1 := hid (hk.row HR0.out (fun h => h))
  have HS1 := hid hk.size
  clear hv1 hv2 hk hn1 hl1 HO
  go_wp2_with fail
  obtain ⟨p, hp⟩ : ∃ p, p = w1.heap.size := ⟨_, rfl⟩
  obtain ⟨W, hW⟩ : ∃ W, W = w1.alloc (.cells #[.bool n1, .slice av l1 cv] 24) := ⟨_, rfl⟩
  have hkW : Keeps (fun _ => False) w1 W := by rw [hW]; exact (Keeps.refl _ w1).alloc _
  have hN : NumC W w.heap.size p 1 := by
    refine ⟨av, cv, ?_, ?_⟩
    · rw [← Hn1.out, ← Hl1.out, hW, hp]; exact RowAt.new w1 24 _
    · exact ⟨av, cv, rfl, HV.out.keep hkW (fun _ _ h => h), fun k hk => Nat.le_trans HK0.out.size (HV2.out k hk)⟩
  have hKW : Keeps (fun _ => False) w W := HK.out.trans hkW
  have hpw : w.heap.size + 1 ≤ p := by rw [hp]; have := HR1.out.lt; omega
  have hRW := hkW.row HR1.out (fun h => h)
  rw [← hp, ← hW]
  have HN := hid hN; have HKW := hid hKW; have Hpw := hid hpw; have HRW := hid hRW
  clear hp hW hkW hN hKW hpw hRW HV HV2 Hn1 Hl1 HK HR0 HR1
  go_loopw [0] (fun iv wr => ∃ m k : Nat, iv = .int .i64 (m : Int) ∧ 50 * k + m = n ∧ NumC wr w.heap.size p ((2 ^ (50 * k) : Nat) : Int) ∧ RowAt wr w.heap.size 24 [.bool false, .slice none 0 0] ∧ Keeps (fun _ => False) w wr) (fun iv _ => (intOf iv).toNat)
  case atStart => exact ⟨n, 0, rfl, by omega, HN.out, HRW.out, HKW.out⟩
  case round =>
    obtain ⟨m, k, rfl, hmk, hnum, hrow0, hkr⟩ := hrel
    have HNr := hid hnum; have HKr := hid hkr; have HR0r := hid hrow0; have HMK := hid hmk
    have hm2 : m ≤ 2000 := by omega
    clear hnum hkr hrow0 hmk
    obtain ⟨ac, cc, hrow, hnv⟩ := HNr.out
    obtain ⟨c0, c1, f0, f1⟩ := NumC.facts (base := 0) (z := 0) hrow
    have hd1 : (digs (((2 ^ (50 * k) : Nat) : Int)).natAbs).length ≤ 40000 := two_digs (by have := HMK.out; omega)
    by_cases hlt : 50 ≤ m
    · have t1 : decide (50 ≤ (m : Int)) = true := by simp; omega
      have t2 : decide ((50 : Int) ≤ (m : Int)) = true := by simp; omega
      have gw : wrap64 ((m : Int) - 50) = ((m - 50 : Nat) : Int) := by unfold wrap64; omega
      have gw2 : IntKind.i64.wrap ((m : Int) - 50) = ((m - 50 : Nat) : Int) := by rw [IntKind.wrap_i64]; omega
      have HOf := hid (fun W => of33 1125899906842624 W (by omega) (by omega))
      have hd2 : (digs (1125899906842624 : Int).natAbs).length ≤ 40000 := Nat.le_trans (digs_len (k := 17) (by decide)) (by omega)
      have HMl : Hid (∀ (w2 : World) (v : Value) (b' : Nat), NumV w2 b' v 1125899906842624 → Keeps (fun _ => False) wr w2 → Calls Tryz.prog 27 #[.agg #[.bool (decide (((2 ^ (50 * k) : Nat) : Int) < 0)), .slice ac (digs (((2 ^ (50 * k) : Nat) : Int)).natAbs).length cc], v] w2 (NRes w2 (((2 ^ (50 * (k + 1)) : Nat) : Int)))) :=
        hid (fun w2 v b' h1 h2 => by
          have := mul27 _ v _ _ w.heap.size b' w2 (hnv.keep h2 (fun _ _ h => h)) h1 hd1 hd2
          rwa [show ((2 ^ (50 * k) : Nat) : Int) * 1125899906842624 = ((2 ^ (50 * (k + 1)) : Nat) : Int) by
            rw [show 50 * (k + 1) = 50 * k + 50 by omega, Nat.pow_add, Int.natCast_mul]; rfl] at this)
      have HD0 : Hid (Keeps (fun _ => False) wr wr.drew) := hid (Keeps.refl _ wr).drew
      obtain ⟨ng, hng⟩ : ∃ ng, ng = decide (((2 ^ (50 * k) : Nat) : Int) < 0) := ⟨_, rfl⟩
      obtain ⟨ln, hln⟩ : ∃ ln, ln = (digs (((2 ^ (50 * k) : Nat) : Int)).natAbs).length := ⟨_, rfl⟩
      rw [← hng, ← hln] at HMl hrow
      rw [← hng] at c0
      rw [← hln] at c1
      have Hrow := hid hrow
      obtain ⟨zz, hzz⟩ : ∃ zz, zz = ((2 ^ (50 * (k + 1)) : Nat) : Int) := ⟨_, rfl⟩
      rw [← hzz] at HMl
      have HZZ := hid hzz
      clear hnv hng hln hrow hd1 hd2 hzz
      go_wp2_with fail
      go_region_law (first
        | (go_simp; go_at_call 33; ((with_reducible refine (HOf.out _).mono ?_)); rintro e w2 ⟨v, rfl, hv, hk⟩; obtain ⟨d0, d1, e0, e1⟩ := NumC.facts (base := 0) (z := 0) (hk.row (HD0.out.row Hrow.out (fun h => h)) (fun h => h)); have HV2 := hid hv; have HK2 := hid (HD0.out.trans hk); clear hv hk)
        | (go_simp; go_at_call 27; ((with_reducible refine (HMl.out _ _ _ HV2.out HK2.out).mono ?_)); rintro e w3 ⟨v3, rfl, hv3, hk3⟩; obtain ⟨a3, c3, rfl, g1, g2⟩ := hv3; have hrow3 := hk3.row (HK2.out.row Hrow.out (fun h => h)) (fun h => h); obtain ⟨i0, i1, i2, i3⟩ := NumC.facts (base := 0) (z := 0) hrow3; have Hrow3 := hid hrow3; have G1 := hid g1; have G2 := hid g2; have HK3 := hid (HK2.out.trans hk3); clear g1 g2 hk3 hrow3))
      all_goals
        go_wp2_with fail
        have hkk := HKr.out.trans HK3.out
        have hpl : p < w2.heap.size := Nat.lt_of_lt_of_le Hrow.out.lt HK2.out.size
        refine ⟨⟨m - 50, k + 1, rfl, by have := HMK.out; omega, ?_, ?_, (hkk.setCell _ (.inr (show w.heap.size ≤ p by have := Hpw.out; omega)) _).setCell _ (.inr (show w.heap.size ≤ p by have := Hpw.out; omega)) _⟩, by simp only [intOf]; omega⟩
        · rw [← HZZ.out]
          exact NumC.store Hrow3.out hpl (by have := Hpw.out; omega) G1.out G2.out
        · exact ((HK3.out.row HR0r.out (fun h => h)).other (show (⟨p, 0, none⟩ : Addr).block ≠ w.heap.size by have := Hpw.out; show p ≠ _; omega) _).other (show (⟨p, 1, none⟩ : Addr).block ≠ w.heap.size by have := Hpw.out; show p ≠ _; omega) _
    · have t1 : decide (50 ≤ (m : Int)) = false := by simp; omega
      obtain ⟨pw, hpw2⟩ : ∃ pw, pw = 2 ^ m := ⟨_, rfl⟩
      have hpb : pw ≤ 2 ^ 50 := by rw [hpw2]; exact Nat.pow_le_pow_right (by omega) (by omega)
      have HOf := hid (fun W => of33 (pw : Int) W (by omega) (by have : (2 : Nat) ^ 50 = 1125899906842624 := by decide
                                                                 omega))
      have HPW := hid hpw2
      clear hpw2
      have gu : IntKind.u64.wrap (m : Int) = (m : Int) := by rw [IntKind.wrap_u64]; omega
      have gm : min m 64 = m := by omega
      have gp : IntKind.i64.wrap (2 ^ m) = (pw : Int) := by
        rw [show ((2 : Int) ^ m) = (pw : Int) by rw [HPW.out, Int.natCast_pow]; rfl, IntKind.wrap_i64]
        have : (2 : Nat) ^ 50 = 1125899906842624 := by decide
        omega
      have hd2 : (digs ((pw : Int)).natAbs).length ≤ 40000 := Nat.le_trans (digs_len (k := 17) (by rw [Int.natAbs_natCast]; exact Nat.lt_of_le_of_lt hpb (by decide))) (by omega)
      have HMl : Hid (∀ (w2 : World) (v : Value) (b' : Nat), NumV w2 b' v (pw : Int) → Keeps (fun _ => False) wr w2 → Calls Tryz.prog 27 #[.agg #[.bool (decide (((2 ^ (50 * k) : Nat) : Int) < 0)), .slice ac (digs (((2 ^ (50 * k) : Nat) : Int)).natAbs).length cc], v] w2 (NRes w2 (((2 ^ n : Nat) : Int)))) :=
        hid (fun w2 v b' h1 h2 => by
          have := mul27 _ v _ _ w.heap.size b' w2 (hnv.keep h2 (fun _ _ h => h)) h1 hd1 hd2
          rwa [show ((2 ^ (50 * k) : Nat) : Int) * (pw : Int) = ((2 ^ n : Nat) : Int) by
            rw [HPW.out, ← HMK.out, Nat.pow_add, Int.natCast_mul]] at this)
      have HD0 : Hid (Keeps (fun _ => False) wr wr.drew) := hid (Keeps.refl _ wr).drew
      obtain ⟨ng, hng⟩ : ∃ ng, ng = decide (((2 ^ (50 * k) : Nat) : Int) < 0) := ⟨_, rfl⟩
      obtain ⟨ln, hln⟩ : ∃ ln, ln = (digs (((2 ^ (50 * k) : Nat) : Int)).natAbs).length := ⟨_, rfl⟩
      rw [← hng, ← hln] at HMl hrow
      rw [← hng] at c0
      rw [← hln] at c1
      have Hrow := hid hrow
      obtain ⟨z, hz⟩ : ∃ z, z = ((2 ^ n : Nat) : Int) := ⟨_, rfl⟩
      rw [← hz] at HMl
      have HZ := hid hz
      clear hnv hng hln hrow hd1 hd2 hpb hz
      go_upto_region 5 with fail
      go_region_law (first
        | (go_simp; go_at_call 33; ((with_reducible refine (HOf.out _).mono ?_)); rintro e w2 ⟨v, rfl, hv, hk⟩; obtain ⟨d0, d1, e0, e1⟩ := NumC.facts (base := 0) (z := 0) (hk.row (HD0.out.row Hrow.out (fun h => h)) (fun h => h)); have HV2 := hid hv; have HK2 := hid (HD0.out.trans hk); clear hv hk)
        | (go_simp; go_at_call 27; ((with_reducible refine (HMl.out _ _ _ HV2.out HK2.out).mono ?_)); rintro e w3 ⟨v3, rfl, hv3, hk3⟩; obtain ⟨a3, c3, rfl, g1, g2⟩ := hv3; have hrow3 := hk3.row (HK2.out.row HR0r.out (fun h => h)) (fun h => h); obtain ⟨i0, i1, i2, i3⟩ := NumC.facts (base := 0) (z := 0) hrow3; have Hrow3 := hid hrow3; have G1 := hid g1; have G2 := hid g2; have HK3 := hid (HK2.out.trans hk3); obtain ⟨nz, hnz⟩ : ∃ nz, nz = decide (z < 0) := ⟨_, rfl⟩; obtain ⟨lz, hlz⟩ : ∃ lz, lz = (digs z.natAbs).length := ⟨_, rfl⟩; rw [← hnz, ← hlz]; have HNZ := hid hnz; have HLZ := hid hlz; clear g1 g2 hk3 hrow3 hnz hlz))
      all_goals
        go_wp2_with fail
        have hs2 : w.heap.size < w2.heap.size := Nat.lt_of_lt_of_le HR0r.out.lt HK2.out.size
        obtain ⟨hrow, hnv, hkf⟩ := num_done (w := w) (wr := w3) (p := w.heap.size) (z := z) (ng := nz) (a := a3) (l := lz) (c := c3) Hrow3.out (Nat.le_refl _) (HKr.out.trans HK3.out) G1.out (fun k hk => by have := G2.out k hk; omega) HLZ.out HNZ.out
        obtain ⟨e0, e1, _, _⟩ := RowAt.facts2 hrow
        generalize ((w3.setCell ⟨w.heap.size, 0, none⟩ (.bool nz)).setCell ⟨w.heap.size, 1, none⟩ (.slice a3 lz c3)) = wf at *
        refine bodyPost_ret (v := .agg #[.bool nz, .slice a3 lz c3]) ?_ rfl ⟨_, rfl, (by rw [← HZ.out]; exact hnv), hkf⟩
        simp [results, Tryz.results42, go_sem, e0, e1]
end Go.Proofs
