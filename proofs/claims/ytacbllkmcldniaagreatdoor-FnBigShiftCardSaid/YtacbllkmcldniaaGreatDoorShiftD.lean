/- Parts of the proofs over the numbers of any length: Two, Law10. -/
import Derived.Outline
import Derived.Test.YtacbllkmcldniaaGreatDoorSpecC
import Derived.Test.YtacbllkmcldniaaGreatDoorSpecD
import Derived.Test.YtacbllkmcldniaaGreatDoorSpecB
import Derived.Test.YtacbllkmcldniaaGreatDoorShiftB
import Derived.Test.YtacbllkmcldniaaGreatDoorDivdA
import Derived.Test.YtacbllkmcldniaaGreatDoorBaseD
set_option linter.unusedSimpArgs false
set_option linter.unusedVariables false
namespace Go.Proofs
open Go.RowKit
set_option maxHeartbeats 1600000
set_option linter.unusedVariables false
set_option linter.unusedSimpArgs false
set_option maxRecDepth 100000

theorem two_digs {k : Nat} (h : k ≤ 3000) : (digs (((2 ^ k : Nat) : Int)).natAbs).length ≤ 40000 := by
  rw [Int.natAbs_natCast]
  refine Nat.le_trans (digs_len (k := k + 1) ?_) (by omega)
  exact Nat.lt_of_lt_of_le (Nat.lt_of_lt_of_le Nat.lt_two_pow_self (by omega : 2 ^ k ≤ 2 ^ k) |> fun _ => Nat.pow_lt_pow_right (by omega) (Nat.lt_succ_self k)) (Nat.pow_le_pow_left (by omega) _)

theorem two42 (n : Nat) (w : World) (hn : n ≤ 2000) : Calls Tryz.prog 42 #[.int .i64 (n : Int)] w (NRes w ((2 ^ n : Nat) : Int)) := by
  obtain ⟨w0, hw0⟩ : ∃ W, W = w.alloc (.cells #[.bool false, .slice none 0 0] 24) := ⟨_, rfl⟩
  have hk0 : Keeps (fun _ => False) w w0 := by rw [hw0]; exact (Keeps.refl _ w).alloc _
  have hr0 : RowAt w0 w.heap.size 24 [.bool false, .slice none 0 0] := by rw [hw0]; exact RowAt.new w 24 [.bool false, .slice none 0 0]
  have HO := hid (of33 1 w0 (by omega) (by omega))
  have HK0 := hid hk0; have HR0 := hid hr0
  go_enter Tryz.func42, Tryz.ntmps42
  go_wp2_with fail
  rw [← hw0]
  clear hw0 hk0 hr0
  refine HO.out.mono ?_
  rintro e w1 ⟨v, rfl, hv, hk⟩
  obtain ⟨av, cv, rfl, hv1, hv2⟩ := hv
  obtain ⟨n1, hn1⟩ : ∃ n1, n1 = decide ((1 : Int) < 0) := ⟨_, rfl⟩
  obtain ⟨l1, hl1⟩ : ∃ l1, l1 = (digs (1 : Int).natAbs).length := ⟨_, rfl⟩
  rw [← hn1, ← hl1]
  have HV := hid hv1; have HV2 := hid hv2; have HK := hid (HK0.out.trans hk); have Hn1 := hid hn1; have Hl1 := hid hl1
  have HR1 := hid (hk.row HR0.out (fun h => h))
  have HS1 := hid hk.size
  clear hv1 hv2 hk hn1 hl1 HO
  go_wp2_with fail
  obtain ⟨p, hp⟩ : ∃ p, p = w1.heap.size := ⟨_, rfl⟩
  obtain ⟨W, hW⟩ : ∃ W, W = w1.alloc (.cells #[.bool n1, .slice av l1 cv] 24) := ⟨_, rfl⟩
  have hkW : Keeps (fun _ => False) w1 W := by rw [hW]; exact (Keeps.refl _ w1).alloc _
  have hN : NumC W w.heap.size p 1 := by
    refine ⟨av, cv, ?_, ?_⟩
    · rw [← Hn1.out, ← Hl1.out, hW, hp]; exact RowAt.new w1 24 _
    · exact ⟨av, cv, rfl, HV.out.keep hkW (fun _ _ h => h), fun k hk => Nat.le_trans HK0.out.size (HV2.out k hk)⟩
  have hKW : Keeps (fun _ => False) w W := HK.out.trans hkW
  have hpw : w.heap.size + 1 ≤ p := by rw [hp]; have := HR1.out.lt; omega
  have hRW := hkW.row HR1.out (fun h => h)
  rw [← hp, ← hW]
  have HN := hid hN; have HKW := hid hKW; have Hpw := hid hpw; have HRW := hid hRW
  clear hp hW hkW hN hKW hpw hRW HV HV2 Hn1 Hl1 HK HR0 HR1
  go_loopw [0] (fun iv wr => ∃ m k : Nat, iv = .int .i64 (m : Int) ∧ 50 * k + m = n ∧ NumC wr w.heap.size p ((2 ^ (50 * k) : Nat) : Int) ∧ RowAt wr w.heap.size 24 [.bool false, .slice none 0 0] ∧ Keeps (fun _ => False) w wr) (fun iv _ => (intOf iv).toNat)
  case atStart => exact ⟨n, 0, rfl, by omega, HN.out, HRW.out, HKW.out⟩
  case round =>
    obtain ⟨m, k, rfl, hmk, hnum, hrow0, hkr⟩ := hrel
    have HNr := hid hnum; have HKr := hid hkr; have HR0r := hid hrow0; have HMK := hid hmk
    have hm2 : m ≤ 2000 := by omega
    clear hnum hkr hrow0 hmk
    obtain ⟨ac, cc, hrow, hnv⟩ := HNr.out
    obtain ⟨c0, c1, f0, f1⟩ := NumC.facts (base := 0) (z := 0) hrow
    have hd1 : (digs (((2 ^ (50 * k) : Nat) : Int)).natAbs).length ≤ 40000 := two_digs (by have := HMK.out; omega)
    by_cases hlt : 50 ≤ m
    · have t1 : decide (50 ≤ (m : Int)) = true := by simp; omega
      have t2 : decide ((50 : Int) ≤ (m : Int)) = true := by simp; omega
      have gw : wrap64 ((m : Int) - 50) = ((m - 50 : Nat) : Int) := by unfold wrap64; omega
      have gw2 : IntKind.i64.wrap ((m : Int) - 50) = ((m - 50 : Nat) : Int) := by rw [IntKind.wrap_i64]; omega
      have HOf := hid (fun W => of33 1125899906842624 W (by omega) (by omega))
      have hd2 : (digs (1125899906842624 : Int).natAbs).length ≤ 40000 := Nat.le_trans (digs_len (k := 17) (by decide)) (by omega)
      have HMl : Hid (∀ (w2 : World) (v : Value) (b' : Nat), NumV w2 b' v 1125899906842624 → Keeps (fun _ => False) wr w2 → Calls Tryz.prog 27 #[.agg #[.bool (decide (((2 ^ (50 * k) : Nat) : Int) < 0)), .slice ac (digs (((2 ^ (50 * k) : Nat) : Int)).natAbs).length cc], v] w2 (NRes w2 (((2 ^ (50 * (k + 1)) : Nat) : Int)))) :=
        hid (fun w2 v b' h1 h2 => by
          have := mul27 _ v _ _ w.heap.size b' w2 (hnv.keep h2 (fun _ _ h => h)) h1 hd1 hd2
          rwa [show ((2 ^ (50 * k) : Nat) : Int) * 1125899906842624 = ((2 ^ (50 * (k + 1)) : Nat) : Int) by
            rw [show 50 * (k + 1) = 50 * k + 50 by omega, Nat.pow_add, Int.natCast_mul]; rfl] at this)
      have HD0 : Hid (Keeps (fun _ => False) wr wr.drew) := hid (Keeps.refl _ wr).drew
      obtain ⟨ng, hng⟩ : ∃ ng, ng = decide (((2 ^ (50 * k) : Nat) : Int) < 0) := ⟨_, rfl⟩
      obtain ⟨ln, hln⟩ : ∃ ln, ln = (digs (((2 ^ (50 * k) : Nat) : Int)).natAbs).length := ⟨_, rfl⟩
      rw [← hng, ← hln] at HMl hrow
      rw [← hng] at c0
      rw [← hln] at c1
      have Hrow := hid hrow
      obtain ⟨zz, hzz⟩ : ∃ zz, zz = ((2 ^ (50 * (k + 1)) : Nat) : Int) := ⟨_, rfl⟩
      rw [← hzz] at HMl
      have HZZ := hid hzz
      clear hnv hng hln hrow hd1 hd2 hzz
      go_wp2_with fail
      go_region_law (first
        | (go_simp; go_at_call 33; ((with_reducible refine (HOf.out _).mono ?_)); rintro e w2 ⟨v, rfl, hv, hk⟩; obtain ⟨d0, d1, e0, e1⟩ := NumC.facts (base := 0) (z := 0) (hk.row (HD0.out.row Hrow.out (fun h => h)) (fun h => h)); have HV2 := hid hv; have HK2 := hid (HD0.out.trans hk); clear hv hk)
        | (go_simp; go_at_call 27; ((with_reducible refine (HMl.out _ _ _ HV2.out HK2.out).mono ?_)); rintro e w3 ⟨v3, rfl, hv3, hk3⟩; obtain ⟨a3, c3, rfl, g1, g2⟩ := hv3; have hrow3 := hk3.row (HK2.out.row Hrow.out (fun h => h)) (fun h => h); obtain ⟨i0, i1, i2, i3⟩ := NumC.facts (base := 0) (z := 0) hrow3; have Hrow3 := hid hrow3; have G1 := hid g1; have G2 := hid g2; have HK3 := hid (HK2.out.trans hk3); clear g1 g2 hk3 hrow3))
      all_goals
        go_wp2_with fail
        have hkk := HKr.out.trans HK3.out
        have hpl : p < w2.heap.size := Nat.lt_of_lt_of_le Hrow.out.lt HK2.out.size
        refine ⟨⟨m - 50, k + 1, rfl, by have := HMK.out; omega, ?_, ?_, (hkk.setCell _ (.inr (show w.heap.size ≤ p by have := Hpw.out; omega)) _).setCell _ (.inr (show w.heap.size ≤ p by have := Hpw.out; omega)) _⟩, by simp only [intOf]; omega⟩
        · rw [← HZZ.out]
          exact NumC.store Hrow3.out hpl (by have := Hpw.out; omega) G1.out G2.out
        · exact ((HK3.out.row HR0r.out (fun h => h)).other (show (⟨p, 0, none⟩ : Addr).block ≠ w.heap.size by have := Hpw.out; show p ≠ _; omega) _).other (show (⟨p, 1, none⟩ : Addr).block ≠ w.heap.size by have := Hpw.out; show p ≠ _; omega) _
    · have t1 : decide (50 ≤ (m : Int)) = false := by simp; omega
      obtain ⟨pw, hpw2⟩ : ∃ pw, pw = 2 ^ m := ⟨_, rfl⟩
      have hpb : pw ≤ 2 ^ 50 := by rw [hpw2]; exact Nat.pow_le_pow_right (by omega) (by omega)
      have HOf := hid (fun W => of33 (pw : Int) W (by omega) (by have : (2 : Nat) ^ 50 = 1125899906842624 := by decide
                                                                 omega))
      have HPW := hid hpw2
      clear hpw2
      have gu : IntKind.u64.wrap (m : Int) = (m : Int) := by rw [IntKind.wrap_u64]; omega
      have gm : min m 64 = m := by omega
      have gp : IntKind.i64.wrap (2 ^ m) = (pw : Int) := by
        rw [show ((2 : Int) ^ m) = (pw : Int) by rw [HPW.out, Int.natCast_pow]; rfl, IntKind.wrap_i64]
        have : (2 : Nat) ^ 50 = 1125899906842624 := by decide
        omega
      have hd2 : (digs ((pw : Int)).natAbs).length ≤ 40000 := Nat.le_trans (digs_len (k := 17) (by rw [Int.natAbs_natCast]; exact Nat.lt_of_le_of_lt hpb (by decide))) (by omega)
      have HMl : Hid (∀ (w2 : World) (v : Value) (b' : Nat), NumV w2 b' v (pw : Int) → Keeps (fun _ => False) wr w2 → Calls Tryz.prog 27 #[.agg #[.bool (decide (((2 ^ (50 * k) : Nat) : Int) < 0)), .slice ac (digs (((2 ^ (50 * k) : Nat) : Int)).natAbs).length cc], v] w2 (NRes w2 (((2 ^ n : Nat) : Int)))) :=
        hid (fun w2 v b' h1 h2 => by
          have := mul27 _ v _ _ w.heap.size b' w2 (hnv.keep h2 (fun _ _ h => h)) h1 hd1 hd2
          rwa [show ((2 ^ (50 * k) : Nat) : Int) * (pw : Int) = ((2 ^ n : Nat) : Int) by
            rw [HPW.out, ← HMK.out, Nat.pow_add, Int.natCast_mul]] at this)
      have HD0 : Hid (Keeps (fun _ => False) wr wr.drew) := hid (Keeps.refl _ wr).drew
      obtain ⟨ng, hng⟩ : ∃ ng, ng = decide (((2 ^ (50 * k) : Nat) : Int) < 0) := ⟨_, rfl⟩
      obtain ⟨ln, hln⟩ : ∃ ln, ln = (digs (((2 ^ (50 * k) : Nat) : Int)).natAbs).length := ⟨_, rfl⟩
      rw [← hng, ← hln] at HMl hrow
      rw [← hng] at c0
      rw [← hln] at c1
      have Hrow := hid hrow
      obtain ⟨z, hz⟩ : ∃ z, z = ((2 ^ n : Nat) : Int) := ⟨_, rfl⟩
      rw [← hz] at HMl
      have HZ := hid hz
      clear hnv hng hln hrow hd1 hd2 hpb hz
      go_upto_region 5 with fail
      go_region_law (first
        | (go_simp; go_at_call 33; ((with_reducible refine (HOf.out _).mono ?_)); rintro e w2 ⟨v, rfl, hv, hk⟩; obtain ⟨d0, d1, e0, e1⟩ := NumC.facts (base := 0) (z := 0) (hk.row (HD0.out.row Hrow.out (fun h => h)) (fun h => h)); have HV2 := hid hv; have HK2 := hid (HD0.out.trans hk); clear hv hk)
        | (go_simp; go_at_call 27; ((with_reducible refine (HMl.out _ _ _ HV2.out HK2.out).mono ?_)); rintro e w3 ⟨v3, rfl, hv3, hk3⟩; obtain ⟨a3, c3, rfl, g1, g2⟩ := hv3; have hrow3 := hk3.row (HK2.out.row HR0r.out (fun h => h)) (fun h => h); obtain ⟨i0, i1, i2, i3⟩ := NumC.facts (base := 0) (z := 0) hrow3; have Hrow3 := hid hrow3; have G1 := hid g1; have G2 := hid g2; have HK3 := hid (HK2.out.trans hk3); obtain ⟨nz, hnz⟩ : ∃ nz, nz = decide (z < 0) := ⟨_, rfl⟩; obtain ⟨lz, hlz⟩ : ∃ lz, lz = (digs z.natAbs).length := ⟨_, rfl⟩; rw [← hnz, ← hlz]; have HNZ := hid hnz; have HLZ := hid hlz; clear g1 g2 hk3 hrow3 hnz hlz))
      all_goals
        go_wp2_with fail
        have hs2 : w.heap.size < w2.heap.size := Nat.lt_of_lt_of_le HR0r.out.lt HK2.out.size
        obtain ⟨hrow, hnv, hkf⟩ := num_done (w := w) (wr := w3) (p := w.heap.size) (z := z) (ng := nz) (a := a3) (l := lz) (c := c3) Hrow3.out (Nat.le_refl _) (HKr.out.trans HK3.out) G1.out (fun k hk => by have := G2.out k hk; omega) HLZ.out HNZ.out
        obtain ⟨e0, e1, _, _⟩ := RowAt.facts2 hrow
        generalize ((w3.setCell ⟨w.heap.size, 0, none⟩ (.bool nz)).setCell ⟨w.heap.size, 1, none⟩ (.slice a3 lz c3)) = wf at *
        refine bodyPost_ret (v := .agg #[.bool nz, .slice a3 lz c3]) ?_ rfl ⟨_, rfl, (by rw [← HZ.out]; exact hnv), hkf⟩
        simp [results, Tryz.results42, go_sem, e0, e1]
end Go.Proofs
namespace Go.Proofs
open Go.RowKit
set_option maxHeartbeats 1600000
set_option linter.unusedVariables false
set_option linter.unusedSimpArgs false
set_option maxRecDepth 100000

theorem RowAt.num {w : World} {p : Nat} {x y : Value} (h : RowAt w p 24 [x, y]) : w.cell? ⟨p, 0, none⟩ = some x ∧ w.cell? ⟨p, 1, none⟩ = some y := ⟨h.cell 0, h.cell 1⟩
theorem Txt.lt {s : ByteArray} {z : Int} (h : Txt s z) : z.natAbs < 10 ^ 200 := by
  obtain ⟨n, l, d, ht, rfl, _⟩ := h
  rw [numZ_abs]
  have h1 := dval_lt (fun k hk => (ht.dig.2 k hk).1)
  have h2 := ht.dig.1
  have h3 := ht.size
  exact Nat.lt_of_lt_of_le h1 (Nat.pow_le_pow_right (by omega) (by omega))
/-- A number of the reference in a block of its own, its parts under names. -/
def NumB (w : World) (p : Nat) (n : Bool) (a : Option Addr) (l c : Nat) (z : Int) : Prop := RowAt w p 24 [.bool n, .slice a l c] ∧ ∀ b, (∀ k, InB a k → b ≤ k) → NumV w b (.agg #[.bool n, .slice a l c]) z
theorem NumB.v {w : World} {p : Nat} {n : Bool} {a : Option Addr} {l c : Nat} {z : Int} (h : NumB w p n a l c z) : NumV w 0 (.agg #[.bool n, .slice a l c]) z := h.2 0 (fun _ _ => Nat.zero_le _)
theorem NumB.keep {w w' : World} {p : Nat} {n : Bool} {a : Option Addr} {l c : Nat} {z : Int} (h : NumB w p n a l c z) (hk : Keeps (fun _ => False) w w') : NumB w' p n a l c z :=
  ⟨hk.row h.1 (fun h => h), fun b hb => (h.2 b hb).keep hk (fun _ _ h => h)⟩
theorem NumB.cells {w : World} {p : Nat} {n : Bool} {a : Option Addr} {l c : Nat} {z : Int} (h : NumB w p n a l c z) : w.cell? ⟨p, 0, none⟩ = some (.bool n) ∧ w.cell? ⟨p, 1, none⟩ = some (.slice a l c) := h.1.num
/-- A number that a call gave, its parts under names. -/
theorem NumV.parts {w : World} {b : Nat} {v : Value} {z : Int} (h : NumV w b v z) : ∃ n a l c, v = .agg #[.bool n, .slice a l c] ∧ (∀ w', Keeps (fun _ => False) w w' → ∀ b, (∀ k, InB a k → b ≤ k) → NumV w' b (.agg #[.bool n, .slice a l c]) z) := by
  obtain ⟨a, c, rfl, hr, _⟩ := h
  exact ⟨_, a, _, c, rfl, fun w' hk b hb => ⟨a, c, rfl, hr.keep hk (fun _ _ h => h), hb⟩⟩
theorem NumB.new {w : World} {n : Bool} {a : Option Addr} {l c : Nat} {z : Int} (h : ∀ w', Keeps (fun _ => False) w w' → ∀ b, (∀ k, InB a k → b ≤ k) → NumV w' b (.agg #[.bool n, .slice a l c]) z) : NumB (w.alloc (.cells #[.bool n, .slice a l c] 24)) w.heap.size n a l c z :=
  ⟨RowAt.new w 24 [.bool n, .slice a l c], h _ ((Keeps.refl _ w).alloc _)⟩
theorem digs_lt {z : Int} {k : Nat} (h : z.natAbs < 10 ^ k) (hk : k ≤ 40000) : (digs z.natAbs).length ≤ 40000 := Nat.le_trans (digs_len h) hk

theorem law10 (a : ByteArray) (n : Nat) (al : Bool) (w : World) (G : Glob w) (hma : a.size ≤ 9223372036854775807) (hn : n ≤ 65535) :
    Calls Tryz.prog 10 #[.string a, .int .u16 (n : Int), .bool al] w fun e w' => e = .returned (.bool true) ∧ Keeps (fun _ => False) w w' := by
  have HG := hid G
  clear G
  by_cases ha : a.size ≤ 2147483647
  · have H1 := hid (bigRight_any a w ha)
    go_enter Tryz.func10, Tryz.ntmps10
    go_wp2_with fail
    refine H1.out.mono ?_
    rintro e w1 ⟨hk1, hcase⟩
    have HK1 := hid hk1
    clear hk1 H1
    rcases hcase with ⟨x, v, htx, rfl, hnv⟩ | ⟨n1, a1, l1, c1, rfl⟩
    · have HTX := hid htx
      obtain ⟨n1, a1, l1, c1, rfl, hp⟩ := hnv.parts
      have HP := hid hp
      clear htx hnv hp
      by_cases hn3 : n ≤ 300
      · have t3 : decide (300 < n) = false := by simp; omega
        have t3' : decide ((300 : Int) < (n : Int)) = false := by simp; omega
        obtain ⟨W1, hW1⟩ : ∃ W, W = w1.alloc (.cells #[.bool n1, .slice a1 l1 c1] 24) := ⟨_, rfl⟩
        obtain ⟨p1, hp1⟩ : ∃ p, p = w1.heap.size := ⟨_, rfl⟩
        have hB1 : NumB W1 p1 n1 a1 l1 c1 x := by rw [hW1, hp1]; exact NumB.new HP.out
        have hK1 : Keeps (fun _ => False) w W1 := by rw [hW1]; exact HK1.out.alloc _
        have HB1 := hid hB1; have HKW := hid hK1
        have HG1 := hid (HG.out.keep hK1 (fun _ _ h => h))
        have HXL := hid (Txt.lt HTX.out)
        have gu : IntKind.u64.wrap (n : Int) = (n : Int) := by rw [IntKind.wrap_u64]; omega
        have gi : IntKind.i64.wrap (n : Int) = (n : Int) := by rw [IntKind.wrap_i64]; omega
        obtain ⟨T1, hT1⟩ : ∃ T, T = strB (txt (decide (x * ((2 ^ n : Nat) : Int) < 0)) (x * ((2 ^ n : Nat) : Int)).natAbs) := ⟨_, rfl⟩
        obtain ⟨T2, hT2⟩ : ∃ T, T = strB (txt (decide (x / ((2 ^ n : Nat) : Int) < 0)) (x / ((2 ^ n : Nat) : Int)).natAbs) := ⟨_, rfl⟩
        have HSh : Hid (Calls Tryz.prog 41 #[.string a, .int .u64 (n : Int), .bool al] W1 fun e w' => e = .returned (.tuple #[.string T1, .string T2]) ∧ Keeps (fun _ => False) W1 w') := hid (by
          obtain ⟨na, la, da, hta, hx, _⟩ := HTX.out
          exact bigShift41 a na da la x al n T1 T2 W1 hta hx HXL.out hn3 HG1.out hT1 hT2)
        have HTw := hid (fun W => two42 n W (by omega))
        have hp2 : (0 : Int) < ((2 ^ n : Nat) : Int) := by have := Nat.two_pow_pos n; omega
        obtain ⟨M, hM⟩ : ∃ M, M = 400 := ⟨_, rfl⟩
        have hpl : ((2 ^ n : Nat) : Int).natAbs < 10 ^ M := by
          rw [Int.natAbs_natCast]
          exact Nat.lt_of_le_of_lt (Nat.pow_le_pow_left (show 2 ≤ 10 by omega) n) (Nat.pow_lt_pow_right (by omega) (by omega))
        have hxl : x.natAbs < 10 ^ M := Nat.lt_of_lt_of_le HXL.out (Nat.pow_le_pow_right (by omega) (by omega))
        have HDv : Hid (∀ W vx vy, NumV W 0 vx x → NumV W 0 vy ((2 ^ n : Nat) : Int) → Calls Tryz.prog 36 #[vx, vy] W fun e w' => ∃ v1 v2, e = .returned (.tuple #[v1, v2]) ∧ NumV w' W.heap.size v1 (x / ((2 ^ n : Nat) : Int)) ∧ (∃ z, NumV w' W.heap.size v2 z) ∧ Keeps (fun _ => False) W w') := hid (fun W vx vy h1 h2 => by
          refine (divided36 vx vy x _ 0 0 W h1 h2 (by omega) (digs_lt hxl (by omega)) (digs_lt hpl (by omega))).mono ?_
          rintro e w' ⟨v1, v2, rfl, k1, k2, k3⟩
          rw [(dm_pos hp2).1] at k1
          exact ⟨v1, v2, rfl, k1, ⟨_, k2⟩, k3⟩)
        have HMl : Hid (∀ W vx vy, NumV W 0 vx x → NumV W 0 vy ((2 ^ n : Nat) : Int) → Calls Tryz.prog 27 #[vx, vy] W (NRes W (x * ((2 ^ n : Nat) : Int)))) := hid (fun W vx vy h1 h2 => mul27 vx vy x _ 0 0 W h1 h2 (digs_lt hxl (by omega)) (digs_lt hpl (by omega)))
        have HX1 : Hid (∀ W v b, NumV W b v (x * ((2 ^ n : Nat) : Int)) → Calls Tryz.prog 22 #[v] W fun e w' => e = .returned (.string T1) ∧ Keeps (fun _ => False) W w') := hid (fun W v b h => by
          rw [hT1]
          refine text22 v _ b W h (Nat.le_trans (digs_len (k := M + M) ?_) (by omega))
          rw [Int.natAbs_mul, Nat.pow_add]
          exact Nat.mul_lt_mul_of_lt_of_lt hxl hpl)
        have HX2 : Hid (∀ W v b, NumV W b v (x / ((2 ^ n : Nat) : Int)) → Calls Tryz.prog 22 #[v] W fun e w' => e = .returned (.string T2) ∧ Keeps (fun _ => False) W w') := hid (fun W v b h => by
          rw [hT2]
          refine text22 v _ b W h (Nat.le_trans (digs_len (k := M + 100) ?_) (by omega))
          refine Nat.lt_of_le_of_lt (m := x.natAbs + 1) ?_ (Nat.lt_of_lt_of_le (Nat.succ_lt_succ hxl) ?_)
          · by_cases h : x < 0
            · rw [(rsh_neg h n).2]
              have := Nat.div_le_self (x.natAbs - 1) (2 ^ n)
              omega
            · rw [(rsh_pos (by omega) n).2]
              have := Nat.div_le_self x.natAbs (2 ^ n)
              omega
          · rw [Nat.pow_add]
            have h1 : 1 ≤ 10 ^ M := Nat.pow_pos (by omega)
            have h2 : 2 ≤ 10 ^ 100 := by decide
            exact Nat.le_trans (show 10 ^ M + 1 ≤ 10 ^ M * 2 by omega) (Nat.mul_le_mul_left _ h2))
        have HAl := hid (fun W (hk : Keeps (fun _ => False) W1 W) => bigAlive_true W (HG1.out.keep hk (fun _ _ h => h)))
        clear hB1 hK1 hp2 hpl hxl hM hT1 hT2 HTX HXL HG
        go_upto_region 4 with fail
        rw [← hW1, ← hp1]
        obtain ⟨b0, b1⟩ := HB1.out.cells
        clear hW1 hp1
        go_wp2_with fail
        refine HSh.out.mono ?_
        rintro e w2 ⟨rfl, hk2⟩
        have HK2 := hid hk2
        clear hk2 HSh b0 b1
        go_wp2_with fail
        refine (HTw.out _).mono ?_
        rintro e w3 ⟨v, rfl, hv, hk3⟩
        obtain ⟨n2, a2, l2, c2, rfl, hp⟩ := hv.parts
        have HP2 := hid hp
        have HK3 := hid (HK2.out.trans hk3)
        clear hv hp hk3 HTw HP
        go_upto_region 8 with fail
        obtain ⟨W3, hW3⟩ : ∃ W, W = w3.alloc (.cells #[.bool n2, .slice a2 l2 c2] 24) := ⟨_, rfl⟩
        obtain ⟨p2, hp2⟩ : ∃ p, p = w3.heap.size := ⟨_, rfl⟩
        have hB2 : NumB W3 p2 n2 a2 l2 c2 ((2 ^ n : Nat) : Int) := by rw [hW3, hp2]; exact NumB.new HP2.out
        have hK3 : Keeps (fun _ => False) W1 W3 := by rw [hW3]; exact HK3.out.alloc _
        have HB2 := hid hB2; have HKW3 := hid hK3
        have HB13 := hid (HB1.out.keep hK3)
        rw [← hW3, ← hp2]
        obtain ⟨b0, b1⟩ := HB13.out.cells
        obtain ⟨b2, b3⟩ := HB2.out.cells
        clear hB2 hK3 hW3 hp2 HP2
        go_wp2_with fail
        refine (HDv.out _ _ _ HB13.out.v HB2.out.v).mono ?_
        rintro e w4 ⟨v1, v2, rfl, hv1, ⟨z2, hv2⟩, hk4⟩
        obtain ⟨n3, a3, l3, c3, rfl, hp3⟩ := hv1.parts
        obtain ⟨n4, a4, l4, c4, rfl, hp4⟩ := hv2.parts
        have HP3 := hid hp3
        have HK4 := hid hk4
        clear hv1 hv2 hp3 hp4 hk4 b0 b1 b2 b3 HDv
        go_upto_region 9 with fail
        obtain ⟨W4, hW4⟩ : ∃ W, W = (w4.alloc (.cells #[.bool n3, .slice a3 l3 c3] 24)).alloc (.cells #[.bool n4, .slice a4 l4 c4] 24) := ⟨_, rfl⟩
        obtain ⟨p3, hp3⟩ : ∃ p, p = w4.heap.size := ⟨_, rfl⟩
        have hB3 : NumB W4 p3 n3 a3 l3 c3 (x / ((2 ^ n : Nat) : Int)) := by rw [hW4, hp3]; exact (NumB.new HP3.out).keep ((Keeps.refl _ _).alloc _)
        have hK4 : Keeps (fun _ => False) W3 W4 := by rw [hW4]; exact (HK4.out.alloc _).alloc _
        have HB3 := hid hB3; have HKW4 := hid hK4
        have HB14 := hid (HB13.out.keep hK4); have HB24 := hid (HB2.out.keep hK4)
        rw [← hW4, ← hp3]
        have HA := hid (HAl.out W4 (HKW3.out.trans hK4))
        clear hB3 hK4 hW4 hp3 HP3 HAl
        go_wp2_with fail
        refine HA.out.mono ?_
        rintro e w5 ⟨rfl, hk5⟩
        have HB15 := hid (HB14.out.keep hk5); have HB25 := hid (HB24.out.keep hk5); have HB35 := hid (HB3.out.keep hk5)
        have HK5 := hid hk5
        obtain ⟨b0, b1⟩ := HB15.out.cells
        obtain ⟨b2, b3⟩ := HB25.out.cells
        clear hk5 HA
        go_wp2_with fail
        refine (HMl.out _ _ _ HB15.out.v HB25.out.v).mono ?_
        rintro e w6 ⟨v6, rfl, hv6, hk6⟩
        have HT6 := hid (HX1.out _ _ _ hv6)
        have HK6 := hid (HK5.out.trans hk6)
        clear hv6 hk6 HMl b0 b1 b2 b3
        go_wp2_with fail
        refine HT6.out.mono ?_
        rintro e w7 ⟨rfl, hk7⟩
        have HK7 := hid (HK6.out.trans hk7)
        have HB37 := hid (HB3.out.keep HK7.out)
        obtain ⟨b0, b1⟩ := HB37.out.cells
        clear hk7 HT6
        go_wp2_with fail
        refine (HX2.out _ _ _ HB37.out.v).mono ?_
        rintro e w8 ⟨rfl, hk8⟩
        have HK8 := hid (HK7.out.trans hk8)
        clear hk8 b0 b1
        go_wp2_with fail
        go_ret
        exact ⟨rfl, ((HKW.out.trans HKW3.out).trans HKW4.out).trans HK8.out⟩
      · have t3 : decide (300 < n) = true := by simp; omega
        have t3' : decide ((300 : Int) < (n : Int)) = true := by simp; omega
        clear hn3
        go_wp2_with fail
        have hk : Keeps (fun _ => False) w (w1.alloc (.cells #[.bool n1, .slice a1 l1 c1] 24)) := HK1.out.alloc _
        have HKK := hid hk
        have HG2 := hid (HG.out.keep hk (fun _ _ h => h))
        clear hk
        refine (bigAlive_true _ HG2.out).mono ?_
        rintro e w3 ⟨rfl, hk3⟩
        have HK3 := hid hk3
        clear hk3
        go_wp2_with fail
        go_ret
        exact ⟨rfl, HKK.out.trans HK3.out⟩
    · go_wp2_with fail
      have hk : Keeps (fun _ => False) w (w1.alloc (.cells #[.bool n1, .slice a1 l1 c1] 24)) := HK1.out.alloc _
      have HKK := hid hk
      have HG2 := hid (HG.out.keep hk (fun _ _ h => h))
      clear hk
      refine (bigAlive_true _ HG2.out).mono ?_
      rintro e w3 ⟨rfl, hk3⟩
      have HK3 := hid hk3
      clear hk3
      go_wp2_with fail
      go_ret
      exact ⟨rfl, HKK.out.trans HK3.out⟩
  · go_enter Tryz.func10, Tryz.ntmps10
    go_wp2_with fail
    go_ret
    exact ⟨rfl, Keeps.refl _ _⟩
end Go.Proofs
