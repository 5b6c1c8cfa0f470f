/- Parts of the proofs over the numbers of any length: Pow116, Pow47, NumTxt. -/
import Derived.Deep.RegionHeld3
import Derived.Test.YtacbllkmcldniaaGreatDoorPowA
import Derived.Test.YtacbllkmcldniaaGreatDoorTellA
import Derived.Test.YtacbllkmcldniaaGreatDoorConvA
import Derived.Test.YtacbllkmcldniaaGreatDoorMadeA
import Derived.Test.YtacbllkmcldniaaGreatDoorIntA
import Derived.Test.YtacbllkmcldniaaGreatDoorSpecA
import Derived.Test.YtacbllkmcldniaaGreatDoorBaseD
set_option linter.unusedSimpArgs false
set_option linter.unusedVariables false
namespace Go.Proofs
open Go.RowKit
set_option maxHeartbeats 2000000
set_option linter.unusedVariables false
set_option linter.unusedSimpArgs false
set_option maxRecDepth 100000

theorem size_new (w : World) (o : Obj) : (w.alloc o).heap.size = w.heap.size + 1 := by simp
theorem len_200' {w : World} {p t l c : Nat} {x : Int} {a : Option Addr} (h : IntS w p t x a l c) (hx : x.natAbs < 10 ^ 200) : l ≤ 11 := by
  rw [← h.rd.length]
  exact words_lt (Nat.lt_of_lt_of_le hx (by unfold W64; decide +kernel))
theorem pow116_nil (M A B O : Nat) (sm sa sb : ByteArray) (na nb : Bool) (da db : Nat → Nat) (la lb : Nat) (x : Int) (v : Nat) (T s0 : ByteArray) (w : World)
    (hM : w.cell? ⟨M, 0, none⟩ = some (.string sm)) (hA : w.cell? ⟨A, 0, none⟩ = some (.string sa)) (hB : w.cell? ⟨B, 0, none⟩ = some (.string sb)) (ta : NumText sa na la da) (tb : NumText sb nb lb db) (r : RowAt w O 9 [.string s0]) (hMO : M ≠ O) (hAO : A ≠ O) (hBO : B ≠ O)
    (hx : x = numZ na (dval da la)) (hv : (v : Int) = numZ nb (dval db lb)) (hvl : v < W64) (G : Glob w) (hsm : sm = { data := #[] }) (hlx : x.natAbs < 10 ^ 200) (hb : x.natAbs ^ (v / 2) < W64 ^ 11) (hbt : (x ^ v).natAbs < TXB) (hT : T = strB (txt (decide (x ^ v < 0)) (x ^ v).natAbs)) :
    Calls Tryz.prog 116 #[.pointer (some ⟨M, 0, none⟩), .pointer (some ⟨A, 0, none⟩), .pointer (some ⟨B, 0, none⟩), .pointer (some ⟨O, 0, none⟩)] w fun e w' => e = .returned (.tuple #[]) ∧ OutL w' [(O, 9, .string T)] ∧ Keeps (OutK [(O, 9, .string T)]) w w' := by
  have hMl : M < w.heap.size := World.block_lt_of_cell? w ⟨M, 0, none⟩ hM
  have hAl : A < w.heap.size := World.block_lt_of_cell? w ⟨A, 0, none⟩ hA
  have hBl : B < w.heap.size := World.block_lt_of_cell? w ⟨B, 0, none⟩ hB
  have HG := hid G
  have HNUM : Hid (∀ (s : ByteArray) (ng : Bool) (d : Nat → Nat) (l : Nat) (z : Int) (W : World), NumText s ng l d → z = numZ ng (dval d l) → Keeps (fun _ => False) w W → Calls Tryz.prog 67 #[.string s] W fun e w' => ∃ p a l c, e = .returned (.pointer (some ⟨p, 0, none⟩)) ∧ IntS w' p 105 z a l c ∧ W.heap.size ≤ p ∧ Keeps (fun _ => False) W w') := hid (fun s ng d l z W ht hz hk => by
    refine (number_int s ng l d W ht (G.keep hk (fun _ _ h => h))).mono ?_
    rintro e w' ⟨p, a1, l1, c1, rfl, h1, h2, h3, h4⟩
    rw [← hz] at h2
    exact ⟨p, a1, l1, c1, rfl, h2, h1, h4⟩)
  have HKz : Hid (Keeps (fun _ => False) w w) := hid (Keeps.refl _ w)
  have HSA : Hid (∀ w', Keeps (fun _ => False) w w' → w'.cell? ⟨A, 0, none⟩ = some (.string sa) ∧ w'.cell? ⟨B, 0, none⟩ = some (.string sb)) := hid (fun w' hk =>
    ⟨(cell_of_block (p := ⟨A, 0, none⟩) ((HKz.out.trans hk).block A hAl (fun h => h))).trans hA, (cell_of_block (p := ⟨B, 0, none⟩) ((HKz.out.trans hk).block B hBl (fun h => h))).trans hB⟩)
  have HSt : Hid (∀ W u, Keeps (fun _ => False) w W → (W.setCell ⟨O, 0, none⟩ u).cell? ⟨A, 0, none⟩ = some (.string sa) ∧ (W.setCell ⟨O, 0, none⟩ u).cell? ⟨B, 0, none⟩ = some (.string sb)) := hid (fun W u hk => by
    have h2 := Keeps.setCell (S := fun k => k = O) (HKz.out.trans hk).any ⟨O, 0, none⟩ (.inl rfl) u
    exact ⟨(cell_of_block (p := ⟨A, 0, none⟩) (h2.block A hAl (fun h => hAO h))).trans hA, (cell_of_block (p := ⟨B, 0, none⟩) (h2.block B hBl (fun h => hBO h))).trans hB⟩)
  have HNA : Hid (∀ W, Keeps (fun _ => False) w W → Calls Tryz.prog 67 #[.string sa] W fun e w' => ∃ p a l c, e = .returned (.pointer (some ⟨p, 0, none⟩)) ∧ IntS w' p 105 x a l c ∧ W.heap.size ≤ p ∧ Keeps (fun _ => False) W w') := hid (fun W hk => HNUM.out sa na da la x W ta hx (HKz.out.trans hk))
  have HNB : Hid (∀ W, Keeps (fun _ => False) w W → Calls Tryz.prog 67 #[.string sb] W fun e w' => ∃ p a l c, e = .returned (.pointer (some ⟨p, 0, none⟩)) ∧ IntS w' p 105 (v : Int) a l c ∧ W.heap.size ≤ p ∧ Keeps (fun _ => False) W w') := hid (fun W hk => HNUM.out sb nb db lb v W tb hv (HKz.out.trans hk))
  have HRz := hid (HKz.out.row r (fun h => h))
  have HFO : Hid (∀ W, Keeps (fun _ => False) w W → W.cell? ⟨O, 0, none⟩ = some (.string s0) ∧ W.frozen? ⟨O, 0, none⟩ = false) := hid (fun W hk => ⟨(hk.row HRz.out (fun h => h)).cell 0, (hk.row HRz.out (fun h => h)).frozen 0⟩)
  obtain ⟨sA, sB⟩ := HSA.out _ (Keeps.refl _ w)
  have HEXP : Hid (∀ (W : World) (pz p1 p2 : Nat) (a1 a2 : Option Addr) (l1 c1 l2 c2 : Nat), IntS W pz 105 0 none 0 0 → IntS W p1 105 x a1 l1 c1 → IntS W p2 105 (v : Int) a2 l2 c2 → pz ≠ p1 → pz ≠ p2 → Keeps (fun _ => False) w W → w.heap.size ≤ pz → Calls Tryz.prog 117 #[.pointer (some ⟨pz, 0, none⟩), .pointer (some ⟨p1, 0, none⟩), .pointer (some ⟨p2, 0, none⟩), .pointer none] W fun e w' => e = .returned (.pointer (some ⟨pz, 0, none⟩)) ∧ IntAt w' pz 105 (x ^ v) ∧ Keeps (fun _ => False) w w') := hid (fun W pz p1 p2 a1 a2 l1 c1 l2 c2 h0 h1 h2 n1 n2 hk hpz => by
    have kd : Keeps (fun _ => False) W W.drew := (Keeps.refl _ W).drew
    refine w117_nil ⟨pz, 0, none⟩ ⟨p1, 0, none⟩ ⟨p2, 0, none⟩ W (fun w' => IntAt w' pz 105 (x ^ v) ∧ Keeps (fun _ => False) w w') (w174 _ _ _ _ _ _ ((exp218_none pz p1 p2 105 105 105 x v a1 a2 l1 c1 l2 c2 W.drew (h0.keep kd (fun h => h) (fun _ _ h => h)) (h1.keep kd (fun h => h) (fun _ _ h => h)) (h2.keep kd (fun h => h) (fun _ _ h => h)) n1 n2 hvl (len_200' h1 hlx) hb (HG.out.keep (HKz.out.trans (hk.trans kd)) (fun _ _ h => h))).mono ?_))
    rintro e w' ⟨rfl, a, l, c, g1, g2, g3⟩
    exact ⟨rfl, g1.at, (hk.trans kd).trans' g3 (fun i hi h => by omega)⟩)
  have HSTR : Hid (∀ W pz, IntAt W pz 105 (x ^ v) → Keeps (fun _ => False) w W → Calls Tryz.prog 80 #[.pointer (some ⟨pz, 0, none⟩)] W fun e w' => e = .returned (.string T) ∧ Keeps (fun _ => False) W w') := hid (fun W pz h hk => by
    rw [hT]
    exact string80_big pz 105 _ W h hbt (HG.out.keep (HKz.out.trans hk) (fun _ _ h => h)))
  subst hsm
  clear hA hB ta tb r hx hv hlx hb hbt hT G hMl hAl hBl hMO hAO hBO hvl
  go_enter Tryz.func116, Tryz.ntmps116
  go_upto_region 3 with fail
  go_region_held3 (fun w' => w'.cell? ⟨A, 0, none⟩ = some (.string sa) ∧ w'.cell? ⟨B, 0, none⟩ = some (.string sb))
    (first | (with_reducible exact HSt.out _ _ K8.out) | ((refine HSA.out _ ?_); repeat (first | (with_reducible exact K8.out) | (with_reducible exact K7.out) | (with_reducible exact K6.out) | (with_reducible exact K5.out) | (with_reducible exact Keeps.refl _ _) | (with_reducible refine Keeps.drew ?_) | (refine Keeps.alloc ?_ _))))
    (first
     | (go_at_call 67; (with_reducible refine (HNA.out w.drew (Keeps.refl (fun _ => False) w).drew).mono ?_); rintro e w5 ⟨p1, a1, l1, c1, rfl, hi, hp, hk⟩; have HI1 := hid hi; have K5 := hid ((Keeps.refl (fun _ => False) w).drew.trans hk); have tokA0 : True := trivial; clear hi hp hk)
     | (go_at_call 67; (with_reducible refine (HNA.out (w.alloc (.cells #[.bool false, .slice none 0 0] 105)).drew ((Keeps.refl (fun _ => False) w).alloc _).drew).mono ?_); rintro e w5 ⟨p1, a1, l1, c1, rfl, hi, hp, hk⟩; have HI1 := hid hi; have hz1 : w.heap.size ≠ p1 := (by have h1 : (w.alloc (.cells #[.bool false, .slice none 0 0] 105)).heap.size ≤ p1 := hp; rw [size_new] at h1; omega); have HZ5 := hid ((intS_new w 105).keep ((Keeps.refl (fun _ => False) (w.alloc (.cells #[.bool false, .slice none 0 0] 105))).drew.trans hk) (fun h => h) (fun _ _ h => h)); have K5 := hid (((Keeps.refl (fun _ => False) w).alloc _).drew.trans hk); have tokA1 : True := trivial; clear hi hp hk)
     | (go_at_call 67; have _t := tokA0; (with_reducible refine (HNB.out w5 K5.out).mono ?_); rintro e w6 ⟨p2, a2, l2, c2, rfl, hi, hp, hk⟩; have HI2 := hid hi; have HI12 := hid (HI1.out.keep hk (fun h => h) (fun _ _ h => h)); have K6 := hid (K5.out.trans hk); have n1 : w6.heap.size ≠ p1 := Nat.ne_of_gt (RowAt.lt HI12.out.row); have n2 : w6.heap.size ≠ p2 := Nat.ne_of_gt (RowAt.lt HI2.out.row); have tokB0 : True := trivial; clear hi hp hk)
     | (go_at_call 67; have _t := tokA0; (with_reducible refine (HNB.out (w5.alloc (.cells #[.bool false, .slice none 0 0] 105)) (K5.out.alloc _)).mono ?_); rintro e w6 ⟨p2, a2, l2, c2, rfl, hi, hp, hk⟩; have HI2 := hid hi; have hz1 : w5.heap.size ≠ p1 := Nat.ne_of_gt (RowAt.lt HI1.out.row); have hz2 : w5.heap.size ≠ p2 := (by have h1 : (w5.alloc (.cells #[.bool false, .slice none 0 0] 105)).heap.size ≤ p2 := hp; rw [size_new] at h1; omega); have HZ6 := hid ((intS_new w5 105).keep hk (fun h => h) (fun _ _ h => h)); have HI12 := hid (HI1.out.keep (((Keeps.refl (fun _ => False) w5).alloc _).trans hk) (fun h => h) (fun _ _ h => h)); have hzw : w.heap.size ≤ w5.heap.size := K5.out.size; have K6 := hid ((K5.out.alloc _).trans hk); have tokB1 : True := trivial; clear hi hp hk)
     | (go_at_call 67; have _t := tokA1; (with_reducible refine (HNB.out w5 K5.out).mono ?_); rintro e w6 ⟨p2, a2, l2, c2, rfl, hi, hp, hk⟩; have HI2 := hid hi; have hz2 : w.heap.size ≠ p2 := (by have h1 := RowAt.lt HZ5.out.row; omega); have HZ6 := hid (HZ5.out.keep hk (fun h => h) (fun _ _ h => h)); have HI12 := hid (HI1.out.keep hk (fun h => h) (fun _ _ h => h)); have hzw : w.heap.size ≤ w.heap.size := Nat.le_refl _; have K6 := hid (K5.out.trans hk); have tokB1 : True := trivial; clear hi hp hk)
     | (go_at_call 117; have _t := tokB0; (with_reducible refine (HEXP.out (w6.alloc (.cells #[.bool false, .slice none 0 0] 105)) w6.heap.size p1 p2 a1 a2 l1 c1 l2 c2 (intS_new w6 105) (HI12.out.keep ((Keeps.refl (fun _ => False) w6).alloc _) (fun h => h) (fun _ _ h => h)) (HI2.out.keep ((Keeps.refl (fun _ => False) w6).alloc _) (fun h => h) (fun _ _ h => h)) n1 n2 (K6.out.alloc _) K6.out.size).mono ?_); rintro e w7 ⟨rfl, hr, hk⟩; have HR7 := hid hr; have K7 := hid hk; clear hr hk)
     | (go_at_call 117; have _t := tokB1; (with_reducible refine (HEXP.out w6 _ p1 p2 a1 a2 l1 c1 l2 c2 HZ6.out HI12.out HI2.out hz1 hz2 K6.out hzw).mono ?_); rintro e w7 ⟨rfl, hr, hk⟩; have HR7 := hid hr; have K7 := hid hk; clear hr hk)
     | (go_at_call 80; (with_reducible refine (HSTR.out w7 _ HR7.out K7.out).mono ?_); rintro e w8 ⟨rfl, hk⟩; have K8 := hid (K7.out.trans hk); obtain ⟨v0, v1⟩ := HFO.out w8 K8.out; clear hk))
  all_goals go_wp2_with fail
  all_goals go_end0
  all_goals
    refine ⟨rfl, ?_, ((HKz.out.trans K8.out).any).setCell _ (.inl ⟨_, .head _, rfl⟩) _⟩
    intro z hz
    simp only [List.mem_cons, List.not_mem_nil, or_false] at hz
    subst hz
    simpa using (K8.out.row HRz.out (fun h => h)).set 0 (.string T)
theorem pow116_mod (M A B O : Nat) (sm sa sb : ByteArray) (na nb : Bool) (da db : Nat → Nat) (la lb : Nat) (x : Int) (v : Nat) (T s0 : ByteArray) (w : World)
    (hM : w.cell? ⟨M, 0, none⟩ = some (.string sm)) (hA : w.cell? ⟨A, 0, none⟩ = some (.string sa)) (hB : w.cell? ⟨B, 0, none⟩ = some (.string sb)) (ta : NumText sa na la da) (tb : NumText sb nb lb db) (r : RowAt w O 9 [.string s0]) (hMO : M ≠ O) (hAO : A ≠ O) (hBO : B ≠ O)
    (hx : x = numZ na (dval da la)) (hv : (v : Int) = numZ nb (dval db lb)) (hvl : v < W64) (G : Glob w) (nm : Bool) (dm : Nat → Nat) (lm : Nat) (N : Nat) (tm : NumText sm nm lm dm) (hm : (N : Int) = numZ nm (dval dm lm)) (hN : 1 ≤ N) (hNl : N < 10 ^ 200) (hlx : x.natAbs < 10 ^ 200) (hT : T = strB (txt (decide (x ^ v % (N : Int) < 0)) (x ^ v % (N : Int)).natAbs)) :
    Calls Tryz.prog 116 #[.pointer (some ⟨M, 0, none⟩), .pointer (some ⟨A, 0, none⟩), .pointer (some ⟨B, 0, none⟩), .pointer (some ⟨O, 0, none⟩)] w fun e w' => e = .returned (.tuple #[]) ∧ OutL w' [(O, 9, .string T)] ∧ Keeps (OutK [(O, 9, .string T)]) w w' := by
  have hMl : M < w.heap.size := World.block_lt_of_cell? w ⟨M, 0, none⟩ hM
  have hAl : A < w.heap.size := World.block_lt_of_cell? w ⟨A, 0, none⟩ hA
  have hBl : B < w.heap.size := World.block_lt_of_cell? w ⟨B, 0, none⟩ hB
  have HG := hid G
  have HNUM : Hid (∀ (s : ByteArray) (ng : Bool) (d : Nat → Nat) (l : Nat) (z : Int) (W : World), NumText s ng l d → z = numZ ng (dval d l) → Keeps (fun _ => False) w W → Calls Tryz.prog 67 #[.string s] W fun e w' => ∃ p a l c, e = .returned (.pointer (some ⟨p, 0, none⟩)) ∧ IntS w' p 105 z a l c ∧ W.heap.size ≤ p ∧ Keeps (fun _ => False) W w') := hid (fun s ng d l z W ht hz hk => by
    refine (number_int s ng l d W ht (G.keep hk (fun _ _ h => h))).mono ?_
    rintro e w' ⟨p, a1, l1, c1, rfl, h1, h2, h3, h4⟩
    rw [← hz] at h2
    exact ⟨p, a1, l1, c1, rfl, h2, h1, h4⟩)
  have hne : sm.toList.isEmpty = false := isEmpty_false (by
    have h1 := tm.dig.1
    have h2 := tm.pos
    omega)
  have hbt : (x ^ v % (N : Int)).natAbs < TXB := by
    refine lt_TXB (Nat.lt_of_lt_of_le (m := N) ?_ (Nat.le_trans (Nat.le_of_lt hNl) (by decide +kernel)))
    have h1 := Int.emod_nonneg (x ^ v) (show (N : Int) ≠ 0 by omega)
    have h2 := Int.emod_lt_of_pos (x ^ v) (show (0 : Int) < N by omega)
    omega
  have HNM := hid (HNUM.out sm nm dm lm N w tm hm (Keeps.refl _ w))
  have HR := hid r
  have HC0 := hid (show w.cell? ⟨M, 0, none⟩ = some (.string sm) from hM)
  go_enter Tryz.func116, Tryz.ntmps116
  go_wp2_with fail
  refine HNM.out.mono ?_
  rintro e w1 ⟨pm, am, l9, c9, rfl, hIm, hpm, hkm⟩
  have HKz := hid hkm; have HIM := hid hIm
  have HSA : Hid (∀ w', Keeps (fun _ => False) w1 w' → w'.cell? ⟨A, 0, none⟩ = some (.string sa) ∧ w'.cell? ⟨B, 0, none⟩ = some (.string sb)) := hid (fun w' hk =>
    ⟨(cell_of_block (p := ⟨A, 0, none⟩) ((HKz.out.trans hk).block A hAl (fun h => h))).trans hA, (cell_of_block (p := ⟨B, 0, none⟩) ((HKz.out.trans hk).block B hBl (fun h => h))).trans hB⟩)
  have HSt : Hid (∀ W u, Keeps (fun _ => False) w1 W → (W.setCell ⟨O, 0, none⟩ u).cell? ⟨A, 0, none⟩ = some (.string sa) ∧ (W.setCell ⟨O, 0, none⟩ u).cell? ⟨B, 0, none⟩ = some (.string sb)) := hid (fun W u hk => by
    have h2 := Keeps.setCell (S := fun k => k = O) (HKz.out.trans hk).any ⟨O, 0, none⟩ (.inl rfl) u
    exact ⟨(cell_of_block (p := ⟨A, 0, none⟩) (h2.block A hAl (fun h => hAO h))).trans hA, (cell_of_block (p := ⟨B, 0, none⟩) (h2.block B hBl (fun h => hBO h))).trans hB⟩)
  have HNA : Hid (∀ W, Keeps (fun _ => False) w1 W → Calls Tryz.prog 67 #[.string sa] W fun e w' => ∃ p a l c, e = .returned (.pointer (some ⟨p, 0, none⟩)) ∧ IntS w' p 105 x a l c ∧ W.heap.size ≤ p ∧ Keeps (fun _ => False) W w') := hid (fun W hk => HNUM.out sa na da la x W ta hx (HKz.out.trans hk))
  have HNB : Hid (∀ W, Keeps (fun _ => False) w1 W → Calls Tryz.prog 67 #[.string sb] W fun e w' => ∃ p a l c, e = .returned (.pointer (some ⟨p, 0, none⟩)) ∧ IntS w' p 105 (v : Int) a l c ∧ W.heap.size ≤ p ∧ Keeps (fun _ => False) W w') := hid (fun W hk => HNUM.out sb nb db lb v W tb hv (HKz.out.trans hk))
  have HRz := hid (HKz.out.row r (fun h => h))
  have HFO : Hid (∀ W, Keeps (fun _ => False) w1 W → W.cell? ⟨O, 0, none⟩ = some (.string s0) ∧ W.frozen? ⟨O, 0, none⟩ = false) := hid (fun W hk => ⟨(hk.row HRz.out (fun h => h)).cell 0, (hk.row HRz.out (fun h => h)).frozen 0⟩)
  obtain ⟨sA, sB⟩ := HSA.out _ (Keeps.refl _ w1)
  have HEXP : Hid (∀ (W : World) (pz p1 p2 : Nat) (a1 a2 : Option Addr) (l1 c1 l2 c2 : Nat), IntS W pz 105 0 none 0 0 → IntS W p1 105 x a1 l1 c1 → IntS W p2 105 (v : Int) a2 l2 c2 → pz ≠ p1 → pz ≠ p2 → Keeps (fun _ => False) w1 W → w1.heap.size ≤ pz → Calls Tryz.prog 117 #[.pointer (some ⟨pz, 0, none⟩), .pointer (some ⟨p1, 0, none⟩), .pointer (some ⟨p2, 0, none⟩), .pointer (some ⟨pm, 0, none⟩)] W fun e w' => e = .returned (.pointer (some ⟨pz, 0, none⟩)) ∧ IntAt w' pz 105 (x ^ v % (N : Int)) ∧ Keeps (fun _ => False) w1 w') := hid (fun W pz p1 p2 a1 a2 l1 c1 l2 c2 h0 h1 h2 n1 n2 hk hpz => by
    have kd : Keeps (fun _ => False) W W.drew := (Keeps.refl _ W).drew
    have hpml : pm < w1.heap.size := HIM.out.row.lt
    refine w117_ptr ⟨pz, 0, none⟩ ⟨p1, 0, none⟩ ⟨p2, 0, none⟩ ⟨pm, 0, none⟩ W (fun w' => IntAt w' pz 105 (x ^ v % (N : Int)) ∧ Keeps (fun _ => False) w1 w') (w174 _ _ _ _ _ _ ((exp218_mod pz p1 p2 pm 105 105 105 105 x v N a1 a2 am l1 c1 l2 c2 l9 c9 W.drew (h0.keep kd (fun h => h) (fun _ _ h => h)) (h1.keep kd (fun h => h) (fun _ _ h => h)) (h2.keep kd (fun h => h) (fun _ _ h => h)) (HIM.out.keep (hk.trans kd) (fun h => h) (fun _ _ h => h)) n1 n2 (by omega) hvl hN (len_200' h1 hlx) (len_200' HIM.out (by rw [Int.natAbs_natCast]; exact hNl)) (HG.out.keep (HKz.out.trans (hk.trans kd)) (fun _ _ h => h))).mono ?_))
    rintro e w' ⟨rfl, a, l, c, g1, g2, g3⟩
    exact ⟨rfl, g1.at, (hk.trans kd).trans' g3 (fun i hi h => by omega)⟩)
  have HSTR : Hid (∀ W pz, IntAt W pz 105 (x ^ v % (N : Int)) → Keeps (fun _ => False) w1 W → Calls Tryz.prog 80 #[.pointer (some ⟨pz, 0, none⟩)] W fun e w' => e = .returned (.string T) ∧ Keeps (fun _ => False) W w') := hid (fun W pz h hk => by
    rw [hT]
    exact string80_big pz 105 _ W h hbt (HG.out.keep (HKz.out.trans hk) (fun _ _ h => h)))
  clear hA hB hM ta tb r hx hv hlx hbt hT G hMl hAl hBl hMO hAO hBO hvl tm hm hN hNl hne hIm hpm hkm HNM
  go_upto_region 3 with fail
  go_region_held3 (fun w' => w'.cell? ⟨A, 0, none⟩ = some (.string sa) ∧ w'.cell? ⟨B, 0, none⟩ = some (.string sb))
    (first | (with_reducible exact HSt.out _ _ K8.out) | ((refine HSA.out _ ?_); repeat (first | (with_reducible exact K8.out) | (with_reducible exact K7.out) | (with_reducible exact K6.out) | (with_reducible exact K5.out) | (with_reducible exact Keeps.refl _ _) | (with_reducible refine Keeps.drew ?_) | (refine Keeps.alloc ?_ _))))
    (first
     | (go_at_call 67; (with_reducible refine (HNA.out w1.drew (Keeps.refl (fun _ => False) w1).drew).mono ?_); rintro e w5 ⟨p1, a1, l1, c1, rfl, hi, hp, hk⟩; have HI1 := hid hi; have K5 := hid ((Keeps.refl (fun _ => False) w1).drew.trans hk); have tokA0 : True := trivial; clear hi hp hk)
     | (go_at_call 67; (with_reducible refine (HNA.out (w1.alloc (.cells #[.bool false, .slice none 0 0] 105)).drew ((Keeps.refl (fun _ => False) w1).alloc _).drew).mono ?_); rintro e w5 ⟨p1, a1, l1, c1, rfl, hi, hp, hk⟩; have HI1 := hid hi; have hz1 : w1.heap.size ≠ p1 := (by have h1 : (w1.alloc (.cells #[.bool false, .slice none 0 0] 105)).heap.size ≤ p1 := hp; rw [size_new] at h1; omega); have HZ5 := hid ((intS_new w1 105).keep ((Keeps.refl (fun _ => False) (w1.alloc (.cells #[.bool false, .slice none 0 0] 105))).drew.trans hk) (fun h => h) (fun _ _ h => h)); have K5 := hid (((Keeps.refl (fun _ => False) w1).alloc _).drew.trans hk); have tokA1 : True := trivial; clear hi hp hk)
     | (go_at_call 67; have _t := tokA0; (with_reducible refine (HNB.out w5 K5.out).mono ?_); rintro e w6 ⟨p2, a2, l2, c2, rfl, hi, hp, hk⟩; have HI2 := hid hi; have HI12 := hid (HI1.out.keep hk (fun h => h) (fun _ _ h => h)); have K6 := hid (K5.out.trans hk); have n1 : w6.heap.size ≠ p1 := Nat.ne_of_gt (RowAt.lt HI12.out.row); have n2 : w6.heap.size ≠ p2 := Nat.ne_of_gt (RowAt.lt HI2.out.row); have tokB0 : True := trivial; clear hi hp hk)
     | (go_at_call 67; have _t := tokA0; (with_reducible refine (HNB.out (w5.alloc (.cells #[.bool false, .slice none 0 0] 105)) (K5.out.alloc _)).mono ?_); rintro e w6 ⟨p2, a2, l2, c2, rfl, hi, hp, hk⟩; have HI2 := hid hi; have hz1 : w5.heap.size ≠ p1 := Nat.ne_of_gt (RowAt.lt HI1.out.row); have hz2 : w5.heap.size ≠ p2 := (by have h1 : (w5.alloc (.cells #[.bool false, .slice none 0 0] 105)).heap.size ≤ p2 := hp; rw [size_new] at h1; omega); have HZ6 := hid ((intS_new w5 105).keep hk (fun h => h) (fun _ _ h => h)); have HI12 := hid (HI1.out.keep (((Keeps.refl (fun _ => False) w5).alloc _).trans hk) (fun h => h) (fun _ _ h => h)); have hzw : w1.heap.size ≤ w5.heap.size := K5.out.size; have K6 := hid ((K5.out.alloc _).trans hk); have tokB1 : True := trivial; clear hi hp hk)
     | (go_at_call 67; have _t := tokA1; (with_reducible refine (HNB.out w5 K5.out).mono ?_); rintro e w6 ⟨p2, a2, l2, c2, rfl, hi, hp, hk⟩; have HI2 := hid hi; have hz2 : w1.heap.size ≠ p2 := (by have h1 := RowAt.lt HZ5.out.row; omega); have HZ6 := hid (HZ5.out.keep hk (fun h => h) (fun _ _ h => h)); have HI12 := hid (HI1.out.keep hk (fun h => h) (fun _ _ h => h)); have hzw : w1.heap.size ≤ w1.heap.size := Nat.le_refl _; have K6 := hid (K5.out.trans hk); have tokB1 : True := trivial; clear hi hp hk)
     | (go_at_call 117; have _t := tokB0; (with_reducible refine (HEXP.out (w6.alloc (.cells #[.bool false, .slice none 0 0] 105)) w6.heap.size p1 p2 a1 a2 l1 c1 l2 c2 (intS_new w6 105) (HI12.out.keep ((Keeps.refl (fun _ => False) w6).alloc _) (fun h => h) (fun _ _ h => h)) (HI2.out.keep ((Keeps.refl (fun _ => False) w6).alloc _) (fun h => h) (fun _ _ h => h)) n1 n2 (K6.out.alloc _) K6.out.size).mono ?_); rintro e w7 ⟨rfl, hr, hk⟩; have HR7 := hid hr; have K7 := hid hk; clear hr hk)
     | (go_at_call 117; have _t := tokB1; (with_reducible refine (HEXP.out w6 _ p1 p2 a1 a2 l1 c1 l2 c2 HZ6.out HI12.out HI2.out hz1 hz2 K6.out hzw).mono ?_); rintro e w7 ⟨rfl, hr, hk⟩; have HR7 := hid hr; have K7 := hid hk; clear hr hk)
     | (go_at_call 80; (with_reducible refine (HSTR.out w7 _ HR7.out K7.out).mono ?_); rintro e w8 ⟨rfl, hk⟩; have K8 := hid (K7.out.trans hk); obtain ⟨v0, v1⟩ := HFO.out w8 K8.out; clear hk))
  all_goals go_wp2_with fail
  all_goals go_end0
  all_goals
    refine ⟨rfl, ?_, ((HKz.out.trans K8.out).any).setCell _ (.inl ⟨_, .head _, rfl⟩) _⟩
    intro z hz
    simp only [List.mem_cons, List.not_mem_nil, or_false] at hz
    subst hz
    simpa using (K8.out.row HRz.out (fun h => h)).set 0 (.string T)
end Go.Proofs
namespace Go.Proofs
open Go.RowKit
set_option maxHeartbeats 1600000
set_option linter.unusedVariables false
set_option linter.unusedSimpArgs false
set_option maxRecDepth 100000

theorem call116 (cap : Array Value) (w : World) : (callFunc 116 cap).run Tryz.prog w = .ok (.enter 116 cap) w := by simp [go_sem, callFunc, Tryz.func116]; rfl

theorem bigPower47_nil (sm sa sb : ByteArray) (na nb : Bool) (da db : Nat → Nat) (la lb : Nat) (x : Int) (v : Nat) (T : ByteArray) (w : World) (ta : NumText sa na la da) (tb : NumText sb nb lb db)
    (hx : x = numZ na (dval da la)) (hv : (v : Int) = numZ nb (dval db lb)) (hvl : v < W64) (G : Glob w) (hsm : sm = { data := #[] }) (hlx : x.natAbs < 10 ^ 200) (hb : x.natAbs ^ (v / 2) < W64 ^ 11) (hbt : (x ^ v).natAbs < TXB) (hT : T = strB (txt (decide (x ^ v < 0)) (x ^ v).natAbs)) :
    Calls Tryz.prog 47 #[.string sa, .string sb, .string sm] w fun e w' => e = .returned (.tuple #[.string T, .bool true]) ∧ Keeps (fun _ => False) w w' := by
  have hmf : ∀ (fn : Fn) (first cap : Array Value) (w : World), (Instr.makeFunc fn first cap).run Tryz.prog w = .ok (.func fn first cap) w := fun _ _ _ _ => rfl
  obtain ⟨B, hB⟩ : ∃ B : List (TypeId × Value), B = [(9, .string sa), (9, .string sb), (9, .string sm), (9, .string { data := #[] })] := ⟨_, rfl⟩
  obtain ⟨W, hW⟩ : ∃ W, W = boxed w B := ⟨_, rfl⟩
  obtain ⟨m, hm⟩ : ∃ m, m = w.heap.size := ⟨_, rfl⟩
  have hnest : ((((w.alloc (.cells #[.string sa] 9)).alloc (.cells #[.string sb] 9)).alloc (.cells #[.string sm] 9)).alloc (.cells #[.string { data := #[] }] 9)) = W := by rw [hW, hB]; rfl
  have hk : Keeps (fun _ => False) w W := by rw [hW]; exact boxed_keeps w B
  have hs : W.heap.size = m + 4 := by rw [hW, boxed_size, hB, hm]; rfl
  have hr : ∀ (i : Nat) (x : TypeId × Value), B[i]? = some x → RowAt W (m + i) x.1 [x.2] := fun i x h => by rw [hW, hm]; exact boxed_row w B i x h
  rw [hB] at hr
  have q0 : RowAt W (m) 9 [.string sa] := hr 0 _ rfl
  have q1 : RowAt W (m + 1) 9 [.string sb] := hr 1 _ rfl
  have q2 : RowAt W (m + 1 + 1) 9 [.string sm] := hr 2 _ rfl
  have q3 : RowAt W (m + 1 + 1 + 1) 9 [.string { data := #[] }] := hr 3 _ rfl
  obtain ⟨L, hL⟩ : ∃ L : List (Nat × TypeId × Value), L = [(m + 1 + 1 + 1, 9, .string T)] := ⟨_, rfl⟩
  have hsafe := safe_outs 116 #[.pointer (some ⟨m + 1 + 1, 0, none⟩), .pointer (some ⟨m, 0, none⟩), .pointer (some ⟨m + 1, 0, none⟩), .pointer (some ⟨m + 1 + 1 + 1, 0, none⟩)] W L (call116 _)
    (by rw [hL]; intro x hx; simp only [List.mem_cons, List.not_mem_nil, or_false] at hx; rcases hx with rfl <;> simp <;> omega)
    (fun w1 hs1 hk1 => by
      rw [hL]
      exact pow116_nil (m + 1 + 1) m (m + 1) (m + 1 + 1 + 1) sm sa sb na nb da db la lb x v T _ w1 ((hk1.row q2 (fun h => h)).cell 0) ((hk1.row q0 (fun h => h)).cell 0) ((hk1.row q1 (fun h => h)).cell 0) ta tb (hk1.row q3 (fun h => h)) (by omega) (by omega) (by omega) hx hv hvl (G.keep (hk.trans hk1) (fun _ _ h => h)) hsm hlx hb hbt hT)
  have HS := hid hsafe; have HK := hid hk; have HL := hid hL; have HM := hid hm
  clear hsafe hk hL q0 q1 q2 q3 hr hs hB hW hT G ta tb hx hv hvl hb hbt hlx hsm
  go_enter Tryz.func47, Tryz.ntmps47
  go_wp2_with fail
  rw [← hm]
  clear hnest hm
  refine HS.out.mono ?_
  rintro e w2 ⟨rfl, ho, hk2⟩
  have hkf : Keeps (fun _ => False) w w2 := HK.out.fresh hk2 (fun i ⟨x, hx, he⟩ => by
    rw [HL.out] at hx
    simp only [List.mem_cons, List.not_mem_nil, or_false] at hx
    have := HM.out
    rcases hx with rfl <;> simp at he <;> omega)
  have HO := hid ho; have HKF := hid hkf
  clear hk2 hkf
  have m0 : (m + 1 + 1 + 1, 9, (.string T : Value)) ∈ L := by rw [HL.out]; exact .head _
  have hS : ∀ w', OutL w' L → w'.cell? ⟨m + 1 + 1 + 1, 0, none⟩ = some (.string T) := fun w' h => h.cell m0
  have HSS := hid hS
  have f0 := ho.frozen m0
  obtain c0 := hS w2 ho
  have e0 := hid (show ∃ t, (m + 1 + 1 + 1, t, (.string T : Value)) ∈ L from ⟨_, m0⟩)
  clear ho m0 hS
  go_wp2_with fail
  have hof := (HO.out.again e0.out)
  have hge : ∀ i, m ≤ i → w.heap.size ≤ i := fun i hi => by rw [← HM.out]; exact hi
  have hkf := (HKF.out.setCell ⟨m + 1 + 1 + 1, 0, none⟩ (.inr (hge _ (by show m ≤ m + 1 + 1 + 1; omega))) (.string T))
  obtain a0 := HSS.out _ hof
  generalize (w2.setCell ⟨m + 1 + 1 + 1, 0, none⟩ (.string T)) = wf at *
  refine bodyPost_ret (v := (.tuple #[.string T, .bool true])) ?_ rfl ⟨rfl, hkf⟩
  simp [results, Tryz.results47, go_sem, a0]
theorem bigPower47_mod (sm sa sb : ByteArray) (na nb : Bool) (da db : Nat → Nat) (la lb : Nat) (x : Int) (v : Nat) (T : ByteArray) (w : World) (ta : NumText sa na la da) (tb : NumText sb nb lb db)
    (hx : x = numZ na (dval da la)) (hv : (v : Int) = numZ nb (dval db lb)) (hvl : v < W64) (G : Glob w) (nm : Bool) (dm : Nat → Nat) (lm : Nat) (N : Nat) (tm : NumText sm nm lm dm) (hm' : (N : Int) = numZ nm (dval dm lm)) (hN : 1 ≤ N) (hNl : N < 10 ^ 200) (hlx : x.natAbs < 10 ^ 200) (hT : T = strB (txt (decide (x ^ v % (N : Int) < 0)) (x ^ v % (N : Int)).natAbs)) :
    Calls Tryz.prog 47 #[.string sa, .string sb, .string sm] w fun e w' => e = .returned (.tuple #[.string T, .bool true]) ∧ Keeps (fun _ => False) w w' := by
  have hmf : ∀ (fn : Fn) (first cap : Array Value) (w : World), (Instr.makeFunc fn first cap).run Tryz.prog w = .ok (.func fn first cap) w := fun _ _ _ _ => rfl
  obtain ⟨B, hB⟩ : ∃ B : List (TypeId × Value), B = [(9, .string sa), (9, .string sb), (9, .string sm), (9, .string { data := #[] })] := ⟨_, rfl⟩
  obtain ⟨W, hW⟩ : ∃ W, W = boxed w B := ⟨_, rfl⟩
  obtain ⟨m, hm⟩ : ∃ m, m = w.heap.size := ⟨_, rfl⟩
  have hnest : ((((w.alloc (.cells #[.string sa] 9)).alloc (.cells #[.string sb] 9)).alloc (.cells #[.string sm] 9)).alloc (.cells #[.string { data := #[] }] 9)) = W := by rw [hW, hB]; rfl
  have hk : Keeps (fun _ => False) w W := by rw [hW]; exact boxed_keeps w B
  have hs : W.heap.size = m + 4 := by rw [hW, boxed_size, hB, hm]; rfl
  have hr : ∀ (i : Nat) (x : TypeId × Value), B[i]? = some x → RowAt W (m + i) x.1 [x.2] := fun i x h => by rw [hW, hm]; exact boxed_row w B i x h
  rw [hB] at hr
  have q0 : RowAt W (m) 9 [.string sa] := hr 0 _ rfl
  have q1 : RowAt W (m + 1) 9 [.string sb] := hr 1 _ rfl
  have q2 : RowAt W (m + 1 + 1) 9 [.string sm] := hr 2 _ rfl
  have q3 : RowAt W (m + 1 + 1 + 1) 9 [.string { data := #[] }] := hr 3 _ rfl
  obtain ⟨L, hL⟩ : ∃ L : List (Nat × TypeId × Value), L = [(m + 1 + 1 + 1, 9, .string T)] := ⟨_, rfl⟩
  have hsafe := safe_outs 116 #[.pointer (some ⟨m + 1 + 1, 0, none⟩), .pointer (some ⟨m, 0, none⟩), .pointer (some ⟨m + 1, 0, none⟩), .pointer (some ⟨m + 1 + 1 + 1, 0, none⟩)] W L (call116 _)
    (by rw [hL]; intro x hx; simp only [List.mem_cons, List.not_mem_nil, or_false] at hx; rcases hx with rfl <;> simp <;> omega)
    (fun w1 hs1 hk1 => by
      rw [hL]
      exact pow116_mod (m + 1 + 1) m (m + 1) (m + 1 + 1 + 1) sm sa sb na nb da db la lb x v T _ w1 ((hk1.row q2 (fun h => h)).cell 0) ((hk1.row q0 (fun h => h)).cell 0) ((hk1.row q1 (fun h => h)).cell 0) ta tb (hk1.row q3 (fun h => h)) (by omega) (by omega) (by omega) hx hv hvl (G.keep (hk.trans hk1) (fun _ _ h => h)) nm dm lm N tm hm' hN hNl hlx hT)
  have HS := hid hsafe; have HK := hid hk; have HL := hid hL; have HM := hid hm
  clear hsafe hk hL q0 q1 q2 q3 hr hs hB hW hT G ta tb hx hv hvl tm hm' hN hNl hlx
  go_enter Tryz.func47, Tryz.ntmps47
  go_wp2_with fail
  rw [← hm]
  clear hnest hm
  refine HS.out.mono ?_
  rintro e w2 ⟨rfl, ho, hk2⟩
  have hkf : Keeps (fun _ => False) w w2 := HK.out.fresh hk2 (fun i ⟨x, hx, he⟩ => by
    rw [HL.out] at hx
    simp only [List.mem_cons, List.not_mem_nil, or_false] at hx
    have := HM.out
    rcases hx with rfl <;> simp at he <;> omega)
  have HO := hid ho; have HKF := hid hkf
  clear hk2 hkf
  have m0 : (m + 1 + 1 + 1, 9, (.string T : Value)) ∈ L := by rw [HL.out]; exact .head _
  have hS : ∀ w', OutL w' L → w'.cell? ⟨m + 1 + 1 + 1, 0, none⟩ = some (.string T) := fun w' h => h.cell m0
  have HSS := hid hS
  have f0 := ho.frozen m0
  obtain c0 := hS w2 ho
  have e0 := hid (show ∃ t, (m + 1 + 1 + 1, t, (.string T : Value)) ∈ L from ⟨_, m0⟩)
  clear ho m0 hS
  go_wp2_with fail
  have hof := (HO.out.again e0.out)
  have hge : ∀ i, m ≤ i → w.heap.size ≤ i := fun i hi => by rw [← HM.out]; exact hi
  have hkf := (HKF.out.setCell ⟨m + 1 + 1 + 1, 0, none⟩ (.inr (hge _ (by show m ≤ m + 1 + 1 + 1; omega))) (.string T))
  obtain a0 := HSS.out _ hof
  generalize (w2.setCell ⟨m + 1 + 1 + 1, 0, none⟩ (.string T)) = wf at *
  refine bodyPost_ret (v := (.tuple #[.string T, .bool true])) ?_ rfl ⟨rfl, hkf⟩
  simp [results, Tryz.results47, go_sem, a0]
end Go.Proofs
namespace Go.Proofs
open Go.RowKit
set_option maxHeartbeats 400000
set_option linter.unusedVariables false
set_option linter.unusedSimpArgs false
set_option maxRecDepth 100000

theorem dval_tops (N m : Nat) : ∀ j, j ≤ m → dval (fun k => N / 10 ^ (m - 1 - k) % 10) j = N / 10 ^ (m - j) % 10 ^ j
  | 0, _ => by simp [dval, Nat.mod_one]
  | j + 1, h => by
    have ih := dval_tops N m j (by omega)
    show 10 * dval (fun k => N / 10 ^ (m - 1 - k) % 10) j + N / 10 ^ (m - 1 - j) % 10 = _
    rw [ih, show m - j = (m - (j + 1)) + 1 by omega, show m - 1 - j = m - (j + 1) by omega, Nat.pow_succ 10 (m - (j + 1)), ← Nat.div_div_eq_div_mul, show (10 : Nat) ^ (j + 1) = 10 * 10 ^ j from by rw [Nat.pow_succ, Nat.mul_comm], Nat.mod_mul]
    omega
theorem lowDigs_at (N : Nat) : ∀ m i, i < m → (lowDigs N m).getD i 0 = 48 + N / 10 ^ (m - 1 - i) % 10
  | 0, i, h => by omega
  | m + 1, 0, _ => by simp [lowDigs]
  | m + 1, i + 1, h => by
    rw [lowDigs, List.getD_cons_succ, lowDigs_at N m i (by omega), show m + 1 - 1 - (i + 1) = m - 1 - i by omega]
theorem strB_size (B : List Nat) : (strB B).size = B.length := by
  unfold strB
  rw [strOfNums_size, List.length_map]
theorem strB_get (B : List Nat) (i : Nat) (h : i < (strB B).size) (hB : B.getD i 0 < 256) : ((strB B)[i]'h).toNat = B.getD i 0 := by
  have hi : i < B.length := by rw [strB_size] at h; exact h
  show ((strB B).data[i]'_).toNat = _
  simp [strB, strOfNums, List.getD_eq_getElem?_getD, List.getElem?_eq_getElem hi] at hB ⊢
  omega
/-- The text of a number from nought on is one of digits. -/
theorem numText_of (N : Nat) (h : N < 10 ^ 200) : ∃ n d, NumText (strB (txt (decide ((N : Int) < 0)) N)) false n d ∧ (N : Int) = numZ false (dval d n) := by
  have hneg : decide ((N : Int) < 0) = false := decide_eq_false (by omega)
  rw [hneg]
  have ht : txt false N = lowDigs N (nd N) := by simp [txt, decs]
  have hp := nd_pos N
  have hl := nd_le h (by omega)
  refine ⟨nd N, fun k => N / 10 ^ (nd N - 1 - k) % 10, ⟨?_, hp, ⟨?_, fun k hk => ?_⟩, fun hh => by cases hh⟩, ?_⟩
  · rw [strB_size, ht, lowDigs_length]; exact hl
  · rw [strB_size, ht, lowDigs_length]; simp
  · have hd : N / 10 ^ (nd N - 1 - k) % 10 < 10 := Nat.mod_lt _ (by omega)
    have hs : (if false = true then 1 else 0) + k < (strB (txt false N)).size := by rw [strB_size, ht, lowDigs_length]; simpa using hk
    refine ⟨hd, hs, ?_⟩
    have hg : (txt false N).getD ((if false = true then 1 else 0) + k) 0 = 48 + N / 10 ^ (nd N - 1 - k) % 10 := by
      rw [ht]; simp only [Bool.false_eq_true, if_false, Nat.zero_add]; exact lowDigs_at N _ k hk
    rw [strB_get _ _ hs (by rw [hg]; omega), hg, Int.natCast_add]
    rfl
  · have := dval_tops N (nd N) (nd N) (Nat.le_refl _)
    rw [this, Nat.sub_self, Nat.pow_zero, Nat.div_one, Nat.mod_eq_of_lt (nd_lt N)]
    rfl
end Go.Proofs
