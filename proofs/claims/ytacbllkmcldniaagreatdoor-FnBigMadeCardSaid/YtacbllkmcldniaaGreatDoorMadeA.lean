/- Parts of the proofs over the numbers of any length: Made, Made2, Made3, Law8. -/
import Derived.Test.YtacbllkmcldniaaGreatDoorIntA
set_option linter.unusedSimpArgs false
set_option linter.unusedVariables false
namespace Go.Proofs
open Go.RowKit
set_option maxHeartbeats 400000
set_option linter.unusedVariables false
set_option linter.unusedSimpArgs false
set_option maxRecDepth 100000

theorem newBigInt97 (x : Int) (w : World) (h1 : -9223372036854775808 ≤ x) (h2 : x < 9223372036854775808) :
    Calls Tryz.prog 97 #[.int .i64 x] w fun e w' => e = .returned (.pointer (some ⟨w.heap.size, 0, none⟩)) ∧ IntAt w' w.heap.size 105 x ∧ Keeps (fun _ => False) w w' := by
  have H := hid (w96 ⟨w.heap.size, 0, none⟩ x (w.alloc (.cells #[.bool false, .slice none 0 0] 105)) (IntRes (w.alloc (.cells #[.bool false, .slice none 0 0] 105)) w.heap.size 105 none 0 x)
    ((setInt64_163 w.heap.size 105 0 none 0 0 x _ (intS_new w 105) h1 h2).mono (fun e w' ⟨he, hr⟩ => ⟨⟨_, he⟩, hr⟩)))
  go_enter Tryz.func97, Tryz.ntmps97
  go_wp2_with fail
  refine H.out.mono ?_
  rintro e w1 ⟨rfl, a, l, c, h3, h4, h5⟩
  have H3 := hid h3; have H4 := hid h4; have H5 := hid h5
  clear h3 h4 h5 H
  go_wp2_with fail
  go_ret
  refine ⟨rfl, ⟨a, l, c, H3.out.row, H3.out.rd⟩, ((Keeps.refl _ w).alloc _).fresh H5.out ?_⟩
  rintro i (rfl | ⟨o, ho⟩)
  · exact Nat.le_refl _
  · cases ho

theorem mathBigInt99 (px tx : Nat) (x : Int) (ax : Option Addr) (lx cx : Nat) (w : World) (hx : IntS w px tx x ax lx cx) (hlx : lx ≤ 400000) :
    Calls Tryz.prog 99 #[.pointer (some ⟨px, 0, none⟩)] w fun e w' => e = .returned (.pointer (some ⟨w.heap.size, 0, none⟩)) ∧ (∃ a c, IntS w' w.heap.size 103 x a lx c ∧ Into w none 0 a c) ∧ Keeps (fun _ => False) w w' := by
  have hk0 : Keeps (fun _ => False) w (w.alloc (.cells #[.bool false, .slice none 0 0] 103)) := (Keeps.refl _ w).alloc _
  have hne : w.heap.size ≠ px := by have := hx.row.lt; omega
  have H := hid (set160_other w.heap.size px 103 tx 0 x none ax 0 0 lx cx _ (intS_new w 103) (hx.keep hk0 (fun h => h) (fun _ _ h => h)) hne (fun k hk => by obtain ⟨o, ho⟩ := hk; cases ho) hlx)
  have HL := hid hx.rd.length
  clear hx
  go_enter Tryz.func99, Tryz.ntmps99
  go_wp2_with fail
  refine H.out.mono ?_
  rintro e w1 ⟨rfl, a, l, c, h3, h4, h5⟩
  have H3 := hid h3; have H4 := hid h4; have H5 := hid h5
  clear h3 h4 h5 H
  go_wp2_with fail
  go_ret
  have hl : l = lx := by rw [← H3.out.rd.length, ← HL.out]
  subst hl
  refine ⟨rfl, ⟨a, c, H3.out, H4.out.mono (by simp)⟩, ((Keeps.refl _ w).alloc _).fresh H5.out ?_⟩
  rintro i (rfl | ⟨o, ho⟩)
  · exact Nat.le_refl _
  · cases ho
end Go.Proofs
namespace Go.Proofs
open Go.RowKit
set_option maxHeartbeats 800000
set_option linter.unusedVariables false
set_option linter.unusedSimpArgs false
set_option maxRecDepth 100000

def cM : ByteArray := { data := #[49, 50, 51, 52, 53, 54, 55, 56, 57, 48, 49, 50, 51, 52, 53, 54, 55, 56, 57, 48, 49, 50, 51] }
theorem tM : NumText cM false 23 (digAt cM 0) := okDigs_text (neg := false) (by decide +kernel) (by decide +kernel) (fun h => by cases h)

theorem Into.fresh {w : World} {a : Option Addr} {c : Nat} (h : Into w none 0 a c) : ∀ k, InB a k → w.heap.size ≤ k := fun k hk => by
  rcases h.inB hk with ⟨o, ho⟩ | h
  · cases ho
  · exact h
theorem IntRes.fresh {w w1 w2 : World} {p : Nat} {t : TypeId} {a : Option Addr} {c : Nat} {z : Int} (h : Keeps (fun _ => False) w w1) (hp : w.heap.size ≤ p) (ha : ∀ k, InB a k → w.heap.size ≤ k) (k : IntRes w1 p t a c z w2) :
    (∃ a l c, IntS w2 p t z a l c) ∧ Keeps (fun _ => False) w w2 := by
  obtain ⟨a', l', c', h1, h2, h3⟩ := k
  refine ⟨⟨a', l', c', h1⟩, h.fresh h3 ?_⟩
  rintro i (rfl | hi)
  · exact hp
  · exact ha i hi

/-- A number outlives what is written into cells of other kinds. -/
theorem IntS.keepOut {w w' : World} {p : Nat} {t : TypeId} {z : Int} {a : Option Addr} {l c : Nat} {L : List (Nat × TypeId × Value)} (h : IntS w p t z a l c) (hL : ∀ x ∈ L, ∃ v, RowAt w x.1 x.2.1 [v]) (hT : ∀ x ∈ L, x.2.1 ≠ 177) (hk : Keeps (OutK L) w w') : IntS w' p t z a l c := by
  refine h.keep hk ?_ ?_
  · rintro ⟨x, hx, he⟩
    obtain ⟨v, hr⟩ := hL x hx
    subst he
    have := RowAt.inj h.row hr
    cases this
  · rintro k hk' ⟨x, hx, he⟩
    obtain ⟨v, hr⟩ := hL x hx
    subst he
    obtain ⟨o, ho⟩ := hk'
    rcases h.rd with ⟨h1, _⟩ | ⟨b, o', M, h1, h2, _⟩
    · rw [h1] at ho; cases ho
    · rw [h1] at ho
      injection ho with ho
      injection ho with ho
      subst ho
      exact hT x hx (RowAt.type h2 hr).symm

theorem Glob.ne_out {w : World} (h : Glob w) {p : Nat} {t : TypeId} {s : ByteArray} (hr : RowAt w p t [.string s]) : ¬ GB p := by
  intro hk
  have c0 : w.cell? ⟨p, 0, none⟩ = some (.string s) := hr.cell 0
  obtain ⟨q, hp⟩ := h.eof
  rcases hk with rfl | rfl | rfl | rfl | rfl | rfl | rfl
  · rw [hp] at c0; cases c0
  · rw [h.bs] at c0; cases c0
  · rw [h.ks] at c0; cases c0
  · rw [h.kt] at c0; cases c0
  · rw [h.dr] at c0; cases c0
  · rw [h.lf] at c0; cases c0
  · rw [h.tz 0 (by omega)] at c0; cases c0

theorem bigMade94 (U N O2 O3 O4 O5 : Nat) (n : Int) (u : Nat) (T1 T2 : ByteArray) (s2 s3 s4 s5 : ByteArray) (w : World)
    (hU : w.cell? ⟨U, 0, none⟩ = some (.int .u64 (u : Int))) (hN : w.cell? ⟨N, 0, none⟩ = some (.int .i64 n)) (h1 : -9223372036854775808 ≤ n) (h2 : n < 9223372036854775808) (hu : u < W64)
    (r2 : RowAt w O2 9 [.string s2]) (r3 : RowAt w O3 9 [.string s3]) (r4 : RowAt w O4 9 [.string s4]) (r5 : RowAt w O5 9 [.string s5])
    (d23 : O2 ≠ O3) (d24 : O2 ≠ O4) (d25 : O2 ≠ O5) (d34 : O3 ≠ O4) (d35 : O3 ≠ O5) (d45 : O4 ≠ O5)
    (n2 : N ≠ O2) (n3 : N ≠ O3) (n4 : N ≠ O4) (n5 : N ≠ O5)
    (G : Glob w) (hT1 : T1 = strB (txt (decide (n < 0)) n.natAbs)) (hT2 : T2 = strB (txt false u)) :
    Calls Tryz.prog 94 #[.pointer (some ⟨U, 0, none⟩), .pointer (some ⟨N, 0, none⟩), .pointer (some ⟨O2, 0, none⟩), .pointer (some ⟨O3, 0, none⟩), .pointer (some ⟨O4, 0, none⟩), .pointer (some ⟨O5, 0, none⟩)] w fun e w' =>
      e = .returned (.tuple #[]) ∧ OutL w' [(O2, 9, .string T1), (O3, 9, .string T2), (O4, 9, .string T1), (O5, 9, .string T2)] ∧ Keeps (OutK [(O2, 9, .string T1), (O3, 9, .string T2), (O4, 9, .string T1), (O5, 9, .string T2)]) w w' := by
  have HG := hid G; have HT1' := hid hT1; have HT2' : Hid (strB (txt (decide ((u : Int) < 0)) ((u : Int)).natAbs) = T2) := hid (by rw [hT2, decide_eq_false (show ¬ (u : Int) < 0 by omega)]; rfl); have HU := hid hu
  have hNl : N < w.heap.size := World.block_lt_of_cell? w ⟨N, 0, none⟩ hN
  have HN := hid hN; have R2 := hid r2; have R3 := hid r3; have R4 := hid r4; have R5 := hid r5
  obtain ⟨W1, e1⟩ : ∃ W, W = w.alloc (.cells #[.bool false, .slice none 0 0] 105) := ⟨_, rfl⟩
  obtain ⟨X, hX⟩ : ∃ X, X = w.heap.size := ⟨_, rfl⟩
  have hk1 : Keeps (fun _ => False) w W1 := by rw [e1]; exact (Keeps.refl _ w).alloc _
  have hI1 : IntS W1 X 105 0 none 0 0 := by rw [e1, hX]; exact intS_new w 105
  have hU1 : W1.cell? ⟨U, 0, none⟩ = some (.int .u64 (u : Int)) := (cell_of_block (p := ⟨U, 0, none⟩) (hk1.block U (World.block_lt_of_cell? w ⟨U, 0, none⟩ hU) (fun h => h))).trans hU
  have C95 := hid (w95 ⟨X, 0, none⟩ u W1 (IntRes W1 X 105 none 0 u) ((setUint64_162 X 105 0 none 0 0 u W1 hI1 hu).mono (fun e w' ⟨he, hr⟩ => ⟨⟨_, he⟩, hr⟩)))
  have HK1 := hid hk1; have HX := hid hX
  have d32 := Ne.symm d23; have d42 := Ne.symm d24; have d52 := Ne.symm d25; have d43 := Ne.symm d34; have d53 := Ne.symm d35; have d54 := Ne.symm d45
  have n2' := Ne.symm n2; have n3' := Ne.symm n3; have n4' := Ne.symm n4; have n5' := Ne.symm n5
  rw [e1] at hU1
  clear hk1 hI1 hT1 hT2 hu G r2 r3 r4 r5 hN
  go_enter Tryz.func94, Tryz.ntmps94
  go_wp2_with fail
  rw [← e1, ← hX]
  refine C95.out.mono ?_
  rintro e w1 ⟨rfl, hr⟩
  obtain ⟨⟨xa, xl, xc, hx⟩, hkx⟩ := hr.fresh HK1.out (Nat.le_of_eq HX.out.symm) (fun k hk => by obtain ⟨o, ho⟩ := hk; cases ho)
  have IX := hid hx; have KX := hid hkx
  clear e1 hX hU1 hr hx hkx
  have hzu : Hid (((u : Int)).natAbs < W64 ^ 8) := hid (Nat.lt_of_lt_of_le (show ((u : Int)).natAbs < W64 ^ 1 by rw [Nat.pow_one]; have := HU.out; omega) (Nat.pow_le_pow_right W64_pos (by omega)))
  have hzn : Hid (n.natAbs < W64 ^ 8) := hid (Nat.lt_of_lt_of_le (show n.natAbs < W64 ^ 1 by rw [Nat.pow_one]; unfold W64; omega) (Nat.pow_le_pow_right W64_pos (by omega)))
  have HG1 := hid (show Glob w1.drew from (HG.out.keep KX.out (fun _ _ h => h)).drewN 1)
  have hS : ∀ w', Keeps (OutK [(O2, 9, .string T1), (O3, 9, .string T2), (O4, 9, .string T1), (O5, 9, .string T2)]) w w' → w'.cell? ⟨N, 0, none⟩ = some (.int .i64 n) := fun w' hk =>
    (cell_of_block (p := ⟨N, 0, none⟩) (hk.block N hNl (fun h => by unfold OutK at h; simp at h; rcases h with h | h | h | h; exact n2 h; exact n3 h; exact n4 h; exact n5 h))).trans HN.out
  have HS := hid hS
  have HT0 := hid (show Keeps (OutK [(O2, 9, .string T1), (O3, 9, .string T2), (O4, 9, .string T1), (O5, 9, .string T2)]) w w1.drew from (KX.out.drew).any)
  have HF0 := hid (KX.out.drew)
  have st : ∀ W p v, (∃ t x, (p, t, x) ∈ [(O2, 9, (.string T1 : Value)), (O3, 9, .string T2), (O4, 9, .string T1), (O5, 9, .string T2)]) → Keeps (OutK [(O2, 9, .string T1), (O3, 9, .string T2), (O4, 9, .string T1), (O5, 9, .string T2)]) w W → Keeps (OutK [(O2, 9, .string T1), (O3, 9, .string T2), (O4, 9, .string T1), (O5, 9, .string T2)]) w (W.setCell ⟨p, 0, none⟩ v) :=
    fun W p v ⟨t, x, hm⟩ h => h.setCell _ (.inl ⟨_, hm, rfl⟩) v
  have st2 := hid (show ∀ W v, Keeps (OutK [(O2, 9, .string T1), (O3, 9, .string T2), (O4, 9, .string T1), (O5, 9, .string T2)]) w W → Keeps (OutK [(O2, 9, .string T1), (O3, 9, .string T2), (O4, 9, .string T1), (O5, 9, .string T2)]) w (W.setCell ⟨O2, 0, none⟩ v) from fun W v h => st W _ v ⟨_, _, .head _⟩ h)
  have st3 := hid (show ∀ W v, Keeps (OutK [(O2, 9, .string T1), (O3, 9, .string T2), (O4, 9, .string T1), (O5, 9, .string T2)]) w W → Keeps (OutK [(O2, 9, .string T1), (O3, 9, .string T2), (O4, 9, .string T1), (O5, 9, .string T2)]) w (W.setCell ⟨O3, 0, none⟩ v) from fun W v h => st W _ v ⟨_, _, .tail _ (.head _)⟩ h)
  have st4 := hid (show ∀ W v, Keeps (OutK [(O2, 9, .string T1), (O3, 9, .string T2), (O4, 9, .string T1), (O5, 9, .string T2)]) w W → Keeps (OutK [(O2, 9, .string T1), (O3, 9, .string T2), (O4, 9, .string T1), (O5, 9, .string T2)]) w (W.setCell ⟨O4, 0, none⟩ v) from fun W v h => st W _ v ⟨_, _, .tail _ (.tail _ (.head _))⟩ h)
  have C1 := hid (number_int cM false 23 (digAt cM 0) w1.drew tM HG1.out)
  unfold cM at C1
  clear hS st
  go_wp2_with fail
  go_upto_region 1 with fail
  go_region_held3 (fun w' => w'.cell? ⟨N, 0, none⟩ = some (.int .i64 n))
    (first | with_reducible exact HS.out _ HT0.out | with_reducible exact HS.out _ HT1.out | with_reducible exact HS.out _ HT2.out | with_reducible exact HS.out _ HT3.out | with_reducible exact HS.out _ HT4.out | with_reducible exact HS.out _ HT5.out | with_reducible exact HS.out _ HT6.out | with_reducible exact HS.out _ (st2.out _ _ HT6.out) | with_reducible exact HS.out _ (st3.out _ _ (st2.out _ _ HT6.out)) | with_reducible exact HS.out _ (st4.out _ _ (st3.out _ _ (st2.out _ _ HT6.out))))
    (first
     | (go_at_call 67; (with_reducible refine C1.out.mono ?_); rintro e w2 ⟨p1, a1, l1, c1, rfl, g1, g2, g3, g4⟩; have HF1 := hid (HF0.out.trans g4); have HT1 := hid ((HF0.out.trans g4).any (S := OutK [(O2, 9, .string T1), (O3, 9, .string T2), (O4, 9, .string T1), (O5, 9, .string T2)])); have I1 := hid g2; have P1 := hid g1; have A1 := hid g3; have G4 := hid g4; have HG2 := hid (HG1.out.keep g4 (fun _ _ h => h)); have y1 := HS.out _ HT1.out; have C2 := hid (w96 ⟨p1, 0, none⟩ n w2 (IntRes w2 p1 105 a1 c1 n) ((setInt64_163 p1 105 _ a1 l1 c1 n w2 g2 h1 h2).mono (fun e w' ⟨he, hr⟩ => ⟨⟨_, he⟩, hr⟩))); clear g1 g2 g3 g4)
     | (go_at_call 96; (with_reducible refine C2.out.mono ?_); rintro e w3 ⟨rfl, hr⟩; obtain ⟨⟨a2, l2, c2, hi⟩, hk⟩ := hr.fresh G4.out P1.out A1.out.fresh; have HF2 := hid (HF0.out.trans hk); have HT2 := hid ((HF0.out.trans hk).any (S := OutK [(O2, 9, .string T1), (O3, 9, .string T2), (O4, 9, .string T1), (O5, 9, .string T2)])); have HG3 := hid (HG1.out.keep hk (fun _ _ h => h)); have KK := hid hk; have HW2 := hid hk; have y1 := HS.out _ HT2.out; have C3 := hid (string80_leaf p1 105 n w3 hi.at hzn.out HG3.out); rw [← HT1'.out] at C3; clear hr hi hk)
     | (go_at_call 80; (with_reducible refine C3.out.mono ?_); rintro e w4 ⟨rfl, hk⟩; have HF3 := hid (HF2.out.trans hk); have HT3 := hid ((HF2.out.trans hk).any (S := OutK [(O2, 9, .string T1), (O3, 9, .string T2), (O4, 9, .string T1), (O5, 9, .string T2)])); have HG4 := hid (HG3.out.keep hk (fun _ _ h => h)); have HW3 := hid (HW2.out.trans hk); have y1 := HS.out _ HT3.out; have hxx := (((show IntAt w1.drew X 105 u from IX.out.at.drewN 1).keep KK.out).keep hk); have C4 := hid (string80_leaf X 105 u w4 hxx hzu.out HG4.out); rw [HT2'.out] at C4; clear hk hxx)
     | (go_at_call 80; (with_reducible refine C4.out.mono ?_); rintro e w5 ⟨rfl, hk⟩; have HF4 := hid (HF3.out.trans hk); have HT4 := hid ((HF3.out.trans hk).any (S := OutK [(O2, 9, .string T1), (O3, 9, .string T2), (O4, 9, .string T1), (O5, 9, .string T2)])); have HG5 := hid (HG4.out.keep hk (fun _ _ h => h)); have HW4 := hid (HW3.out.trans hk); have y1 := HS.out _ HT4.out; have C5 := hid (newBigInt97 n w5 h1 h2); clear hk)
     | (go_at_call 97; (with_reducible refine C5.out.mono ?_); rintro e w6 ⟨rfl, hi, hk⟩; have HF5 := hid (HF4.out.trans hk); have HT5 := hid ((HF4.out.trans hk).any (S := OutK [(O2, 9, .string T1), (O3, 9, .string T2), (O4, 9, .string T1), (O5, 9, .string T2)])); have HG6 := hid (HG5.out.keep hk (fun _ _ h => h)); have HW5 := hid (HW4.out.trans hk); have y1 := HS.out _ HT5.out; have C6 := hid (string80_leaf w5.heap.size 105 n w6 hi hzn.out HG6.out); rw [← HT1'.out] at C6; clear hi hk)
     | (go_at_call 80; (with_reducible refine C6.out.mono ?_); rintro e w7 ⟨rfl, hk⟩; have HF6 := hid (HF5.out.trans hk); have HT6 := hid ((HF5.out.trans hk).any (S := OutK [(O2, 9, .string T1), (O3, 9, .string T2), (O4, 9, .string T1), (O5, 9, .string T2)])); have HG7 := hid (HG6.out.keep hk (fun _ _ h => h)); have HW6 := hid (HW5.out.trans hk); have y1 := HS.out _ HT6.out; have hkw := HF6.out; have v2 := RowAt.cell (hkw.row R2.out (fun h => h)) 0; have v3 := RowAt.cell (hkw.row R3.out (fun h => h)) 0; have v4 := RowAt.cell (hkw.row R4.out (fun h => h)) 0; have f2 := RowAt.frozen (hkw.row R2.out (fun h => h)) 0; have f3 := RowAt.frozen (hkw.row R3.out (fun h => h)) 0; have f4 := RowAt.frozen (hkw.row R4.out (fun h => h)) 0; simp only [List.getElem?_cons_zero] at v2 v3 v4; clear hk hkw))
  obtain ⟨V, hV⟩ : ∃ V, V = (((w7.setCell ⟨O2, 0, none⟩ (.string T1)).setCell ⟨O3, 0, none⟩ (.string T2)).setCell ⟨O4, 0, none⟩ (.string T1)) := ⟨_, rfl⟩
  rw [← hV]
  have hkV : Keeps (OutK [(O2, 9, .string T1), (O3, 9, .string T2), (O4, 9, .string T1), (O5, 9, .string T2)]) w7 V := by
    rw [hV]
    exact (((Keeps.refl _ w7).setCell _ (.inl ⟨_, .head _, rfl⟩) _).setCell _ (.inl ⟨_, .tail _ (.head _), rfl⟩) _).setCell _ (.inl ⟨_, .tail _ (.tail _ (.head _)), rfl⟩) _
  have q2 : RowAt V O2 9 [.string T1] := by rw [hV]; exact (((HF6.out.row R2.out (fun h => h)).set 0 (.string T1)).other d32 _).other d42 _
  have q3 : RowAt V O3 9 [.string T2] := by rw [hV]; exact (((HF6.out.row R3.out (fun h => h)).other d23 _).set 0 (.string T2)).other d43 _
  have q4 : RowAt V O4 9 [.string T1] := by rw [hV]; exact (((HF6.out.row R4.out (fun h => h)).other d24 _).other d34 _).set 0 (.string T1)
  have q5 : RowAt V O5 9 [.string s5] := by rw [hV]; exact (((HF6.out.row R5.out (fun h => h)).other d25 _).other d35 _).other d45 _
  have hIX : IntS V X 105 u xa xl xc := IntS.keepOut (L := [(O2, 9, .string T1), (O3, 9, .string T2), (O4, 9, .string T1), (O5, 9, .string T2)]) ((show IntS w1.drew X 105 u xa xl xc from ⟨IX.out.row.drew, IX.out.rd.drew⟩).keep HW6.out (fun h => h) (fun _ _ h => h))
    (fun x hx => by
      simp only [List.mem_cons, List.not_mem_nil, or_false] at hx
      rcases hx with rfl | rfl | rfl | rfl
      · exact ⟨_, HF6.out.row R2.out (fun h => h)⟩
      · exact ⟨_, HF6.out.row R3.out (fun h => h)⟩
      · exact ⟨_, HF6.out.row R4.out (fun h => h)⟩
      · exact ⟨_, HF6.out.row R5.out (fun h => h)⟩) (by simp) hkV
  have Q2 := hid q2; have Q3 := hid q3; have Q4 := hid q4; have Q5 := hid q5
  have HGV := hid (show Glob V from HG7.out.keep hkV (fun k hk h => by
    obtain ⟨x, hx, rfl⟩ := h
    simp only [List.mem_cons, List.not_mem_nil, or_false] at hx
    rcases hx with rfl | rfl | rfl | rfl
    · exact HG7.out.ne_out (HF6.out.row R2.out (fun h => h)) hk
    · exact HG7.out.ne_out (HF6.out.row R3.out (fun h => h)) hk
    · exact HG7.out.ne_out (HF6.out.row R4.out (fun h => h)) hk
    · exact HG7.out.ne_out (HF6.out.row R5.out (fun h => h)) hk))
  have HKV := hid (show Keeps (OutK [(O2, 9, .string T1), (O3, 9, .string T2), (O4, 9, .string T1), (O5, 9, .string T2)]) w V from HT6.out.trans hkV)
  obtain ⟨V1, hV1⟩ : ∃ V1, V1 = V.alloc (.cells #[.bool false, .slice none 0 0] 105) := ⟨_, rfl⟩
  obtain ⟨Z, hZ⟩ : ∃ Z, Z = V.heap.size := ⟨_, rfl⟩
  have hk1 : Keeps (fun _ => False) V V1 := by rw [hV1]; exact (Keeps.refl _ V).alloc _
  have hIZ : IntS V1 Z 105 0 none 0 0 := by rw [hV1, hZ]; exact intS_new V 105
  have hx1 : IntS V1 X 105 u xa xl xc := hIX.keep hk1 (fun h => h) (fun _ _ h => h)
  have hxl : xl ≤ 400000 := by
    have h1 : xl ≤ 1 := by
      rw [← hIX.rd.length]
      exact words_lt (by rw [Nat.pow_one]; have := HU.out; omega)
    omega
  have C7 := hid (mathBigInt99 X 105 u xa xl xc V1 hx1 hxl)
  have HIZ := hid hIZ; have K1 := hid hk1
  have HXl := hid hxl
  clear hkV q2 q3 q4 hIX hk1 hIZ hx1 hxl hV v2 v3 v4 f2 f3 f4 y1
  go_wp2_with fail
  rw [← hV1, ← hZ]
  refine C7.out.mono ?_
  rintro e w8 ⟨rfl, ⟨ya, yc, hy, hyi⟩, hk8⟩
  have hne : Z ≠ V1.heap.size := by rw [hV1, hZ]; simp
  have C8 := hid (w98 ⟨Z, 0, none⟩ ⟨V1.heap.size, 0, none⟩ w8 (IntRes w8 Z 105 none 0 u) ((set160_other Z V1.heap.size 105 103 0 u none ya 0 0 xl yc w8 (HIZ.out.keep hk8 (fun h => h) (fun _ _ h => h)) hy hne (fun k hk => by obtain ⟨o, ho⟩ := hk; cases ho) HXl.out).mono (fun e w' ⟨he, hr⟩ => ⟨⟨_, he⟩, hr⟩)))
  have HK8 := hid (K1.out.trans hk8); have HZ := hid hZ
  clear hy hyi hk8 hne hV1 hZ C7
  go_wp2_with fail
  refine C8.out.mono ?_
  rintro e w9 ⟨rfl, hr⟩
  obtain ⟨⟨za, zl, zc, hz⟩, hk9⟩ := hr.fresh HK8.out (Nat.le_of_eq HZ.out.symm) (fun k hk => by obtain ⟨o, ho⟩ := hk; cases ho)
  have C9 := hid (string80_leaf Z 105 u w9 hz.at hzu.out (HGV.out.keep hk9 (fun _ _ h => h)))
  rw [HT2'.out] at C9
  have HK9 := hid hk9
  clear hr hz hk9 C8
  go_wp2_with fail
  refine C9.out.mono ?_
  rintro e w10 ⟨rfl, hk10⟩
  have hkf := HK9.out.trans hk10
  obtain v5 := RowAt.cell (hkf.row Q5.out (fun h => h)) 0
  obtain f5 := RowAt.frozen (hkf.row Q5.out (fun h => h)) 0
  simp only [List.getElem?_cons_zero] at v5
  have HKF := hid hkf
  clear hk10 hkf C9
  go_wp2_with fail
  go_end0
  refine ⟨rfl, ?_, (HKV.out.trans HKF.out.any).setCell _ (.inl ⟨_, .tail _ (.tail _ (.tail _ (.head _))), rfl⟩) _⟩
  intro x hx
  simp only [List.mem_cons, List.not_mem_nil, or_false] at hx
  rcases hx with rfl | rfl | rfl | rfl
  · exact (HKF.out.row Q2.out (fun h => h)).other d52 _
  · exact (HKF.out.row Q3.out (fun h => h)).other d53 _
  · exact (HKF.out.row Q4.out (fun h => h)).other d54 _
  · exact (HKF.out.row Q5.out (fun h => h)).set 0 (.string T2)
end Go.Proofs
namespace Go.Proofs
open Go.RowKit
set_option maxHeartbeats 800000
set_option linter.unusedVariables false
set_option linter.unusedSimpArgs false
set_option maxRecDepth 100000

theorem call94 (cap : Array Value) (w : World) : (callFunc 94 cap).run Tryz.prog w = .ok (.enter 94 cap) w := by simp [go_sem, callFunc, Tryz.func94]; rfl

theorem bigMade37 (n : Int) (u : Nat) (T1 T2 : ByteArray) (w : World) (h1 : -9223372036854775808 ≤ n) (h2 : n < 9223372036854775808) (hu : u < W64) (G : Glob w)
    (hT1 : T1 = strB (txt (decide (n < 0)) n.natAbs)) (hT2 : T2 = strB (txt false u)) :
    Calls Tryz.prog 37 #[.int .i64 n, .int .u64 (u : Int)] w fun e w' => e = .returned (.tuple #[.string T1, .string T2, .string T1, .string T2]) ∧ Keeps (fun _ => False) w w' := by
  have hmf : ∀ (fn : Fn) (first cap : Array Value) (w : World), (Instr.makeFunc fn first cap).run Tryz.prog w = .ok (.func fn first cap) w := fun _ _ _ _ => rfl
  obtain ⟨B, hB⟩ : ∃ B : List (TypeId × Value), B = [(2, .int .i64 n), (49, .int .u64 (u : Int)), (9, .string { data := #[] }), (9, .string { data := #[] }), (9, .string { data := #[] }), (9, .string { data := #[] })] := ⟨_, rfl⟩
  obtain ⟨W, hW⟩ : ∃ W, W = boxed w B := ⟨_, rfl⟩
  obtain ⟨m, hm⟩ : ∃ m, m = w.heap.size := ⟨_, rfl⟩
  have hnest : ((((((w.alloc (.cells #[.int .i64 n] 2)).alloc (.cells #[.int .u64 (u : Int)] 49)).alloc (.cells #[.string { data := #[] }] 9)).alloc (.cells #[.string { data := #[] }] 9)).alloc (.cells #[.string { data := #[] }] 9)).alloc (.cells #[.string { data := #[] }] 9)) = W := by rw [hW, hB]; rfl
  have hk : Keeps (fun _ => False) w W := by rw [hW]; exact boxed_keeps w B
  have hs : W.heap.size = m + 6 := by rw [hW, boxed_size, hB, hm]; rfl
  have hr : ∀ (i : Nat) (x : TypeId × Value), B[i]? = some x → RowAt W (m + i) x.1 [x.2] := fun i x h => by rw [hW, hm]; exact boxed_row w B i x h
  rw [hB] at hr
  have q0 : RowAt W m 2 [.int .i64 n] := hr 0 _ rfl
  have q1 : RowAt W (m + 1) 49 [.int .u64 (u : Int)] := hr 1 _ rfl
  have q2 : RowAt W (m + 1 + 1) 9 [.string { data := #[] }] := hr 2 _ rfl
  have q3 : RowAt W (m + 1 + 1 + 1) 9 [.string { data := #[] }] := hr 3 _ rfl
  have q4 : RowAt W (m + 1 + 1 + 1 + 1) 9 [.string { data := #[] }] := hr 4 _ rfl
  have q5 : RowAt W (m + 1 + 1 + 1 + 1 + 1) 9 [.string { data := #[] }] := hr 5 _ rfl
  obtain ⟨L, hL⟩ : ∃ L : List (Nat × TypeId × Value), L = [(m + 1 + 1, 9, .string T1), (m + 1 + 1 + 1, 9, .string T2), (m + 1 + 1 + 1 + 1, 9, .string T1), (m + 1 + 1 + 1 + 1 + 1, 9, .string T2)] := ⟨_, rfl⟩
  have hsafe := safe_outs 94 #[.pointer (some ⟨m + 1, 0, none⟩), .pointer (some ⟨m, 0, none⟩), .pointer (some ⟨m + 1 + 1, 0, none⟩), .pointer (some ⟨m + 1 + 1 + 1, 0, none⟩), .pointer (some ⟨m + 1 + 1 + 1 + 1, 0, none⟩), .pointer (some ⟨m + 1 + 1 + 1 + 1 + 1, 0, none⟩)] W L (call94 _)
    (by rw [hL]; intro x hx; simp only [List.mem_cons, List.not_mem_nil, or_false] at hx; rcases hx with rfl | rfl | rfl | rfl <;> simp <;> omega)
    (fun w1 hs1 hk1 => by
      rw [hL]
      exact bigMade94 (m + 1) m (m + 1 + 1) (m + 1 + 1 + 1) (m + 1 + 1 + 1 + 1) (m + 1 + 1 + 1 + 1 + 1) n u T1 T2 _ _ _ _ w1 ((hk1.row q1 (fun h => h)).cell 0) ((hk1.row q0 (fun h => h)).cell 0) h1 h2 hu
        (hk1.row q2 (fun h => h)) (hk1.row q3 (fun h => h)) (hk1.row q4 (fun h => h)) (hk1.row q5 (fun h => h)) (by omega) (by omega) (by omega) (by omega) (by omega) (by omega) (by omega) (by omega) (by omega) (by omega)
        (G.keep (hk.trans hk1) (fun _ _ h => h)) hT1 hT2)
  have HS := hid hsafe; have HK := hid hk; have HL := hid hL; have HM := hid hm
  clear hsafe hk hL q0 q1 q2 q3 q4 q5 hr hs hB hW hT1 hT2 hu G
  go_enter Tryz.func37, Tryz.ntmps37
  go_wp2_with fail
  rw [← hm]
  clear hnest hm
  refine HS.out.mono ?_
  rintro e w2 ⟨rfl, ho, hk2⟩
  have hkf : Keeps (fun _ => False) w w2 := HK.out.fresh hk2 (fun i ⟨x, hx, he⟩ => by
    rw [HL.out] at hx
    simp only [List.mem_cons, List.not_mem_nil, or_false] at hx
    have := HM.out
    rcases hx with rfl | rfl | rfl | rfl <;> simp at he <;> omega)
  have HO := hid ho; have HKF := hid hkf
  have m2 : (m + 1 + 1, 9, (.string T1 : Value)) ∈ L := by rw [HL.out]; exact .head _
  have m3 : (m + 1 + 1 + 1, 9, (.string T2 : Value)) ∈ L := by rw [HL.out]; exact .tail _ (.head _)
  have m4 : (m + 1 + 1 + 1 + 1, 9, (.string T1 : Value)) ∈ L := by rw [HL.out]; exact .tail _ (.tail _ (.head _))
  have m5 : (m + 1 + 1 + 1 + 1 + 1, 9, (.string T2 : Value)) ∈ L := by rw [HL.out]; exact .tail _ (.tail _ (.tail _ (.head _)))
  have hS : ∀ w', OutL w' L → w'.cell? ⟨m + 1 + 1, 0, none⟩ = some (.string T1) ∧ w'.cell? ⟨m + 1 + 1 + 1, 0, none⟩ = some (.string T2) ∧ w'.cell? ⟨m + 1 + 1 + 1 + 1, 0, none⟩ = some (.string T1) ∧ w'.cell? ⟨m + 1 + 1 + 1 + 1 + 1, 0, none⟩ = some (.string T2) :=
    fun w' h => ⟨h.cell m2, h.cell m3, h.cell m4, h.cell m5⟩
  have HSS := hid hS
  have f2 := ho.frozen m2; have f3 := ho.frozen m3; have f4 := ho.frozen m4; have f5 := ho.frozen m5
  obtain ⟨c2, c3, c4, c5⟩ := hS w2 ho
  have e2 := hid (show ∃ t, (m + 1 + 1, t, (.string T1 : Value)) ∈ L from ⟨_, m2⟩)
  have e3 := hid (show ∃ t, (m + 1 + 1 + 1, t, (.string T2 : Value)) ∈ L from ⟨_, m3⟩)
  have e4 := hid (show ∃ t, (m + 1 + 1 + 1 + 1, t, (.string T1 : Value)) ∈ L from ⟨_, m4⟩)
  have e5 := hid (show ∃ t, (m + 1 + 1 + 1 + 1 + 1, t, (.string T2 : Value)) ∈ L from ⟨_, m5⟩)
  clear ho hk2 hkf m2 m3 m4 m5 hS
  go_upto_region 2 with fail
  go_region_held3 (fun w' => w'.cell? ⟨m + 1 + 1, 0, none⟩ = some (.string T1) ∧ w'.cell? ⟨m + 1 + 1 + 1, 0, none⟩ = some (.string T2) ∧ w'.cell? ⟨m + 1 + 1 + 1 + 1, 0, none⟩ = some (.string T1) ∧ w'.cell? ⟨m + 1 + 1 + 1 + 1 + 1, 0, none⟩ = some (.string T2))
    (((with_reducible refine HSS.out _ ?_); repeat (first | (with_reducible exact HO.out) | (with_reducible refine OutL.again ?_ e2.out) | (with_reducible refine OutL.again ?_ e3.out) | (with_reducible refine OutL.again ?_ e4.out) | (with_reducible refine OutL.again ?_ e5.out) | (with_reducible refine OutL.drew ?_)))) (fail)
  go_wp2_with fail
  have hof := OutL.drew ((((HO.out.again e2.out).again e3.out).again e4.out).again e5.out)
  have hge : ∀ i, m ≤ i → w.heap.size ≤ i := fun i hi => by rw [← HM.out]; exact hi
  have hkf := ((((HKF.out.setCell ⟨m + 1 + 1, 0, none⟩ (.inr (hge _ (by show m ≤ m + 1 + 1; omega))) (.string T1)).setCell ⟨m + 1 + 1 + 1, 0, none⟩ (.inr (hge _ (by show m ≤ m + 1 + 1 + 1; omega))) (.string T2)).setCell ⟨m + 1 + 1 + 1 + 1, 0, none⟩ (.inr (hge _ (by show m ≤ m + 1 + 1 + 1 + 1; omega))) (.string T1)).setCell ⟨m + 1 + 1 + 1 + 1 + 1, 0, none⟩ (.inr (hge _ (by show m ≤ m + 1 + 1 + 1 + 1 + 1; omega))) (.string T2)).drew
  obtain ⟨a2, a3, a4, a5⟩ := HSS.out _ hof
  generalize ((((w2.setCell ⟨m + 1 + 1, 0, none⟩ (.string T1)).setCell ⟨m + 1 + 1 + 1, 0, none⟩ (.string T2)).setCell ⟨m + 1 + 1 + 1 + 1, 0, none⟩ (.string T1)).setCell ⟨m + 1 + 1 + 1 + 1 + 1, 0, none⟩ (.string T2)).drew = wf at *
  refine bodyPost_ret (v := .tuple #[.string T1, .string T2, .string T1, .string T2]) ?_ rfl ⟨rfl, hkf⟩
  simp [results, Tryz.results37, go_sem, a2, a3, a4, a5]
end Go.Proofs
namespace Go.Proofs
open Go.RowKit
set_option maxHeartbeats 800000
set_option linter.unusedVariables false
set_option linter.unusedSimpArgs false
set_option maxRecDepth 100000

theorem law8 (n : Int) (u : Nat) (w : World) (G : Glob w) (h1 : -9223372036854775808 ≤ n) (h2 : n < 9223372036854775808) (hu : u < W64) :
    Calls Tryz.prog 8 #[.int .i64 n, .int .u64 (u : Int)] w fun e w' => e = .returned (.bool true) ∧ Keeps (fun _ => False) w w' := by
  obtain ⟨T1, hT1⟩ : ∃ T, T = strB (txt (decide (n < 0)) n.natAbs) := ⟨_, rfl⟩
  obtain ⟨T2, hT2⟩ : ∃ T, T = strB (txt false u) := ⟨_, rfl⟩
  have HM := hid (bigMade37 n u T1 T2 w h1 h2 hu G hT1 hT2)
  have HG := hid G; have HT1 := hid hT1; have HT2 : Hid (T2 = strB (txt (decide ((u : Int) < 0)) ((u : Int)).natAbs)) := hid (by rw [hT2, decide_eq_false (show ¬ (u : Int) < 0 by omega)]; rfl)
  have HU := hid hu
  have hd1 : (digs n.natAbs).length ≤ 100000 := Nat.le_trans (digs_len (k := 20) (by omega)) (by omega)
  have hd2 : (digs ((u : Int)).natAbs).length ≤ 100000 := Nat.le_trans (digs_len (k := 20) (by unfold W64 at hu; omega)) (by omega)
  have HD1 := hid hd1; have HD2 := hid hd2
  clear hT1 hT2 G hu hd1 hd2
  go_enter Tryz.func8, Tryz.ntmps8
  go_wp2_with fail
  refine HM.out.mono ?_
  rintro e w1 ⟨rfl, hk⟩
  have K1 := hid hk
  clear hk HM
  go_wp2_with fail
  refine (bigAlive_true w1 (HG.out.keep K1.out (fun _ _ h => h))).mono ?_
  rintro e w2 ⟨rfl, hk⟩
  have K2 := hid (K1.out.trans hk)
  clear hk
  go_wp2_with fail
  refine (of33 n w2 h1 h2).mono ?_
  rintro e w3 ⟨v, rfl, hv, hk⟩
  have hv' := hv
  obtain ⟨a, c, rfl, _, _⟩ := hv'
  have C1 := hid (text22 _ n _ w3 hv HD1.out)
  rw [← HT1.out] at C1
  have K3 := hid (K2.out.trans hk)
  obtain ⟨l, hl⟩ : ∃ l, l = (digs n.natAbs).length := ⟨_, rfl⟩
  obtain ⟨ng, hng⟩ : ∃ b, b = decide (n < 0) := ⟨_, rfl⟩
  rw [← hl, ← hng] at C1
  rw [← hl, ← hng]
  clear hv hk hl hng
  go_wp2_with fail
  refine C1.out.mono ?_
  rintro e w4 ⟨rfl, hk⟩
  have K4 := hid (K3.out.trans hk)
  clear hk C1
  go_wp2_with fail
  refine (ofUint38 u w4 HU.out).mono ?_
  rintro e w5 ⟨v, rfl, hv, hk⟩
  have hv' := hv
  obtain ⟨a, c, rfl, _, _⟩ := hv'
  have C1 := hid (text22 _ (u : Int) _ w5 hv HD2.out)
  rw [← HT2.out] at C1
  have K5 := hid (K4.out.trans hk)
  obtain ⟨l, hl⟩ : ∃ l, l = (digs ((u : Int)).natAbs).length := ⟨_, rfl⟩
  obtain ⟨ng, hng⟩ : ∃ b, b = decide ((u : Int) < 0) := ⟨_, rfl⟩
  rw [← hl, ← hng] at C1
  rw [← hl, ← hng]
  clear hv hk hl hng
  go_wp2_with fail
  refine C1.out.mono ?_
  rintro e w6 ⟨rfl, hk⟩
  have K6 := hid (K5.out.trans hk)
  clear hk C1
  go_wp2_with fail
  go_ret
  exact ⟨rfl, K6.out⟩
end Go.Proofs
