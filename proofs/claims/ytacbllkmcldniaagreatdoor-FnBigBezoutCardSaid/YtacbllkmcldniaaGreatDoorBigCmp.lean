/- Parts of the proofs over the numbers of any length: BigCmp. -/
import Derived.Test.YtacbllkmcldniaaGreatDoorBaseD
set_option linter.unusedSimpArgs false
set_option linter.unusedVariables false
namespace Go.Proofs
open Go.RowKit
set_option maxHeartbeats 1000000
set_option linter.unusedVariables false
set_option linter.unusedSimpArgs false
set_option maxRecDepth 100000

theorem quiet_keeps {w w' : World} (S : Nat → Prop) (h : ∃ k, w' = w.drewN k) : Keeps S w w' := by
  obtain ⟨k, rfl⟩ := h
  exact (Keeps.refl S w).drewN k

theorem bigCompare87 (A B O P : Nat) (sa sb : ByteArray) (na nb : Bool) (da db : Nat → Nat) (la lb : Nat) (vo vp : Int) (w : World)
    (hA : w.cell? ⟨A, 0, none⟩ = some (.string sa)) (hB : w.cell? ⟨B, 0, none⟩ = some (.string sb)) (hO : RowAt w O 3 [.int .i64 vo]) (hP : RowAt w P 3 [.int .i64 vp])
    (hOP : O ≠ P) (hAO : A ≠ O) (hAP : A ≠ P) (hBO : B ≠ O) (hBP : B ≠ P)
    (ta : NumText sa na la da) (tb : NumText sb nb lb db) (G : Glob w) :
    Calls Tryz.prog 87 #[.pointer (some ⟨A, 0, none⟩), .pointer (some ⟨B, 0, none⟩), .pointer (some ⟨O, 0, none⟩), .pointer (some ⟨P, 0, none⟩)] w fun e w' =>
      e = .returned (.tuple #[]) ∧ ∃ wb, Keeps (fun _ => False) w wb ∧ w' = (wb.setCell ⟨O, 0, none⟩ (.int .i64 (cmpZ (numZ na (dval da la)) (numZ nb (dval db lb))))).setCell ⟨P, 0, none⟩ (.int .i64 (cmpI (dval da la) (dval db lb))) := by
  have HO := hid hO; have HP := hid hP; have TA := hid ta; have TB := hid tb
  have hPO := Ne.symm hOP; have hOA := Ne.symm hAO; have hPA := Ne.symm hAP; have hOB := Ne.symm hBO; have hPB := Ne.symm hBP
  have hAl : A < w.heap.size := World.block_lt_of_cell? w ⟨A, 0, none⟩ hA
  have hBl : B < w.heap.size := World.block_lt_of_cell? w ⟨B, 0, none⟩ hB
  have HG0 := hid (show Glob w.drew from G.drewN 1)
  have hS : ∀ w', Keeps (fun k => k = O ∨ k = P) w w' → w'.cell? ⟨A, 0, none⟩ = some (.string sa) ∧ w'.cell? ⟨B, 0, none⟩ = some (.string sb) := fun w' hk =>
    ⟨(cell_of_block (p := ⟨A, 0, none⟩) (hk.block A hAl (fun h => by rcases h with h | h; exact hAO h; exact hAP h))).trans hA,
     (cell_of_block (p := ⟨B, 0, none⟩) (hk.block B hBl (fun h => by rcases h with h | h; exact hBO h; exact hBP h))).trans hB⟩
  have HS := hid hS
  have HF0 := hid ((Keeps.refl (fun _ => False) w).drew)
  have HT0 := hid (show Keeps (fun k => k = O ∨ k = P) w w.drew from (Keeps.refl _ w).drew)
  have st1 := hid (show ∀ W v, Keeps (fun k => k = O ∨ k = P) w W → Keeps (fun k => k = O ∨ k = P) w (W.setCell ⟨O, 0, none⟩ v) from fun W v h => h.setCell _ (.inl (.inl rfl)) v)
  have st2 := hid (show ∀ W v, Keeps (fun k => k = O ∨ k = P) w W → Keeps (fun k => k = O ∨ k = P) w (W.setCell ⟨P, 0, none⟩ v) from fun W v h => h.setCell _ (.inl (.inr rfl)) v)
  have C1 := hid (number_int sa na la da w.drew TA.out HG0.out)
  clear hO hP ta tb G hS
  go_enter Tryz.func87, Tryz.ntmps87
  go_upto_region 0 with fail
  go_region_held3 (fun w' => w'.cell? ⟨A, 0, none⟩ = some (.string sa) ∧ w'.cell? ⟨B, 0, none⟩ = some (.string sb))
    (first | with_reducible exact HS.out _ HT0.out | with_reducible exact HS.out _ HT1.out | with_reducible exact HS.out _ HT2.out | with_reducible exact HS.out _ HT3.out | with_reducible exact HS.out _ HT4.out | with_reducible exact HS.out _ HT5.out | with_reducible exact HS.out _ HT6.out | with_reducible exact HS.out _ (st1.out _ _ HT6.out) | with_reducible exact HS.out _ (st2.out _ _ (st1.out _ _ HT6.out)))
    (first
     | (go_at_call 67; with_reducible refine C1.out.mono ?_; rintro e w1 ⟨p1, a1, l1, c1, rfl, h1, h2, h3, h4⟩; have HF1 := hid (HF0.out.trans h4); have HT1 := hid ((HF0.out.trans h4).any (S := fun k => k = O ∨ k = P)); have I1 := hid h2.at; have HG1 := hid (HG0.out.keep h4 (fun _ _ h => h)); obtain ⟨x1, y1⟩ := HS.out _ HT1.out; have C2 := hid (number_int sb nb lb db w1 TB.out HG1.out); clear h1 h2 h3 h4)
     | (go_at_call 67; with_reducible refine C2.out.mono ?_; rintro e w2 ⟨p2, a2, l2, c2, rfl, h1, h2, h3, h4⟩; have HF2 := hid (HF1.out.trans h4); have HT2 := hid ((HF1.out.trans h4).any (S := fun k => k = O ∨ k = P)); have I2 := hid h2.at; have I1' := hid (I1.out.keep h4); have HG2 := hid (HG1.out.keep h4 (fun _ _ h => h)); obtain ⟨x2, y2⟩ := HS.out _ HT2.out; clear h1 h2 h3 h4)
     | (go_at_call 88; refine (cmp88_any p1 p2 105 105 _ _ w2 I1'.out I2.out).mono ?_; rintro e w3 ⟨rfl, h1⟩; have h4 := quiet_keeps (fun _ => False) h1; have HF3 := hid (HF2.out.trans h4); have HT3 := hid ((HF2.out.trans h4).any (S := fun k => k = O ∨ k = P)); have HG3 := hid (HG2.out.keep h4 (fun _ _ h => h)); obtain ⟨x3, y3⟩ := HS.out _ HT3.out; have C3 := hid (number_int sa na la da w3 TA.out HG3.out); clear h1 h4)
     | (go_at_call 67; with_reducible refine C3.out.mono ?_; rintro e w4 ⟨p3, a3, l3, c3, rfl, h1, h2, h3, h4⟩; have HF4 := hid (HF3.out.trans h4); have HT4 := hid ((HF3.out.trans h4).any (S := fun k => k = O ∨ k = P)); have I3 := hid h2.at; have HG4 := hid (HG3.out.keep h4 (fun _ _ h => h)); obtain ⟨x4, y4⟩ := HS.out _ HT4.out; have C4 := hid (number_int sb nb lb db w4 TB.out HG4.out); clear h1 h2 h3 h4)
     | (go_at_call 67; with_reducible refine C4.out.mono ?_; rintro e w5 ⟨p4, a4, l4, c4, rfl, h1, h2, h3, h4⟩; have HF5 := hid (HF4.out.trans h4); have HT5 := hid ((HF4.out.trans h4).any (S := fun k => k = O ∨ k = P)); have I4 := hid h2.at; have I3' := hid (I3.out.keep h4); obtain ⟨x5, y5⟩ := HS.out _ HT5.out; clear h1 h2 h3 h4)
     | (go_at_call 89; refine (cmpAbs89_any p3 p4 105 105 _ _ w5 I3'.out I4.out).mono ?_; rintro e w6 ⟨rfl, h1⟩; have h4 := quiet_keeps (fun _ => False) h1; have HF6 := hid (HF5.out.trans h4); have HT6 := hid ((HF5.out.trans h4).any (S := fun k => k = O ∨ k = P)); obtain ⟨x6, y6⟩ := HS.out _ HT6.out; have hk6 := HF5.out.trans h4; have vO := RowAt.cell (hk6.row HO.out (fun h => h)) 0; have vP := RowAt.cell (hk6.row HP.out (fun h => h)) 0; have fO := RowAt.frozen (hk6.row HO.out (fun h => h)) 0; have fP := RowAt.frozen (hk6.row HP.out (fun h => h)) 0; simp only [List.getElem?_cons_zero] at vO vP; clear h1 h4 hk6))
  go_end0
  exact ⟨rfl, w6, HF6.out, by rw [numZ_abs, numZ_abs]⟩

theorem call87 (cap : Array Value) (w : World) : (callFunc 87 cap).run Tryz.prog w = .ok (.enter 87 cap) w := by simp [go_sem, callFunc, Tryz.func87]; rfl

/-- The two results of BigCompare, written. -/
def Outc (n : Nat) (x y : Int) (w : World) : Prop := RowAt w (n + 1 + 1) 3 [.int .i64 x] ∧ RowAt w (n + 1 + 1 + 1) 3 [.int .i64 y]
theorem Outc.drew {n : Nat} {x y : Int} {w : World} (h : Outc n x y w) : Outc n x y w.drew := h
theorem Outc.s0 {n : Nat} {x y : Int} {w : World} (h : Outc n x y w) : Outc n x y (w.setCell ⟨n + 1 + 1, 0, none⟩ (.int .i64 x)) := ⟨RowAt.set h.1 0 (.int .i64 x), RowAt.other h.2 (show n + 1 + 1 ≠ n + 1 + 1 + 1 by omega) _⟩
theorem Outc.s1 {n : Nat} {x y : Int} {w : World} (h : Outc n x y w) : Outc n x y (w.setCell ⟨n + 1 + 1 + 1, 0, none⟩ (.int .i64 y)) := ⟨RowAt.other h.1 (show n + 1 + 1 + 1 ≠ n + 1 + 1 by omega) _, RowAt.set h.2 0 (.int .i64 y)⟩
theorem Outc.cells {n : Nat} {x y : Int} {w : World} (h : Outc n x y w) : w.cell? ⟨n + 1 + 1, 0, none⟩ = some (.int .i64 x) ∧ w.cell? ⟨n + 1 + 1 + 1, 0, none⟩ = some (.int .i64 y) := ⟨h.1.cell 0, h.2.cell 0⟩

theorem bigCompare29 (sa sb : ByteArray) (na nb : Bool) (da db : Nat → Nat) (la lb : Nat) (w : World) (ta : NumText sa na la da) (tb : NumText sb nb lb db) (G : Glob w) (x y : Int)
    (hx : x = cmpZ (numZ na (dval da la)) (numZ nb (dval db lb))) (hy : y = cmpI (dval da la) (dval db lb)) :
    Calls Tryz.prog 29 #[.string sa, .string sb] w fun e w' => e = .returned (.tuple #[.int .i64 x, .int .i64 y]) ∧ Keeps (fun _ => False) w w' := by
  have hmf : ∀ (fn : Fn) (first cap : Array Value) (w : World), (Instr.makeFunc fn first cap).run Tryz.prog w = .ok (.func fn first cap) w := fun _ _ _ _ => rfl
  have HX := hid hx; have HY := hid hy
  clear hx hy
  go_enter Tryz.func29, Tryz.ntmps29
  go_wp2_with fail
  obtain ⟨W1, e1⟩ : ∃ W, W = w.alloc (.cells #[.string sa] 9) := ⟨_, rfl⟩
  obtain ⟨W2, e2⟩ : ∃ W, W = W1.alloc (.cells #[.string sb] 9) := ⟨_, rfl⟩
  obtain ⟨W3, e3⟩ : ∃ W, W = W2.alloc (.cells #[.int .i64 0] 3) := ⟨_, rfl⟩
  obtain ⟨W4, e4⟩ : ∃ W, W = W3.alloc (.cells #[.int .i64 0] 3) := ⟨_, rfl⟩
  rw [← e1, ← e2, ← e3, ← e4]
  obtain ⟨n, hn⟩ : ∃ n, n = w.heap.size := ⟨_, rfl⟩
  have s1 : W1.heap.size = n + 1 := by rw [e1, hn]; simp
  have s2 : W2.heap.size = n + 1 + 1 := by rw [e2, ← s1]; simp
  have s3 : W3.heap.size = n + 1 + 1 + 1 := by rw [e3, ← s2]; simp
  have s4 : W4.heap.size = n + 1 + 1 + 1 + 1 := by rw [e4, ← s3]; simp
  have r1 : RowAt W4 (n) 9 [.string sa] := by
    have h : RowAt W1 (n) 9 [.string sa] := by rw [e1, hn]; exact RowAt.new w 9 [.string sa]
    rw [e4, e3, e2]; exact (((h).alloc _).alloc _).alloc _
  have r2 : RowAt W4 (n + 1) 9 [.string sb] := by
    have h : RowAt W2 (n + 1) 9 [.string sb] := by rw [e2, ← s1]; exact RowAt.new W1 9 [.string sb]
    rw [e4, e3]; exact ((h).alloc _).alloc _
  have r3 : RowAt W4 (n + 1 + 1) 3 [.int .i64 0] := by
    have h : RowAt W3 (n + 1 + 1) 3 [.int .i64 0] := by rw [e3, ← s2]; exact RowAt.new W2 3 [.int .i64 0]
    rw [e4]; exact (h).alloc _
  have r4 : RowAt W4 (n + 1 + 1 + 1) 3 [.int .i64 0] := by
    have h : RowAt W4 (n + 1 + 1 + 1) 3 [.int .i64 0] := by rw [e4, ← s3]; exact RowAt.new W3 3 [.int .i64 0]
    exact h
  have hk : Keeps (fun _ => False) w W4 := by
    rw [e4, e3, e2, e1]
    exact (((((Keeps.refl (fun _ => False) w)).alloc _).alloc _).alloc _).alloc _
  rw [← hn]
  clear e1 e2 e3 e4 s1 s2 s3
  obtain ⟨W8, e8⟩ : ∃ W, W = W4.alloc (.cells #[.bool false] 4) := ⟨_, rfl⟩
  have hk8 : Keeps (fun _ => False) W4 W8 := by rw [e8]; exact (Keeps.refl _ W4).alloc _
  have r8 : RowAt W8 W4.heap.size 4 [.bool false] := by rw [e8]; exact RowAt.new W4 4 [.bool false]
  have q1 := hk8.row r1 (fun h => h)
  have q2 := hk8.row r2 (fun h => h)
  have q3 := hk8.row r3 (fun h => h)
  have q4 := hk8.row r4 (fun h => h)
  have hc := bigCompare87 n (n + 1) (n + 1 + 1) (n + 1 + 1 + 1) sa sb na nb da db la lb 0 0 W8 (q1.cell 0) (q2.cell 0) q3 q4 (by omega) (by omega) (by omega) (by omega) (by omega) ta tb (G.keep (hk.trans hk8) (fun _ _ h => h))
  rw [← HX.out, ← HY.out] at hc
  have hsafe := safe_any 87 _ W4 (fun w' => ∃ wb, Keeps (fun _ => False) W8 wb ∧ w' = (wb.setCell ⟨n + 1 + 1, 0, none⟩ (.int .i64 x)).setCell ⟨n + 1 + 1 + 1, 0, none⟩ (.int .i64 y)) (call87 _) (by
    rw [← e8]
    refine hc.mono ?_
    rintro e w' ⟨rfl, wb, h1, rfl⟩
    refine ⟨rfl, ⟨wb, h1, rfl⟩, ?_⟩
    have h2 := h1.row r8 (fun h => h)
    exact ((h2.other (show n + 1 + 1 ≠ W4.heap.size by omega) _).other (show n + 1 + 1 + 1 ≠ W4.heap.size by omega) _))
  have HS := hid hsafe; have HK := hid hk; have HK8 := hid hk8
  have Q3 := hid q3; have Q4 := hid q4
  clear hc hsafe hk hk8 q1 q2 q3 q4 r1 r2 r3 r4 r8 e8
  refine HS.out.mono ?_
  rintro e w9 ⟨rfl, w10, ⟨wb, h1, rfl⟩, rfl⟩
  have z2 : RowAt ((((wb.setCell ⟨n + 1 + 1, 0, none⟩ (.int .i64 x)).setCell ⟨n + 1 + 1 + 1, 0, none⟩ (.int .i64 y)).setCell ⟨W4.heap.size, 0, none⟩ (.bool true)).setCell ⟨W4.heap.size, 0, none⟩ (.bool true)) (n + 1 + 1) 3 [.int .i64 x] := (((((h1.row Q3.out (fun h => h)).set 0 (.int .i64 x)).other (show n + 1 + 1 + 1 ≠ n + 1 + 1 by omega) _).other (show W4.heap.size ≠ n + 1 + 1 by omega) _).other (show W4.heap.size ≠ n + 1 + 1 by omega) _)
  have z3 : RowAt ((((wb.setCell ⟨n + 1 + 1, 0, none⟩ (.int .i64 x)).setCell ⟨n + 1 + 1 + 1, 0, none⟩ (.int .i64 y)).setCell ⟨W4.heap.size, 0, none⟩ (.bool true)).setCell ⟨W4.heap.size, 0, none⟩ (.bool true)) (n + 1 + 1 + 1) 3 [.int .i64 y] := (((((h1.row Q4.out (fun h => h)).other (show n + 1 + 1 ≠ n + 1 + 1 + 1 by omega) _).set 0 (.int .i64 y)).other (show W4.heap.size ≠ n + 1 + 1 + 1 by omega) _).other (show W4.heap.size ≠ n + 1 + 1 + 1 by omega) _)
  have hk9 : Keeps (fun _ => False) w ((((wb.setCell ⟨n + 1 + 1, 0, none⟩ (.int .i64 x)).setCell ⟨n + 1 + 1 + 1, 0, none⟩ (.int .i64 y)).setCell ⟨W4.heap.size, 0, none⟩ (.bool true)).setCell ⟨W4.heap.size, 0, none⟩ (.bool true)) := (((((HK.out.trans (HK8.out.trans h1)).setCell _ (.inr (by show w.heap.size ≤ n + 1 + 1; omega)) _).setCell _ (.inr (by show w.heap.size ≤ n + 1 + 1 + 1; omega)) _).setCell _ (.inr (by show w.heap.size ≤ W4.heap.size; omega)) _).setCell _ (.inr (by show w.heap.size ≤ W4.heap.size; omega)) _)
  generalize ((((wb.setCell ⟨n + 1 + 1, 0, none⟩ (.int .i64 x)).setCell ⟨n + 1 + 1 + 1, 0, none⟩ (.int .i64 y)).setCell ⟨W4.heap.size, 0, none⟩ (.bool true)).setCell ⟨W4.heap.size, 0, none⟩ (.bool true)) = w11 at *
  have c2 : w11.cell? ⟨n + 1 + 1, 0, none⟩ = some (.int .i64 x) := z2.cell 0
  have f2 := z2.frozen 0
  have c3 : w11.cell? ⟨n + 1 + 1 + 1, 0, none⟩ = some (.int .i64 y) := z3.cell 0
  have f3 := z3.frozen 0
  have d23 : n + 1 + 1 ≠ n + 1 + 1 + 1 := by omega
  have d32 : n + 1 + 1 + 1 ≠ n + 1 + 1 := by omega
  have HO : Hid (Outc n x y w11) := hid ⟨z2, z3⟩
  have HK9 := hid hk9; have HNn := hid hn
  clear h1 z2 z3 hk9 HS hn s4 Q3 Q4
  go_upto_region 2 with fail
  go_region_held3 (fun w' => w'.cell? ⟨n + 1 + 1, 0, none⟩ = some (.int .i64 x) ∧ w'.cell? ⟨n + 1 + 1 + 1, 0, none⟩ = some (.int .i64 y)) (first | with_reducible exact Outc.cells HO.out | with_reducible exact Outc.cells (Outc.drew HO.out) | with_reducible exact Outc.cells (Outc.s0 HO.out) | with_reducible exact Outc.cells (Outc.drew (Outc.s0 HO.out)) | with_reducible exact Outc.cells (Outc.s1 (Outc.s0 HO.out)) | with_reducible exact Outc.cells (Outc.drew (Outc.s1 (Outc.s0 HO.out)))) (fail)
  go_wp2_with fail
  have HF : Outc n x y (((w11.setCell ⟨n + 1 + 1, 0, none⟩ (.int .i64 x)).setCell ⟨n + 1 + 1 + 1, 0, none⟩ (.int .i64 y)).drew) := Outc.drew (Outc.s1 (Outc.s0 HO.out))
  have hkf : Keeps (fun _ => False) w (((w11.setCell ⟨n + 1 + 1, 0, none⟩ (.int .i64 x)).setCell ⟨n + 1 + 1 + 1, 0, none⟩ (.int .i64 y)).drew) := ((HK9.out.setCell _ (.inr (by show w.heap.size ≤ n + 1 + 1; have := HNn.out; omega)) _).setCell _ (.inr (by show w.heap.size ≤ n + 1 + 1 + 1; have := HNn.out; omega)) _).drew
  generalize (((w11.setCell ⟨n + 1 + 1, 0, none⟩ (.int .i64 x)).setCell ⟨n + 1 + 1 + 1, 0, none⟩ (.int .i64 y)).drew) = wf at *
  obtain ⟨g2, g3⟩ := HF
  have a2 : wf.cell? ⟨n + 1 + 1, 0, none⟩ = some (.int .i64 x) := g2.cell 0
  have a3 : wf.cell? ⟨n + 1 + 1 + 1, 0, none⟩ = some (.int .i64 y) := g3.cell 0
  refine bodyPost_ret (v := .tuple #[.int .i64 x, .int .i64 y]) ?_ rfl ⟨rfl, hkf⟩
  simp [results, Tryz.results29, go_sem, a2, a3]
end Go.Proofs
