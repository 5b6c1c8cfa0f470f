/- Parts of the proofs over the numbers of any length: Both2, Both3. -/
import Derived.Deep.RegionHeld3
import Derived.Test.YtacbllkmcldniaaGreatDoorBothB
import Derived.Test.YtacbllkmcldniaaGreatDoorBothA
set_option linter.unusedSimpArgs false
set_option linter.unusedVariables false
namespace Go.Proofs
open Go.RowKit
set_option maxHeartbeats 1600000
set_option linter.unusedVariables false
set_option linter.unusedSimpArgs false
set_option maxRecDepth 100000

theorem call100 (cap : Array Value) (w : World) : (callFunc 100 cap).run Tryz.prog w = .ok (.enter 100 cap) w := by simp [go_sem, callFunc, Tryz.func100]; rfl

theorem bigBoth39 (sa sb : ByteArray) (na nb : Bool) (da db : Nat → Nat) (la lb : Nat) (x y : Int) (T1 T2 T3 T4 : ByteArray) (w : World) (ta : NumText sa na la da) (tb : NumText sb nb lb db)
    (hx : x = numZ na (dval da la)) (hy : y = numZ nb (dval db lb)) (hxb : x.natAbs < 10 ^ 250) (hyb : y.natAbs < 10 ^ 250) (hy0 : y ≠ 0) (G : Glob w)
    (hT1 : T1 = strB (txt (decide (x.tdiv y < 0)) (x.tdiv y).natAbs)) (hT2 : T2 = strB (txt (decide (x.tmod y < 0)) (x.tmod y).natAbs))
    (hT3 : T3 = strB (txt (decide (dmQ x y < 0)) (dmQ x y).natAbs)) (hT4 : T4 = strB (txt (decide (dmM x y < 0)) (dmM x y).natAbs)) :
    Calls Tryz.prog 39 #[.string sa, .string sb] w fun e w' => e = .returned (.tuple #[.string T1, .string T2, .string T3, .string T4, .bool true]) ∧ Keeps (fun _ => False) w w' := by
  have hmf : ∀ (fn : Fn) (first cap : Array Value) (w : World), (Instr.makeFunc fn first cap).run Tryz.prog w = .ok (.func fn first cap) w := fun _ _ _ _ => rfl
  obtain ⟨B, hB⟩ : ∃ B : List (TypeId × Value), B = [(9, .string sa), (9, .string sb), (9, .string { data := #[] }), (9, .string { data := #[] }), (9, .string { data := #[] }), (9, .string { data := #[] })] := ⟨_, rfl⟩
  obtain ⟨W, hW⟩ : ∃ W, W = boxed w B := ⟨_, rfl⟩
  obtain ⟨m, hm⟩ : ∃ m, m = w.heap.size := ⟨_, rfl⟩
  have hnest : ((((((w.alloc (.cells #[.string sa] 9)).alloc (.cells #[.string sb] 9)).alloc (.cells #[.string { data := #[] }] 9)).alloc (.cells #[.string { data := #[] }] 9)).alloc (.cells #[.string { data := #[] }] 9)).alloc (.cells #[.string { data := #[] }] 9)) = W := by rw [hW, hB]; rfl
  have hk : Keeps (fun _ => False) w W := by rw [hW]; exact boxed_keeps w B
  have hs : W.heap.size = m + 6 := by rw [hW, boxed_size, hB, hm]; rfl
  have hr : ∀ (i : Nat) (x : TypeId × Value), B[i]? = some x → RowAt W (m + i) x.1 [x.2] := fun i x h => by rw [hW, hm]; exact boxed_row w B i x h
  rw [hB] at hr
  have q0 : RowAt W (m) 9 [.string sa] := hr 0 _ rfl
  have q1 : RowAt W (m + 1) 9 [.string sb] := hr 1 _ rfl
  have q2 : RowAt W (m + 1 + 1) 9 [.string { data := #[] }] := hr 2 _ rfl
  have q3 : RowAt W (m + 1 + 1 + 1) 9 [.string { data := #[] }] := hr 3 _ rfl
  have q4 : RowAt W (m + 1 + 1 + 1 + 1) 9 [.string { data := #[] }] := hr 4 _ rfl
  have q5 : RowAt W (m + 1 + 1 + 1 + 1 + 1) 9 [.string { data := #[] }] := hr 5 _ rfl
  obtain ⟨L, hL⟩ : ∃ L : List (Nat × TypeId × Value), L = [(m + 1 + 1, 9, .string T1), (m + 1 + 1 + 1, 9, .string T2), (m + 1 + 1 + 1 + 1, 9, .string T3), (m + 1 + 1 + 1 + 1 + 1, 9, .string T4)] := ⟨_, rfl⟩
  have hsafe := safe_outs 100 #[.pointer (some ⟨m, 0, none⟩), .pointer (some ⟨m + 1, 0, none⟩), .pointer (some ⟨m + 1 + 1, 0, none⟩), .pointer (some ⟨m + 1 + 1 + 1, 0, none⟩), .pointer (some ⟨m + 1 + 1 + 1 + 1, 0, none⟩), .pointer (some ⟨m + 1 + 1 + 1 + 1 + 1, 0, none⟩)] W L (call100 _)
    (by rw [hL]; intro x hx; simp only [List.mem_cons, List.not_mem_nil, or_false] at hx; rcases hx with rfl | rfl | rfl | rfl <;> simp <;> omega)
    (fun w1 hs1 hk1 => by
      rw [hL]
      exact both100 m (m + 1) (m + 1 + 1) (m + 1 + 1 + 1) (m + 1 + 1 + 1 + 1) (m + 1 + 1 + 1 + 1 + 1) sa sb na nb da db la lb x y T1 T2 T3 T4 _ _ _ _ w1 ((hk1.row q0 (fun h => h)).cell 0) ((hk1.row q1 (fun h => h)).cell 0) ta tb
        (hk1.row q2 (fun h => h)) (hk1.row q3 (fun h => h)) (hk1.row q4 (fun h => h)) (hk1.row q5 (fun h => h)) (by simp <;> omega) hx hy hxb hyb hy0 (G.keep (hk.trans hk1) (fun _ _ h => h)) hT1 hT2 hT3 hT4)
  have HS := hid hsafe; have HK := hid hk; have HL := hid hL; have HM := hid hm
  clear hsafe hk hL q0 q1 q2 q3 q4 q5 hr hs hB hW hT1 hT2 hT3 hT4 G ta tb hx hy hxb hyb hy0
  go_enter Tryz.func39, Tryz.ntmps39
  go_wp2_with fail
  rw [← hm]
  clear hnest hm
  refine HS.out.mono ?_
  rintro e w2 ⟨rfl, ho, hk2⟩
  have hkf : Keeps (fun _ => False) w w2 := HK.out.fresh hk2 (fun i ⟨x, hx, he⟩ => by
    rw [HL.out] at hx
    simp only [List.mem_cons, List.not_mem_nil, or_false] at hx
    have := HM.out
    rcases hx with rfl | rfl | rfl | rfl <;> simp at he <;> omega)
  have HO := hid ho; have HKF := hid hkf
  have m0 : (m + 1 + 1, 9, (.string T1 : Value)) ∈ L := by rw [HL.out]; exact .head _
  have m1 : (m + 1 + 1 + 1, 9, (.string T2 : Value)) ∈ L := by rw [HL.out]; exact .tail _ (.head _)
  have m2 : (m + 1 + 1 + 1 + 1, 9, (.string T3 : Value)) ∈ L := by rw [HL.out]; exact .tail _ (.tail _ (.head _))
  have m3 : (m + 1 + 1 + 1 + 1 + 1, 9, (.string T4 : Value)) ∈ L := by rw [HL.out]; exact .tail _ (.tail _ (.tail _ (.head _)))
  have hS : ∀ w', OutL w' L → w'.cell? ⟨m + 1 + 1, 0, none⟩ = some (.string T1) ∧ w'.cell? ⟨m + 1 + 1 + 1, 0, none⟩ = some (.string T2) ∧ w'.cell? ⟨m + 1 + 1 + 1 + 1, 0, none⟩ = some (.string T3) ∧ w'.cell? ⟨m + 1 + 1 + 1 + 1 + 1, 0, none⟩ = some (.string T4) := fun w' h => ⟨h.cell m0, h.cell m1, h.cell m2, h.cell m3⟩
  have HSS := hid hS
  have f0 := ho.frozen m0; have f1 := ho.frozen m1; have f2 := ho.frozen m2; have f3 := ho.frozen m3
  obtain ⟨c0, c1, c2, c3⟩ := hS w2 ho
  have e0 := hid (show ∃ t, (m + 1 + 1, t, (.string T1 : Value)) ∈ L from ⟨_, m0⟩)
  have e1 := hid (show ∃ t, (m + 1 + 1 + 1, t, (.string T2 : Value)) ∈ L from ⟨_, m1⟩)
  have e2 := hid (show ∃ t, (m + 1 + 1 + 1 + 1, t, (.string T3 : Value)) ∈ L from ⟨_, m2⟩)
  have e3 := hid (show ∃ t, (m + 1 + 1 + 1 + 1 + 1, t, (.string T4 : Value)) ∈ L from ⟨_, m3⟩)
  clear ho hk2 hkf m0 m1 m2 m3 hS
  go_upto_region 4 with fail
  go_region_held3 (fun w' => w'.cell? ⟨m + 1 + 1, 0, none⟩ = some (.string T1) ∧ w'.cell? ⟨m + 1 + 1 + 1, 0, none⟩ = some (.string T2) ∧ w'.cell? ⟨m + 1 + 1 + 1 + 1, 0, none⟩ = some (.string T3) ∧ w'.cell? ⟨m + 1 + 1 + 1 + 1 + 1, 0, none⟩ = some (.string T4))
    (((with_reducible refine HSS.out _ ?_); repeat (first | (with_reducible exact HO.out) | (with_reducible refine OutL.again ?_ e0.out) | (with_reducible refine OutL.again ?_ e1.out) | (with_reducible refine OutL.again ?_ e2.out) | (with_reducible refine OutL.again ?_ e3.out) | (with_reducible refine OutL.drew ?_)))) (fail)
  go_wp2_with fail
  have hof := OutL.drew ((((HO.out.again e0.out).again e1.out).again e2.out).again e3.out)
  have hge : ∀ i, m ≤ i → w.heap.size ≤ i := fun i hi => by rw [← HM.out]; exact hi
  have hkf := ((((HKF.out.setCell ⟨m + 1 + 1, 0, none⟩ (.inr (hge _ (by show m ≤ m + 1 + 1; omega))) (.string T1)).setCell ⟨m + 1 + 1 + 1, 0, none⟩ (.inr (hge _ (by show m ≤ m + 1 + 1 + 1; omega))) (.string T2)).setCell ⟨m + 1 + 1 + 1 + 1, 0, none⟩ (.inr (hge _ (by show m ≤ m + 1 + 1 + 1 + 1; omega))) (.string T3)).setCell ⟨m + 1 + 1 + 1 + 1 + 1, 0, none⟩ (.inr (hge _ (by show m ≤ m + 1 + 1 + 1 + 1 + 1; omega))) (.string T4)).drew
  obtain ⟨a0, a1, a2, a3⟩ := HSS.out _ hof
  generalize ((((w2.setCell ⟨m + 1 + 1, 0, none⟩ (.string T1)).setCell ⟨m + 1 + 1 + 1, 0, none⟩ (.string T2)).setCell ⟨m + 1 + 1 + 1 + 1, 0, none⟩ (.string T3)).setCell ⟨m + 1 + 1 + 1 + 1 + 1, 0, none⟩ (.string T4)).drew = wf at *
  refine bodyPost_ret (v := (.tuple #[.string T1, .string T2, .string T3, .string T4, .bool true])) ?_ rfl ⟨rfl, hkf⟩
  simp [results, Tryz.results39, go_sem, a0, a1, a2, a3]
end Go.Proofs
namespace Go.Proofs
open Go.RowKit
set_option maxHeartbeats 1600000
set_option linter.unusedVariables false
set_option linter.unusedSimpArgs false
set_option maxRecDepth 100000

theorem bigBoth39_zero (sa sb : ByteArray) (na nb : Bool) (da db : Nat → Nat) (la lb : Nat) (x : Int) (w : World) (ta : NumText sa na la da) (tb : NumText sb nb lb db)
    (hx : x = numZ na (dval da la)) (hy : 0 = numZ nb (dval db lb)) (G : Glob w) :
    Calls Tryz.prog 39 #[.string sa, .string sb] w fun e w' => e = .returned (.tuple #[.string { data := #[] }, .string { data := #[] }, .string { data := #[] }, .string { data := #[] }, .bool false]) ∧ Keeps (fun _ => False) w w' := by
  have hmf : ∀ (fn : Fn) (first cap : Array Value) (w : World), (Instr.makeFunc fn first cap).run Tryz.prog w = .ok (.func fn first cap) w := fun _ _ _ _ => rfl
  obtain ⟨B, hB⟩ : ∃ B : List (TypeId × Value), B = [(9, .string sa), (9, .string sb), (9, .string { data := #[] }), (9, .string { data := #[] }), (9, .string { data := #[] }), (9, .string { data := #[] })] := ⟨_, rfl⟩
  obtain ⟨W, hW⟩ : ∃ W, W = boxed w B := ⟨_, rfl⟩
  obtain ⟨m, hm⟩ : ∃ m, m = w.heap.size := ⟨_, rfl⟩
  have hnest : ((((((w.alloc (.cells #[.string sa] 9)).alloc (.cells #[.string sb] 9)).alloc (.cells #[.string { data := #[] }] 9)).alloc (.cells #[.string { data := #[] }] 9)).alloc (.cells #[.string { data := #[] }] 9)).alloc (.cells #[.string { data := #[] }] 9)) = W := by rw [hW, hB]; rfl
  have hk : Keeps (fun _ => False) w W := by rw [hW]; exact boxed_keeps w B
  have hs : W.heap.size = m + 6 := by rw [hW, boxed_size, hB, hm]; rfl
  have hr : ∀ (i : Nat) (x : TypeId × Value), B[i]? = some x → RowAt W (m + i) x.1 [x.2] := fun i x h => by rw [hW, hm]; exact boxed_row w B i x h
  rw [hB] at hr
  have q0 : RowAt W (m) 9 [.string sa] := hr 0 _ rfl
  have q1 : RowAt W (m + 1) 9 [.string sb] := hr 1 _ rfl
  have q2 : RowAt W (m + 1 + 1) 9 [.string { data := #[] }] := hr 2 _ rfl
  have q3 : RowAt W (m + 1 + 1 + 1) 9 [.string { data := #[] }] := hr 3 _ rfl
  have q4 : RowAt W (m + 1 + 1 + 1 + 1) 9 [.string { data := #[] }] := hr 4 _ rfl
  have q5 : RowAt W (m + 1 + 1 + 1 + 1 + 1) 9 [.string { data := #[] }] := hr 5 _ rfl
  obtain ⟨L, hL⟩ : ∃ L : List (Nat × TypeId × Value), L = [(m + 1 + 1, 9, .string { data := #[] }), (m + 1 + 1 + 1, 9, .string { data := #[] }), (m + 1 + 1 + 1 + 1, 9, .string { data := #[] }), (m + 1 + 1 + 1 + 1 + 1, 9, .string { data := #[] })] := ⟨_, rfl⟩
  have hoL : OutL W L := by
    rw [hL]; intro x hx; simp only [List.mem_cons, List.not_mem_nil, or_false] at hx
    rcases hx with rfl | rfl | rfl | rfl
    · exact q2
    · exact q3
    · exact q4
    · exact q5
  have hk8 : Keeps (fun _ => False) W (W.alloc (.cells #[.bool false] 4)) := (Keeps.refl _ W).alloc _
  have hsafe := safe_panics 100 #[.pointer (some ⟨m, 0, none⟩), .pointer (some ⟨m + 1, 0, none⟩), .pointer (some ⟨m + 1 + 1, 0, none⟩), .pointer (some ⟨m + 1 + 1 + 1, 0, none⟩), .pointer (some ⟨m + 1 + 1 + 1 + 1, 0, none⟩), .pointer (some ⟨m + 1 + 1 + 1 + 1 + 1, 0, none⟩)] W (fun w1 => Keeps (fun _ => False) W w1) (call100 _)
    ((both100_zero m (m + 1) (m + 1 + 1) (m + 1 + 1 + 1) (m + 1 + 1 + 1 + 1) (m + 1 + 1 + 1 + 1 + 1) sa sb na nb da db la lb x _ ((hk8.row q0 (fun h => h)).cell 0) ((hk8.row q1 (fun h => h)).cell 0) ta tb hx hy (G.keep (hk.trans hk8) (fun _ _ h => h))).mono
      (fun e w' h => ⟨h.1, hk8.trans h.2, h.2.row (RowAt.new W 4 [.bool false]) (fun h => h)⟩))
  have HS := hid hsafe; have HK := hid hk; have HL := hid hL; have HM := hid hm; have HOW := hid hoL
  clear hsafe hk hL q0 q1 q2 q3 q4 q5 hr hs hB hW hoL hk8 G ta tb hx hy
  go_enter Tryz.func39, Tryz.ntmps39
  go_wp2_with fail
  rw [← hm]
  clear hnest hm
  refine HS.out.mono ?_
  rintro e w2 ⟨rfl, w1, hk1, hw2⟩
  have hk2 : Keeps (fun _ => False) W w2 := by rw [hw2]; exact hk1.setCell _ (.inr (Nat.le_refl _)) _
  have ho : OutL w2 L := HOW.out.keep hk2 (fun _ _ h => h)
  have HO := hid ho; have HKF := hid (HK.out.trans hk2)
  clear hk1 hk2 hw2
  have m0 : (m + 1 + 1, 9, (.string { data := #[] } : Value)) ∈ L := by rw [HL.out]; exact .head _
  have m1 : (m + 1 + 1 + 1, 9, (.string { data := #[] } : Value)) ∈ L := by rw [HL.out]; exact .tail _ (.head _)
  have m2 : (m + 1 + 1 + 1 + 1, 9, (.string { data := #[] } : Value)) ∈ L := by rw [HL.out]; exact .tail _ (.tail _ (.head _))
  have m3 : (m + 1 + 1 + 1 + 1 + 1, 9, (.string { data := #[] } : Value)) ∈ L := by rw [HL.out]; exact .tail _ (.tail _ (.tail _ (.head _)))
  have hS : ∀ w', OutL w' L → w'.cell? ⟨m + 1 + 1, 0, none⟩ = some (.string { data := #[] }) ∧ w'.cell? ⟨m + 1 + 1 + 1, 0, none⟩ = some (.string { data := #[] }) ∧ w'.cell? ⟨m + 1 + 1 + 1 + 1, 0, none⟩ = some (.string { data := #[] }) ∧ w'.cell? ⟨m + 1 + 1 + 1 + 1 + 1, 0, none⟩ = some (.string { data := #[] }) := fun w' h => ⟨h.cell m0, h.cell m1, h.cell m2, h.cell m3⟩
  have HSS := hid hS
  have f0 := ho.frozen m0; have f1 := ho.frozen m1; have f2 := ho.frozen m2; have f3 := ho.frozen m3
  obtain ⟨c0, c1, c2, c3⟩ := hS w2 ho
  have e0 := hid (show ∃ t, (m + 1 + 1, t, (.string { data := #[] } : Value)) ∈ L from ⟨_, m0⟩)
  have e1 := hid (show ∃ t, (m + 1 + 1 + 1, t, (.string { data := #[] } : Value)) ∈ L from ⟨_, m1⟩)
  have e2 := hid (show ∃ t, (m + 1 + 1 + 1 + 1, t, (.string { data := #[] } : Value)) ∈ L from ⟨_, m2⟩)
  have e3 := hid (show ∃ t, (m + 1 + 1 + 1 + 1 + 1, t, (.string { data := #[] } : Value)) ∈ L from ⟨_, m3⟩)
  clear ho m0 m1 m2 m3 hS
  go_wp2_with fail
  have hof := ((((HO.out.again e0.out).again e1.out).again e2.out).again e3.out)
  have hge : ∀ i, m ≤ i → w.heap.size ≤ i := fun i hi => by rw [← HM.out]; exact hi
  have hkf := ((((HKF.out.setCell ⟨m + 1 + 1, 0, none⟩ (.inr (hge _ (by show m ≤ m + 1 + 1; omega))) (.string { data := #[] })).setCell ⟨m + 1 + 1 + 1, 0, none⟩ (.inr (hge _ (by show m ≤ m + 1 + 1 + 1; omega))) (.string { data := #[] })).setCell ⟨m + 1 + 1 + 1 + 1, 0, none⟩ (.inr (hge _ (by show m ≤ m + 1 + 1 + 1 + 1; omega))) (.string { data := #[] })).setCell ⟨m + 1 + 1 + 1 + 1 + 1, 0, none⟩ (.inr (hge _ (by show m ≤ m + 1 + 1 + 1 + 1 + 1; omega))) (.string { data := #[] }))
  obtain ⟨a0, a1, a2, a3⟩ := HSS.out _ hof
  generalize ((((w2.setCell ⟨m + 1 + 1, 0, none⟩ (.string { data := #[] })).setCell ⟨m + 1 + 1 + 1, 0, none⟩ (.string { data := #[] })).setCell ⟨m + 1 + 1 + 1 + 1, 0, none⟩ (.string { data := #[] })).setCell ⟨m + 1 + 1 + 1 + 1 + 1, 0, none⟩ (.string { data := #[] })) = wf at *
  refine bodyPost_ret (v := (.tuple #[.string { data := #[] }, .string { data := #[] }, .string { data := #[] }, .string { data := #[] }, .bool false])) ?_ rfl ⟨rfl, hkf⟩
  simp [results, Tryz.results39, go_sem, a0, a1, a2, a3]
end Go.Proofs
