/- Parts of the proofs over the numbers of any length: One130, One131, One133, One134, One135, One58. -/
import Derived.Test.YtacbllkmcldniaaGreatDoorOneB
import Derived.Test.YtacbllkmcldniaaGreatDoorShiftB
import Derived.Test.YtacbllkmcldniaaGreatDoorIntA
import Derived.Test.YtacbllkmcldniaaGreatDoorQRA
set_option linter.unusedSimpArgs false
set_option linter.unusedVariables false
namespace Go.Proofs
open Go.RowKit
set_option maxHeartbeats 2000000
set_option linter.unusedVariables false
set_option linter.unusedSimpArgs false
set_option maxRecDepth 100000

theorem k250 {x z : Int} (h : x.natAbs < 10 ^ 200) (hz : z.natAbs ≤ x.natAbs + 1) : z.natAbs < 10 ^ 251 := by
  have h1 : (10 : Nat) ^ 200 + 1 ≤ 10 ^ 251 := by decide +kernel
  exact Nat.lt_of_lt_of_le (Nat.lt_of_le_of_lt hz (Nat.succ_lt_succ h)) h1
theorem one130_0_true (A D K O : Nat) (sa : ByteArray) (na : Bool) (da : Nat → Nat) (la : Nat) (x : Int) (T s0 : ByteArray) (w : World)
    (hA : w.cell? ⟨A, 0, none⟩ = some (.string sa)) (hD : w.cell? ⟨D, 0, none⟩ = some (.bool true)) (hK : w.cell? ⟨K, 0, none⟩ = some (.int .i64 0)) (ta : NumText sa na la da) (r : RowAt w O 9 [.string s0])
    (hx : x = numZ na (dval da la)) (hxb : x.natAbs < 10 ^ 200) (G : Glob w) (hT : T = strB (txt (decide ((-x) < 0)) ((-x)).natAbs)) :
    Calls Tryz.prog 130 #[.pointer (some ⟨A, 0, none⟩), .pointer (some ⟨D, 0, none⟩), .pointer (some ⟨K, 0, none⟩), .pointer (some ⟨O, 0, none⟩)] w fun e w' => e = .returned (.tuple #[]) ∧ OutL w' [(O, 9, .string T)] ∧ Keeps (OutK [(O, 9, .string T)]) w w' := by
  have hAl : A < w.heap.size := World.block_lt_of_cell? w ⟨A, 0, none⟩ hA
  have hDl : D < w.heap.size := World.block_lt_of_cell? w ⟨D, 0, none⟩ hD
  have hKl : K < w.heap.size := World.block_lt_of_cell? w ⟨K, 0, none⟩ hK
  have HSA : Hid (∀ w', Keeps (fun _ => False) w w' → w'.cell? ⟨D, 0, none⟩ = some (.bool true) ∧ w'.cell? ⟨K, 0, none⟩ = some (.int .i64 0)) := hid (fun w' hk =>
    ⟨(cell_of_block (p := ⟨D, 0, none⟩) (hk.block D hDl (fun h => h))).trans hD, (cell_of_block (p := ⟨K, 0, none⟩) (hk.block K hKl (fun h => h))).trans hK⟩)
  have HG := hid G
  have HX : Hid (x.natAbs < W64 ^ 200) := hid (Nat.lt_of_lt_of_le hxb (by unfold W64; decide +kernel))
  have HN := hid (number_env (Env.start (fun _ => False) w (fun _ h => h.elim)) sa na la da x w.heap.size (Nat.le_refl _) ta hx G)
  have HT := hid hT; have HR := hid r; have HXb := hid hxb
  have HOp : Hid (∀ W V pz px z, Env (fun _ => False) w W V → V pz = some (105, z) → V px = some (105, x) → Calls Tryz.prog 131 #[.pointer (some ⟨pz, 0, none⟩), .pointer (some ⟨px, 0, none⟩)] W fun e w' => e = .returned (.pointer (some ⟨pz, 0, none⟩)) ∧ Env (fun _ => False) w w' (upd V pz 105 (-x))) := hid (fun W V pz px z h1 h2 h3 =>
    w131 _ _ _ _ ((h1.drew.neg183 h2 h3 HX.out).mono (fun e w' ⟨he, h⟩ => ⟨⟨_, he⟩, h⟩)))
  clear hAl hDl hKl hD hK ta r hx hxb G hT
  go_enter Tryz.func130, Tryz.ntmps130
  go_wp2_with fail
  refine HN.out.mono ?_
  rintro e w1 ⟨p1, rfl, o1, o2, h⟩
  have HE1 := hid h
  obtain ⟨y1, y2⟩ := HSA.out _ (h.new 105).keeps
  have HOp1 := hid (HOp.out _ _ p1 p1 _ (h.new 105) (by rw [upd_ne _ _ _ (by omega), upd_eq]) (by rw [upd_ne _ _ _ (by omega), upd_eq]))
  clear h HN HSA
  go_wp2_with fail
  refine HOp1.out.mono ?_
  rintro e w2 ⟨rfl, h⟩
  have HE2 := hid h
  have HS80 := hid (string80_big p1 105 _ w2 (h.get (upd_eq _ _ _ _)) (lt_TXB (k250 HXb.out (by omega))) (HG.out.keep h.keeps (fun _ _ h => h)))
  rw [← HT.out] at HS80
  clear h
  go_wp2_with fail
  refine HS80.out.mono ?_
  rintro e w3 ⟨rfl, h⟩
  have HK3 := hid (HE2.out.keeps.trans h)
  have hr := HK3.out.row HR.out (fun h => h)
  have HR3 := hid hr
  obtain ⟨v0, v1⟩ := hr.st
  clear h hr
  go_wp2_with fail
  go_end0
  refine ⟨rfl, ?_, ?_⟩
  · intro z hz
    simp only [List.mem_cons, List.not_mem_nil, or_false] at hz
    subst hz
    simpa using HR3.out.set 0 (.string T)
  · exact (HK3.out.any.setCell _ (.inl ⟨_, .head _, rfl⟩) _)

theorem one130_0_false (A D K O : Nat) (sa : ByteArray) (na : Bool) (da : Nat → Nat) (la : Nat) (x : Int) (T s0 : ByteArray) (w : World)
    (hA : w.cell? ⟨A, 0, none⟩ = some (.string sa)) (hD : w.cell? ⟨D, 0, none⟩ = some (.bool false)) (hK : w.cell? ⟨K, 0, none⟩ = some (.int .i64 0)) (ta : NumText sa na la da) (r : RowAt w O 9 [.string s0])
    (hx : x = numZ na (dval da la)) (hxb : x.natAbs < 10 ^ 200) (G : Glob w) (hT : T = strB (txt (decide ((-x) < 0)) ((-x)).natAbs)) :
    Calls Tryz.prog 130 #[.pointer (some ⟨A, 0, none⟩), .pointer (some ⟨D, 0, none⟩), .pointer (some ⟨K, 0, none⟩), .pointer (some ⟨O, 0, none⟩)] w fun e w' => e = .returned (.tuple #[]) ∧ OutL w' [(O, 9, .string T)] ∧ Keeps (OutK [(O, 9, .string T)]) w w' := by
  have hAl : A < w.heap.size := World.block_lt_of_cell? w ⟨A, 0, none⟩ hA
  have hDl : D < w.heap.size := World.block_lt_of_cell? w ⟨D, 0, none⟩ hD
  have hKl : K < w.heap.size := World.block_lt_of_cell? w ⟨K, 0, none⟩ hK
  have HSA : Hid (∀ w', Keeps (fun _ => False) w w' → w'.cell? ⟨D, 0, none⟩ = some (.bool false) ∧ w'.cell? ⟨K, 0, none⟩ = some (.int .i64 0)) := hid (fun w' hk =>
    ⟨(cell_of_block (p := ⟨D, 0, none⟩) (hk.block D hDl (fun h => h))).trans hD, (cell_of_block (p := ⟨K, 0, none⟩) (hk.block K hKl (fun h => h))).trans hK⟩)
  have HG := hid G
  have HX : Hid (x.natAbs < W64 ^ 200) := hid (Nat.lt_of_lt_of_le hxb (by unfold W64; decide +kernel))
  have HN := hid (number_env (Env.start (fun _ => False) w (fun _ h => h.elim)) sa na la da x w.heap.size (Nat.le_refl _) ta hx G)
  have HT := hid hT; have HR := hid r; have HXb := hid hxb
  have HOp : Hid (∀ W V pz px z, Env (fun _ => False) w W V → V pz = some (105, z) → V px = some (105, x) → Calls Tryz.prog 131 #[.pointer (some ⟨pz, 0, none⟩), .pointer (some ⟨px, 0, none⟩)] W fun e w' => e = .returned (.pointer (some ⟨pz, 0, none⟩)) ∧ Env (fun _ => False) w w' (upd V pz 105 (-x))) := hid (fun W V pz px z h1 h2 h3 =>
    w131 _ _ _ _ ((h1.drew.neg183 h2 h3 HX.out).mono (fun e w' ⟨he, h⟩ => ⟨⟨_, he⟩, h⟩)))
  clear hAl hDl hKl hD hK ta r hx hxb G hT
  go_enter Tryz.func130, Tryz.ntmps130
  go_wp2_with fail
  refine HN.out.mono ?_
  rintro e w1 ⟨p1, rfl, o1, o2, h⟩
  have HE1 := hid h
  obtain ⟨y1, y2⟩ := HSA.out _ (h.new 105).keeps
  have HOp1 := hid (HOp.out _ _ w1.heap.size p1 _ (h.new 105) (by rw [upd_eq]) (by rw [upd_ne _ _ _ (by omega), upd_eq]))
  clear h HN HSA
  go_wp2_with fail
  refine HOp1.out.mono ?_
  rintro e w2 ⟨rfl, h⟩
  have HE2 := hid h
  have HS80 := hid (string80_big w1.heap.size 105 _ w2 (h.get (upd_eq _ _ _ _)) (lt_TXB (k250 HXb.out (by omega))) (HG.out.keep h.keeps (fun _ _ h => h)))
  rw [← HT.out] at HS80
  clear h
  go_wp2_with fail
  refine HS80.out.mono ?_
  rintro e w3 ⟨rfl, h⟩
  have HK3 := hid (HE2.out.keeps.trans h)
  have hr := HK3.out.row HR.out (fun h => h)
  have HR3 := hid hr
  obtain ⟨v0, v1⟩ := hr.st
  clear h hr
  go_wp2_with fail
  go_end0
  refine ⟨rfl, ?_, ?_⟩
  · intro z hz
    simp only [List.mem_cons, List.not_mem_nil, or_false] at hz
    subst hz
    simpa using HR3.out.set 0 (.string T)
  · exact (HK3.out.any.setCell _ (.inl ⟨_, .head _, rfl⟩) _)

theorem one130_1_true (A D K O : Nat) (sa : ByteArray) (na : Bool) (da : Nat → Nat) (la : Nat) (x : Int) (T s0 : ByteArray) (w : World)
    (hA : w.cell? ⟨A, 0, none⟩ = some (.string sa)) (hD : w.cell? ⟨D, 0, none⟩ = some (.bool true)) (hK : w.cell? ⟨K, 0, none⟩ = some (.int .i64 1)) (ta : NumText sa na la da) (r : RowAt w O 9 [.string s0])
    (hx : x = numZ na (dval da la)) (hxb : x.natAbs < 10 ^ 200) (G : Glob w) (hT : T = strB (txt (decide ((x.natAbs : Int) < 0)) ((x.natAbs : Int)).natAbs)) :
    Calls Tryz.prog 130 #[.pointer (some ⟨A, 0, none⟩), .pointer (some ⟨D, 0, none⟩), .pointer (some ⟨K, 0, none⟩), .pointer (some ⟨O, 0, none⟩)] w fun e w' => e = .returned (.tuple #[]) ∧ OutL w' [(O, 9, .string T)] ∧ Keeps (OutK [(O, 9, .string T)]) w w' := by
  have hAl : A < w.heap.size := World.block_lt_of_cell? w ⟨A, 0, none⟩ hA
  have hDl : D < w.heap.size := World.block_lt_of_cell? w ⟨D, 0, none⟩ hD
  have hKl : K < w.heap.size := World.block_lt_of_cell? w ⟨K, 0, none⟩ hK
  have HSA : Hid (∀ w', Keeps (fun _ => False) w w' → w'.cell? ⟨D, 0, none⟩ = some (.bool true) ∧ w'.cell? ⟨K, 0, none⟩ = some (.int .i64 1)) := hid (fun w' hk =>
    ⟨(cell_of_block (p := ⟨D, 0, none⟩) (hk.block D hDl (fun h => h))).trans hD, (cell_of_block (p := ⟨K, 0, none⟩) (hk.block K hKl (fun h => h))).trans hK⟩)
  have HG := hid G
  have HX : Hid (x.natAbs < W64 ^ 200) := hid (Nat.lt_of_lt_of_le hxb (by unfold W64; decide +kernel))
  have HN := hid (number_env (Env.start (fun _ => False) w (fun _ h => h.elim)) sa na la da x w.heap.size (Nat.le_refl _) ta hx G)
  have HT := hid hT; have HR := hid r; have HXb := hid hxb
  have HOp : Hid (∀ W V pz px z, Env (fun _ => False) w W V → V pz = some (105, z) → V px = some (105, x) → Calls Tryz.prog 132 #[.pointer (some ⟨pz, 0, none⟩), .pointer (some ⟨px, 0, none⟩)] W fun e w' => e = .returned (.pointer (some ⟨pz, 0, none⟩)) ∧ Env (fun _ => False) w w' (upd V pz 105 (x.natAbs : Int))) := hid (fun W V pz px z h1 h2 h3 =>
    w132 _ _ _ _ ((h1.drew.abs184 h2 h3 HX.out).mono (fun e w' ⟨he, h⟩ => ⟨⟨_, he⟩, h⟩)))
  clear hAl hDl hKl hD hK ta r hx hxb G hT
  go_enter Tryz.func130, Tryz.ntmps130
  go_wp2_with fail
  refine HN.out.mono ?_
  rintro e w1 ⟨p1, rfl, o1, o2, h⟩
  have HE1 := hid h
  obtain ⟨y1, y2⟩ := HSA.out _ (h.new 105).keeps
  have HOp1 := hid (HOp.out _ _ p1 p1 _ (h.new 105) (by rw [upd_ne _ _ _ (by omega), upd_eq]) (by rw [upd_ne _ _ _ (by omega), upd_eq]))
  clear h HN HSA
  go_wp2_with fail
  refine HOp1.out.mono ?_
  rintro e w2 ⟨rfl, h⟩
  have HE2 := hid h
  have HS80 := hid (string80_big p1 105 _ w2 (h.get (upd_eq _ _ _ _)) (lt_TXB (k250 HXb.out (by omega))) (HG.out.keep h.keeps (fun _ _ h => h)))
  rw [← HT.out] at HS80
  clear h
  go_wp2_with fail
  refine HS80.out.mono ?_
  rintro e w3 ⟨rfl, h⟩
  have HK3 := hid (HE2.out.keeps.trans h)
  have hr := HK3.out.row HR.out (fun h => h)
  have HR3 := hid hr
  obtain ⟨v0, v1⟩ := hr.st
  clear h hr
  go_wp2_with fail
  go_end0
  refine ⟨rfl, ?_, ?_⟩
  · intro z hz
    simp only [List.mem_cons, List.not_mem_nil, or_false] at hz
    subst hz
    simpa using HR3.out.set 0 (.string T)
  · exact (HK3.out.any.setCell _ (.inl ⟨_, .head _, rfl⟩) _)

theorem one130_1_false (A D K O : Nat) (sa : ByteArray) (na : Bool) (da : Nat → Nat) (la : Nat) (x : Int) (T s0 : ByteArray) (w : World)
    (hA : w.cell? ⟨A, 0, none⟩ = some (.string sa)) (hD : w.cell? ⟨D, 0, none⟩ = some (.bool false)) (hK : w.cell? ⟨K, 0, none⟩ = some (.int .i64 1)) (ta : NumText sa na la da) (r : RowAt w O 9 [.string s0])
    (hx : x = numZ na (dval da la)) (hxb : x.natAbs < 10 ^ 200) (G : Glob w) (hT : T = strB (txt (decide ((x.natAbs : Int) < 0)) ((x.natAbs : Int)).natAbs)) :
    Calls Tryz.prog 130 #[.pointer (some ⟨A, 0, none⟩), .pointer (some ⟨D, 0, none⟩), .pointer (some ⟨K, 0, none⟩), .pointer (some ⟨O, 0, none⟩)] w fun e w' => e = .returned (.tuple #[]) ∧ OutL w' [(O, 9, .string T)] ∧ Keeps (OutK [(O, 9, .string T)]) w w' := by
  have hAl : A < w.heap.size := World.block_lt_of_cell? w ⟨A, 0, none⟩ hA
  have hDl : D < w.heap.size := World.block_lt_of_cell? w ⟨D, 0, none⟩ hD
  have hKl : K < w.heap.size := World.block_lt_of_cell? w ⟨K, 0, none⟩ hK
  have HSA : Hid (∀ w', Keeps (fun _ => False) w w' → w'.cell? ⟨D, 0, none⟩ = some (.bool false) ∧ w'.cell? ⟨K, 0, none⟩ = some (.int .i64 1)) := hid (fun w' hk =>
    ⟨(cell_of_block (p := ⟨D, 0, none⟩) (hk.block D hDl (fun h => h))).trans hD, (cell_of_block (p := ⟨K, 0, none⟩) (hk.block K hKl (fun h => h))).trans hK⟩)
  have HG := hid G
  have HX : Hid (x.natAbs < W64 ^ 200) := hid (Nat.lt_of_lt_of_le hxb (by unfold W64; decide +kernel))
  have HN := hid (number_env (Env.start (fun _ => False) w (fun _ h => h.elim)) sa na la da x w.heap.size (Nat.le_refl _) ta hx G)
  have HT := hid hT; have HR := hid r; have HXb := hid hxb
  have HOp : Hid (∀ W V pz px z, Env (fun _ => False) w W V → V pz = some (105, z) → V px = some (105, x) → Calls Tryz.prog 132 #[.pointer (some ⟨pz, 0, none⟩), .pointer (some ⟨px, 0, none⟩)] W fun e w' => e = .returned (.pointer (some ⟨pz, 0, none⟩)) ∧ Env (fun _ => False) w w' (upd V pz 105 (x.natAbs : Int))) := hid (fun W V pz px z h1 h2 h3 =>
    w132 _ _ _ _ ((h1.drew.abs184 h2 h3 HX.out).mono (fun e w' ⟨he, h⟩ => ⟨⟨_, he⟩, h⟩)))
  clear hAl hDl hKl hD hK ta r hx hxb G hT
  go_enter Tryz.func130, Tryz.ntmps130
  go_wp2_with fail
  refine HN.out.mono ?_
  rintro e w1 ⟨p1, rfl, o1, o2, h⟩
  have HE1 := hid h
  obtain ⟨y1, y2⟩ := HSA.out _ (h.new 105).keeps
  have HOp1 := hid (HOp.out _ _ w1.heap.size p1 _ (h.new 105) (by rw [upd_eq]) (by rw [upd_ne _ _ _ (by omega), upd_eq]))
  clear h HN HSA
  go_wp2_with fail
  refine HOp1.out.mono ?_
  rintro e w2 ⟨rfl, h⟩
  have HE2 := hid h
  have HS80 := hid (string80_big w1.heap.size 105 _ w2 (h.get (upd_eq _ _ _ _)) (lt_TXB (k250 HXb.out (by omega))) (HG.out.keep h.keeps (fun _ _ h => h)))
  rw [← HT.out] at HS80
  clear h
  go_wp2_with fail
  refine HS80.out.mono ?_
  rintro e w3 ⟨rfl, h⟩
  have HK3 := hid (HE2.out.keeps.trans h)
  have hr := HK3.out.row HR.out (fun h => h)
  have HR3 := hid hr
  obtain ⟨v0, v1⟩ := hr.st
  clear h hr
  go_wp2_with fail
  go_end0
  refine ⟨rfl, ?_, ?_⟩
  · intro z hz
    simp only [List.mem_cons, List.not_mem_nil, or_false] at hz
    subst hz
    simpa using HR3.out.set 0 (.string T)
  · exact (HK3.out.any.setCell _ (.inl ⟨_, .head _, rfl⟩) _)

theorem one130_2_true (A D K O : Nat) (sa : ByteArray) (na : Bool) (da : Nat → Nat) (la : Nat) (x : Int) (T s0 : ByteArray) (w : World)
    (hA : w.cell? ⟨A, 0, none⟩ = some (.string sa)) (hD : w.cell? ⟨D, 0, none⟩ = some (.bool true)) (hK : w.cell? ⟨K, 0, none⟩ = some (.int .i64 2)) (ta : NumText sa na la da) (r : RowAt w O 9 [.string s0])
    (hx : x = numZ na (dval da la)) (hxb : x.natAbs < 10 ^ 200) (G : Glob w) (hT : T = strB (txt (decide ((-x - 1) < 0)) ((-x - 1)).natAbs)) :
    Calls Tryz.prog 130 #[.pointer (some ⟨A, 0, none⟩), .pointer (some ⟨D, 0, none⟩), .pointer (some ⟨K, 0, none⟩), .pointer (some ⟨O, 0, none⟩)] w fun e w' => e = .returned (.tuple #[]) ∧ OutL w' [(O, 9, .string T)] ∧ Keeps (OutK [(O, 9, .string T)]) w w' := by
  have hAl : A < w.heap.size := World.block_lt_of_cell? w ⟨A, 0, none⟩ hA
  have hDl : D < w.heap.size := World.block_lt_of_cell? w ⟨D, 0, none⟩ hD
  have hKl : K < w.heap.size := World.block_lt_of_cell? w ⟨K, 0, none⟩ hK
  have HSA : Hid (∀ w', Keeps (fun _ => False) w w' → w'.cell? ⟨D, 0, none⟩ = some (.bool true) ∧ w'.cell? ⟨K, 0, none⟩ = some (.int .i64 2)) := hid (fun w' hk =>
    ⟨(cell_of_block (p := ⟨D, 0, none⟩) (hk.block D hDl (fun h => h))).trans hD, (cell_of_block (p := ⟨K, 0, none⟩) (hk.block K hKl (fun h => h))).trans hK⟩)
  have HG := hid G
  have HX : Hid (x.natAbs < W64 ^ 200) := hid (Nat.lt_of_lt_of_le hxb (by unfold W64; decide +kernel))
  have HN := hid (number_env (Env.start (fun _ => False) w (fun _ h => h.elim)) sa na la da x w.heap.size (Nat.le_refl _) ta hx G)
  have HT := hid hT; have HR := hid r; have HXb := hid hxb
  have HOp : Hid (∀ W V pz px z, Env (fun _ => False) w W V → V pz = some (105, z) → V px = some (105, x) → Calls Tryz.prog 133 #[.pointer (some ⟨pz, 0, none⟩), .pointer (some ⟨px, 0, none⟩)] W fun e w' => e = .returned (.pointer (some ⟨pz, 0, none⟩)) ∧ Env (fun _ => False) w w' (upd V pz 105 (-x - 1))) := hid (fun W V pz px z h1 h2 h3 =>
    w133 _ _ _ _ ((h1.drew.not185 h2 h3 HX.out).mono (fun e w' ⟨he, h⟩ => ⟨⟨_, he⟩, h⟩)))
  clear hAl hDl hKl hD hK ta r hx hxb G hT
  go_enter Tryz.func130, Tryz.ntmps130
  go_wp2_with fail
  refine HN.out.mono ?_
  rintro e w1 ⟨p1, rfl, o1, o2, h⟩
  have HE1 := hid h
  obtain ⟨y1, y2⟩ := HSA.out _ (h.new 105).keeps
  have HOp1 := hid (HOp.out _ _ p1 p1 _ (h.new 105) (by rw [upd_ne _ _ _ (by omega), upd_eq]) (by rw [upd_ne _ _ _ (by omega), upd_eq]))
  clear h HN HSA
  go_wp2_with fail
  refine HOp1.out.mono ?_
  rintro e w2 ⟨rfl, h⟩
  have HE2 := hid h
  have HS80 := hid (string80_big p1 105 _ w2 (h.get (upd_eq _ _ _ _)) (lt_TXB (k250 HXb.out (by omega))) (HG.out.keep h.keeps (fun _ _ h => h)))
  rw [← HT.out] at HS80
  clear h
  go_wp2_with fail
  refine HS80.out.mono ?_
  rintro e w3 ⟨rfl, h⟩
  have HK3 := hid (HE2.out.keeps.trans h)
  have hr := HK3.out.row HR.out (fun h => h)
  have HR3 := hid hr
  obtain ⟨v0, v1⟩ := hr.st
  clear h hr
  go_wp2_with fail
  go_end0
  refine ⟨rfl, ?_, ?_⟩
  · intro z hz
    simp only [List.mem_cons, List.not_mem_nil, or_false] at hz
    subst hz
    simpa using HR3.out.set 0 (.string T)
  · exact (HK3.out.any.setCell _ (.inl ⟨_, .head _, rfl⟩) _)

theorem one130_2_false (A D K O : Nat) (sa : ByteArray) (na : Bool) (da : Nat → Nat) (la : Nat) (x : Int) (T s0 : ByteArray) (w : World)
    (hA : w.cell? ⟨A, 0, none⟩ = some (.string sa)) (hD : w.cell? ⟨D, 0, none⟩ = some (.bool false)) (hK : w.cell? ⟨K, 0, none⟩ = some (.int .i64 2)) (ta : NumText sa na la da) (r : RowAt w O 9 [.string s0])
    (hx : x = numZ na (dval da la)) (hxb : x.natAbs < 10 ^ 200) (G : Glob w) (hT : T = strB (txt (decide ((-x - 1) < 0)) ((-x - 1)).natAbs)) :
    Calls Tryz.prog 130 #[.pointer (some ⟨A, 0, none⟩), .pointer (some ⟨D, 0, none⟩), .pointer (some ⟨K, 0, none⟩), .pointer (some ⟨O, 0, none⟩)] w fun e w' => e = .returned (.tuple #[]) ∧ OutL w' [(O, 9, .string T)] ∧ Keeps (OutK [(O, 9, .string T)]) w w' := by
  have hAl : A < w.heap.size := World.block_lt_of_cell? w ⟨A, 0, none⟩ hA
  have hDl : D < w.heap.size := World.block_lt_of_cell? w ⟨D, 0, none⟩ hD
  have hKl : K < w.heap.size := World.block_lt_of_cell? w ⟨K, 0, none⟩ hK
  have HSA : Hid (∀ w', Keeps (fun _ => False) w w' → w'.cell? ⟨D, 0, none⟩ = some (.bool false) ∧ w'.cell? ⟨K, 0, none⟩ = some (.int .i64 2)) := hid (fun w' hk =>
    ⟨(cell_of_block (p := ⟨D, 0, none⟩) (hk.block D hDl (fun h => h))).trans hD, (cell_of_block (p := ⟨K, 0, none⟩) (hk.block K hKl (fun h => h))).trans hK⟩)
  have HG := hid G
  have HX : Hid (x.natAbs < W64 ^ 200) := hid (Nat.lt_of_lt_of_le hxb (by unfold W64; decide +kernel))
  have HN := hid (number_env (Env.start (fun _ => False) w (fun _ h => h.elim)) sa na la da x w.heap.size (Nat.le_refl _) ta hx G)
  have HT := hid hT; have HR := hid r; have HXb := hid hxb
  have HOp : Hid (∀ W V pz px z, Env (fun _ => False) w W V → V pz = some (105, z) → V px = some (105, x) → Calls Tryz.prog 133 #[.pointer (some ⟨pz, 0, none⟩), .pointer (some ⟨px, 0, none⟩)] W fun e w' => e = .returned (.pointer (some ⟨pz, 0, none⟩)) ∧ Env (fun _ => False) w w' (upd V pz 105 (-x - 1))) := hid (fun W V pz px z h1 h2 h3 =>
    w133 _ _ _ _ ((h1.drew.not185 h2 h3 HX.out).mono (fun e w' ⟨he, h⟩ => ⟨⟨_, he⟩, h⟩)))
  clear hAl hDl hKl hD hK ta r hx hxb G hT
  go_enter Tryz.func130, Tryz.ntmps130
  go_wp2_with fail
  refine HN.out.mono ?_
  rintro e w1 ⟨p1, rfl, o1, o2, h⟩
  have HE1 := hid h
  obtain ⟨y1, y2⟩ := HSA.out _ (h.new 105).keeps
  have HOp1 := hid (HOp.out _ _ w1.heap.size p1 _ (h.new 105) (by rw [upd_eq]) (by rw [upd_ne _ _ _ (by omega), upd_eq]))
  clear h HN HSA
  go_wp2_with fail
  refine HOp1.out.mono ?_
  rintro e w2 ⟨rfl, h⟩
  have HE2 := hid h
  have HS80 := hid (string80_big w1.heap.size 105 _ w2 (h.get (upd_eq _ _ _ _)) (lt_TXB (k250 HXb.out (by omega))) (HG.out.keep h.keeps (fun _ _ h => h)))
  rw [← HT.out] at HS80
  clear h
  go_wp2_with fail
  refine HS80.out.mono ?_
  rintro e w3 ⟨rfl, h⟩
  have HK3 := hid (HE2.out.keeps.trans h)
  have hr := HK3.out.row HR.out (fun h => h)
  have HR3 := hid hr
  obtain ⟨v0, v1⟩ := hr.st
  clear h hr
  go_wp2_with fail
  go_end0
  refine ⟨rfl, ?_, ?_⟩
  · intro z hz
    simp only [List.mem_cons, List.not_mem_nil, or_false] at hz
    subst hz
    simpa using HR3.out.set 0 (.string T)
  · exact (HK3.out.any.setCell _ (.inl ⟨_, .head _, rfl⟩) _)

theorem one130_4_true (A D K O : Nat) (sa : ByteArray) (na : Bool) (da : Nat → Nat) (la : Nat) (x : Int) (T s0 : ByteArray) (w : World)
    (hA : w.cell? ⟨A, 0, none⟩ = some (.string sa)) (hD : w.cell? ⟨D, 0, none⟩ = some (.bool true)) (hK : w.cell? ⟨K, 0, none⟩ = some (.int .i64 4)) (ta : NumText sa na la da) (r : RowAt w O 9 [.string s0])
    (hx : x = numZ na (dval da la)) (hxb : x.natAbs < 10 ^ 200) (G : Glob w) (hT : T = strB (txt (decide (x < 0)) (x).natAbs)) :
    Calls Tryz.prog 130 #[.pointer (some ⟨A, 0, none⟩), .pointer (some ⟨D, 0, none⟩), .pointer (some ⟨K, 0, none⟩), .pointer (some ⟨O, 0, none⟩)] w fun e w' => e = .returned (.tuple #[]) ∧ OutL w' [(O, 9, .string T)] ∧ Keeps (OutK [(O, 9, .string T)]) w w' := by
  have hAl : A < w.heap.size := World.block_lt_of_cell? w ⟨A, 0, none⟩ hA
  have hDl : D < w.heap.size := World.block_lt_of_cell? w ⟨D, 0, none⟩ hD
  have hKl : K < w.heap.size := World.block_lt_of_cell? w ⟨K, 0, none⟩ hK
  have HSA : Hid (∀ w', Keeps (fun _ => False) w w' → w'.cell? ⟨D, 0, none⟩ = some (.bool true) ∧ w'.cell? ⟨K, 0, none⟩ = some (.int .i64 4)) := hid (fun w' hk =>
    ⟨(cell_of_block (p := ⟨D, 0, none⟩) (hk.block D hDl (fun h => h))).trans hD, (cell_of_block (p := ⟨K, 0, none⟩) (hk.block K hKl (fun h => h))).trans hK⟩)
  have HG := hid G
  have HX : Hid (x.natAbs < W64 ^ 200) := hid (Nat.lt_of_lt_of_le hxb (by unfold W64; decide +kernel))
  have HN := hid (number_env (Env.start (fun _ => False) w (fun _ h => h.elim)) sa na la da x w.heap.size (Nat.le_refl _) ta hx G)
  have HT := hid hT; have HR := hid r; have HXb := hid hxb
  have HOp : Hid (∀ W V pz px z, Env (fun _ => False) w W V → V pz = some (105, z) → V px = some (105, x) → Calls Tryz.prog 91 #[.pointer (some ⟨pz, 0, none⟩), .pointer (some ⟨px, 0, none⟩)] W fun e w' => e = .returned (.pointer (some ⟨pz, 0, none⟩)) ∧ Env (fun _ => False) w w' (upd V pz 105 x)) := hid (fun W V pz px z h1 h2 h3 =>
    w91 _ _ _ _ ((h1.drew.set160 h2 h3 HX.out).mono (fun e w' ⟨he, h⟩ => ⟨⟨_, he⟩, h⟩)))
  clear hAl hDl hKl hD hK ta r hx hxb G hT
  go_enter Tryz.func130, Tryz.ntmps130
  go_wp2_with fail
  refine HN.out.mono ?_
  rintro e w1 ⟨p1, rfl, o1, o2, h⟩
  have HE1 := hid h
  obtain ⟨y1, y2⟩ := HSA.out _ (h.new 105).keeps
  have HOp1 := hid (HOp.out _ _ p1 p1 _ (h.new 105) (by rw [upd_ne _ _ _ (by omega), upd_eq]) (by rw [upd_ne _ _ _ (by omega), upd_eq]))
  clear h HN HSA
  go_wp2_with fail
  refine HOp1.out.mono ?_
  rintro e w2 ⟨rfl, h⟩
  have HE2 := hid h
  have HS80 := hid (string80_big p1 105 _ w2 (h.get (upd_eq _ _ _ _)) (lt_TXB (k250 HXb.out (by omega))) (HG.out.keep h.keeps (fun _ _ h => h)))
  rw [← HT.out] at HS80
  clear h
  go_wp2_with fail
  refine HS80.out.mono ?_
  rintro e w3 ⟨rfl, h⟩
  have HK3 := hid (HE2.out.keeps.trans h)
  have hr := HK3.out.row HR.out (fun h => h)
  have HR3 := hid hr
  obtain ⟨v0, v1⟩ := hr.st
  clear h hr
  go_wp2_with fail
  go_end0
  refine ⟨rfl, ?_, ?_⟩
  · intro z hz
    simp only [List.mem_cons, List.not_mem_nil, or_false] at hz
    subst hz
    simpa using HR3.out.set 0 (.string T)
  · exact (HK3.out.any.setCell _ (.inl ⟨_, .head _, rfl⟩) _)

theorem one130_4_false (A D K O : Nat) (sa : ByteArray) (na : Bool) (da : Nat → Nat) (la : Nat) (x : Int) (T s0 : ByteArray) (w : World)
    (hA : w.cell? ⟨A, 0, none⟩ = some (.string sa)) (hD : w.cell? ⟨D, 0, none⟩ = some (.bool false)) (hK : w.cell? ⟨K, 0, none⟩ = some (.int .i64 4)) (ta : NumText sa na la da) (r : RowAt w O 9 [.string s0])
    (hx : x = numZ na (dval da la)) (hxb : x.natAbs < 10 ^ 200) (G : Glob w) (hT : T = strB (txt (decide (x < 0)) (x).natAbs)) :
    Calls Tryz.prog 130 #[.pointer (some ⟨A, 0, none⟩), .pointer (some ⟨D, 0, none⟩), .pointer (some ⟨K, 0, none⟩), .pointer (some ⟨O, 0, none⟩)] w fun e w' => e = .returned (.tuple #[]) ∧ OutL w' [(O, 9, .string T)] ∧ Keeps (OutK [(O, 9, .string T)]) w w' := by
  have hAl : A < w.heap.size := World.block_lt_of_cell? w ⟨A, 0, none⟩ hA
  have hDl : D < w.heap.size := World.block_lt_of_cell? w ⟨D, 0, none⟩ hD
  have hKl : K < w.heap.size := World.block_lt_of_cell? w ⟨K, 0, none⟩ hK
  have HSA : Hid (∀ w', Keeps (fun _ => False) w w' → w'.cell? ⟨D, 0, none⟩ = some (.bool false) ∧ w'.cell? ⟨K, 0, none⟩ = some (.int .i64 4)) := hid (fun w' hk =>
    ⟨(cell_of_block (p := ⟨D, 0, none⟩) (hk.block D hDl (fun h => h))).trans hD, (cell_of_block (p := ⟨K, 0, none⟩) (hk.block K hKl (fun h => h))).trans hK⟩)
  have HG := hid G
  have HX : Hid (x.natAbs < W64 ^ 200) := hid (Nat.lt_of_lt_of_le hxb (by unfold W64; decide +kernel))
  have HN := hid (number_env (Env.start (fun _ => False) w (fun _ h => h.elim)) sa na la da x w.heap.size (Nat.le_refl _) ta hx G)
  have HT := hid hT; have HR := hid r; have HXb := hid hxb
  have HOp : Hid (∀ W V pz px z, Env (fun _ => False) w W V → V pz = some (105, z) → V px = some (105, x) → Calls Tryz.prog 91 #[.pointer (some ⟨pz, 0, none⟩), .pointer (some ⟨px, 0, none⟩)] W fun e w' => e = .returned (.pointer (some ⟨pz, 0, none⟩)) ∧ Env (fun _ => False) w w' (upd V pz 105 x)) := hid (fun W V pz px z h1 h2 h3 =>
    w91 _ _ _ _ ((h1.drew.set160 h2 h3 HX.out).mono (fun e w' ⟨he, h⟩ => ⟨⟨_, he⟩, h⟩)))
  clear hAl hDl hKl hD hK ta r hx hxb G hT
  go_enter Tryz.func130, Tryz.ntmps130
  go_wp2_with fail
  refine HN.out.mono ?_
  rintro e w1 ⟨p1, rfl, o1, o2, h⟩
  have HE1 := hid h
  obtain ⟨y1, y2⟩ := HSA.out _ (h.new 105).keeps
  have HOp1 := hid (HOp.out _ _ w1.heap.size p1 _ (h.new 105) (by rw [upd_eq]) (by rw [upd_ne _ _ _ (by omega), upd_eq]))
  clear h HN HSA
  go_wp2_with fail
  refine HOp1.out.mono ?_
  rintro e w2 ⟨rfl, h⟩
  have HE2 := hid h
  have HS80 := hid (string80_big w1.heap.size 105 _ w2 (h.get (upd_eq _ _ _ _)) (lt_TXB (k250 HXb.out (by omega))) (HG.out.keep h.keeps (fun _ _ h => h)))
  rw [← HT.out] at HS80
  clear h
  go_wp2_with fail
  refine HS80.out.mono ?_
  rintro e w3 ⟨rfl, h⟩
  have HK3 := hid (HE2.out.keeps.trans h)
  have hr := HK3.out.row HR.out (fun h => h)
  have HR3 := hid hr
  obtain ⟨v0, v1⟩ := hr.st
  clear h hr
  go_wp2_with fail
  go_end0
  refine ⟨rfl, ?_, ?_⟩
  · intro z hz
    simp only [List.mem_cons, List.not_mem_nil, or_false] at hz
    subst hz
    simpa using HR3.out.set 0 (.string T)
  · exact (HK3.out.any.setCell _ (.inl ⟨_, .head _, rfl⟩) _)
end Go.Proofs
namespace Go.Proofs
open Go.RowKit
set_option maxHeartbeats 2000000
set_option linter.unusedVariables false
set_option linter.unusedSimpArgs false
set_option maxRecDepth 100000

theorem one130_3_true (A D K O : Nat) (sa : ByteArray) (na : Bool) (da : Nat → Nat) (la : Nat) (x : Int) (T s0 : ByteArray) (w : World)
    (hA : w.cell? ⟨A, 0, none⟩ = some (.string sa)) (hD : w.cell? ⟨D, 0, none⟩ = some (.bool true)) (hK : w.cell? ⟨K, 0, none⟩ = some (.int .i64 3)) (ta : NumText sa na la da) (r : RowAt w O 9 [.string s0])
    (hx : x = numZ na (dval da la)) (hxb : x.natAbs < 10 ^ 200) (G : Glob w) (hx0 : 0 ≤ x) (hT : T = strB (txt (decide ((rootN x.natAbs : Int) < 0)) ((rootN x.natAbs : Int)).natAbs)) :
    Calls Tryz.prog 130 #[.pointer (some ⟨A, 0, none⟩), .pointer (some ⟨D, 0, none⟩), .pointer (some ⟨K, 0, none⟩), .pointer (some ⟨O, 0, none⟩)] w fun e w' => e = .returned (.tuple #[]) ∧ OutL w' [(O, 9, .string T)] ∧ Keeps (OutK [(O, 9, .string T)]) w w' := by
  have hAl : A < w.heap.size := World.block_lt_of_cell? w ⟨A, 0, none⟩ hA
  have hDl : D < w.heap.size := World.block_lt_of_cell? w ⟨D, 0, none⟩ hD
  have hKl : K < w.heap.size := World.block_lt_of_cell? w ⟨K, 0, none⟩ hK
  have HSA : Hid (∀ w', Keeps (fun _ => False) w w' → w'.cell? ⟨D, 0, none⟩ = some (.bool true) ∧ w'.cell? ⟨K, 0, none⟩ = some (.int .i64 3)) := hid (fun w' hk =>
    ⟨(cell_of_block (p := ⟨D, 0, none⟩) (hk.block D hDl (fun h => h))).trans hD, (cell_of_block (p := ⟨K, 0, none⟩) (hk.block K hKl (fun h => h))).trans hK⟩)
  have HG := hid G
  have HX : Hid (x.natAbs < W64 ^ 200) := hid (Nat.lt_of_lt_of_le hxb (by unfold W64; decide +kernel))
  have HN := hid (number_env (Env.start (fun _ => False) w (fun _ h => h.elim)) sa na la da x w.heap.size (Nat.le_refl _) ta hx G)
  have HT := hid hT; have HR := hid r; have HXb := hid hxb
  have HX0 := hid hx0
  clear hAl hDl hKl hD hK ta r hx hxb G hT hx0
  go_enter Tryz.func130, Tryz.ntmps130
  go_wp2_with fail
  refine HN.out.mono ?_
  rintro e w1 ⟨p1, rfl, o1, o2, h⟩
  have HE1 := hid h
  obtain ⟨y1, y2⟩ := HSA.out _ (h.new 105).keeps
  have hp1 : ¬ GB p1 := fun hg => by have := HG.out.lt hg; omega
  have HOp1 := hid (w134 _ _ _ _ (((h.new 105).drew.op1 (K := 186) (A := #[.pointer (some ⟨p1, 0, none⟩), .pointer (some ⟨p1, 0, none⟩)]) (r := (rootN x.natAbs : Int)) (E := .returned (.pointer (some ⟨p1, 0, none⟩))) (show _ = some (105, x) by rw [upd_ne _ _ _ (by omega), upd_eq]) (fun az lz cz g => sqrt186_same p1 105 _ x az lz cz _ g HX0.out (rootN_is _) (Nat.lt_of_lt_of_le HXb.out (by unfold W64; decide +kernel)) (HG.out.keep (h.new 105).drew.keeps (fun _ _ h => h)) hp1)).mono (fun e w' ⟨he, h⟩ => ⟨⟨_, he⟩, h⟩)))
  clear h HN HSA hp1
  go_wp2_with fail
  refine HOp1.out.mono ?_
  rintro e w2 ⟨rfl, h⟩
  have HE2 := hid h
  have HS80 := hid (string80_big p1 105 _ w2 (h.get (upd_eq _ _ _ _)) (lt_TXB (k250 HXb.out (by have := rootN_le x.natAbs; omega))) (HG.out.keep h.keeps (fun _ _ h => h)))
  rw [← HT.out] at HS80
  clear h
  go_wp2_with fail
  refine HS80.out.mono ?_
  rintro e w3 ⟨rfl, h⟩
  have HK3 := hid (HE2.out.keeps.trans h)
  have hr := HK3.out.row HR.out (fun h => h)
  have HR3 := hid hr
  obtain ⟨v0, v1⟩ := hr.st
  clear h hr
  go_wp2_with fail
  go_end0
  refine ⟨rfl, ?_, ?_⟩
  · intro z hz
    simp only [List.mem_cons, List.not_mem_nil, or_false] at hz
    subst hz
    simpa using HR3.out.set 0 (.string T)
  · exact (HK3.out.any.setCell _ (.inl ⟨_, .head _, rfl⟩) _)
end Go.Proofs
namespace Go.Proofs
open Go.RowKit
set_option maxHeartbeats 2000000
set_option linter.unusedVariables false
set_option linter.unusedSimpArgs false
set_option maxRecDepth 100000

theorem one130_3_false (A D K O : Nat) (sa : ByteArray) (na : Bool) (da : Nat → Nat) (la : Nat) (x : Int) (T s0 : ByteArray) (w : World)
    (hA : w.cell? ⟨A, 0, none⟩ = some (.string sa)) (hD : w.cell? ⟨D, 0, none⟩ = some (.bool false)) (hK : w.cell? ⟨K, 0, none⟩ = some (.int .i64 3)) (ta : NumText sa na la da) (r : RowAt w O 9 [.string s0])
    (hx : x = numZ na (dval da la)) (hxb : x.natAbs < 10 ^ 200) (G : Glob w) (hx0 : 0 ≤ x) (hT : T = strB (txt (decide ((rootN x.natAbs : Int) < 0)) ((rootN x.natAbs : Int)).natAbs)) :
    Calls Tryz.prog 130 #[.pointer (some ⟨A, 0, none⟩), .pointer (some ⟨D, 0, none⟩), .pointer (some ⟨K, 0, none⟩), .pointer (some ⟨O, 0, none⟩)] w fun e w' => e = .returned (.tuple #[]) ∧ OutL w' [(O, 9, .string T)] ∧ Keeps (OutK [(O, 9, .string T)]) w w' := by
  have hAl : A < w.heap.size := World.block_lt_of_cell? w ⟨A, 0, none⟩ hA
  have hDl : D < w.heap.size := World.block_lt_of_cell? w ⟨D, 0, none⟩ hD
  have hKl : K < w.heap.size := World.block_lt_of_cell? w ⟨K, 0, none⟩ hK
  have HSA : Hid (∀ w', Keeps (fun _ => False) w w' → w'.cell? ⟨D, 0, none⟩ = some (.bool false) ∧ w'.cell? ⟨K, 0, none⟩ = some (.int .i64 3)) := hid (fun w' hk =>
    ⟨(cell_of_block (p := ⟨D, 0, none⟩) (hk.block D hDl (fun h => h))).trans hD, (cell_of_block (p := ⟨K, 0, none⟩) (hk.block K hKl (fun h => h))).trans hK⟩)
  have HG := hid G
  have HX : Hid (x.natAbs < W64 ^ 200) := hid (Nat.lt_of_lt_of_le hxb (by unfold W64; decide +kernel))
  have HN := hid (number_env (Env.start (fun _ => False) w (fun _ h => h.elim)) sa na la da x w.heap.size (Nat.le_refl _) ta hx G)
  have HT := hid hT; have HR := hid r; have HXb := hid hxb
  have HX0 := hid hx0
  clear hAl hDl hKl hD hK ta r hx hxb G hT hx0
  go_enter Tryz.func130, Tryz.ntmps130
  go_wp2_with fail
  refine HN.out.mono ?_
  rintro e w1 ⟨p1, rfl, o1, o2, h⟩
  have HE1 := hid h
  obtain ⟨y1, y2⟩ := HSA.out _ (h.new 105).keeps
  obtain ⟨W0, hW0⟩ : ∃ W, W = w1.alloc (.cells #[.bool false, .slice none 0 0] 105) := ⟨_, rfl⟩
  obtain ⟨pz, hpz⟩ : ∃ p, p = w1.heap.size := ⟨_, rfl⟩
  have hE := h.new 105
  have hrow : RowAt W0 pz 105 [.bool false, .slice none 0 0] := by rw [hW0, hpz]; exact RowAt.new w1 105 _
  rw [← hW0, ← hpz] at hE
  have hpzl : w.heap.size ≤ pz := by have := h.keeps.size; omega
  have hp1z : pz ≠ p1 := by omega
  have HOp1 : Hid (Calls Tryz.prog 134 #[.pointer (some ⟨pz, 0, none⟩), .pointer (some ⟨p1, 0, none⟩)] W0 fun e w' => e = .returned (.pointer (some ⟨pz, 0, none⟩)) ∧ IntAt w' pz 105 (rootN x.natAbs : Int) ∧ Keeps (fun _ => False) w w') := hid (w134 _ _ _ _ (by
    obtain ⟨a1, l1, c1, k1, k2⟩ := hE.drew.get (show _ = some (105, x) by rw [upd_ne _ _ _ (Ne.symm hp1z), upd_eq])
    refine (sqrt186_new pz p1 105 105 _ x a1 l1 c1 W0.drew ⟨hrow, by rw [show (0 : Int).natAbs = 0 from rfl, words_zero]; exact Rd.nil _⟩ ⟨k1, k2⟩ hp1z HX0.out (rootN_is _) (Nat.lt_of_lt_of_le HXb.out (by unfold W64; decide +kernel)) (HG.out.keep hE.drew.keeps (fun _ _ h => h)) (fun hg => by have := HG.out.lt hg; omega)).mono ?_
    rintro e w' ⟨he, a', l', c', hI, _, hk⟩
    exact ⟨⟨_, he⟩, ⟨a', l', c', hI.row, hI.rd⟩, hE.drew.keeps.trans' hk (fun i hi hh => by
      rcases hh with hh | ⟨o, ho⟩
      · omega
      · cases ho)⟩))
  clear h HN HSA hE hrow hpzl hp1z
  have HW0 := hid hW0; have HPZ := hid hpz
  clear hW0 hpz
  go_wp2_with fail
  rw [← HW0.out, ← HPZ.out]
  refine HOp1.out.mono ?_
  rintro e w2 ⟨rfl, hI2, h⟩
  have HE2 := hid h
  have HS80 := hid (string80_big pz 105 _ w2 hI2 (lt_TXB (k250 HXb.out (by have := rootN_le x.natAbs; omega))) (HG.out.keep h (fun _ _ h => h)))
  rw [← HT.out] at HS80
  clear h hI2
  go_wp2_with fail
  refine HS80.out.mono ?_
  rintro e w3 ⟨rfl, h⟩
  have HK3 := hid (HE2.out.trans h)
  have hr := HK3.out.row HR.out (fun h => h)
  have HR3 := hid hr
  obtain ⟨v0, v1⟩ := hr.st
  clear h hr
  go_wp2_with fail
  go_end0
  refine ⟨rfl, ?_, ?_⟩
  · intro z hz
    simp only [List.mem_cons, List.not_mem_nil, or_false] at hz
    subst hz
    simpa using HR3.out.set 0 (.string T)
  · exact (HK3.out.any.setCell _ (.inl ⟨_, .head _, rfl⟩) _)
end Go.Proofs
namespace Go.Proofs
open Go.RowKit
set_option maxHeartbeats 2000000
set_option linter.unusedVariables false
set_option linter.unusedSimpArgs false
set_option maxRecDepth 100000

theorem one130_neg_true (A D K O : Nat) (sa : ByteArray) (na : Bool) (da : Nat → Nat) (la : Nat) (x : Int) (w : World)
    (hA : w.cell? ⟨A, 0, none⟩ = some (.string sa)) (hD : w.cell? ⟨D, 0, none⟩ = some (.bool true)) (hK : w.cell? ⟨K, 0, none⟩ = some (.int .i64 3)) (ta : NumText sa na la da)
    (hx : x = numZ na (dval da la)) (G : Glob w) (hx0 : x < 0) :
    Calls Tryz.prog 130 #[.pointer (some ⟨A, 0, none⟩), .pointer (some ⟨D, 0, none⟩), .pointer (some ⟨K, 0, none⟩), .pointer (some ⟨O, 0, none⟩)] w fun e w' => Pan e ∧ Keeps (fun _ => False) w w' := by
  have hAl : A < w.heap.size := World.block_lt_of_cell? w ⟨A, 0, none⟩ hA
  have hDl : D < w.heap.size := World.block_lt_of_cell? w ⟨D, 0, none⟩ hD
  have hKl : K < w.heap.size := World.block_lt_of_cell? w ⟨K, 0, none⟩ hK
  have HSA : Hid (∀ w', Keeps (fun _ => False) w w' → w'.cell? ⟨D, 0, none⟩ = some (.bool true) ∧ w'.cell? ⟨K, 0, none⟩ = some (.int .i64 3)) := hid (fun w' hk =>
    ⟨(cell_of_block (p := ⟨D, 0, none⟩) (hk.block D hDl (fun h => h))).trans hD, (cell_of_block (p := ⟨K, 0, none⟩) (hk.block K hKl (fun h => h))).trans hK⟩)
  have HN := hid (number_env (Env.start (fun _ => False) w (fun _ h => h.elim)) sa na la da x w.heap.size (Nat.le_refl _) ta hx G)
  have HX0 := hid hx0
  clear hAl hDl hKl hD hK ta hx G hx0
  go_enter Tryz.func130, Tryz.ntmps130
  go_wp2_with fail
  refine HN.out.mono ?_
  rintro e w1 ⟨p1, rfl, o1, o2, h⟩
  obtain ⟨y1, y2⟩ := HSA.out _ (h.new 105).keeps
  have HOp1 : Hid (Calls Tryz.prog 134 #[.pointer (some ⟨p1, 0, none⟩), .pointer (some ⟨p1, 0, none⟩)] (w1.alloc (.cells #[.bool false, .slice none 0 0] 105)) fun e w' => Pan e ∧ Keeps (fun _ => False) w w') := hid (w134_panics _ _ _ _ (by
    obtain ⟨a1, l1, c1, k1, k2⟩ := (h.new 105).drew.get (show _ = some (105, x) by rw [upd_ne _ _ _ (show p1 ≠ w1.heap.size by omega), upd_eq])
    exact (sqrt186_neg p1 p1 105 x a1 l1 c1 _ ⟨k1, k2⟩ HX0.out).mono (fun e w' h' => ⟨h'.1, (h.new 105).drew.keeps.trans h'.2⟩)))
  clear h HN HSA
  go_wp2_with fail
  refine HOp1.out.mono ?_
  rintro e w2 ⟨⟨T, v, rfl⟩, hk⟩
  exact ⟨rfl, ⟨T, v, rfl⟩, hk⟩

theorem one130_neg_false (A D K O : Nat) (sa : ByteArray) (na : Bool) (da : Nat → Nat) (la : Nat) (x : Int) (w : World)
    (hA : w.cell? ⟨A, 0, none⟩ = some (.string sa)) (hD : w.cell? ⟨D, 0, none⟩ = some (.bool false)) (hK : w.cell? ⟨K, 0, none⟩ = some (.int .i64 3)) (ta : NumText sa na la da)
    (hx : x = numZ na (dval da la)) (G : Glob w) (hx0 : x < 0) :
    Calls Tryz.prog 130 #[.pointer (some ⟨A, 0, none⟩), .pointer (some ⟨D, 0, none⟩), .pointer (some ⟨K, 0, none⟩), .pointer (some ⟨O, 0, none⟩)] w fun e w' => Pan e ∧ Keeps (fun _ => False) w w' := by
  have hAl : A < w.heap.size := World.block_lt_of_cell? w ⟨A, 0, none⟩ hA
  have hDl : D < w.heap.size := World.block_lt_of_cell? w ⟨D, 0, none⟩ hD
  have hKl : K < w.heap.size := World.block_lt_of_cell? w ⟨K, 0, none⟩ hK
  have HSA : Hid (∀ w', Keeps (fun _ => False) w w' → w'.cell? ⟨D, 0, none⟩ = some (.bool false) ∧ w'.cell? ⟨K, 0, none⟩ = some (.int .i64 3)) := hid (fun w' hk =>
    ⟨(cell_of_block (p := ⟨D, 0, none⟩) (hk.block D hDl (fun h => h))).trans hD, (cell_of_block (p := ⟨K, 0, none⟩) (hk.block K hKl (fun h => h))).trans hK⟩)
  have HN := hid (number_env (Env.start (fun _ => False) w (fun _ h => h.elim)) sa na la da x w.heap.size (Nat.le_refl _) ta hx G)
  have HX0 := hid hx0
  clear hAl hDl hKl hD hK ta hx G hx0
  go_enter Tryz.func130, Tryz.ntmps130
  go_wp2_with fail
  refine HN.out.mono ?_
  rintro e w1 ⟨p1, rfl, o1, o2, h⟩
  obtain ⟨y1, y2⟩ := HSA.out _ (h.new 105).keeps
  obtain ⟨W0, hW0⟩ : ∃ W, W = w1.alloc (.cells #[.bool false, .slice none 0 0] 105) := ⟨_, rfl⟩
  obtain ⟨pz, hpz⟩ : ∃ p, p = w1.heap.size := ⟨_, rfl⟩
  have hE := h.new 105
  rw [← hW0, ← hpz] at hE
  have hp1z : pz ≠ p1 := by omega
  have HOp1 : Hid (Calls Tryz.prog 134 #[.pointer (some ⟨pz, 0, none⟩), .pointer (some ⟨p1, 0, none⟩)] W0 fun e w' => Pan e ∧ Keeps (fun _ => False) w w') := hid (w134_panics _ _ _ _ (by
    obtain ⟨a1, l1, c1, k1, k2⟩ := hE.drew.get (show _ = some (105, x) by rw [upd_ne _ _ _ (Ne.symm hp1z), upd_eq])
    exact (sqrt186_neg pz p1 105 x a1 l1 c1 _ ⟨k1, k2⟩ HX0.out).mono (fun e w' h' => ⟨h'.1, hE.drew.keeps.trans h'.2⟩)))
  clear h HN HSA hE hp1z
  have HW0 := hid hW0; have HPZ := hid hpz
  clear hW0 hpz
  go_wp2_with fail
  rw [← HW0.out, ← HPZ.out]
  refine HOp1.out.mono ?_
  rintro e w2 ⟨⟨T, v, rfl⟩, hk⟩
  exact ⟨rfl, ⟨T, v, rfl⟩, hk⟩

end Go.Proofs
namespace Go.Proofs
open Go.RowKit
set_option maxHeartbeats 400000
set_option linter.unusedVariables false
set_option maxRecDepth 100000

theorem one130 (A D K O : Nat) (k : Nat) (al : Bool) (sa : ByteArray) (na : Bool) (da : Nat → Nat) (la : Nat) (x : Int) (T s0 : ByteArray) (w : World) (hk : k < 5) (h3 : k = 3 → 0 ≤ x)
    (hA : w.cell? ⟨A, 0, none⟩ = some (.string sa)) (hD : w.cell? ⟨D, 0, none⟩ = some (.bool al)) (hK : w.cell? ⟨K, 0, none⟩ = some (.int .i64 (k : Int))) (ta : NumText sa na la da) (r : RowAt w O 9 [.string s0])
    (hx : x = numZ na (dval da la)) (hxb : x.natAbs < 10 ^ 200) (G : Glob w) (hT : T = strB (txt (decide (oneZ k x < 0)) (oneZ k x).natAbs)) :
    Calls Tryz.prog 130 #[.pointer (some ⟨A, 0, none⟩), .pointer (some ⟨D, 0, none⟩), .pointer (some ⟨K, 0, none⟩), .pointer (some ⟨O, 0, none⟩)] w fun e w' => e = .returned (.tuple #[]) ∧ OutL w' [(O, 9, .string T)] ∧ Keeps (OutK [(O, 9, .string T)]) w w' := by
  rcases (by omega : k = 0 ∨ k = 1 ∨ k = 2 ∨ k = 3 ∨ k = 4) with rfl | rfl | rfl | rfl | rfl
  · have e : oneZ 0 x = -x := by simp [oneZ]
    rw [e] at hT
    cases al
    · exact one130_0_false A D K O sa na da la x T s0 w hA hD hK ta r hx hxb G hT
    · exact one130_0_true A D K O sa na da la x T s0 w hA hD hK ta r hx hxb G hT
  · have e : oneZ 1 x = (x.natAbs : Int) := by simp [oneZ]
    rw [e] at hT
    cases al
    · exact one130_1_false A D K O sa na da la x T s0 w hA hD hK ta r hx hxb G hT
    · exact one130_1_true A D K O sa na da la x T s0 w hA hD hK ta r hx hxb G hT
  · have e : oneZ 2 x = -x - 1 := by simp [oneZ]
    rw [e] at hT
    cases al
    · exact one130_2_false A D K O sa na da la x T s0 w hA hD hK ta r hx hxb G hT
    · exact one130_2_true A D K O sa na da la x T s0 w hA hD hK ta r hx hxb G hT
  · have e : oneZ 3 x = (rootN x.natAbs : Int) := by simp [oneZ]
    rw [e] at hT
    cases al
    · exact one130_3_false A D K O sa na da la x T s0 w hA hD hK ta r hx hxb G (h3 rfl) hT
    · exact one130_3_true A D K O sa na da la x T s0 w hA hD hK ta r hx hxb G (h3 rfl) hT
  · have e : oneZ 4 x = x := by simp [oneZ]
    rw [e] at hT
    cases al
    · exact one130_4_false A D K O sa na da la x T s0 w hA hD hK ta r hx hxb G hT
    · exact one130_4_true A D K O sa na da la x T s0 w hA hD hK ta r hx hxb G hT
theorem one130_neg (A D K O : Nat) (k : Nat) (al : Bool) (sa : ByteArray) (na : Bool) (da : Nat → Nat) (la : Nat) (x : Int) (w : World) (h3 : k = 3)
    (hA : w.cell? ⟨A, 0, none⟩ = some (.string sa)) (hD : w.cell? ⟨D, 0, none⟩ = some (.bool al)) (hK : w.cell? ⟨K, 0, none⟩ = some (.int .i64 (k : Int))) (ta : NumText sa na la da)
    (hx : x = numZ na (dval da la)) (G : Glob w) (hx0 : x < 0) :
    Calls Tryz.prog 130 #[.pointer (some ⟨A, 0, none⟩), .pointer (some ⟨D, 0, none⟩), .pointer (some ⟨K, 0, none⟩), .pointer (some ⟨O, 0, none⟩)] w fun e w' => Pan e ∧ Keeps (fun _ => False) w w' := by
  subst h3
  cases al
  · exact one130_neg_false A D K O sa na da la x w hA hD hK ta hx G hx0
  · exact one130_neg_true A D K O sa na da la x w hA hD hK ta hx G hx0
end Go.Proofs
namespace Go.Proofs
open Go.RowKit
set_option maxHeartbeats 1600000
set_option linter.unusedVariables false
set_option linter.unusedSimpArgs false
set_option maxRecDepth 100000

theorem call130 (cap : Array Value) (w : World) : (callFunc 130 cap).run Tryz.prog w = .ok (.enter 130 cap) w := by simp [go_sem, callFunc, Tryz.func130]; rfl

theorem bigOne58 (k : Nat) (sa : ByteArray) (na : Bool) (da : Nat → Nat) (la : Nat) (x : Int) (al : Bool) (T : ByteArray) (w : World) (hk5 : k < 5) (h3 : k = 3 → 0 ≤ x) (ta : NumText sa na la da)
    (hx : x = numZ na (dval da la)) (hxb : x.natAbs < 10 ^ 200) (G : Glob w) (hT : T = strB (txt (decide (oneZ k x < 0)) (oneZ k x).natAbs)) :
    Calls Tryz.prog 58 #[.int .i64 (k : Int), .string sa, .bool al] w fun e w' => e = .returned (.tuple #[.string T, .bool true]) ∧ Keeps (fun _ => False) w w' := by
  have hmf : ∀ (fn : Fn) (first cap : Array Value) (w : World), (Instr.makeFunc fn first cap).run Tryz.prog w = .ok (.func fn first cap) w := fun _ _ _ _ => rfl
  obtain ⟨B, hB⟩ : ∃ B : List (TypeId × Value), B = [(3, .int .i64 (k : Int)), (9, .string sa), (4, .bool al), (9, .string { data := #[] })] := ⟨_, rfl⟩
  obtain ⟨W, hW⟩ : ∃ W, W = boxed w B := ⟨_, rfl⟩
  obtain ⟨m, hm⟩ : ∃ m, m = w.heap.size := ⟨_, rfl⟩
  have hnest : ((((w.alloc (.cells #[.int .i64 (k : Int)] 3)).alloc (.cells #[.string sa] 9)).alloc (.cells #[.bool al] 4)).alloc (.cells #[.string { data := #[] }] 9)) = W := by rw [hW, hB]; rfl
  have hk : Keeps (fun _ => False) w W := by rw [hW]; exact boxed_keeps w B
  have hs : W.heap.size = m + 4 := by rw [hW, boxed_size, hB, hm]; rfl
  have hr : ∀ (i : Nat) (x : TypeId × Value), B[i]? = some x → RowAt W (m + i) x.1 [x.2] := fun i x h => by rw [hW, hm]; exact boxed_row w B i x h
  rw [hB] at hr
  have q0 : RowAt W (m) 3 [.int .i64 (k : Int)] := hr 0 _ rfl
  have q1 : RowAt W (m + 1) 9 [.string sa] := hr 1 _ rfl
  have q2 : RowAt W (m + 1 + 1) 4 [.bool al] := hr 2 _ rfl
  have q3 : RowAt W (m + 1 + 1 + 1) 9 [.string { data := #[] }] := hr 3 _ rfl
  obtain ⟨L, hL⟩ : ∃ L : List (Nat × TypeId × Value), L = [(m + 1 + 1 + 1, 9, .string T)] := ⟨_, rfl⟩
  have hsafe := safe_outs 130 #[.pointer (some ⟨m + 1, 0, none⟩), .pointer (some ⟨m + 1 + 1, 0, none⟩), .pointer (some ⟨m, 0, none⟩), .pointer (some ⟨m + 1 + 1 + 1, 0, none⟩)] W L (call130 _)
    (by rw [hL]; intro x hx; simp only [List.mem_cons, List.not_mem_nil, or_false] at hx; rcases hx with rfl <;> simp <;> omega)
    (fun w1 hs1 hk1 => by
      rw [hL]
      exact one130 (m + 1) (m + 1 + 1) m (m + 1 + 1 + 1) k al sa na da la x T _ w1 hk5 h3 ((hk1.row q1 (fun h => h)).cell 0) ((hk1.row q2 (fun h => h)).cell 0) ((hk1.row q0 (fun h => h)).cell 0) ta
        (hk1.row q3 (fun h => h)) hx hxb (G.keep (hk.trans hk1) (fun _ _ h => h)) hT)
  have HS := hid hsafe; have HK := hid hk; have HL := hid hL; have HM := hid hm
  clear hsafe hk hL q0 q1 q2 q3 hr hs hB hW hT G ta hx hxb h3 hk5
  go_enter Tryz.func58, Tryz.ntmps58
  go_wp2_with fail
  rw [← hm]
  clear hnest hm
  refine HS.out.mono ?_
  rintro e w2 ⟨rfl, ho, hk2⟩
  have hkf : Keeps (fun _ => False) w w2 := HK.out.fresh hk2 (fun i ⟨x, hx, he⟩ => by
    rw [HL.out] at hx
    simp only [List.mem_cons, List.not_mem_nil, or_false] at hx
    have := HM.out
    rcases hx with rfl <;> simp at he <;> omega)
  have HO := hid ho; have HKF := hid hkf
  clear hk2 hkf
  have m0 : (m + 1 + 1 + 1, 9, (.string T : Value)) ∈ L := by rw [HL.out]; exact .head _
  have hS : ∀ w', OutL w' L → w'.cell? ⟨m + 1 + 1 + 1, 0, none⟩ = some (.string T) := fun w' h => h.cell m0
  have HSS := hid hS
  have f0 := ho.frozen m0
  obtain c0 := hS w2 ho
  have e0 := hid (show ∃ t, (m + 1 + 1 + 1, t, (.string T : Value)) ∈ L from ⟨_, m0⟩)
  clear ho m0 hS
  go_wp2_with fail
  have hof := (HO.out.again e0.out)
  have hge : ∀ i, m ≤ i → w.heap.size ≤ i := fun i hi => by rw [← HM.out]; exact hi
  have hkf := (HKF.out.setCell ⟨m + 1 + 1 + 1, 0, none⟩ (.inr (hge _ (by show m ≤ m + 1 + 1 + 1; omega))) (.string T))
  obtain a0 := HSS.out _ hof
  generalize (w2.setCell ⟨m + 1 + 1 + 1, 0, none⟩ (.string T)) = wf at *
  refine bodyPost_ret (v := (.tuple #[.string T, .bool true])) ?_ rfl ⟨rfl, hkf⟩
  simp [results, Tryz.results58, go_sem, a0]

theorem bigOne58_panics (k : Nat) (sa : ByteArray) (na : Bool) (da : Nat → Nat) (la : Nat) (x : Int) (al : Bool) (w : World) (h3 : k = 3) (hx0 : x < 0) (ta : NumText sa na la da)
    (hx : x = numZ na (dval da la)) (G : Glob w) :
    Calls Tryz.prog 58 #[.int .i64 (k : Int), .string sa, .bool al] w fun e w' => e = .returned (.tuple #[.string { data := #[] }, .bool false]) ∧ Keeps (fun _ => False) w w' := by
  have hmf : ∀ (fn : Fn) (first cap : Array Value) (w : World), (Instr.makeFunc fn first cap).run Tryz.prog w = .ok (.func fn first cap) w := fun _ _ _ _ => rfl
  obtain ⟨B, hB⟩ : ∃ B : List (TypeId × Value), B = [(3, .int .i64 (k : Int)), (9, .string sa), (4, .bool al), (9, .string { data := #[] })] := ⟨_, rfl⟩
  obtain ⟨W, hW⟩ : ∃ W, W = boxed w B := ⟨_, rfl⟩
  obtain ⟨m, hm⟩ : ∃ m, m = w.heap.size := ⟨_, rfl⟩
  have hnest : ((((w.alloc (.cells #[.int .i64 (k : Int)] 3)).alloc (.cells #[.string sa] 9)).alloc (.cells #[.bool al] 4)).alloc (.cells #[.string { data := #[] }] 9)) = W := by rw [hW, hB]; rfl
  have hk : Keeps (fun _ => False) w W := by rw [hW]; exact boxed_keeps w B
  have hs : W.heap.size = m + 4 := by rw [hW, boxed_size, hB, hm]; rfl
  have hr : ∀ (i : Nat) (x : TypeId × Value), B[i]? = some x → RowAt W (m + i) x.1 [x.2] := fun i x h => by rw [hW, hm]; exact boxed_row w B i x h
  rw [hB] at hr
  have q0 : RowAt W (m) 3 [.int .i64 (k : Int)] := hr 0 _ rfl
  have q1 : RowAt W (m + 1) 9 [.string sa] := hr 1 _ rfl
  have q2 : RowAt W (m + 1 + 1) 4 [.bool al] := hr 2 _ rfl
  have q3 : RowAt W (m + 1 + 1 + 1) 9 [.string { data := #[] }] := hr 3 _ rfl
  obtain ⟨L, hL⟩ : ∃ L : List (Nat × TypeId × Value), L = [(m + 1 + 1 + 1, 9, .string { data := #[] })] := ⟨_, rfl⟩
  have hoL : OutL W L := by
    rw [hL]; intro x hx; simp only [List.mem_cons, List.not_mem_nil, or_false] at hx
    subst hx
    exact q3
  have hk8 : Keeps (fun _ => False) W (W.alloc (.cells #[.bool false] 4)) := (Keeps.refl _ W).alloc _
  have hsafe := safe_panics 130 #[.pointer (some ⟨m + 1, 0, none⟩), .pointer (some ⟨m + 1 + 1, 0, none⟩), .pointer (some ⟨m, 0, none⟩), .pointer (some ⟨m + 1 + 1 + 1, 0, none⟩)] W (fun w1 => Keeps (fun _ => False) W w1) (call130 _)
    ((one130_neg (m + 1) (m + 1 + 1) m (m + 1 + 1 + 1) k al sa na da la x _ h3 ((hk8.row q1 (fun h => h)).cell 0) ((hk8.row q2 (fun h => h)).cell 0) ((hk8.row q0 (fun h => h)).cell 0) ta
        hx (G.keep (hk.trans hk8) (fun _ _ h => h)) hx0).mono
      (fun e w' h => ⟨h.1, hk8.trans h.2, h.2.row (RowAt.new W 4 [.bool false]) (fun h => h)⟩))
  have HS := hid hsafe; have HK := hid hk; have HL := hid hL; have HM := hid hm; have HOW := hid hoL
  clear hsafe hk hL q0 q1 q2 q3 hr hs hB hW hoL hk8 G ta hx hx0 h3
  go_enter Tryz.func58, Tryz.ntmps58
  go_wp2_with fail
  rw [← hm]
  clear hnest hm
  refine HS.out.mono ?_
  rintro e w2 ⟨rfl, w1, hk1, hw2⟩
  have hk2 : Keeps (fun _ => False) W w2 := by rw [hw2]; exact hk1.setCell _ (.inr (Nat.le_refl _)) _
  have ho : OutL w2 L := HOW.out.keep hk2 (fun _ _ h => h)
  have HO := hid ho; have HKF := hid (HK.out.trans hk2)
  clear hk1 hk2 hw2
  have m0 : (m + 1 + 1 + 1, 9, (.string { data := #[] } : Value)) ∈ L := by rw [HL.out]; exact .head _
  have hS : ∀ w', OutL w' L → w'.cell? ⟨m + 1 + 1 + 1, 0, none⟩ = some (.string { data := #[] }) := fun w' h => h.cell m0
  have HSS := hid hS
  have f0 := ho.frozen m0
  obtain c0 := hS w2 ho
  have e0 := hid (show ∃ t, (m + 1 + 1 + 1, t, (.string { data := #[] } : Value)) ∈ L from ⟨_, m0⟩)
  clear ho m0 hS
  go_wp2_with fail
  have hof := (HO.out.again e0.out)
  have hge : ∀ i, m ≤ i → w.heap.size ≤ i := fun i hi => by rw [← HM.out]; exact hi
  have hkf := (HKF.out.setCell ⟨m + 1 + 1 + 1, 0, none⟩ (.inr (hge _ (by show m ≤ m + 1 + 1 + 1; omega))) (.string { data := #[] }))
  obtain a0 := HSS.out _ hof
  generalize (w2.setCell ⟨m + 1 + 1 + 1, 0, none⟩ (.string { data := #[] })) = wf at *
  refine bodyPost_ret (v := (.tuple #[.string { data := #[] }, .bool false])) ?_ rfl ⟨rfl, hkf⟩
  simp [results, Tryz.results58, go_sem, a0]
end Go.Proofs
