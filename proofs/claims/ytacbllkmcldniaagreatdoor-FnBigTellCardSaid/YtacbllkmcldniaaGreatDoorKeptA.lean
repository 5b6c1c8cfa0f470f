/- Parts of the proofs over the numbers of any length: Kept1. -/
import Derived.Test.YtacbllkmcldniaaGreatDoorConvA
import Derived.Test.YtacbllkmcldniaaGreatDoorRangeD
import Derived.Test.YtacbllkmcldniaaGreatDoorIntA
set_option linter.unusedSimpArgs false
set_option linter.unusedVariables false
namespace Go.Proofs
open Go.RowKit
set_option maxHeartbeats 1000000
set_option linter.unusedVariables false
set_option linter.unusedSimpArgs false
set_option maxRecDepth 100000

theorem Into.newer {w : World} {a : Option Addr} {c : Nat} (h : Into w none 0 a c) : ∀ k, InB a k → w.heap.size ≤ k := fun k hk =>
  (h.inB hk).elim (fun h => by obtain ⟨o, ho⟩ := h; cases ho) id

theorem bigKept90 (A B O2 O3 : Nat) (sa sb : ByteArray) (na nb : Bool) (da db : Nat → Nat) (la lb : Nat) (x y : Int) (T1 T2 s2 s3 : ByteArray) (w : World)
    (hA : w.cell? ⟨A, 0, none⟩ = some (.string sa)) (hB : w.cell? ⟨B, 0, none⟩ = some (.string sb)) (ta : NumText sa na la da) (tb : NumText sb nb lb db)
    (r2 : RowAt w O2 9 [.string s2]) (r3 : RowAt w O3 9 [.string s3]) (d23 : O2 ≠ O3)
    (hx : x = numZ na (dval da la)) (hy : y = numZ nb (dval db lb)) (hxb : x.natAbs < 10 ^ 250) (hyb : y.natAbs < 10 ^ 250)
    (G : Glob w) (hT1 : T1 = strB (txt (decide (x < 0)) x.natAbs)) (hT2 : T2 = strB (txt (decide (x + y < 0)) (x + y).natAbs)) :
    Calls Tryz.prog 90 #[.pointer (some ⟨A, 0, none⟩), .pointer (some ⟨B, 0, none⟩), .pointer (some ⟨O2, 0, none⟩), .pointer (some ⟨O3, 0, none⟩)] w fun e w' =>
      e = .returned (.tuple #[]) ∧ OutL w' [(O2, 9, .string T1), (O3, 9, .string T2)] ∧ Keeps (OutK [(O2, 9, .string T1), (O3, 9, .string T2)]) w w' := by
  have HA := hid hA; have HB := hid hB
  have HN1 := hid (number_int sa na la da w ta G)
  have HN2 := hid (fun w' (G' : Glob w') => number_int sb nb lb db w' tb G')
  rw [← hx] at HN1
  rw [← hy] at HN2
  have HG := hid G; have HT1 := hid hT1; have HT2 := hid hT2; have R2 := hid r2; have R3 := hid r3; have HX := hid hxb; have HY := hid hyb
  have d32 := Ne.symm d23
  have hBl : B < w.heap.size := World.block_lt_of_cell? w ⟨B, 0, none⟩ hB
  clear hB ta tb r2 r3 hx hy hxb hyb G hT1 hT2
  go_enter Tryz.func90, Tryz.ntmps90
  go_wp2_with fail
  refine HN1.out.mono ?_
  rintro e w1 ⟨p, a1, l1, c1, rfl, h1, h2, h3, h4⟩
  have E1 := hid ((Env.start (fun _ => False) w (fun _ h => h.elim)).add h4 h1 h2 (Into.newer h3))
  obtain ⟨n1, hn1⟩ : ∃ n, n = w1.heap.size := ⟨_, rfl⟩
  have hpn : p < n1 := by rw [hn1]; exact h2.row.lt
  have hE2 : Env (fun _ => False) w (w1.alloc (.cells #[.bool false, .slice none 0 0] 105)) (upd (upd noInts p 105 x) n1 105 0) := by
    rw [hn1]
    exact E1.out.add ((Keeps.refl _ w1).alloc _) (Nat.le_refl _) (intS_new w1 105) (fun k hk => by obtain ⟨o, ho⟩ := hk; cases ho)
  have hSET := w91 ⟨n1, 0, none⟩ ⟨p, 0, none⟩ (w1.alloc (.cells #[.bool false, .slice none 0 0] 105)) (fun w' => Env (fun _ => False) w w' (upd (upd (upd noInts p 105 x) n1 105 0) n1 105 x))
    ((hE2.drew.op2 (pz := n1) (px := p) (upd_eq _ _ _ _) (by rw [upd_ne _ _ _ (by omega), upd_eq]) (r := x) (E := .returned (.pointer (some ⟨n1, 0, none⟩))) (fun az ax lz cz lx cx g1 g2 g3 _ => set160_other n1 p 105 105 0 x az ax lz cz lx cx _ g1 g2 (by omega) (g3 (by omega)) (by
      have := g2.len (k := 40) (Nat.lt_of_lt_of_le HX.out (by unfold W64; decide +kernel)); omega))).mono (fun e w' ⟨he, h⟩ => ⟨⟨_, he⟩, h⟩))
  have HSET := hid hSET
  have Hpn := hid hpn
  clear hE2 hSET hpn
  clear h1 h2 h3 h4 HN1 hA
  go_wp2_with fail
  rw [← hn1]
  refine HSET.out.mono ?_
  rintro e w2 ⟨rfl, E2⟩
  have hB2 : w2.cell? ⟨B, 0, none⟩ = some (.string sb) := (cell_of_block (p := ⟨B, 0, none⟩) (E2.keeps.block B hBl (fun h => h))).trans HB.out
  have HE2 := hid E2
  have HN3 := hid (HN2.out w2 (HG.out.keep E2.keeps (fun _ _ h => h)))
  clear E2 hn1 HSET
  go_wp2_with fail
  refine HN3.out.mono ?_
  rintro e w3 ⟨q, a2, l2, c2, rfl, h1, h2, h3, h4⟩
  have hE3 := HE2.out.add h4 h1 h2 (Into.newer h3)
  have hqp : p < q := Nat.lt_of_lt_of_le (HE2.out.lt (p := p) (t := 105) (z := x) (by rw [upd_ne _ _ _ (by have := Hpn.out; omega), upd_ne _ _ _ (by have := Hpn.out; omega), upd_eq])) h1
  have hqn : n1 < q := Nat.lt_of_lt_of_le (HE2.out.lt (p := n1) (t := 105) (z := x) (upd_eq _ _ _ _)) h1
  have hADD := w68 ⟨p, 0, none⟩ ⟨p, 0, none⟩ ⟨q, 0, none⟩ w3 (fun w' => Env (fun _ => False) w w' (upd (upd (upd (upd (upd noInts p 105 x) n1 105 0) n1 105 x) q 105 y) p 105 (x + y)))
    ((hE3.drew.add145 (pz := p) (px := p) (py := q) (z := x) (x := x) (y := y) (tz := 105) (tx := 105) (ty := 105) (by rw [upd_ne _ _ _ (by omega), upd_ne _ _ _ (by have := Hpn.out; omega), upd_ne _ _ _ (by have := Hpn.out; omega), upd_eq]) (by rw [upd_ne _ _ _ (by omega), upd_ne _ _ _ (by have := Hpn.out; omega), upd_ne _ _ _ (by have := Hpn.out; omega), upd_eq]) (upd_eq _ _ _ _)
      (Nat.lt_of_lt_of_le HX.out (by unfold W64; decide +kernel)) (Nat.lt_of_lt_of_le HY.out (by unfold W64; decide +kernel))).mono (fun e w' ⟨he, h⟩ => ⟨⟨_, he⟩, h⟩))
  have HADD := hid hADD
  have Hqp := hid hqp; have Hqn := hid hqn
  clear h1 h2 h3 h4 hE3 hqp hqn hADD HN3
  go_wp2_with fail
  refine HADD.out.mono ?_
  rintro e w4 ⟨rfl, E4⟩
  have i1 : IntAt w4 n1 105 x := E4.get (by rw [upd_ne _ _ _ (by have := Hpn.out; omega), upd_ne _ _ _ (by have := Hqn.out; omega), upd_eq])
  have i2 : IntAt w4 p 105 (x + y) := E4.get (upd_eq _ _ _ _)
  have HS1 := hid (string80_big n1 105 x w4 i1 (lt_TXB (Nat.lt_of_lt_of_le HX.out (Nat.pow_le_pow_right (by omega) (by omega)))) (HG.out.keep E4.keeps (fun _ _ h => h)))
  have hxy : (x + y).natAbs < 10 ^ 251 := by
    have h1 := Int.natAbs_add_le x y
    have h2 := HX.out; have h3 := HY.out
    have h4 : (10 : Nat) ^ 250 + 10 ^ 250 ≤ 10 ^ 251 := by decide +kernel
    omega
  have HS2 := hid (fun w' (hk : Keeps (fun _ => False) w4 w') => string80_big p 105 (x + y) w' (i2.keep hk) (lt_TXB hxy) (HG.out.keep (E4.keeps.trans hk) (fun _ _ h => h)))
  have K4 := hid E4.keeps
  rw [← HT1.out] at HS1
  rw [← HT2.out] at HS2
  clear E4 i1 i2 hxy HADD HE2
  go_wp2_with fail
  refine HS1.out.mono ?_
  rintro e w5 ⟨rfl, hk5⟩
  have HS3 := hid (HS2.out w5 hk5)
  have K5 := hid (K4.out.trans hk5)
  clear hk5 HS2 HS1
  go_wp2_with fail
  refine HS3.out.mono ?_
  rintro e w6 ⟨rfl, hk6⟩
  have K6 := K5.out.trans hk6
  have r2 := K6.row R2.out (fun h => h)
  have r3 := K6.row R3.out (fun h => h)
  have f2 := r2.frozen 0
  have b2 := r2.cell 0
  have r3' := RowAt.other r3 (p := ⟨O2, 0, none⟩) d23 (.string T1)
  have f3 := r3'.frozen 0
  have b3 := r3'.cell 0
  have F2 := hid (RowAt.other (r2.set 0 (.string T1)) (p := ⟨O3, 0, none⟩) d32 (.string T2))
  have F3 := hid (r3'.set 0 (.string T2))
  have HK6 := hid K6
  clear hk6 K6 r2 r3 r3'
  go_wp2_with fail
  go_end0
  refine ⟨rfl, ?_, ((HK6.out.any).setCell _ (.inl ⟨(O2, 9, .string T1), .head _, rfl⟩) _).setCell _ (.inl ⟨(O3, 9, .string T2), .tail _ (.head _), rfl⟩) _⟩
  intro z hz
  simp only [List.mem_cons, List.not_mem_nil, or_false] at hz
  rcases hz with rfl | rfl
  · exact F2.out
  · exact F3.out
end Go.Proofs
