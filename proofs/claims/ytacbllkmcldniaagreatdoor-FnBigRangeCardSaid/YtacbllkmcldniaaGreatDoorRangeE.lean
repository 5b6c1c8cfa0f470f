/- Parts of the proofs over the numbers of any length: Range2, Range3, Law15. -/
import Derived.Deep.RegionHeld3
import Derived.Test.YtacbllkmcldniaaGreatDoorRangeD
import Derived.Test.YtacbllkmcldniaaGreatDoorSpecD
import Derived.Test.YtacbllkmcldniaaGreatDoorSpecB
import Derived.Test.YtacbllkmcldniaaGreatDoorBaseD
set_option linter.unusedSimpArgs false
set_option linter.unusedVariables false
namespace Go.Proofs
open Go.RowKit
set_option maxHeartbeats 1000000
set_option linter.unusedVariables false
set_option linter.unusedSimpArgs false
set_option maxRecDepth 100000

theorem w127 (p : Addr) (x y : Int) (w : World) (R : World → Prop) (h : Calls Tryz.prog 180 #[.pointer (some p), .int .i64 x, .int .i64 y] w fun e w' => (∃ v, e = .returned v) ∧ R w') :
    Calls Tryz.prog 127 #[.pointer (some p), .int .i64 x, .int .i64 y] w fun e w' => e = .returned (.pointer (some p)) ∧ R w' := by
  have H := hid h
  clear h
  obtain ⟨b0, o0, s0⟩ := p
  go_enter Tryz.func127, Tryz.ntmps127
  go_wp2_with fail
  refine H.out.mono ?_
  rintro e w1 ⟨⟨v, rfl⟩, hR⟩
  have HR := hid hR
  clear hR
  go_wp2_with fail
  go_ret
  exact ⟨rfl, HR.out⟩
theorem w128 (p : Addr) (x y : Int) (w : World) (R : World → Prop) (h : Calls Tryz.prog 181 #[.pointer (some p), .int .i64 x, .int .i64 y] w fun e w' => (∃ v, e = .returned v) ∧ R w') :
    Calls Tryz.prog 128 #[.pointer (some p), .int .i64 x, .int .i64 y] w fun e w' => e = .returned (.pointer (some p)) ∧ R w' := by
  have H := hid h
  clear h
  obtain ⟨b0, o0, s0⟩ := p
  go_enter Tryz.func128, Tryz.ntmps128
  go_wp2_with fail
  refine H.out.mono ?_
  rintro e w1 ⟨⟨v, rfl⟩, hR⟩
  have HR := hid hR
  clear hR
  go_wp2_with fail
  go_ret
  exact ⟨rfl, HR.out⟩

theorem c127 (w0 w1 : World) (p : Nat) (a b : Int) (hF : Keeps (fun _ => False) w0 w1) (hp : w0.heap.size ≤ p) (hI : IntS w1 p 105 0 none 0 0) (G : Glob w0) (ha1 : -60 ≤ a) (ha2 : a ≤ 60) (hb1 : -60 ≤ b) (hb2 : b ≤ 60) :
    Calls Tryz.prog 127 #[.pointer (some ⟨p, 0, none⟩), .int .i64 a, .int .i64 b] w1 fun e w' => e = .returned (.pointer (some ⟨p, 0, none⟩)) ∧ IntAt w' p 105 (rngZ a b) ∧ Keeps (fun _ => False) w0 w' ∧ Keeps (fun k => k = p) w1 w' := by
  refine (w127 ⟨p, 0, none⟩ a b w1 (IntRes w1 p 105 none 0 (rngZ a b)) ((mulRange180 p 105 a b w1 hI ha1 ha2 hb1 hb2 (G.keep hF (fun _ _ h => h))).mono (fun e w' ⟨he, hr⟩ => ⟨⟨_, he⟩, hr⟩))).mono ?_
  rintro e w' ⟨rfl, a', l, c, h1, h2, h3⟩
  have h3' : Keeps (fun k => k = p) w1 w' := h3.mono (fun i _ h => by
    rcases h with h | ⟨o, ho⟩
    · exact h
    · cases ho)
  exact ⟨rfl, h1.at, hF.fresh h3' (fun i h => by rw [h]; exact hp), h3'⟩
theorem c128 (w0 w1 : World) (p : Nat) (a b : Int) (hF : Keeps (fun _ => False) w0 w1) (hp : w0.heap.size ≤ p) (hI : IntS w1 p 105 0 none 0 0) (G : Glob w0) (ha1 : -60 ≤ a) (ha2 : a ≤ 60) (hb1 : -60 ≤ b) (hb2 : b ≤ 60) :
    Calls Tryz.prog 128 #[.pointer (some ⟨p, 0, none⟩), .int .i64 a, .int .i64 b] w1 fun e w' => e = .returned (.pointer (some ⟨p, 0, none⟩)) ∧ IntAt w' p 105 (binZ a b) ∧ Keeps (fun _ => False) w0 w' := by
  have hE : Env (fun _ => False) w0 w1 (upd noInts p 105 0) := by
    refine ⟨hF, fun k h => h.elim, fun _ => (none, 0, 0), (fun q t z hq => ?_), (fun q1 q2 _ _ _ k h => (by obtain ⟨o, ho⟩ := h; cases ho))⟩
    by_cases h : q = p
    · subst h
      rw [upd_eq] at hq
      cases hq
      exact ⟨hp, hI, fun k h => by obtain ⟨o, ho⟩ := h; cases ho⟩
    · rw [upd_ne _ _ _ h] at hq; cases hq
  refine (w128 ⟨p, 0, none⟩ a b w1 (fun w' => Env (fun _ => False) w0 w' (upd (upd noInts p 105 0) p 105 (binZ a b))) ((binomial181 hE (upd_eq _ _ _ _) a b ha1 ha2 hb1 hb2 G (fun _ _ h => h)).mono (fun e w' ⟨he, hr⟩ => ⟨⟨_, he⟩, hr⟩))).mono ?_
  rintro e w' ⟨rfl, h⟩
  exact ⟨rfl, h.get (upd_eq _ _ _ _), h.keeps⟩

theorem bigRange126 (A B O2 O3 : Nat) (a b : Int) (T1 T2 s2 s3 : ByteArray) (w : World)
    (hA : w.cell? ⟨A, 0, none⟩ = some (.int .i64 a)) (hB : w.cell? ⟨B, 0, none⟩ = some (.int .i64 b)) (ha1 : -60 ≤ a) (ha2 : a ≤ 60) (hb1 : -60 ≤ b) (hb2 : b ≤ 60)
    (r2 : RowAt w O2 9 [.string s2]) (r3 : RowAt w O3 9 [.string s3]) (d23 : O2 ≠ O3) (n2 : A ≠ O2) (n3 : A ≠ O3) (m2 : B ≠ O2) (m3 : B ≠ O3)
    (G : Glob w) (hT1 : T1 = strB (txt (decide (rngZ a b < 0)) (rngZ a b).natAbs)) (hT2 : T2 = strB (txt (decide (binZ a b < 0)) (binZ a b).natAbs)) :
    Calls Tryz.prog 126 #[.pointer (some ⟨A, 0, none⟩), .pointer (some ⟨B, 0, none⟩), .pointer (some ⟨O2, 0, none⟩), .pointer (some ⟨O3, 0, none⟩)] w fun e w' =>
      e = .returned (.tuple #[]) ∧ OutL w' [(O2, 9, .string T1), (O3, 9, .string T2)] ∧ Keeps (OutK [(O2, 9, .string T1), (O3, 9, .string T2)]) w w' := by
  have HG := hid G; have HT1 := hid hT1; have HT2 := hid hT2
  have hAl : A < w.heap.size := World.block_lt_of_cell? w ⟨A, 0, none⟩ hA
  have hBl : B < w.heap.size := World.block_lt_of_cell? w ⟨B, 0, none⟩ hB
  have HA := hid hA; have HB := hid hB; have R2 := hid r2; have R3 := hid r3
  have d32 := Ne.symm d23
  obtain ⟨L, hL⟩ : ∃ L : List (Nat × TypeId × Value), L = [(O2, 9, .string T1), (O3, 9, .string T2)] := ⟨_, rfl⟩
  rw [← hL]
  have hnL : ∀ k, k ≠ O2 → k ≠ O3 → ¬ OutK L k := by
    rintro k h1 h2 ⟨x, hx, rfl⟩
    rw [hL] at hx
    simp only [List.mem_cons, List.not_mem_nil, or_false] at hx
    rcases hx with rfl | rfl
    · exact h1 rfl
    · exact h2 rfl
  have hS : ∀ w', Keeps (OutK L) w w' → w'.cell? ⟨A, 0, none⟩ = some (.int .i64 a) ∧ w'.cell? ⟨B, 0, none⟩ = some (.int .i64 b) := fun w' hk =>
    ⟨(cell_of_block (p := ⟨A, 0, none⟩) (hk.block A hAl (hnL A n2 n3))).trans HA.out, (cell_of_block (p := ⟨B, 0, none⟩) (hk.block B hBl (hnL B m2 m3))).trans HB.out⟩
  have HS := hid hS
  have st2 := hid (show ∀ W v, Keeps (OutK L) w W → Keeps (OutK L) w (W.setCell ⟨O2, 0, none⟩ v) from fun W v h => h.setCell _ (.inl ⟨_, by rw [hL]; exact .head _, rfl⟩) v)
  have st3 := hid (show ∀ W v, Keeps (OutK L) w W → Keeps (OutK L) w (W.setCell ⟨O3, 0, none⟩ v) from fun W v h => h.setCell _ (.inl ⟨_, by rw [hL]; exact .tail _ (.head _), rfl⟩) v)
  have HF0 : Hid (Keeps (fun _ => False) w w.drew) := hid (Keeps.refl _ w).drew
  obtain ⟨n, hn⟩ : ∃ n, n = w.heap.size := ⟨_, rfl⟩
  have hX1 : IntS (w.drew.alloc (.cells #[.bool false, .slice none 0 0] 105)) n 105 0 none 0 0 := by rw [hn]; exact intS_new w.drew 105
  have hX2 : IntS ((w.drew.alloc (.cells #[.bool false, .slice none 0 0] 105)).alloc (.cells #[.bool false, .slice none 0 0] 105)) (n + 1) 105 0 none 0 0 := by
    have := intS_new (w.drew.alloc (.cells #[.bool false, .slice none 0 0] 105)) 105
    rw [show (w.drew.alloc (.cells #[.bool false, .slice none 0 0] 105)).heap.size = n + 1 by rw [hn]; simp] at this
    exact this
  have hX1' : IntS ((w.drew.alloc (.cells #[.bool false, .slice none 0 0] 105)).alloc (.cells #[.bool false, .slice none 0 0] 105)) n 105 0 none 0 0 := hX1.keep ((Keeps.refl (fun _ => False) _).alloc _) (fun h => h) (fun _ _ h => h)
  have C1a : Hid (Calls Tryz.prog 127 #[.pointer (some ⟨n, 0, none⟩), .int .i64 a, .int .i64 b] (w.alloc (.cells #[.bool false, .slice none 0 0] 105)).drew fun e w' => e = .returned (.pointer (some ⟨n, 0, none⟩)) ∧ IntAt w' n 105 (rngZ a b) ∧ Keeps (fun _ => False) w w') :=
    hid ((c127 w _ n a b (HF0.out.alloc _) (Nat.le_of_eq hn.symm) hX1 G ha1 ha2 hb1 hb2).mono (fun e w' h => ⟨h.1, h.2.1, h.2.2.1⟩))
  have C1b : Hid (Calls Tryz.prog 127 #[.pointer (some ⟨n, 0, none⟩), .int .i64 a, .int .i64 b] ((w.alloc (.cells #[.bool false, .slice none 0 0] 105)).alloc (.cells #[.bool false, .slice none 0 0] 105)).drew fun e w' => e = .returned (.pointer (some ⟨n, 0, none⟩)) ∧ IntAt w' n 105 (rngZ a b) ∧ Keeps (fun _ => False) w w' ∧ IntS w' (n + 1) 105 0 none 0 0) :=
    hid ((c127 w _ n a b ((HF0.out.alloc _).alloc _) (Nat.le_of_eq hn.symm) hX1' G ha1 ha2 hb1 hb2).mono (fun e w' h => ⟨h.1, h.2.1, h.2.2.1, hX2.keep h.2.2.2 (by omega) (fun k hk => by obtain ⟨o, ho⟩ := hk; cases ho)⟩))
  have C1c : Hid (Calls Tryz.prog 127 #[.pointer (some ⟨n + 1, 0, none⟩), .int .i64 a, .int .i64 b] ((w.alloc (.cells #[.bool false, .slice none 0 0] 105)).alloc (.cells #[.bool false, .slice none 0 0] 105)).drew fun e w' => e = .returned (.pointer (some ⟨n + 1, 0, none⟩)) ∧ IntAt w' (n + 1) 105 (rngZ a b) ∧ Keeps (fun _ => False) w w' ∧ IntS w' n 105 0 none 0 0) :=
    hid ((c127 w _ (n + 1) a b ((HF0.out.alloc _).alloc _) (by omega) hX2 G ha1 ha2 hb1 hb2).mono (fun e w' h => ⟨h.1, h.2.1, h.2.2.1, hX1'.keep h.2.2.2 (by omega) (fun k hk => by obtain ⟨o, ho⟩ := hk; cases ho)⟩))
  have HZ1 := hid (rngZ_small ha1 hb2)
  have HZ2 := hid (show (binZ a b).natAbs < W64 ^ 8 from small_pow (binZ_small ha2) (by omega))
  have HGe : Hid (∀ w', Keeps (fun _ => False) w w' → Glob w') := hid (fun w' h => HG.out.keep h (fun _ _ h => h))
  -- the text of the product
  have HTa : Hid (∀ (p : Nat) (w' : World), IntAt w' p 105 (rngZ a b) → Keeps (fun _ => False) w w' → Calls Tryz.prog 80 #[.pointer (some ⟨p, 0, none⟩)] w' fun e w2 => e = .returned (.string T1) ∧ Keeps (fun _ => False) w' w2) := hid (fun p w' h1 h2 => by
    rw [HT1.out]; exact string80_leaf p 105 _ w' h1 HZ1.out (HGe.out _ h2))
  have HTb : Hid (∀ (p : Nat) (w' : World), IntAt w' p 105 (binZ a b) → Keeps (fun _ => False) w w' → Calls Tryz.prog 80 #[.pointer (some ⟨p, 0, none⟩)] w' fun e w2 => e = .returned (.string T2) ∧ Keeps (fun _ => False) w' w2) := hid (fun p w' h1 h2 => by
    rw [HT2.out]; exact string80_leaf p 105 _ w' h1 HZ2.out (HGe.out _ h2))
  have HB8 : Hid (∀ (p : Nat) (w' : World), IntS w' p 105 0 none 0 0 → n ≤ p → Keeps (fun _ => False) w w' → Calls Tryz.prog 128 #[.pointer (some ⟨p, 0, none⟩), .int .i64 a, .int .i64 b] w' fun e w2 => e = .returned (.pointer (some ⟨p, 0, none⟩)) ∧ IntAt w2 p 105 (binZ a b) ∧ Keeps (fun _ => False) w w2) := hid (fun p w' h1 h2 h3 =>
    c128 w w' p a b h3 (by omega) h1 HG.out ha1 ha2 hb1 hb2)
  have HL := hid hL
  have HST : Hid (∀ w', Keeps (fun _ => False) w w' → w'.cell? ⟨O2, 0, none⟩ = some (.string s2) ∧ w'.cell? ⟨O3, 0, none⟩ = some (.string s3) ∧ w'.frozen? ⟨O2, 0, none⟩ = false ∧ w'.frozen? ⟨O3, 0, none⟩ = false) := hid (fun w' h =>
    ⟨(h.row R2.out (fun h => h)).cell 0, (h.row R3.out (fun h => h)).cell 0, (h.row R2.out (fun h => h)).frozen 0, (h.row R3.out (fun h => h)).frozen 0⟩)
  clear hX1 hX2 hX1' hT1 hT2 G hA hB r2 r3 hL hnL hS ha1 ha2 hb1 hb2 hAl hBl
  subst hn
  go_enter Tryz.func126, Tryz.ntmps126
  go_wp2_with fail
  go_region_held3 (fun w' => w'.cell? ⟨A, 0, none⟩ = some (.int .i64 a) ∧ w'.cell? ⟨B, 0, none⟩ = some (.int .i64 b))
    (first | with_reducible exact HS.out _ HF0.out.any | with_reducible exact HS.out _ (HF0.out.alloc _).any | exact HS.out (w.alloc _).drew (HF0.out.alloc _).any | exact HS.out ((w.alloc _).alloc _).drew ((HF0.out.alloc _).alloc _).any | with_reducible exact HS.out _ HF1.out.any | with_reducible exact HS.out _ (HF1.out.alloc _).any | with_reducible exact HS.out _ HF2.out.any | with_reducible exact HS.out _ (HF2.out.alloc _).any | with_reducible exact HS.out _ HF3.out.any | with_reducible exact HS.out _ HF4.out.any | with_reducible exact HS.out _ (st2.out _ _ HF4.out.any) | with_reducible exact HS.out _ (st3.out _ _ (st2.out _ _ HF4.out.any)))
    (first
     | (go_at_call 127; (with_reducible refine C1a.out.mono ?_); rintro e w2 ⟨rfl, h1, h2⟩; have I1 := hid h1; have HF1 := hid h2; clear h1 h2)
     | (go_at_call 127; (with_reducible refine C1b.out.mono ?_); rintro e w2 ⟨rfl, h1, h2, h3⟩; have I1 := hid h1; have HF1 := hid h2; have IB := hid h3; have HP := hid (Nat.le_succ w.heap.size); clear h1 h2 h3)
     | (go_at_call 127; (with_reducible refine C1c.out.mono ?_); rintro e w2 ⟨rfl, h1, h2, h3⟩; have I1 := hid h1; have HF1 := hid h2; have IB := hid h3; have HP := hid (Nat.le_refl w.heap.size); clear h1 h2 h3)
     | (go_at_call 80; (with_reducible refine (HTa.out _ _ I1.out HF1.out).mono ?_); rintro e w3 ⟨rfl, hk⟩; have HF2 := hid (HF1.out.trans hk); have IB2 := hid (IB.out.keep hk (fun h => h) (fun _ _ h => h)); clear hk)
     | (go_at_call 80; (with_reducible refine (HTa.out _ _ I1.out HF1.out).mono ?_); rintro e w3 ⟨rfl, hk⟩; have HF2 := hid (HF1.out.trans hk); clear hk)
     | (go_at_call 80; (with_reducible refine (HTa.out _ _ (I1.out.keep ((Keeps.refl (fun _ => False) _).alloc _)) (HF1.out.alloc _)).mono ?_); rintro e w3 ⟨rfl, hk⟩; have HF2 := hid ((HF1.out.alloc _).trans hk); have IB2 := hid ((intS_new w2 105).keep hk (fun h => h) (fun _ _ h => h)); have HP := hid HF1.out.size; clear hk)
     | (go_at_call 128; (with_reducible refine (HB8.out _ _ IB2.out HP.out HF2.out).mono ?_); rintro e w4 ⟨rfl, h1, h2⟩; have I2 := hid h1; have HF3 := hid h2; clear h1 h2)
     | (go_at_call 128; (with_reducible refine (HB8.out _ _ (intS_new w3 105) HF2.out.size (HF2.out.alloc _)).mono ?_); rintro e w4 ⟨rfl, h1, h2⟩; have I2 := hid h1; have HF3 := hid h2; clear h1 h2)
     | (go_at_call 80; (with_reducible refine (HTb.out _ _ I2.out HF3.out).mono ?_); rintro e w5 ⟨rfl, hk⟩; have HF4 := hid (HF3.out.trans hk); obtain ⟨v2, v3, f2, f3⟩ := HST.out _ (HF3.out.trans hk); clear hk))
  all_goals
    go_wp2_with fail
    go_end0
    refine ⟨rfl, ?_, st3.out _ _ (st2.out _ _ HF4.out.any)⟩
    intro x hx
    rw [HL.out] at hx
    simp only [List.mem_cons, List.not_mem_nil, or_false] at hx
    rcases hx with rfl | rfl
    · exact ((HF4.out.row R2.out (fun h => h)).set 0 (.string T1)).other d32 _
    · exact ((HF4.out.row R3.out (fun h => h)).other d23 _).set 0 (.string T2)
end Go.Proofs
namespace Go.Proofs
open Go.RowKit
set_option maxHeartbeats 800000
set_option linter.unusedVariables false
set_option linter.unusedSimpArgs false
set_option maxRecDepth 100000

theorem call126 (cap : Array Value) (w : World) : (callFunc 126 cap).run Tryz.prog w = .ok (.enter 126 cap) w := by simp [go_sem, callFunc, Tryz.func126]; rfl

theorem bigRange56 (a b : Int) (T1 T2 : ByteArray) (w : World) (ha1 : -60 ≤ a) (ha2 : a ≤ 60) (hb1 : -60 ≤ b) (hb2 : b ≤ 60) (G : Glob w)
    (hT1 : T1 = strB (txt (decide (rngZ a b < 0)) (rngZ a b).natAbs)) (hT2 : T2 = strB (txt (decide (binZ a b < 0)) (binZ a b).natAbs)) :
    Calls Tryz.prog 56 #[.int .i64 a, .int .i64 b] w fun e w' => e = .returned (.tuple #[.string T1, .string T2, .bool true]) ∧ Keeps (fun _ => False) w w' := by
  have hmf : ∀ (fn : Fn) (first cap : Array Value) (w : World), (Instr.makeFunc fn first cap).run Tryz.prog w = .ok (.func fn first cap) w := fun _ _ _ _ => rfl
  obtain ⟨B, hB⟩ : ∃ B : List (TypeId × Value), B = [(2, .int .i64 a), (2, .int .i64 b), (9, .string { data := #[] }), (9, .string { data := #[] })] := ⟨_, rfl⟩
  obtain ⟨W, hW⟩ : ∃ W, W = boxed w B := ⟨_, rfl⟩
  obtain ⟨m, hm⟩ : ∃ m, m = w.heap.size := ⟨_, rfl⟩
  have hnest : ((((w.alloc (.cells #[.int .i64 a] 2)).alloc (.cells #[.int .i64 b] 2)).alloc (.cells #[.string { data := #[] }] 9)).alloc (.cells #[.string { data := #[] }] 9)) = W := by rw [hW, hB]; rfl
  have hk : Keeps (fun _ => False) w W := by rw [hW]; exact boxed_keeps w B
  have hs : W.heap.size = m + 4 := by rw [hW, boxed_size, hB, hm]; rfl
  have hr : ∀ (i : Nat) (x : TypeId × Value), B[i]? = some x → RowAt W (m + i) x.1 [x.2] := fun i x h => by rw [hW, hm]; exact boxed_row w B i x h
  rw [hB] at hr
  have q0 : RowAt W m 2 [.int .i64 a] := hr 0 _ rfl
  have q1 : RowAt W (m + 1) 2 [.int .i64 b] := hr 1 _ rfl
  have q2 : RowAt W (m + 1 + 1) 9 [.string { data := #[] }] := hr 2 _ rfl
  have q3 : RowAt W (m + 1 + 1 + 1) 9 [.string { data := #[] }] := hr 3 _ rfl
  obtain ⟨L, hL⟩ : ∃ L : List (Nat × TypeId × Value), L = [(m + 1 + 1, 9, .string T1), (m + 1 + 1 + 1, 9, .string T2)] := ⟨_, rfl⟩
  have hsafe := safe_outs 126 #[.pointer (some ⟨m, 0, none⟩), .pointer (some ⟨m + 1, 0, none⟩), .pointer (some ⟨m + 1 + 1, 0, none⟩), .pointer (some ⟨m + 1 + 1 + 1, 0, none⟩)] W L (call126 _)
    (by rw [hL]; intro x hx; simp only [List.mem_cons, List.not_mem_nil, or_false] at hx; rcases hx with rfl | rfl <;> simp <;> omega)
    (fun w1 hs1 hk1 => by
      rw [hL]
      exact bigRange126 m (m + 1) (m + 1 + 1) (m + 1 + 1 + 1) a b T1 T2 _ _ w1 ((hk1.row q0 (fun h => h)).cell 0) ((hk1.row q1 (fun h => h)).cell 0) ha1 ha2 hb1 hb2
        (hk1.row q2 (fun h => h)) (hk1.row q3 (fun h => h)) (by omega) (by omega) (by omega) (by omega) (by omega)
        (G.keep (hk.trans hk1) (fun _ _ h => h)) hT1 hT2)
  have HS := hid hsafe; have HK := hid hk; have HL := hid hL; have HM := hid hm
  clear hsafe hk hL q0 q1 q2 q3 hr hs hB hW hT1 hT2 G
  go_enter Tryz.func56, Tryz.ntmps56
  go_wp2_with fail
  rw [← hm]
  clear hnest hm
  refine HS.out.mono ?_
  rintro e w2 ⟨rfl, ho, hk2⟩
  have hkf : Keeps (fun _ => False) w w2 := HK.out.fresh hk2 (fun i ⟨x, hx, he⟩ => by
    rw [HL.out] at hx
    simp only [List.mem_cons, List.not_mem_nil, or_false] at hx
    have := HM.out
    rcases hx with rfl | rfl <;> simp at he <;> omega)
  have HO := hid ho; have HKF := hid hkf
  have m2 : (m + 1 + 1, 9, (.string T1 : Value)) ∈ L := by rw [HL.out]; exact .head _
  have m3 : (m + 1 + 1 + 1, 9, (.string T2 : Value)) ∈ L := by rw [HL.out]; exact .tail _ (.head _)
  have hS : ∀ w', OutL w' L → w'.cell? ⟨m + 1 + 1, 0, none⟩ = some (.string T1) ∧ w'.cell? ⟨m + 1 + 1 + 1, 0, none⟩ = some (.string T2) := fun w' h => ⟨h.cell m2, h.cell m3⟩
  have HSS := hid hS
  have f2 := ho.frozen m2; have f3 := ho.frozen m3
  obtain ⟨c2, c3⟩ := hS w2 ho
  have e2 := hid (show ∃ t, (m + 1 + 1, t, (.string T1 : Value)) ∈ L from ⟨_, m2⟩)
  have e3 := hid (show ∃ t, (m + 1 + 1 + 1, t, (.string T2 : Value)) ∈ L from ⟨_, m3⟩)
  clear ho hk2 hkf m2 m3 hS
  go_upto_region 4 with fail
  go_region_held3 (fun w' => w'.cell? ⟨m + 1 + 1, 0, none⟩ = some (.string T1) ∧ w'.cell? ⟨m + 1 + 1 + 1, 0, none⟩ = some (.string T2))
    (((with_reducible refine HSS.out _ ?_); repeat (first | (with_reducible exact HO.out) | (with_reducible refine OutL.again ?_ e2.out) | (with_reducible refine OutL.again ?_ e3.out) | (with_reducible refine OutL.drew ?_)))) (fail)
  go_wp2_with fail
  have hof := OutL.drew ((HO.out.again e2.out).again e3.out)
  have hge : ∀ i, m ≤ i → w.heap.size ≤ i := fun i hi => by rw [← HM.out]; exact hi
  have hkf := ((HKF.out.setCell ⟨m + 1 + 1, 0, none⟩ (.inr (hge _ (by show m ≤ m + 1 + 1; omega))) (.string T1)).setCell ⟨m + 1 + 1 + 1, 0, none⟩ (.inr (hge _ (by show m ≤ m + 1 + 1 + 1; omega))) (.string T2)).drew
  obtain ⟨a2, a3⟩ := HSS.out _ hof
  generalize ((w2.setCell ⟨m + 1 + 1, 0, none⟩ (.string T1)).setCell ⟨m + 1 + 1 + 1, 0, none⟩ (.string T2)).drew = wf at *
  refine bodyPost_ret (v := .tuple #[.string T1, .string T2, .bool true]) ?_ rfl ⟨rfl, hkf⟩
  simp [results, Tryz.results56, go_sem, a2, a3]
end Go.Proofs
namespace Go.Proofs
open Go.RowKit
set_option maxHeartbeats 1000000
set_option linter.unusedVariables false
set_option linter.unusedSimpArgs false
set_option maxRecDepth 100000

/-- A variable of the specification's numbers. -/
def NumC (w : World) (base p : Nat) (z : Int) : Prop :=
  ∃ a c, RowAt w p 24 [.bool (decide (z < 0)), .slice a (digs z.natAbs).length c] ∧ NumV w base (.agg #[.bool (decide (z < 0)), .slice a (digs z.natAbs).length c]) z
theorem NumC.keep {w w' : World} {base p : Nat} {z : Int} (h : NumC w base p z) (hk : Keeps (fun _ => False) w w') : NumC w' base p z := by
  obtain ⟨a, c, h1, h2⟩ := h
  exact ⟨a, c, hk.row h1 (fun h => h), h2.keep hk (fun _ _ h => h)⟩

theorem prodZ_bound {a : Int} (h1 : -60 ≤ a) : ∀ (n : Nat), a + n ≤ 61 → (prodZ a n).natAbs ≤ 60 ^ n
  | 0, _ => by simp [prodZ]
  | n + 1, h => by
    show (prodZ a n * (a + n)).natAbs ≤ _
    rw [Int.natAbs_mul, Nat.pow_succ]
    exact Nat.mul_le_mul (prodZ_bound h1 n (by omega)) (by omega)
theorem prodZ_digs {a : Int} (h1 : -60 ≤ a) (n : Nat) (h : a + n ≤ 61) : (digs (prodZ a n).natAbs).length ≤ 220 := by
  have h2 := prodZ_bound h1 n h
  have h3 : (60 : Nat) ^ n ≤ 60 ^ 121 := Nat.pow_le_pow_right (by omega) (by omega)
  have h4 : (60 : Nat) ^ 121 < 10 ^ 220 := by decide
  exact digs_len (by omega)
theorem ch_digs {n k : Nat} (h : n ≤ 60) : (digs (ch n k)).length ≤ 20 := by
  have h1 := ch_le n k
  have h2 : 2 ^ n ≤ 2 ^ 60 := Nat.pow_le_pow_right (by omega) h
  have h3 : (2 : Nat) ^ 60 < 10 ^ 20 := by decide
  exact digs_len (by omega)

theorem law15_out (a b : Int) (w : World) (G : Glob w) (h : a < -60 ∨ 60 < a ∨ b < -60 ∨ 60 < b) :
    Calls Tryz.prog 15 #[.int .i8 a, .int .i8 b] w fun e w' => e = .returned (.bool true) ∧ Keeps (fun _ => False) w w' := by
  have HC := hid (bigAlive_true w G)
  clear G
  have fin : ∀ (t1 t2 t3 t4 : Bool), t1 = decide (a < -60) → t2 = decide (60 < a) → t3 = decide (b < -60) → t4 = decide (60 < b) → (t1 || t2 || t3 || t4) = true → True := fun _ _ _ _ _ _ _ _ _ => trivial
  clear fin
  by_cases h1 : a < -60
  · have t1 : decide (a < -60) = true := by simpa using h1
    clear h h1
    go_enter Tryz.func15, Tryz.ntmps15
    go_wp2_with fail
    refine HC.out.mono ?_
    rintro e w1 ⟨rfl, hk⟩
    have K1 := hid hk
    clear hk
    go_wp2_with fail
    go_ret
    exact ⟨rfl, K1.out⟩
  have t1 : decide (a < -60) = false := by simpa using h1
  by_cases h2 : 60 < a
  · have t2 : decide (60 < a) = true := by simpa using h2
    clear h h1 h2
    go_enter Tryz.func15, Tryz.ntmps15
    go_wp2_with fail
    refine HC.out.mono ?_
    rintro e w1 ⟨rfl, hk⟩
    have K1 := hid hk
    clear hk
    go_wp2_with fail
    go_ret
    exact ⟨rfl, K1.out⟩
  have t2 : decide (60 < a) = false := by simpa using h2
  by_cases h3 : b < -60
  · have t3 : decide (b < -60) = true := by simpa using h3
    clear h h1 h2 h3
    go_enter Tryz.func15, Tryz.ntmps15
    go_wp2_with fail
    refine HC.out.mono ?_
    rintro e w1 ⟨rfl, hk⟩
    have K1 := hid hk
    clear hk
    go_wp2_with fail
    go_ret
    exact ⟨rfl, K1.out⟩
  have t3 : decide (b < -60) = false := by simpa using h3
  have t4 : decide (60 < b) = true := by simp; omega
  clear h h1 h2 h3
  go_enter Tryz.func15, Tryz.ntmps15
  go_wp2_with fail
  refine HC.out.mono ?_
  rintro e w1 ⟨rfl, hk⟩
  have K1 := hid hk
  clear hk
  go_wp2_with fail
  go_ret
  exact ⟨rfl, K1.out⟩

theorem ch_stepZ (A i : Nat) : (((ch A i : Nat) : Int) * ((A : Int) - (i : Int))).tdiv ((i : Int) + 1) = ((ch A (i + 1) : Nat) : Int) := by
  by_cases h : i ≤ A
  · rw [show (A : Int) - (i : Int) = ((A - i : Nat) : Int) by omega, ← Int.natCast_mul, show (i : Int) + 1 = ((i + 1 : Nat) : Int) by omega, ← Int.ofNat_tdiv, ch_div]
  · rw [ch_big A i (by omega), ch_big A (i + 1) (by omega)]
    simp
theorem ch_prodZ {A i : Nat} (h1 : A ≤ 60) (h2 : i ≤ 60) : (digs (((ch A i : Nat) : Int) * ((A : Int) - (i : Int))).natAbs).length ≤ 40000 := by
  have h3 := ch_le A i
  have h4 : 2 ^ A ≤ 2 ^ 60 := Nat.pow_le_pow_right (by omega) h1
  have h5 : (((ch A i : Nat) : Int) * ((A : Int) - (i : Int))).natAbs ≤ 2 ^ 60 * 60 := by
    rw [Int.natAbs_mul, Int.natAbs_natCast]
    exact Nat.mul_le_mul (by omega) (by omega)
  have h6 : (2 : Nat) ^ 60 * 60 < 10 ^ 25 := by decide
  exact Nat.le_trans (digs_len (k := 25) (by omega)) (by omega)

theorem NumC.store {w3 : World} {base base3 p : Nat} {z : Int} {a3 : Option Addr} {c3 : Nat} {x y : Value} (hrow : RowAt w3 p 24 [x, y]) (hp : p < base3) (hb : base ≤ base3) (g1 : RdV w3 a3 c3 (digs z.natAbs)) (g2 : ∀ k, InB a3 k → base3 ≤ k) :
    NumC ((w3.setCell ⟨p, 0, none⟩ (.bool (decide (z < 0)))).setCell ⟨p, 1, none⟩ (.slice a3 (digs z.natAbs).length c3)) base p z := by
  refine ⟨a3, c3, ?_, ?_⟩
  · have := (hrow.set 0 (.bool (decide (z < 0)))).set 1 (.slice a3 (digs z.natAbs).length c3)
    simpa using this
  · have h1 : NumV w3 base3 (.agg #[.bool (decide (z < 0)), .slice a3 (digs z.natAbs).length c3]) z := ⟨a3, c3, rfl, g1, g2⟩
    exact ((h1.keep (Keeps.set1 w3 p 0 _) (fun k hk h => by omega)).keep (Keeps.set1 _ p 1 _) (fun k hk h => by omega)).lower hb

theorem NumC.facts {w : World} {base p : Nat} {z : Int} {n : Bool} {v : Value} (h : RowAt w p 24 [.bool n, v]) :
    w.cell? ⟨p, 0, none⟩ = some (.bool n) ∧ w.cell? ⟨p, 1, none⟩ = some v ∧ w.frozen? ⟨p, 0, none⟩ = false ∧ w.frozen? ⟨p, 1, none⟩ = false :=
  ⟨h.cell 0, h.cell 1, h.frozen 0, h.frozen 1⟩

theorem law15 (a b : Int) (w : World) (G : Glob w) : 
    Calls Tryz.prog 15 #[.int .i8 a, .int .i8 b] w fun e w' => e = .returned (.bool true) ∧ Keeps (fun _ => False) w w' := by
  by_cases hout : a < -60 ∨ 60 < a ∨ b < -60 ∨ 60 < b
  · exact law15_out a b w G hout
  have t1 : decide (a < -60) = false := by simp; omega
  have t2 : decide (60 < a) = false := by simp; omega
  have t3 : decide (b < -60) = false := by simp; omega
  have t4 : decide (60 < b) = false := by simp; omega
  have ga : IntKind.i64.wrap a = a := by rw [IntKind.wrap_i64]; omega
  have gb : IntKind.i64.wrap b = b := by rw [IntKind.wrap_i64]; omega
  have Hr : Hid (-60 ≤ a ∧ a ≤ 60 ∧ -60 ≤ b ∧ b ≤ 60) := hid (by omega)
  have HG := hid G
  have HO := hid (of33 1 w (by omega) (by omega))
  clear G hout
  go_enter Tryz.func15, Tryz.ntmps15
  go_wp2_with fail
  refine HO.out.mono ?_
  rintro e w1 ⟨v, rfl, hv, hk⟩
  obtain ⟨av, cv, rfl, hv1, hv2⟩ := hv
  obtain ⟨n1, hn1⟩ : ∃ n1, n1 = decide ((1 : Int) < 0) := ⟨_, rfl⟩
  obtain ⟨l1, hl1⟩ : ∃ l1, l1 = (digs (1 : Int).natAbs).length := ⟨_, rfl⟩
  rw [← hn1, ← hl1]
  have HV := hid hv1; have HV2 := hid hv2; have HK := hid hk; have Hn1 := hid hn1; have Hl1 := hid hl1
  clear hv1 hv2 hk hn1 hl1
  go_upto_region 4 with fail
  obtain ⟨p, hp⟩ : ∃ p, p = w1.heap.size := ⟨_, rfl⟩
  obtain ⟨W, hW⟩ : ∃ W, W = w1.alloc (.cells #[.bool n1, .slice av l1 cv] 24) := ⟨_, rfl⟩
  have hkW : Keeps (fun _ => False) w1 W := by rw [hW]; exact (Keeps.refl _ w1).alloc _
  have hN : NumC W w.heap.size p 1 := by
    refine ⟨av, cv, ?_, ?_⟩
    · rw [← Hn1.out, ← Hl1.out, hW, hp]; exact RowAt.new w1 24 _
    · exact ⟨av, cv, rfl, HV.out.keep hkW (fun _ _ h => h), HV2.out⟩
  have hKW : Keeps (fun _ => False) w W := HK.out.trans hkW
  have hpw : w.heap.size ≤ p := by rw [hp]; exact HK.out.size
  rw [← hp, ← hW]
  have HN := hid hN; have HKW := hid hKW; have Hpw := hid hpw
  clear hp hW hkW hN hKW hpw HV HV2 Hn1 Hl1
  go_wp2_with fail
  go_loopw [6] (fun iv wr => ∃ n : Nat, (n = 0 ∨ a + n ≤ b + 1) ∧ iv = .int .i64 (a + n) ∧ NumC wr w.heap.size p (prodZ a n) ∧ Keeps (fun _ => False) w wr) (fun iv _ => (b + 1 - intOf iv).toNat)
  case atStart => exact ⟨0, .inl rfl, by simp, HN.out, HKW.out⟩
  case round =>
    obtain ⟨n, hn, rfl, hnum, hkr⟩ := hrel
    have HNr := hid hnum; have HKr := hid hkr
    clear hnum hkr
    by_cases hle : a + n ≤ b
    · have t5 : decide (a + n ≤ b) = true := by simpa using hle
      obtain ⟨ac, cc, hrow, hnv⟩ := HNr.out
      obtain ⟨c0, c1, f0, f1⟩ := NumC.facts (base := 0) (z := 0) hrow
      have HOf := hid (of33 (a + n) wr.drew (by have := Hr.out; omega) (by have := Hr.out; omega))
      have hb := Hr.out
      have gw : wrap64 (a + (n : Int) + 1) = a + n + 1 := by unfold wrap64; omega
      have hd1 : (digs (prodZ a n).natAbs).length ≤ 40000 := Nat.le_trans (prodZ_digs hb.1 n (by omega)) (by omega)
      have hd2 : (digs (a + (n : Int)).natAbs).length ≤ 40000 := Nat.le_trans (digs_len (k := 3) (by omega)) (by omega)
      have HMl : Hid (∀ (w2 : World) (v : Value) (b' : Nat), NumV w2 b' v (a + n) → Keeps (fun _ => False) wr.drew w2 → Calls Tryz.prog 27 #[.agg #[.bool (decide (prodZ a n < 0)), .slice ac (digs (prodZ a n).natAbs).length cc], v] w2 (NRes w2 (prodZ a n * (a + n)))) :=
        hid (fun w2 v b' h1 h2 => mul27 _ v _ _ w.heap.size b' w2 (hnv.keep ((Keeps.refl (fun _ => False) wr).drew.trans h2) (fun _ _ h => h)) h1 hd1 hd2)
      obtain ⟨ng, hng⟩ : ∃ ng, ng = decide (prodZ a n < 0) := ⟨_, rfl⟩
      obtain ⟨ln, hln⟩ : ∃ ln, ln = (digs (prodZ a n).natAbs).length := ⟨_, rfl⟩
      rw [← hng, ← hln] at HMl hrow
      rw [← hng] at c0
      rw [← hln] at c1
      have Hrow := hid hrow
      clear hnv hng hln hrow hb hd1 hd2
      go_wp2_with fail
      go_region_law (first
        | (go_simp; go_at_call 33; (refine HOf.out.mono ?_); rintro e w2 ⟨v, rfl, hv, hk⟩; obtain ⟨d0, d1, e0, e1⟩ := NumC.facts (base := 0) (z := 0) (hk.row (show RowAt wr.drew p 24 _ from Hrow.out) (fun h => h)); have HV2 := hid hv; have HK2 := hid hk; clear hv hk)
        | (go_simp; go_at_call 27; (refine (HMl.out _ _ _ HV2.out HK2.out).mono ?_); rintro e w3 ⟨v3, rfl, hv3, hk3⟩; obtain ⟨a3, c3, rfl, g1, g2⟩ := hv3; obtain ⟨i0, i1, i2, i3⟩ := NumC.facts (base := 0) (z := 0) (hk3.row (HK2.out.row (show RowAt wr.drew p 24 _ from Hrow.out) (fun h => h)) (fun h => h)); have G1 := hid g1; have G2 := hid g2; have HK3 := hid hk3; clear g1 g2 hk3))
      all_goals
        go_wp2_with fail
        refine ⟨⟨n + 1, .inr (by omega), by rw [gw, show a + ((n + 1 : Nat) : Int) = a + n + 1 by omega], ?_, ?_⟩, by rw [gw]; simp only [intOf]; omega⟩
        · have hpl : p < w2.heap.size := Nat.lt_of_lt_of_le Hrow.out.lt (show wr.drew.heap.size ≤ w2.heap.size from HK2.out.size)
          exact NumC.store (HK3.out.row (HK2.out.row (show RowAt wr.drew p 24 _ from Hrow.out) (fun h => h)) (fun h => h)) hpl (by have := Hpw.out; omega) G1.out G2.out
        · exact ((((HKr.out.drew).trans HK2.out).trans HK3.out).setCell _ (.inr Hpw.out) _).setCell _ (.inr Hpw.out) _
    · have t5 : decide (a + n ≤ b) = false := by simpa using hle
      have hend : rngZ a b = prodZ a n := by
        unfold rngZ
        congr 1
        omega
      rw [← hend] at HNr
      clear hend hle hn
      obtain ⟨T1, hT1⟩ : ∃ T, T = strB (txt (decide (rngZ a b < 0)) (rngZ a b).natAbs) := ⟨_, rfl⟩
      obtain ⟨T2, hT2⟩ : ∃ T, T = strB (txt (decide (binZ a b < 0)) (binZ a b).natAbs) := ⟨_, rfl⟩
      have HR := hid (bigRange56 a b T1 T2 wr Hr.out.1 Hr.out.2.1 Hr.out.2.2.1 Hr.out.2.2.2 (HG.out.keep HKr.out (fun _ _ h => h)) hT1 hT2)
      have HT1 := hid hT1; have HT2 := hid hT2
      clear hT1 hT2
      go_wp2_with fail
      refine HR.out.mono ?_
      rintro e w2 ⟨rfl, hk⟩
      have HK2 := hid (HKr.out.trans hk)
      have HN2 := hid (HNr.out.keep hk)
      clear hk HR
      obtain ⟨ac, cc, hrow, hnv⟩ := HN2.out
      obtain ⟨c0, c1, f0, f1⟩ := NumC.facts (base := 0) (z := 0) hrow
      have hdl : (digs (rngZ a b).natAbs).length ≤ 100000 := by
        have h1 := rngZ_small (a := a) (b := b) Hr.out.1 Hr.out.2.2.2
        have h2 : W64 ^ 8 < 10 ^ 200 := by unfold W64; decide
        exact Nat.le_trans (digs_len (k := 200) (by omega)) (by omega)
      have HX := hid (text22 _ (rngZ a b) w.heap.size w2 hnv hdl)
      rw [← HT1.out] at HX
      obtain ⟨ng, hng⟩ : ∃ ng, ng = decide (rngZ a b < 0) := ⟨_, rfl⟩
      obtain ⟨ln, hln⟩ : ∃ ln, ln = (digs (rngZ a b).natAbs).length := ⟨_, rfl⟩
      rw [← hng, ← hln] at HX
      rw [← hng] at c0
      rw [← hln] at c1
      clear hnv hrow hng hln hdl
      go_wp2_with fail
      refine HX.out.mono ?_
      rintro e w3 ⟨rfl, hk⟩
      have HK3 := hid (HK2.out.trans hk)
      clear hk HX c0 c1 f0 f1
      have HAl := hid (bigAlive_true w3 (HG.out.keep HK3.out (fun _ _ h => h)))
      by_cases hneg : a < 0 ∨ b < 0
      · by_cases ha : a < 0
        · have t6 : decide (a < 0) = true := by simpa using ha
          clear ha hneg
          go_wp2_with fail
          refine HAl.out.mono ?_
          rintro e w4 ⟨rfl, hk⟩
          have HK4 := hid (HK3.out.trans hk)
          clear hk HAl
          go_wp2_with fail
          go_ret
          exact ⟨rfl, HK4.out⟩
        · have t6 : decide (a < 0) = false := by simpa using ha
          have t7 : decide (b < 0) = true := by simp; omega
          clear ha hneg
          go_wp2_with fail
          refine HAl.out.mono ?_
          rintro e w4 ⟨rfl, hk⟩
          have HK4 := hid (HK3.out.trans hk)
          clear hk HAl
          go_wp2_with fail
          go_ret
          exact ⟨rfl, HK4.out⟩
      · have t6 : decide (a < 0) = false := by simp; omega
        have t7 : decide (b < 0) = false := by simp; omega
        obtain ⟨A, hA⟩ := Int.eq_ofNat_of_zero_le (show 0 ≤ a by omega)
        have HO2 := hid (of33 1 w3 (by omega) (by omega))
        have HA := hid hA; have Hb0 := hid (show 0 ≤ b by omega)
        clear hA hneg HAl HK HKW HN HNr HN2
        go_wp2_with fail
        refine HO2.out.mono ?_
        rintro e w4 ⟨v, rfl, hv, hk⟩
        obtain ⟨av, cv, rfl, hv1, hv2⟩ := hv
        obtain ⟨n1, hn1⟩ : ∃ n1, n1 = decide ((1 : Int) < 0) := ⟨_, rfl⟩
        obtain ⟨l1, hl1⟩ : ∃ l1, l1 = (digs (1 : Int).natAbs).length := ⟨_, rfl⟩
        rw [← hn1, ← hl1]
        have HV := hid hv1; have HV2 := hid hv2; have HK4 := hid hk; have Hn1 := hid hn1; have Hl1 := hid hl1
        clear hv1 hv2 hk hn1 hl1 HO2
        go_upto_region 14 with fail
        obtain ⟨q, hq⟩ : ∃ q, q = w4.heap.size := ⟨_, rfl⟩
        obtain ⟨W5, hW5⟩ : ∃ W, W = w4.alloc (.cells #[.bool n1, .slice av l1 cv] 24) := ⟨_, rfl⟩
        have hk5 : Keeps (fun _ => False) w4 W5 := by rw [hW5]; exact (Keeps.refl _ w4).alloc _
        have hN5 : NumC W5 w.heap.size q 1 := by
          refine ⟨av, cv, ?_, ?_⟩
          · rw [← Hn1.out, ← Hl1.out, hW5, hq]; exact RowAt.new w4 24 _
          · exact ⟨av, cv, rfl, HV.out.keep hk5 (fun _ _ h => h), fun k hk => Nat.le_trans HK3.out.size (HV2.out k hk)⟩
        have hK5 : Keeps (fun _ => False) w W5 := (HK3.out.trans HK4.out).trans hk5
        have hqw : w.heap.size ≤ q := by rw [hq]; exact (HK3.out.trans HK4.out).size
        rw [← hq, ← hW5]
        have HN5 := hid hN5; have HK5 := hid hK5; have Hqw := hid hqw
        clear hq hW5 hk5 hN5 hK5 hqw HV HV2 Hn1 Hl1
        go_wp2_with fail
        go_loopw [11] (fun iv wr => ∃ i : Nat, (i : Int) ≤ b ∧ iv = .int .i64 (i : Int) ∧ NumC wr w.heap.size q ((ch A i : Nat) : Int) ∧ Keeps (fun _ => False) w wr) (fun iv _ => (b - intOf iv).toNat)
        case atStart => exact ⟨0, by have := Hb0.out; omega, by simp, by rw [ch_zero]; exact HN5.out, HK5.out⟩
        case round =>
          obtain ⟨i, hi, rfl, hnum, hkr⟩ := hrel
          have HNr := hid hnum; have HKr := hid hkr
          clear hnum hkr
          have hbd := Hr.out
          have hAb : A ≤ 60 := by have := HA.out; omega
          by_cases hlt : (i : Int) < b
          · have t8 : decide ((i : Int) < b) = true := by simpa using hlt
            obtain ⟨ac, cc, hrow, hnv⟩ := HNr.out
            obtain ⟨c0, c1, f0, f1⟩ := NumC.facts (base := 0) (z := 0) hrow
            have HOf := hid (of33 (a - (i : Int)) wr.drew (by omega) (by omega))
            have HOf2 := hid (fun W => of33 ((i : Int) + 1) W (by omega) (by omega))
            have gs : wrap64 (a - (i : Int)) = a - i := by unfold wrap64; omega
            have gw : wrap64 ((i : Int) + 1) = (i : Int) + 1 := by unfold wrap64; omega
            have gs' : IntKind.i64.wrap (a - (i : Int)) = a - i := by rw [IntKind.wrap_i64]; omega
            have gw' : IntKind.i64.wrap ((i : Int) + 1) = (i : Int) + 1 := by rw [IntKind.wrap_i64]; omega
            have hd1 : (digs (((ch A i : Nat) : Int)).natAbs).length ≤ 40000 := by rw [Int.natAbs_natCast]; exact Nat.le_trans (ch_digs hAb) (by omega)
            have hd2 : (digs (a - (i : Int)).natAbs).length ≤ 40000 := Nat.le_trans (digs_len (k := 3) (by omega)) (by omega)
            have hd3 : (digs ((i : Int) + 1).natAbs).length ≤ 40000 := Nat.le_trans (digs_len (k := 3) (by omega)) (by omega)
            have hd4 : (digs (((ch A i : Nat) : Int) * (a - (i : Int))).natAbs).length ≤ 40000 := by rw [HA.out]; exact ch_prodZ hAb (by omega)
            have HMl : Hid (∀ (w2 : World) (v : Value) (b' : Nat), NumV w2 b' v (a - (i : Int)) → Keeps (fun _ => False) wr.drew w2 → Calls Tryz.prog 27 #[.agg #[.bool (decide (((ch A i : Nat) : Int) < 0)), .slice ac (digs (((ch A i : Nat) : Int)).natAbs).length cc], v] w2 (NRes w2 (((ch A i : Nat) : Int) * (a - (i : Int))))) :=
              hid (fun w2 v b' h1 h2 => mul27 _ v _ _ w.heap.size b' w2 (hnv.keep ((Keeps.refl (fun _ => False) wr).drew.trans h2) (fun _ _ h => h)) h1 hd1 hd2)
            have HQ : Hid (∀ (w2 : World) (vx vy : Value) (bx b' : Nat), NumV w2 bx vx (((ch A i : Nat) : Int) * (a - (i : Int))) → NumV w2 b' vy ((i : Int) + 1) → Calls Tryz.prog 40 #[vx, vy] w2 fun e w' => ∃ v1 v2, e = .returned (.tuple #[v1, v2]) ∧ NumV w' w2.heap.size v1 ((ch A (i + 1) : Nat) : Int) ∧ Keeps (fun _ => False) w2 w') :=
              hid (fun w2 vx vy bx b' h1 h2 => (quoRem40 vx vy _ _ bx b' w2 h1 h2 (by omega) hd4 hd3).mono (fun e w' ⟨v1, v2, e1, e2, _, e3⟩ => ⟨v1, v2, e1, by rw [← ch_stepZ, ← HA.out]; exact e2, e3⟩))
            obtain ⟨ng, hng⟩ : ∃ ng, ng = decide (((ch A i : Nat) : Int) < 0) := ⟨_, rfl⟩
            obtain ⟨ln, hln⟩ : ∃ ln, ln = (digs (((ch A i : Nat) : Int)).natAbs).length := ⟨_, rfl⟩
            rw [← hng, ← hln] at HMl hrow
            rw [← hng] at c0
            rw [← hln] at c1
            have Hrow := hid hrow
            obtain ⟨z1, hz1⟩ : ∃ z1, z1 = ((ch A i : Nat) : Int) * (a - (i : Int)) := ⟨_, rfl⟩
            rw [← hz1] at HMl HQ
            clear hnv hng hln hrow hbd hd1 hd2 hd3 hd4 hz1
            go_wp2_with fail
            go_region_law (first
              | (go_simp; go_at_call 33; (with_reducible refine HOf.out.mono ?_); rintro e w5 ⟨v, rfl, hv, hk⟩; obtain ⟨d0, d1, e0, e1⟩ := NumC.facts (base := 0) (z := 0) (hk.row (show RowAt wr.drew q 24 _ from Hrow.out) (fun h => h)); have HV2 := hid hv; have HK2' := hid hk; clear hv hk)
              | (go_simp; go_at_call 27; (with_reducible refine (HMl.out _ _ _ HV2.out HK2'.out).mono ?_); rintro e w6 ⟨v3, rfl, hv3, hk3⟩; have HV3 := hid hv3; have HK3' := hid (HK2'.out.trans hk3); clear hv3 hk3)
              | (go_simp; go_at_call 33; (with_reducible refine (HOf2.out w6).mono ?_); rintro e w7 ⟨v, rfl, hv, hk⟩; have HV4 := hid hv; have HV3' := hid (HV3.out.keep hk (fun _ _ h => h)); have HK4' := hid (HK3'.out.trans hk); clear hv hk)
              | (go_simp; go_at_call 40; (with_reducible refine (HQ.out _ _ _ _ _ HV3'.out HV4.out).mono ?_); rintro e w8 ⟨v1, v2, rfl, hv1, hk8⟩; obtain ⟨a3, c3, rfl, g1, g2⟩ := hv1; have hrow8 := hk8.row (HK4'.out.row (show RowAt wr.drew q 24 _ from Hrow.out) (fun h => h)) (fun h => h); obtain ⟨i0, i1, i2, i3⟩ := NumC.facts (base := 0) (z := 0) hrow8; have Hrow8 := hid hrow8; have G1 := hid g1; have G2 := hid g2; have HK8 := hid (HK4'.out.trans hk8); have HS7 := hid HK4'.out.size; clear g1 g2 hk8 hrow8))
            all_goals
              go_wp2_with fail
              refine ⟨⟨i + 1, by omega, by simp, ?_, ?_⟩, by simp only [intOf]; omega⟩
              · have hpl : q < w7.heap.size := Nat.lt_of_lt_of_le Hrow.out.lt (show wr.drew.heap.size ≤ w7.heap.size from HS7.out)
                exact NumC.store Hrow8.out hpl (by have := Hqw.out; omega) G1.out G2.out
              · exact (((HKr.out.drew).trans HK8.out).setCell _ (.inr Hqw.out) _).setCell _ (.inr Hqw.out) _
          · have t8 : decide ((i : Int) < b) = false := by simpa using hlt
            have hib : (i : Int) = b := by omega
            -- what is left once the number of ways stands
            have Fin : Hid (∀ (w5 : World), NumC w5 w.heap.size q (binZ a b) → Keeps (fun _ => False) w w5 → ∃ n v, w5.cell? ⟨q, 0, none⟩ = some (.bool n) ∧ w5.cell? ⟨q, 1, none⟩ = some v ∧
                (Calls Tryz.prog 22 #[.agg #[.bool n, v]] w5 fun e w' => e = .returned (.string T2) ∧ Keeps (fun _ => False) w5 w')) := hid (by
              rintro w5 ⟨ac, cc, hrow, hnv⟩ hk
              obtain ⟨c0, c1, _, _⟩ := NumC.facts (base := 0) (z := 0) hrow
              refine ⟨_, _, c0, c1, ?_⟩
              rw [HT2.out]
              refine text22 _ (binZ a b) w.heap.size w5 hnv (Nat.le_trans (digs_len (k := 20) ?_) (by omega))
              have := binZ_small (n := a) (k := b) (by omega)
              unfold W64 at this; omega)
            by_cases hab : a < b
            · have t9 : decide (a < b) = true := by simpa using hab
              have hbz : binZ a b = 0 := by unfold binZ; rw [if_pos (.inl hab)]
              have HO3 := hid (of33 0 wr (by omega) (by omega))
              obtain ⟨ac, cc, hrow, hnv⟩ := HNr.out
              obtain ⟨c0, c1, f0, f1⟩ := NumC.facts (base := 0) (z := 0) hrow
              have Hrow := hid hrow; have Hbz := hid hbz
              clear hrow hnv hbz hab hlt hib hbd
              go_wp2_with fail
              refine HO3.out.mono ?_
              rintro e w5 ⟨v, rfl, hv, hk⟩
              obtain ⟨av, cv, rfl, g1, g2⟩ := hv
              obtain ⟨d0, d1, e0, e1⟩ := NumC.facts (base := 0) (z := 0) (hk.row Hrow.out (fun h => h))
              have hN6 := NumC.store (base := w.heap.size) (hk.row Hrow.out (fun h => h)) Hrow.out.lt (by have := Hqw.out; have := Hrow.out.lt; omega) g1 g2
              have hK6 : Keeps (fun _ => False) w ((w5.setCell ⟨q, 0, none⟩ (.bool (decide ((0 : Int) < 0)))).setCell ⟨q, 1, none⟩ (.slice av (digs (0 : Int).natAbs).length cv)) := ((HKr.out.trans hk).setCell _ (.inr Hqw.out) _).setCell _ (.inr Hqw.out) _
              obtain ⟨n0, hn0⟩ : ∃ n0, n0 = decide ((0 : Int) < 0) := ⟨_, rfl⟩
              obtain ⟨l0, hl0⟩ : ∃ l0, l0 = (digs (0 : Int).natAbs).length := ⟨_, rfl⟩
              rw [← hn0, ← hl0] at hN6 hK6 ⊢
              have HN6 : Hid (NumC ((w5.setCell ⟨q, 0, none⟩ (.bool n0)).setCell ⟨q, 1, none⟩ (.slice av l0 cv)) w.heap.size q (binZ a b)) := hid (by rw [Hbz.out]; exact hN6)
              have HK6 := hid hK6
              clear hk g1 g2 hN6 hK6 c0 c1 f0 f1 HO3 hn0 hl0
              go_upto_region 20 with fail
              generalize ((w5.setCell ⟨q, 0, none⟩ (.bool n0)).setCell ⟨q, 1, none⟩ (.slice av l0 cv)) = w6 at HN6 HK6 ⊢
              clear d0 d1 e0 e1
              have HAl := hid (bigAlive_true w6 (HG.out.keep HK6.out (fun _ _ h => h)))
              go_wp2_with fail
              refine HAl.out.mono ?_
              rintro e w7 ⟨rfl, hk⟩
              obtain ⟨n2, v2, k0, k1, k2⟩ := Fin.out w7 (HN6.out.keep hk) (HK6.out.trans hk)
              have HF := hid k2; have HK7 := hid (HK6.out.trans hk)
              clear k2 hk HAl
              go_wp2_with fail
              refine HF.out.mono ?_
              rintro e w8 ⟨rfl, hk⟩
              have HK8 := hid (HK7.out.trans hk)
              clear hk HF
              go_wp2_with fail
              go_ret
              exact ⟨rfl, HK8.out⟩
            · have t9 : decide (a < b) = false := by simpa using hab
              have hbz : binZ a b = ((ch A i : Nat) : Int) := by
                unfold binZ
                have := Hb0.out
                rw [if_neg (by omega), HA.out, ← hib]; rfl
              rw [← hbz] at HNr
              clear hbz hab hlt hib hbd
              have HAl := hid (bigAlive_true wr (HG.out.keep HKr.out (fun _ _ h => h)))
              go_wp2_with fail
              refine HAl.out.mono ?_
              rintro e w7 ⟨rfl, hk⟩
              obtain ⟨n2, v2, k0, k1, k2⟩ := Fin.out w7 (HNr.out.keep hk) (HKr.out.trans hk)
              have HF := hid k2; have HK7 := hid (HKr.out.trans hk)
              clear k2 hk HAl
              go_wp2_with fail
              refine HF.out.mono ?_
              rintro e w8 ⟨rfl, hk⟩
              have HK8 := hid (HK7.out.trans hk)
              clear hk HF
              go_wp2_with fail
              go_ret
              exact ⟨rfl, HK8.out⟩
end Go.Proofs
