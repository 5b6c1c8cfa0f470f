/- Parts of the proofs over the numbers of any length: Of, Of2, NumText. -/
import Derived.Test.YtacbllkmcldniaaGreatDoorSpecA
set_option linter.unusedSimpArgs false
set_option linter.unusedVariables false
namespace Go.Proofs
open Go.RowKit
set_option maxHeartbeats 400000
set_option linter.unusedVariables false
set_option linter.unusedSimpArgs false
set_option maxRecDepth 100000

/-- The loop of OfUint: L are the digits so far, m is what is left. -/
def OuRel (w0 : World) (n : Nat) (w : World) (nv v : Value) (L : List Nat) (m : Nat) : Prop :=
  nv = .int .u64 (m : Int) ∧ L ++ digs m = digs n ∧ m ≤ n ∧ w.ownsRow w0.heap.size 5 1 v L.length (L.map bv) ∧ Keeps (fun _ => False) w0 w

theorem ofUint38 (n : Nat) (w : World) (hn : n < W64) :
    Calls Tryz.prog 38 #[.int .u64 (n : Int)] w fun e w' => ∃ v, e = .returned v ∧ NumV w' w.heap.size v (n : Int) ∧ Keeps (fun _ => False) w w' := by
  obtain ⟨i5, hi5, hz0, hz1, hz2⟩ := info_parts info5
  obtain ⟨w0, hw0⟩ : ∃ w0, w0 = w.alloc (.cells #[.bool false, .slice none 0 0] 24) := ⟨_, rfl⟩
  have hk0 : Keeps (fun _ => False) w w0 := by rw [hw0]; exact (Keeps.refl _ w).alloc _
  have hr0 : RowAt w0 w.heap.size 24 [.bool false, .slice none 0 0] := by rw [hw0]; exact RowAt.new w 24 [.bool false, .slice none 0 0]
  obtain ⟨p, hp⟩ : ∃ p, p = w.heap.size := ⟨_, rfl⟩
  rw [← hp] at hr0
  have HK0 := hid hk0; have HR0 := hid hr0; have HP := hid hp
  have hl20 : (digs n).length ≤ 20 := digs_len (by unfold W64 at hn; omega)
  have HL := hid hl20
  have hn' : n < 18446744073709551616 := hn
  clear hk0 hr0 hl20 hn
  go_enter Tryz.func38, Tryz.ntmps38
  go_wp2_with fail
  rw [← hw0, ← hp]
  clear hw0 hp
  go_loopw [0, 3] (fun nv v wr => ∃ L m, OuRel w0 n wr nv v L m) (fun nv _ _ => (intOf nv).toNat)
  case atStart => exact ⟨[], n, rfl, rfl, Nat.le_refl _, ⟨rfl, .inl ⟨rfl, rfl⟩⟩, Keeps.refl _ _⟩
  case round =>
    obtain ⟨L, m, rfl, hdig, hmn, hown, hkeep⟩ := hrel
    have HD := hid hdig; have HOWN := hid hown; have HKEEP := hid hkeep
    have hlen : L.length ≤ 20 := by
      have h1 := HL.out
      rw [← hdig, List.length_append] at h1
      omega
    clear hdig hown hkeep
    obtain ⟨z0, z1, z2, z3⟩ := RowAt.facts2 (HKEEP.out.row HR0.out (fun h => h))
    by_cases h0 : m = 0
    · subst h0
      obtain ⟨a, c, rfl, hrd, hge⟩ := RdV.of_own HOWN.out
      have hL : L = digs n := by have := HD.out; rwa [digs_zero, List.append_nil] at this
      have HRD := hid hrd; have HGE := hid hge; have HLn := hid hL
      obtain ⟨l, hl⟩ : ∃ l, l = L.length := ⟨_, rfl⟩
      rw [← hl]
      have HLL := hid hl
      clear hrd hge hL hl hlen
      go_wp2_with fail
      have h2 := ((HKEEP.out.row HR0.out (fun h => h)).set 0 (.bool false)).set 1 (.slice a l c)
      have g0 : ((wr.setCell ⟨p, 0, none⟩ (.bool false)).setCell ⟨p, 1, none⟩ (.slice a l c)).cell? ⟨p, 0, none⟩ = some (.bool false) := RowAt.cell h2 0
      have g1 : ((wr.setCell ⟨p, 0, none⟩ (.bool false)).setCell ⟨p, 1, none⟩ (.slice a l c)).cell? ⟨p, 1, none⟩ = some (.slice a l c) := RowAt.cell h2 1
      have hkf : Keeps (fun _ => False) w ((wr.setCell ⟨p, 0, none⟩ (.bool false)).setCell ⟨p, 1, none⟩ (.slice a l c)) := ((HK0.out.trans HKEEP.out).setCell _ (.inr (by show w.heap.size ≤ p; rw [HP.out]; omega)) _).setCell _ (.inr (by show w.heap.size ≤ p; rw [HP.out]; omega)) _
      have hk1 : Keeps (· = p) wr ((wr.setCell ⟨p, 0, none⟩ (.bool false)).setCell ⟨p, 1, none⟩ (.slice a l c)) := ((Keeps.refl _ wr).own 0 _).own 1 _
      have hpl := HR0.out.lt
      have hrv := HRD.out.keep hk1 (fun k hk hkp => by
        subst hkp
        have := HGE.out k hk
        omega)
      generalize ((wr.setCell ⟨p, 0, none⟩ (.bool false)).setCell ⟨p, 1, none⟩ (.slice a l c)) = wf at *
      refine bodyPost_ret (v := .agg #[.bool false, .slice a l c]) ?_ rfl ⟨_, rfl, ⟨a, c, ?_, ?_, ?_⟩, hkf⟩
      · simp [results, Tryz.results38, go_sem, g0, g1]
      · rw [HLL.out, HLn.out]
        have : decide ((n : Int) < 0) = false := decide_eq_false (by omega)
        rw [this]; rfl
      · rw [show ((n : Int)).natAbs = n by omega, ← HLn.out]; exact hrv
      · intro k hk
        have h3 := HGE.out k hk
        have h4 := HK0.out.size
        omega
    · have hm1 : (0 : Int) < (m : Int) := by omega
      go_wp2_with (at_builtin; refine wpList_append_own _ rfl (.tmp 8) (.tmp 12) 22 rfl w0.heap.size 5 i5 (.int .u8 0) 1 1 Tryz.underlying22 hi5 hz0 hz1 hz2 rfl (by decide) _ _ _ rfl (HOWN.out.alloc _) ⟨wr.heap.size, 0, none⟩ 1 1 [.int .u8 ((m : Int) % 10)] rfl rfl (cell_one_new _ _ _) (by intro u hu; simp at hu; subst hu; rfl) (by unfold maxLen; omega) (by omega) (by have := HKEEP.out.size; simp; omega) ?_; intro v1 w1 hown1 hgrow1 hnil1)
      refine ⟨⟨L ++ [m % 10], m / 10, ?_, ?_, ?_, ?_, own_keeps rfl (HKEEP.out.alloc _) (HOWN.out.alloc _) hgrow1⟩, ?_⟩
      · rw [show (m : Int) / 10 = ((m / 10 : Nat) : Int) by omega]
      · rw [List.append_assoc]
        have := HD.out
        rw [digs_pos h0] at this
        exact this
      · omega
      · rw [List.map_append, List.length_append]
        exact hown1
      · simp [intOf]; omega
end Go.Proofs
namespace Go.Proofs
open Go.RowKit
set_option maxHeartbeats 400000
set_option linter.unusedVariables false
set_option linter.unusedSimpArgs false
set_option maxRecDepth 100000

/-- The result's cells are written: they hold the number. -/
theorem num_done {w wr : World} {p : Nat} {x y : Value} {ng : Bool} {a : Option Addr} {l c : Nat} {z : Int} (hr : RowAt wr p 24 [x, y]) (hp : w.heap.size ≤ p) (hk : Keeps (fun _ => False) w wr)
    (hv : RdV wr a c (digs z.natAbs)) (hge : ∀ k, InB a k → w.heap.size ≤ k ∧ k ≠ p) (hl : l = (digs z.natAbs).length) (hn : ng = decide (z < 0)) :
    RowAt ((wr.setCell ⟨p, 0, none⟩ (.bool ng)).setCell ⟨p, 1, none⟩ (.slice a l c)) p 24 [.bool ng, .slice a l c] ∧
    NumV ((wr.setCell ⟨p, 0, none⟩ (.bool ng)).setCell ⟨p, 1, none⟩ (.slice a l c)) w.heap.size (.agg #[.bool ng, .slice a l c]) z ∧
    Keeps (fun _ => False) w ((wr.setCell ⟨p, 0, none⟩ (.bool ng)).setCell ⟨p, 1, none⟩ (.slice a l c)) := by
  have h2 := (hr.set 0 (.bool ng)).set 1 (.slice a l c)
  have hk1 : Keeps (· = p) wr ((wr.setCell ⟨p, 0, none⟩ (.bool ng)).setCell ⟨p, 1, none⟩ (.slice a l c)) := ((Keeps.refl _ wr).own 0 _).own 1 _
  refine ⟨h2, ⟨a, c, by rw [hl, hn], hv.keep hk1 (fun k hk hkp => (hge k hk).2 hkp), fun k hk => (hge k hk).1⟩, (hk.setCell _ (.inr hp) _).setCell _ (.inr hp) _⟩

theorem of33 (z : Int) (w : World) (h1 : -9223372036854775808 ≤ z) (h2 : z < 9223372036854775808) :
    Calls Tryz.prog 33 #[.int .i64 z] w fun e w' => ∃ v, e = .returned v ∧ NumV w' w.heap.size v z ∧ Keeps (fun _ => False) w w' := by
  obtain ⟨w0, hw0⟩ : ∃ w0, w0 = w.alloc (.cells #[.bool false, .slice none 0 0] 24) := ⟨_, rfl⟩
  have hk0 : Keeps (fun _ => False) w w0 := by rw [hw0]; exact (Keeps.refl _ w).alloc _
  have hr0 : RowAt w0 w.heap.size 24 [.bool false, .slice none 0 0] := by rw [hw0]; exact RowAt.new w 24 [.bool false, .slice none 0 0]
  obtain ⟨p, hp⟩ : ∃ p, p = w.heap.size := ⟨_, rfl⟩
  rw [← hp] at hr0
  have HK0 := hid hk0; have HR0 := hid hr0; have HP := hid hp
  clear hk0 hr0
  by_cases hneg : z < 0
  · have HC := hid (ofUint38 z.natAbs w0 (by unfold W64; omega))
    rw [show ((z.natAbs : Nat) : Int) = -(z + 1) + 1 by omega] at HC
    go_enter Tryz.func33, Tryz.ntmps33
    go_wp2_with fail
    rw [← hw0, ← hp]
    clear hw0 hp
    refine HC.out.mono ?_
    rintro e w1 ⟨v, rfl, ⟨a, c, rfl, hr, hge⟩, hk⟩
    obtain ⟨l, hl⟩ : ∃ l, l = (digs (-(z + 1) + 1).natAbs).length := ⟨_, rfl⟩
    obtain ⟨ng, hng⟩ : ∃ n, n = decide (-(z + 1) + 1 < 0) := ⟨_, rfl⟩
    rw [← hl, ← hng]
    have hr1 := hk.row HR0.out (fun h => h)
    obtain ⟨z0, z1, z2, z3⟩ := RowAt.facts2 hr1
    have HR := hid hr; have HGE := hid hge; have HK := hid hk; have HL := hid hl; have HR1 := hid hr1
    have hlt2 : p < w1.heap.size := HR1.out.lt
    have hne2 : p ≠ w1.heap.size := by omega
    have hne3 : w1.heap.size ≠ p := by omega
    clear hr hge hk hl hng HC hr1
    go_wp2_with fail
    obtain ⟨hrow, hnv, hkf⟩ := num_done (w := w) (wr := w1) (ng := true) (l := l) (c := c) (z := z) HR1.out (by rw [HP.out]; omega) (HK0.out.trans HK.out)
      (by have h := HR.out; rwa [show (-(z + 1) + 1).natAbs = z.natAbs by omega] at h)
      (fun k hk => by have h3 := HGE.out k hk; have h4 := HK0.out.size; have h5 := HR0.out.lt; omega) (by rw [HL.out, show (-(z + 1) + 1).natAbs = z.natAbs by omega]) (decide_eq_true hneg).symm
    have hnv2 := hnv.keep ((Keeps.refl (fun _ => False) _).alloc (.cells #[.bool true, .slice a l c] 24)) (fun _ _ h => h)
    have hkf2 := hkf.alloc (.cells #[.bool true, .slice a l c] 24)
    obtain ⟨g0, g1, _, _⟩ := RowAt.facts2 (hrow.alloc (.cells #[.bool true, .slice a l c] 24))
    generalize (((w1.setCell ⟨p, 0, none⟩ (.bool true)).setCell ⟨p, 1, none⟩ (.slice a l c)).alloc (.cells #[.bool true, .slice a l c] 24)) = wf at *
    refine bodyPost_ret (v := .agg #[.bool true, .slice a l c]) ?_ rfl ⟨_, rfl, hnv2, hkf2⟩
    simp [results, Tryz.results33, go_sem, g0, g1]
  · have HC := hid (ofUint38 z.natAbs w0 (by unfold W64; omega))
    rw [show ((z.natAbs : Nat) : Int) = z by omega] at HC
    go_enter Tryz.func33, Tryz.ntmps33
    go_wp2_with fail
    rw [← hw0, ← hp]
    clear hw0 hp
    refine HC.out.mono ?_
    rintro e w1 ⟨v, rfl, ⟨a, c, rfl, hr, hge⟩, hk⟩
    obtain ⟨l, hl⟩ : ∃ l, l = (digs z.natAbs).length := ⟨_, rfl⟩
    obtain ⟨ng, hng⟩ : ∃ n, n = decide (z < 0) := ⟨_, rfl⟩
    rw [← hl, ← hng]
    have hr1 := hk.row HR0.out (fun h => h)
    obtain ⟨z0, z1, z2, z3⟩ := RowAt.facts2 hr1
    have HR := hid hr; have HGE := hid hge; have HK := hid hk; have HL := hid hl; have HR1 := hid hr1; have HN := hid hng
    clear hr hge hk hl hng HC hr1
    go_wp2_with fail
    obtain ⟨hrow, hnv, hkf⟩ := num_done (w := w) (wr := w1) (ng := ng) (l := l) (c := c) (z := z) HR1.out (by rw [HP.out]; omega) (HK0.out.trans HK.out) HR.out
      (fun k hk => by have h3 := HGE.out k hk; have h4 := HK0.out.size; have h5 := HR0.out.lt; omega) HL.out HN.out
    obtain ⟨g0, g1, _, _⟩ := RowAt.facts2 hrow
    generalize ((w1.setCell ⟨p, 0, none⟩ (.bool ng)).setCell ⟨p, 1, none⟩ (.slice a l c)) = wf at *
    refine bodyPost_ret (v := .agg #[.bool ng, .slice a l c]) ?_ rfl ⟨_, rfl, hnv, hkf⟩
    simp [results, Tryz.results33, go_sem, g0, g1]
end Go.Proofs
namespace Go.Proofs
open Go.RowKit
set_option maxHeartbeats 400000
set_option linter.unusedVariables false
set_option linter.unusedSimpArgs false
set_option maxRecDepth 100000

theorem RdV.string {w : World} {a : Option Addr} {c : Nat} {L : List Nat} (h : RdV w a c L) (hL : L ≠ []) : (convert 22 9 (.slice a L.length c)).run Tryz.prog w = .ok (.string (strB L)) w := by
  obtain ⟨_, _, h3⟩ := h
  rcases h3 with h3 | ⟨b, rfl, h4⟩
  · exact absurd h3 hL
  · exact run_convert_bytes_arg (P := Tryz.prog) w 22 5 Tryz.underlying22 Tryz.underlying5 b 0 L.length c (L.map Int.ofNat) (by simp) (fun i hi => by
      rw [Nat.zero_add, h4 i hi]
      simp [List.getD_eq_getElem?_getD, List.getElem?_map, List.getElem?_eq_getElem hi]) 9 Tryz.underlying9

/-- The loop of Text: k digits are left. -/
def TxRel (w0 : World) (D pre : List Nat) (w : World) (v iv : Value) (k : Nat) : Prop :=
  k ≤ D.length ∧ iv = .int .i64 ((k : Int) - 1) ∧ w.ownsRow w0.heap.size 5 1 v (pre.length + (D.length - k)) ((pre ++ ((D.drop k).map (48 + ·)).reverse).map bv) ∧ Keeps (fun _ => False) w0 w

theorem zero_text : strB (txt false 0) = { data := #[48] } := by
  unfold txt
  rw [decs_zero]
  decide +kernel

theorem text22 (v : Value) (z : Int) (b : Nat) (w : World) (h : NumV w b v z) (hl : (digs z.natAbs).length ≤ 100000) :
    Calls Tryz.prog 22 #[v] w fun e w' => e = .returned (.string (strB (txt (decide (z < 0)) z.natAbs))) ∧ Keeps (fun _ => False) w w' := by
  obtain ⟨i5, hi5, hz0, hz1, hz2⟩ := info_parts info5
  obtain ⟨a, c, rfl, hv, _⟩ := h
  obtain ⟨ng, hng⟩ : ∃ n, n = decide (z < 0) := ⟨_, rfl⟩
  obtain ⟨D, hD⟩ : ∃ D, D = digs z.natAbs := ⟨_, rfl⟩
  rw [← hng]
  rw [← hD] at hv hl ⊢
  obtain ⟨l, hll⟩ : ∃ l, l = D.length := ⟨_, rfl⟩
  rw [← hll] at hl ⊢
  obtain ⟨w0, hw0⟩ : ∃ w0, w0 = w.alloc (.cells #[.bool ng, .slice a l c] 24) := ⟨_, rfl⟩
  have hk0 : Keeps (fun _ => False) w w0 := by rw [hw0]; exact (Keeps.refl _ w).alloc _
  have hr0 : RowAt w0 w.heap.size 24 [.bool ng, .slice a l c] := by rw [hw0]; exact RowAt.new w 24 [.bool ng, .slice a l c]
  have HK0 := hid hk0; have HR0 := hid hr0; have HV := hid (hv.keep hk0 (fun _ _ h => h)); have HD := hid hD; have HNG := hid hng; have HLL := hid hll
  obtain ⟨z0, z1, z2, z3⟩ := RowAt.facts2 hr0
  by_cases h0 : l = 0
  · have hz : z.natAbs = 0 := digs_eq_nil.1 (by rw [← hD]; exact List.eq_nil_of_length_eq_zero (by omega))
    have hS : strB (txt ng z.natAbs) = { data := #[48] } := by
      rw [hz, show ng = false by rw [hng]; exact decide_eq_false (by omega)]
      exact zero_text
    rw [hS]
    subst h0
    clear hk0 hr0 hv hng hD hll hS
    go_enter Tryz.func22, Tryz.ntmps22
    go_wp2_with fail
    rw [← hw0]
    go_wp2_with fail
    go_ret
    exact ⟨rfl, HK0.out⟩
  · have hz : z.natAbs ≠ 0 := fun hh => h0 (by rw [hll, hD, hh, digs_zero]; rfl)
    obtain ⟨S, hS⟩ : ∃ S, S = strB (txt ng z.natAbs) := ⟨_, rfl⟩
    rw [← hS]
    have HS : Hid (∀ pre, pre = (if ng then [45] else []) → S = strB (pre ++ (D.map (48 + ·)).reverse)) := hid (fun pre hpre => by
      rw [hS, hpre]; unfold txt; rw [decs_digs hz, hD])
    have HDg := hid (dig_digs z.natAbs)
    rw [← hD] at HDg
    have hcells : ∀ W, Keeps (fun _ => False) w0 W → ∀ j, j < D.length → ∃ b, a = some ⟨b, 0, none⟩ ∧ W.cell? ⟨b, j, none⟩ = some (.int .u8 ((D.getD j 0 : Nat) : Int)) := by
      intro W hk j hj
      rcases (HV.out.keep hk (fun _ _ h => h)).2.2 with h1 | ⟨b, rfl, h1⟩
      · rw [h1] at hj; simp at hj
      · exact ⟨b, rfl, h1 j hj⟩
    have HC := hid hcells
    have hl0 : ((l : Int) == 0) = false := by simp; omega
    clear hk0 hr0 hv hng hD hll hS hcells hz
    cases ng with
    | true =>
      go_enter Tryz.func22, Tryz.ntmps22
      go_wp2_with (at_builtin; refine wpList_append_own _ rfl (.tmp 11) (.tmp 12) 22 rfl (w.heap.size + 1) 5 i5 (.int .u8 0) 1 1 Tryz.underlying22 hi5 hz0 hz1 hz2 rfl (by decide) (.slice none 0 0) 0 [] rfl (show World.ownsRow _ (w.heap.size + 1) 5 1 (.slice none 0 0) 0 [] from ⟨rfl, .inl ⟨rfl, rfl⟩⟩) ⟨w.heap.size + 1, 0, none⟩ 1 1 [.int .u8 45] rfl rfl (by have h := cell_one_new (w.alloc (.cells #[.bool true, .slice a l c] 24)) (.int .u8 45) 5; simpa using h) (by intro u hu; simp at hu; subst hu; rfl) (by unfold maxLen; omega) (by omega) (by simp) ?_; intro v1 w1 hown1 hgrow1 hnil1; have HO1 := hid hown1; have HG1 := hid hgrow1; rw [← hw0] at HG1; have hk1 : Keeps (fun _ => False) w0 w1 := own_keeps (v := .slice none 0 0) (n := 0) (xs := []) (e := 5) (size := 1) rfl ((Keeps.refl _ w0).alloc _) ⟨rfl, .inl ⟨rfl, rfl⟩⟩ HG1.out; have HK1 := hid hk1; obtain ⟨q0, q1, q2, q3⟩ := RowAt.facts2 (hk1.row HR0.out (fun h => h)); clear hown1 hgrow1 hnil1 hk1)

      go_loopw [3, 4] (fun v iv wr => ∃ k, TxRel w0 D ([45] : List Nat) wr v iv k) (fun _ iv _ => (intOf iv + 1).toNat)
      case atStart =>
        refine ⟨l, by rw [HLL.out]; exact Nat.le_refl _, by rfl, ?_, HK1.out⟩
        have e1 : D.length - l = 0 := by rw [HLL.out]; omega
        rw [e1, HLL.out, List.drop_length]
        rw [show w0.heap.size = w.heap.size + 1 by rw [hw0]; simp]; simpa [bv] using HO1.out
      case round =>
        obtain ⟨k, hk, rfl, hown, hkeep⟩ := hrel
        have HOWN := hid hown; have HKEEP := hid hkeep
        clear hown hkeep
        obtain ⟨q0, q1, q2, q3⟩ := RowAt.facts2 (HKEEP.out.row HR0.out (fun h => h))
        by_cases hk0 : k = 0
        · subst hk0
          have hL : ([45] : List Nat) ++ ((D.drop 0).map (48 + ·)).reverse ≠ [] := by
            intro hh
            have h1 : (([45] : List Nat) ++ ((D.drop 0).map (48 + ·)).reverse).length ≥ D.length := by simp
            rw [hh, List.length_nil] at h1
            have := HLL.out
            omega
          obtain ⟨a', c', rfl, hrd, hge⟩ := RdV.of_own HOWN.out
          have hconv := hrd.string hL
          rw [List.drop_zero, ← HS.out ([45] : List Nat) rfl] at hconv
          obtain ⟨l', hl'⟩ : ∃ l', l' = (([45] : List Nat) ++ (D.map (48 + ·)).reverse).length := ⟨_, rfl⟩
          rw [List.drop_zero, ← hl'] at HOWN ⊢
          rw [← hl'] at hconv
          clear hrd hge hL hl'
          go_wp2_with fail
          go_ret
          exact ⟨rfl, HK0.out.trans HKEEP.out⟩
        · obtain ⟨j, rfl⟩ : ∃ j, k = j + 1 := ⟨k - 1, by omega⟩
          obtain ⟨bb, rfl, hc⟩ := HC.out wr HKEEP.out j (by omega)
          obtain ⟨x, hx⟩ : ∃ x, x = D.getD j 0 := ⟨_, rfl⟩
          rw [← hx] at hc
          have hx10 : x < 10 := by rw [hx]; exact HDg.out.getD j
          have HX := hid hx
          have hjl : j < l := by rw [HLL.out]; omega
          have hlm : D.length = l := HLL.out.symm
          have HLM := hid hlm
          have hdl : D.length - (j + 1) + 2 ≤ 100001 := by omega
          have HDL := hid hdl
          clear hx hk hlm hdl
          have hjm : ((j + 1 : Nat) : Int) - 1 = (j : Int) := by omega
          go_wp2_with (at_builtin; refine wpList_append_own _ rfl (.tmp 22) (.tmp 29) 22 rfl w0.heap.size 5 i5 (.int .u8 0) 1 1 Tryz.underlying22 hi5 hz0 hz1 hz2 rfl (by decide) _ _ _ rfl (HOWN.out.alloc _) ⟨wr.heap.size, 0, none⟩ 1 1 [.int .u8 (48 + (x : Int))] rfl rfl (cell_one_new _ _ _) (by intro u hu; simp at hu; subst hu; rfl) (by unfold maxLen; simp; have := HDL.out; omega) (by simp; have := HDL.out; omega) (by have := HKEEP.out.size; simp; omega) ?_; intro v1 w1 hown1 hgrow1 hnil1)
          refine ⟨⟨j, by have := HLM.out; omega, rfl, ?_, own_keeps rfl (HKEEP.out.alloc _) (HOWN.out.alloc _) hgrow1⟩, by simp [intOf]⟩
          have hjD : j < D.length := by have := HLM.out; omega
          have e1 : D.length - j = D.length - (j + 1) + 1 := by omega
          have e2 : (([45] : List Nat) ++ ((D.drop j).map (48 + ·)).reverse).map bv = (([45] : List Nat) ++ ((D.drop (j + 1)).map (48 + ·)).reverse).map bv ++ [.int .u8 (48 + (x : Int))] := by
            rw [List.drop_eq_getElem_cons hjD]
            have : D[j] = x := by rw [HX.out]; simp [List.getElem?_eq_getElem hjD]
            rw [this]
            simp [bv]
          rw [e2, e1]
          exact hown1
    | false =>
      go_enter Tryz.func22, Tryz.ntmps22
      go_wp2_with fail
      rw [← hw0]
      clear hw0
      go_loopw [3, 4] (fun v iv wr => ∃ k, TxRel w0 D ([] : List Nat) wr v iv k) (fun _ iv _ => (intOf iv + 1).toNat)
      case atStart =>
        refine ⟨l, by rw [HLL.out]; exact Nat.le_refl _, by rfl, ?_, Keeps.refl _ _⟩
        have e1 : D.length - l = 0 := by rw [HLL.out]; omega
        rw [e1, HLL.out, List.drop_length]
        simp; exact ⟨rfl, .inl ⟨rfl, rfl⟩⟩
      case round =>
        obtain ⟨k, hk, rfl, hown, hkeep⟩ := hrel
        have HOWN := hid hown; have HKEEP := hid hkeep
        clear hown hkeep
        obtain ⟨q0, q1, q2, q3⟩ := RowAt.facts2 (HKEEP.out.row HR0.out (fun h => h))
        by_cases hk0 : k = 0
        · subst hk0
          have hL : ([] : List Nat) ++ ((D.drop 0).map (48 + ·)).reverse ≠ [] := by
            intro hh
            have h1 : (([] : List Nat) ++ ((D.drop 0).map (48 + ·)).reverse).length ≥ D.length := by simp
            rw [hh, List.length_nil] at h1
            have := HLL.out
            omega
          obtain ⟨a', c', rfl, hrd, hge⟩ := RdV.of_own HOWN.out
          have hconv := hrd.string hL
          rw [List.drop_zero, ← HS.out ([] : List Nat) rfl] at hconv
          obtain ⟨l', hl'⟩ : ∃ l', l' = (([] : List Nat) ++ (D.map (48 + ·)).reverse).length := ⟨_, rfl⟩
          rw [List.drop_zero, ← hl'] at HOWN ⊢
          rw [← hl'] at hconv
          clear hrd hge hL hl'
          go_wp2_with fail
          go_ret
          exact ⟨rfl, HK0.out.trans HKEEP.out⟩
        · obtain ⟨j, rfl⟩ : ∃ j, k = j + 1 := ⟨k - 1, by omega⟩
          obtain ⟨bb, rfl, hc⟩ := HC.out wr HKEEP.out j (by omega)
          obtain ⟨x, hx⟩ : ∃ x, x = D.getD j 0 := ⟨_, rfl⟩
          rw [← hx] at hc
          have hx10 : x < 10 := by rw [hx]; exact HDg.out.getD j
          have HX := hid hx
          have hjl : j < l := by rw [HLL.out]; omega
          have hlm : D.length = l := HLL.out.symm
          have HLM := hid hlm
          have hdl : D.length - (j + 1) + 2 ≤ 100001 := by omega
          have HDL := hid hdl
          clear hx hk hlm hdl
          have hjm : ((j + 1 : Nat) : Int) - 1 = (j : Int) := by omega
          go_wp2_with (at_builtin; refine wpList_append_own _ rfl (.tmp 22) (.tmp 29) 22 rfl w0.heap.size 5 i5 (.int .u8 0) 1 1 Tryz.underlying22 hi5 hz0 hz1 hz2 rfl (by decide) _ _ _ rfl (HOWN.out.alloc _) ⟨wr.heap.size, 0, none⟩ 1 1 [.int .u8 (48 + (x : Int))] rfl rfl (cell_one_new _ _ _) (by intro u hu; simp at hu; subst hu; rfl) (by unfold maxLen; simp; have := HDL.out; omega) (by simp; have := HDL.out; omega) (by have := HKEEP.out.size; simp; omega) ?_; intro v1 w1 hown1 hgrow1 hnil1)
          refine ⟨⟨j, by have := HLM.out; omega, rfl, ?_, own_keeps rfl (HKEEP.out.alloc _) (HOWN.out.alloc _) hgrow1⟩, by simp [intOf]⟩
          have hjD : j < D.length := by have := HLM.out; omega
          have e1 : D.length - j = D.length - (j + 1) + 1 := by omega
          have e2 : (([] : List Nat) ++ ((D.drop j).map (48 + ·)).reverse).map bv = (([] : List Nat) ++ ((D.drop (j + 1)).map (48 + ·)).reverse).map bv ++ [.int .u8 (48 + (x : Int))] := by
            rw [List.drop_eq_getElem_cons hjD]
            have : D[j] = x := by rw [HX.out]; simp [List.getElem?_eq_getElem hjD]
            rw [this]
            simp [bv]
          rw [e2, e1]
          exact hown1
end Go.Proofs
