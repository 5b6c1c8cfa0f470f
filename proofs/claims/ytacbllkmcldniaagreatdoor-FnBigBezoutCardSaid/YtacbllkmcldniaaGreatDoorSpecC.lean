/- Parts of the proofs over the numbers of any length: Plus, Less, AddN, Num2. -/
import Derived.Test.YtacbllkmcldniaaGreatDoorSpecB
set_option linter.unusedSimpArgs false
set_option linter.unusedVariables false
namespace Go.Proofs
open Go.RowKit
set_option maxHeartbeats 800000
set_option linter.unusedVariables false
set_option linter.unusedSimpArgs false
set_option maxRecDepth 100000

/-- Digits of a call's own. -/
structure OwnD (w0 w : World) (v : Value) (O : List Nat) : Prop where
  own : w.ownsRow w0.heap.size 5 1 v O.length (O.map bv)
  keep : Keeps (fun _ => False) w0 w
theorem OwnD.start (w0 : World) : OwnD w0 w0 (.slice none 0 0) [] := ⟨⟨rfl, .inl ⟨rfl, rfl⟩⟩, Keeps.refl _ _⟩

/-- The loop of plus. -/
structure PlRel (w0 : World) (X Y : List Nat) (w : World) (v cv iv : Value) (O : List Nat) (c i : Nat) : Prop where
  cv : cv = .int .u8 (c : Int)
  iv : iv = .int .i64 (i : Int)
  c1 : c ≤ 1
  len : O.length = i
  dig : Dig O
  eq : ten O + 10 ^ i * c = ten (X.take i) + ten (Y.take i)
  own : OwnD w0 w v O
  bnd : i ≤ X.length ∨ i ≤ Y.length ∨ (c = 0 ∧ i ≤ max X.length Y.length + 1)

theorem PlRel.next {w0 : World} {X Y : List Nat} {w w1 : World} {v cv iv v1 : Value} {O : List Nat} {c i n : Nat} (h : PlRel w0 X Y w v cv iv O c i) (hX : Dig X) (hY : Dig Y) (hn : n = c + X.getD i 0 + Y.getD i 0)
    (hlt : i < X.length ∨ i < Y.length ∨ 0 < c) (hown : w1.ownsRow w0.heap.size 5 1 v1 (O.length + 1) (O.map bv ++ [.int .u8 ((n : Int) % 10)])) (hk : Keeps (fun _ => False) w0 w1) :
    PlRel w0 X Y w1 v1 (.int .u8 ((n : Int) / 10)) (.int .i64 ((i : Int) + 1)) (O ++ [n % 10]) (n / 10) (i + 1) := by
  have hx := hX.getD i
  have hy := hY.getD i
  have hc := h.c1
  refine ⟨by rw [show (n : Int) / 10 = ((n / 10 : Nat) : Int) by omega], by rw [show (i : Int) + 1 = ((i + 1 : Nat) : Int) by omega], by omega, by rw [List.length_append, h.len]; rfl, h.dig.snoc (Nat.mod_lt _ (by omega)), plus_step h.len h.eq hn, ⟨?_, hk⟩, ?_⟩
  · rw [List.length_append, List.map_append]
    simpa [bv] using hown
  · rcases hlt with h1 | h1 | h1
    · exact .inl h1
    · exact .inr (.inl h1)
    · rcases h.bnd with h2 | h2 | h2
      · by_cases h3 : i < X.length
        · exact .inl h3
        · by_cases h4 : i < Y.length
          · exact .inr (.inl h4)
          · right; right
            have e1 : X.getD i 0 = 0 := by rw [List.getD_eq_getElem?_getD, List.getElem?_eq_none (by omega)]; rfl
            have e2 : Y.getD i 0 = 0 := by rw [List.getD_eq_getElem?_getD, List.getElem?_eq_none (by omega)]; rfl
            omega
      · by_cases h3 : i < X.length
        · exact .inl h3
        · by_cases h4 : i < Y.length
          · exact .inr (.inl h4)
          · right; right
            have e1 : X.getD i 0 = 0 := by rw [List.getD_eq_getElem?_getD, List.getElem?_eq_none (by omega)]; rfl
            have e2 : Y.getD i 0 = 0 := by rw [List.getD_eq_getElem?_getD, List.getElem?_eq_none (by omega)]; rfl
            omega
      · omega

theorem RdV.at_ {w : World} {a : Option Addr} {c : Nat} {X : List Nat} (h : RdV w a c X) {i : Nat} (hi : i < X.length) : ∃ b, a = some ⟨b, 0, none⟩ ∧ w.cell? ⟨b, i, none⟩ = some (.int .u8 ((X.getD i 0 : Nat) : Int)) := by
  rcases h.2.2 with hh | ⟨b, rfl, hh⟩
  · rw [hh] at hi; simp at hi
  · exact ⟨b, rfl, hh i hi⟩

/-- The result are digits of the call's own, which are the number N. -/
def DRes (w : World) (N : Nat) (e : Ending) (w' : World) : Prop := ∃ v O, e = .returned v ∧ OwnD w w' v O ∧ Dig O ∧ ten O = N ∧ O.length ≤ 100001

theorem plus84 (a a' : Option Addr) (c c' : Nat) (X Y : List Nat) (w : World) (hx : RdV w a c X) (hy : RdV w a' c' Y) (dx : Dig X) (dy : Dig Y) (hlx : X.length ≤ 100000) (hly : Y.length ≤ 100000) :
    Calls Tryz.prog 84 #[.slice a X.length c, .slice a' Y.length c'] w (DRes w (ten X + ten Y)) := by
  obtain ⟨i5, hi5, hz0, hz1, hz2⟩ := info_parts info5
  have HX := hid hx; have HY := hid hy; have DX := hid dx; have DY := hid dy
  obtain ⟨m, hm⟩ : ∃ m, m = X.length := ⟨_, rfl⟩
  obtain ⟨n, hn⟩ : ∃ n, n = Y.length := ⟨_, rfl⟩
  rw [← hm] at hlx ⊢
  rw [← hn] at hly ⊢
  have HM := hid hm; have HN := hid hn
  clear hx hy dx dy hm hn
  go_enter Tryz.func84, Tryz.ntmps84
  go_wp2_with fail
  go_loopw [5, 6, 7] (fun v cv iv wr => ∃ O c i, PlRel w X Y wr v cv iv O c i) (fun _ _ iv _ => max m n + 1 - (intOf iv).toNat)
  case atStart => exact ⟨[], 0, 0, rfl, rfl, by omega, rfl, Dig.nil, by simp, OwnD.start w, .inl (Nat.zero_le _)⟩
  case round =>
    obtain ⟨O, c, i, hrel⟩ := hrel
    have HR := hid hrel
    obtain ⟨rfl, rfl, hc, hlen, _, _, _, hbnd⟩ := hrel
    rw [← HM.out, ← HN.out] at hbnd
    have hb2 : i ≤ 100001 := by omega
    have HL := hid hlen; have HB := hid hbnd
    clear hlen hbnd
    have HO := hid HR.out.own.own; have HK := hid HR.out.own.keep
    by_cases h1 : i < m
    · obtain ⟨b1, rfl, hc1⟩ := (HX.out.keep HK.out (fun _ _ h => h)).at_ (i := i) (by rw [← HM.out]; exact h1)
      obtain ⟨x, hx⟩ : ∃ x, x = X.getD i 0 := ⟨_, rfl⟩
      rw [← hx] at hc1
      have hx10 : x < 10 := by rw [hx]; exact DX.out.getD i
      have HXX := hid hx
      clear hx
      by_cases h2 : i < n
      · obtain ⟨b2, rfl, hc2⟩ := (HY.out.keep HK.out (fun _ _ h => h)).at_ (i := i) (by rw [← HN.out]; exact h2)
        obtain ⟨y, hy⟩ : ∃ y, y = Y.getD i 0 := ⟨_, rfl⟩
        rw [← hy] at hc2
        have hy10 : y < 10 := by rw [hy]; exact DY.out.getD i
        have HYY := hid hy
        clear hy
        go_wp2_with (at_builtin; refine wpList_append_own _ rfl (.tmp 46) (.tmp 49) 22 rfl w.heap.size 5 i5 (.int .u8 0) 1 1 Tryz.underlying22 hi5 hz0 hz1 hz2 rfl (by decide) _ _ _ rfl (HO.out.alloc _) ⟨wr.heap.size, 0, none⟩ 1 1 [.int .u8 (((c : Int) + x + y) % 10)] rfl rfl (cell_one_new _ _ _) (by intro u hu; simp at hu; subst hu; rfl) (by unfold maxLen; rw [HL.out]; omega) (by rw [HL.out]; omega) (by have := HK.out.size; simp; omega) ?_; intro v1 w1 hown1 hgrow1 hnil1)
        refine ⟨⟨O ++ [(c + x + y) % 10], (c + x + y) / 10, i + 1, ?_⟩, by have := HB.out; simp [intOf]; omega⟩
        have hkk := own_keeps rfl (HK.out.alloc _) (HO.out.alloc _) hgrow1
        have hnx := HR.out.next (w1 := w1) (v1 := v1) (n := c + x + y) DX.out DY.out (by rw [← HXX.out, ← HYY.out]) (.inl (by rw [← HM.out]; exact h1)) (by push_cast; exact hown1) hkk
        push_cast at hnx ⊢
        exact hnx
      · have H2 := hid h2
        go_wp2_with (at_builtin; refine wpList_append_own _ rfl (.tmp 46) (.tmp 49) 22 rfl w.heap.size 5 i5 (.int .u8 0) 1 1 Tryz.underlying22 hi5 hz0 hz1 hz2 rfl (by decide) _ _ _ rfl (HO.out.alloc _) ⟨wr.heap.size, 0, none⟩ 1 1 [.int .u8 (((c : Int) + x) % 10)] rfl rfl (cell_one_new _ _ _) (by intro u hu; simp at hu; subst hu; rfl) (by unfold maxLen; rw [HL.out]; omega) (by rw [HL.out]; omega) (by have := HK.out.size; simp; omega) ?_; intro v1 w1 hown1 hgrow1 hnil1)
        refine ⟨⟨O ++ [(c + x) % 10], (c + x) / 10, i + 1, ?_⟩, by have := HB.out; simp [intOf]; omega⟩
        have hkk := own_keeps rfl (HK.out.alloc _) (HO.out.alloc _) hgrow1
        have hnx := HR.out.next (w1 := w1) (v1 := v1) (n := c + x) DX.out DY.out (by rw [← HXX.out, (show Y.getD i 0 = 0 by rw [List.getD_eq_getElem?_getD, List.getElem?_eq_none (by rw [← HN.out]; have := H2.out; omega)]; rfl)]; omega) (.inl (by rw [← HM.out]; exact h1)) (by push_cast; exact hown1) hkk
        push_cast at hnx ⊢
        exact hnx
    · have H1 := hid h1
      by_cases h2 : i < n
      · obtain ⟨b2, rfl, hc2⟩ := (HY.out.keep HK.out (fun _ _ h => h)).at_ (i := i) (by rw [← HN.out]; exact h2)
        obtain ⟨y, hy⟩ : ∃ y, y = Y.getD i 0 := ⟨_, rfl⟩
        rw [← hy] at hc2
        have hy10 : y < 10 := by rw [hy]; exact DY.out.getD i
        have HYY := hid hy
        clear hy
        go_wp2_with (at_builtin; refine wpList_append_own _ rfl (.tmp 46) (.tmp 49) 22 rfl w.heap.size 5 i5 (.int .u8 0) 1 1 Tryz.underlying22 hi5 hz0 hz1 hz2 rfl (by decide) _ _ _ rfl (HO.out.alloc _) ⟨wr.heap.size, 0, none⟩ 1 1 [.int .u8 (((c : Int) + y) % 10)] rfl rfl (cell_one_new _ _ _) (by intro u hu; simp at hu; subst hu; rfl) (by unfold maxLen; rw [HL.out]; omega) (by rw [HL.out]; omega) (by have := HK.out.size; simp; omega) ?_; intro v1 w1 hown1 hgrow1 hnil1)
        refine ⟨⟨O ++ [(c + y) % 10], (c + y) / 10, i + 1, ?_⟩, by have := HB.out; simp [intOf]; omega⟩
        have hkk := own_keeps rfl (HK.out.alloc _) (HO.out.alloc _) hgrow1
        have hnx := HR.out.next (w1 := w1) (v1 := v1) (n := c + y) DX.out DY.out (by rw [← HYY.out, (show X.getD i 0 = 0 by rw [List.getD_eq_getElem?_getD, List.getElem?_eq_none (by rw [← HM.out]; have := H1.out; omega)]; rfl)]; omega) (.inr (.inl (by rw [← HN.out]; exact h2))) (by push_cast; exact hown1) hkk
        push_cast at hnx ⊢
        exact hnx
      · have H2 := hid h2
        by_cases h3 : 0 < c
        · have H3 := hid h3
          go_wp2_with (at_builtin; refine wpList_append_own _ rfl (.tmp 46) (.tmp 49) 22 rfl w.heap.size 5 i5 (.int .u8 0) 1 1 Tryz.underlying22 hi5 hz0 hz1 hz2 rfl (by decide) _ _ _ rfl (HO.out.alloc _) ⟨wr.heap.size, 0, none⟩ 1 1 [.int .u8 (((c : Int)) % 10)] rfl rfl (cell_one_new _ _ _) (by intro u hu; simp at hu; subst hu; rfl) (by unfold maxLen; rw [HL.out]; omega) (by rw [HL.out]; omega) (by have := HK.out.size; simp; omega) ?_; intro v1 w1 hown1 hgrow1 hnil1)
          refine ⟨⟨O ++ [(c) % 10], (c) / 10, i + 1, ?_⟩, by have := HB.out; simp [intOf]; omega⟩
          have hkk := own_keeps rfl (HK.out.alloc _) (HO.out.alloc _) hgrow1
          have hnx := HR.out.next (w1 := w1) (v1 := v1) (n := c) DX.out DY.out (by rw [(show X.getD i 0 = 0 by rw [List.getD_eq_getElem?_getD, List.getElem?_eq_none (by rw [← HM.out]; have := H1.out; omega)]; rfl), (show Y.getD i 0 = 0 by rw [List.getD_eq_getElem?_getD, List.getElem?_eq_none (by rw [← HN.out]; have := H2.out; omega)]; rfl)]; omega) (.inr (.inr H3.out)) (by push_cast; exact hown1) hkk
          push_cast at hnx ⊢
          exact hnx
        · have h0 : c = 0 := by omega
          subst h0
          go_wp2_with fail
          go_ret
          refine ⟨_, O, rfl, HR.out.own, HR.out.dig, ?_, by rw [HL.out]; exact hb2⟩
          have := HR.out.eq
          rw [ten_take_all (by rw [← HM.out]; have := H1.out; omega), ten_take_all (by rw [← HN.out]; have := H2.out; omega)] at this
          simpa using this
end Go.Proofs
namespace Go.Proofs
open Go.RowKit
set_option maxHeartbeats 800000
set_option linter.unusedVariables false
set_option linter.unusedSimpArgs false
set_option maxRecDepth 100000

/-- The loop of less. -/
structure LeRel (w0 : World) (X Y : List Nat) (w : World) (v cv iv : Value) (O : List Nat) (c i : Nat) : Prop where
  cv : cv = .int .u8 (c : Int)
  iv : iv = .int .i64 (i : Int)
  c1 : c ≤ 1
  len : O.length = i
  dig : Dig O
  eq : ten O + ten (Y.take i) = ten (X.take i) + 10 ^ i * c
  own : OwnD w0 w v O
  bnd : i ≤ X.length

theorem LeRel.next {w0 : World} {X Y : List Nat} {w w1 : World} {v cv iv v1 : Value} {O : List Nat} {c i n : Nat} (h : LeRel w0 X Y w v cv iv O c i) (hX : Dig X) (hY : Dig Y) (hn : n + c + Y.getD i 0 = 10 + X.getD i 0)
    (hlt : i < X.length) (hown : w1.ownsRow w0.heap.size 5 1 v1 (O.length + 1) (O.map bv ++ [.int .u8 ((n : Int) % 10)])) (hk : Keeps (fun _ => False) w0 w1) :
    LeRel w0 X Y w1 v1 (.int .u8 (1 - (n : Int) / 10)) (.int .i64 ((i : Int) + 1)) (O ++ [n % 10]) (1 - n / 10) (i + 1) := by
  have hx := hX.getD i
  have hy := hY.getD i
  obtain ⟨h1, h2⟩ := less_step h.len h.eq hx hy h.c1 hn
  refine ⟨by rw [show (1 : Int) - (n : Int) / 10 = ((1 - n / 10 : Nat) : Int) by omega], by rw [show (i : Int) + 1 = ((i + 1 : Nat) : Int) by omega], by omega, by rw [List.length_append, h.len]; rfl, h.dig.snoc (Nat.mod_lt _ (by omega)), h1, ⟨?_, hk⟩, hlt⟩
  rw [List.length_append, List.map_append]
  simpa [bv] using hown

/-- The result are the digits of the number N, of the call's own. -/
def TRes (w : World) (N : Nat) (e : Ending) (w' : World) : Prop :=
  ∃ a c, e = .returned (.slice a (digs N).length c) ∧ RdV w' a c (digs N) ∧ (∀ k, InB a k → w.heap.size ≤ k) ∧ Keeps (fun _ => False) w w' ∧ (a = none → c = 0)

theorem RdV.of_own2 {w : World} {base : Nat} {v : Value} {n : Nat} {L : List Nat} (h : w.ownsRow base 5 1 v n (L.map bv)) : ∃ a c, v = .slice a L.length c ∧ RdV w a c L ∧ (∀ k, InB a k → base ≤ k) ∧ (a = none → c = 0) := by
  obtain ⟨a, c, h1, h2, h3⟩ := RdV.of_own h
  refine ⟨a, c, h1, h2, h3, fun ha => ?_⟩
  subst ha
  subst h1
  rcases h.2 with ⟨h4, _⟩ | ⟨g, cap, cur, h4, _⟩
  · injection h4
  · injection h4 with h4; cases h4

theorem less86 (a a' : Option Addr) (c c' : Nat) (p q : Nat) (w : World) (hx : RdV w a c (digs p)) (hy : RdV w a' c' (digs q)) (hqp : q ≤ p) (hlx : (digs p).length ≤ 100000) :
    Calls Tryz.prog 86 #[.slice a (digs p).length c, .slice a' (digs q).length c'] w (TRes w (p - q)) := by
  obtain ⟨i5, hi5, hz0, hz1, hz2⟩ := info_parts info5
  have HX := hid hx; have HY := hid hy
  have DX := hid (dig_digs p); have DY := hid (dig_digs q)
  have hnm : (digs q).length ≤ (digs p).length := digs_mono hqp
  obtain ⟨m, hm⟩ : ∃ m, m = (digs p).length := ⟨_, rfl⟩
  obtain ⟨n, hn⟩ : ∃ n, n = (digs q).length := ⟨_, rfl⟩
  obtain ⟨X, hXe⟩ : ∃ X, X = digs p := ⟨_, rfl⟩
  obtain ⟨Y, hYe⟩ : ∃ Y, Y = digs q := ⟨_, rfl⟩
  rw [← hm] at hlx hnm ⊢
  rw [← hn] at hnm ⊢
  rw [← hXe] at HX DX hm
  rw [← hYe] at HY DY hn
  have HM := hid hm; have HN := hid hn; have HXE := hid hXe; have HYE := hid hYe
  clear hx hy hm hn hXe hYe
  go_enter Tryz.func86, Tryz.ntmps86
  go_wp2_with fail
  go_loopw [5, 6, 7] (fun v cv iv wr => ∃ O c i, LeRel w X Y wr v cv iv O c i) (fun _ _ iv _ => m - (intOf iv).toNat)
  case atStart => exact ⟨[], 0, 0, rfl, rfl, by omega, rfl, Dig.nil, by simp, OwnD.start w, Nat.zero_le _⟩
  case round =>
    obtain ⟨O, c, i, hrel⟩ := hrel
    have HR := hid hrel
    obtain ⟨rfl, rfl, hc, hlen, _, _, _, hbnd⟩ := hrel
    rw [← HM.out] at hbnd
    have HL := hid hlen; have HB := hid hbnd
    clear hlen hbnd
    have HO := hid HR.out.own.own; have HK := hid HR.out.own.keep
    by_cases h1 : i < m
    · obtain ⟨b1, rfl, hc1⟩ := (HX.out.keep HK.out (fun _ _ h => h)).at_ (i := i) (by rw [← HM.out]; exact h1)
      obtain ⟨x, hx⟩ : ∃ x, x = X.getD i 0 := ⟨_, rfl⟩
      rw [← hx] at hc1
      have hx10 : x < 10 := by rw [hx]; exact DX.out.getD i
      have HXX := hid hx
      have H1 := hid h1
      clear hx
      by_cases h2 : i < n
      · obtain ⟨b2, rfl, hc2⟩ := (HY.out.keep HK.out (fun _ _ h => h)).at_ (i := i) (by rw [← HN.out]; exact h2)
        obtain ⟨y, hy⟩ : ∃ y, y = Y.getD i 0 := ⟨_, rfl⟩
        rw [← hy] at hc2
        have hy10 : y < 10 := by rw [hy]; exact DY.out.getD i
        have HYY := hid hy
        have H2 := hid h2
        clear hy
        go_wp2_with (at_builtin; refine wpList_append_own _ rfl (.tmp 32) (.tmp 35) 22 rfl w.heap.size 5 i5 (.int .u8 0) 1 1 Tryz.underlying22 hi5 hz0 hz1 hz2 rfl (by decide) _ _ _ rfl (HO.out.alloc _) ⟨wr.heap.size, 0, none⟩ 1 1 [.int .u8 ((10 + (x : Int) - c - y) % 10)] rfl rfl (cell_one_new _ _ _) (by intro u hu; simp at hu; subst hu; rfl) (by unfold maxLen; rw [HL.out]; omega) (by rw [HL.out]; omega) (by have := HK.out.size; simp; omega) ?_; intro v1 w1 hown1 hgrow1 hnil1)
        refine ⟨⟨O ++ [(10 + x - c - y) % 10], 1 - (10 + x - c - y) / 10, i + 1, ?_⟩, by have := H1.out; simp [intOf]; omega⟩
        have hkk := own_keeps rfl (HK.out.alloc _) (HO.out.alloc _) hgrow1
        have hcast : ((10 + x - c - y : Nat) : Int) = 10 + (x : Int) - c - y := by omega
        have hnx := HR.out.next (w1 := w1) (v1 := v1) (n := 10 + x - c - y) DX.out DY.out (by rw [← HXX.out, ← HYY.out]; omega) (by rw [← HM.out]; exact H1.out) (by rw [hcast]; exact hown1) hkk
        rw [hcast] at hnx
        exact hnx
      · have H2 := hid h2
        go_wp2_with (at_builtin; refine wpList_append_own _ rfl (.tmp 32) (.tmp 35) 22 rfl w.heap.size 5 i5 (.int .u8 0) 1 1 Tryz.underlying22 hi5 hz0 hz1 hz2 rfl (by decide) _ _ _ rfl (HO.out.alloc _) ⟨wr.heap.size, 0, none⟩ 1 1 [.int .u8 ((10 + (x : Int) - c) % 10)] rfl rfl (cell_one_new _ _ _) (by intro u hu; simp at hu; subst hu; rfl) (by unfold maxLen; rw [HL.out]; omega) (by rw [HL.out]; omega) (by have := HK.out.size; simp; omega) ?_; intro v1 w1 hown1 hgrow1 hnil1)
        refine ⟨⟨O ++ [(10 + x - c) % 10], 1 - (10 + x - c) / 10, i + 1, ?_⟩, by have := H1.out; simp [intOf]; omega⟩
        have hkk := own_keeps rfl (HK.out.alloc _) (HO.out.alloc _) hgrow1
        have hcast : ((10 + x - c : Nat) : Int) = 10 + (x : Int) - c := by omega
        have hnx := HR.out.next (w1 := w1) (v1 := v1) (n := 10 + x - c) DX.out DY.out (by rw [← HXX.out, (show Y.getD i 0 = 0 by rw [List.getD_eq_getElem?_getD, List.getElem?_eq_none (by rw [← HN.out]; have := H2.out; omega)]; rfl)]; omega) (by rw [← HM.out]; exact H1.out) (by rw [hcast]; exact hown1) hkk
        rw [hcast] at hnx
        exact hnx
    · have him : i = m := by have := HB.out; omega
      subst him
      obtain ⟨a1, c1, rfl, hr, hge, hnc⟩ := RdV.of_own2 HO.out
      have ht := trim103_any a1 c1 O wr hr (by rw [HL.out]; omega)
      have hO : trimZ O = digs (p - q) := by
        rw [trimZ_eq_digs HR.out.dig]
        congr 1
        have h1 := HR.out.eq
        rw [ten_take_all (by rw [← HN.out]; omega), ten_take_all (by rw [← HM.out]; omega), HXE.out, HYE.out, ten_digs, ten_digs] at h1
        have h2 := ten_lt HR.out.dig
        rw [HL.out] at h2
        have h3 : c = 0 := by
          rcases Nat.eq_zero_or_pos c with h | h
          · exact h
          · exfalso
            have h4 : 10 ^ i * 1 ≤ 10 ^ i * c := Nat.mul_le_mul_left _ h
            omega
        subst h3
        omega
      rw [hO, HL.out] at ht
      have HT := hid ht; have HGE := hid hge; have HNC := hid hnc
      rw [HL.out]
      clear hr hge ht hO hnc
      go_wp2_with fail
      refine HT.out.mono ?_
      rintro e w2 ⟨rfl, hr2, rfl⟩
      have HR2 := hid hr2
      clear hr2 HT
      go_wp2_with fail
      go_ret
      exact ⟨a1, c1, rfl, HR2.out, HGE.out, HK.out, HNC.out⟩
end Go.Proofs
namespace Go.Proofs
open Go.RowKit
set_option maxHeartbeats 800000
set_option linter.unusedVariables false
set_option linter.unusedSimpArgs false
set_option maxRecDepth 100000

/-- The result is the number z. -/
def NRes (w : World) (z : Int) (e : Ending) (w' : World) : Prop := ∃ v, e = .returned v ∧ NumV w' w.heap.size v z ∧ Keeps (fun _ => False) w w'

theorem sgn83 (neg : Bool) (a : Option Addr) (c : Nat) (O : List Nat) (w : World) (h : RdV w a c O) (hd : Dig O) (hl : O.length ≤ 4294967296) :
    Calls Tryz.prog 83 #[.bool neg, .slice a O.length c] w fun e w' => e = .returned (.agg #[.bool (neg && decide (ten O ≠ 0)), .slice a (digs (ten O)).length c]) ∧ RdV w' a c (digs (ten O)) ∧ Keeps (fun _ => False) w w' := by
  refine (signed83_any neg a c O w h hl).mono ?_
  rintro e w' ⟨rfl, h1, h2⟩
  rw [trimZ_eq_digs hd] at h1 ⊢
  rw [show decide (digs (ten O) ≠ []) = decide (ten O ≠ 0) from decide_eq_decide.2 (not_congr digs_eq_nil)]
  exact ⟨rfl, h1.keep h2 (fun _ _ h => h), h2⟩

theorem NumV.sz {w : World} {b : Nat} {v : Value} {z : Int} (h : NumV w b v z) : ∃ a c, v = .agg #[.bool (decide (z < 0)), .slice a (digs z.natAbs).length c] ∧ RdV w a c (digs z.natAbs) := by
  obtain ⟨a, c, h1, h2, _⟩ := h
  exact ⟨a, c, h1, h2⟩

/-- Two numbers laid into blocks of their own, and room for a third. -/
structure Two3 (w : World) (p : Nat) (nx ny : Bool) (ax ay : Option Addr) (lx cx ly cy : Nat) (W : World) : Prop where
  keep : Keeps (fun _ => False) w W
  r0 : RowAt W p 24 [.bool nx, .slice ax lx cx]
  r1 : RowAt W (p + 1) 24 [.bool ny, .slice ay ly cy]
  r2 : RowAt W (p + 1 + 1) 24 [.bool false, .slice none 0 0]
theorem two3 (w : World) (nx ny : Bool) (ax ay : Option Addr) (lx cx ly cy : Nat) :
    Two3 w w.heap.size nx ny ax ay lx cx ly cy (((w.alloc (.cells #[.bool nx, .slice ax lx cx] 24)).alloc (.cells #[.bool ny, .slice ay ly cy] 24)).alloc (.cells #[.bool false, .slice none 0 0] 24)) := by
  refine ⟨(((Keeps.refl _ w).alloc _).alloc _).alloc _, ((RowAt.new w 24 [.bool nx, .slice ax lx cx]).alloc _).alloc _, ?_, ?_⟩
  · have h := RowAt.new (w.alloc (.cells #[.bool nx, .slice ax lx cx] 24)) 24 [.bool ny, .slice ay ly cy]
    rw [show (w.alloc (.cells #[.bool nx, .slice ax lx cx] 24)).heap.size = w.heap.size + 1 by simp] at h
    exact h.alloc _
  · have h := RowAt.new ((w.alloc (.cells #[.bool nx, .slice ax lx cx] 24)).alloc (.cells #[.bool ny, .slice ay ly cy] 24)) 24 [.bool false, .slice none 0 0]
    rw [show ((w.alloc (.cells #[.bool nx, .slice ax lx cx] 24)).alloc (.cells #[.bool ny, .slice ay ly cy] 24)).heap.size = w.heap.size + 1 + 1 by simp] at h
    exact h
theorem Two3.after {w : World} {p : Nat} {nx ny : Bool} {ax ay : Option Addr} {lx cx ly cy : Nat} {W W' : World} (h : Two3 w p nx ny ax ay lx cx ly cy W) (hk : Keeps (fun _ => False) W W') : Two3 w p nx ny ax ay lx cx ly cy W' :=
  ⟨h.keep.trans hk, hk.row h.r0 (fun h => h), hk.row h.r1 (fun h => h), hk.row h.r2 (fun h => h)⟩
theorem Two3.s {w : World} {p : Nat} {nx ny : Bool} {ax ay : Option Addr} {lx cx ly cy : Nat} {W : World} (h : Two3 w p nx ny ax ay lx cx ly cy W) :
    W.cell? ⟨p, 0, none⟩ = some (.bool nx) ∧ W.cell? ⟨p, 1, none⟩ = some (.slice ax lx cx) ∧ W.cell? ⟨p + 1, 0, none⟩ = some (.bool ny) ∧ W.cell? ⟨p + 1, 1, none⟩ = some (.slice ay ly cy) :=
  ⟨h.r0.cell 0, h.r0.cell 1, h.r1.cell 0, h.r1.cell 1⟩
theorem Two3.s1 {w : World} {p : Nat} {nx ny : Bool} {ax ay : Option Addr} {lx cx ly cy : Nat} {W : World} (h : Two3 w p nx ny ax ay lx cx ly cy W) (o : Nat) (v : Value) :
    (W.setCell ⟨p + 1 + 1, o, none⟩ v).cell? ⟨p, 0, none⟩ = some (.bool nx) ∧ (W.setCell ⟨p + 1 + 1, o, none⟩ v).cell? ⟨p, 1, none⟩ = some (.slice ax lx cx) ∧ (W.setCell ⟨p + 1 + 1, o, none⟩ v).cell? ⟨p + 1, 0, none⟩ = some (.bool ny) ∧ (W.setCell ⟨p + 1 + 1, o, none⟩ v).cell? ⟨p + 1, 1, none⟩ = some (.slice ay ly cy) :=
  ⟨(h.r0.other (show p + 1 + 1 ≠ p by omega) v).cell 0, (h.r0.other (show p + 1 + 1 ≠ p by omega) v).cell 1, (h.r1.other (show p + 1 + 1 ≠ p + 1 by omega) v).cell 0, (h.r1.other (show p + 1 + 1 ≠ p + 1 by omega) v).cell 1⟩
theorem Two3.s2 {w : World} {p : Nat} {nx ny : Bool} {ax ay : Option Addr} {lx cx ly cy : Nat} {W : World} (h : Two3 w p nx ny ax ay lx cx ly cy W) (o o' : Nat) (v v' : Value) :
    ((W.setCell ⟨p + 1 + 1, o, none⟩ v).setCell ⟨p + 1 + 1, o', none⟩ v').cell? ⟨p, 0, none⟩ = some (.bool nx) ∧ ((W.setCell ⟨p + 1 + 1, o, none⟩ v).setCell ⟨p + 1 + 1, o', none⟩ v').cell? ⟨p, 1, none⟩ = some (.slice ax lx cx) ∧ ((W.setCell ⟨p + 1 + 1, o, none⟩ v).setCell ⟨p + 1 + 1, o', none⟩ v').cell? ⟨p + 1, 0, none⟩ = some (.bool ny) ∧ ((W.setCell ⟨p + 1 + 1, o, none⟩ v).setCell ⟨p + 1 + 1, o', none⟩ v').cell? ⟨p + 1, 1, none⟩ = some (.slice ay ly cy) :=
  ⟨((h.r0.other (show p + 1 + 1 ≠ p by omega) v).other (show p + 1 + 1 ≠ p by omega) v').cell 0, ((h.r0.other (show p + 1 + 1 ≠ p by omega) v).other (show p + 1 + 1 ≠ p by omega) v').cell 1, ((h.r1.other (show p + 1 + 1 ≠ p + 1 by omega) v).other (show p + 1 + 1 ≠ p + 1 by omega) v').cell 0, ((h.r1.other (show p + 1 + 1 ≠ p + 1 by omega) v).other (show p + 1 + 1 ≠ p + 1 by omega) v').cell 1⟩

theorem decide_and_bool (p q : Prop) [Decidable p] [Decidable q] : decide (p ∧ q) = (decide p && decide q) := by
  by_cases hp : p <;> by_cases hq : q <;> simp [hp, hq]

theorem add28 (vx vy : Value) (x y : Int) (bx b' : Nat) (w : World) (hx : NumV w bx vx x) (hy : NumV w b' vy y) (hlx : (digs x.natAbs).length ≤ 50000) (hly : (digs y.natAbs).length ≤ 50000) :
    Calls Tryz.prog 28 #[vx, vy] w (NRes w (x + y)) := by
  obtain ⟨ax, cx, rfl, rx⟩ := hx.sz
  obtain ⟨ay, cy, rfl, ry⟩ := hy.sz
  obtain ⟨nx, hnx⟩ : ∃ n, n = decide (x < 0) := ⟨_, rfl⟩
  obtain ⟨ny, hny⟩ : ∃ n, n = decide (y < 0) := ⟨_, rfl⟩
  obtain ⟨W, hW⟩ : ∃ W, W = (((w.alloc (.cells #[.bool nx, .slice ax (digs x.natAbs).length cx] 24)).alloc (.cells #[.bool ny, .slice ay (digs y.natAbs).length cy] 24)).alloc (.cells #[.bool false, .slice none 0 0] 24)) := ⟨_, rfl⟩
  obtain ⟨p, hp⟩ : ∃ p, p = w.heap.size := ⟨_, rfl⟩
  have ht : Two3 w p nx ny ax ay (digs x.natAbs).length cx (digs y.natAbs).length cy W := by rw [hW, hp]; exact two3 w nx ny ax ay _ cx _ cy
  have HX := hid (rx.keep ht.keep (fun _ _ h => h)); have HY := hid (ry.keep ht.keep (fun _ _ h => h))
  have HNX := hid hnx; have HNY := hid hny; have HP := hid hp; have HLX := hid hlx; have HLY := hid hly
  rw [← hnx, ← hny]
  clear hx hy rx ry hnx hny hlx hly
  have CP := hid (fun W' (hk : Keeps (fun _ => False) W W') => plus84 ax ay cx cy _ _ W' (HX.out.keep hk (fun _ _ h => h)) (HY.out.keep hk (fun _ _ h => h)) (dig_digs _) (dig_digs _) (by have := HLX.out; omega) (by have := HLY.out; omega))
  have CL := hid (fun W' (hk : Keeps (fun _ => False) W W') (hq : y.natAbs ≤ x.natAbs) => less86 ax ay cx cy _ _ W' (HX.out.keep hk (fun _ _ h => h)) (HY.out.keep hk (fun _ _ h => h)) hq (by have := HLX.out; omega))
  have CM := hid (fun W' (hk : Keeps (fun _ => False) W W') (hq : x.natAbs ≤ y.natAbs) => less86 ay ax cy cx _ _ W' (HY.out.keep hk (fun _ _ h => h)) (HX.out.keep hk (fun _ _ h => h)) hq (by have := HLY.out; omega))
  have CC := hid (fun W' (hk : Keeps (fun _ => False) W W') => compare85_any ax ay cx cy _ _ W' (HX.out.keep hk (fun _ _ h => h)) (HY.out.keep hk (fun _ _ h => h)) (by have := HLX.out; omega) (by have := HLY.out; omega))
  obtain ⟨lx, hlx⟩ : ∃ l, l = (digs x.natAbs).length := ⟨_, rfl⟩
  obtain ⟨ly, hly⟩ : ∃ l, l = (digs y.natAbs).length := ⟨_, rfl⟩
  rw [← hlx, ← hly] at hW ht CP CL CM CC
  rw [← hlx, ← hly]
  have HT := hid ht
  obtain ⟨z0, z1, z2, z3⟩ := ht.s
  have hnn : p + 1 + 1 ≠ p := by omega
  have hnn1 : p + 1 + 1 ≠ p + 1 := by omega
  rw [hp] at z0 z1 z2 z3
  clear hlx hly ht
  by_cases hs : nx = ny
  · have hk0 : Keeps (fun _ => False) W W.drew := (Keeps.refl _ W).drew
    have HK0 := hid hk0; have HT0 := hid (HT.out.after hk0)
    have HSZ := hid (show W.heap.size = W.drew.heap.size from rfl)
    have hsg : decide (x < 0) = decide (y < 0) := by rw [← HNX.out, ← HNY.out]; exact hs
    have hxy := decide_eq_decide.1 hsg
    have HABS := hid (show (x + y).natAbs = x.natAbs + y.natAbs by omega)
    obtain ⟨ng2, hng2⟩ : ∃ b, b = (nx && decide (x.natAbs + y.natAbs ≠ 0)) := ⟨_, rfl⟩
    have HNG := hid (show ng2 = decide (x + y < 0) by rw [hng2]; rw [HNX.out, ← decide_and_bool]; exact decide_eq_decide.2 (by omega))
    obtain ⟨l2, hl2⟩ : ∃ l, l = (digs (x.natAbs + y.natAbs)).length := ⟨_, rfl⟩
    have HL2 := hid hl2; have HN2 := hid hng2
    clear hng2 hl2
    subst hs
    have tE : (nx == nx) = true := by simp
    clear hk0 hsg hxy
    go_enter Tryz.func28, Tryz.ntmps28
    go_wp2_with fail
    rw [← hW, ← hp]
    clear hW hp
    go_upto_region 2 with fail
    go_region_held3 (fun w' => w'.cell? ⟨p, 0, none⟩ = some (.bool nx) ∧ w'.cell? ⟨p, 1, none⟩ = some (.slice ax lx cx) ∧ w'.cell? ⟨p + 1, 0, none⟩ = some (.bool nx) ∧ w'.cell? ⟨p + 1, 1, none⟩ = some (.slice ay ly cy))
      (first | with_reducible exact Two3.s HT0.out | with_reducible exact Two3.s HT1.out | with_reducible exact Two3.s HT2.out | with_reducible exact Two3.s1 HT2.out _ _ | with_reducible exact Two3.s2 HT2.out _ _ _ _)
      (first
       | (go_at_call 84; (with_reducible refine (CP.out _ HK0.out).mono ?_); rintro e w1 ⟨v, O, rfl, ho, hd, ht10, hl⟩; obtain ⟨a1, c1, rfl, hr, hge⟩ := RdV.of_own ho.own; have C2 := hid (sgn83 nx a1 c1 O w1 hr hd (by omega)); rw [ht10, ten_digs, ten_digs] at C2; rw [← HN2.out, ← HL2.out] at C2; obtain ⟨l1, hl1⟩ : ∃ l, l = O.length := ⟨_, rfl⟩; rw [← hl1] at C2 ⊢; have HGE := hid hge; have HT1 := hid (HT0.out.after ho.keep); obtain ⟨y0, y1, y2, y3⟩ := HT1.out.s; clear hr hge ho hd ht10 hl hl1)
       | (go_at_call 83; (with_reducible refine C2.out.mono ?_); rintro e w2 ⟨rfl, hr, hk⟩; have HR := hid hr; have HT2 := hid (HT1.out.after hk); obtain ⟨y0, y1, y2, y3⟩ := HT2.out.s; obtain ⟨g0, g1, f0, f1⟩ := HT2.out.r2.facts2; clear hr hk))
    go_wp2_with fail
    obtain ⟨hrow, hnv, hkf⟩ := num_done (w := w) (wr := w2) (p := p + 1 + 1) (z := x + y) (ng := ng2) (a := a1) (l := l2) (c := c1) HT2.out.r2 (by have := HP.out; omega) HT2.out.keep
      (by have h := HR.out; rwa [← HABS.out] at h) (fun k hk => by have h1 := HGE.out k hk; have h3 := HT.out.r2.lt; have h4 := HT.out.keep.size; have h5 := HSZ.out; omega) (by rw [HL2.out, ← HABS.out]) HNG.out
    obtain ⟨e0, e1, _, _⟩ := RowAt.facts2 hrow
    generalize ((w2.setCell ⟨p + 1 + 1, 0, none⟩ (.bool ng2)).setCell ⟨p + 1 + 1, 1, none⟩ (.slice a1 l2 c1)) = wf at *
    refine bodyPost_ret (v := .agg #[.bool ng2, .slice a1 l2 c1]) ?_ rfl ⟨_, rfl, hnv, hkf⟩
    simp [results, Tryz.results28, go_sem, e0, e1]
  · by_cases hle : y.natAbs ≤ x.natAbs
    · have hsg : ¬ ((x < 0) ↔ (y < 0)) := fun h => hs (by rw [HNX.out, HNY.out]; exact decide_eq_decide.2 h)
      have HABS := hid (show (x + y).natAbs = x.natAbs - y.natAbs by omega)
      obtain ⟨ng2, hng2⟩ : ∃ b, b = (nx && decide (x.natAbs - y.natAbs ≠ 0)) := ⟨_, rfl⟩
      have HNG := hid (show ng2 = decide (x + y < 0) by rw [hng2]; rw [HNX.out, ← decide_and_bool]; exact decide_eq_decide.2 (by omega))
      obtain ⟨l2, hl2⟩ : ∃ l, l = (digs (x.natAbs - y.natAbs)).length := ⟨_, rfl⟩
      have HL2 := hid hl2; have HN2 := hid hng2
      clear hng2 hl2
      have tE : (nx == ny) = false := by simpa using hs
      obtain ⟨ci, hci⟩ : ∃ c, c = cmpL (digs x.natAbs) (digs y.natAbs) := ⟨_, rfl⟩
      have hcc : 0 ≤ ci := by rw [hci, cmpL_digs]; unfold cmpI; (repeat' split) <;> omega
      rw [← hci] at CC
      have HQ := hid hle
      have HDL := hid (show (digs (x.natAbs - y.natAbs)).length ≤ 4294967296 by have h1 := HLX.out; have h2 := HLY.out; have h3 := digs_mono (show x.natAbs - y.natAbs ≤ x.natAbs by omega); omega)
      clear hsg hci
      go_enter Tryz.func28, Tryz.ntmps28
      go_wp2_with fail
      rw [← hW, ← hp]
      clear hW hp
      refine (CC.out W (Keeps.refl _ W)).mono ?_
      rintro e w0 ⟨rfl, hq⟩
      have hk0 := (quiet_keeps (fun _ => False) hq).drew
      have hkk := quiet_keeps (fun _ => False) hq
      have HSZ := hid (show W.heap.size = w0.drew.heap.size by obtain ⟨k, rfl⟩ := hq; rfl)
      obtain ⟨u0, u1, u2, u3⟩ := (HT.out.after hkk).s
      have HK0 := hid hk0; have HT0 := hid (HT.out.after hk0)
      clear hk0 hkk hq CC
      go_wp2_with fail
      go_upto_region 4 with fail
      go_region_held3 (fun w' => w'.cell? ⟨p, 0, none⟩ = some (.bool nx) ∧ w'.cell? ⟨p, 1, none⟩ = some (.slice ax lx cx) ∧ w'.cell? ⟨p + 1, 0, none⟩ = some (.bool ny) ∧ w'.cell? ⟨p + 1, 1, none⟩ = some (.slice ay ly cy))
        (first | with_reducible exact Two3.s HT0.out | with_reducible exact Two3.s HT1.out | with_reducible exact Two3.s HT2.out | with_reducible exact Two3.s1 HT2.out _ _ | with_reducible exact Two3.s2 HT2.out _ _ _ _)
        (first
         | (go_at_call 86; (with_reducible refine (CL.out _ HK0.out HQ.out).mono ?_); rintro e w1 ⟨a1, c1, rfl, hr, hge, hk, _⟩; have C2 := hid (sgn83 nx a1 c1 _ w1 hr (dig_digs _) HDL.out); rw [ten_digs] at C2; rw [← HN2.out] at C2; rw [← HL2.out] at C2 ⊢; have HGE := hid hge; have HT1 := hid (HT0.out.after hk); obtain ⟨y0, y1, y2, y3⟩ := HT1.out.s; clear hr hge hk)
         | (go_at_call 83; (with_reducible refine C2.out.mono ?_); rintro e w2 ⟨rfl, hr, hk⟩; have HR := hid hr; have HT2 := hid (HT1.out.after hk); obtain ⟨y0, y1, y2, y3⟩ := HT2.out.s; obtain ⟨g0, g1, f0, f1⟩ := HT2.out.r2.facts2; clear hr hk))
      go_wp2_with fail
      obtain ⟨hrow, hnv, hkf⟩ := num_done (w := w) (wr := w2) (p := p + 1 + 1) (z := x + y) (ng := ng2) (a := a1) (l := l2) (c := c1) HT2.out.r2 (by have := HP.out; omega) HT2.out.keep
        (by have h := HR.out; rwa [← HABS.out] at h) (fun k hk => by have h1 := HGE.out k hk; have h3 := HT.out.r2.lt; have h4 := HT.out.keep.size; have h5 := HSZ.out; omega) (by rw [HL2.out, ← HABS.out]) HNG.out
      obtain ⟨e0, e1, _, _⟩ := RowAt.facts2 hrow
      generalize ((w2.setCell ⟨p + 1 + 1, 0, none⟩ (.bool ng2)).setCell ⟨p + 1 + 1, 1, none⟩ (.slice a1 l2 c1)) = wf at *
      refine bodyPost_ret (v := .agg #[.bool ng2, .slice a1 l2 c1]) ?_ rfl ⟨_, rfl, hnv, hkf⟩
      simp [results, Tryz.results28, go_sem, e0, e1]
    · have hle : x.natAbs ≤ y.natAbs := by omega
      have hlt : ¬ y.natAbs ≤ x.natAbs := by omega
      have hsg : ¬ ((x < 0) ↔ (y < 0)) := fun h => hs (by rw [HNX.out, HNY.out]; exact decide_eq_decide.2 h)
      have HABS := hid (show (x + y).natAbs = y.natAbs - x.natAbs by omega)
      obtain ⟨ng2, hng2⟩ : ∃ b, b = (ny && decide (y.natAbs - x.natAbs ≠ 0)) := ⟨_, rfl⟩
      have HNG := hid (show ng2 = decide (x + y < 0) by rw [hng2]; rw [HNY.out, ← decide_and_bool]; exact decide_eq_decide.2 (by omega))
      obtain ⟨l2, hl2⟩ : ∃ l, l = (digs (y.natAbs - x.natAbs)).length := ⟨_, rfl⟩
      have HL2 := hid hl2; have HN2 := hid hng2
      clear hng2 hl2
      have tE : (nx == ny) = false := by simpa using hs
      obtain ⟨ci, hci⟩ : ∃ c, c = cmpL (digs x.natAbs) (digs y.natAbs) := ⟨_, rfl⟩
      have hcc : ci < 0 := by rw [hci, cmpL_digs]; unfold cmpI; (repeat' split) <;> omega
      rw [← hci] at CC
      have HQ := hid hle
      have HDL := hid (show (digs (y.natAbs - x.natAbs)).length ≤ 4294967296 by have h1 := HLX.out; have h2 := HLY.out; have h3 := digs_mono (show y.natAbs - x.natAbs ≤ y.natAbs by omega); omega)
      clear hsg hci hlt
      go_enter Tryz.func28, Tryz.ntmps28
      go_wp2_with fail
      rw [← hW, ← hp]
      clear hW hp
      refine (CC.out W (Keeps.refl _ W)).mono ?_
      rintro e w0 ⟨rfl, hq⟩
      have hk0 := (quiet_keeps (fun _ => False) hq).drew
      have hkk := quiet_keeps (fun _ => False) hq
      have HSZ := hid (show W.heap.size = w0.drew.heap.size by obtain ⟨k, rfl⟩ := hq; rfl)
      obtain ⟨u0, u1, u2, u3⟩ := (HT.out.after hkk).s
      have HK0 := hid hk0; have HT0 := hid (HT.out.after hk0)
      clear hk0 hkk hq CC
      go_wp2_with fail
      go_upto_region 5 with fail
      go_region_held3 (fun w' => w'.cell? ⟨p, 0, none⟩ = some (.bool nx) ∧ w'.cell? ⟨p, 1, none⟩ = some (.slice ax lx cx) ∧ w'.cell? ⟨p + 1, 0, none⟩ = some (.bool ny) ∧ w'.cell? ⟨p + 1, 1, none⟩ = some (.slice ay ly cy))
        (first | with_reducible exact Two3.s HT0.out | with_reducible exact Two3.s HT1.out | with_reducible exact Two3.s HT2.out | with_reducible exact Two3.s1 HT2.out _ _ | with_reducible exact Two3.s2 HT2.out _ _ _ _)
        (first
         | (go_at_call 86; (with_reducible refine (CM.out _ HK0.out HQ.out).mono ?_); rintro e w1 ⟨a1, c1, rfl, hr, hge, hk, _⟩; have C2 := hid (sgn83 ny a1 c1 _ w1 hr (dig_digs _) HDL.out); rw [ten_digs] at C2; rw [← HN2.out] at C2; rw [← HL2.out] at C2 ⊢; have HGE := hid hge; have HT1 := hid (HT0.out.after hk); obtain ⟨y0, y1, y2, y3⟩ := HT1.out.s; clear hr hge hk)
         | (go_at_call 83; (with_reducible refine C2.out.mono ?_); rintro e w2 ⟨rfl, hr, hk⟩; have HR := hid hr; have HT2 := hid (HT1.out.after hk); obtain ⟨y0, y1, y2, y3⟩ := HT2.out.s; obtain ⟨g0, g1, f0, f1⟩ := HT2.out.r2.facts2; clear hr hk))
      go_wp2_with fail
      obtain ⟨hrow, hnv, hkf⟩ := num_done (w := w) (wr := w2) (p := p + 1 + 1) (z := x + y) (ng := ng2) (a := a1) (l := l2) (c := c1) HT2.out.r2 (by have := HP.out; omega) HT2.out.keep
        (by have h := HR.out; rwa [← HABS.out] at h) (fun k hk => by have h1 := HGE.out k hk; have h3 := HT.out.r2.lt; have h4 := HT.out.keep.size; have h5 := HSZ.out; omega) (by rw [HL2.out, ← HABS.out]) HNG.out
      obtain ⟨e0, e1, _, _⟩ := RowAt.facts2 hrow
      generalize ((w2.setCell ⟨p + 1 + 1, 0, none⟩ (.bool ng2)).setCell ⟨p + 1 + 1, 1, none⟩ (.slice a1 l2 c1)) = wf at *
      refine bodyPost_ret (v := .agg #[.bool ng2, .slice a1 l2 c1]) ?_ rfl ⟨_, rfl, hnv, hkf⟩
      simp [results, Tryz.results28, go_sem, e0, e1]
end Go.Proofs
namespace Go.Proofs
open Go.RowKit
set_option maxHeartbeats 800000
set_option linter.unusedVariables false
set_option linter.unusedSimpArgs false
set_option maxRecDepth 100000

/-- Only new blocks have turned. -/
theorem Keeps.newer {S : Nat → Prop} {w w1 w2 : World} (h : Keeps (fun _ => False) w w1) (k : Keeps S w1 w2) (hS : ∀ i, S i → w.heap.size ≤ i) : Keeps (fun _ => False) w w2 :=
  h.trans' k (fun i hi hs => by have := hS i hs; omega)

theorem digs_len_zero (z : Int) : decide ((digs z.natAbs).length = 0) = decide (z = 0) := by
  refine decide_eq_decide.2 ⟨fun h => ?_, fun h => ?_⟩
  · have := digs_eq_nil.1 (List.eq_nil_of_length_eq_zero h)
    omega
  · subst h; rw [show (0 : Int).natAbs = 0 from rfl, digs_zero]; rfl

theorem zero23 (v : Value) (z : Int) (b : Nat) (w : World) (h : NumV w b v z) :
    Calls Tryz.prog 23 #[v] w fun e w' => e = .returned (.bool (decide (z = 0))) ∧ Keeps (fun _ => False) w w' := by
  obtain ⟨a, c, rfl, _⟩ := h
  rw [← digs_len_zero]
  obtain ⟨l, hl⟩ : ∃ l, l = (digs z.natAbs).length := ⟨_, rfl⟩
  obtain ⟨ng, hng⟩ : ∃ b, b = decide (z < 0) := ⟨_, rfl⟩
  rw [← hl, ← hng]
  clear hl hng
  by_cases h0 : l = 0
  · subst h0
    go_enter Tryz.func23, Tryz.ntmps23
    go_wp2_with fail
    go_ret
    exact ⟨rfl, (Keeps.refl _ w).alloc _⟩
  · have hl0 : ((l : Int) == 0) = false := by simp; omega
    rw [decide_eq_false h0]
    go_enter Tryz.func23, Tryz.ntmps23
    go_wp2_with fail
    go_ret
    exact ⟨rfl, (Keeps.refl _ w).alloc _⟩

/-- The sign of a number. -/
def sgn (z : Int) : Int := if z = 0 then 0 else if z < 0 then -1 else 1

theorem sign35 (v : Value) (z : Int) (b : Nat) (w : World) (h : NumV w b v z) :
    Calls Tryz.prog 35 #[v] w fun e w' => e = .returned (.int .i64 (sgn z)) ∧ Keeps (fun _ => False) w w' := by
  have h' := h
  obtain ⟨a, c, rfl, _⟩ := h'
  have hk0 : Keeps (fun _ => False) w (w.alloc (.cells #[.bool (decide (z < 0)), .slice a (digs z.natAbs).length c] 24)) := (Keeps.refl _ w).alloc _
  have hr0 := RowAt.new w 24 [.bool (decide (z < 0)), .slice a (digs z.natAbs).length c]
  have HC := hid (zero23 _ z b _ (h.keep hk0 (fun _ _ h => h)))
  obtain ⟨l, hl⟩ : ∃ l, l = (digs z.natAbs).length := ⟨_, rfl⟩
  obtain ⟨ng, hng⟩ : ∃ b, b = decide (z < 0) := ⟨_, rfl⟩
  rw [← hl, ← hng] at HC hk0 hr0
  rw [← hl, ← hng]
  obtain ⟨s, hs⟩ : ∃ s, s = sgn z := ⟨_, rfl⟩
  rw [← hs]
  have HS := hid hs; have HK0 := hid hk0; have HR0 := hid hr0; have HNG := hid hng
  clear hl hng h hs hk0 hr0
  by_cases h0 : z = 0
  · have hd : decide (z = 0) = true := decide_eq_true h0
    rw [hd] at HC
    clear hd
    go_enter Tryz.func35, Tryz.ntmps35
    go_wp2_with fail
    refine HC.out.mono ?_
    rintro e w1 ⟨rfl, hk⟩
    have HK := hid hk
    clear hk
    go_wp2_with fail
    go_ret
    refine ⟨?_, HK0.out.trans HK.out⟩
    rw [HS.out]; unfold sgn; rw [if_pos h0]; rfl
  · have hd : decide (z = 0) = false := decide_eq_false h0
    rw [hd] at HC
    have H0 := hid h0
    clear hd h0
    by_cases hn : z < 0
    · have hng' : ng = true := by rw [HNG.out]; exact decide_eq_true hn
      subst hng'
      go_enter Tryz.func35, Tryz.ntmps35
      go_wp2_with fail
      refine HC.out.mono ?_
      rintro e w1 ⟨rfl, hk⟩
      obtain ⟨z0, z1, _, _⟩ := RowAt.facts2 (hk.row HR0.out (fun h => h))
      have HK := hid hk
      clear hk
      go_wp2_with fail
      go_ret
      refine ⟨?_, HK0.out.trans HK.out⟩
      rw [HS.out]; unfold sgn; rw [if_neg H0.out, if_pos hn]; rfl
    · have hng' : ng = false := by rw [HNG.out]; exact decide_eq_false hn
      subst hng'
      have HN := hid hn
      clear hn
      go_enter Tryz.func35, Tryz.ntmps35
      go_wp2_with fail
      refine HC.out.mono ?_
      rintro e w1 ⟨rfl, hk⟩
      obtain ⟨z0, z1, _, _⟩ := RowAt.facts2 (hk.row HR0.out (fun h => h))
      have HK := hid hk
      clear hk
      go_wp2_with fail
      go_ret
      refine ⟨?_, HK0.out.trans HK.out⟩
      rw [HS.out]; unfold sgn; rw [if_neg H0.out, if_neg (by have := HN.out; omega)]; rfl

theorem minus118 (v : Value) (z : Int) (b : Nat) (w : World) (h : NumV w b v z) (hl : (digs z.natAbs).length ≤ 100000) :
    Calls Tryz.prog 118 #[v] w fun e w' => ∃ v', e = .returned v' ∧ NumV w' b v' (-z) ∧ Keeps (fun _ => False) w w' := by
  obtain ⟨a, c, rfl, hr, hge⟩ := h
  obtain ⟨ng, hng⟩ : ∃ b, b = decide (z < 0) := ⟨_, rfl⟩
  obtain ⟨w0, hw0⟩ : ∃ W, W = (w.alloc (.cells #[.bool ng, .slice a (digs z.natAbs).length c] 24)).alloc (.cells #[.bool false, .slice none 0 0] 24) := ⟨_, rfl⟩
  have hk0 : Keeps (fun _ => False) w w0 := by rw [hw0]; exact ((Keeps.refl _ w).alloc _).alloc _
  have hr1 : RowAt w0 (w.heap.size + 1) 24 [.bool false, .slice none 0 0] := by
    have h := RowAt.new (w.alloc (.cells #[.bool ng, .slice a (digs z.natAbs).length c] 24)) 24 [.bool false, .slice none 0 0]
    rw [show (w.alloc (.cells #[.bool ng, .slice a (digs z.natAbs).length c] 24)).heap.size = w.heap.size + 1 by simp] at h
    rw [hw0]; exact h
  have HC := hid (sgn83 (!ng) a c _ w0 (hr.keep hk0 (fun _ _ h => h)) (dig_digs _) (by omega))
  rw [ten_digs] at HC
  obtain ⟨n2, hn2⟩ : ∃ b, b = (!ng && decide (z.natAbs ≠ 0)) := ⟨_, rfl⟩
  have HN2 := hid (show n2 = decide (-z < 0) by
    rw [hn2, hng, ← decide_not, ← decide_and_bool]
    exact decide_eq_decide.2 (by omega))
  rw [← hn2] at HC
  obtain ⟨l, hl'⟩ : ∃ l, l = (digs z.natAbs).length := ⟨_, rfl⟩
  rw [← hl'] at HC hw0
  rw [← hng, ← hl']
  have HL := hid hl'; have HK0 := hid hk0; have HR1 := hid hr1; have HGE := hid hge; have HRD := hid hr
  clear hn2 hng hl' hr hge hk0 hr1 hl
  go_enter Tryz.func118, Tryz.ntmps118
  go_wp2_with fail
  rw [← hw0]
  refine HC.out.mono ?_
  rintro e w1 ⟨rfl, h1, hk⟩
  obtain ⟨z0, z1, z2, z3⟩ := RowAt.facts2 (hk.row HR1.out (fun h => h))
  have H1 := hid h1; have HK := hid hk
  clear h1 hk hw0 HC
  go_wp2_with fail
  have hp : w.heap.size + 1 < w0.heap.size := HR1.out.lt
  have hrow := ((HK.out.row HR1.out (fun h => h)).set 0 (.bool n2)).set 1 (.slice a l c)
  have hk1 : Keeps (· = w.heap.size + 1) w1 ((w1.setCell ⟨w.heap.size + 1, 0, none⟩ (.bool n2)).setCell ⟨w.heap.size + 1, 1, none⟩ (.slice a l c)) := ((Keeps.refl _ w1).own 0 _).own 1 _
  have hkf : Keeps (fun _ => False) w ((w1.setCell ⟨w.heap.size + 1, 0, none⟩ (.bool n2)).setCell ⟨w.heap.size + 1, 1, none⟩ (.slice a l c)) := (HK0.out.trans HK.out).newer hk1 (fun i hi => by omega)
  obtain ⟨e0, e1, _, _⟩ := RowAt.facts2 hrow
  have hv := HRD.out.keep hkf (fun _ _ h => h)
  generalize ((w1.setCell ⟨w.heap.size + 1, 0, none⟩ (.bool n2)).setCell ⟨w.heap.size + 1, 1, none⟩ (.slice a l c)) = wf at *
  refine bodyPost_ret (v := .agg #[.bool n2, .slice a l c]) ?_ rfl ⟨_, rfl, ⟨a, c, ?_, ?_, HGE.out⟩, hkf⟩
  · simp [results, Tryz.results118, go_sem, e0, e1]
  · rw [HN2.out, HL.out, Int.natAbs_neg]
  · rw [Int.natAbs_neg]; exact hv

theorem sub50 (vx vy : Value) (x y : Int) (bx b' : Nat) (w : World) (hx : NumV w bx vx x) (hy : NumV w b' vy y) (hlx : (digs x.natAbs).length ≤ 50000) (hly : (digs y.natAbs).length ≤ 50000) :
    Calls Tryz.prog 50 #[vx, vy] w (NRes w (x - y)) := by
  have hx0 := hx; have hy0 := hy
  obtain ⟨ax, cx, rfl, rx⟩ := hx.sz
  obtain ⟨ay, cy, rfl, ry⟩ := hy.sz
  obtain ⟨nx, hnx⟩ : ∃ n, n = decide (x < 0) := ⟨_, rfl⟩
  obtain ⟨ny, hny⟩ : ∃ n, n = decide (y < 0) := ⟨_, rfl⟩
  obtain ⟨lx, hlx'⟩ : ∃ l, l = (digs x.natAbs).length := ⟨_, rfl⟩
  obtain ⟨ly, hly'⟩ : ∃ l, l = (digs y.natAbs).length := ⟨_, rfl⟩
  rw [← hnx, ← hlx'] at hx0
  rw [← hny, ← hly'] at hy0
  rw [← hnx, ← hny, ← hlx', ← hly']
  obtain ⟨W, hW⟩ : ∃ W, W = (((w.alloc (.cells #[.bool nx, .slice ax lx cx] 24)).alloc (.cells #[.bool ny, .slice ay ly cy] 24)).alloc (.cells #[.bool false, .slice none 0 0] 24)) := ⟨_, rfl⟩
  obtain ⟨p, hp⟩ : ∃ p, p = w.heap.size := ⟨_, rfl⟩
  have ht : Two3 w p nx ny ax ay lx cx ly cy W := by rw [hW, hp]; exact two3 w nx ny ax ay _ cx _ cy
  have HP := hid hp; have HT := hid ht
  have hk0 : Keeps (fun _ => False) W W.drew := (Keeps.refl _ W).drew
  have HT0 := hid (ht.after hk0)
  have C1 := hid (minus118 _ y b' W.drew (hy0.keep (ht.keep.trans hk0) (fun _ _ h => h)) (by omega))
  have HX0 := hid (hx0.keep (ht.keep.trans hk0) (fun _ _ h => h))
  have HLX := hid hlx; have HLY := hid hly
  obtain ⟨z0, z1, z2, z3⟩ := ht.s
  rw [hp] at z0 z1 z2 z3
  clear hx hy rx ry hnx hny hlx' hly' hlx hly hx0 hy0 ht hk0
  go_enter Tryz.func50, Tryz.ntmps50
  go_wp2_with fail
  rw [← hW, ← hp]
  clear hW hp
  go_upto_region 1 with fail
  go_region_held3 (fun w' => w'.cell? ⟨p, 0, none⟩ = some (.bool nx) ∧ w'.cell? ⟨p, 1, none⟩ = some (.slice ax lx cx) ∧ w'.cell? ⟨p + 1, 0, none⟩ = some (.bool ny) ∧ w'.cell? ⟨p + 1, 1, none⟩ = some (.slice ay ly cy))
    (first | with_reducible exact Two3.s HT0.out | with_reducible exact Two3.s HT1.out | with_reducible exact Two3.s HT2.out | with_reducible exact Two3.s1 HT2.out _ _ | with_reducible exact Two3.s2 HT2.out _ _ _ _)
    (first
     | (go_at_call 118; (with_reducible refine C1.out.mono ?_); rintro e w1 ⟨v', rfl, hv, hk⟩; have HT1 := hid (HT0.out.after hk); obtain ⟨y0, y1, y2, y3⟩ := HT1.out.s; have hv2 := hv; obtain ⟨am, cm, rfl, _⟩ := hv2; have C2 := hid (add28 _ _ x (-y) bx b' w1 (HX0.out.keep hk (fun _ _ h => h)) hv HLX.out (by rw [Int.natAbs_neg]; exact HLY.out)); obtain ⟨lm, hlm⟩ : ∃ l, l = (digs (-y).natAbs).length := ⟨_, rfl⟩; obtain ⟨nm, hnm⟩ : ∃ n, n = decide (-y < 0) := ⟨_, rfl⟩; rw [← hlm, ← hnm] at C2 ⊢; have HW1 := hid hk.size; clear hv hk hlm hnm)
     | (go_at_call 28; (with_reducible refine C2.out.mono ?_); rintro e w2 ⟨v', rfl, hv, hk⟩; have HT2 := hid (HT1.out.after hk); obtain ⟨y0, y1, y2, y3⟩ := HT2.out.s; obtain ⟨g0, g1, f0, f1⟩ := HT2.out.r2.facts2; obtain ⟨a3, c3, rfl, r3, ge3⟩ := hv; have HR := hid r3; have HGE := hid ge3; obtain ⟨l3, hl3⟩ : ∃ l, l = (digs (x + -y).natAbs).length := ⟨_, rfl⟩; obtain ⟨n3, hn3⟩ : ∃ n, n = decide (x + -y < 0) := ⟨_, rfl⟩; rw [← hl3, ← hn3]; have HL3 := hid hl3; have HN3 := hid hn3; clear hk hl3 hn3 r3 ge3))
  go_wp2_with fail
  obtain ⟨hrow, hnv, hkf⟩ := num_done (w := w) (wr := w2) (p := p + 1 + 1) (z := x - y) (ng := n3) (a := a3) (l := l3) (c := c3) HT2.out.r2 (by have := HP.out; omega) HT2.out.keep
    (by have h := HR.out; rwa [← Int.sub_eq_add_neg] at h) (fun k hk => by have h1 := HGE.out k hk; have h3 := HT1.out.r2.lt; have h4 := HT1.out.keep.size; omega) (by rw [HL3.out, Int.sub_eq_add_neg]) (by rw [HN3.out, Int.sub_eq_add_neg])
  obtain ⟨e0, e1, _, _⟩ := RowAt.facts2 hrow
  generalize ((w2.setCell ⟨p + 1 + 1, 0, none⟩ (.bool n3)).setCell ⟨p + 1 + 1, 1, none⟩ (.slice a3 l3 c3)) = wf at *
  refine bodyPost_ret (v := .agg #[.bool n3, .slice a3 l3 c3]) ?_ rfl ⟨_, rfl, hnv, hkf⟩
  simp [results, Tryz.results50, go_sem, e0, e1]
end Go.Proofs
