/- Parts of the proofs over the numbers of any length: MulN, Quo. -/
import Derived.BigRegion
import Derived.Test.YtacbllkmcldniaaGreatDoorSpecC
import Derived.Test.YtacbllkmcldniaaGreatDoorBaseD
set_option linter.unusedSimpArgs false
set_option linter.unusedVariables false
namespace Go.Proofs
open Go.RowKit
set_option maxHeartbeats 800000
set_option linter.unusedVariables false
set_option linter.unusedSimpArgs false
set_option maxRecDepth 100000

/-- A whole number as a value. -/
def nv (x : Nat) : Value := .int .i64 (x : Int)
theorem info3 : (Tryz.prog.info? 3).map (fun i => (i.zero, i.size, i.bytes)) = some (some (.int .i64 0), 1, 8) := by kernel_rfl

/-- Mul's loops: O are the sums so far. -/
structure MoRel (w1 : World) (g : Nat) (X Y : List Nat) (w : World) (O : List Nat) (i k : Nat) : Prop where
  len : O.length = X.length + Y.length
  eq : ten O = ten (X.take i) * ten Y + 10 ^ i * X.getD i 0 * ten (Y.take k)
  hi : ∀ j, O.getD j 0 ≤ 81 * i + 81
  lo : ∀ j, i + k ≤ j → O.getD j 0 ≤ 81 * i
  row : RowAt w g 3 (O.map nv)
  keep : Keeps (· = g) w1 w

theorem MoRel.next {w1 : World} {g : Nat} {X Y : List Nat} {w w2 : World} {O : List Nat} {i k : Nat} (h : MoRel w1 g X Y w O i k) (hX : Dig X) (hY : Dig Y) (hi : i < X.length) (hk : k < Y.length)
    (hr : RowAt w2 g 3 ((O.set (i + k) (O.getD (i + k) 0 + X.getD i 0 * Y.getD k 0)).map nv)) (hkk : Keeps (· = g) w1 w2) :
    MoRel w1 g X Y w2 (O.set (i + k) (O.getD (i + k) 0 + X.getD i 0 * Y.getD k 0)) i (k + 1) := by
  have hxy : X.getD i 0 * Y.getD k 0 ≤ 9 * 9 := Nat.mul_le_mul (by have := hX.getD i; omega) (by have := hY.getD k; omega)
  have hl := h.lo (i + k) (Nat.le_refl _)
  have hg : ∀ j v, (O.set (i + k) v).getD j 0 = if j = i + k ∧ j < O.length then v else O.getD j 0 := by
    intro j v
    simp only [List.getD_eq_getElem?_getD, List.getElem?_set]
    by_cases h1 : i + k = j
    · subst h1
      by_cases h2 : i + k < O.length
      · simp [h2]
      · simp [h2]
    · rw [if_neg h1, if_neg (fun hh => h1 hh.1.symm)]
  refine ⟨by rw [List.length_set]; exact h.len, mul_step (by rw [h.len]; omega) h.eq, fun j => ?_, fun j hj => ?_, hr, hkk⟩
  · rw [hg]; split
    · omega
    · exact h.hi j
  · rw [hg, if_neg (by omega)]
    exact h.lo j (by omega)
theorem MoRel.up {w1 : World} {g : Nat} {X Y : List Nat} {w : World} {O : List Nat} {i k : Nat} (h : MoRel w1 g X Y w O i k) (hk : Y.length ≤ k) : MoRel w1 g X Y w O (i + 1) 0 :=
  ⟨h.len, mul_next hk h.eq, fun j => by have := h.hi j; omega, fun j _ => by have := h.hi j; omega, h.row, h.keep⟩

/-- Mul's last loop: D are the digits so far, c is carried. -/
structure McRel (w0 : World) (O : List Nat) (m : Nat) (w : World) (v cv iv : Value) (D : List Nat) (c i : Nat) : Prop where
  cv : cv = .int .i64 (c : Int)
  iv : iv = .int .i64 (i : Int)
  c1 : c ≤ 10 * m
  len : D.length = i
  dig : Dig D
  eq : ten D + 10 ^ i * c = ten (O.take i)
  own : OwnD w0 w v D
  bnd : i ≤ O.length
theorem McRel.next {w0 : World} {O : List Nat} {m : Nat} {w w1 : World} {v cv iv v1 : Value} {D : List Nat} {c i n : Nat} (h : McRel w0 O m w v cv iv D c i) (hO : O.getD i 0 ≤ 81 * m) (hn : n = c + O.getD i 0)
    (hlt : i < O.length) (hown : w1.ownsRow w0.heap.size 5 1 v1 (D.length + 1) (D.map bv ++ [.int .u8 ((n : Int) % 10)])) (hk : Keeps (fun _ => False) w0 w1) :
    McRel w0 O m w1 v1 (.int .i64 ((n : Int) / 10)) (.int .i64 ((i : Int) + 1)) (D ++ [n % 10]) (n / 10) (i + 1) := by
  have h1 := h.c1
  refine ⟨by rw [show (n : Int) / 10 = ((n / 10 : Nat) : Int) by omega], by rw [show (i : Int) + 1 = ((i + 1 : Nat) : Int) by omega], by omega, by rw [List.length_append, h.len]; rfl, h.dig.snoc (Nat.mod_lt _ (by omega)), carry_step h.len h.eq hn, ⟨?_, hk⟩, hlt⟩
  rw [List.length_append, List.map_append]
  simpa [bv] using hown

theorem Two3.own {w : World} {p : Nat} {nx ny : Bool} {ax ay : Option Addr} {lx cx ly cy : Nat} {W W' : World} {g : Nat} (h : Two3 w p nx ny ax ay lx cx ly cy W) (hk : Keeps (· = g) W W') (hg : p + 1 + 1 < g) (hp : p = w.heap.size) : Two3 w p nx ny ax ay lx cx ly cy W' :=
  ⟨h.keep.newer hk (fun i hi => by omega), hk.row h.r0 (by omega), hk.row h.r1 (by omega), hk.row h.r2 (by omega)⟩

theorem mul27 (vx vy : Value) (x y : Int) (bx b' : Nat) (w : World) (hx : NumV w bx vx x) (hy : NumV w b' vy y) (hlx : (digs x.natAbs).length ≤ 40000) (hly : (digs y.natAbs).length ≤ 40000) :
    Calls Tryz.prog 27 #[vx, vy] w (NRes w (x * y)) := by
  obtain ⟨i5, hi5, hz0, hz1, hz2⟩ := info_parts info5
  obtain ⟨i3, hi3, hy0, hy1, hy2⟩ := info_parts info3
  obtain ⟨ax, cx, rfl, rx⟩ := hx.sz
  obtain ⟨ay, cy, rfl, ry⟩ := hy.sz
  obtain ⟨nx, hnx⟩ : ∃ n, n = decide (x < 0) := ⟨_, rfl⟩
  obtain ⟨ny, hny⟩ : ∃ n, n = decide (y < 0) := ⟨_, rfl⟩
  obtain ⟨X, hXe⟩ : ∃ X, X = digs x.natAbs := ⟨_, rfl⟩
  obtain ⟨Y, hYe⟩ : ∃ Y, Y = digs y.natAbs := ⟨_, rfl⟩
  obtain ⟨m, hm⟩ : ∃ m, m = X.length := ⟨_, rfl⟩
  obtain ⟨n, hn⟩ : ∃ n, n = Y.length := ⟨_, rfl⟩
  rw [← hXe] at hlx rx; rw [← hYe] at hly ry
  rw [← hm] at hlx; rw [← hn] at hly
  rw [← hnx, ← hny, ← hXe, ← hYe, ← hm, ← hn]
  obtain ⟨W, hW⟩ : ∃ W, W = (((w.alloc (.cells #[.bool nx, .slice ax m cx] 24)).alloc (.cells #[.bool ny, .slice ay n cy] 24)).alloc (.cells #[.bool false, .slice none 0 0] 24)) := ⟨_, rfl⟩
  obtain ⟨p, hp⟩ : ∃ p, p = w.heap.size := ⟨_, rfl⟩
  have ht : Two3 w p nx ny ax ay m cx n cy W := by rw [hW, hp]; exact two3 w nx ny ax ay _ cx _ cy
  obtain ⟨z0, z1, z2, z3⟩ := ht.s
  rw [hp] at z0 z1 z2 z3
  have HP := hid hp; have HT := hid ht; have HRX := hid rx; have HRY := hid ry
  have HM := hid hm; have HN := hid hn; have HXE := hid hXe; have HYE := hid hYe; have HNX := hid hnx; have HNY := hid hny
  have DX := hid (show Dig X by rw [hXe]; exact dig_digs _); have DY := hid (show Dig Y by rw [hYe]; exact dig_digs _)
  clear hx hy rx ry hnx hny ht hXe hYe hm hn
  go_enter Tryz.func27, Tryz.ntmps27
  go_wp2_with (at_make; refine wpList_mk rfl _ _ _ rfl 3 i3 (.int .i64 0) (by kernel_rfl) hi3 hy0 hy1 (by rw [hy2]; omega) rfl .i64 .i64 _ _ (m + n) (m + n) rfl rfl (by push_cast; rfl) (by push_cast; rfl) (Nat.le_refl _) (by omega) ?_)
  rw [← hW, ← hp]
  obtain ⟨W1, hW1⟩ : ∃ V, V = W.alloc (.cells (Array.replicate (m + n) (.int .i64 0)) 3) := ⟨_, rfl⟩
  have hg0 : W.heap.size = p + 1 + 1 + 1 := by rw [hW, hp]; simp
  have hk1 : Keeps (fun _ => False) W W1 := by rw [hW1]; exact (Keeps.refl _ W).alloc _
  have hrow : RowAt W1 (p + 1 + 1 + 1) 3 ((List.replicate (m + n) 0).map nv) := by
    have h := RowAt.new W 3 (List.replicate (m + n) (.int .i64 0))
    rw [hg0] at h
    rw [List.map_replicate, hW1]
    simpa [nv] using h
  rw [← hW1]
  have HT1 := hid (HT.out.after hk1)
  have HRX1 := hid (HRX.out.keep (HT.out.keep.trans hk1) (fun _ _ h => h)); have HRY1 := hid (HRY.out.keep (HT.out.keep.trans hk1) (fun _ _ h => h))
  have HROW := hid hrow; have HG0 := hid hg0; have HK1 := hid hk1
  have hss : m + n ≤ 80000 := by omega
  clear hW hp hW1 hg0 hrow hk1 z0 z1 z2 z3
  -- the facts that every round reads
  have hfx : ∀ W', Keeps (· = p + 1 + 1 + 1) W1 W' → Two3 w p nx ny ax ay m cx n cy W' → True := fun _ _ _ => trivial
  clear hfx
  go_loopw [6] (fun iv wr => ∃ (O : List Nat) (i : Nat), iv = .int .i64 (i : Int) ∧ i ≤ m ∧ MoRel W1 (p + 1 + 1 + 1) X Y wr O i 0) (fun iv _ => m - (intOf iv).toNat)
  case atStart =>
    refine ⟨List.replicate (m + n) 0, 0, rfl, Nat.zero_le _, ⟨by rw [List.length_replicate, HM.out, HN.out], by rw [ten_replicate_zero]; simp, fun j => ?_, fun j _ => ?_, HROW.out, Keeps.refl _ _⟩⟩
    · rw [List.getD_eq_getElem?_getD, List.getElem?_replicate]; split <;> simp
    · rw [List.getD_eq_getElem?_getD, List.getElem?_replicate]; split <;> simp
  case round =>
    obtain ⟨O, i, rfl, him, hrel⟩ := hrel
    have HR := hid hrel
    clear hrel
    have h2 : Two3 w p nx ny ax ay m cx n cy wr := HT1.out.own HR.out.keep (by omega) HP.out
    obtain ⟨z0, z1, z2, z3⟩ := h2.s
    have HT2 := hid h2
    clear h2
    by_cases h1 : i < m
    · go_wp2_with fail
      obtain ⟨wo, rfl⟩ : ∃ wo : World, wo = wr := ⟨_, rfl⟩
      go_loopw [7] (fun kv wr => ∃ (O : List Nat) (k : Nat), kv = .int .i64 (k : Int) ∧ k ≤ n ∧ MoRel W1 (p + 1 + 1 + 1) X Y wr O i k) (fun kv _ => n - (intOf kv).toNat)
      case atStart => exact ⟨O, 0, rfl, Nat.zero_le _, HR.out⟩
      case round =>
        obtain ⟨O2, k, rfl, hkn, hrel⟩ := hrel
        have HR2 := hid hrel
        clear hrel
        have h2 : Two3 w p nx ny ax ay m cx n cy wr := HT1.out.own HR2.out.keep (by omega) HP.out
        clear z0 z1 z2 z3
        obtain ⟨z0, z1, z2, z3⟩ := h2.s
        have HT3 := hid h2
        clear h2
        by_cases hk : k < n
        · obtain ⟨b1, rfl, hc1⟩ := (HRX.out.keep HT3.out.keep (fun _ _ h => h)).at_ (i := i) (by rw [← HM.out]; exact h1)
          obtain ⟨b2, rfl, hc2⟩ := (HRY.out.keep HT3.out.keep (fun _ _ h => h)).at_ (i := k) (by rw [← HN.out]; exact hk)
          obtain ⟨xx, hxx⟩ : ∃ q, q = X.getD i 0 := ⟨_, rfl⟩
          obtain ⟨yy, hyy⟩ : ∃ q, q = Y.getD k 0 := ⟨_, rfl⟩
          obtain ⟨oo, hoo⟩ : ∃ q, q = O2.getD (i + k) 0 := ⟨_, rfl⟩
          have hik : i + k < O2.length := by rw [HR2.out.len, ← HM.out, ← HN.out]; omega
          have hc3 : wr.cell? ⟨p + 1 + 1 + 1, i + k, none⟩ = some (.int .i64 (oo : Int)) := by
            rw [HR2.out.row.cell, hoo]; simp [nv, hik]
          have hfz := HR2.out.row.frozen (i + k)
          rw [← hxx] at hc1
          rw [← hyy] at hc2
          have hx9 : xx < 10 := by rw [hxx]; exact DX.out.getD i
          have hy9 : yy < 10 := by rw [hyy]; exact DY.out.getD k
          have hxy : xx * yy ≤ 81 := Nat.mul_le_mul (show xx ≤ 9 by omega) (show yy ≤ 9 by omega)
          have hxyI : (xx : Int) * (yy : Int) ≤ 81 := by rw [← Int.natCast_mul]; omega
          have hxyI0 : 0 ≤ (xx : Int) * (yy : Int) := by rw [← Int.natCast_mul]; omega
          have ho81 : oo ≤ 81 * 40001 := by have := HR2.out.hi (i + k); rw [← hoo] at this; omega
          have HXX := hid hxx; have HYY := hid hyy; have HOO := hid hoo; have HIK := hid hik; have HXY := hid hxy
          have hikI : (i : Int) + (k : Int) < ((m + n : Nat) : Int) := by omega
          clear hxx hyy hoo hik hxy
          go_wp2_with fail
          go_region
          go_wp2_with fail
          have hset : ((oo : Int) + (xx : Int) * (yy : Int)) = ((O2.getD (i + k) 0 + X.getD i 0 * Y.getD k 0 : Nat) : Int) := by rw [← HXX.out, ← HYY.out, ← HOO.out]; push_cast; rfl
          have hrow2 : RowAt (wr.setCell ⟨p + 1 + 1 + 1, i + k, none⟩ (.int .i64 ((oo : Int) + (xx : Int) * (yy : Int)))).drew (p + 1 + 1 + 1) 3 ((O2.set (i + k) (O2.getD (i + k) 0 + X.getD i 0 * Y.getD k 0)).map nv) := by
            rw [List.map_set]
            unfold nv at *
            rw [← hset]
            exact (HR2.out.row.set (i + k) (.int .i64 ((oo : Int) + (xx : Int) * (yy : Int)))).drew
          refine ⟨⟨_, k + 1, by rw [show (k : Int) + 1 = ((k + 1 : Nat) : Int) by omega], by omega, HR2.out.next DX.out DY.out (by rw [← HM.out]; exact h1) (by rw [← HN.out]; exact hk) hrow2 ((HR2.out.keep.own (i + k) _).drew)⟩, by simp [intOf]; omega⟩
        · go_wp2_with fail
          exact ⟨⟨O2, i + 1, by rw [show (i : Int) + 1 = ((i + 1 : Nat) : Int) by omega], by omega, HR2.out.up (by rw [← HN.out]; omega)⟩, by simp [intOf]; omega⟩
    · go_wp2_with fail
      have him' : i = m := by omega
      subst him'
      have hT : ten O = x.natAbs * y.natAbs := by
        have h := HR.out.eq
        have hx0 : X.getD i 0 = 0 := by rw [List.getD_eq_getElem?_getD, List.getElem?_eq_none (by rw [← HM.out]; omega)]; rfl
        rw [ten_take_all (by rw [← HM.out]; omega), hx0, HXE.out, HYE.out, ten_digs, ten_digs] at h
        simpa using h
      have HTT := hid hT
      have HOL := hid (show O.length = i + n by rw [HR.out.len, HM.out, HN.out])
      clear hT
      obtain ⟨wo, rfl⟩ : ∃ wo : World, wo = wr := ⟨_, rfl⟩
      go_loopw [8, 9, 10] (fun v cv iv wr => ∃ D c j, McRel wo O (i + 1) wr v cv iv D c j) (fun _ _ iv _ => i + n - (intOf iv).toNat)
      case atStart => exact ⟨[], 0, 0, rfl, rfl, by omega, rfl, Dig.nil, by simp, OwnD.start _, Nat.zero_le _⟩
      case round =>
        obtain ⟨D, c, j, hrel⟩ := hrel
        have HC := hid hrel
        obtain ⟨rfl, rfl, hc, hlen, _, _, _, hbnd⟩ := hrel
        rw [HOL.out] at hbnd
        have HL := hid hlen; have HB := hid hbnd
        clear hlen hbnd z0 z1 z2 z3
        have HO := hid HC.out.own.own; have HK := hid HC.out.own.keep
        have h3 := HT2.out.after HK.out
        obtain ⟨z0, z1, z2, z3⟩ := h3.s
        have HT3 := hid h3
        clear h3
        by_cases hj : j < i + n
        · obtain ⟨oo, hoo⟩ : ∃ q, q = O.getD j 0 := ⟨_, rfl⟩
          have hc3 : wr.cell? ⟨p + 1 + 1 + 1, j, none⟩ = some (.int .i64 (oo : Int)) := by
            rw [(HK.out.row HR.out.row (fun h => h)).cell, hoo]
            have : j < O.length := by rw [HOL.out]; exact hj
            simp [nv, this]
          have ho81 : oo ≤ 81 * (i + 1) := by have := HR.out.hi j; rw [← hoo] at this; omega
          have hjI : (j : Int) < ((i + n : Nat) : Int) := by omega
          have HOO := hid hoo; have HJ := hid hj; have H81 := hid ho81
          have ho8 : oo ≤ 3300000 := by omega
          have hc8 : c ≤ 400010 := by omega
          clear hoo ho81 hc
          go_wp2_with (at_builtin; refine wpList_append_own _ rfl (.tmp 66) (.tmp 70) 22 rfl wo.heap.size 5 i5 (.int .u8 0) 1 1 Tryz.underlying22 hi5 hz0 hz1 hz2 rfl (by decide) _ _ _ rfl (HO.out.alloc _) ⟨wr.heap.size, 0, none⟩ 1 1 [.int .u8 (((c : Int) + oo) % 10)] rfl rfl (cell_one_new _ _ _) (by intro u hu; simp at hu; subst hu; rfl) (by unfold maxLen; rw [HL.out]; omega) (by rw [HL.out]; omega) (by have := HK.out.size; simp; omega) ?_; intro v1 w1 hown1 hgrow1 hnil1)
          refine ⟨⟨D ++ [(c + oo) % 10], (c + oo) / 10, j + 1, ?_⟩, by simp [intOf]; omega⟩
          have hkk := own_keeps rfl (HK.out.alloc _) (HO.out.alloc _) hgrow1
          have hnx := HC.out.next (w1 := w1) (v1 := v1) (n := c + oo) (by rw [← HOO.out]; exact H81.out) (by rw [← HOO.out]) (by rw [HOL.out]; exact HJ.out) (by push_cast; exact hown1) hkk
          push_cast at hnx ⊢
          exact hnx
        · have hji : j = i + n := by have := HB.out; omega
          obtain ⟨a1, c1, rfl, hr, hge⟩ := RdV.of_own HO.out
          have hten : ten D = x.natAbs * y.natAbs := by
            rw [carry_done HC.out.len (by rw [HOL.out]; omega) HC.out.eq ?_, HTT.out]
            rw [HTT.out, hji, Nat.pow_add]
            have e1 := ten_lt DX.out
            have e2 := ten_lt DY.out
            rw [← HM.out, HXE.out, ten_digs] at e1
            rw [← HN.out, HYE.out, ten_digs] at e2
            exact Nat.mul_lt_mul'' e1 e2
          have C2 := hid (sgn83 (nx != ny) a1 c1 D wr hr HC.out.dig (by rw [HL.out]; omega))
          rw [hten] at C2
          obtain ⟨n3, hn3⟩ : ∃ b, b = ((nx != ny) && decide (x.natAbs * y.natAbs ≠ 0)) := ⟨_, rfl⟩
          have HN3 := hid (show n3 = decide (x * y < 0) by rw [hn3, HNX.out, HNY.out, mul_sign, Bool.and_comm])
          rw [← hn3] at C2
          obtain ⟨l3, hl3⟩ : ∃ l, l = (digs (x.natAbs * y.natAbs)).length := ⟨_, rfl⟩
          rw [← hl3] at C2
          obtain ⟨l1, hl1⟩ : ∃ l, l = D.length := ⟨_, rfl⟩
          rw [← hl1] at C2 ⊢
          have HGE := hid hge; have HL3 := hid hl3
          clear hge hr hten hn3 hl3 hl1
          have hbne : (nx != ny) = (nx != ny) := rfl
          clear hbne
          go_wp2_with fail
          refine C2.out.mono ?_
          rintro e w2 ⟨rfl, hr, hk⟩
          have h4 := HT3.out.after hk
          obtain ⟨g0, g1, f0, f1⟩ := h4.r2.facts2
          have HT4 := hid h4; have HR4 := hid hr
          clear hr hk h4 C2
          go_wp2_with fail
          obtain ⟨hrow, hnv, hkf⟩ := num_done (w := w) (wr := w2) (p := p + 1 + 1) (z := x * y) (ng := n3) (a := a1) (l := l3) (c := c1) HT4.out.r2 (by have := HP.out; omega) HT4.out.keep
            (by have h := HR4.out; rwa [← Int.natAbs_mul] at h) (fun k hk => by have h1 := HGE.out k hk; have h3 := HT2.out.r2.lt; have h5 := HT2.out.keep.size; omega) (by rw [HL3.out, Int.natAbs_mul]) HN3.out
          obtain ⟨e0, e1, _, _⟩ := RowAt.facts2 hrow
          generalize ((w2.setCell ⟨p + 1 + 1, 0, none⟩ (.bool n3)).setCell ⟨p + 1 + 1, 1, none⟩ (.slice a1 l3 c1)) = wf at *
          refine bodyPost_ret (v := .agg #[.bool n3, .slice a1 l3 c1]) ?_ rfl ⟨_, rfl, hnv, hkf⟩
          simp [results, Tryz.results27, go_sem, e0, e1]
end Go.Proofs
namespace Go.Proofs
open Go.RowKit
set_option maxHeartbeats 1000000
set_option linter.unusedVariables false
set_option linter.unusedSimpArgs false
set_option maxRecDepth 100000

/-- Two numbers laid into blocks of their own, and room for two more. -/
structure Four4 (w : World) (p : Nat) (nx ny : Bool) (ax ay : Option Addr) (lx cx ly cy : Nat) (W : World) : Prop where
  keep : Keeps (fun _ => False) w W
  r0 : RowAt W p 24 [.bool nx, .slice ax lx cx]
  r1 : RowAt W (p + 1) 24 [.bool ny, .slice ay ly cy]
  r2 : RowAt W (p + 1 + 1) 24 [.bool false, .slice none 0 0]
  r3 : RowAt W (p + 1 + 1 + 1) 24 [.bool false, .slice none 0 0]
theorem four4 (w : World) (nx ny : Bool) (ax ay : Option Addr) (lx cx ly cy : Nat) :
    Four4 w w.heap.size nx ny ax ay lx cx ly cy ((((w.alloc (.cells #[.bool nx, .slice ax lx cx] 24)).alloc (.cells #[.bool ny, .slice ay ly cy] 24)).alloc (.cells #[.bool false, .slice none 0 0] 24)).alloc (.cells #[.bool false, .slice none 0 0] 24)) := by
  have h := two3 w nx ny ax ay lx cx ly cy
  refine ⟨h.keep.alloc _, h.r0.alloc _, h.r1.alloc _, h.r2.alloc _, ?_⟩
  have h3 := RowAt.new (((w.alloc (.cells #[.bool nx, .slice ax lx cx] 24)).alloc (.cells #[.bool ny, .slice ay ly cy] 24)).alloc (.cells #[.bool false, .slice none 0 0] 24)) 24 [.bool false, .slice none 0 0]
  rw [show (((w.alloc (.cells #[.bool nx, .slice ax lx cx] 24)).alloc (.cells #[.bool ny, .slice ay ly cy] 24)).alloc (.cells #[.bool false, .slice none 0 0] 24)).heap.size = w.heap.size + 1 + 1 + 1 by simp] at h3
  exact h3
theorem Four4.after {w : World} {p : Nat} {nx ny : Bool} {ax ay : Option Addr} {lx cx ly cy : Nat} {W W' : World} (h : Four4 w p nx ny ax ay lx cx ly cy W) (hk : Keeps (fun _ => False) W W') : Four4 w p nx ny ax ay lx cx ly cy W' :=
  ⟨h.keep.trans hk, hk.row h.r0 (fun h => h), hk.row h.r1 (fun h => h), hk.row h.r2 (fun h => h), hk.row h.r3 (fun h => h)⟩
theorem Four4.own {w : World} {p : Nat} {nx ny : Bool} {ax ay : Option Addr} {lx cx ly cy : Nat} {W W' : World} {g : Nat} (h : Four4 w p nx ny ax ay lx cx ly cy W) (hk : Keeps (· = g) W W') (hg : p + 1 + 1 + 1 < g) (hp : p = w.heap.size) : Four4 w p nx ny ax ay lx cx ly cy W' :=
  ⟨h.keep.newer hk (fun i hi => by omega), hk.row h.r0 (by omega), hk.row h.r1 (by omega), hk.row h.r2 (by omega), hk.row h.r3 (by omega)⟩
theorem Four4.s {w : World} {p : Nat} {nx ny : Bool} {ax ay : Option Addr} {lx cx ly cy : Nat} {W : World} (h : Four4 w p nx ny ax ay lx cx ly cy W) :
    W.cell? ⟨p, 0, none⟩ = some (.bool nx) ∧ W.cell? ⟨p, 1, none⟩ = some (.slice ax lx cx) ∧ W.cell? ⟨p + 1, 0, none⟩ = some (.bool ny) ∧ W.cell? ⟨p + 1, 1, none⟩ = some (.slice ay ly cy) :=
  ⟨h.r0.cell 0, h.r0.cell 1, h.r1.cell 0, h.r1.cell 1⟩

theorem tdiv_facts (x y : Int) : (x.tdiv y).natAbs = x.natAbs / y.natAbs ∧ decide (x.tdiv y < 0) = ((decide (x < 0) != decide (y < 0)) && decide (x.natAbs / y.natAbs ≠ 0)) ∧
    (x.tmod y).natAbs = x.natAbs % y.natAbs ∧ decide (x.tmod y < 0) = (decide (x < 0) && decide (x.natAbs % y.natAbs ≠ 0)) := by
  have par : ∀ z : Int, (∃ m : Nat, z = m ∧ z.natAbs = m ∧ decide (z < 0) = false) ∨ ∃ m : Nat, z = -(m : Int) ∧ z.natAbs = m ∧ decide (z < 0) = true := by
    intro z
    by_cases h0 : 0 ≤ z
    · exact .inl ⟨z.natAbs, by omega, rfl, decide_eq_false (by omega)⟩
    · exact .inr ⟨z.natAbs, by omega, rfl, decide_eq_true (by omega)⟩
  have dn : ∀ q : Nat, decide (-(q : Int) < 0) = decide (q ≠ 0) := fun q => decide_eq_decide.2 (by omega)
  have dp : ∀ q : Nat, decide ((q : Int) < 0) = false := fun q => decide_eq_false (by omega)
  rcases par x with ⟨a, hx, hxa, hxd⟩ | ⟨a, hx, hxa, hxd⟩ <;> rcases par y with ⟨b, hy, hyb, hyd⟩ | ⟨b, hy, hyb, hyd⟩ <;> rw [hxa, hyb, hxd, hyd] <;> subst hx <;> subst hy <;> clear hxa hyb hxd hyd
  · rw [← Int.ofNat_tdiv, ← Int.ofNat_tmod]
    exact ⟨Int.natAbs_natCast _, by rw [dp]; rfl, Int.natAbs_natCast _, by rw [dp]; rfl⟩
  · rw [Int.tdiv_neg, Int.tmod_neg, ← Int.ofNat_tdiv, ← Int.ofNat_tmod]
    exact ⟨by rw [Int.natAbs_neg, Int.natAbs_natCast], by rw [dn]; rfl, Int.natAbs_natCast _, by rw [dp]; rfl⟩
  · rw [Int.neg_tdiv, Int.neg_tmod, ← Int.ofNat_tdiv, ← Int.ofNat_tmod]
    exact ⟨by rw [Int.natAbs_neg, Int.natAbs_natCast], by rw [dn]; rfl, by rw [Int.natAbs_neg, Int.natAbs_natCast], by rw [dn]; rfl⟩
  · rw [Int.neg_tdiv, Int.tdiv_neg, Int.neg_tmod, Int.tmod_neg, ← Int.ofNat_tdiv, ← Int.ofNat_tmod, Int.neg_neg]
    exact ⟨Int.natAbs_natCast _, by rw [dp]; rfl, by rw [Int.natAbs_neg, Int.natAbs_natCast], by rw [dn]; rfl⟩

/-- A row of one value, laid out. -/
theorem own_lit (w : World) (v : Value) (e : TypeId) (base : Nat) (hb : base ≤ w.heap.size) : (w.alloc (.cells #[v] e)).ownsRow base e 1 (.slice (some ⟨w.heap.size, 0, none⟩) 1 1) 1 [v] := by
  refine ⟨rfl, .inr ⟨w.heap.size, 1, #[v], rfl, hb, ?_, Nat.le_refl _, by unfold maxLen; omega, rfl, rfl⟩⟩
  show (w.heap.push _)[w.heap.size]? = _
  simp

/-- QuoRem's outer loop: i digits are left. -/
structure QoRel (w1 : World) (g : Nat) (X : List Nat) (d : Nat) (w : World) (Q : List Nat) (R i : Nat) (ra : Option Addr) (rc : Nat) : Prop where
  len : Q.length = X.length
  dig : Dig Q
  zero : ∀ j, j < i → Q.getD j 0 = 0
  eq : ten (X.drop i) = ten (Q.drop i) * d + R
  row : RowAt w g 5 (Q.map bv)
  rd : RdV w ra rc (digs R)
  apart : ∀ k, InB ra k → g < k
  nil : ra = none → rc = 0
  keep : Keeps (· = g) w1 w

theorem getD_set (L : List Nat) (i v j : Nat) : (L.set i v).getD j 0 = if j = i ∧ j < L.length then v else L.getD j 0 := by
  simp only [List.getD_eq_getElem?_getD, List.getElem?_set]
  by_cases h1 : i = j
  · subst h1
    by_cases h2 : i < L.length
    · simp [h2]
    · simp [h2]
  · rw [if_neg h1, if_neg (fun hh => h1 hh.1.symm)]
/-- A digit more of the quotient. -/
theorem QoRel.next {w1 : World} {g : Nat} {X : List Nat} {d : Nat} {w w2 : World} {Q : List Nat} {R j : Nat} {ra ra2 : Option Addr} {rc rc2 : Nat} (h : QoRel w1 g X d w Q R (j + 1) ra rc) (hj : j < X.length) {t R2 : Nat}
    (ht : R2 + t * d = X.getD j 0 + 10 * R) (ht9 : t < 10) (hrow : RowAt w2 g 5 ((Q.set j t).map bv)) (hrd : RdV w2 ra2 rc2 (digs R2)) (hap : ∀ k, InB ra2 k → g < k) (hnil : ra2 = none → rc2 = 0) (hk : Keeps (· = g) w1 w2) :
    QoRel w1 g X d w2 (Q.set j t) R2 j ra2 rc2 := by
  refine ⟨by rw [List.length_set]; exact h.len, h.dig.set _ _ ht9, fun k hk => by rw [getD_set, if_neg (by omega)]; exact h.zero k (by omega), ?_, hrow, hrd, hap, hnil, hk⟩
  rw [ten_drop X j, ten_drop (Q.set j t) j, getD_set, if_pos ⟨rfl, by rw [h.len]; exact hj⟩, h.eq]
  have e : (Q.set j t).drop (j + 1) = Q.drop (j + 1) := by rw [List.drop_set, if_pos (by omega)]
  rw [e, Nat.add_mul, Nat.mul_assoc]
  omega

theorem bq_cell {w : World} {g j t : Nat} {Q : List Nat} (h : RowAt w g 5 ((Q.set j t).map bv)) (hj : j < Q.length) : w.cell? ⟨g, j, none⟩ = some (.int .u8 (t : Int)) := by
  rw [h.cell, List.getElem?_map, List.getElem?_set_self hj]
  rfl
theorem bq_set {w : World} {g j t : Nat} {Q : List Nat} (h : RowAt w g 5 ((Q.set j t).map bv)) : RowAt (w.setCell ⟨g, j, none⟩ (.int .u8 ((t : Int) + 1))) g 5 ((Q.set j (t + 1)).map bv) := by
  have h2 := h.set j (.int .u8 ((t : Int) + 1))
  rw [List.map_set, List.set_set] at h2
  rw [List.map_set]
  have e : bv (t + 1) = .int .u8 ((t : Int) + 1) := by unfold bv; push_cast; rfl
  rw [e]
  exact h2
theorem RdV.news {w : World} {b c : Nat} {L : List Nat} (h : RdV w (some ⟨b, 0, none⟩) c L) : ∀ j u, (L.map bv)[j]? = some u → w.cell? ((⟨b, 0, none⟩ : Addr).add j) = some u := by
  intro j u hu
  rw [List.getElem?_map] at hu
  rcases Nat.lt_or_ge j L.length with hj | hj
  · obtain ⟨b2, hb, hc⟩ := h.at_ hj
    injection hb with hb
    injection hb with hb
    subst hb
    rw [List.getElem?_eq_getElem hj] at hu
    have ha : (⟨b, 0, none⟩ : Addr).add j = ⟨b, j, none⟩ := by unfold Addr.add; split <;> simp_all
    rw [ha, hc, ← hu]
    simp [bv, List.getElem?_eq_getElem hj]
  · rw [List.getElem?_eq_none hj] at hu; cases hu
theorem set_getD {L : List Nat} {j : Nat} (h : L.getD j 0 = 0) : L.set j 0 = L := by
  apply List.ext_getElem?
  intro i
  rw [List.getElem?_set]
  by_cases hij : j = i
  · subst hij
    by_cases hl : j < L.length
    · rw [List.getD_eq_getElem?_getD, List.getElem?_eq_getElem hl, Option.getD_some] at h
      simp [hl, h]
    · simp [hl]
  · rw [if_neg hij]

theorem quoRem40 (vx vy : Value) (x y : Int) (bx b' : Nat) (w : World) (hx : NumV w bx vx x) (hy : NumV w b' vy y) (hy0 : y ≠ 0) (hlx : (digs x.natAbs).length ≤ 40000) (hly : (digs y.natAbs).length ≤ 40000) :
    Calls Tryz.prog 40 #[vx, vy] w fun e w' => ∃ v1 v2, e = .returned (.tuple #[v1, v2]) ∧ NumV w' w.heap.size v1 (x.tdiv y) ∧ NumV w' w.heap.size v2 (x.tmod y) ∧ Keeps (fun _ => False) w w' := by
  obtain ⟨i5, hi5, hz0, hz1, hz2⟩ := info_parts info5
  obtain ⟨ax, cx, rfl, rx⟩ := hx.sz
  obtain ⟨ay, cy, rfl, ry⟩ := hy.sz
  obtain ⟨nx, hnx⟩ : ∃ n, n = decide (x < 0) := ⟨_, rfl⟩
  obtain ⟨ny, hny⟩ : ∃ n, n = decide (y < 0) := ⟨_, rfl⟩
  obtain ⟨d, hd⟩ : ∃ d, d = y.natAbs := ⟨_, rfl⟩
  obtain ⟨X, hXe⟩ : ∃ X, X = digs x.natAbs := ⟨_, rfl⟩
  obtain ⟨m, hm⟩ : ∃ m, m = X.length := ⟨_, rfl⟩
  rw [← hXe] at hlx rx; rw [← hd] at hly ry
  rw [← hm] at hlx
  rw [← hnx, ← hny, ← hXe, ← hd, ← hm]
  have hd0 : 0 < d := by omega
  obtain ⟨n, hn⟩ : ∃ n, n = (digs d).length := ⟨_, rfl⟩
  rw [← hn] at hly ⊢
  obtain ⟨W, hW⟩ : ∃ W, W = ((((w.alloc (.cells #[.bool nx, .slice ax m cx] 24)).alloc (.cells #[.bool ny, .slice ay n cy] 24)).alloc (.cells #[.bool false, .slice none 0 0] 24)).alloc (.cells #[.bool false, .slice none 0 0] 24)) := ⟨_, rfl⟩
  obtain ⟨p, hp⟩ : ∃ p, p = w.heap.size := ⟨_, rfl⟩
  have ht : Four4 w p nx ny ax ay m cx n cy W := by rw [hW, hp]; exact four4 w nx ny ax ay _ cx _ cy
  obtain ⟨z0, z1, z2, z3⟩ := ht.s
  rw [hp] at z0 z1 z2 z3
  have HP := hid hp; have HT := hid ht; have HRX := hid rx; have HRY := hid ry
  have HM := hid hm; have HN := hid hn; have HXE := hid hXe; have HD := hid hd; have HNX := hid hnx; have HNY := hid hny; have HD0 := hid hd0
  have DX := hid (show Dig X by rw [hXe]; exact dig_digs _)
  clear hx hy rx ry hnx hny ht hXe hm hn hd hd0 hy0
  go_enter Tryz.func40, Tryz.ntmps40
  go_wp2_with (at_make; refine wpList_mk rfl _ _ _ rfl 5 i5 (.int .u8 0) (by kernel_rfl) hi5 hz0 hz1 (by rw [hz2]; omega) rfl .i64 .i64 _ _ m m rfl rfl rfl rfl (Nat.le_refl _) (by omega) ?_)
  rw [← hW, ← hp]
  obtain ⟨W1, hW1⟩ : ∃ V, V = W.alloc (.cells (Array.replicate m (.int .u8 0)) 5) := ⟨_, rfl⟩
  have hg0 : W.heap.size = p + 1 + 1 + 1 + 1 := by rw [hW, hp]; simp
  have hk1 : Keeps (fun _ => False) W W1 := by rw [hW1]; exact (Keeps.refl _ W).alloc _
  have hrow : RowAt W1 (p + 1 + 1 + 1 + 1) 5 ((List.replicate m 0).map bv) := by
    have h := RowAt.new W 5 (List.replicate m (.int .u8 0))
    rw [hg0] at h
    rw [List.map_replicate, hW1]
    simpa [bv] using h
  rw [← hW1]
  have hs1 : W1.heap.size = p + 1 + 1 + 1 + 1 + 1 := by rw [hW1]; simp [hg0]
  have HT1 := hid (HT.out.after hk1); have HS1 := hid hs1
  have HROW := hid hrow; have HG0 := hid hg0; have HK1 := hid hk1
  clear hW hp hW1 hg0 hrow hk1 z0 z1 z2 z3 hs1
  go_loopw [7, 8] (fun rv iv wr => ∃ (Q : List Nat) (R i : Nat) (ra : Option Addr) (rc : Nat), rv = .slice ra (digs R).length rc ∧ iv = .int .i64 ((i : Int) - 1) ∧ i ≤ m ∧ R < d ∧ QoRel W1 (p + 1 + 1 + 1 + 1) X d wr Q R i ra rc) (fun _ iv _ => (intOf iv + 1).toNat)
  case atStart =>
    refine ⟨List.replicate m 0, 0, m, none, 0, by rw [digs_zero]; rfl, rfl, Nat.le_refl _, HD0.out, ⟨by rw [List.length_replicate, HM.out], Dig.replicate_zero _, fun j _ => ?_, ?_, HROW.out, by rw [digs_zero]; exact ⟨Nat.le_refl _, .inl rfl, .inl rfl⟩, (fun k ⟨o, ho⟩ => by cases ho), fun _ => rfl, Keeps.refl _ _⟩⟩
    · rw [List.getD_eq_getElem?_getD, List.getElem?_replicate]; split <;> simp
    · rw [HM.out, List.drop_length, List.drop_of_length_le (by simp)]; simp
  case round =>
    obtain ⟨Q, R, i, ra, rc, rfl, rfl, him, hRd, hrel⟩ := hrel
    have HR := hid hrel
    have HRD := hid hRd
    clear hrel hRd
    have h2 : Four4 w p nx ny ax ay m cx n cy wr := HT1.out.own HR.out.keep (by omega) HP.out
    obtain ⟨z0, z1, z2, z3⟩ := h2.s
    have HT2 := hid h2
    clear h2
    obtain ⟨lr, hlr⟩ : ∃ l, l = (digs R).length := ⟨_, rfl⟩
    rw [← hlr]
    have HLR := hid hlr
    have hlrn : lr ≤ n := by rw [hlr, HN.out]; exact digs_mono (Nat.le_of_lt HRD.out)
    clear hlr
    by_cases h0 : i = 0
    · subst h0
      go_wp2_with fail
      have hqe : ten Q = x.natAbs / d ∧ R = x.natAbs % d := by
        have h := HR.out.eq
        rw [List.drop_zero, List.drop_zero, HXE.out, ten_digs] at h
        rw [h]
        have hR := HRD.out
        refine ⟨?_, ?_⟩
        · rw [Nat.mul_comm, Nat.mul_add_div HD0.out, Nat.div_eq_of_lt hR, Nat.add_zero]
        · rw [Nat.mul_comm, Nat.mul_add_mod, Nat.mod_eq_of_lt hR]
      have hrv : RdV wr (some ⟨p + 1 + 1 + 1 + 1, 0, none⟩) m Q := ⟨by rw [HR.out.len, HM.out]; exact Nat.le_refl _, .inr ⟨_, rfl⟩, .inr ⟨_, rfl, fun i hi => by
        rw [HR.out.row.cell, List.getElem?_map, List.getElem?_eq_getElem hi]
        simp [bv, List.getElem?_eq_getElem hi]⟩⟩
      have hk0 : Keeps (fun _ => False) wr wr.drew := (Keeps.refl _ wr).drew
      obtain ⟨f1, f2, f3, f4⟩ := tdiv_facts x y
      rw [← HNX.out, ← HNY.out, ← HD.out, ← hqe.1] at f2
      rw [← HD.out, ← hqe.1] at f1
      rw [← HD.out, ← hqe.2] at f3
      rw [← HNX.out, ← HD.out, ← hqe.2] at f4
      have C1 := hid (sgn83 (nx != ny) (some ⟨p + 1 + 1 + 1 + 1, 0, none⟩) m Q wr.drew (hrv.keep hk0 (fun _ _ h => h)) HR.out.dig (by rw [HR.out.len, ← HM.out]; omega))
      rw [← f2, ← f1, HR.out.len, ← HM.out] at C1
      obtain ⟨n3, hn3⟩ : ∃ b, b = decide (x.tdiv y < 0) := ⟨_, rfl⟩
      obtain ⟨n4, hn4⟩ : ∃ b, b = decide (x.tmod y < 0) := ⟨_, rfl⟩
      rw [← hn3] at C1
      have e4 : (digs (x.tmod y).natAbs).length = lr := by rw [f3]; exact HLR.out.symm
      have HC2 := hid (fun W' (hk : Keeps (fun _ => False) wr W') => by
        have h := sgn83 nx ra rc (digs R) W' (HR.out.rd.keep hk (fun _ _ h => h)) (dig_digs _) (by rw [← HLR.out]; omega)
        rw [ten_digs, ← f4, ← f3, ← hn4, e4] at h
        exact h)
      obtain ⟨l3, hl3⟩ : ∃ l, l = (digs (x.tdiv y).natAbs).length := ⟨_, rfl⟩
      rw [← hl3, show (nx != ny) = (!(nx == ny)) by cases nx <;> cases ny <;> rfl] at C1
      have HN3 := hid hn3; have HN4 := hid hn4; have HL3 := hid hl3; have HL4 := hid e4
      have HK0 := hid hk0; have HT3 := hid (HT2.out.after hk0)
      have hss : Hid (∀ W', Four4 w p nx ny ax ay m cx n cy W' → W'.cell? ⟨p, 0, none⟩ = some (.bool nx) ∧ W'.cell? ⟨p + 1, 0, none⟩ = some (.bool ny)) := hid (fun W' h => ⟨h.r0.cell 0, h.r1.cell 0⟩)
      have hs1 : Hid (∀ W' v, (W'.cell? ⟨p, 0, none⟩ = some (.bool nx) ∧ W'.cell? ⟨p + 1, 0, none⟩ = some (.bool ny)) → Four4 w p nx ny ax ay m cx n cy W' → (W'.setCell ⟨p + 1 + 1, 0, none⟩ v).cell? ⟨p, 0, none⟩ = some (.bool nx) ∧ (W'.setCell ⟨p + 1 + 1, 0, none⟩ v).cell? ⟨p + 1, 0, none⟩ = some (.bool ny)) := hid (fun W' v _ h => ⟨(h.r0.other (show p + 1 + 1 ≠ p by omega) v).cell 0, (h.r1.other (show p + 1 + 1 ≠ p + 1 by omega) v).cell 0⟩)
      have hs4 : Hid (∀ W' v1 v2 v3 v4, Four4 w p nx ny ax ay m cx n cy W' →
        ((W'.setCell ⟨p + 1 + 1, 0, none⟩ v1).cell? ⟨p, 0, none⟩ = some (.bool nx) ∧ (W'.setCell ⟨p + 1 + 1, 0, none⟩ v1).cell? ⟨p + 1, 0, none⟩ = some (.bool ny)) ∧
        (((W'.setCell ⟨p + 1 + 1, 0, none⟩ v1).setCell ⟨p + 1 + 1, 1, none⟩ v2).cell? ⟨p, 0, none⟩ = some (.bool nx) ∧ ((W'.setCell ⟨p + 1 + 1, 0, none⟩ v1).setCell ⟨p + 1 + 1, 1, none⟩ v2).cell? ⟨p + 1, 0, none⟩ = some (.bool ny)) ∧
        ((((W'.setCell ⟨p + 1 + 1, 0, none⟩ v1).setCell ⟨p + 1 + 1, 1, none⟩ v2).setCell ⟨p + 1 + 1 + 1, 0, none⟩ v3).cell? ⟨p, 0, none⟩ = some (.bool nx) ∧ (((W'.setCell ⟨p + 1 + 1, 0, none⟩ v1).setCell ⟨p + 1 + 1, 1, none⟩ v2).setCell ⟨p + 1 + 1 + 1, 0, none⟩ v3).cell? ⟨p + 1, 0, none⟩ = some (.bool ny)) ∧
        (((((W'.setCell ⟨p + 1 + 1, 0, none⟩ v1).setCell ⟨p + 1 + 1, 1, none⟩ v2).setCell ⟨p + 1 + 1 + 1, 0, none⟩ v3).setCell ⟨p + 1 + 1 + 1, 1, none⟩ v4).cell? ⟨p, 0, none⟩ = some (.bool nx) ∧ ((((W'.setCell ⟨p + 1 + 1, 0, none⟩ v1).setCell ⟨p + 1 + 1, 1, none⟩ v2).setCell ⟨p + 1 + 1 + 1, 0, none⟩ v3).setCell ⟨p + 1 + 1 + 1, 1, none⟩ v4).cell? ⟨p + 1, 0, none⟩ = some (.bool ny))) := hid (fun W' v1 v2 v3 v4 h => by
        have q1 := h.r0.other (show p + 1 + 1 ≠ p by omega) v1 (p := ⟨p + 1 + 1, 0, none⟩)
        have q2 := q1.other (show p + 1 + 1 ≠ p by omega) v2 (p := ⟨p + 1 + 1, 1, none⟩)
        have q3 := q2.other (show p + 1 + 1 + 1 ≠ p by omega) v3 (p := ⟨p + 1 + 1 + 1, 0, none⟩)
        have q4 := q3.other (show p + 1 + 1 + 1 ≠ p by omega) v4 (p := ⟨p + 1 + 1 + 1, 1, none⟩)
        have u1 := h.r1.other (show p + 1 + 1 ≠ p + 1 by omega) v1 (p := ⟨p + 1 + 1, 0, none⟩)
        have u2 := u1.other (show p + 1 + 1 ≠ p + 1 by omega) v2 (p := ⟨p + 1 + 1, 1, none⟩)
        have u3 := u2.other (show p + 1 + 1 + 1 ≠ p + 1 by omega) v3 (p := ⟨p + 1 + 1 + 1, 0, none⟩)
        have u4 := u3.other (show p + 1 + 1 + 1 ≠ p + 1 by omega) v4 (p := ⟨p + 1 + 1 + 1, 1, none⟩)
        exact ⟨⟨q1.cell 0, u1.cell 0⟩, ⟨q2.cell 0, u2.cell 0⟩, ⟨q3.cell 0, u3.cell 0⟩, ⟨q4.cell 0, u4.cell 0⟩⟩)
      clear hn3 hn4 hl3 e4 hk0 f1 f2 f3 f4 hqe hrv hs1
      go_region_held3 (fun w' => w'.cell? ⟨p, 0, none⟩ = some (.bool nx) ∧ w'.cell? ⟨p + 1, 0, none⟩ = some (.bool ny))
        (first | with_reducible exact hss.out _ HT3.out | with_reducible exact hss.out _ HT4.out | with_reducible exact hss.out _ HT5.out | with_reducible exact (hs4.out _ _ (.bool false) (.bool false) (.bool false) HT5.out).1 | with_reducible exact (hs4.out _ _ _ (.bool false) (.bool false) HT5.out).2.1 | with_reducible exact (hs4.out _ _ _ _ (.bool false) HT5.out).2.2.1 | with_reducible exact (hs4.out _ _ _ _ _ HT5.out).2.2.2)
        (first
         | (go_at_call 83; (with_reducible refine C1.out.mono ?_); rintro e w2 ⟨rfl, hr, hk⟩; have HRA := hid hr; have HT4 := hid (HT3.out.after hk); have HK4 := hid (HK0.out.trans hk); have C2 := hid (HC2.out _ HK4.out); obtain ⟨y0, y1⟩ := hss.out _ HT4.out; clear hr hk)
         | (go_at_call 83; (with_reducible refine C2.out.mono ?_); rintro e w3 ⟨rfl, hr, hk⟩; have HRB := hid hr; have HRA3 := hid (HRA.out.keep hk (fun _ _ h => h)); have HT5 := hid (HT4.out.after hk); obtain ⟨y0, y1⟩ := hss.out _ HT5.out; obtain ⟨g0, g1, f0, f1⟩ := HT5.out.r2.facts2; obtain ⟨g2, g3, f2, f3⟩ := HT5.out.r3.facts2; have d1 : p + 1 + 1 + 1 ≠ p + 1 + 1 := (by omega); have d2 : p + 1 + 1 ≠ p + 1 + 1 + 1 := (by omega); clear hr hk))
      go_wp2_with fail
      have hpw : w.heap.size ≤ p + 1 + 1 := by have := HP.out; omega
      have hlt5 := HT5.out.r3.lt
      have hge0 : ∀ k, InB (some (⟨p + 1 + 1 + 1 + 1, 0, none⟩ : Addr)) k → w.heap.size ≤ k ∧ k ≠ p + 1 + 1 := fun k ⟨o, ho⟩ => by
        injection ho with ho
        injection ho with ho
        have := HP.out
        omega
      obtain ⟨hrow, hnv, hkf⟩ := num_done (w := w) (wr := w3) (p := p + 1 + 1) (z := x.tdiv y) (ng := n3) (a := some ⟨p + 1 + 1 + 1 + 1, 0, none⟩) (l := l3) (c := m) HT5.out.r2 hpw HT5.out.keep HRA3.out hge0 HL3.out HN3.out
      have hk2 : Keeps (· = p + 1 + 1) w3 ((w3.setCell ⟨p + 1 + 1, 0, none⟩ (.bool n3)).setCell ⟨p + 1 + 1, 1, none⟩ (.slice (some ⟨p + 1 + 1 + 1 + 1, 0, none⟩) l3 m)) := ((Keeps.refl _ w3).own 0 _).own 1 _
      have hrb := HRB.out.keep hk2 (fun k hk hkp => by have := HR.out.apart k hk; omega)
      obtain ⟨hrow4, hnv4, hkf4⟩ := num_done (w := w) (p := p + 1 + 1 + 1) (z := x.tmod y) (ng := n4) (a := ra) (l := lr) (c := rc) (hk2.row HT5.out.r3 (by omega)) (by have := HP.out; omega) hkf hrb
        (fun k hk => by have := HR.out.apart k hk; have := HP.out; omega) HL4.out.symm HN4.out
      have hk3 : Keeps (· = p + 1 + 1 + 1) ((w3.setCell ⟨p + 1 + 1, 0, none⟩ (.bool n3)).setCell ⟨p + 1 + 1, 1, none⟩ (.slice (some ⟨p + 1 + 1 + 1 + 1, 0, none⟩) l3 m)) ((((w3.setCell ⟨p + 1 + 1, 0, none⟩ (.bool n3)).setCell ⟨p + 1 + 1, 1, none⟩ (.slice (some ⟨p + 1 + 1 + 1 + 1, 0, none⟩) l3 m)).setCell ⟨p + 1 + 1 + 1, 0, none⟩ (.bool n4)).setCell ⟨p + 1 + 1 + 1, 1, none⟩ (.slice ra lr rc)) := ((Keeps.refl _ _).own 0 _).own 1 _
      have hrow3 := hk3.row hrow (by omega)
      have hnv3 : NumV ((((w3.setCell ⟨p + 1 + 1, 0, none⟩ (.bool n3)).setCell ⟨p + 1 + 1, 1, none⟩ (.slice (some ⟨p + 1 + 1 + 1 + 1, 0, none⟩) l3 m)).setCell ⟨p + 1 + 1 + 1, 0, none⟩ (.bool n4)).setCell ⟨p + 1 + 1 + 1, 1, none⟩ (.slice ra lr rc)) w.heap.size (.agg #[.bool n3, .slice (some ⟨p + 1 + 1 + 1 + 1, 0, none⟩) l3 m]) (x.tdiv y) := by
        obtain ⟨a, c, e1, e2, e3⟩ := hnv
        refine ⟨a, c, e1, e2.keep hk3 (fun k hk hkp => ?_), e3⟩
        injection e1 with e1
        simp only [Array.mk.injEq, List.cons.injEq, Value.slice.injEq, and_true] at e1
        obtain ⟨_, e1, _⟩ := e1
        rw [← e1] at hk
        obtain ⟨o, ho⟩ := hk
        injection ho with ho
        injection ho with ho
        omega
      obtain ⟨a0, a1, _, _⟩ := hrow3.facts2
      obtain ⟨a2, a3, _, _⟩ := hrow4.facts2
      generalize ((((w3.setCell ⟨p + 1 + 1, 0, none⟩ (.bool n3)).setCell ⟨p + 1 + 1, 1, none⟩ (.slice (some ⟨p + 1 + 1 + 1 + 1, 0, none⟩) l3 m)).setCell ⟨p + 1 + 1 + 1, 0, none⟩ (.bool n4)).setCell ⟨p + 1 + 1 + 1, 1, none⟩ (.slice ra lr rc)) = wf at *
      refine bodyPost_ret (v := .tuple #[.agg #[.bool n3, .slice (some ⟨p + 1 + 1 + 1 + 1, 0, none⟩) l3 m], .agg #[.bool n4, .slice ra lr rc]]) ?_ rfl ⟨_, _, rfl, hnv3, hnv4, hkf4⟩
      simp [results, Tryz.results40, go_sem, a0, a1, a2, a3]
    · obtain ⟨j, rfl⟩ : ∃ j, i = j + 1 := ⟨i - 1, by omega⟩
      have hjm : ((j + 1 : Nat) : Int) - 1 = (j : Int) := by omega
      obtain ⟨b1, rfl, hc1⟩ := (HRX.out.keep HT2.out.keep (fun _ _ h => h)).at_ (i := j) (by rw [← HM.out]; omega)
      obtain ⟨xx, hxx⟩ : ∃ q, q = X.getD j 0 := ⟨_, rfl⟩
      rw [← hxx] at hc1
      have hx9 : xx < 10 := by rw [hxx]; exact DX.out.getD j
      have HXX := hid hxx
      clear hxx
      -- ROUND
      rcases HR.out.rd.2.1 with rfl | ⟨b2, rfl⟩
      · have hR0 : R = 0 := by
          rcases HR.out.rd.2.2 with h | ⟨b, h, _⟩
          · exact digs_eq_nil.1 h
          · cases h
        have hl0 : lr = 0 := by rw [HLR.out, hR0, digs_zero]; rfl
        have hc0 := HR.out.nil rfl
        subst hl0; subst hc0
        have HR0 := hid hR0
        clear hR0
        go_wp2_with (at_builtin; refine wpList_append_own_none rfl (.tmp 26) (.tmp 27) 22 rfl wr.heap.size 5 i5 1 Tryz.underlying22 hi5 _ 1 [.int .u8 (xx : Int)] rfl (own_lit wr _ 5 _ (Nat.le_refl _)) rfl ?_)
        obtain ⟨w1, hw1⟩ : ∃ V, V = wr.alloc (.cells #[.int .u8 (xx : Int)] 5) := ⟨_, rfl⟩
        have HOW : Hid (w1.ownsRow wr.heap.size 5 1 (.slice (some ⟨wr.heap.size, 0, none⟩) 1 1) 1 [.int .u8 (xx : Int)]) := hid (by rw [hw1]; exact own_lit wr _ 5 _ (Nat.le_refl _))
        have HKX : Keeps (fun _ => False) wr w1 := by rw [hw1]; exact (Keeps.refl _ wr).alloc _
        rw [← hw1]
        clear hw1
        obtain ⟨v1, hv1⟩ : ∃ v, v = Value.slice (some ⟨wr.heap.size, 0, none⟩) 1 1 := ⟨_, rfl⟩
        rw [← hv1] at HOW ⊢
        clear hv1
        have hown2 : w1.ownsRow wr.heap.size 5 1 v1 (1 + 0) ((xx :: digs R).map bv) := by have h := HOW.out; rw [HR0.out, digs_zero]; simpa [bv] using h
        obtain ⟨a1, c1, rfl, hr, hge, hnc⟩ := RdV.of_own2 hown2
        have hdg := digs_cons xx R hx9
        have C3 := hid (trim103_any a1 c1 (xx :: digs R) w1 hr (by have := HLR.out; simp only [List.length_cons]; omega))
        rw [hdg, show (xx :: digs R).length = 1 + 0 by have := HLR.out; simp only [List.length_cons]; omega] at C3
        rw [show (xx :: digs R).length = 1 + 0 by have := HLR.out; simp only [List.length_cons]; omega]
        have HG1 := hid (show ∀ k, InB a1 k → p + 1 + 1 + 1 + 1 < k from fun k hk => by have h1 := hge k hk; have h2 := HS1.out; have h3 := HR.out.keep.size; omega)
        have HNC := hid hnc
        clear hr hge hnc hdg hown2
        go_wp2_with fail
        refine C3.out.mono ?_
        rintro e w2 ⟨rfl, hr2, rfl⟩
        have HR2 := hid hr2
        clear hr2 C3
        obtain ⟨N, hN⟩ : ∃ N, N = xx + 10 * R := ⟨_, rfl⟩
        rw [← hN] at HR2 ⊢
        have HNN := hid hN
        have HN10 := hid (show N < 10 * d by have := HRD.out; omega)
        have HKW := hid (HR.out.keep.trans (HKX.any (S := (· = p + 1 + 1 + 1 + 1))))
        have HROWQ := hid (HKX.row HR.out.row (fun h => h))
        clear hN
        go_wp2_with fail
        go_loopw [7] (fun rv wq => ∃ (t R2 : Nat) (ra : Option Addr) (rc : Nat), rv = .slice ra (digs R2).length rc ∧ R2 + t * d = N ∧ RowAt wq (p + 1 + 1 + 1 + 1) 5 ((Q.set j t).map bv) ∧ RdV wq ra rc (digs R2) ∧ (∀ k, InB ra k → p + 1 + 1 + 1 + 1 < k) ∧ (ra = none → rc = 0) ∧ Keeps (· = p + 1 + 1 + 1 + 1) W1 wq) (fun _ wq => 10 - (match wq.cell? ⟨p + 1 + 1 + 1 + 1, j, none⟩ with | some v => (intOf v).toNat | none => 0))
        case atStart => exact ⟨0, N, a1, c1, rfl, by omega, by rw [set_getD (HR.out.zero j (by omega))]; exact HROWQ.out, HR2.out, HG1.out, HNC.out, HKW.out⟩
        case round =>
          obtain ⟨t, R2, rb, rd, rfl, htN, hrq, hrd, hap, hnil, hkq⟩ := hrel
          have ht9 : t < 10 := by
            rcases Nat.lt_or_ge t 10 with h | h
            · exact h
            · have h1 : 10 * d ≤ t * d := Nat.mul_le_mul_right _ h
              have h2 := HN10.out
              omega
          have hqc := bq_cell hrq (by rw [HR.out.len, ← HM.out]; omega)
          have HTN := hid htN; have HRQ := hid hrq; have HRD2 := hid hrd; have HAP := hid hap; have HNIL := hid hnil; have HKQ := hid hkq; have HQC := hid hqc
          clear htN hrq hrd hap hnil hkq hqc
          have h2 : Four4 w p nx ny (some ⟨b1, 0, none⟩) ay m cx n cy wr := HT1.out.own HKQ.out (by omega) HP.out
          clear z0 z1 z2 z3
          obtain ⟨z0, z1, z2, z3⟩ := h2.s
          have HT4 := hid h2
          clear h2
          have hlen2 : (digs R2).length ≤ n + 1 := by
            refine digs_len ?_
            have h1 := lt_digs d
            rw [← HN.out] at h1
            have h2 := HN10.out
            have h3 := HTN.out
            rw [Nat.pow_succ]
            have h4 : R2 ≤ N := by rw [← h3]; exact Nat.le_add_right _ _
            omega
          have CC := hid (compare85_any rb ay rd cy (digs R2) (digs d) wr HRD2.out (HRY.out.keep HT4.out.keep (fun _ _ h => h)) (by omega) (by rw [← HN.out]; omega))
          rw [cmpL_digs, ← HN.out] at CC
          obtain ⟨ci, hci⟩ : ∃ c, c = cmpI R2 d := ⟨_, rfl⟩
          rw [← hci] at CC
          obtain ⟨l2, hl2⟩ : ∃ l, l = (digs R2).length := ⟨_, rfl⟩
          rw [← hl2] at CC hlen2 ⊢
          have HL2 := hid hl2
          clear hl2
          by_cases hdr : d ≤ R2
          · have hcc : 0 ≤ ci := by rw [hci]; unfold cmpI; (repeat' split) <;> omega
            clear hci
            go_wp2_with fail
            refine CC.out.mono ?_
            rintro e w3 ⟨rfl, hq⟩
            have hkk := quiet_keeps (fun _ => False) hq
            have HT5 := hid (HT4.out.after hkk)
            clear z0 z1 z2 z3
            obtain ⟨z0, z1, z2, z3⟩ := HT5.out.s
            have C4 := hid (less86 rb ay rd cy R2 d w3 (HRD2.out.keep hkk (fun _ _ h => h)) (HRY.out.keep HT5.out.keep (fun _ _ h => h)) hdr (by rw [← HL2.out]; omega))
            rw [← HL2.out, ← HN.out] at C4
            have HKK := hid hkk; have HDR := hid hdr
            clear hq hkk CC hdr
            go_wp2_with fail
            refine C4.out.mono ?_
            rintro e w4 ⟨a4, c4, rfl, hr4, hge4, hk4, hn4⟩
            have hkk4 := HKK.out.trans hk4
            have hrq4 := hkk4.row HRQ.out (fun h => h)
            have hq4 : w4.cell? ⟨p + 1 + 1 + 1 + 1, j, none⟩ = some (.int .u8 (t : Int)) := (cell_of_block (p := ⟨p + 1 + 1 + 1 + 1, j, none⟩) (hkk4.block _ HRQ.out.lt (fun h => h))).trans HQC.out
            have hf4 := hrq4.frozen j
            have HRQ4 := hid hrq4; have HR4 := hid hr4; have HKK4 := hid hkk4; have HN4 := hid hn4
            have HGE4 := hid (show ∀ k, InB a4 k → p + 1 + 1 + 1 + 1 < k from fun k hk => by have h1 := hge4 k hk; have h2 := HRQ.out.lt; have h3 := HKK.out.size; omega)
            clear hrq4 hr4 hkk4 hge4 hk4 hn4 C4
            go_wp2_with fail
            have hset := bq_set HRQ4.out
            refine ⟨⟨t + 1, R2 - d, a4, c4, rfl, ?_, hset, HR4.out.keep ((Keeps.refl (· = p + 1 + 1 + 1 + 1) w4).own j _) (fun k hk hkp => by have := HGE4.out k hk; omega), HGE4.out, HN4.out, (HKQ.out.trans (HKK4.out.any)).own j _⟩, ?_⟩
            · have h1 := HTN.out; have h2 := HDR.out
              rw [Nat.add_mul, Nat.one_mul]; omega
            · have hc5 := bq_cell hset (by rw [HR.out.len, ← HM.out]; omega)
              push_cast at hc5
              rw [hc5, HQC.out]
              simp [intOf]
              omega
          · have hcc : ci < 0 := by rw [hci]; unfold cmpI; (repeat' split) <;> omega
            clear hci
            have HDR := hid hdr
            clear hdr
            go_wp2_with fail
            refine CC.out.mono ?_
            rintro e w3 ⟨rfl, hq⟩
            have hkk := quiet_keeps (fun _ => False) hq
            have HKK := hid hkk
            clear hq hkk CC
            go_wp2_with fail
            refine ⟨⟨Q.set j t, R2, j, rb, rd, by rw [HL2.out], rfl, by omega, by have := HDR.out; omega, HR.out.next (by rw [← HM.out]; omega) (by rw [HTN.out, HNN.out, HXX.out]) ht9 (HKK.out.row HRQ.out (fun h => h)) (HRD2.out.keep HKK.out (fun _ _ h => h)) HAP.out HNIL.out (HKQ.out.trans HKK.out.any)⟩, by simp [intOf]⟩
      · go_wp2_with (at_builtin; refine wpList_append_own _ rfl (.tmp 26) (.tmp 27) 22 rfl wr.heap.size 5 i5 (.int .u8 0) 1 1 Tryz.underlying22 hi5 hz0 hz1 hz2 rfl (by decide) _ 1 [.int .u8 (xx : Int)] rfl (own_lit wr _ 5 _ (Nat.le_refl _)) ⟨b2, 0, none⟩ lr rc ((digs R).map bv) rfl (by rw [List.length_map, HLR.out, Nat.mul_one]) ((HR.out.rd.keep ((Keeps.refl (fun _ => False) wr).alloc _) (fun _ _ h => h)).news) (by intro u hu; obtain ⟨q, _, rfl⟩ := List.mem_map.1 hu; rfl) (by unfold maxLen; omega) (by omega) (by simp) ?_; intro v1 w1 hown1 hgrow1 hnil1; have HOW := hid hown1; have HKX : Keeps (fun _ => False) wr w1 := own_keeps rfl ((Keeps.refl _ wr).alloc _) (own_lit wr _ 5 _ (Nat.le_refl _)) hgrow1; clear hown1 hgrow1 hnil1)
        have hown2 : w1.ownsRow wr.heap.size 5 1 v1 (1 + lr) ((xx :: digs R).map bv) := by have h := HOW.out; simpa [bv] using h
        obtain ⟨a1, c1, rfl, hr, hge, hnc⟩ := RdV.of_own2 hown2
        have hdg := digs_cons xx R hx9
        have C3 := hid (trim103_any a1 c1 (xx :: digs R) w1 hr (by have := HLR.out; simp only [List.length_cons]; omega))
        rw [hdg, show (xx :: digs R).length = 1 + lr by have := HLR.out; simp only [List.length_cons]; omega] at C3
        rw [show (xx :: digs R).length = 1 + lr by have := HLR.out; simp only [List.length_cons]; omega]
        have HG1 := hid (show ∀ k, InB a1 k → p + 1 + 1 + 1 + 1 < k from fun k hk => by have h1 := hge k hk; have h2 := HS1.out; have h3 := HR.out.keep.size; omega)
        have HNC := hid hnc
        clear hr hge hnc hdg hown2
        go_wp2_with fail
        refine C3.out.mono ?_
        rintro e w2 ⟨rfl, hr2, rfl⟩
        have HR2 := hid hr2
        clear hr2 C3
        obtain ⟨N, hN⟩ : ∃ N, N = xx + 10 * R := ⟨_, rfl⟩
        rw [← hN] at HR2 ⊢
        have HNN := hid hN
        have HN10 := hid (show N < 10 * d by have := HRD.out; omega)
        have HKW := hid (HR.out.keep.trans (HKX.any (S := (· = p + 1 + 1 + 1 + 1))))
        have HROWQ := hid (HKX.row HR.out.row (fun h => h))
        clear hN
        go_wp2_with fail
        go_loopw [7] (fun rv wq => ∃ (t R2 : Nat) (ra : Option Addr) (rc : Nat), rv = .slice ra (digs R2).length rc ∧ R2 + t * d = N ∧ RowAt wq (p + 1 + 1 + 1 + 1) 5 ((Q.set j t).map bv) ∧ RdV wq ra rc (digs R2) ∧ (∀ k, InB ra k → p + 1 + 1 + 1 + 1 < k) ∧ (ra = none → rc = 0) ∧ Keeps (· = p + 1 + 1 + 1 + 1) W1 wq) (fun _ wq => 10 - (match wq.cell? ⟨p + 1 + 1 + 1 + 1, j, none⟩ with | some v => (intOf v).toNat | none => 0))
        case atStart => exact ⟨0, N, a1, c1, rfl, by omega, by rw [set_getD (HR.out.zero j (by omega))]; exact HROWQ.out, HR2.out, HG1.out, HNC.out, HKW.out⟩
        case round =>
          obtain ⟨t, R2, rb, rd, rfl, htN, hrq, hrd, hap, hnil, hkq⟩ := hrel
          have ht9 : t < 10 := by
            rcases Nat.lt_or_ge t 10 with h | h
            · exact h
            · have h1 : 10 * d ≤ t * d := Nat.mul_le_mul_right _ h
              have h2 := HN10.out
              omega
          have hqc := bq_cell hrq (by rw [HR.out.len, ← HM.out]; omega)
          have HTN := hid htN; have HRQ := hid hrq; have HRD2 := hid hrd; have HAP := hid hap; have HNIL := hid hnil; have HKQ := hid hkq; have HQC := hid hqc
          clear htN hrq hrd hap hnil hkq hqc
          have h2 : Four4 w p nx ny (some ⟨b1, 0, none⟩) ay m cx n cy wr := HT1.out.own HKQ.out (by omega) HP.out
          clear z0 z1 z2 z3
          obtain ⟨z0, z1, z2, z3⟩ := h2.s
          have HT4 := hid h2
          clear h2
          have hlen2 : (digs R2).length ≤ n + 1 := by
            refine digs_len ?_
            have h1 := lt_digs d
            rw [← HN.out] at h1
            have h2 := HN10.out
            have h3 := HTN.out
            rw [Nat.pow_succ]
            have h4 : R2 ≤ N := by rw [← h3]; exact Nat.le_add_right _ _
            omega
          have CC := hid (compare85_any rb ay rd cy (digs R2) (digs d) wr HRD2.out (HRY.out.keep HT4.out.keep (fun _ _ h => h)) (by omega) (by rw [← HN.out]; omega))
          rw [cmpL_digs, ← HN.out] at CC
          obtain ⟨ci, hci⟩ : ∃ c, c = cmpI R2 d := ⟨_, rfl⟩
          rw [← hci] at CC
          obtain ⟨l2, hl2⟩ : ∃ l, l = (digs R2).length := ⟨_, rfl⟩
          rw [← hl2] at CC hlen2 ⊢
          have HL2 := hid hl2
          clear hl2
          by_cases hdr : d ≤ R2
          · have hcc : 0 ≤ ci := by rw [hci]; unfold cmpI; (repeat' split) <;> omega
            clear hci
            go_wp2_with fail
            refine CC.out.mono ?_
            rintro e w3 ⟨rfl, hq⟩
            have hkk := quiet_keeps (fun _ => False) hq
            have HT5 := hid (HT4.out.after hkk)
            clear z0 z1 z2 z3
            obtain ⟨z0, z1, z2, z3⟩ := HT5.out.s
            have C4 := hid (less86 rb ay rd cy R2 d w3 (HRD2.out.keep hkk (fun _ _ h => h)) (HRY.out.keep HT5.out.keep (fun _ _ h => h)) hdr (by rw [← HL2.out]; omega))
            rw [← HL2.out, ← HN.out] at C4
            have HKK := hid hkk; have HDR := hid hdr
            clear hq hkk CC hdr
            go_wp2_with fail
            refine C4.out.mono ?_
            rintro e w4 ⟨a4, c4, rfl, hr4, hge4, hk4, hn4⟩
            have hkk4 := HKK.out.trans hk4
            have hrq4 := hkk4.row HRQ.out (fun h => h)
            have hq4 : w4.cell? ⟨p + 1 + 1 + 1 + 1, j, none⟩ = some (.int .u8 (t : Int)) := (cell_of_block (p := ⟨p + 1 + 1 + 1 + 1, j, none⟩) (hkk4.block _ HRQ.out.lt (fun h => h))).trans HQC.out
            have hf4 := hrq4.frozen j
            have HRQ4 := hid hrq4; have HR4 := hid hr4; have HKK4 := hid hkk4; have HN4 := hid hn4
            have HGE4 := hid (show ∀ k, InB a4 k → p + 1 + 1 + 1 + 1 < k from fun k hk => by have h1 := hge4 k hk; have h2 := HRQ.out.lt; have h3 := HKK.out.size; omega)
            clear hrq4 hr4 hkk4 hge4 hk4 hn4 C4
            go_wp2_with fail
            have hset := bq_set HRQ4.out
            refine ⟨⟨t + 1, R2 - d, a4, c4, rfl, ?_, hset, HR4.out.keep ((Keeps.refl (· = p + 1 + 1 + 1 + 1) w4).own j _) (fun k hk hkp => by have := HGE4.out k hk; omega), HGE4.out, HN4.out, (HKQ.out.trans (HKK4.out.any)).own j _⟩, ?_⟩
            · have h1 := HTN.out; have h2 := HDR.out
              rw [Nat.add_mul, Nat.one_mul]; omega
            · have hc5 := bq_cell hset (by rw [HR.out.len, ← HM.out]; omega)
              push_cast at hc5
              rw [hc5, HQC.out]
              simp [intOf]
              omega
          · have hcc : ci < 0 := by rw [hci]; unfold cmpI; (repeat' split) <;> omega
            clear hci
            have HDR := hid hdr
            clear hdr
            go_wp2_with fail
            refine CC.out.mono ?_
            rintro e w3 ⟨rfl, hq⟩
            have hkk := quiet_keeps (fun _ => False) hq
            have HKK := hid hkk
            clear hq hkk CC
            go_wp2_with fail
            refine ⟨⟨Q.set j t, R2, j, rb, rd, by rw [HL2.out], rfl, by omega, by have := HDR.out; omega, HR.out.next (by rw [← HM.out]; omega) (by rw [HTN.out, HNN.out, HXX.out]) ht9 (HKK.out.row HRQ.out (fun h => h)) (HRD2.out.keep HKK.out (fun _ _ h => h)) HAP.out HNIL.out (HKQ.out.trans HKK.out.any)⟩, by simp [intOf]⟩
end Go.Proofs
