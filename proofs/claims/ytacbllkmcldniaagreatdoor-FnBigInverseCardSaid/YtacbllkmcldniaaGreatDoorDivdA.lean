/- Parts of the proofs over the numbers of any length: DmQ, Dm, Divided. -/
import Derived.Test.YtacbllkmcldniaaGreatDoorBaseA
import Derived.Test.YtacbllkmcldniaaGreatDoorShiftA
import Derived.Test.YtacbllkmcldniaaGreatDoorSpecC
import Derived.Test.YtacbllkmcldniaaGreatDoorSpecD
set_option linter.unusedSimpArgs false
set_option linter.unusedVariables false
namespace Go.Proofs

/-- Quotient and rest, the rest not below 0. -/
def dmQ (x y : Int) : Int := if x.tmod y < 0 then (if y < 0 then x.tdiv y + 1 else x.tdiv y - 1) else x.tdiv y
def dmM (x y : Int) : Int := if x.tmod y < 0 then (if y < 0 then x.tmod y - y else x.tmod y + y) else x.tmod y
end Go.Proofs
namespace Go.Proofs
set_option linter.unusedVariables false

/-! Quotient and rest by a number above 0; bits. -/
theorem dm_pos {x p : Int} (hp : 0 < p) : dmQ x p = x / p ∧ dmM x p = x % p := by
  have h1 := Int.mul_tdiv_add_tmod x p
  have h2 : (x.tmod p).natAbs < p.natAbs := by rw [Int.natAbs_tmod]; exact Nat.mod_lt _ (by omega)
  have key : ∀ q r : Int, r + p * q = x → 0 ≤ r → r < p → q = x / p ∧ r = x % p := by
    intro q r e h0 hr
    obtain ⟨a, b⟩ := (Int.ediv_emod_unique hp).2 ⟨e, h0, hr⟩
    exact ⟨a.symm, b.symm⟩
  unfold dmQ dmM
  by_cases hm : x.tmod p < 0
  · rw [if_pos hm, if_pos hm, if_neg (by omega), if_neg (by omega)]
    refine key _ _ ?_ (by omega) (by omega)
    rw [Int.mul_sub]; omega
  · rw [if_neg hm, if_neg hm]
    exact key _ _ (by omega) (by omega) (by omega)
end Go.Proofs
namespace Go.Proofs
open Go.RowKit
set_option maxHeartbeats 1000000
set_option linter.unusedVariables false
set_option linter.unusedSimpArgs false
set_option maxRecDepth 100000

theorem RdV.keepRow {w w' : World} {a : Option Addr} {c : Nat} {L : List Nat} {p : Nat} {n : Bool} {v : Value} (h : RdV w a c L) (hr : RowAt w p 24 [.bool n, v]) (hk : Keeps (fun k => k = p) w w') : RdV w' a c L := by
  obtain ⟨h1, h2, h3⟩ := h
  refine ⟨h1, h2, ?_⟩
  rcases h3 with h3 | ⟨b, h3, h4⟩
  · exact .inl h3
  · refine .inr ⟨b, h3, fun i hi => ?_⟩
    have h0 := h4 0 (by omega)
    have hne : b ≠ p := by
      rintro rfl
      have h5 := hr.cell 0
      simp only [List.getElem?_cons_zero] at h5
      rw [h0] at h5
      cases h5
    have hlt := World.block_lt_of_cell? w ⟨b, 0, none⟩ h0
    exact (cell_of_block (p := ⟨b, i, none⟩) (hk.block b hlt hne)).trans (h4 i hi)
theorem NumV.keepRow {w w' : World} {base p : Nat} {vz v : Value} {z : Int} {n : Bool} (h : NumV w base vz z) (hr : RowAt w p 24 [.bool n, v]) (hk : Keeps (fun k => k = p) w w') : NumV w' base vz z := by
  obtain ⟨a, c, h1, h2, h3⟩ := h
  exact ⟨a, c, h1, h2.keepRow hr hk, h3⟩

theorem divided36 (vx vy : Value) (x y : Int) (bx b' : Nat) (w : World) (hx : NumV w bx vx x) (hy : NumV w b' vy y) (hy0 : y ≠ 0) (hlx : (digs x.natAbs).length ≤ 40000) (hly : (digs y.natAbs).length ≤ 40000) :
    Calls Tryz.prog 36 #[vx, vy] w fun e w' => ∃ v1 v2, e = .returned (.tuple #[v1, v2]) ∧ NumV w' w.heap.size v1 (dmQ x y) ∧ NumV w' w.heap.size v2 (dmM x y) ∧ Keeps (fun _ => False) w w' := by
  obtain ⟨ax, cx, rfl, rx, ox⟩ := hx
  obtain ⟨ay, cy, rfl, ry, oy⟩ := hy
  obtain ⟨nx, hnx⟩ : ∃ n, n = decide (x < 0) := ⟨_, rfl⟩
  obtain ⟨ny, hny⟩ : ∃ n, n = decide (y < 0) := ⟨_, rfl⟩
  obtain ⟨lx, hlx'⟩ : ∃ l, l = (digs x.natAbs).length := ⟨_, rfl⟩
  obtain ⟨ly, hly'⟩ : ∃ l, l = (digs y.natAbs).length := ⟨_, rfl⟩
  have HQR := hid (fun W (hk : Keeps (fun _ => False) w W) => quoRem40 (.agg #[.bool nx, .slice ax lx cx]) (.agg #[.bool ny, .slice ay ly cy]) x y 0 0 W ⟨ax, cx, by rw [hnx, hlx'], rx.keep hk (fun _ _ h => h), fun _ _ => Nat.zero_le _⟩ ⟨ay, cy, by rw [hny, hly'], ry.keep hk (fun _ _ h => h), fun _ _ => Nat.zero_le _⟩ hy0 hlx hly)
  rw [← hnx, ← hny, ← hlx', ← hly']
  have Hnx := hid hnx; have Hny := hid hny; have Hlx := hid hlx'; have Hly := hid hly'; have RY := hid ry
  clear hnx hny hlx' hly' rx ox oy ry
  obtain ⟨B, hB⟩ : ∃ B, B = w.heap.size := ⟨_, rfl⟩
  go_enter Tryz.func36, Tryz.ntmps36
  go_wp2_with fail
  rw [← hB]
  obtain ⟨W0, hW0⟩ : ∃ W, W = ((((w.alloc (.cells #[.bool nx, .slice ax lx cx] 24)).alloc (.cells #[.bool ny, .slice ay ly cy] 24)).alloc (.cells #[.bool false, .slice none 0 0] 24)).alloc (.cells #[.bool false, .slice none 0 0] 24)) := ⟨_, rfl⟩
  have hk0 : Keeps (fun _ => False) w W0 := by rw [hW0]; exact ((((Keeps.refl _ w).alloc _).alloc _).alloc _).alloc _
  have ry0 : RowAt W0 (B + 1) 24 [.bool ny, .slice ay ly cy] := by
    rw [hW0, hB]
    have h1 := RowAt.new (w.alloc (.cells #[.bool nx, .slice ax lx cx] 24)) 24 [.bool ny, .slice ay ly cy]
    rw [show (w.alloc (.cells #[.bool nx, .slice ax lx cx] 24)).heap.size = w.heap.size + 1 by simp] at h1
    exact RowAt.alloc (RowAt.alloc h1 _) _
  have r20 : RowAt W0 (B + 1 + 1) 24 [.bool false, .slice none 0 0] := by
    rw [hW0, hB]
    have h1 := RowAt.new ((w.alloc (.cells #[.bool nx, .slice ax lx cx] 24)).alloc (.cells #[.bool ny, .slice ay ly cy] 24)) 24 [.bool false, .slice none 0 0]
    rw [show ((w.alloc (.cells #[.bool nx, .slice ax lx cx] 24)).alloc (.cells #[.bool ny, .slice ay ly cy] 24)).heap.size = w.heap.size + 1 + 1 by simp] at h1
    exact RowAt.alloc h1 _
  have r30 : RowAt W0 (B + 1 + 1 + 1) 24 [.bool false, .slice none 0 0] := by
    rw [hW0, hB]
    have h1 := RowAt.new (((w.alloc (.cells #[.bool nx, .slice ax lx cx] 24)).alloc (.cells #[.bool ny, .slice ay ly cy] 24)).alloc (.cells #[.bool false, .slice none 0 0] 24)) 24 [.bool false, .slice none 0 0]
    rw [show (((w.alloc (.cells #[.bool nx, .slice ax lx cx] 24)).alloc (.cells #[.bool ny, .slice ay ly cy] 24)).alloc (.cells #[.bool false, .slice none 0 0] 24)).heap.size = w.heap.size + 1 + 1 + 1 by simp] at h1
    exact h1
  rw [← hW0]
  have hsz : W0.heap.size = B + 4 := by rw [hW0, hB]; simp
  have HK0 := hid hk0; have RY0 := hid ry0; have R20 := hid r20; have R30 := hid r30; have HSZ := hid hsz; have HB := hid hB
  have HQ := hid (HQR.out W0 hk0)
  clear hW0 hk0 ry0 r20 r30 hsz hB HQR
  refine HQ.out.mono ?_
  rintro e w1 ⟨v1, v2, rfl, n1, n2, hk⟩
  obtain ⟨a1, c1, rfl, g1, o1⟩ := n1
  obtain ⟨a2, c2, rfl, g2, o2⟩ := n2
  obtain ⟨s1, hs1⟩ : ∃ n, n = decide (x.tdiv y < 0) := ⟨_, rfl⟩
  obtain ⟨s2, hs2⟩ : ∃ n, n = decide (x.tmod y < 0) := ⟨_, rfl⟩
  obtain ⟨l1, hl1⟩ : ∃ l, l = (digs (x.tdiv y).natAbs).length := ⟨_, rfl⟩
  obtain ⟨l2, hl2⟩ : ∃ l, l = (digs (x.tmod y).natAbs).length := ⟨_, rfl⟩
  rw [← hs1, ← hs2, ← hl1, ← hl2]
  obtain ⟨q, hq⟩ : ∃ q, q = w1.heap.size := ⟨_, rfl⟩
  obtain ⟨W1, hW1⟩ : ∃ W, W = (w1.alloc (.cells #[.bool s1, .slice a1 l1 c1] 24)).alloc (.cells #[.bool s2, .slice a2 l2 c2] 24) := ⟨_, rfl⟩
  have hk1 : Keeps (fun _ => False) w1 W1 := by rw [hW1]; exact ((Keeps.refl _ w1).alloc _).alloc _
  have rq : RowAt W1 q 24 [.bool s1, .slice a1 l1 c1] := by
    rw [hW1, hq]; exact RowAt.alloc (RowAt.new w1 24 [.bool s1, .slice a1 l1 c1]) _
  have rr : RowAt W1 (q + 1) 24 [.bool s2, .slice a2 l2 c2] := by
    rw [hW1, hq]
    have h1 := RowAt.new (w1.alloc (.cells #[.bool s1, .slice a1 l1 c1] 24)) 24 [.bool s2, .slice a2 l2 c2]
    rw [show (w1.alloc (.cells #[.bool s1, .slice a1 l1 c1] 24)).heap.size = w1.heap.size + 1 by simp] at h1
    exact h1
  have n1 : NumV W1 (B + 4) (.agg #[.bool s1, .slice a1 l1 c1]) (x.tdiv y) := (NumV.lower (base := W0.heap.size) ⟨a1, c1, by rw [hs1, hl1], g1.keep hk1 (fun _ _ h => h), o1⟩ (Nat.le_of_eq HSZ.out.symm))
  have n2 : NumV W1 (B + 4) (.agg #[.bool s2, .slice a2 l2 c2]) (x.tmod y) := (NumV.lower (base := W0.heap.size) ⟨a2, c2, by rw [hs2, hl2], g2.keep hk1 (fun _ _ h => h), o2⟩ (Nat.le_of_eq HSZ.out.symm))
  have hsg := sign35 _ _ _ W1 n2
  have HSG := hid hsg
  have hBq : B + 4 ≤ q := by rw [hq, ← HSZ.out]; exact hk.size
  have HBq := hid hBq
  clear hBq
  have HN1 := hid n1; have HN2 := hid n2; have RQ := hid rq; have RR := hid rr; have HK1 := hid (hk.trans hk1); have HW1 := hid hW1; have Hq := hid hq; have Hs2 := hid hs2
  clear n1 n2 rq rr hk hk1 hsg hs1 hs2 hl1 hl2 g1 g2 o1 o2 HQ
  go_wp2_with fail
  rw [← hq]
  rw [← hW1]
  clear hq hW1
  refine HSG.out.mono ?_
  rintro e w2 ⟨rfl, hk2⟩
  have hkw : Keeps (fun _ => False) W0 w2 := HK1.out.trans hk2
  have rq := hk2.row RQ.out (fun h => h)
  have rr := hk2.row RR.out (fun h => h)
  have HN12 := hid (HN1.out.keep hk2 (fun _ _ h => h)); have HN22 := hid (HN2.out.keep hk2 (fun _ _ h => h)); have RQ2 := hid rq; have RR2 := hid rr; have RY2 := hid (hkw.row RY0.out (fun h => h)); have R22 := hid (hkw.row R20.out (fun h => h)); have R32 := hid (hkw.row R30.out (fun h => h)); have HK2 := hid (HK0.out.trans hkw)
  have RYv := hid (RY.out.keep HK2.out (fun _ _ h => h))
  obtain ⟨sg, hsg⟩ : ∃ g, g = sgn (x.tmod y) := ⟨_, rfl⟩
  rw [← hsg]
  have Hsg := hid hsg
  clear hkw hk2 rq rr hsg HSG
  go_upto_if 16 with fail
  go_cut [] from 16 to 29 (fun wx => ∃ nq aq lq cq nr ar lr cr, RowAt wx q 24 [.bool nq, .slice aq lq cq] ∧ RowAt wx (q + 1) 24 [.bool nr, .slice ar lr cr] ∧ NumV wx (B + 4) (.agg #[.bool nq, .slice aq lq cq]) (dmQ x y) ∧ NumV wx (B + 4) (.agg #[.bool nr, .slice ar lr cr]) (dmM x y) ∧ RowAt wx (B + 1 + 1) 24 [.bool false, .slice none 0 0] ∧ RowAt wx (B + 1 + 1 + 1) 24 [.bool false, .slice none 0 0] ∧ Keeps (fun _ => False) w wx)
  case first =>
    by_cases hm : x.tmod y < 0
    · have t1 : decide (sg < 0) = true := by rw [Hsg.out]; unfold sgn; simp; (repeat' split) <;> omega
      have Hm := hid hm
      clear hm
      rw [t1]
      clear t1
      obtain ⟨p0, p1, p2, p3⟩ := NumC.facts (base := 0) (z := 0) RR2.out
      obtain ⟨y0, y1, _, _⟩ := NumC.facts (base := 0) (z := 0) RY2.out
      have hyb : y.natAbs = ((y.natAbs : Int)).natAbs := (Int.natAbs_natCast _).symm
      have C31 := hid (fun W => abs31_any ny ay ly cy W)
      have C28 := hid (fun W (hk : Keeps (fun _ => False) w2 W) => add28 (.agg #[.bool s2, .slice a2 l2 c2]) (.agg #[.bool false, .slice ay ly cy]) (x.tmod y) (y.natAbs : Int) (B + 4) 0 W (HN22.out.keep hk (fun _ _ h => h))
        ⟨ay, cy, by rw [decide_eq_false (show ¬ ((y.natAbs : Int) < 0) by omega), ← hyb, Hly.out], by rw [← hyb]; exact RYv.out.keep hk (fun _ _ h => h), fun _ _ => Nat.zero_le _⟩
        (Nat.le_trans (digs_mono (by rw [Int.natAbs_tmod]; exact Nat.mod_le _ _)) (by omega)) (by rw [← hyb]; omega))
      have D0 := hid ((Keeps.refl (fun _ => False) w2).drew)
      have PF := hid (fun W (hk : Keeps (fun _ => False) w2 W) => NumC.facts (base := 0) (z := 0) (hk.row RR2.out (fun h => h)))
      have YF := hid (fun W (hk : Keeps (fun _ => False) w2 W) => NumC.facts (base := 0) (z := 0) (hk.row RY2.out (fun h => h)))
      clear hyb
      go_upto_region 3 with fail
      go_cut [] from 17 to 20 (fun wx => ∃ n5 a3 l5 c3, RowAt wx (q + 1) 24 [.bool n5, .slice a3 l5 c3] ∧ NumV wx (B + 4) (.agg #[.bool n5, .slice a3 l5 c3]) (x.tmod y + (y.natAbs : Int)) ∧ Keeps (fun k => k = q + 1) w2 wx)
      case first =>
       go_region_law (first
        | (go_simp; go_at_call 31; (with_reducible refine (C31.out _).mono ?_); rintro e w3 ⟨rfl, hk⟩; have D3 := hid (D0.out.trans hk); obtain ⟨j0, j1, _, _⟩ := PF.out w3 D3.out; clear hk)
        | (go_simp; go_at_call 28; (with_reducible refine (C28.out _ D3.out).mono ?_); rintro e w4 ⟨v, rfl, hv, hk⟩; obtain ⟨a3, c3, rfl, g3, o3⟩ := hv; have D4 := hid (D3.out.trans hk); obtain ⟨k0, k1, k2, k3⟩ := PF.out w4 D4.out; have G3 := hid g3; have O3 := hid o3; clear hk g3 o3))
       all_goals
        have hrow4 := D4.out.row RR2.out (fun h => h)
        have hlt : q + 1 < w3.heap.size := Nat.lt_of_lt_of_le RR2.out.lt D3.out.size
        have hge : B + 4 ≤ w3.heap.size := by have := HBq.out; omega
        obtain ⟨a5, c5, hN5, hN6⟩ := NumC.store (base := B + 4) hrow4 hlt hge G3.out O3.out
        have hkk : Keeps (fun k => k = q + 1) w2 w4 := D4.out.any
        have HR5 := hid hN5; have HN5 := hid hN6
        have HK5 := hid hkk
        clear hrow4 hlt hge hN5 hN6 k0 k1 j0 j1 p0 p1 p2 p3 y0 y1
        go_wp2_with fail
        go_meet
       all_goals exact ⟨_, a5, _, c5, HR5.out, HN5.out, (HK5.out.setCell ⟨q + 1, 0, none⟩ (.inl rfl) _).setCell ⟨q + 1, 1, none⟩ (.inl rfl) _⟩
      case rest =>
        obtain ⟨n5, a3, l5, c3, r5, nv5, k5⟩ := hcut
        have hBq := HBq.out
        have rq5 := k5.row RQ2.out (by omega)
        have ry5 := k5.row RY2.out (by omega)
        have r25 := k5.row R22.out (by omega)
        have r35 := k5.row R32.out (by omega)
        have nq5 := HN12.out.keepRow RR2.out k5
        have hkw5 : Keeps (fun _ => False) w wc := HK2.out.trans' k5 (fun i hi h => by have := HB.out; omega)
        have ry6 := RYv.out.keepRow RR2.out k5
        obtain ⟨j0, j1, _, _⟩ := NumC.facts (base := 0) (z := 0) ry5
        have HS5 := hid (sign35 (.agg #[.bool ny, .slice ay ly cy]) y 0 wc ⟨ay, cy, by rw [Hny.out, Hly.out], ry6, fun _ _ => Nat.zero_le _⟩)
        obtain ⟨sy, hsy⟩ : ∃ g, g = sgn y := ⟨_, rfl⟩
        rw [← hsy] at HS5
        have Hsy := hid hsy; have R5 := hid r5; have NV5 := hid nv5; have RQ5 := hid rq5; have NQ5 := hid nq5; have R25 := hid r25; have R35 := hid r35; have KW5 := hid hkw5
        clear r5 nv5 k5 hBq rq5 ry5 r25 r35 nq5 hkw5 ry6 hsy p0 p1 p2 p3 y0 y1
        go_wp2_with fail
        refine HS5.out.mono ?_
        rintro e w6 ⟨rfl, hk6⟩
        have HK6 := hid hk6
        clear hk6
        have FinQ : Hid (∀ (w7 w8 : World) (a : Option Addr) (c : Nat) (zq : Int), Keeps (fun _ => False) wc w7 → Keeps (fun _ => False) w7 w8 → RdV w8 a c (digs zq.natAbs) → (∀ k, InB a k → w7.heap.size ≤ k) → zq = dmQ x y → x.tmod y + (y.natAbs : Int) = dmM x y →
            ∀ wx, wx = ((w8.setCell ⟨q, 0, none⟩ (.bool (decide (zq < 0)))).setCell ⟨q, 1, none⟩ (.slice a (digs zq.natAbs).length c)) → ∃ nq aq lq cq nr ar lr cr, RowAt wx q 24 [.bool nq, .slice aq lq cq] ∧ RowAt wx (q + 1) 24 [.bool nr, .slice ar lr cr] ∧ NumV wx (B + 4) (.agg #[.bool nq, .slice aq lq cq]) (dmQ x y) ∧ NumV wx (B + 4) (.agg #[.bool nr, .slice ar lr cr]) (dmM x y) ∧ RowAt wx (B + 1 + 1) 24 [.bool false, .slice none 0 0] ∧ RowAt wx (B + 1 + 1 + 1) 24 [.bool false, .slice none 0 0] ∧ Keeps (fun _ => False) w wx) := hid (by
          rintro w7 w8 a c zq h1 h2 h3 h4 h5 h6 wx rfl
          have hBq := HBq.out
          have h12 := h1.trans h2
          have rq := h12.row RQ5.out (fun h => h)
          obtain ⟨a5, c5, k1, k2⟩ := NumC.store (base := B + 4) (base3 := w7.heap.size) rq (Nat.lt_of_lt_of_le RQ5.out.lt h1.size) (by have := RQ5.out.lt; have := h1.size; omega) h3 h4
          have hk : Keeps (fun k => k = q) w8 ((w8.setCell ⟨q, 0, none⟩ (.bool (decide (zq < 0)))).setCell ⟨q, 1, none⟩ (.slice a (digs zq.natAbs).length c)) := ((Keeps.refl (fun k => k = q) w8).setCell ⟨q, 0, none⟩ (.inl rfl) _).setCell ⟨q, 1, none⟩ (.inl rfl) _
          refine ⟨_, a5, _, c5, n5, a3, l5, c3, k1, hk.row (h12.row R5.out (fun h => h)) (by omega), ?_, ?_, hk.row (h12.row R25.out (fun h => h)) (by omega), hk.row (h12.row R35.out (fun h => h)) (by omega), (KW5.out.trans h12).trans' hk (fun i hi h => by have := HB.out; omega)⟩
          · rw [← h5]; exact k2
          · rw [← h6]; exact (NV5.out.keep h12 (fun _ _ h => h)).keepRow rq hk)
        have QF := hid (fun W (hk : Keeps (fun _ => False) wc W) => NumC.facts (base := 0) (z := 0) (hk.row RQ5.out (fun h => h)))
        have C33 := hid (fun W => of33 1 W (by omega) (by omega))
        have hql : (digs (x.tdiv y).natAbs).length ≤ 50000 := Nat.le_trans (digs_mono (by rw [Int.natAbs_tdiv]; exact Nat.div_le_self _ _)) (by omega)
        have h1l : (digs (1 : Int).natAbs).length ≤ 50000 := Nat.le_trans (digs_len (k := 2) (by decide)) (by omega)
        have C50 := hid (fun W (hk : Keeps (fun _ => False) wc W) (v : Value) (b : Nat) (hv : NumV W b v 1) => sub50 _ v (x.tdiv y) 1 (B + 4) b W (NQ5.out.keep hk (fun _ _ h => h)) hv hql h1l)
        have C28' := hid (fun W (hk : Keeps (fun _ => False) wc W) (v : Value) (b : Nat) (hv : NumV W b v 1) => add28 _ v (x.tdiv y) 1 (B + 4) b W (NQ5.out.keep hk (fun _ _ h => h)) hv hql h1l)
        clear hql h1l
        obtain ⟨q0, q1, _, _⟩ := QF.out w6 HK6.out
        have D6 := hid (HK6.out.drew)
        go_upto_if 23 with fail
        by_cases hy1 : 0 < y
        · have t1 : decide (0 < sy) = true := by rw [Hsy.out]; unfold sgn; simp; (repeat' split) <;> omega
          rw [t1]
          clear t1
          have Hy1 := hid (show ¬ y < 0 by omega)
          have Hy2 := hid hy1
          clear hy1
          go_wp2_with fail
          go_region_law (first
            | (go_simp; go_at_call 33; (with_reducible refine (C33.out _).mono ?_); rintro e w7 ⟨v, rfl, hv, hk⟩; have D7 := hid (D6.out.trans hk); have HV := hid hv; obtain ⟨j0, j1, _, _⟩ := QF.out w7 D7.out; clear hk hv)
            | (go_simp; go_at_call 50; (with_reducible refine (C50.out _ D7.out _ _ HV.out).mono ?_); rintro e w8 ⟨v, rfl, hv, hk⟩; obtain ⟨a8, c8, rfl, g8, o8⟩ := hv; obtain ⟨k0, k1, k2, k3⟩ := QF.out w8 (D7.out.trans hk); have K8 := hid hk; have G8 := hid g8; have O8 := hid o8; clear hk g8 o8))
          all_goals
            go_wp2_with fail
            go_meet
          all_goals exact FinQ.out w7 w8 a8 c8 _ D7.out K8.out G8.out O8.out (by unfold dmQ; rw [if_pos Hm.out, if_neg (show ¬ y < 0 by have := Hy2.out; omega)]) (by unfold dmM; rw [if_pos Hm.out, if_neg (show ¬ y < 0 by have := Hy2.out; omega)]; have := Hy2.out; omega) _ rfl
        · have t1 : decide (0 < sy) = false := by rw [Hsy.out]; unfold sgn; simp; (repeat' split) <;> omega
          rw [t1]
          clear t1
          have Hy2 := hid (show y < 0 by omega)
          clear hy1
          go_wp2_with fail
          go_region_law (first
            | (go_simp; go_at_call 33; (with_reducible refine (C33.out _).mono ?_); rintro e w7 ⟨v, rfl, hv, hk⟩; have D7 := hid (D6.out.trans hk); have HV := hid hv; obtain ⟨j0, j1, _, _⟩ := QF.out w7 D7.out; clear hk hv)
            | (go_simp; go_at_call 28; (with_reducible refine (C28'.out _ D7.out _ _ HV.out).mono ?_); rintro e w8 ⟨v, rfl, hv, hk⟩; obtain ⟨a8, c8, rfl, g8, o8⟩ := hv; obtain ⟨k0, k1, k2, k3⟩ := QF.out w8 (D7.out.trans hk); have K8 := hid hk; have G8 := hid g8; have O8 := hid o8; clear hk g8 o8))
          all_goals
            go_wp2_with fail
            go_meet
          all_goals exact FinQ.out w7 w8 a8 c8 _ D7.out K8.out G8.out O8.out (by unfold dmQ; rw [if_pos Hm.out, if_pos Hy2.out]) (by unfold dmM; rw [if_pos Hm.out, if_pos Hy2.out]; have := Hy2.out; omega) _ rfl
    · have t1 : decide (sg < 0) = false := by rw [Hsg.out]; unfold sgn; simp; (repeat' split) <;> omega
      have Hm := hid hm
      clear hm
      rw [t1]
      clear t1
      go_wp2_with fail
      go_meet
      case rel =>
        refine ⟨_, _, _, _, _, _, _, _, RQ2.out, RR2.out, ?_, ?_, R22.out, R32.out, HK2.out⟩
        · have h := HN12.out
          rw [show x.tdiv y = dmQ x y by unfold dmQ; rw [if_neg (Int.not_lt.mpr Hm.out)]] at h
          exact h
        · have h := HN22.out
          rw [show x.tmod y = dmM x y by unfold dmM; rw [if_neg (Int.not_lt.mpr Hm.out)]] at h
          exact h
  case rest =>
    obtain ⟨nq, aq, lq, cq, nr, ar, lr, cr, rq, rr, nvq, nvr, r2, r3, hk⟩ := hcut
    obtain ⟨q0, q1, _, _⟩ := NumC.facts (base := 0) (z := 0) rq
    obtain ⟨p0, p1, _, _⟩ := NumC.facts (base := 0) (z := 0) rr
    obtain ⟨x0, x1, x2, x3⟩ := NumC.facts (base := 0) (z := 0) r2
    obtain ⟨y0, y1, y2, y3⟩ := NumC.facts (base := 0) (z := 0) r3
    have HR2 := hid r2; have HR3 := hid r3; have HNQ := hid nvq; have HNR := hid nvr; have HKc := hid hk
    clear rq rr nvq nvr r2 r3 hk
    have hB := HBq.out
    have e1 : (q = B + 1) = False := by apply eq_false; omega
    have e2 : (B + 1 = q) = False := by apply eq_false; omega
    have e3 : (q = B + 1 + 1) = False := by apply eq_false; omega
    have e4 : (B + 1 + 1 = q) = False := by apply eq_false; omega
    have e5 : (q = B + 1 + 1 + 1) = False := by apply eq_false; omega
    have e6 : (B + 1 + 1 + 1 = q) = False := by apply eq_false; omega
    clear hB
    go_wp2_with fail
    go_region
    have ne : B + 1 + 1 + 1 ≠ B + 1 + 1 := by omega
    have ne' : B + 1 + 1 ≠ B + 1 + 1 + 1 := by omega
    have z2 := RowAt.other (RowAt.other ((HR2.out.set 0 (.bool nq)).set 1 (.slice aq lq cq)) (p := ⟨B + 1 + 1 + 1, 0, none⟩) ne (.bool nr)) (p := ⟨B + 1 + 1 + 1, 1, none⟩) ne (.slice ar lr cr)
    have z3 := ((RowAt.other (RowAt.other HR3.out (p := ⟨B + 1 + 1, 0, none⟩) ne' (.bool nq)) (p := ⟨B + 1 + 1, 1, none⟩) ne' (.slice aq lq cq)).set 0 (.bool nr)).set 1 (.slice ar lr cr)
    simp only [List.set_cons_zero, List.set_cons_succ] at z2 z3
    have HKf := hid (((((Keeps.refl (fun k => k = B + 1 + 1 ∨ k = B + 1 + 1 + 1) wc).setCell ⟨B + 1 + 1, 0, none⟩ (.inl (.inl rfl)) (.bool nq)).setCell ⟨B + 1 + 1, 1, none⟩ (.inl (.inl rfl)) (.slice aq lq cq)).setCell ⟨B + 1 + 1 + 1, 0, none⟩ (.inl (.inr rfl)) (.bool nr)).setCell ⟨B + 1 + 1 + 1, 1, none⟩ (.inl (.inr rfl)) (.slice ar lr cr))
    obtain ⟨i0, i1, _, _⟩ := NumC.facts (base := 0) (z := 0) z2
    obtain ⟨j0, j1, _, _⟩ := NumC.facts (base := 0) (z := 0) z3
    clear z2 z3 q0 q1 p0 p1 x0 x1 x2 x3 y0 y1 y2 y3 e1 e2 e3 e4 e5 e6 ne ne'
    go_wp2_with fail
    have hB := HB.out
    have hkf := HKf.out.drew
    refine bodyPost_ret (v := .tuple #[.agg #[.bool nq, .slice aq lq cq], .agg #[.bool nr, .slice ar lr cr]]) ?_ rfl ⟨_, _, rfl, (HNQ.out.keep hkf (fun k hk h => by rcases h with h | h <;> omega)).lower (by omega), (HNR.out.keep hkf (fun k hk h => by rcases h with h | h <;> omega)).lower (by omega), HKc.out.trans' hkf (fun i hi h => by rcases h with h | h <;> omega)⟩
    simp [results, Tryz.results36, go_sem, i0, i1, j0, j1]
end Go.Proofs
