/- Parts of the proofs over the numbers of any length: Gcd26, ReadTxt. -/
import Derived.Test.YtacbllkmcldniaaGreatDoorTellD
import Derived.Test.YtacbllkmcldniaaGreatDoorSpecD
import Derived.Test.YtacbllkmcldniaaGreatDoorSpecC
import Derived.Test.YtacbllkmcldniaaGreatDoorPowB
set_option linter.unusedSimpArgs false
set_option linter.unusedVariables false
namespace Go.Proofs
open Go.RowKit
set_option maxHeartbeats 2000000
set_option linter.unusedVariables false
set_option linter.unusedSimpArgs false
set_option maxRecDepth 100000

theorem NumV.size' {w : World} {b : Nat} {n : Bool} {a : Option Addr} {l c : Nat} {x : Int} (h : NumV w b (.agg #[.bool n, .slice a l c]) x) : NumV w b (.agg #[.bool false, .slice a l c]) (x.natAbs : Int) := by
  obtain ⟨g1, g2, g3, g4⟩ := h.get
  refine ⟨a, c, ?_, ?_, g2⟩
  · rw [g3, Int.natAbs_natCast]
    have : ¬ ((x.natAbs : Int) < 0) := by omega
    simp [this]
  · rw [Int.natAbs_natCast]; exact g1
/-- The state of the reference's Euclid. -/
structure GS (w0 wr : World) (X : Nat) (m n : Nat) : Prop where
  hx : NumE wr 0 X (m : Int)
  hy : NumE wr 0 (X + 1) (n : Int)
  hr : RowAt wr (X + 2) 24 [.bool false, .slice none 0 0]
  kp : Keeps (fun _ => False) w0 wr
theorem GS.keep {w0 wr w' : World} {X m n : Nat} (h : GS w0 wr X m n) (hk : Keeps (fun _ => False) wr w') : GS w0 w' X m n :=
  ⟨h.hx.keep hk, h.hy.keep hk, hk.row h.hr (fun h => h), h.kp.trans hk⟩
theorem GS.cells {w0 wr : World} {X m n : Nat} (h : GS w0 wr X m n) : ∃ nx ax lx cx ny ay ly cy, (∀ W, Keeps (fun _ => False) wr W → W.cell? ⟨X, 0, none⟩ = some (.bool nx) ∧ W.cell? ⟨X, 1, none⟩ = some (.slice ax lx cx) ∧ W.cell? ⟨X + 1, 0, none⟩ = some (.bool ny) ∧ W.cell? ⟨X + 1, 1, none⟩ = some (.slice ay ly cy) ∧
    W.frozen? ⟨X, 0, none⟩ = false ∧ W.frozen? ⟨X, 1, none⟩ = false ∧ W.frozen? ⟨X + 1, 0, none⟩ = false ∧ W.frozen? ⟨X + 1, 1, none⟩ = false) ∧
    (∀ W, Keeps (fun _ => False) wr W → NumV W 0 (.agg #[.bool nx, .slice ax lx cx]) (m : Int) ∧ NumV W 0 (.agg #[.bool ny, .slice ay ly cy]) (n : Int)) ∧ RowAt wr X 24 [.bool nx, .slice ax lx cx] ∧ RowAt wr (X + 1) 24 [.bool ny, .slice ay ly cy] := by
  obtain ⟨nx, ax, lx, cx, r1, v1⟩ := h.hx
  obtain ⟨ny, ay, ly, cy, r2, v2⟩ := h.hy
  refine ⟨nx, ax, lx, cx, ny, ay, ly, cy, fun W hk => ?_, fun W hk => ⟨v1.keep hk (fun _ _ h => h), v2.keep hk (fun _ _ h => h)⟩, r1, r2⟩
  have q1 := hk.row r1 (fun h => h); have q2 := hk.row r2 (fun h => h)
  exact ⟨q1.cell 0, q1.cell 1, q2.cell 0, q2.cell 1, q1.frozen 0, q1.frozen 1, q2.frozen 0, q2.frozen 1⟩
theorem GS.made {w0 wr : World} {X m n : Nat} {nx ny n1 n2 : Bool} {ux uy : Value} {a1 a2 : Option Addr} {l1 c1 l2 c2 : Nat} (hX : w0.heap.size ≤ X) (rx : RowAt wr X 24 [.bool nx, ux]) (ry : RowAt wr (X + 1) 24 [.bool ny, uy]) (rr : RowAt wr (X + 2) 24 [.bool false, .slice none 0 0]) (kp : Keeps (fun _ => False) w0 wr)
    (v1 : NumV wr 0 (.agg #[.bool n1, .slice a1 l1 c1]) (m : Int)) (v2 : NumV wr 0 (.agg #[.bool n2, .slice a2 l2 c2]) (n : Int)) :
    GS w0 ((((wr.setCell ⟨X, 0, none⟩ (.bool n1)).setCell ⟨X, 1, none⟩ (.slice a1 l1 c1)).setCell ⟨X + 1, 0, none⟩ (.bool n2)).setCell ⟨X + 1, 1, none⟩ (.slice a2 l2 c2)) X m n := by
  have e1 := NumE.made rx v1
  have v2' := (v2.setRow2 rx (m := n1) (s := .slice a1 l1 c1)).1
  have ry' := RowAt.other2 (x := .bool n1) (y := .slice a1 l1 c1) ry (show X ≠ X + 1 by omega)
  have rr' := RowAt.other2 (x := .bool n1) (y := .slice a1 l1 c1) rr (show X ≠ X + 2 by omega)
  exact ⟨e1.other (by omega) ry', NumE.made ry' v2', RowAt.other2 rr' (by omega), (((kp.setCell _ (.inr hX) _).setCell _ (.inr hX) _).setCell _ (.inr (by show w0.heap.size ≤ X + 1; omega)) _).setCell _ (.inr (by show w0.heap.size ≤ X + 1; omega)) _⟩

theorem gcd26 (vx vy : Value) (x y : Int) (bx b' : Nat) (w : World) (hx : NumV w bx vx x) (hy : NumV w b' vy y) (hxl : x.natAbs < 10 ^ 200) (hyl : y.natAbs < 10 ^ 200) :
    Calls Tryz.prog 26 #[vx, vy] w fun e w' => ∃ v, e = .returned v ∧ NumV w' 0 v (Int.gcd x y : Int) ∧ Keeps (fun _ => False) w w' := by
  obtain ⟨nx, ax, lx, cx, rfl, hpx⟩ := hx.parts
  obtain ⟨ny, ay, ly, cy, rfl, hpy⟩ := hy.parts
  obtain ⟨wz, hwz⟩ : ∃ W, W = ((w.alloc (.cells #[.bool nx, .slice ax lx cx] 24)).alloc (.cells #[.bool ny, .slice ay ly cy] 24)).alloc (.cells #[.bool false, .slice none 0 0] 24) := ⟨_, rfl⟩
  obtain ⟨X, hX⟩ : ∃ p, p = w.heap.size := ⟨_, rfl⟩
  have hk0 : Keeps (fun _ => False) w wz := by rw [hwz]; exact (((Keeps.refl _ w).alloc _).alloc _).alloc _
  have s1 : (w.alloc (.cells #[.bool nx, .slice ax lx cx] 24)).heap.size = X + 1 := by rw [hX]; simp
  have s2 : ((w.alloc (.cells #[.bool nx, .slice ax lx cx] 24)).alloc (.cells #[.bool ny, .slice ay ly cy] 24)).heap.size = X + 2 := by rw [hX]; simp
  have hrx : RowAt wz X 24 [.bool nx, .slice ax lx cx] := by rw [hwz, hX]; exact RowAt.alloc (RowAt.alloc (RowAt.new w 24 _) _) _
  have hry : RowAt wz (X + 1) 24 [.bool ny, .slice ay ly cy] := by
    rw [hwz]
    have h := RowAt.new (w.alloc (.cells #[.bool nx, .slice ax lx cx] 24)) 24 [.bool ny, .slice ay ly cy]
    rw [s1] at h
    exact RowAt.alloc h _
  have hrr : RowAt wz (X + 2) 24 [.bool false, .slice none 0 0] := by
    rw [hwz]
    have h := RowAt.new ((w.alloc (.cells #[.bool nx, .slice ax lx cx] 24)).alloc (.cells #[.bool ny, .slice ay ly cy] 24)) 24 [.bool false, .slice none 0 0]
    rw [s2] at h
    exact h
  have HVX : Hid (∀ W, Keeps (fun _ => False) w W → NumV W 0 (.agg #[.bool false, .slice ax lx cx]) (x.natAbs : Int)) := hid (fun W hk => (hpx W hk 0 (fun _ _ => Nat.zero_le _)).size')
  have HVY : Hid (∀ W, Keeps (fun _ => False) w W → NumV W 0 (.agg #[.bool false, .slice ay ly cy]) (y.natAbs : Int)) := hid (fun W hk => (hpy W hk 0 (fun _ _ => Nat.zero_le _)).size')
  obtain ⟨M, hM⟩ : ∃ M, M = x.natAbs := ⟨_, rfl⟩
  obtain ⟨N, hN⟩ : ∃ N, N = y.natAbs := ⟨_, rfl⟩
  have hg : Int.gcd x y = Nat.gcd M N := by rw [hM, hN]; rfl
  rw [hg]
  rw [← hM] at HVX hxl
  rw [← hN] at HVY hyl
  have HML := hid hxl; have HNL := hid hyl
  have HXX := hid (Nat.le_of_eq hX.symm); have HK0 := hid hk0; have HRX := hid hrx; have HRY := hid hry; have HRR := hid hrr
  have HSX : Hid (∀ w', Keeps (fun _ => False) wz w' → w'.cell? ⟨X, 0, none⟩ = some (.bool nx) ∧ w'.cell? ⟨X, 1, none⟩ = some (.slice ax lx cx) ∧ w'.frozen? ⟨X, 0, none⟩ = false ∧ w'.frozen? ⟨X, 1, none⟩ = false) := hid (fun w' hk => RowAt.facts2 (hk.row HRX.out (fun h => h)))
  have HSY : Hid (∀ w', Keeps (fun _ => False) wz w' → w'.cell? ⟨X + 1, 0, none⟩ = some (.bool ny) ∧ w'.cell? ⟨X + 1, 1, none⟩ = some (.slice ay ly cy) ∧ w'.frozen? ⟨X + 1, 0, none⟩ = false ∧ w'.frozen? ⟨X + 1, 1, none⟩ = false) := hid (fun w' hk => RowAt.facts2 (hk.row HRY.out (fun h => h)))
  have HA1 := hid (fun W => abs31_any nx ax lx cx W)
  have HA2 := hid (fun W => abs31_any ny ay ly cy W)
  obtain ⟨x0, x1, x2, x3⟩ := HSX.out wz (Keeps.refl _ _)
  obtain ⟨y0, y1, y2, y3⟩ := HSY.out wz (Keeps.refl _ _)
  have HD0 : Hid (Keeps (fun _ => False) wz wz.drew) := hid (Keeps.refl _ wz).drew
  clear hk0 s1 s2 hrx hry hrr hpx hpy hx hy hxl hyl hM hN hg
  go_enter Tryz.func26, Tryz.ntmps26
  go_upto_region 1 with fail
  rw [← hwz, ← hX]
  clear hwz hX
  go_cut [] from 7 to 11 (fun wx => GS w wx X M N)
  case first =>
    go_region_law (first
      | (go_simp; go_at_call 31; (with_reducible refine (HA1.out _).mono ?_); rintro e w5 ⟨rfl, hk⟩; have K5 := hid (HD0.out.trans hk); obtain ⟨x0, x1, x2, x3⟩ := HSX.out _ K5.out; obtain ⟨y0, y1, y2, y3⟩ := HSY.out _ K5.out; clear hk)
      | (go_simp; go_at_call 31; (with_reducible refine (HA2.out _).mono ?_); rintro e w6 ⟨rfl, hk⟩; have K6 := hid (K5.out.trans hk); obtain ⟨x0, x1, x2, x3⟩ := HSX.out _ K6.out; obtain ⟨y0, y1, y2, y3⟩ := HSY.out _ K6.out; clear hk))
    all_goals
      go_wp2_with fail
      go_meet
    all_goals exact GS.made HXX.out (K6.out.row HRX.out (fun h => h)) (K6.out.row HRY.out (fun h => h)) (K6.out.row HRR.out (fun h => h)) (HK0.out.trans K6.out) (HVX.out _ (HK0.out.trans K6.out)) (HVY.out _ (HK0.out.trans K6.out))
  case rest =>
    have HS0 := hid hcut
    clear hcut x0 x1 x2 x3 y0 y1 y2 y3 HSX HSY HA1 HA2
    obtain ⟨wq, rfl⟩ : ∃ wq : World, wq = wc := ⟨_, rfl⟩
    go_wp2_with fail
    go_loopw [5, 6] (fun _ _ wr => ∃ m n : Nat, GS w wr X m n ∧ Nat.gcd m n = Nat.gcd M N ∧ m < 10 ^ 200 ∧ n < 10 ^ 200) (fun _ _ wr => (zOf wr (X + 1)).natAbs)
    case atStart => exact ⟨M, N, HS0.out, rfl, HML.out, HNL.out⟩
    case round =>
      obtain ⟨m, n, hst, hg, hml, hnl⟩ := hrel
      have HS := hid hst; have HG := hid hg; have HML2 := hid hml; have HNL2 := hid hnl
      obtain ⟨n1, a1, l1, c1, n2, a2, l2, c2, hcl, hvl, hrx, hry⟩ := hst.cells
      have HCL := hid hcl; have HVL := hid hvl; have HRX2 := hid hrx; have HRY2 := hid hry
      clear hst hg hml hnl hvl hrx hry
      obtain ⟨x0, x1, y0, y1, x2, x3, y2, y3⟩ := hcl wr (Keeps.refl _ _)
      clear hcl
      have HZ := hid (zero23 _ _ _ wr (HVL.out wr (Keeps.refl _ _)).2)
      by_cases hn0 : n = 0
      · subst hn0
        rw [show decide ((((0 : Nat) : Int)) = 0) = true from rfl] at HZ
        go_wp2_with fail
        refine HZ.out.mono ?_
        rintro e w2 ⟨rfl, hk⟩
        have HS2 := hid (HS.out.keep hk)
        obtain ⟨x0, x1, y0, y1, x2, x3, y2, y3⟩ := HCL.out w2 hk
        have HV2 := hid (HVL.out w2 hk).1
        obtain ⟨_, _, f0, f1⟩ := RowAt.facts2 HS2.out.hr
        clear hk HZ
        go_wp2_with fail
        obtain ⟨hv9, hr9⟩ := NumV.setRow2 HV2.out HS2.out.hr (m := n1) (s := .slice a1 l1 c1)
        have hge : w.heap.size ≤ X + 2 := by have := HXX.out; omega
        have hk9 := (HS2.out.kp.setCell ⟨X + 2, 0, none⟩ (.inr hge) (.bool n1)).setCell ⟨X + 2, 1, none⟩ (.inr hge) (.slice a1 l1 c1)
        obtain ⟨e0, e1, _, _⟩ := RowAt.facts2 hr9
        have hfin : m = Nat.gcd M N := by
          have h := HG.out
          rwa [Nat.gcd_zero_right] at h
        generalize ((w2.setCell ⟨X + 2, 0, none⟩ (.bool n1)).setCell ⟨X + 2, 1, none⟩ (.slice a1 l1 c1)) = wf at *
        refine bodyPost_ret (v := .agg #[.bool n1, .slice a1 l1 c1]) ?_ rfl ⟨_, rfl, by rw [← hfin]; exact hv9, hk9⟩
        simp [results, Tryz.results26, go_sem, e0, e1]
      · rw [show decide ((n : Int) = 0) = false by simp [hn0]] at HZ
        have HN0 := hid hn0
        have HQ : Hid (∀ W, Keeps (fun _ => False) wr W → Calls Tryz.prog 40 #[.agg #[.bool n1, .slice a1 l1 c1], .agg #[.bool n2, .slice a2 l2 c2]] W fun e w' => ∃ v1 v2, e = .returned (.tuple #[v1, v2]) ∧ (∃ z, NumV w' W.heap.size v1 z) ∧ NumV w' W.heap.size v2 ((m % n : Nat) : Int) ∧ Keeps (fun _ => False) W w') := hid (fun W hk => by
          obtain ⟨v1, v2⟩ := HVL.out W hk
          refine (quoRem40 _ _ (m : Int) (n : Int) 0 0 W v1 v2 (by omega) (by rw [Int.natAbs_natCast]; exact Nat.le_trans (digs_len HML2.out) (by omega)) (by rw [Int.natAbs_natCast]; exact Nat.le_trans (digs_len HNL2.out) (by omega))).mono ?_
          rintro e w' ⟨v1, v2, he, k1, k2, k3⟩
          exact ⟨v1, v2, he, ⟨_, k1⟩, k2, k3⟩)
        clear hn0
        go_wp2_with fail
        refine HZ.out.mono ?_
        rintro e w2 ⟨rfl, hk⟩
        have HK2 := hid hk
        clear x0 x1 y0 y1 x2 x3 y2 y3 hk HZ
        obtain ⟨x0, x1, y0, y1, x2, x3, y2, y3⟩ := HCL.out w2 HK2.out
        go_wp2_with fail
        refine (HQ.out w2 HK2.out).mono ?_
        rintro e w3 ⟨v1, v2, rfl, ⟨z1, hv1⟩, hv2, hk⟩
        obtain ⟨n4, a4, l4, c4, rfl⟩ := hv1.agg
        obtain ⟨n5, a5, l5, c5, rfl⟩ := hv2.agg
        have HV5 := hid (hv2.lower (Nat.zero_le _)); have HK3 := hid (HK2.out.trans hk)
        clear hv1 hv2 hk x0 x1 y0 y1 x2 x3 y2 y3 HQ
        obtain ⟨q, hq⟩ : ∃ q, q = w3.heap.size := ⟨_, rfl⟩
        obtain ⟨W, hW⟩ : ∃ W, W = (w3.alloc (.cells #[.bool n4, .slice a4 l4 c4] 24)).alloc (.cells #[.bool n5, .slice a5 l5 c5] 24) := ⟨_, rfl⟩
        have hkW : Keeps (fun _ => False) w3 W := by rw [hW]; exact ((Keeps.refl _ w3).alloc _).alloc _
        have hrq : RowAt W (q + 1) 24 [.bool n5, .slice a5 l5 c5] := by
          have h := RowAt.new (w3.alloc (.cells #[.bool n4, .slice a4 l4 c4] 24)) 24 [.bool n5, .slice a5 l5 c5]
          rw [show (w3.alloc (.cells #[.bool n4, .slice a4 l4 c4] 24)).heap.size = q + 1 by rw [hq]; simp] at h
          rw [hW]; exact h
        have hlt : X + 2 < q := by rw [hq]; exact (HK3.out.row HS.out.hr (fun h => h)).lt
        have HKW := hid (HK3.out.trans hkW); have HVW := hid (HV5.out.keep hkW (fun _ _ h => h))
        obtain ⟨z0, z1', _, _⟩ := RowAt.facts2 hrq
        have HRQ := hid hrq
        clear hkW hrq
        go_upto_region 4 with fail
        rw [← hq, ← hW]
        clear hq hW
        obtain ⟨x0, x1, y0, y1, x2, x3, y2, y3⟩ := HCL.out W HKW.out
        have e1 : (q + 1 = X) = False := by apply eq_false; omega
        have e2 : (X = q + 1) = False := by apply eq_false; omega
        have e3 : (q + 1 = X + 1) = False := by apply eq_false; omega
        have e4 : (X + 1 = q + 1) = False := by apply eq_false; omega
        clear hlt
        go_region
        go_wp2_with fail
        have hd := HKW.out
        have hlt := Nat.mod_lt m (show 0 < n by have := HN0.out; omega)
        have hgs := (GS.made (w0 := w) (wr := W) (n1 := n2) (a1 := a2) (l1 := l2) (c1 := c2) (n2 := n5) (a2 := a5) (l2 := l5) (c2 := c5) (m := n) (n := m % n) HXX.out (hd.row HRX2.out (fun h => h)) (hd.row HRY2.out (fun h => h)) (hd.row HS.out.hr (fun h => h)) (HS.out.kp.trans hd) (HVL.out _ hd).2 HVW.out).keep ((Keeps.refl _ _).drew)
        refine ⟨⟨n, m % n, hgs, ?_, HNL2.out, by have := HNL2.out; omega⟩, ?_⟩
        · rw [← HG.out, Nat.gcd_comm m n, Nat.gcd_rec n m, Nat.gcd_comm]
        · rw [zOf_eq hgs.hy, zOf_eq HS.out.hy, Int.natAbs_natCast, Int.natAbs_natCast]; exact hlt
end Go.Proofs
namespace Go.Proofs
open Go.RowKit
set_option maxHeartbeats 400000
set_option linter.unusedVariables false
set_option linter.unusedSimpArgs false
set_option maxRecDepth 100000

theorem dval_same {d d' : Nat → Nat} : ∀ n, (∀ k, k < n → d k = d' k) → dval d n = dval d' n
  | 0, _ => rfl
  | n + 1, h => by
    show 10 * dval d n + d n = 10 * dval d' n + d' n
    rw [dval_same n (fun k hk => h k (by omega)), h n (by omega)]
theorem strB_at (B : List Nat) (j : Nat) (h : j < B.length) (hB : B.getD j 0 < 256) : ((strB B).data.getD j 0).toNat = B.getD j 0 := by
  have hj : j < (strB B).size := by rw [strB_size]; exact h
  have hj' : j < (strB B).data.size := hj
  rw [Array.getD_eq_getD_getElem?, Array.getElem?_eq_getElem hj']
  exact strB_get B j hj hB
/-- The digits' text of a number is one that Read takes. -/
theorem digs_text {R : ByteArray} {N : Nat} {neg : Bool} (hs : R.size = nd N) (hd : ∀ j, j < nd N → (R.data.getD j 0).toNat = 48 + N / 10 ^ (nd N - 1 - j) % 10) (hn : neg = true → N ≠ 0) :
    readOk neg R ∧ trimZ (rdig R R.size) = digs N := by
  have hp := nd_pos N
  have ok : DgOk R 0 := by
    intro j _ hj
    rw [hd j (by omega)]
    omega
  refine ⟨⟨ok, by omega, ?_, ?_⟩, ?_⟩
  · by_cases h1 : nd N = 1
    · left; omega
    · right
      rw [hd 0 (by omega), Nat.sub_zero]
      have hN : N ≠ 0 := by
        rintro rfl
        apply h1
        rw [nd]; simp
      have h2 := nd_ge hN
      have h3 := nd_lt N
      have h4 : 1 ≤ N / 10 ^ (nd N - 1) := by rw [Nat.le_div_iff_mul_le (Nat.pow_pos (by omega))]; omega
      have h5 : N / 10 ^ (nd N - 1) < 10 := by
        rw [Nat.div_lt_iff_lt_mul (Nat.pow_pos (by omega))]
        have : 10 ^ nd N = 10 ^ (nd N - 1) * 10 := by
          rw [← Nat.pow_succ, show (nd N - 1).succ = nd N by omega]
        omega
      rw [Nat.mod_eq_of_lt h5]
      omega
  · intro hneg hR
    have h0 := hn hneg
    have h1 : nd N = 1 := by rw [← hs, hR]; rfl
    have h2 := hd 0 (by omega)
    rw [hR, h1] at h2
    have h3 := nd_lt N
    rw [h1] at h3
    simp at h2
    omega
  · have hrd := rdig_dig ok R.size (Nat.le_refl _)
    rw [trimZ_eq_digs hrd, rdig_eq, ← dval_ten, hs, dval_same (d' := fun k => N / 10 ^ (nd N - 1 - k) % 10) (nd N) (fun k hk => by unfold dg; rw [hd k hk]; omega), dval_tops N (nd N) (nd N) (Nat.le_refl _), Nat.sub_self, Nat.pow_zero, Nat.div_one, Nat.mod_eq_of_lt (nd_lt N)]
theorem lowDigs_byte (N m j : Nat) (h : j < m) : (lowDigs N m).getD j 0 < 256 := by
  rw [lowDigs_at N m j h]; omega
/-- The parts of a number's text. -/
theorem txt_parts (z : Int) : ledBy (strB (txt (decide (z < 0)) z.natAbs)) = decide (z < 0) ∧ (restOf (strB (txt (decide (z < 0)) z.natAbs))).size = nd z.natAbs ∧
    ∀ j, j < nd z.natAbs → ((restOf (strB (txt (decide (z < 0)) z.natAbs))).data.getD j 0).toNat = 48 + z.natAbs / 10 ^ (nd z.natAbs - 1 - j) % 10 := by
  obtain ⟨N, hN⟩ : ∃ N, N = z.natAbs := ⟨_, rfl⟩
  have hp := nd_pos N
  rw [← hN]
  by_cases hz : z < 0
  · rw [decide_eq_true hz]
    have ht : txt true N = 45 :: lowDigs N (nd N) := by simp [txt, decs]
    have hsz : (strB (txt true N)).size = nd N + 1 := by rw [strB_size, ht, List.length_cons, lowDigs_length]
    have h0 : ((strB (txt true N)).data.getD 0 0).toNat = 45 := by
      rw [strB_at _ _ (by rw [ht]; simp) (by rw [ht]; simp), ht]; rfl
    have hl : ledBy (strB (txt true N)) = true := by
      unfold ledBy
      exact decide_eq_true ⟨by omega, h0⟩
    have hr : restOf (strB (txt true N)) = (strB (txt true N)).extract 1 (strB (txt true N)).size := by unfold restOf; rw [hl]; rfl
    refine ⟨hl, by rw [hr, size_extract1]; omega, fun j hj => ?_⟩
    rw [hr, getD_extract1]
    have hg : (txt true N).getD (1 + j) 0 = 48 + N / 10 ^ (nd N - 1 - j) % 10 := by
      rw [ht, Nat.add_comm, List.getD_cons_succ]
      exact lowDigs_at N _ j hj
    rw [strB_at _ _ (by rw [ht, List.length_cons, lowDigs_length]; omega) (by rw [hg]; omega), hg]
  · rw [decide_eq_false hz]
    have ht : txt false N = lowDigs N (nd N) := by simp [txt, decs]
    have hsz : (strB (txt false N)).size = nd N := by rw [strB_size, ht, lowDigs_length]
    have hat : ∀ j, j < nd N → ((strB (txt false N)).data.getD j 0).toNat = 48 + N / 10 ^ (nd N - 1 - j) % 10 := fun j hj => by
      have hg : (txt false N).getD j 0 = 48 + N / 10 ^ (nd N - 1 - j) % 10 := by rw [ht]; exact lowDigs_at N _ j hj
      rw [strB_at _ _ (by rw [ht, lowDigs_length]; exact hj) (by rw [hg]; omega), hg]
    have hl : ledBy (strB (txt false N)) = false := by
      unfold ledBy
      apply decide_eq_false
      rintro ⟨_, h⟩
      rw [hat 0 (by omega)] at h
      omega
    have hr : restOf (strB (txt false N)) = strB (txt false N) := by unfold restOf; rw [hl]; rfl
    rw [hr]
    exact ⟨hl, hsz, hat⟩
theorem txt_size {z : Int} {k : Nat} (h : z.natAbs < 10 ^ k) (hk : 0 < k) : (strB (txt (decide (z < 0)) z.natAbs)).size ≤ k + 1 := by
  have := nd_le h hk
  rw [strB_size]
  unfold txt decs
  split
  · simp [lowDigs_length]; omega
  · simp [lowDigs_length]; omega
/-- Read takes a number's text. -/
theorem read25_txt (z : Int) (T : ByteArray) (w : World) (hT : T = strB (txt (decide (z < 0)) z.natAbs)) (hs : T.size ≤ 2147483647) :
    Calls Tryz.prog 25 #[.string T] w fun e w' => ∃ v, e = .returned (.tuple #[v, .bool true]) ∧ NumV w' w.heap.size v z ∧ Keeps (fun _ => False) w w' := by
  obtain ⟨h1, h2, h3⟩ := txt_parts z
  rw [← hT] at h1 h2 h3
  obtain ⟨h4, h5⟩ := digs_text (neg := decide (z < 0)) h2 h3 (fun h => by have := of_decide_eq_true h; omega)
  refine (read25_any T w hs).mono ?_
  rintro e w' ⟨hk, hcase⟩
  rw [h1, h5] at hcase
  rcases hcase with ⟨hok, a, c, rfl, hr, hge⟩ | ⟨hno, _⟩
  · exact ⟨_, rfl, ⟨a, c, rfl, hr, hge⟩, hk⟩
  · exact absurd h4 hno
end Go.Proofs
