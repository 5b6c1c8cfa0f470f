/- Parts of the proofs over the numbers of any length: One57, Law16. -/
import Derived.Test.YtacbllkmcldniaaGreatDoorOneD
import Derived.Test.YtacbllkmcldniaaGreatDoorSpecC
import Derived.Test.YtacbllkmcldniaaGreatDoorOneC
set_option linter.unusedSimpArgs false
set_option linter.unusedVariables false
namespace Go.Proofs
open Go.RowKit
set_option maxHeartbeats 1600000
set_option linter.unusedVariables false
set_option linter.unusedSimpArgs false
set_option maxRecDepth 100000

theorem one57_0 (vx : Value) (x : Int) (bx : Nat) (w : World) (hx : NumV w bx vx x) (hxb : x.natAbs < 10 ^ 200) :
    Calls Tryz.prog 57 #[.int .i64 0, vx] w fun e w' => (∃ v, e = .returned (.tuple #[v, .bool true]) ∧ NumV w' 0 v (-x)) ∧ Keeps (fun _ => False) w w' := by
  obtain ⟨n1, a1, l1, c1, rfl, hpx⟩ := hx.parts
  obtain ⟨w0, hw0⟩ : ∃ W, W = (w.alloc (.cells #[.bool n1, .slice a1 l1 c1] 24)).alloc (.cells #[.bool false, .slice none 0 0] 24) := ⟨_, rfl⟩
  obtain ⟨p, hp⟩ : ∃ p, p = w.heap.size := ⟨_, rfl⟩
  have hk0 : Keeps (fun _ => False) w w0 := by rw [hw0]; exact ((Keeps.refl _ w).alloc _).alloc _
  have hrx : RowAt w0 p 24 [.bool n1, .slice a1 l1 c1] := by rw [hw0, hp]; exact RowAt.alloc (RowAt.new w 24 _) _
  have hrr : RowAt w0 (p + 1) 24 [.bool false, .slice none 0 0] := by
    have h := RowAt.new (w.alloc (.cells #[.bool n1, .slice a1 l1 c1] 24)) 24 [.bool false, .slice none 0 0]
    rw [show (w.alloc (.cells #[.bool n1, .slice a1 l1 c1] 24)).heap.size = p + 1 by rw [hp]; simp] at h
    rw [hw0]; exact h
  have HV := hid (hpx w0 hk0 0 (fun _ _ => Nat.zero_le _))
  have hlx : (digs x.natAbs).length ≤ 201 := Nat.le_trans (digs_len hxb) (by omega)
  have HLX := hid hlx; have HXB := hid hxb
  have HK0 := hid hk0; have HRX := hid hrx; have HRR := hid hrr; have HP := hid hp
  clear hk0 hpx hlx hx hrx hrr hxb
  have HC := hid (minus118 _ x 0 w0 HV.out (by have := HLX.out; omega))
  go_enter Tryz.func57, Tryz.ntmps57
  go_wp2_with fail
  rw [← hw0, ← hp]
  clear hw0 hp
  refine HC.out.mono ?_
  rintro e w1 ⟨v, rfl, hv, hk⟩
  obtain ⟨n, a, l, c, rfl⟩ := hv.agg
  have HV1 := hid hv; have HK1 := hid hk
  clear hv hk HC
  have hr := HK1.out.row HRR.out (fun h => h)
  obtain ⟨_, _, f2, f3⟩ := RowAt.facts2 hr
  have HR := hid hr
  clear hr
  go_wp2_with fail
  obtain ⟨hnv, hrf⟩ := NumV.setRow2 HV1.out HR.out (m := n) (s := .slice a l c)
  have hkf := (((HK0.out.trans HK1.out).setCell ⟨p + 1, 0, none⟩ (.inr (show w.heap.size ≤ p + 1 by have := HP.out; omega)) (.bool n)).setCell ⟨p + 1, 1, none⟩ (.inr (show w.heap.size ≤ p + 1 by have := HP.out; omega)) (.slice a l c))
  obtain ⟨e0, e1, _, _⟩ := RowAt.facts2 hrf
  generalize ((w1.setCell ⟨p + 1, 0, none⟩ (.bool n)).setCell ⟨p + 1, 1, none⟩ (.slice a l c)) = wf at *
  refine bodyPost_ret (v := .tuple #[.agg #[.bool n, .slice a l c], .bool true]) ?_ rfl ⟨⟨_, rfl, hnv⟩, hkf⟩
  simp [results, Tryz.results57, go_sem, e0, e1]

theorem one57_1 (vx : Value) (x : Int) (bx : Nat) (w : World) (hx : NumV w bx vx x) (hxb : x.natAbs < 10 ^ 200) :
    Calls Tryz.prog 57 #[.int .i64 1, vx] w fun e w' => (∃ v, e = .returned (.tuple #[v, .bool true]) ∧ NumV w' 0 v ((x.natAbs : Int))) ∧ Keeps (fun _ => False) w w' := by
  obtain ⟨n1, a1, l1, c1, rfl, hpx⟩ := hx.parts
  obtain ⟨w0, hw0⟩ : ∃ W, W = (w.alloc (.cells #[.bool n1, .slice a1 l1 c1] 24)).alloc (.cells #[.bool false, .slice none 0 0] 24) := ⟨_, rfl⟩
  obtain ⟨p, hp⟩ : ∃ p, p = w.heap.size := ⟨_, rfl⟩
  have hk0 : Keeps (fun _ => False) w w0 := by rw [hw0]; exact ((Keeps.refl _ w).alloc _).alloc _
  have hrx : RowAt w0 p 24 [.bool n1, .slice a1 l1 c1] := by rw [hw0, hp]; exact RowAt.alloc (RowAt.new w 24 _) _
  have hrr : RowAt w0 (p + 1) 24 [.bool false, .slice none 0 0] := by
    have h := RowAt.new (w.alloc (.cells #[.bool n1, .slice a1 l1 c1] 24)) 24 [.bool false, .slice none 0 0]
    rw [show (w.alloc (.cells #[.bool n1, .slice a1 l1 c1] 24)).heap.size = p + 1 by rw [hp]; simp] at h
    rw [hw0]; exact h
  have HV := hid (hpx w0 hk0 0 (fun _ _ => Nat.zero_le _))
  have hlx : (digs x.natAbs).length ≤ 201 := Nat.le_trans (digs_len hxb) (by omega)
  have HLX := hid hlx; have HXB := hid hxb
  have HK0 := hid hk0; have HRX := hid hrx; have HRR := hid hrr; have HP := hid hp
  clear hk0 hpx hlx hx hrx hrr hxb
  have HC := hid (abs31_any n1 a1 l1 c1 w0)
  go_enter Tryz.func57, Tryz.ntmps57
  go_wp2_with fail
  rw [← hw0, ← hp]
  clear hw0 hp
  refine HC.out.mono ?_
  rintro e w1 ⟨rfl, hk⟩
  obtain ⟨n, hn⟩ : ∃ n, n = false := ⟨_, rfl⟩
  obtain ⟨a, rfl⟩ : ∃ a, a = a1 := ⟨_, rfl⟩
  obtain ⟨l, rfl⟩ : ∃ a, a = l1 := ⟨_, rfl⟩
  obtain ⟨c, rfl⟩ : ∃ a, a = c1 := ⟨_, rfl⟩
  have hv : NumV w1 0 (.agg #[.bool n, .slice a l c]) (x.natAbs : Int) := by
    obtain ⟨g1, g2, g3, g4⟩ := (HV.out.keep hk (fun _ _ h => h)).get
    refine ⟨a, c, ?_, ?_, fun _ _ => Nat.zero_le _⟩
    · rw [hn, g3, Int.natAbs_natCast]
      have : ¬ ((x.natAbs : Int) < 0) := by omega
      simp [this]
    · rw [Int.natAbs_natCast]; exact g1
  have HV1 := hid hv; have HK1 := hid hk
  rw [← hn]
  clear hv hk HC hn
  have hr := HK1.out.row HRR.out (fun h => h)
  obtain ⟨_, _, f2, f3⟩ := RowAt.facts2 hr
  have HR := hid hr
  clear hr
  go_wp2_with fail
  obtain ⟨hnv, hrf⟩ := NumV.setRow2 HV1.out HR.out (m := n) (s := .slice a l c)
  have hkf := (((HK0.out.trans HK1.out).setCell ⟨p + 1, 0, none⟩ (.inr (show w.heap.size ≤ p + 1 by have := HP.out; omega)) (.bool n)).setCell ⟨p + 1, 1, none⟩ (.inr (show w.heap.size ≤ p + 1 by have := HP.out; omega)) (.slice a l c))
  obtain ⟨e0, e1, _, _⟩ := RowAt.facts2 hrf
  generalize ((w1.setCell ⟨p + 1, 0, none⟩ (.bool n)).setCell ⟨p + 1, 1, none⟩ (.slice a l c)) = wf at *
  refine bodyPost_ret (v := .tuple #[.agg #[.bool n, .slice a l c], .bool true]) ?_ rfl ⟨⟨_, rfl, hnv⟩, hkf⟩
  simp [results, Tryz.results57, go_sem, e0, e1]

theorem one57_2 (vx : Value) (x : Int) (bx : Nat) (w : World) (hx : NumV w bx vx x) (hxb : x.natAbs < 10 ^ 200) :
    Calls Tryz.prog 57 #[.int .i64 2, vx] w fun e w' => (∃ v, e = .returned (.tuple #[v, .bool true]) ∧ NumV w' 0 v (-x - 1)) ∧ Keeps (fun _ => False) w w' := by
  obtain ⟨n1, a1, l1, c1, rfl, hpx⟩ := hx.parts
  obtain ⟨w0, hw0⟩ : ∃ W, W = (w.alloc (.cells #[.bool n1, .slice a1 l1 c1] 24)).alloc (.cells #[.bool false, .slice none 0 0] 24) := ⟨_, rfl⟩
  obtain ⟨p, hp⟩ : ∃ p, p = w.heap.size := ⟨_, rfl⟩
  have hk0 : Keeps (fun _ => False) w w0 := by rw [hw0]; exact ((Keeps.refl _ w).alloc _).alloc _
  have hrx : RowAt w0 p 24 [.bool n1, .slice a1 l1 c1] := by rw [hw0, hp]; exact RowAt.alloc (RowAt.new w 24 _) _
  have hrr : RowAt w0 (p + 1) 24 [.bool false, .slice none 0 0] := by
    have h := RowAt.new (w.alloc (.cells #[.bool n1, .slice a1 l1 c1] 24)) 24 [.bool false, .slice none 0 0]
    rw [show (w.alloc (.cells #[.bool n1, .slice a1 l1 c1] 24)).heap.size = p + 1 by rw [hp]; simp] at h
    rw [hw0]; exact h
  have HV := hid (hpx w0 hk0 0 (fun _ _ => Nat.zero_le _))
  have hlx : (digs x.natAbs).length ≤ 201 := Nat.le_trans (digs_len hxb) (by omega)
  have HLX := hid hlx; have HXB := hid hxb
  have HK0 := hid hk0; have HRX := hid hrx; have HRR := hid hrr; have HP := hid hp
  clear hk0 hpx hlx hx hrx hrr hxb
  have HC := hid (minus118 _ x 0 w0 HV.out (by have := HLX.out; omega))
  have HO := hid (fun W => of33 1 W (by omega) (by omega))
  have HS : Hid (∀ W vx vy b b', NumV W b vx (-x) → NumV W b' vy 1 → Calls Tryz.prog 50 #[vx, vy] W (NRes W (-x - 1))) := hid (fun W vx vy b b' h1 h2 => sub50 vx vy _ 1 b b' W h1 h2 (by rw [Int.natAbs_neg]; have := HLX.out; omega) (Nat.le_trans (digs_len (k := 1) (by decide)) (by omega)))
  go_enter Tryz.func57, Tryz.ntmps57
  go_wp2_with fail
  rw [← hw0, ← hp]
  clear hw0 hp
  refine HC.out.mono ?_
  rintro e w1 ⟨v, rfl, hv, hk⟩
  obtain ⟨n2, a2, l2, c2, rfl⟩ := hv.agg
  have HV1 := hid hv; have HK1 := hid hk
  clear hv hk HC
  go_wp2_with fail
  refine (HO.out _).mono ?_
  rintro e w2 ⟨v, rfl, hv, hk⟩
  obtain ⟨n3, a3, l3, c3, rfl⟩ := hv.agg
  have HV2 := hid hv; have HK2 := hid (HK1.out.trans hk); have HV12 := hid (HV1.out.keep hk (fun _ _ h => h))
  clear hv hk HO
  go_wp2_with fail
  refine (HS.out _ _ _ _ _ HV12.out HV2.out).mono ?_
  rintro e w3 ⟨v, rfl, hv, hk⟩
  obtain ⟨n, a, l, c, rfl⟩ := hv.agg
  have HV3 := hid (hv.lower (Nat.zero_le _)); have HK3 := hid (HK2.out.trans hk)
  clear hv hk HS
  have hr := HK3.out.row HRR.out (fun h => h)
  obtain ⟨_, _, f2, f3⟩ := RowAt.facts2 hr
  have HR := hid hr
  clear hr
  go_wp2_with fail
  obtain ⟨hnv, hrf⟩ := NumV.setRow2 HV3.out HR.out (m := n) (s := .slice a l c)
  have hkf := (((HK0.out.trans HK3.out).setCell ⟨p + 1, 0, none⟩ (.inr (show w.heap.size ≤ p + 1 by have := HP.out; omega)) (.bool n)).setCell ⟨p + 1, 1, none⟩ (.inr (show w.heap.size ≤ p + 1 by have := HP.out; omega)) (.slice a l c))
  obtain ⟨e0, e1, _, _⟩ := RowAt.facts2 hrf
  generalize ((w3.setCell ⟨p + 1, 0, none⟩ (.bool n)).setCell ⟨p + 1, 1, none⟩ (.slice a l c)) = wf at *
  refine bodyPost_ret (v := .tuple #[.agg #[.bool n, .slice a l c], .bool true]) ?_ rfl ⟨⟨_, rfl, hnv⟩, hkf⟩
  simp [results, Tryz.results57, go_sem, e0, e1]

theorem one57_3 (vx : Value) (x : Int) (bx : Nat) (w : World) (hx : NumV w bx vx x) (hxb : x.natAbs < 10 ^ 200) (hx0 : 0 ≤ x) :
    Calls Tryz.prog 57 #[.int .i64 3, vx] w fun e w' => (∃ v, e = .returned (.tuple #[v, .bool true]) ∧ NumV w' 0 v ((rootN x.natAbs : Int))) ∧ Keeps (fun _ => False) w w' := by
  obtain ⟨n1, a1, l1, c1, rfl, hpx⟩ := hx.parts
  obtain ⟨w0, hw0⟩ : ∃ W, W = (w.alloc (.cells #[.bool n1, .slice a1 l1 c1] 24)).alloc (.cells #[.bool false, .slice none 0 0] 24) := ⟨_, rfl⟩
  obtain ⟨p, hp⟩ : ∃ p, p = w.heap.size := ⟨_, rfl⟩
  have hk0 : Keeps (fun _ => False) w w0 := by rw [hw0]; exact ((Keeps.refl _ w).alloc _).alloc _
  have hrx : RowAt w0 p 24 [.bool n1, .slice a1 l1 c1] := by rw [hw0, hp]; exact RowAt.alloc (RowAt.new w 24 _) _
  have hrr : RowAt w0 (p + 1) 24 [.bool false, .slice none 0 0] := by
    have h := RowAt.new (w.alloc (.cells #[.bool n1, .slice a1 l1 c1] 24)) 24 [.bool false, .slice none 0 0]
    rw [show (w.alloc (.cells #[.bool n1, .slice a1 l1 c1] 24)).heap.size = p + 1 by rw [hp]; simp] at h
    rw [hw0]; exact h
  have HV := hid (hpx w0 hk0 0 (fun _ _ => Nat.zero_le _))
  have hlx : (digs x.natAbs).length ≤ 201 := Nat.le_trans (digs_len hxb) (by omega)
  have HLX := hid hlx; have HXB := hid hxb
  have HK0 := hid hk0; have HRX := hid hrx; have HRR := hid hrr; have HP := hid hp
  clear hk0 hpx hlx hx hrx hrr hxb
  have HC := hid (sign35 _ x 0 w0 HV.out)
  have HR2 : Hid (∀ W, Keeps (fun _ => False) w0 W → Calls Tryz.prog 129 #[.agg #[.bool n1, .slice a1 l1 c1], .int .i64 2] W (NRes W (rootN x.natAbs : Int))) := hid (fun W hk => root129 _ x 0 W (HV.out.keep hk (fun _ _ h => h)) hx0 HXB.out)
  obtain ⟨s, hs⟩ : ∃ s, s = sgn x := ⟨_, rfl⟩
  rw [← hs] at HC
  have t0 : decide (s < 0) = false := by rw [hs]; unfold sgn; rw [if_neg (show ¬ x < 0 by omega)]; split <;> simp
  clear hs hx0
  go_enter Tryz.func57, Tryz.ntmps57
  go_wp2_with fail
  rw [← hw0, ← hp]
  clear hw0 hp
  refine HC.out.mono ?_
  rintro e w1 ⟨rfl, hk⟩
  have HK1 := hid hk
  have hr := HK1.out.row HRX.out (fun h => h)
  obtain ⟨x0, x1, _, _⟩ := RowAt.facts2 hr
  clear hk HC hr
  go_wp2_with fail
  refine (HR2.out _ HK1.out).mono ?_
  rintro e w2 ⟨v, rfl, hv, hk⟩
  obtain ⟨n, a, l, c, rfl⟩ := hv.agg
  have HV3 := hid (hv.lower (Nat.zero_le _)); have HK3 := hid (HK1.out.trans hk)
  clear hv hk HR2 x0 x1 t0
  have hr := HK3.out.row HRR.out (fun h => h)
  obtain ⟨_, _, f2, f3⟩ := RowAt.facts2 hr
  have HR := hid hr
  clear hr
  go_wp2_with fail
  obtain ⟨hnv, hrf⟩ := NumV.setRow2 HV3.out HR.out (m := n) (s := .slice a l c)
  have hkf := (((HK0.out.trans HK3.out).setCell ⟨p + 1, 0, none⟩ (.inr (show w.heap.size ≤ p + 1 by have := HP.out; omega)) (.bool n)).setCell ⟨p + 1, 1, none⟩ (.inr (show w.heap.size ≤ p + 1 by have := HP.out; omega)) (.slice a l c))
  obtain ⟨e0, e1, _, _⟩ := RowAt.facts2 hrf
  generalize ((w2.setCell ⟨p + 1, 0, none⟩ (.bool n)).setCell ⟨p + 1, 1, none⟩ (.slice a l c)) = wf at *
  refine bodyPost_ret (v := .tuple #[.agg #[.bool n, .slice a l c], .bool true]) ?_ rfl ⟨⟨_, rfl, hnv⟩, hkf⟩
  simp [results, Tryz.results57, go_sem, e0, e1]

theorem one57_4 (vx : Value) (x : Int) (bx : Nat) (w : World) (hx : NumV w bx vx x) (hxb : x.natAbs < 10 ^ 200) :
    Calls Tryz.prog 57 #[.int .i64 4, vx] w fun e w' => (∃ v, e = .returned (.tuple #[v, .bool true]) ∧ NumV w' 0 v (x)) ∧ Keeps (fun _ => False) w w' := by
  obtain ⟨n1, a1, l1, c1, rfl, hpx⟩ := hx.parts
  obtain ⟨w0, hw0⟩ : ∃ W, W = (w.alloc (.cells #[.bool n1, .slice a1 l1 c1] 24)).alloc (.cells #[.bool false, .slice none 0 0] 24) := ⟨_, rfl⟩
  obtain ⟨p, hp⟩ : ∃ p, p = w.heap.size := ⟨_, rfl⟩
  have hk0 : Keeps (fun _ => False) w w0 := by rw [hw0]; exact ((Keeps.refl _ w).alloc _).alloc _
  have hrx : RowAt w0 p 24 [.bool n1, .slice a1 l1 c1] := by rw [hw0, hp]; exact RowAt.alloc (RowAt.new w 24 _) _
  have hrr : RowAt w0 (p + 1) 24 [.bool false, .slice none 0 0] := by
    have h := RowAt.new (w.alloc (.cells #[.bool n1, .slice a1 l1 c1] 24)) 24 [.bool false, .slice none 0 0]
    rw [show (w.alloc (.cells #[.bool n1, .slice a1 l1 c1] 24)).heap.size = p + 1 by rw [hp]; simp] at h
    rw [hw0]; exact h
  have HV := hid (hpx w0 hk0 0 (fun _ _ => Nat.zero_le _))
  have hlx : (digs x.natAbs).length ≤ 201 := Nat.le_trans (digs_len hxb) (by omega)
  have HLX := hid hlx; have HXB := hid hxb
  have HK0 := hid hk0; have HRX := hid hrx; have HRR := hid hrr; have HP := hid hp
  have HPX := hid hpx
  clear hk0 hpx hlx hx hrx hrr hxb HV hw0
  obtain ⟨n, rfl⟩ : ∃ a, a = n1 := ⟨_, rfl⟩
  obtain ⟨a, rfl⟩ : ∃ a, a = a1 := ⟨_, rfl⟩
  obtain ⟨l, rfl⟩ : ∃ a, a = l1 := ⟨_, rfl⟩
  obtain ⟨c, rfl⟩ : ∃ a, a = c1 := ⟨_, rfl⟩
  obtain ⟨wf, hwf⟩ : ∃ W, W = (w.alloc (.cells #[.bool n, .slice a l c] 24)).alloc (.cells #[.bool n, .slice a l c] 24) := ⟨_, rfl⟩
  have hkf : Keeps (fun _ => False) w wf := by rw [hwf]; exact ((Keeps.refl _ w).alloc _).alloc _
  have HRF : Hid (RowAt wf (p + 1) 24 [.bool n, .slice a l c]) := hid (by
    have h := RowAt.new (w.alloc (.cells #[.bool n, .slice a l c] 24)) 24 [.bool n, .slice a l c]
    rw [show (w.alloc (.cells #[.bool n, .slice a l c] 24)).heap.size = p + 1 by rw [hp]; simp] at h
    rw [hwf]; exact h)
  have HKF := hid hkf
  have HVF := hid (HPX.out wf hkf 0 (fun _ _ => Nat.zero_le _))
  have HWF := hid hwf
  clear hkf hwf
  go_enter Tryz.func57, Tryz.ntmps57
  go_wp2_with fail
  rw [← HWF.out, ← hp]
  obtain ⟨e0, e1, _, _⟩ := RowAt.facts2 HRF.out
  refine bodyPost_ret (v := .tuple #[.agg #[.bool n, .slice a l c], .bool true]) ?_ rfl ⟨⟨_, rfl, HVF.out⟩, HKF.out⟩
  simp [results, Tryz.results57, go_sem, e0, e1]

theorem one57_neg (vx : Value) (x : Int) (bx : Nat) (w : World) (hx : NumV w bx vx x) (hxb : x.natAbs < 10 ^ 200) (hx0 : x < 0) :
    Calls Tryz.prog 57 #[.int .i64 3, vx] w fun e w' => e = .returned (.tuple #[.agg #[.bool false, .slice none 0 0], .bool false]) ∧ Keeps (fun _ => False) w w' := by
  obtain ⟨n1, a1, l1, c1, rfl, hpx⟩ := hx.parts
  obtain ⟨w0, hw0⟩ : ∃ W, W = (w.alloc (.cells #[.bool n1, .slice a1 l1 c1] 24)).alloc (.cells #[.bool false, .slice none 0 0] 24) := ⟨_, rfl⟩
  obtain ⟨p, hp⟩ : ∃ p, p = w.heap.size := ⟨_, rfl⟩
  have hk0 : Keeps (fun _ => False) w w0 := by rw [hw0]; exact ((Keeps.refl _ w).alloc _).alloc _
  have hrx : RowAt w0 p 24 [.bool n1, .slice a1 l1 c1] := by rw [hw0, hp]; exact RowAt.alloc (RowAt.new w 24 _) _
  have hrr : RowAt w0 (p + 1) 24 [.bool false, .slice none 0 0] := by
    have h := RowAt.new (w.alloc (.cells #[.bool n1, .slice a1 l1 c1] 24)) 24 [.bool false, .slice none 0 0]
    rw [show (w.alloc (.cells #[.bool n1, .slice a1 l1 c1] 24)).heap.size = p + 1 by rw [hp]; simp] at h
    rw [hw0]; exact h
  have HV := hid (hpx w0 hk0 0 (fun _ _ => Nat.zero_le _))
  have hlx : (digs x.natAbs).length ≤ 201 := Nat.le_trans (digs_len hxb) (by omega)
  have HLX := hid hlx; have HXB := hid hxb
  have HK0 := hid hk0; have HRX := hid hrx; have HRR := hid hrr; have HP := hid hp
  clear hk0 hpx hlx hx hrx hrr hxb
  have HC := hid (sign35 _ x 0 w0 HV.out)
  obtain ⟨s, hs⟩ : ∃ s, s = sgn x := ⟨_, rfl⟩
  rw [← hs] at HC
  have t0 : decide (s < 0) = true := by rw [hs]; unfold sgn; rw [if_pos hx0, if_neg (show x ≠ 0 by omega)]; rfl
  clear hs hx0
  go_enter Tryz.func57, Tryz.ntmps57
  go_wp2_with fail
  rw [← hw0, ← hp]
  clear hw0 hp
  refine HC.out.mono ?_
  rintro e w1 ⟨rfl, hk⟩
  have HK1 := hid hk
  have hr := HK1.out.row HRR.out (fun h => h)
  obtain ⟨_, _, f2, f3⟩ := RowAt.facts2 hr
  have HR := hid hr
  clear hk HC hr
  go_wp2_with fail
  have hrf := (HR.out.set 0 (.bool false)).set 1 (.slice none 0 0)
  have hkf := (((HK0.out.trans HK1.out).setCell ⟨p + 1, 0, none⟩ (.inr (show w.heap.size ≤ p + 1 by have := HP.out; omega)) (.bool false)).setCell ⟨p + 1, 1, none⟩ (.inr (show w.heap.size ≤ p + 1 by have := HP.out; omega)) (.slice none 0 0))
  obtain ⟨e0, e1, _, _⟩ := RowAt.facts2 (show RowAt _ (p + 1) 24 [.bool false, .slice none 0 0] from hrf)
  generalize ((w1.setCell ⟨p + 1, 0, none⟩ (.bool false)).setCell ⟨p + 1, 1, none⟩ (.slice none 0 0)) = wf at *
  refine bodyPost_ret (v := .tuple #[.agg #[.bool false, .slice none 0 0], .bool false]) ?_ rfl ⟨rfl, hkf⟩
  simp [results, Tryz.results57, go_sem, e0, e1]

theorem one57 (k : Nat) (vx : Value) (x : Int) (bx : Nat) (w : World) (hx : NumV w bx vx x) (hxb : x.natAbs < 10 ^ 200) (hk : k < 5) (h3 : k = 3 → 0 ≤ x) :
    Calls Tryz.prog 57 #[.int .i64 (k : Int), vx] w fun e w' => (∃ v, e = .returned (.tuple #[v, .bool true]) ∧ NumV w' 0 v (oneZ k x)) ∧ Keeps (fun _ => False) w w' := by
  rcases (by omega : k = 0 ∨ k = 1 ∨ k = 2 ∨ k = 3 ∨ k = 4) with rfl | rfl | rfl | rfl | rfl
  · have e : oneZ 0 x = -x := by simp [oneZ]
    rw [e]
    exact one57_0 vx x bx w hx hxb
  · have e : oneZ 1 x = (x.natAbs : Int) := by simp [oneZ]
    rw [e]
    exact one57_1 vx x bx w hx hxb
  · have e : oneZ 2 x = -x - 1 := by simp [oneZ]
    rw [e]
    exact one57_2 vx x bx w hx hxb
  · have e : oneZ 3 x = (rootN x.natAbs : Int) := by simp [oneZ]
    rw [e]
    exact one57_3 vx x bx w hx hxb (h3 rfl)
  · have e : oneZ 4 x = x := by simp [oneZ]
    rw [e]
    exact one57_4 vx x bx w hx hxb
end Go.Proofs
namespace Go.Proofs
open Go.RowKit
set_option maxHeartbeats 4000000
set_option linter.unusedVariables false
set_option linter.unusedSimpArgs false
set_option maxRecDepth 100000

theorem one_len {x : Int} (k : Nat) (h : x.natAbs < 10 ^ 200) : (digs (oneZ k x).natAbs).length ≤ 100000 := by
  refine Nat.le_trans (digs_len (k := 251) (k250 h (oneZ_le k x))) (by omega)
theorem law16 (op : Nat) (a : ByteArray) (al : Bool) (w : World) (G : Glob w) (hop : op ≤ 255) (hma : a.size ≤ 9223372036854775807) :
    Calls Tryz.prog 16 #[.int .u8 (op : Int), .string a, .bool al] w fun e w' => e = .returned (.bool true) ∧ Keeps (fun _ => False) w w' := by
  have HG := hid G
  clear G
  by_cases ha : a.size ≤ 2147483647
  · have H1 := hid (bigRight_any a w ha)
    go_enter Tryz.func16, Tryz.ntmps16
    go_wp2_with fail
    refine H1.out.mono ?_
    rintro e w1 ⟨hk1, hcase⟩
    have HK1 := hid hk1
    clear hk1 H1
    rcases hcase with ⟨x, v, htx, rfl, hnv⟩ | ⟨n1, a1, l1, c1, rfl⟩
    · have HTX := hid htx
      obtain ⟨n1, a1, l1, c1, rfl, hp⟩ := hnv.parts
      have HP := hid hp
      clear htx hnv hp
      obtain ⟨k, hk⟩ : ∃ k, k = op % 5 := ⟨_, rfl⟩
      have hk5 : k < 5 := by omega
      have g1 : IntKind.i64.wrap ((op : Int) % 5) = (k : Int) := by rw [IntKind.wrap_i64]; omega
      have g2 : (op : Int) % 5 = (k : Int) := by omega
      have g3 : IntKind.i64.wrap (op : Int) = (op : Int) := by rw [IntKind.wrap_i64]; omega
      have g4 : IntKind.i64.wrap (k : Int) = (k : Int) := by rw [IntKind.wrap_i64]; omega
      have g5 : (op : Int).tmod 5 = (k : Int) := by rw [Int.tmod_eq_emod_of_nonneg (by omega)]; exact g2
      clear hk
      go_upto_region 7 with fail
      clear g1 g2 g3 g4 g5
      obtain ⟨W1, hW1⟩ : ∃ W, W = w1.alloc (.cells #[.bool n1, .slice a1 l1 c1] 24) := ⟨_, rfl⟩
      obtain ⟨p1, hp1⟩ : ∃ p, p = w1.heap.size := ⟨_, rfl⟩
      have hB1 : NumB W1 p1 n1 a1 l1 c1 x := by rw [hW1, hp1]; exact NumB.new HP.out
      have hK1 : Keeps (fun _ => False) w W1 := by rw [hW1]; exact HK1.out.alloc _
      have HB1 := hid hB1; have HKW := hid hK1; have HG1 := hid (HG.out.keep hK1 (fun _ _ h => h)); have HXL := hid (Txt.lt HTX.out)
      have HAl := hid (fun W (hk : Keeps (fun _ => False) W1 W) => bigAlive_true W (HG1.out.keep hk (fun _ _ h => h)))
      rw [← hW1, ← hp1]
      obtain ⟨b0, b1⟩ := HB1.out.cells
      clear hW1 hp1 hB1 hK1 HP HK1 HG
      by_cases hbad : k = 3 ∧ x < 0
      · obtain ⟨hk3, hx0⟩ := hbad
        have HBo : Hid (∀ W, Keeps (fun _ => False) W1 W → Calls Tryz.prog 58 #[.int .i64 (k : Int), .string a, .bool al] W fun e w' => e = .returned (.tuple #[.string { data := #[] }, .bool false]) ∧ Keeps (fun _ => False) W w') := hid (fun W hk => by
        obtain ⟨na, la, da, hta, hx, _⟩ := HTX.out
        exact bigOne58_panics k a na da la x al W hk3 hx0 hta hx (HG1.out.keep hk (fun _ _ h => h)))
        have HSp : Hid (Calls Tryz.prog 57 #[.int .i64 (k : Int), .agg #[.bool n1, .slice a1 l1 c1]] W1 fun e w' => e = .returned (.tuple #[.agg #[.bool false, .slice none 0 0], .bool false]) ∧ Keeps (fun _ => False) W1 w') := hid (by
        rw [hk3]
        exact one57_neg _ x 0 W1 HB1.out.v HXL.out hx0)
        clear hk3 hx0 hk5
        go_wp2_with fail
        refine HSp.out.mono ?_
        rintro e w2 ⟨rfl, hk2⟩
        have HK2 := hid (hk2.alloc (.cells #[.bool false, .slice none 0 0] 24))
        have HB := hid (HBo.out _ HK2.out)
        clear hk2 b0 b1 HBo HSp
        go_wp2_with fail
        refine HB.out.mono ?_
        rintro e w3 ⟨rfl, hk3⟩
        have HK3 := hid (HK2.out.trans hk3)
        have HA := hid (HAl.out w3 HK3.out)
        clear hk3 HB HAl
        go_wp2_with fail
        refine HA.out.mono ?_
        rintro e w4 ⟨rfl, hk4⟩
        have HK4 := hid (HK3.out.trans hk4)
        clear hk4 HA
        go_wp2_with fail
        go_ret
        exact ⟨rfl, HKW.out.trans HK4.out⟩
      · obtain ⟨T, hT⟩ : ∃ T, T = strB (txt (decide (oneZ k x < 0)) (oneZ k x).natAbs) := ⟨_, rfl⟩
        have h3 : k = 3 → 0 ≤ x := fun h => by omega
        have HBo : Hid (∀ W, Keeps (fun _ => False) W1 W → Calls Tryz.prog 58 #[.int .i64 (k : Int), .string a, .bool al] W fun e w' => e = .returned (.tuple #[.string T, .bool true]) ∧ Keeps (fun _ => False) W w') := hid (fun W hk => by
        obtain ⟨na, la, da, hta, hx, _⟩ := HTX.out
        exact bigOne58 k a na da la x al T W hk5 h3 hta hx HXL.out (HG1.out.keep hk (fun _ _ h => h)) hT)
        have HSp := hid (one57 k _ x 0 W1 HB1.out.v HXL.out hk5 h3)
        have HX : Hid (∀ W v, NumV W 0 v (oneZ k x) → Calls Tryz.prog 22 #[v] W fun e w' => e = .returned (.string T) ∧ Keeps (fun _ => False) W w') := hid (fun W v h => by
        rw [hT]
        exact text22 v _ 0 W h (one_len k HXL.out))
        obtain ⟨z, hz⟩ : ∃ z, z = oneZ k x := ⟨_, rfl⟩
        rw [← hz] at HX HSp
        clear hbad h3 hT hz hk5
        go_wp2_with fail
        refine HSp.out.mono ?_
        rintro e w2 ⟨⟨v, rfl, hv⟩, hk2⟩
        obtain ⟨n2, a2, l2, c2, rfl, hp⟩ := hv.parts
        have HP := hid hp; have HK := hid hk2
        clear hv hp hk2 b0 b1 HSp
        go_upto_region 8 with fail
        obtain ⟨W2, hW2⟩ : ∃ W, W = w2.alloc (.cells #[.bool n2, .slice a2 l2 c2] 24) := ⟨_, rfl⟩
        obtain ⟨p2, hp2⟩ : ∃ p, p = w2.heap.size := ⟨_, rfl⟩
        have hB2 : NumB W2 p2 n2 a2 l2 c2 z := by rw [hW2, hp2]; exact NumB.new HP.out
        have hK2 : Keeps (fun _ => False) W1 W2 := by rw [hW2]; exact HK.out.alloc _
        rw [← hW2, ← hp2]
        have HB2 := hid hB2; have HK2 := hid hK2; have HB := hid (HBo.out _ hK2)
        clear hW2 hp2 hB2 hK2 HBo HP HK
        go_wp2_with fail
        refine HB.out.mono ?_
        rintro e w3 ⟨rfl, hk3⟩
        have HK3 := hid (HK2.out.trans hk3); have HB3 := hid (HB2.out.keep hk3)
        have HA := hid (HAl.out w3 HK3.out)
        clear hk3 HB HAl
        go_wp2_with fail
        refine HA.out.mono ?_
        rintro e w4 ⟨rfl, hk4⟩
        have HK4 := hid (HK3.out.trans hk4); have HB4 := hid (HB3.out.keep hk4)
        obtain ⟨b0, b1⟩ := HB4.out.cells
        clear hk4 HA
        go_wp2_with fail
        refine (HX.out _ _ HB4.out.v).mono ?_
        rintro e w5 ⟨rfl, hk5⟩
        have HK5 := hid (HK4.out.trans hk5)
        clear hk5 b0 b1 HX
        go_wp2_with fail
        go_ret
        exact ⟨rfl, HKW.out.trans HK5.out⟩
    · go_wp2_with fail
      have hk := (HK1.out.alloc (.cells #[.bool n1, .slice a1 l1 c1] 24))
      have HKK := hid hk
      have HG2 := hid (HG.out.keep hk (fun _ _ h => h))
      clear hk
      refine (bigAlive_true _ HG2.out).mono ?_
      rintro e w9 ⟨rfl, hk9⟩
      have HK9 := hid hk9
      clear hk9
      go_wp2_with fail
      go_ret
      exact ⟨rfl, HKK.out.trans HK9.out⟩
  · go_enter Tryz.func16, Tryz.ntmps16
    go_wp2_with fail
    go_ret
    exact ⟨rfl, Keeps.refl _ _⟩
end Go.Proofs
