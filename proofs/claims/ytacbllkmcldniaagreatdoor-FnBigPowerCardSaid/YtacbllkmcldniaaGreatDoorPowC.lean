/- Parts of the proofs over the numbers of any length: Pmod49. -/
import Derived.Deep.RegionHeld3
import Derived.Test.YtacbllkmcldniaaGreatDoorOneD
import Derived.Test.YtacbllkmcldniaaGreatDoorDivdA
import Derived.Test.YtacbllkmcldniaaGreatDoorSpecD
import Derived.Test.YtacbllkmcldniaaGreatDoorSpecB
import Derived.Test.YtacbllkmcldniaaGreatDoorBaseD
import Derived.Test.YtacbllkmcldniaaGreatDoorTellA
import Derived.Test.YtacbllkmcldniaaGreatDoorSpecC
set_option linter.unusedSimpArgs false
set_option linter.unusedVariables false
namespace Go.Proofs
open Go.RowKit
set_option maxHeartbeats 4000000
set_option linter.unusedVariables false
set_option linter.unusedSimpArgs false
set_option maxRecDepth 100000

theorem mul_digs {a b : Int} (ha : a.natAbs < 10 ^ 200) (hb : b.natAbs < 10 ^ 200) : (digs (a * b).natAbs).length ≤ 40000 := by
  obtain ⟨k, hk⟩ : ∃ k, k = 200 := ⟨_, rfl⟩
  rw [← hk] at ha hb
  refine Nat.le_trans (digs_len (k := k + k) ?_) (by omega)
  rw [Int.natAbs_mul, Nat.pow_add]
  exact Nat.mul_lt_mul'' ha hb
theorem digs_one {a : Int} (ha : a.natAbs < 10 ^ 200) : (digs a.natAbs).length ≤ 40000 := Nat.le_trans (digs_len ha) (by omega)
theorem emod_small {a m : Int} (hm : 0 < m) (hl : m.natAbs < 10 ^ 200) : (a % m).natAbs < 10 ^ 200 := by
  have h1 := Int.emod_nonneg a (show m ≠ 0 by omega)
  have h2 := Int.emod_lt_of_pos a hm
  omega
/-- The state of the reference's power modulo m. -/
structure PmS (w0 wr : World) (X P : Nat) (x o m : Int) : Prop where
  hx : NumE wr 0 X x
  hm : NumE wr 0 (X + 1) m
  ho : NumE wr 0 P o
  hr : RowAt wr (X + 2) 24 [.bool false, .slice none 0 0]
  kp : Keeps (fun _ => False) w0 wr
theorem PmS.cells {w0 wr : World} {X P : Nat} {x o m : Int} (h : PmS w0 wr X P x o m) : ∃ nx ax lx cx nm am lm cm no ao lo co, (∀ W, Keeps (fun _ => False) wr W → W.cell? ⟨X, 0, none⟩ = some (.bool nx) ∧ W.cell? ⟨X, 1, none⟩ = some (.slice ax lx cx) ∧ W.cell? ⟨X + 1, 0, none⟩ = some (.bool nm) ∧ W.cell? ⟨X + 1, 1, none⟩ = some (.slice am lm cm) ∧ W.cell? ⟨P, 0, none⟩ = some (.bool no) ∧ W.cell? ⟨P, 1, none⟩ = some (.slice ao lo co) ∧
    W.frozen? ⟨X, 0, none⟩ = false ∧ W.frozen? ⟨X, 1, none⟩ = false ∧ W.frozen? ⟨P, 0, none⟩ = false ∧ W.frozen? ⟨P, 1, none⟩ = false) ∧
    (∀ W, Keeps (fun _ => False) wr W → NumV W 0 (.agg #[.bool nx, .slice ax lx cx]) x ∧ NumV W 0 (.agg #[.bool nm, .slice am lm cm]) m ∧ NumV W 0 (.agg #[.bool no, .slice ao lo co]) o) ∧ RowAt wr X 24 [.bool nx, .slice ax lx cx] ∧ RowAt wr P 24 [.bool no, .slice ao lo co] := by
  obtain ⟨nx, ax, lx, cx, r1, v1⟩ := h.hx
  obtain ⟨nm, am, lm, cm, r2, v2⟩ := h.hm
  obtain ⟨no, ao, lo, co, r3, v3⟩ := h.ho
  refine ⟨nx, ax, lx, cx, nm, am, lm, cm, no, ao, lo, co, fun W hk => ?_, fun W hk => ⟨v1.keep hk (fun _ _ h => h), v2.keep hk (fun _ _ h => h), v3.keep hk (fun _ _ h => h)⟩, r1, r3⟩
  have q1 := hk.row r1 (fun h => h); have q2 := hk.row r2 (fun h => h); have q3 := hk.row r3 (fun h => h)
  exact ⟨q1.cell 0, q1.cell 1, q2.cell 0, q2.cell 1, q3.cell 0, q3.cell 1, q1.frozen 0, q1.frozen 1, q3.frozen 0, q3.frozen 1⟩
theorem PmS.setX {w0 wr : World} {X P : Nat} {x o m z : Int} {n n' : Bool} {u : Value} {a : Option Addr} {l c : Nat} (h : PmS w0 wr X P x o m) (hX : w0.heap.size ≤ X) (hP : X ≠ P) (hr : RowAt wr X 24 [.bool n', u]) (hv : NumV wr 0 (.agg #[.bool n, .slice a l c]) z) :
    PmS w0 ((wr.setCell ⟨X, 0, none⟩ (.bool n)).setCell ⟨X, 1, none⟩ (.slice a l c)) X P z o m :=
  ⟨NumE.made hr hv, h.hm.other (by omega) hr, h.ho.other hP hr, RowAt.other2 h.hr (by omega), (h.kp.setCell _ (.inr hX) _).setCell _ (.inr hX) _⟩
theorem PmS.setP {w0 wr : World} {X P : Nat} {x o m z : Int} {n n' : Bool} {u : Value} {a : Option Addr} {l c : Nat} (h : PmS w0 wr X P x o m) (hX : w0.heap.size ≤ P) (h1 : P ≠ X) (h2 : P ≠ X + 1) (h3 : P ≠ X + 2) (hr : RowAt wr P 24 [.bool n', u]) (hv : NumV wr 0 (.agg #[.bool n, .slice a l c]) z) :
    PmS w0 ((wr.setCell ⟨P, 0, none⟩ (.bool n)).setCell ⟨P, 1, none⟩ (.slice a l c)) X P x z m :=
  ⟨h.hx.other h1 hr, h.hm.other h2 hr, NumE.made hr hv, RowAt.other2 h.hr h3, (h.kp.setCell _ (.inr hX) _).setCell _ (.inr hX) _⟩
theorem PmS.keep {w0 wr w' : World} {X P : Nat} {x o m : Int} (h : PmS w0 wr X P x o m) (hk : Keeps (fun _ => False) wr w') : PmS w0 w' X P x o m :=
  ⟨h.hx.keep hk, h.hm.keep hk, h.ho.keep hk, hk.row h.hr (fun h => h), h.kp.trans hk⟩

theorem pmod49 (vx vm : Value) (x m : Int) (n bx bm : Nat) (w : World) (hx : NumV w bx vx x) (hm : NumV w bm vm m) (hm0 : 0 < m) (hxl : x.natAbs < 10 ^ 200) (hml : m.natAbs < 10 ^ 200) (hn : n ≤ 4294967295) :
    Calls Tryz.prog 49 #[vx, .int .u64 (n : Int), vm] w fun e w' => ∃ v, e = .returned v ∧ NumV w' 0 v (x ^ n % m) ∧ Keeps (fun _ => False) w w' := by
  obtain ⟨nx, ax, lx, cx, rfl, hpx⟩ := hx.parts
  obtain ⟨nm, am, lm, cm, rfl, hpm⟩ := hm.parts
  obtain ⟨wz, hwz⟩ : ∃ W, W = ((w.alloc (.cells #[.bool nx, .slice ax lx cx] 24)).alloc (.cells #[.bool nm, .slice am lm cm] 24)).alloc (.cells #[.bool false, .slice none 0 0] 24) := ⟨_, rfl⟩
  obtain ⟨X, hX⟩ : ∃ p, p = w.heap.size := ⟨_, rfl⟩
  have hk0 : Keeps (fun _ => False) w wz := by rw [hwz]; exact (((Keeps.refl _ w).alloc _).alloc _).alloc _
  have s1 : (w.alloc (.cells #[.bool nx, .slice ax lx cx] 24)).heap.size = X + 1 := by rw [hX]; simp
  have s2 : ((w.alloc (.cells #[.bool nx, .slice ax lx cx] 24)).alloc (.cells #[.bool nm, .slice am lm cm] 24)).heap.size = X + 2 := by rw [hX]; simp
  have hrx : RowAt wz X 24 [.bool nx, .slice ax lx cx] := by rw [hwz, hX]; exact RowAt.alloc (RowAt.alloc (RowAt.new w 24 _) _) _
  have hrm : RowAt wz (X + 1) 24 [.bool nm, .slice am lm cm] := by
    rw [hwz]
    have h := RowAt.new (w.alloc (.cells #[.bool nx, .slice ax lx cx] 24)) 24 [.bool nm, .slice am lm cm]
    rw [s1] at h
    exact RowAt.alloc h _
  have hrr : RowAt wz (X + 2) 24 [.bool false, .slice none 0 0] := by
    rw [hwz]
    have h := RowAt.new ((w.alloc (.cells #[.bool nx, .slice ax lx cx] 24)).alloc (.cells #[.bool nm, .slice am lm cm] 24)) 24 [.bool false, .slice none 0 0]
    rw [s2] at h
    exact h
  have HVX : Hid (∀ W, Keeps (fun _ => False) w W → NumV W 0 (.agg #[.bool nx, .slice ax lx cx]) x) := hid (fun W hk => hpx W hk 0 (fun _ _ => Nat.zero_le _))
  have HVM : Hid (∀ W, Keeps (fun _ => False) w W → NumV W 0 (.agg #[.bool nm, .slice am lm cm]) m) := hid (fun W hk => hpm W hk 0 (fun _ _ => Nat.zero_le _))
  have HM0 := hid hm0; have HXL := hid hxl; have HML := hid hml
  have HDIV : Hid (∀ W va vb a ba bb, NumV W ba va a → NumV W bb vb m → (digs a.natAbs).length ≤ 40000 → Calls Tryz.prog 36 #[va, vb] W fun e w' => ∃ v1 v2, e = .returned (.tuple #[v1, v2]) ∧ NumV w' W.heap.size v1 (dmQ a m) ∧ NumV w' W.heap.size v2 (a % m) ∧ Keeps (fun _ => False) W w') := hid (fun W va vb a ba bb h1 h2 hl => by
    refine (divided36 va vb a m ba bb W h1 h2 (by omega) hl (digs_one hml)).mono ?_
    rintro e w' ⟨v1, v2, he, g1, g2, g3⟩
    rw [(dm_pos hm0).2] at g2
    exact ⟨v1, v2, he, g1, g2, g3⟩)
  have HMUL : Hid (∀ W va vb a b ba bb, NumV W ba va a → NumV W bb vb b → a.natAbs < 10 ^ 200 → b.natAbs < 10 ^ 200 → Calls Tryz.prog 27 #[va, vb] W (NRes W (a * b))) := hid (fun W va vb a b ba bb h1 h2 g1 g2 => mul27 va vb a b ba bb W h1 h2 (digs_one g1) (digs_one g2))
  have HXX := hid hX; have HK0 := hid hk0; have HRX := hid hrx; have HRM := hid hrm; have HRR := hid hrr
  obtain ⟨x0, x1⟩ := RowAt.num hrx
  obtain ⟨m0, m1⟩ := RowAt.num hrm
  have HO2 := hid (fun W => of33 1 W (by omega) (by omega))
  have HQR : Hid (∀ W vy b, NumV W b vy 1 → Keeps (fun _ => False) wz W → Calls Tryz.prog 36 #[vy, .agg #[.bool nm, .slice am lm cm]] W fun e w' => ∃ v1 v2, e = .returned (.tuple #[v1, v2]) ∧ NumV w' W.heap.size v1 (dmQ 1 m) ∧ NumV w' W.heap.size v2 (1 % m) ∧ Keeps (fun _ => False) W w') := hid (fun W vy b h1 hk =>
    HDIV.out W vy _ 1 b 0 h1 (HVM.out W (HK0.out.trans hk)) (Nat.le_trans (digs_len (k := 2) (by decide)) (by omega)))
  have HS9 : Hid (∀ w', Keeps (fun _ => False) wz w' → w'.cell? ⟨X + 1, 0, none⟩ = some (.bool nm) ∧ w'.cell? ⟨X + 1, 1, none⟩ = some (.slice am lm cm)) := hid (fun w' hk => RowAt.num (hk.row HRM.out (fun h => h)))
  have HSX : Hid (∀ w', Keeps (fun _ => False) wz w' → w'.cell? ⟨X, 0, none⟩ = some (.bool nx) ∧ w'.cell? ⟨X, 1, none⟩ = some (.slice ax lx cx) ∧ w'.frozen? ⟨X, 0, none⟩ = false ∧ w'.frozen? ⟨X, 1, none⟩ = false) := hid (fun w' hk => RowAt.facts2 (hk.row HRX.out (fun h => h)))
  clear hk0 s1 s2 hrx hrm hrr hpx hpm hx hm hm0 hxl hml
  go_enter Tryz.func49, Tryz.ntmps49
  go_upto_region 1 with fail
  rw [← hwz, ← hX]
  clear hwz hX
  go_cut [7, 8] from 9 to 15 (fun u v wx => TwoC wz 0 (dmQ 1 m) (1 % m) u v wx)
  case first =>
    go_region_held3 (fun w' => w'.cell? ⟨X + 1, 0, none⟩ = some (.bool nm) ∧ w'.cell? ⟨X + 1, 1, none⟩ = some (.slice am lm cm))
      (((refine HS9.out _ ?_); repeat (first | (with_reducible exact K6.out) | (with_reducible exact K5.out) | (with_reducible exact Keeps.refl _ _) | (with_reducible refine Keeps.drew ?_) | (with_reducible refine Keeps.new ?_ _) | (refine Keeps.setCell ?_ _ (.inr (by dsimp only; omega)) _))))
      (first
         | (go_at_call 33; (with_reducible refine (HO2.out (wz.drew)).mono ?_); rintro e w5 ⟨v, rfl, hv, hk⟩; obtain ⟨n5, a5, l5, c5, rfl⟩ := hv.agg; have HV5 := hid hv; have k5 := (show Keeps (fun _ => False) wz (wz.drew) from (Keeps.refl (fun _ => False) wz).drew); have K5 := hid (k5.trans hk); have tok0 : True := trivial; have z5 := K5.out.size; clear hv hk k5)
         | (go_at_call 33; (with_reducible refine (HO2.out ((wz.alloc (.cells #[.bool false, .slice none 0 0] 24)).drew)).mono ?_); rintro e w5 ⟨v, rfl, hv, hk⟩; obtain ⟨n5, a5, l5, c5, rfl⟩ := hv.agg; have HV5 := hid hv; have k5 := (show Keeps (fun _ => False) wz ((wz.alloc (.cells #[.bool false, .slice none 0 0] 24)).drew) from ((Keeps.refl (fun _ => False) wz).alloc _).drew); have K5 := hid (k5.trans hk); have FR0 := hid ((show Fr ((wz.alloc (.cells #[.bool false, .slice none 0 0] 24)).drew) wz.heap.size from (Fr.new wz)).keep hk); have tok1 : True := trivial; have z5 := K5.out.size; clear hv hk k5)
         | (go_at_call 33; (with_reducible refine (HO2.out (((wz.alloc (.cells #[.bool false, .slice none 0 0] 24)).alloc (.cells #[.bool false, .slice none 0 0] 24)).drew)).mono ?_); rintro e w5 ⟨v, rfl, hv, hk⟩; obtain ⟨n5, a5, l5, c5, rfl⟩ := hv.agg; have HV5 := hid hv; have k5 := (show Keeps (fun _ => False) wz (((wz.alloc (.cells #[.bool false, .slice none 0 0] 24)).alloc (.cells #[.bool false, .slice none 0 0] 24)).drew) from (((Keeps.refl (fun _ => False) wz).alloc _).alloc _).drew); have K5 := hid (k5.trans hk); have FR0 := hid ((show Fr (((wz.alloc (.cells #[.bool false, .slice none 0 0] 24)).alloc (.cells #[.bool false, .slice none 0 0] 24)).drew) wz.heap.size from (Fr.new2 wz).1).keep hk); have FR1 := hid ((show Fr (((wz.alloc (.cells #[.bool false, .slice none 0 0] 24)).alloc (.cells #[.bool false, .slice none 0 0] 24)).drew) (wz.heap.size + 1) from (Fr.new2 wz).2).keep hk); have tok2 : True := trivial; have z5 := K5.out.size; clear hv hk k5)
         | (go_at_call 36; have _t := tok0; (with_reducible refine (HQR.out w5 _ _ (HV5.out.keep (show Keeps (fun _ => False) w5 w5 from (Keeps.refl (fun _ => False) w5)) (fun _ _ h => h)) (K5.out.trans (show Keeps (fun _ => False) w5 w5 from (Keeps.refl (fun _ => False) w5)))).mono ?_); rintro e w6 ⟨v1, v2, rfl, hv1, hv2, hk⟩; obtain ⟨n6, a6, l6, c6, rfl⟩ := hv1.agg; obtain ⟨n7, a7, l7, c7, rfl⟩ := hv2.agg; have k56 := (show Keeps (fun _ => False) w5 w5 from (Keeps.refl (fun _ => False) w5)).trans hk; have z6 := k56.size; have HV6 := hid (hv1.lower (Nat.zero_le _)); have HV7 := hid (hv2.lower (Nat.zero_le _)); have K6 := hid (K5.out.trans k56); clear hv1 hv2 hk k56)
         | (go_at_call 36; have _t := tok0; (with_reducible refine (HQR.out (w5.alloc (.cells #[.bool false, .slice none 0 0] 24)) _ _ (HV5.out.keep (show Keeps (fun _ => False) w5 (w5.alloc (.cells #[.bool false, .slice none 0 0] 24)) from ((Keeps.refl (fun _ => False) w5).alloc _)) (fun _ _ h => h)) (K5.out.trans (show Keeps (fun _ => False) w5 (w5.alloc (.cells #[.bool false, .slice none 0 0] 24)) from ((Keeps.refl (fun _ => False) w5).alloc _)))).mono ?_); rintro e w6 ⟨v1, v2, rfl, hv1, hv2, hk⟩; obtain ⟨n6, a6, l6, c6, rfl⟩ := hv1.agg; obtain ⟨n7, a7, l7, c7, rfl⟩ := hv2.agg; have k56 := (show Keeps (fun _ => False) w5 (w5.alloc (.cells #[.bool false, .slice none 0 0] 24)) from ((Keeps.refl (fun _ => False) w5).alloc _)).trans hk; have z6 := k56.size; have HV6 := hid (hv1.lower (Nat.zero_le _)); have HV7 := hid (hv2.lower (Nat.zero_le _)); have K6 := hid (K5.out.trans k56); have g0 := ((Fr.new w5).keep hk); obtain ⟨x00, x01, x02, x03⟩ := g0.facts; have y00 := fun o => (Fr.facts (RowAt.alloc g0 o)).1; have y01 := fun o => (Fr.facts (RowAt.alloc g0 o)).2.1; have y02 := fun o => (Fr.facts (RowAt.alloc g0 o)).2.2.1; have y03 := fun o => (Fr.facts (RowAt.alloc g0 o)).2.2.2; have lt0 := RowAt.lt g0; have ne0 := Nat.ne_of_lt lt0; have nf0 := Ne.symm ne0; have G0 := hid g0; clear g0; clear hv1 hv2 hk k56)
         | (go_at_call 36; have _t := tok0; (with_reducible refine (HQR.out ((w5.alloc (.cells #[.bool false, .slice none 0 0] 24)).alloc (.cells #[.bool false, .slice none 0 0] 24)) _ _ (HV5.out.keep (show Keeps (fun _ => False) w5 ((w5.alloc (.cells #[.bool false, .slice none 0 0] 24)).alloc (.cells #[.bool false, .slice none 0 0] 24)) from (((Keeps.refl (fun _ => False) w5).alloc _).alloc _)) (fun _ _ h => h)) (K5.out.trans (show Keeps (fun _ => False) w5 ((w5.alloc (.cells #[.bool false, .slice none 0 0] 24)).alloc (.cells #[.bool false, .slice none 0 0] 24)) from (((Keeps.refl (fun _ => False) w5).alloc _).alloc _)))).mono ?_); rintro e w6 ⟨v1, v2, rfl, hv1, hv2, hk⟩; obtain ⟨n6, a6, l6, c6, rfl⟩ := hv1.agg; obtain ⟨n7, a7, l7, c7, rfl⟩ := hv2.agg; have k56 := (show Keeps (fun _ => False) w5 ((w5.alloc (.cells #[.bool false, .slice none 0 0] 24)).alloc (.cells #[.bool false, .slice none 0 0] 24)) from (((Keeps.refl (fun _ => False) w5).alloc _).alloc _)).trans hk; have z6 := k56.size; have HV6 := hid (hv1.lower (Nat.zero_le _)); have HV7 := hid (hv2.lower (Nat.zero_le _)); have K6 := hid (K5.out.trans k56); have g0 := ((Fr.new2 w5).1.keep hk); obtain ⟨x00, x01, x02, x03⟩ := g0.facts; have y00 := fun o => (Fr.facts (RowAt.alloc g0 o)).1; have y01 := fun o => (Fr.facts (RowAt.alloc g0 o)).2.1; have y02 := fun o => (Fr.facts (RowAt.alloc g0 o)).2.2.1; have y03 := fun o => (Fr.facts (RowAt.alloc g0 o)).2.2.2; have lt0 := RowAt.lt g0; have ne0 := Nat.ne_of_lt lt0; have nf0 := Ne.symm ne0; have G0 := hid g0; clear g0; have g1 := ((Fr.new2 w5).2.keep hk); obtain ⟨x10, x11, x12, x13⟩ := g1.facts; have y10 := fun o => (Fr.facts (RowAt.alloc g1 o)).1; have y11 := fun o => (Fr.facts (RowAt.alloc g1 o)).2.1; have y12 := fun o => (Fr.facts (RowAt.alloc g1 o)).2.2.1; have y13 := fun o => (Fr.facts (RowAt.alloc g1 o)).2.2.2; have lt1 := RowAt.lt g1; have ne1 := Nat.ne_of_lt lt1; have nf1 := Ne.symm ne1; have G1 := hid g1; clear g1; clear hv1 hv2 hk k56)
         | (go_at_call 36; have _t := tok1; (with_reducible refine (HQR.out w5 _ _ (HV5.out.keep (show Keeps (fun _ => False) w5 w5 from (Keeps.refl (fun _ => False) w5)) (fun _ _ h => h)) (K5.out.trans (show Keeps (fun _ => False) w5 w5 from (Keeps.refl (fun _ => False) w5)))).mono ?_); rintro e w6 ⟨v1, v2, rfl, hv1, hv2, hk⟩; obtain ⟨n6, a6, l6, c6, rfl⟩ := hv1.agg; obtain ⟨n7, a7, l7, c7, rfl⟩ := hv2.agg; have k56 := (show Keeps (fun _ => False) w5 w5 from (Keeps.refl (fun _ => False) w5)).trans hk; have z6 := k56.size; have HV6 := hid (hv1.lower (Nat.zero_le _)); have HV7 := hid (hv2.lower (Nat.zero_le _)); have K6 := hid (K5.out.trans k56); have ne45 := Nat.ne_of_lt (RowAt.lt FR0.out); have nf45 := Ne.symm ne45; have g0 := (FR0.out.keep k56); obtain ⟨x00, x01, x02, x03⟩ := g0.facts; have y00 := fun o => (Fr.facts (RowAt.alloc g0 o)).1; have y01 := fun o => (Fr.facts (RowAt.alloc g0 o)).2.1; have y02 := fun o => (Fr.facts (RowAt.alloc g0 o)).2.2.1; have y03 := fun o => (Fr.facts (RowAt.alloc g0 o)).2.2.2; have lt0 := RowAt.lt g0; have ne0 := Nat.ne_of_lt lt0; have nf0 := Ne.symm ne0; have G0 := hid g0; clear g0; clear hv1 hv2 hk k56)
         | (go_at_call 36; have _t := tok1; (with_reducible refine (HQR.out (w5.alloc (.cells #[.bool false, .slice none 0 0] 24)) _ _ (HV5.out.keep (show Keeps (fun _ => False) w5 (w5.alloc (.cells #[.bool false, .slice none 0 0] 24)) from ((Keeps.refl (fun _ => False) w5).alloc _)) (fun _ _ h => h)) (K5.out.trans (show Keeps (fun _ => False) w5 (w5.alloc (.cells #[.bool false, .slice none 0 0] 24)) from ((Keeps.refl (fun _ => False) w5).alloc _)))).mono ?_); rintro e w6 ⟨v1, v2, rfl, hv1, hv2, hk⟩; obtain ⟨n6, a6, l6, c6, rfl⟩ := hv1.agg; obtain ⟨n7, a7, l7, c7, rfl⟩ := hv2.agg; have k56 := (show Keeps (fun _ => False) w5 (w5.alloc (.cells #[.bool false, .slice none 0 0] 24)) from ((Keeps.refl (fun _ => False) w5).alloc _)).trans hk; have z6 := k56.size; have HV6 := hid (hv1.lower (Nat.zero_le _)); have HV7 := hid (hv2.lower (Nat.zero_le _)); have K6 := hid (K5.out.trans k56); have ne45 := Nat.ne_of_lt (RowAt.lt FR0.out); have nf45 := Ne.symm ne45; have g0 := (FR0.out.keep k56); obtain ⟨x00, x01, x02, x03⟩ := g0.facts; have y00 := fun o => (Fr.facts (RowAt.alloc g0 o)).1; have y01 := fun o => (Fr.facts (RowAt.alloc g0 o)).2.1; have y02 := fun o => (Fr.facts (RowAt.alloc g0 o)).2.2.1; have y03 := fun o => (Fr.facts (RowAt.alloc g0 o)).2.2.2; have lt0 := RowAt.lt g0; have ne0 := Nat.ne_of_lt lt0; have nf0 := Ne.symm ne0; have G0 := hid g0; clear g0; have g1 := ((Fr.new w5).keep hk); obtain ⟨x10, x11, x12, x13⟩ := g1.facts; have y10 := fun o => (Fr.facts (RowAt.alloc g1 o)).1; have y11 := fun o => (Fr.facts (RowAt.alloc g1 o)).2.1; have y12 := fun o => (Fr.facts (RowAt.alloc g1 o)).2.2.1; have y13 := fun o => (Fr.facts (RowAt.alloc g1 o)).2.2.2; have lt1 := RowAt.lt g1; have ne1 := Nat.ne_of_lt lt1; have nf1 := Ne.symm ne1; have G1 := hid g1; clear g1; clear hv1 hv2 hk k56)
         | (go_at_call 36; have _t := tok2; (with_reducible refine (HQR.out w5 _ _ (HV5.out.keep (show Keeps (fun _ => False) w5 w5 from (Keeps.refl (fun _ => False) w5)) (fun _ _ h => h)) (K5.out.trans (show Keeps (fun _ => False) w5 w5 from (Keeps.refl (fun _ => False) w5)))).mono ?_); rintro e w6 ⟨v1, v2, rfl, hv1, hv2, hk⟩; obtain ⟨n6, a6, l6, c6, rfl⟩ := hv1.agg; obtain ⟨n7, a7, l7, c7, rfl⟩ := hv2.agg; have k56 := (show Keeps (fun _ => False) w5 w5 from (Keeps.refl (fun _ => False) w5)).trans hk; have z6 := k56.size; have HV6 := hid (hv1.lower (Nat.zero_le _)); have HV7 := hid (hv2.lower (Nat.zero_le _)); have K6 := hid (K5.out.trans k56); have ne45 := Nat.ne_of_lt (RowAt.lt FR0.out); have nf45 := Ne.symm ne45; have g0 := (FR0.out.keep k56); obtain ⟨x00, x01, x02, x03⟩ := g0.facts; have y00 := fun o => (Fr.facts (RowAt.alloc g0 o)).1; have y01 := fun o => (Fr.facts (RowAt.alloc g0 o)).2.1; have y02 := fun o => (Fr.facts (RowAt.alloc g0 o)).2.2.1; have y03 := fun o => (Fr.facts (RowAt.alloc g0 o)).2.2.2; have lt0 := RowAt.lt g0; have ne0 := Nat.ne_of_lt lt0; have nf0 := Ne.symm ne0; have G0 := hid g0; clear g0; have g1 := (FR1.out.keep k56); obtain ⟨x10, x11, x12, x13⟩ := g1.facts; have y10 := fun o => (Fr.facts (RowAt.alloc g1 o)).1; have y11 := fun o => (Fr.facts (RowAt.alloc g1 o)).2.1; have y12 := fun o => (Fr.facts (RowAt.alloc g1 o)).2.2.1; have y13 := fun o => (Fr.facts (RowAt.alloc g1 o)).2.2.2; have lt1 := RowAt.lt g1; have ne1 := Nat.ne_of_lt lt1; have nf1 := Ne.symm ne1; have G1 := hid g1; clear g1; clear hv1 hv2 hk k56))
    all_goals
      go_wp2_with fail
      go_meet
    all_goals first | (with_reducible exact two_D K6.out HV6.out HV7.out) | (with_reducible exact two_B K6.out HV6.out HV7.out (by omega) G0.out) | (with_reducible exact two_C K6.out HV6.out HV7.out (by omega) G0.out) | (with_reducible exact two_A K6.out HV6.out HV7.out (by omega) (by omega) G0.out G1.out (by omega)) | (with_reducible exact two_A K6.out HV6.out HV7.out (by omega) (by omega) G1.out G0.out (by omega)) | (refine TwoC.symm ?_; with_reducible exact two_D K6.out HV7.out HV6.out) | (refine TwoC.symm ?_; with_reducible exact two_B K6.out HV7.out HV6.out (by omega) G0.out) | (refine TwoC.symm ?_; with_reducible exact two_C K6.out HV7.out HV6.out (by omega) G0.out) | (refine TwoC.symm ?_; with_reducible exact two_A K6.out HV7.out HV6.out (by omega) (by omega) G0.out G1.out (by omega)) | (refine TwoC.symm ?_; with_reducible exact two_A K6.out HV7.out HV6.out (by omega) (by omega) G1.out G0.out (by omega))
  case rest =>
    obtain ⟨P7, P, rfl, rfl, h78, h7, h8, e7, e8, hkz⟩ := hcut
    obtain ⟨wk, rfl⟩ : ∃ wk : World, wk = wc := ⟨_, rfl⟩
    have HE8 := hid e8; have HKk := hid hkz
    have HPX : Hid (P ≠ X ∧ P ≠ X + 1 ∧ P ≠ X + 2 ∧ w.heap.size ≤ P) := hid (by
      have g1 := HRR.out.lt
      have g2 := HK0.out.size
      exact ⟨by omega, by omega, by omega, by omega⟩)
    have hpx := HPX.out.1
    obtain ⟨x0, x1, x2, x3⟩ := HSX.out wk hkz
    obtain ⟨m0, m1⟩ := HS9.out wk hkz
    have HD0 := hid (HDIV.out wk _ _ x 0 0 (HVX.out wk (HK0.out.trans hkz)) (HVM.out wk (HK0.out.trans hkz)) (digs_one HXL.out))
    clear e7 e8 hkz h78 h7 h8
    go_wp2_with fail
    refine HD0.out.mono ?_
    rintro e w2 ⟨v1, v2, rfl, hv1, hv2, hk⟩
    obtain ⟨n1, a1, l1, c1, rfl⟩ := hv1.agg
    obtain ⟨n2, a2, l2, c2, rfl⟩ := hv2.agg
    have HV2 := hid (hv2.lower (Nat.zero_le _)); have HK2 := hid (HKk.out.trans hk); have HE82 := hid (HE8.out.keep hk)
    obtain ⟨y0, y1, y2, y3⟩ := HSX.out w2 (HKk.out.trans hk)
    clear hv1 hv2 hk x0 x1 x2 x3 m0 m1 HD0
    go_upto_block 0 with fail
    have HS0 : Hid (PmS w ((w2.setCell ⟨X, 0, none⟩ (.bool n2)).setCell ⟨X, 1, none⟩ (.slice a2 l2 c2)) X P (x % m) (1 % m) m) := hid (by
      have h0 : PmS w w2 X P x (1 % m) m := ⟨⟨nx, ax, lx, cx, HK2.out.row HRX.out (fun h => h), HVX.out w2 (HK0.out.trans HK2.out)⟩, ⟨nm, am, lm, cm, HK2.out.row HRM.out (fun h => h), HVM.out w2 (HK0.out.trans HK2.out)⟩, HE82.out, HK2.out.row HRR.out (fun h => h), HK0.out.trans HK2.out⟩
      exact h0.setX (by rw [HXX.out]; exact Nat.le_refl _) (Ne.symm HPX.out.1) (HK2.out.row HRX.out (fun h => h)) HV2.out)
    generalize ((w2.setCell ⟨X, 0, none⟩ (.bool n2)).setCell ⟨X, 1, none⟩ (.slice a2 l2 c2)) = W3 at *
    clear y0 y1 y2 y3
    go_wp2_with fail
    go_loopw [1] (fun nv wr => ∃ (k : Nat) (xz oz : Int), nv = .int .u64 (k : Int) ∧ k ≤ n ∧ PmS w wr X P xz oz m ∧ oz * xz ^ k % m = x ^ n % m ∧ oz.natAbs < 10 ^ 200 ∧ xz.natAbs < 10 ^ 200 ∧ oz % m = oz) (fun nv _ => (intOf nv).toNat)
    case atStart =>
      refine ⟨n, x % m, 1 % m, rfl, Nat.le_refl _, HS0.out, ?_, emod_small HM0.out HML.out, emod_small HM0.out HML.out, Int.emod_emod_of_dvd _ (Int.dvd_refl m)⟩
      rw [Int.mul_emod, Int.emod_emod_of_dvd _ (Int.dvd_refl m), emod_pow, ← Int.mul_emod, Int.one_mul]
    case round =>
      obtain ⟨k, xz, oz, rfl, hkn, hst, hinv, hol, hxl, hoo⟩ := hrel
      have HS := hid hst; have HINV := hid hinv; have HOL := hid hol; have HXZ := hid hxl; have HOO := hid hoo
      clear hst hinv hol hxl hoo
      by_cases hk0 : k = 0
      · subst hk0
        obtain ⟨nx', ax', lx', cx', nm', am', lm', cm', no', ao', lo', co', hcl, hvl, hrx', hro'⟩ := HS.out.cells
        obtain ⟨_, _, _, _, o0, o1, _, _, _, _⟩ := hcl wr (Keeps.refl _ _)
        obtain ⟨_, _, f0, f1⟩ := RowAt.facts2 HS.out.hr
        have HVO := hid (hvl wr (Keeps.refl _ _)).2.2
        clear hcl hvl hrx' hro'
        go_wp2_with fail
        obtain ⟨hv9, hr9⟩ := NumV.setRow2 HVO.out HS.out.hr (m := no') (s := .slice ao' lo' co')
        have hge : w.heap.size ≤ X + 2 := by have := HXX.out; omega
        have hk9 := (HS.out.kp.setCell ⟨X + 2, 0, none⟩ (.inr hge) (.bool no')).setCell ⟨X + 2, 1, none⟩ (.inr hge) (.slice ao' lo' co')
        obtain ⟨e0, e1, _, _⟩ := RowAt.facts2 hr9
        have hfin : oz = x ^ n % m := by
          have h := HINV.out
          rw [Int.pow_zero, Int.mul_one, HOO.out] at h
          exact h
        generalize ((wr.setCell ⟨X + 2, 0, none⟩ (.bool no')).setCell ⟨X + 2, 1, none⟩ (.slice ao' lo' co')) = wf at *
        refine bodyPost_ret (v := .agg #[.bool no', .slice ao' lo' co']) ?_ rfl ⟨_, rfl, by rw [← hfin]; exact hv9, hk9⟩
        simp [results, Tryz.results49, go_sem, e0, e1]
      · have t1 : decide (0 < k) = true := by simp; omega
        have t1' : decide ((0 : Int) < (k : Int)) = true := by simp; omega
        obtain ⟨b, hb⟩ : ∃ b, b = k % 2 := ⟨_, rfl⟩
        obtain ⟨h2, hh2⟩ : ∃ h, h = k / 2 := ⟨_, rfl⟩
        have g1 : (k : Int) % 2 = (b : Int) := by omega
        have g2 : IntKind.u64.wrap ((k : Int) % 2) = (b : Int) := by rw [IntKind.wrap_u64]; omega
        have g3 : (k : Int).tmod 2 = (b : Int) := by rw [Int.tmod_eq_emod_of_nonneg (by omega)]; exact g1
        have g4 : (k : Int) / 2 = (h2 : Int) := by omega
        have g5 : (k : Int).tdiv 2 = (h2 : Int) := by rw [Int.tdiv_eq_ediv_of_nonneg (by omega)]; exact g4
        have g6 : IntKind.u64.wrap ((k : Int) / 2) = (h2 : Int) := by rw [IntKind.wrap_u64]; omega
        have HB := hid hb; have HH2 := hid hh2; have HK00 := hid hk0
        clear hb hh2 hk0
        go_upto_if 27 with fail
        go_cut [] from 27 to 36 (fun wx => ∃ oz' : Int, PmS w wx X P xz oz' m ∧ oz' * (xz * xz % m) ^ h2 % m = x ^ n % m ∧ oz'.natAbs < 10 ^ 200 ∧ oz' % m = oz')
        case first =>
          by_cases hodd : b = 1
          · subst hodd
            clear g1 g2 g3 g4 g5 g6
            obtain ⟨nx', ax', lx', cx', nm', am', lm', cm', no', ao', lo', co', hcl, hvl, hrx', hro'⟩ := HS.out.cells
            obtain ⟨x0, x1, m0, m1, o0, o1, q0, q1, q2, q3⟩ := hcl wr (Keeps.refl _ _)
            have HM1 := hid (HMUL.out wr.drew _ _ oz xz _ _ (hvl wr.drew (Keeps.refl _ wr).drew).2.2 (hvl wr.drew (Keeps.refl _ wr).drew).1 HOL.out HXZ.out)
            have HD1 : Hid (∀ W va ba, NumV W ba va (oz * xz) → Keeps (fun _ => False) wr W → Calls Tryz.prog 36 #[va, .agg #[.bool nm', .slice am' lm' cm']] W fun e w' => ∃ v1 v2, e = .returned (.tuple #[v1, v2]) ∧ NumV w' W.heap.size v1 (dmQ (oz * xz) m) ∧ NumV w' W.heap.size v2 (oz * xz % m) ∧ Keeps (fun _ => False) W w') := hid (fun W va ba h1 hk => HDIV.out W va _ _ ba 0 h1 (hvl W hk).2.1 (mul_digs HOL.out HXZ.out))
            have HCL := hid hcl; have HRO := hid hro'
            clear hcl hvl hrx' hro'
            go_upto_region 6 with fail
            go_region_law
              (first
               | (go_simp; go_at_call 27; (with_reducible refine HM1.out.mono ?_); rintro e w5 ⟨v, rfl, hv, hk⟩; obtain ⟨n5, a5, l5, c5, rfl⟩ := hv.agg; have HV5 := hid hv; have K5 := hid ((Keeps.refl (fun _ => False) wr).drew.trans hk); obtain ⟨x0, x1, m0, m1, o0, o1, q0, q1, q2, q3⟩ := HCL.out _ K5.out; clear hv hk)
               | (go_simp; go_at_call 36; (with_reducible refine (HD1.out w5 _ _ HV5.out K5.out).mono ?_); rintro e w6 ⟨v1, v2, rfl, hv1, hv2, hk⟩; obtain ⟨n6, a6, l6, c6, rfl⟩ := hv1.agg; obtain ⟨n7, a7, l7, c7, rfl⟩ := hv2.agg; have HV7 := hid (hv2.lower (Nat.zero_le _)); have K6 := hid (K5.out.trans hk); obtain ⟨x0, x1, m0, m1, o0, o1, q0, q1, q2, q3⟩ := HCL.out _ K6.out; clear hv1 hv2 hk))
            all_goals
              go_wp2_with fail
              go_meet
            all_goals
              refine ⟨oz * xz % m, (HS.out.keep K6.out).setP HPX.out.2.2.2 HPX.out.1 HPX.out.2.1 HPX.out.2.2.1 (K6.out.row HRO.out (fun h => h)) HV7.out, ?_, emod_small HM0.out HML.out, Int.emod_emod_of_dvd _ (Int.dvd_refl m)⟩
              rw [HH2.out, pmod_odd oz xz m k HB.out.symm]
              exact HINV.out
          ·
            have t3 : ((b : Int) == 1) = false := by simp; omega
            clear g4 g5 g6
            go_wp2_with fail
            go_meet
            case rel =>
              refine ⟨oz, HS.out, ?_, HOL.out, HOO.out⟩
              have hb1 : k % 2 ≠ 1 := by rw [← HB.out]; exact hodd
              rw [HH2.out, pmod_even oz xz m k hb1]
              exact HINV.out
        case rest =>
          obtain ⟨oz', hst, hinv, hol, hoo⟩ := hcut
          obtain ⟨wq, rfl⟩ : ∃ wq : World, wq = wc := ⟨_, rfl⟩
          have HS2 := hid hst; have HINV2 := hid hinv; have HOL2 := hid hol; have HOO2 := hid hoo
          clear hst hinv hol hoo g1 g2 g3
          obtain ⟨nx', ax', lx', cx', nm', am', lm', cm', no', ao', lo', co', hcl, hvl, hrx', hro'⟩ := HS2.out.cells
          obtain ⟨x0, x1, m0, m1, o0, o1, q0, q1, q2, q3⟩ := hcl wq (Keeps.refl _ _)
          have HM1 := hid (HMUL.out wq.drew _ _ xz xz _ _ (hvl wq.drew (Keeps.refl _ wq).drew).1 (hvl wq.drew (Keeps.refl _ wq).drew).1 HXZ.out HXZ.out)
          have HD1 : Hid (∀ W va ba, NumV W ba va (xz * xz) → Keeps (fun _ => False) wq W → Calls Tryz.prog 36 #[va, .agg #[.bool nm', .slice am' lm' cm']] W fun e w' => ∃ v1 v2, e = .returned (.tuple #[v1, v2]) ∧ NumV w' W.heap.size v1 (dmQ (xz * xz) m) ∧ NumV w' W.heap.size v2 (xz * xz % m) ∧ Keeps (fun _ => False) W w') := hid (fun W va ba h1 hk => HDIV.out W va _ _ ba 0 h1 (hvl W hk).2.1 (mul_digs HXZ.out HXZ.out))
          have HCL := hid hcl; have HRX2 := hid hrx'
          clear hcl hvl hrx' hro'
          go_upto_region 7 with fail
          go_region_law
            (first
             | (go_simp; go_at_call 27; (with_reducible refine HM1.out.mono ?_); rintro e w5 ⟨v, rfl, hv, hk⟩; obtain ⟨n5, a5, l5, c5, rfl⟩ := hv.agg; have HV5 := hid hv; have K5 := hid ((Keeps.refl (fun _ => False) wq).drew.trans hk); obtain ⟨x0, x1, m0, m1, o0, o1, q0, q1, q2, q3⟩ := HCL.out _ K5.out; clear hv hk)
             | (go_simp; go_at_call 36; (with_reducible refine (HD1.out w5 _ _ HV5.out K5.out).mono ?_); rintro e w6 ⟨v1, v2, rfl, hv1, hv2, hk⟩; obtain ⟨n6, a6, l6, c6, rfl⟩ := hv1.agg; obtain ⟨n7, a7, l7, c7, rfl⟩ := hv2.agg; have HV7 := hid (hv2.lower (Nat.zero_le _)); have K6 := hid (K5.out.trans hk); obtain ⟨x0, x1, m0, m1, o0, o1, q0, q1, q2, q3⟩ := HCL.out _ K6.out; clear hv1 hv2 hk))
          all_goals go_wp2_with fail
          all_goals
            refine ⟨⟨h2, xz * xz % m, oz', rfl, by have := HH2.out; omega, (HS2.out.keep K6.out).setX (by rw [HXX.out]; exact Nat.le_refl _) (Ne.symm HPX.out.1) (K6.out.row HRX2.out (fun h => h)) HV7.out, HINV2.out, HOL2.out, emod_small HM0.out HML.out, HOO2.out⟩, ?_⟩
            have h1 := HH2.out
            have h2 := HK00.out
            simp only [intOf]
            omega
end Go.Proofs
