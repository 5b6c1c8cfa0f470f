/- Parts of the proofs over the numbers of any length: Zof, Small, Bits60, Law17. -/
import Derived.Deep.RegionHeld3
import Derived.Test.YtacbllkmcldniaaGreatDoorOneD
import Derived.Test.YtacbllkmcldniaaGreatDoorSpecA
import Derived.Test.YtacbllkmcldniaaGreatDoorTellB
import Derived.Test.YtacbllkmcldniaaGreatDoorSpecB
import Derived.Test.YtacbllkmcldniaaGreatDoorSpecD
import Derived.Test.YtacbllkmcldniaaGreatDoorBaseD
set_option linter.unusedSimpArgs false
set_option linter.unusedVariables false
namespace Go.Proofs
open Go.RowKit
set_option maxHeartbeats 400000
set_option linter.unusedVariables false
set_option linter.unusedSimpArgs false
set_option maxRecDepth 100000

theorem NumV.get {w : World} {b : Nat} {n : Bool} {a : Option Addr} {l c : Nat} {z : Int} (h : NumV w b (.agg #[.bool n, .slice a l c]) z) : RdV w a c (digs z.natAbs) ∧ (∀ k, InB a k → b ≤ k) ∧ l = (digs z.natAbs).length ∧ n = decide (z < 0) := by
  obtain ⟨a', c', he, g1, g2⟩ := h
  simp only [Value.agg.injEq, Array.mk.injEq, List.cons.injEq, Value.bool.injEq, Value.slice.injEq, and_true] at he
  obtain ⟨e1, e2, e3, e4⟩ := he
  subst e2; subst e4
  exact ⟨g1, g2, e3, e1⟩
theorem RdV.inj {w : World} {a : Option Addr} {c : Nat} {L M : List Nat} (h : RdV w a c L) (k : RdV w a c M) (hl : L.length = M.length) : L = M := by
  rcases h.2.2 with rfl | ⟨b, rfl, hc⟩
  · exact (List.length_eq_zero_iff.1 hl.symm).symm
  · rcases k.2.2 with rfl | ⟨b', he, kc⟩
    · exact List.length_eq_zero_iff.1 hl
    · cases he
      apply List.ext_getElem hl
      intro i h1 h2
      have := (hc i h1).symm.trans (kc i h2)
      simp only [Option.some.injEq, Value.int.injEq, true_and] at this
      simp only [List.getD_eq_getElem?_getD, List.getElem?_eq_getElem h1, List.getElem?_eq_getElem h2, Option.getD_some] at this
      omega
theorem NumV.inj {w : World} {b b' : Nat} {v : Value} {z z' : Int} (h : NumV w b v z) (k : NumV w b' v z') : z = z' := by
  obtain ⟨a, c, rfl, h2, _⟩ := h
  obtain ⟨a', c', he, k2, _⟩ := k
  simp only [Value.agg.injEq, Array.mk.injEq, List.cons.injEq, Value.bool.injEq, Value.slice.injEq, and_true] at he
  obtain ⟨e1, rfl, e3, rfl⟩ := he
  have e4 := digs_inj (RdV.inj h2 k2 e3)
  have e5 : (z < 0) ↔ (z' < 0) := by simpa using e1
  omega
/-- The number that a variable holds. -/
def NumP (w : World) (p : Nat) (z : Int) : Prop := ∃ b, NumE w b p z
theorem NumP.inj {w : World} {p : Nat} {z z' : Int} (h : NumP w p z) (k : NumP w p z') : z = z' := by
  obtain ⟨b, n, a, l, c, h1, h2⟩ := h
  obtain ⟨b', n', a', l', c', k1, k2⟩ := k
  have e0 := (h1.cell 0).symm.trans (k1.cell 0)
  have e1 := (h1.cell 1).symm.trans (k1.cell 1)
  simp only [List.getElem?_cons_zero, List.getElem?_cons_succ, Option.some.injEq, Value.bool.injEq, Value.slice.injEq] at e0 e1
  subst e0
  obtain ⟨rfl, rfl, rfl⟩ := e1
  exact h2.inj k2
noncomputable def zOf (w : World) (p : Nat) : Int := by
  classical exact if h : ∃ z, NumP w p z then Classical.choose h else 0
theorem zOf_eq {w : World} {b p : Nat} {z : Int} (h : NumE w b p z) : zOf w p = z := by
  unfold zOf
  have hx : ∃ z, NumP w p z := ⟨z, b, h⟩
  rw [dif_pos hx]
  exact (Classical.choose_spec hx).inj ⟨b, h⟩
theorem cmp30_z (vx vy : Value) (x y : Int) (bx b' : Nat) (w : World) (hx : NumV w bx vx x) (hy : NumV w b' vy y) (hlx : (digs x.natAbs).length ≤ 40000) (hly : (digs y.natAbs).length ≤ 40000) :
    Calls Tryz.prog 30 #[vx, vy] w fun e w' => e = .returned (.int .i64 (cmpZ x y)) ∧ Keeps (fun _ => False) w w' := by
  obtain ⟨a, c, rfl, hr, _⟩ := hx
  obtain ⟨a', c', rfl, hr', _⟩ := hy
  have := cmp30_any (decide (x < 0)) (decide (y < 0)) a a' c c' _ _ w hr hr' (by omega) (by omega)
  rwa [cmpN_z] at this
theorem cmp_eq0 (x y : Nat) : ((cmpZ (x : Int) (y : Int)) == 0) = decide (x = y) := by
  unfold cmpZ
  by_cases h : x = y
  · subst h; simp
  · rcases Nat.lt_or_ge x y with h1 | h1
    · rw [if_pos (by omega)]; simp [h]
    · rw [if_neg (by omega), if_pos (by omega)]; simp [h]
theorem cmp_le0 (x y : Nat) : decide ((cmpZ (x : Int) (y : Int)) ≤ 0) = decide (x ≤ y) := by
  unfold cmpZ
  by_cases h : x < y
  · rw [if_pos (by omega)]
    have : x ≤ y := by omega
    simp [this]
  · by_cases h2 : y < x
    · rw [if_neg (by omega), if_pos (by omega)]
      have : ¬ x ≤ y := by omega
      simp [this]
    · rw [if_neg (by omega), if_neg (by omega)]
      have : x ≤ y := by omega
      simp [this]
end Go.Proofs
namespace Go.Proofs
open Go.RowKit
set_option maxHeartbeats 4000000
set_option linter.unusedVariables false
set_option linter.unusedSimpArgs false
set_option maxRecDepth 100000

theorem cmp_lt0 (x y : Int) : decide (cmpZ x y < 0) = decide (x < y) := by
  unfold cmpZ
  by_cases h : x < y
  · rw [if_pos h]; simp [h]
  · rw [if_neg h]
    by_cases h2 : y < x
    · rw [if_pos h2]; simp [h]
    · rw [if_neg h2]; simp [h]
theorem cmp_gt0 (x y : Int) : decide (0 < cmpZ x y) = decide (y < x) := by
  unfold cmpZ
  by_cases h : x < y
  · rw [if_pos h]
    have : ¬ y < x := by omega
    simp [this]
  · rw [if_neg h]
    by_cases h2 : y < x
    · rw [if_pos h2]; simp [h2]
    · rw [if_neg h2]; simp [h2]
theorem dig_step (N j : Nat) : 10 * (N / 10 ^ (j + 1)) + N / 10 ^ j % 10 = N / 10 ^ j := by
  rw [Nat.pow_succ, ← Nat.div_div_eq_div_mul]
  omega
theorem sm_neg (A B d : Nat) (h : 10 * A + d = B) (hd : d < 10) (hB : B ≤ 9223372036854775808) : wrap64 (10 * -(A : Int)) = -((10 * A : Nat) : Int) ∧ wrap64 (-((10 * A : Nat) : Int) - (d : Int)) = -(B : Int) ∧ IntKind.i64.wrap (d : Int) = (d : Int) ∧ wrap64 (-(10 * (A : Int)) - (d : Int)) = -(B : Int) ∧ wrap64 (d : Int) = (d : Int) ∧ wrap64 (wrap64 (10 * -(A : Int)) - (d : Int)) = -(B : Int) := by
  have h1 : wrap64 (10 * -(A : Int)) = -((10 * A : Nat) : Int) := by unfold wrap64; omega
  have h2 : wrap64 (-((10 * A : Nat) : Int) - (d : Int)) = -(B : Int) := by unfold wrap64; omega
  refine ⟨h1, h2, by rw [IntKind.wrap_i64]; omega, by unfold wrap64; omega, by unfold wrap64; omega, by rw [h1, h2]⟩
theorem sm_pos (A B d : Nat) (h : 10 * A + d = B) (hd : d < 10) (hB : B ≤ 9223372036854775807) : wrap64 (10 * (A : Int)) = ((10 * A : Nat) : Int) ∧ wrap64 (((10 * A : Nat) : Int) + (d : Int)) = (B : Int) ∧ IntKind.i64.wrap (d : Int) = (d : Int) ∧ wrap64 (10 * (A : Int) + (d : Int)) = (B : Int) ∧ wrap64 (d : Int) = (d : Int) ∧ wrap64 (wrap64 (10 * (A : Int)) + (d : Int)) = (B : Int) := by
  have h1 : wrap64 (10 * (A : Int)) = ((10 * A : Nat) : Int) := by unfold wrap64; omega
  have h2 : wrap64 (((10 * A : Nat) : Int) + (d : Int)) = (B : Int) := by unfold wrap64; omega
  refine ⟨h1, h2, by rw [IntKind.wrap_i64]; omega, by unfold wrap64; omega, by unfold wrap64; omega, by rw [h1, h2]⟩
theorem sm_uns (A B d : Nat) (h : 10 * A + d = B) (hd : d < 10) (hB : B ≤ 18446744073709551615) : IntKind.u64.wrap (10 * (A : Int)) = ((10 * A : Nat) : Int) ∧ IntKind.u64.wrap (((10 * A : Nat) : Int) + (d : Int)) = (B : Int) ∧ IntKind.u64.wrap (d : Int) = (d : Int) ∧ IntKind.u64.wrap (10 * (A : Int) + (d : Int)) = (B : Int) ∧ wrap64 (d : Int) = (d : Int) ∧ IntKind.u64.wrap (IntKind.u64.wrap (10 * (A : Int)) + (d : Int)) = (B : Int) := by
  have h1 : IntKind.u64.wrap (10 * (A : Int)) = ((10 * A : Nat) : Int) := by rw [IntKind.wrap_u64]; omega
  have h2 : IntKind.u64.wrap (((10 * A : Nat) : Int) + (d : Int)) = (B : Int) := by rw [IntKind.wrap_u64]; omega
  refine ⟨h1, h2, by rw [IntKind.wrap_u64]; omega, by rw [IntKind.wrap_u64]; omega, by unfold wrap64; omega, by rw [h1, h2]⟩
theorem dig_le (N j : Nat) : N / 10 ^ j ≤ N := Nat.div_le_self _ _

theorem small61 (vx : Value) (x : Int) (bx : Nat) (w : World) (hx : NumV w bx vx x) (hl : (digs x.natAbs).length ≤ 40000) :
    Calls Tryz.prog 61 #[vx] w fun e w' => (e = .returned (if isI64 x = true then .tuple #[.int .i64 x, .bool true] else .tuple #[.int .i64 0, .bool false])) ∧ Keeps (fun _ => False) w w' := by
  obtain ⟨a1, c1, rfl, hrd, hb1⟩ := hx
  obtain ⟨n1, hn1⟩ : ∃ n, n = decide (x < 0) := ⟨_, rfl⟩
  obtain ⟨l1, hl1⟩ : ∃ n, n = (digs x.natAbs).length := ⟨_, rfl⟩
  rw [← hn1, ← hl1]; rw [← hl1] at hl
  obtain ⟨w0, hw0⟩ : ∃ W, W = w.alloc (.cells #[.bool n1, .slice a1 l1 c1] 24) := ⟨_, rfl⟩
  obtain ⟨p, hp⟩ : ∃ p, p = w.heap.size := ⟨_, rfl⟩
  have hk0 : Keeps (fun _ => False) w w0 := by rw [hw0]; exact (Keeps.refl _ w).alloc _
  have hrx : RowAt w0 p 24 [.bool n1, .slice a1 l1 c1] := by rw [hw0, hp]; exact RowAt.new w 24 _
  have HV : Hid (∀ W, Keeps (fun _ => False) w0 W → NumV W 0 (.agg #[.bool n1, .slice a1 l1 c1]) x) := hid (fun W hk => by
    rw [hn1, hl1]; exact ⟨a1, c1, rfl, hrd.keep (hk0.trans hk) (fun _ _ h => h), fun _ _ => Nat.zero_le _⟩)
  have HRD : Hid (∀ W, Keeps (fun _ => False) w0 W → RdV W a1 c1 (digs x.natAbs)) := hid (fun W hk => hrd.keep (hk0.trans hk) (fun _ _ h => h))
  have HS : Hid (∀ W, Keeps (fun _ => False) w0 W → W.cell? ⟨p, 0, none⟩ = some (.bool n1) ∧ W.cell? ⟨p, 1, none⟩ = some (.slice a1 l1 c1)) := hid (fun W hk => ⟨(hk.row hrx (fun h => h)).cell 0, (hk.row hrx (fun h => h)).cell 1⟩)
  have HK0 := hid hk0; have HN1 := hid hn1; have HL1 := hid hl1; have HL := hid hl
  clear hk0 hrx hrd hb1
  have HO1 := hid (fun W => of33 (-9223372036854775808) W (by omega) (by omega))
  have HO2 := hid (fun W => of33 9223372036854775807 W (by omega) (by omega))
  obtain ⟨z1, hz1⟩ : ∃ c, c = cmpZ x (-9223372036854775808) := ⟨_, rfl⟩
  obtain ⟨z2, hz2⟩ : ∃ c, c = cmpZ x 9223372036854775807 := ⟨_, rfl⟩
  have HC1 : Hid (∀ W v b, NumV W b v (-9223372036854775808) → Keeps (fun _ => False) w0 W → Calls Tryz.prog 30 #[.agg #[.bool n1, .slice a1 l1 c1], v] W fun e w' => e = .returned (.int .i64 z1) ∧ Keeps (fun _ => False) W w') := hid (fun W v b h1 hk => by
    rw [hz1]; exact cmp30_z _ _ _ _ _ _ W (HV.out W hk) h1 (by rw [← HL1.out]; exact HL.out) (Nat.le_trans (digs_len (k := 19) (by decide)) (by omega)))
  have HC2 : Hid (∀ W v b, NumV W b v 9223372036854775807 → Keeps (fun _ => False) w0 W → Calls Tryz.prog 30 #[.agg #[.bool n1, .slice a1 l1 c1], v] W fun e w' => e = .returned (.int .i64 z2) ∧ Keeps (fun _ => False) W w') := hid (fun W v b h1 hk => by
    rw [hz2]; exact cmp30_z _ _ _ _ _ _ W (HV.out W hk) h1 (by rw [← HL1.out]; exact HL.out) (Nat.le_trans (digs_len (k := 19) (by decide)) (by omega)))
  by_cases h1 : x < -9223372036854775808
  · have t1 : z1 = -1 := by rw [hz1]; unfold cmpZ; rw [if_pos h1]
    subst t1
    have hw : isI64 x = false := by unfold isI64; simp; omega
    rw [if_neg (show ¬ isI64 x = true by rw [hw]; simp)]
    clear hz1 hz2 hw h1 hn1 hl1 hl
    go_enter Tryz.func61, Tryz.ntmps61
    go_upto_region 1 with fail
    rw [← hw0, ← hp]
    clear hw0 hp
    obtain ⟨x8, x9⟩ := HS.out w0 (Keeps.refl _ _)
    go_region_law (first
       | (go_simp; go_at_call 33; ((with_reducible refine (HO1.out _).mono ?_)); rintro e w1 ⟨v, rfl, hv, hk⟩; obtain ⟨n2, a2, l2, c2, rfl⟩ := hv.agg; have HV1 := hid hv; have K1 := hid (((Keeps.refl (fun _ => False) w0).drew).trans hk); obtain ⟨y0, y1⟩ := HS.out w1 K1.out; clear hv hk)
       | (go_simp; go_at_call 30; ((with_reducible refine (HC1.out _ _ _ HV1.out K1.out).mono ?_)); rintro e w2 ⟨rfl, hk⟩; have K2 := hid (K1.out.trans hk); obtain ⟨y2, y3⟩ := HS.out w2 K2.out; clear hk)
       | (go_simp; go_at_call 33; ((with_reducible refine (HO2.out _).mono ?_)); rintro e w3 ⟨v, rfl, hv, hk⟩; obtain ⟨n3, a3, l3, c3, rfl⟩ := hv.agg; have HV3 := hid hv; have K3 := hid (K2.out.trans hk); obtain ⟨y4, y5⟩ := HS.out w3 K3.out; clear hv hk)
       | (go_simp; go_at_call 30; ((with_reducible refine (HC2.out _ _ _ HV3.out K3.out).mono ?_)); rintro e w4 ⟨rfl, hk⟩; have K4 := hid (K3.out.trans hk); clear hk))
    all_goals
      go_wp2_with fail
      go_ret2
      exact ⟨rfl, HK0.out.trans K2.out⟩
  have t1 : z1 = 0 ∨ z1 = 1 := by
    rw [hz1]; unfold cmpZ; rw [if_neg h1]
    split
    · exact .inr rfl
    · exact .inl rfl
  by_cases h2 : 9223372036854775807 < x
  · have t2 : z2 = 1 := by rw [hz2]; unfold cmpZ; rw [if_neg (by omega), if_pos h2]
    subst t2
    have hw : isI64 x = false := by unfold isI64; simp; omega
    rw [if_neg (show ¬ isI64 x = true by rw [hw]; simp)]
    clear hz1 hz2 hw h1 h2 hn1 hl1 hl
    rcases t1 with rfl | rfl
    all_goals
      go_enter Tryz.func61, Tryz.ntmps61
      go_upto_region 1 with fail
      rw [← hw0, ← hp]
      clear hw0 hp
      obtain ⟨x8, x9⟩ := HS.out w0 (Keeps.refl _ _)
      go_region_law (first
         | (go_simp; go_at_call 33; ((with_reducible refine (HO1.out _).mono ?_)); rintro e w1 ⟨v, rfl, hv, hk⟩; obtain ⟨n2, a2, l2, c2, rfl⟩ := hv.agg; have HV1 := hid hv; have K1 := hid (((Keeps.refl (fun _ => False) w0).drew).trans hk); obtain ⟨y0, y1⟩ := HS.out w1 K1.out; clear hv hk)
         | (go_simp; go_at_call 30; ((with_reducible refine (HC1.out _ _ _ HV1.out K1.out).mono ?_)); rintro e w2 ⟨rfl, hk⟩; have K2 := hid (K1.out.trans hk); obtain ⟨y2, y3⟩ := HS.out w2 K2.out; clear hk)
         | (go_simp; go_at_call 33; ((with_reducible refine (HO2.out _).mono ?_)); rintro e w3 ⟨v, rfl, hv, hk⟩; obtain ⟨n3, a3, l3, c3, rfl⟩ := hv.agg; have HV3 := hid hv; have K3 := hid (K2.out.trans hk); obtain ⟨y4, y5⟩ := HS.out w3 K3.out; clear hv hk)
         | (go_simp; go_at_call 30; ((with_reducible refine (HC2.out _ _ _ HV3.out K3.out).mono ?_)); rintro e w4 ⟨rfl, hk⟩; have K4 := hid (K3.out.trans hk); clear hk))
      all_goals
        go_wp2_with fail
        go_ret2
        exact ⟨rfl, HK0.out.trans K4.out⟩
  have t2 : z2 = -1 ∨ z2 = 0 := by
    rw [hz2]; unfold cmpZ
    split
    · exact .inl rfl
    · exact .inr rfl
  have hw : isI64 x = true := by unfold isI64; simp; omega
  rw [if_pos hw]
  have hx64 : -9223372036854775808 ≤ x ∧ x ≤ 9223372036854775807 := by omega
  clear hz1 hz2 hw h1 h2 hn1 hl1
  go_enter Tryz.func61, Tryz.ntmps61
  go_upto_region 1 with fail
  rw [← hw0, ← hp]
  clear hw0 hp
  obtain ⟨x8, x9⟩ := HS.out w0 (Keeps.refl _ _)
  go_cut [15] from 6 to 16 (fun v wx => v = .bool false ∧ Keeps (fun _ => False) w0 wx)
  case first =>
    rcases t1 with rfl | rfl <;> rcases t2 with rfl | rfl
    all_goals
      go_region_law (first
         | (go_simp; go_at_call 33; ((with_reducible refine (HO1.out _).mono ?_)); rintro e w1 ⟨v, rfl, hv, hk⟩; obtain ⟨n2, a2, l2, c2, rfl⟩ := hv.agg; have HV1 := hid hv; have K1 := hid (((Keeps.refl (fun _ => False) w0).drew).trans hk); obtain ⟨y0, y1⟩ := HS.out w1 K1.out; clear hv hk)
         | (go_simp; go_at_call 30; ((with_reducible refine (HC1.out _ _ _ HV1.out K1.out).mono ?_)); rintro e w2 ⟨rfl, hk⟩; have K2 := hid (K1.out.trans hk); obtain ⟨y2, y3⟩ := HS.out w2 K2.out; clear hk)
         | (go_simp; go_at_call 33; ((with_reducible refine (HO2.out _).mono ?_)); rintro e w3 ⟨v, rfl, hv, hk⟩; obtain ⟨n3, a3, l3, c3, rfl⟩ := hv.agg; have HV3 := hid hv; have K3 := hid (K2.out.trans hk); obtain ⟨y4, y5⟩ := HS.out w3 K3.out; clear hv hk)
         | (go_simp; go_at_call 30; ((with_reducible refine (HC2.out _ _ _ HV3.out K3.out).mono ?_)); rintro e w4 ⟨rfl, hk⟩; have K4 := hid (K3.out.trans hk); clear hk))
    all_goals
      go_wp2_with fail
      go_meet
    all_goals exact ⟨rfl, K4.out⟩
  case rest =>
    obtain ⟨rfl, hkc⟩ := hcut
    have KL := hid hkc
    clear hkc HC1 HC2 HO1 HO2 t1 t2 x8 x9
    obtain ⟨wl, rfl⟩ : ∃ wl : World, wl = wc := ⟨_, rfl⟩
    obtain ⟨x0, x1⟩ := HS.out wl KL.out
    by_cases hneg : x < 0
    · have e1 : n1 = true := by rw [HN1.out]; simp [hneg]
      subst e1
      obtain ⟨N, hN⟩ : ∃ N, N = x.natAbs := ⟨_, rfl⟩
      have hNb : N ≤ 9223372036854775808 := by omega
      have HNB := hid hNb; have HNe := hid hN
      have HXV : Hid (-((N : Nat) : Int) = x) := hid (by omega)
      have gl : wrap64 ((l1 : Int) - 1) = (l1 : Int) - 1 := by unfold wrap64; omega
      have gl2 : IntKind.i64.wrap ((l1 : Int) - 1) = (l1 : Int) - 1 := by rw [IntKind.wrap_i64]; omega
      clear hN hNb hx64
      go_wp2_with fail
      go_loopw [4, 5] (fun nv iv wr => ∃ j : Nat, iv = .int .i64 ((j : Int) - 1) ∧ nv = .int .i64 (-((N / 10 ^ j : Nat) : Int)) ∧ j ≤ l1 ∧ wr = wl) (fun _ iv _ => (intOf iv + 1).toNat)
      case atStart =>
        refine ⟨l1, by first | rfl | rw [gl] | rw [gl2], ?_, Nat.le_refl _, rfl⟩
        rw [Nat.div_eq_of_lt (by rw [HNe.out, HL1.out]; exact lt_digs _)]
        rfl
      case round =>
        obtain ⟨j, rfl, rfl, hj, rfl⟩ := hrel
        obtain ⟨x0, x1⟩ := HS.out wr KL.out
        rcases Nat.eq_zero_or_pos j with h0 | h0
        · subst h0
          clear gl gl2
          go_wp2_with fail
          go_ret2
          refine ⟨?_, HK0.out.trans KL.out⟩
          first | (rw [Nat.pow_zero, Nat.div_one, HXV.out] <;> rfl) | (rw [Nat.pow_zero, Nat.div_one, HXV.out])
        · obtain ⟨i, rfl⟩ : ∃ i, j = i + 1 := ⟨j - 1, by omega⟩
          have hil : i < (digs x.natAbs).length := by rw [← HL1.out]; omega
          obtain ⟨b2, rfl, hc2⟩ := (HRD.out wr KL.out).at_ (i := i) hil
          rw [digs_get, ← HNe.out] at hc2
          have hds := dig_step N i
          have hdl := dig_le N i
          obtain ⟨A, hA⟩ : ∃ A, A = N / 10 ^ (i + 1) := ⟨_, rfl⟩
          obtain ⟨Bq, hBq⟩ : ∃ B, B = N / 10 ^ i := ⟨_, rfl⟩
          obtain ⟨d, hd⟩ : ∃ d, d = Bq % 10 := ⟨_, rfl⟩
          rw [← hA, ← hBq, ← hd] at hds
          rw [← hBq] at hdl
          rw [← hBq, ← hd] at hc2
          rw [← hA]
          have hnb := HNB.out
          obtain ⟨g1, g2, g3, g4, g5, g6⟩ := sm_neg A Bq d hds (by rw [hd]; exact Nat.mod_lt _ (by omega)) (Nat.le_trans hdl hnb)
          have HBQ := hid hBq
          clear hA hBq hd hds hdl
          have e5 : ((i + 1 : Nat) : Int) - 1 = (i : Int) := by omega
          have gi : wrap64 ((i : Int) - 1) = (i : Int) - 1 := by unfold wrap64; omega
          have gi2 : IntKind.i64.wrap ((i : Int) - 1) = (i : Int) - 1 := by rw [IntKind.wrap_i64]; omega
          have hll : i < l1 := by omega
          rw [e5]
          clear gl gl2 hil hj h0 e5 hnb
          go_wp2_with fail
          refine ⟨⟨i, by first | rfl | rw [gi] | rw [gi2], ?_, by omega, by first | rfl | trivial⟩, by simp [intOf] <;> omega⟩
          rw [← HBQ.out]
          all_goals first | rfl | rw [g2] | rw [g4] | rw [g6]
    · have e1 : n1 = false := by rw [HN1.out]; simp [hneg]
      subst e1
      obtain ⟨N, hN⟩ : ∃ N, N = x.natAbs := ⟨_, rfl⟩
      have hNb : N ≤ 9223372036854775807 := by omega
      have HNB := hid hNb; have HNe := hid hN
      have HXV : Hid (((N : Nat) : Int) = x) := hid (by omega)
      have gl : wrap64 ((l1 : Int) - 1) = (l1 : Int) - 1 := by unfold wrap64; omega
      have gl2 : IntKind.i64.wrap ((l1 : Int) - 1) = (l1 : Int) - 1 := by rw [IntKind.wrap_i64]; omega
      clear hN hNb hx64
      go_wp2_with fail
      go_loopw [4, 5] (fun nv iv wr => ∃ j : Nat, iv = .int .i64 ((j : Int) - 1) ∧ nv = .int .i64 (((N / 10 ^ j : Nat) : Int)) ∧ j ≤ l1 ∧ wr = wl) (fun _ iv _ => (intOf iv + 1).toNat)
      case atStart =>
        refine ⟨l1, by first | rfl | rw [gl] | rw [gl2], ?_, Nat.le_refl _, rfl⟩
        rw [Nat.div_eq_of_lt (by rw [HNe.out, HL1.out]; exact lt_digs _)]
        rfl
      case round =>
        obtain ⟨j, rfl, rfl, hj, rfl⟩ := hrel
        obtain ⟨x0, x1⟩ := HS.out wr KL.out
        rcases Nat.eq_zero_or_pos j with h0 | h0
        · subst h0
          clear gl gl2
          go_wp2_with fail
          go_ret2
          refine ⟨?_, HK0.out.trans KL.out⟩
          first | (rw [Nat.pow_zero, Nat.div_one, HXV.out] <;> rfl) | (rw [Nat.pow_zero, Nat.div_one, HXV.out])
        · obtain ⟨i, rfl⟩ : ∃ i, j = i + 1 := ⟨j - 1, by omega⟩
          have hil : i < (digs x.natAbs).length := by rw [← HL1.out]; omega
          obtain ⟨b2, rfl, hc2⟩ := (HRD.out wr KL.out).at_ (i := i) hil
          rw [digs_get, ← HNe.out] at hc2
          have hds := dig_step N i
          have hdl := dig_le N i
          obtain ⟨A, hA⟩ : ∃ A, A = N / 10 ^ (i + 1) := ⟨_, rfl⟩
          obtain ⟨Bq, hBq⟩ : ∃ B, B = N / 10 ^ i := ⟨_, rfl⟩
          obtain ⟨d, hd⟩ : ∃ d, d = Bq % 10 := ⟨_, rfl⟩
          rw [← hA, ← hBq, ← hd] at hds
          rw [← hBq] at hdl
          rw [← hBq, ← hd] at hc2
          rw [← hA]
          have hnb := HNB.out
          obtain ⟨g1, g2, g3, g4, g5, g6⟩ := sm_pos A Bq d hds (by rw [hd]; exact Nat.mod_lt _ (by omega)) (Nat.le_trans hdl hnb)
          have HBQ := hid hBq
          clear hA hBq hd hds hdl
          have e5 : ((i + 1 : Nat) : Int) - 1 = (i : Int) := by omega
          have gi : wrap64 ((i : Int) - 1) = (i : Int) - 1 := by unfold wrap64; omega
          have gi2 : IntKind.i64.wrap ((i : Int) - 1) = (i : Int) - 1 := by rw [IntKind.wrap_i64]; omega
          have hll : i < l1 := by omega
          rw [e5]
          clear gl gl2 hil hj h0 e5 hnb
          go_wp2_with fail
          refine ⟨⟨i, by first | rfl | rw [gi] | rw [gi2], ?_, by omega, by first | rfl | trivial⟩, by simp [intOf] <;> omega⟩
          rw [← HBQ.out]
          all_goals first | rfl | rw [g2] | rw [g4] | rw [g6]

theorem unsigned62 (vx : Value) (x : Int) (bx : Nat) (w : World) (hx : NumV w bx vx x) (hl : (digs x.natAbs).length ≤ 40000) :
    Calls Tryz.prog 62 #[vx] w fun e w' => (e = .returned (if isU64 x = true then .tuple #[.int .u64 x, .bool true] else .tuple #[.int .u64 0, .bool false])) ∧ Keeps (fun _ => False) w w' := by
  obtain ⟨a1, c1, rfl, hrd, hb1⟩ := hx
  obtain ⟨n1, hn1⟩ : ∃ n, n = decide (x < 0) := ⟨_, rfl⟩
  obtain ⟨l1, hl1⟩ : ∃ n, n = (digs x.natAbs).length := ⟨_, rfl⟩
  rw [← hn1, ← hl1]; rw [← hl1] at hl
  obtain ⟨w0, hw0⟩ : ∃ W, W = w.alloc (.cells #[.bool n1, .slice a1 l1 c1] 24) := ⟨_, rfl⟩
  obtain ⟨p, hp⟩ : ∃ p, p = w.heap.size := ⟨_, rfl⟩
  have hk0 : Keeps (fun _ => False) w w0 := by rw [hw0]; exact (Keeps.refl _ w).alloc _
  have hrx : RowAt w0 p 24 [.bool n1, .slice a1 l1 c1] := by rw [hw0, hp]; exact RowAt.new w 24 _
  have HV : Hid (∀ W, Keeps (fun _ => False) w0 W → NumV W 0 (.agg #[.bool n1, .slice a1 l1 c1]) x) := hid (fun W hk => by
    rw [hn1, hl1]; exact ⟨a1, c1, rfl, hrd.keep (hk0.trans hk) (fun _ _ h => h), fun _ _ => Nat.zero_le _⟩)
  have HRD : Hid (∀ W, Keeps (fun _ => False) w0 W → RdV W a1 c1 (digs x.natAbs)) := hid (fun W hk => hrd.keep (hk0.trans hk) (fun _ _ h => h))
  have HS : Hid (∀ W, Keeps (fun _ => False) w0 W → W.cell? ⟨p, 0, none⟩ = some (.bool n1) ∧ W.cell? ⟨p, 1, none⟩ = some (.slice a1 l1 c1)) := hid (fun W hk => ⟨(hk.row hrx (fun h => h)).cell 0, (hk.row hrx (fun h => h)).cell 1⟩)
  have HK0 := hid hk0; have HN1 := hid hn1; have HL1 := hid hl1; have HL := hid hl
  clear hk0 hrx hrd hb1
  have HO1 : Hid (∀ W, Calls Tryz.prog 38 #[.int .u64 18446744073709551615] W fun e w' => ∃ v, e = .returned v ∧ NumV w' W.heap.size v 18446744073709551615 ∧ Keeps (fun _ => False) W w') := hid (fun W => ofUint38 18446744073709551615 W (by unfold W64; omega))
  obtain ⟨z1, hz1⟩ : ∃ c, c = cmpZ x 18446744073709551615 := ⟨_, rfl⟩
  have HC1 : Hid (∀ W v b, NumV W b v 18446744073709551615 → Keeps (fun _ => False) w0 W → Calls Tryz.prog 30 #[.agg #[.bool n1, .slice a1 l1 c1], v] W fun e w' => e = .returned (.int .i64 z1) ∧ Keeps (fun _ => False) W w') := hid (fun W v b h1 hk => by
    rw [hz1]; exact cmp30_z _ _ _ _ _ _ W (HV.out W hk) h1 (by rw [← HL1.out]; exact HL.out) (Nat.le_trans (digs_len (k := 20) (by decide)) (by omega)))
  by_cases hneg : x < 0
  · have e1 : n1 = true := by rw [hn1]; simp [hneg]
    subst e1
    have hw : isU64 x = false := by unfold isU64; simp; omega
    rw [if_neg (show ¬ isU64 x = true by rw [hw]; simp)]
    clear hz1 hw hneg hn1 hl1 hl
    go_enter Tryz.func62, Tryz.ntmps62
    go_upto_region 1 with fail
    rw [← hw0, ← hp]
    clear hw0 hp
    obtain ⟨x8, x9⟩ := HS.out w0 (Keeps.refl _ _)
    go_region_law (fail)
    all_goals
      go_wp2_with fail
      go_ret2
      exact ⟨rfl, HK0.out.trans (Keeps.refl _ w0).drew⟩
  have e1 : n1 = false := by rw [hn1]; simp [hneg]
  subst e1
  by_cases h2 : 18446744073709551615 < x
  · have t2 : z1 = 1 := by rw [hz1]; unfold cmpZ; rw [if_neg (by omega), if_pos h2]
    subst t2
    have hw : isU64 x = false := by unfold isU64; simp; omega
    rw [if_neg (show ¬ isU64 x = true by rw [hw]; simp)]
    clear hz1 hw hneg h2 hn1 hl1 hl
    go_enter Tryz.func62, Tryz.ntmps62
    go_upto_region 1 with fail
    rw [← hw0, ← hp]
    clear hw0 hp
    obtain ⟨x8, x9⟩ := HS.out w0 (Keeps.refl _ _)
    go_region_law (first
       | (go_simp; go_at_call 38; ((with_reducible refine (HO1.out _).mono ?_)); rintro e w3 ⟨v, rfl, hv, hk⟩; obtain ⟨n3, a3, l3, c3, rfl⟩ := hv.agg; have HV3 := hid hv; have K3 := hid (((Keeps.refl (fun _ => False) w0).drew).trans hk); obtain ⟨y4, y5⟩ := HS.out w3 K3.out; clear hv hk)
       | (go_simp; go_at_call 30; ((with_reducible refine (HC1.out _ _ _ HV3.out K3.out).mono ?_)); rintro e w4 ⟨rfl, hk⟩; have K4 := hid (K3.out.trans hk); clear hk))
    all_goals
      go_wp2_with fail
      go_ret2
      exact ⟨rfl, HK0.out.trans K4.out⟩
  have t2 : z1 = -1 ∨ z1 = 0 := by
    rw [hz1]; unfold cmpZ
    split
    · exact .inl rfl
    · exact .inr rfl
  have hw : isU64 x = true := by unfold isU64; simp; omega
  rw [if_pos hw]
  have hx64 : 0 ≤ x ∧ x ≤ 18446744073709551615 := by omega
  clear hz1 hw hneg h2 hn1 hl1
  go_enter Tryz.func62, Tryz.ntmps62
  go_upto_region 1 with fail
  rw [← hw0, ← hp]
  clear hw0 hp
  obtain ⟨x8, x9⟩ := HS.out w0 (Keeps.refl _ _)
  go_cut [13] from 6 to 14 (fun v wx => v = .bool false ∧ Keeps (fun _ => False) w0 wx)
  case first =>
    rcases t2 with rfl | rfl
    all_goals
      go_region_law (first
         | (go_simp; go_at_call 38; ((with_reducible refine (HO1.out _).mono ?_)); rintro e w3 ⟨v, rfl, hv, hk⟩; obtain ⟨n3, a3, l3, c3, rfl⟩ := hv.agg; have HV3 := hid hv; have K3 := hid (((Keeps.refl (fun _ => False) w0).drew).trans hk); obtain ⟨y4, y5⟩ := HS.out w3 K3.out; clear hv hk)
         | (go_simp; go_at_call 30; ((with_reducible refine (HC1.out _ _ _ HV3.out K3.out).mono ?_)); rintro e w4 ⟨rfl, hk⟩; have K4 := hid (K3.out.trans hk); clear hk))
    all_goals
      go_wp2_with fail
      go_meet
    all_goals exact ⟨rfl, K4.out⟩
  case rest =>
    obtain ⟨rfl, hkc⟩ := hcut
    have KL := hid hkc
    clear hkc HC1 HO1 t2 x8 x9
    obtain ⟨wl, rfl⟩ : ∃ wl : World, wl = wc := ⟨_, rfl⟩
    obtain ⟨x0, x1⟩ := HS.out wl KL.out
    obtain ⟨N, hN⟩ : ∃ N, N = x.natAbs := ⟨_, rfl⟩
    have hNb : N ≤ 18446744073709551615 := by omega
    have HNB := hid hNb; have HNe := hid hN
    have HXV : Hid (((N : Nat) : Int) = x) := hid (by omega)
    have gl : wrap64 ((l1 : Int) - 1) = (l1 : Int) - 1 := by unfold wrap64; omega
    have gl2 : IntKind.i64.wrap ((l1 : Int) - 1) = (l1 : Int) - 1 := by rw [IntKind.wrap_i64]; omega
    clear hN hNb hx64
    go_wp2_with fail
    go_loopw [4, 5] (fun nv iv wr => ∃ j : Nat, iv = .int .i64 ((j : Int) - 1) ∧ nv = .int .u64 (((N / 10 ^ j : Nat) : Int)) ∧ j ≤ l1 ∧ wr = wl) (fun _ iv _ => (intOf iv + 1).toNat)
    case atStart =>
      refine ⟨l1, by first | rfl | rw [gl] | rw [gl2], ?_, Nat.le_refl _, rfl⟩
      rw [Nat.div_eq_of_lt (by rw [HNe.out, HL1.out]; exact lt_digs _)]
      rfl
    case round =>
      obtain ⟨j, rfl, rfl, hj, rfl⟩ := hrel
      obtain ⟨x0, x1⟩ := HS.out wr KL.out
      rcases Nat.eq_zero_or_pos j with h0 | h0
      · subst h0
        clear gl gl2
        go_wp2_with fail
        go_ret2
        refine ⟨?_, HK0.out.trans KL.out⟩
        first | (rw [Nat.pow_zero, Nat.div_one, HXV.out] <;> rfl) | (rw [Nat.pow_zero, Nat.div_one, HXV.out])
      · obtain ⟨i, rfl⟩ : ∃ i, j = i + 1 := ⟨j - 1, by omega⟩
        have hil : i < (digs x.natAbs).length := by rw [← HL1.out]; omega
        obtain ⟨b2, rfl, hc2⟩ := (HRD.out wr KL.out).at_ (i := i) hil
        rw [digs_get, ← HNe.out] at hc2
        have hds := dig_step N i
        have hdl := dig_le N i
        obtain ⟨A, hA⟩ : ∃ A, A = N / 10 ^ (i + 1) := ⟨_, rfl⟩
        obtain ⟨Bq, hBq⟩ : ∃ B, B = N / 10 ^ i := ⟨_, rfl⟩
        obtain ⟨d, hd⟩ : ∃ d, d = Bq % 10 := ⟨_, rfl⟩
        rw [← hA, ← hBq, ← hd] at hds
        rw [← hBq] at hdl
        rw [← hBq, ← hd] at hc2
        rw [← hA]
        have hnb := HNB.out
        obtain ⟨g1, g2, g3, g4, g5, g6⟩ := sm_uns A Bq d hds (by rw [hd]; exact Nat.mod_lt _ (by omega)) (Nat.le_trans hdl hnb)
        have HBQ := hid hBq
        clear hA hBq hd hds hdl
        have e5 : ((i + 1 : Nat) : Int) - 1 = (i : Int) := by omega
        have gi : wrap64 ((i : Int) - 1) = (i : Int) - 1 := by unfold wrap64; omega
        have gi2 : IntKind.i64.wrap ((i : Int) - 1) = (i : Int) - 1 := by rw [IntKind.wrap_i64]; omega
        have hll : i < l1 := by omega
        rw [e5]
        clear gl gl2 hil hj h0 e5 hnb
        go_wp2_with fail
        refine ⟨⟨i, by first | rfl | rw [gi] | rw [gi2], ?_, by omega, by first | rfl | trivial⟩, by simp [intOf] <;> omega⟩
        rw [← HBQ.out]
        all_goals first | rfl | rw [g2] | rw [g4] | rw [g6]
end Go.Proofs
namespace Go.Proofs
open Go.RowKit
set_option maxHeartbeats 4000000
set_option linter.unusedVariables false
set_option linter.unusedSimpArgs false
set_option maxRecDepth 100000

theorem IsBits.unique {N b c : Nat} (h : IsBits N b) (k : IsBits N c) : b = c := by
  obtain ⟨h1, h2, h3⟩ := h
  obtain ⟨k1, k2, k3⟩ := k
  by_cases h0 : N = 0
  · rw [h3 h0, k3 h0]
  · have a1 := h2 h0
    have a2 := k2 h0
    rcases Nat.lt_trichotomy b c with h | h | h
    · have := Nat.pow_le_pow_right (show 0 < 2 by omega) (show b ≤ c - 1 by omega)
      omega
    · exact h
    · have := Nat.pow_le_pow_right (show 0 < 2 by omega) (show c ≤ b - 1 by omega)
      omega
theorem NumV.abs {w : World} {b : Nat} {n : Bool} {a : Option Addr} {l c : Nat} {x : Int} (h : NumV w b (.agg #[.bool n, .slice a l c]) x) : NumV w b (.agg #[.bool false, .slice a l c]) (x.natAbs : Int) := by
  obtain ⟨g1, g2, g3, g4⟩ := h.get
  refine ⟨a, c, ?_, ?_, g2⟩
  · rw [g3, Int.natAbs_natCast]
    have : ¬ ((x.natAbs : Int) < 0) := by omega
    simp [this]
  · rw [Int.natAbs_natCast]; exact g1
theorem bits_end {N k : Nat} (h0 : N / 2 ^ k = 0) (h : k = 0 ∨ 2 ^ (k - 1) ≤ N) : IsBits N k := by
  have h1 : N < 2 ^ k := by
    rcases Nat.lt_or_ge N (2 ^ k) with h2 | h2
    · exact h2
    · have := Nat.div_pos h2 (Nat.two_pow_pos k)
      omega
  have hp := Nat.two_pow_pos (k - 1)
  refine ⟨h1, fun hN => ?_, fun hN => ?_⟩
  · rcases h with h | h
    · subst h; simp at h1; omega
    · refine ⟨?_, h⟩
      rcases Nat.eq_zero_or_pos k with h3 | h3
      · subst h3; simp at h1; omega
      · exact h3
  · rcases h with h | h
    · exact h
    · omega
theorem bits_next {N k : Nat} (h0 : N / 2 ^ k ≠ 0) : 2 ^ k ≤ N := by
  rcases Nat.lt_or_ge N (2 ^ k) with h | h
  · exact absurd (Nat.div_eq_of_lt h) h0
  · exact h
theorem half_nat (m : Nat) : ((m : Nat) : Int).tdiv 2 = ((m / 2 : Nat) : Int) := rfl
theorem digs_200 {N M : Nat} (h : N < 10 ^ 200) (hm : M ≤ N) : (digs ((M : Nat) : Int).natAbs).length ≤ 40000 := by
  rw [Int.natAbs_natCast]
  exact Nat.le_trans (digs_len (k := 200) (Nat.lt_of_le_of_lt hm h)) (by omega)

theorem bits60 (vx : Value) (x : Int) (bx : Nat) (w : World) (hx : NumV w bx vx x) (hxb : x.natAbs < 10 ^ 200) :
    Calls Tryz.prog 60 #[vx] w fun e w' => (∃ b : Nat, e = .returned (.int .i64 (b : Int)) ∧ IsBits x.natAbs b) ∧ Keeps (fun _ => False) w w' := by
  obtain ⟨n1, a1, l1, c1, rfl, hpx⟩ := hx.parts
  obtain ⟨w0, hw0⟩ : ∃ W, W = w.alloc (.cells #[.bool n1, .slice a1 l1 c1] 24) := ⟨_, rfl⟩
  obtain ⟨p, hp⟩ : ∃ p, p = w.heap.size := ⟨_, rfl⟩
  have hk0 : Keeps (fun _ => False) w w0 := by rw [hw0]; exact (Keeps.refl _ w).alloc _
  have HV := hid (hpx w0 hk0 0 (fun _ _ => Nat.zero_le _))
  have HC := hid (abs31_any n1 a1 l1 c1 w0)
  obtain ⟨N, hN⟩ : ∃ N, N = x.natAbs := ⟨_, rfl⟩
  have HXB : Hid (N < 10 ^ 200) := hid (by rw [hN]; exact hxb)
  have HVA : Hid (∀ W, Keeps (fun _ => False) w0 W → NumV W 0 (.agg #[.bool false, .slice a1 l1 c1]) (N : Int)) := hid (fun W hk => by
    rw [hN]; exact (HV.out.keep hk (fun _ _ h => h)).abs)
  rw [← hN]
  have HK0 := hid hk0
  clear hk0 hpx hx hxb hN HV
  go_enter Tryz.func60, Tryz.ntmps60
  go_wp2_with fail
  rw [← hw0]
  clear hw0 hp
  refine HC.out.mono ?_
  rintro e w1 ⟨rfl, hk⟩
  have HV1 := hid (HVA.out w1 hk); have HK1 := hid (HK0.out.trans hk)
  clear hk HC HVA
  go_wp2_with fail
  obtain ⟨P, hP⟩ : ∃ p, p = w1.heap.size := ⟨_, rfl⟩
  obtain ⟨W, hW⟩ : ∃ W, W = w1.alloc (.cells #[.bool false, .slice a1 l1 c1] 24) := ⟨_, rfl⟩
  have HE : Hid (NumE W 0 P (N : Int)) := hid (by rw [hW, hP]; exact NumE.new HV1.out)
  have HKW : Hid (Keeps (fun _ => False) w W) := hid (by rw [hW]; exact HK1.out.alloc _)
  have HPP : Hid (w.heap.size ≤ P) := hid (by rw [hP]; exact HK1.out.size)
  rw [← hP, ← hW]
  clear hP hW HV1 HK1
  go_loopw [3, 4] (fun nv uv wr => ∃ k Q : Nat, nv = .int .i64 (k : Int) ∧ uv = .pointer (some ⟨Q, 0, none⟩) ∧ (k = 0 ∨ 2 ^ (k - 1) ≤ N) ∧ k ≤ 1000 ∧ NumE wr 0 Q ((N / 2 ^ k : Nat) : Int) ∧ w.heap.size ≤ Q ∧ Keeps (fun _ => False) w wr) (fun nv _ _ => 1000 - (intOf nv).toNat)
  case atStart => exact ⟨0, P, rfl, rfl, .inl rfl, by omega, by rw [Nat.pow_zero, Nat.div_one]; exact HE.out, HPP.out, HKW.out⟩
  case round =>
    obtain ⟨k, Q, rfl, rfl, hk2, hk1000, hE, hQ, hkr⟩ := hrel
    obtain ⟨n2, a2, l2, c2, b0, b1, f0, f1, rQ, vQ⟩ := hE.facts
    have HZ := hid (zero23 _ _ _ wr vQ)
    have HK2 := hid hk2; have HEr := hid hE; have HQ := hid hQ; have HKr := hid hkr; have RQ := hid rQ; have VQ := hid vQ
    obtain ⟨M, hM⟩ : ∃ M, M = N / 2 ^ k := ⟨_, rfl⟩
    have HM := hid hM
    rw [← hM] at HZ
    clear hk2 hE hQ hkr rQ vQ hM
    by_cases h0 : M = 0
    · rw [show decide ((M : Int) = 0) = true by simp [h0]] at HZ
      have H0 := hid h0
      clear h0
      go_wp2_with fail
      refine HZ.out.mono ?_
      rintro e w2 ⟨rfl, hk⟩
      have HKf := hid (HKr.out.trans hk)
      clear hk
      go_wp2_with fail
      go_ret
      exact ⟨⟨k, rfl, bits_end (by rw [← HM.out]; exact H0.out) HK2.out⟩, HKf.out⟩
    · rw [show decide ((M : Int) = 0) = false by simp [h0]] at HZ
      have H0 := hid h0
      have hkb : k < 1000 := by
        rcases Nat.lt_or_ge k 1000 with h | h
        · exact h
        · exfalso
          have h1 := bits_next (N := N) (k := k) (by rw [← HM.out]; exact h0)
          have h2 := HXB.out
          have h3 : (10 : Nat) ^ 200 ≤ (2 ^ 233) ^ 3 := by decide +kernel
          obtain ⟨E, hE⟩ : ∃ E, E = 233 * 3 := ⟨_, rfl⟩
          rw [← Nat.pow_mul, ← hE] at h3
          have h4 : 2 ^ E ≤ 2 ^ k := Nat.pow_le_pow_right (by omega) (by omega)
          omega
      clear h0
      go_wp2_with fail
      refine HZ.out.mono ?_
      rintro e w2 ⟨rfl, hk⟩
      have HKf := hid (HKr.out.trans hk)
      have hr2 := hk.row RQ.out (fun h => h)
      have HR2 := hid hr2
      have HV2 := hid (VQ.out.keep hk (fun _ _ h => h))
      clear b0 b1 f0 f1 hk
      obtain ⟨b0, b1, _, _⟩ := RowAt.facts2 hr2
      clear hr2 HZ
      have HO := hid (fun W => of33 2 W (by omega) (by omega))
      have HQ2 : Hid (∀ W vy b, NumV W b vy 2 → Keeps (fun _ => False) w2 W → Calls Tryz.prog 40 #[.agg #[.bool n2, .slice a2 l2 c2], vy] W fun e w' => ∃ v1 v2, e = .returned (.tuple #[v1, v2]) ∧ NumV w' W.heap.size v1 ((M / 2 : Nat) : Int) ∧ (∃ z, NumV w' W.heap.size v2 z) ∧ Keeps (fun _ => False) W w') := hid (fun W vy b h1 hk => by
        have hv := HV2.out.keep hk (fun _ _ h => h)
        rw [← HM.out] at hv
        refine (quoRem40 _ vy _ 2 0 b W hv h1 (by omega) (digs_200 HXB.out (by rw [HM.out]; exact Nat.div_le_self _ _)) (Nat.le_trans (digs_len (k := 2) (by decide)) (by omega))).mono ?_
        rintro e w' ⟨v1, v2, he, k1, k2, k3⟩
        rw [half_nat] at k1
        exact ⟨v1, v2, he, k1, ⟨_, k2⟩, k3⟩)
      have HD0 : Hid (Keeps (fun _ => False) w2 w2.drew) := hid (Keeps.refl _ w2).drew
      have gw : wrap64 ((k : Int) + 1) = ((k + 1 : Nat) : Int) := by unfold wrap64; omega
      have gw2 : IntKind.i64.wrap ((k : Int) + 1) = ((k + 1 : Nat) : Int) := by rw [IntKind.wrap_i64]; omega
      go_upto_region 5 with fail
      go_region_law (first
        | (go_simp; go_at_call 33; ((with_reducible refine (HO.out _).mono ?_)); rintro e w3 ⟨v, rfl, hv, hk⟩; obtain ⟨n3, a3, l3, c3, rfl⟩ := hv.agg; have HV3 := hid hv; have K3 := hid (HD0.out.trans hk); obtain ⟨d0, d1, _, _⟩ := RowAt.facts2 (K3.out.row HR2.out (fun h => h)); clear hv hk)
        | (go_simp; go_at_call 40; ((with_reducible refine (HQ2.out _ _ _ HV3.out K3.out).mono ?_)); rintro e w4 ⟨v1, v2, rfl, hv, ⟨z2, hv2⟩, hk⟩; obtain ⟨n4, a4, l4, c4, rfl⟩ := hv.agg; obtain ⟨n5, a5, l5, c5, rfl⟩ := hv2.agg; have HV4 := hid (hv.lower (Nat.zero_le _)); have K4 := hid (K3.out.trans hk); have R4 := hid (K4.out.row HR2.out (fun h => h)); obtain ⟨i0, i1, i2, i3⟩ := RowAt.facts2 R4.out; clear hv hv2 hk))
      all_goals
        go_wp2_with fail
        have hq := HQ.out
        obtain ⟨v1, r1⟩ := HV4.out.setRow2 R4.out (m := n4) (s := .slice a4 l4 c4)
        have e1 := NumE.new v1
        have hs : ((w4.setCell ⟨Q, 0, none⟩ (.bool n4)).setCell ⟨Q, 1, none⟩ (.slice a4 l4 c4)).heap.size = w4.heap.size := by simp
        have hkk := (HKf.out.trans K4.out)
        refine ⟨⟨k + 1, w4.heap.size, rfl, rfl, .inr ?_, by omega, ?_, hkk.size, (((hkk.setCell _ (.inr hq) _).setCell _ (.inr hq) _).alloc _)⟩, by simp [intOf] <;> omega⟩
        · rw [Nat.add_sub_cancel]; exact bits_next (by rw [← HM.out]; exact H0.out)
        · rw [hs, HM.out, Nat.div_div_eq_div_mul, ← Nat.pow_succ] at e1
          exact e1
end Go.Proofs
namespace Go.Proofs
open Go.RowKit
set_option maxHeartbeats 4000000
set_option linter.unusedVariables false
set_option linter.unusedSimpArgs false
set_option maxRecDepth 100000

/-- A variable with what a number tells. -/
def TellC (w4 : World) (sg : Int) (b dn : Nat) (v : Value) (wx : World) : Prop := ∃ P, v = .pointer (some ⟨P, 0, none⟩) ∧ w4.heap.size ≤ P ∧ RowAt wx P 87 [.int .i64 sg, .int .i64 (b : Int), .int .u64 0, .bool false, .bool false, .int .i64 0, .int .u64 0, .int .i64 (dn : Int)] ∧ Keeps (fun _ => False) w4 wx
theorem tell_A {w4 w6 : World} {P : Nat} {sg : Int} {b dn : Nat} (K6 : Keeps (fun _ => False) w4 w6) (hP : w4.heap.size ≤ P) (hr : RowAt w6 P 87 [.int .i64 0, .int .i64 0, .int .u64 0, .bool false, .bool false, .int .i64 0, .int .u64 0, .int .i64 0]) :
    TellC w4 sg b dn (.pointer (some ⟨P, 0, none⟩)) ((((((((w6.setCell ⟨P, 0, none⟩ (.int .i64 sg)).setCell ⟨P, 1, none⟩ (.int .i64 (b : Int))).setCell ⟨P, 2, none⟩ (.int .u64 0)).setCell ⟨P, 3, none⟩ (.bool false)).setCell ⟨P, 4, none⟩ (.bool false)).setCell ⟨P, 5, none⟩ (.int .i64 0)).setCell ⟨P, 6, none⟩ (.int .u64 0)).setCell ⟨P, 7, none⟩ (.int .i64 (dn : Int))) :=
  ⟨P, rfl, hP, hr.set8 _ _ _ _ _ _ _ _, Keeps.set8 K6 P (.inr hP) _ _ _ _ _ _ _ _⟩
theorem tell_B {w4 w6 : World} {sg : Int} {b dn : Nat} (K6 : Keeps (fun _ => False) w4 w6) :
    TellC w4 sg b dn (.pointer (some ⟨w6.heap.size, 0, none⟩)) (w6.alloc (.cells #[.int .i64 sg, .int .i64 (b : Int), .int .u64 0, .bool false, .bool false, .int .i64 0, .int .u64 0, .int .i64 (dn : Int)] 87)) :=
  ⟨w6.heap.size, rfl, K6.size, RowAt.new w6 87 [.int .i64 sg, .int .i64 (b : Int), .int .u64 0, .bool false, .bool false, .int .i64 0, .int .u64 0, .int .i64 (dn : Int)], K6.alloc _⟩

/-- The block of a pointer. -/
def pblk : Value → Nat
  | .pointer (some p) => p.block
  | _ => 0
def TellEnd (w4 : World) (P : Nat) (sg : Int) (b dn N : Nat) (wx : World) : Prop := ∃ c : Nat, IsTz N c ∧ RowAt wx P 87 [.int .i64 sg, .int .i64 (b : Int), .int .u64 (c : Int), .bool false, .bool false, .int .i64 0, .int .u64 0, .int .i64 (dn : Int)] ∧ Keeps (fun _ => False) w4 wx
def TellRel (w4 : World) (P : Nat) (sg : Int) (b dn N : Nat) (uv : Value) (wr : World) : Prop :=
  ∃ c Q M : Nat, uv = .pointer (some ⟨Q, 0, none⟩) ∧ N = 2 ^ c * M ∧ (M = 0 → c = 0) ∧ c ≤ 1000 ∧ NumE wr 0 Q (M : Int) ∧ RowAt wr P 87 [.int .i64 sg, .int .i64 (b : Int), .int .u64 (c : Int), .bool false, .bool false, .int .i64 0, .int .u64 0, .int .i64 (dn : Int)] ∧ Keeps (fun _ => False) w4 wr ∧ w4.heap.size ≤ Q ∧ Q ≠ P
theorem tz_small {c N : Nat} (h : 2 ^ c ≤ N) (hN : N < 10 ^ 200) : c < 999 := by
  rcases Nat.lt_or_ge c 999 with h1 | h1
  · exact h1
  · exfalso
    have h3 : (10 : Nat) ^ 200 ≤ (2 ^ 233) ^ 3 := by decide +kernel
    obtain ⟨E, hE⟩ : ∃ E, E = 233 * 3 := ⟨_, rfl⟩
    rw [← Nat.pow_mul, ← hE] at h3
    have h4 : 2 ^ E ≤ 2 ^ c := Nat.pow_le_pow_right (by omega) (by omega)
    omega
theorem NumE.set87 {w : World} {b p P : Nat} {z sg : Int} {vs : List Value} (h : NumE w b p z) (hr : RowAt w P 87 (.int .i64 sg :: vs)) (hne : P ≠ p) (o : Nat) (v : Value) : NumE (w.setCell ⟨P, o, none⟩ v) b p z := by
  obtain ⟨n, a, l, c, h1, a', c', h2, ⟨g1, g2, g3⟩, h4⟩ := h
  have hk : Keeps (fun k => k = P) w (w.setCell ⟨P, o, none⟩ v) := Keeps.set1 w P o v
  refine ⟨n, a, l, c, h1.other (p := ⟨P, o, none⟩) hne v, a', c', h2, ⟨g1, g2, ?_⟩, h4⟩
  rcases g3 with g3 | ⟨q, rfl, hc⟩
  · exact .inl g3
  · refine .inr ⟨q, rfl, fun i hi => ?_⟩
    have h0 := hc 0 (by omega)
    have hqp : q ≠ P := by
      rintro rfl
      have h5 := hr.cell 0
      simp only [List.getElem?_cons_zero] at h5
      rw [h0] at h5
      cases h5
    have hlt := World.block_lt_of_cell? w ⟨q, 0, none⟩ h0
    exact (cell_of_block (p := ⟨q, i, none⟩) (hk.block q hlt hqp)).trans (hc i hi)
theorem IsTz.unique {N k j : Nat} (h : IsTz N k) (g : IsTz N j) : k = j := by
  rcases h with ⟨h1, h2⟩ | ⟨m, hm⟩
  · rcases g with ⟨g1, g2⟩ | ⟨n, hn⟩
    · omega
    · have := Nat.mul_pos (Nat.two_pow_pos j) (show 0 < 2 * n + 1 by omega)
      omega
  · rcases g with ⟨g1, g2⟩ | ⟨n, hn⟩
    · have := Nat.mul_pos (Nat.two_pow_pos k) (show 0 < 2 * m + 1 by omega)
      omega
    · have key : ∀ {k j m n : Nat}, 2 ^ k * (2 * m + 1) = 2 ^ j * (2 * n + 1) → k < j → False := by
        intro k j m n h hlt
        obtain ⟨d, rfl⟩ : ∃ d, j = k + (d + 1) := ⟨j - k - 1, by omega⟩
        rw [Nat.pow_add, Nat.mul_assoc] at h
        have h2 := Nat.eq_of_mul_eq_mul_left (Nat.two_pow_pos k) h
        rw [Nat.pow_succ, Nat.mul_comm (2 ^ d), Nat.mul_assoc] at h2
        omega
      rcases Nat.lt_trichotomy k j with h | h | h
      · exact (key (hm.symm.trans hn) h).elim
      · exact h
      · exact (key (hn.symm.trans hm) h).elim

theorem law17 (a : ByteArray) (w : World) (G : Glob w) (hma : a.size ≤ 9223372036854775807) :
    Calls Tryz.prog 17 #[.string a] w fun e w' => e = .returned (.bool true) ∧ Keeps (fun _ => False) w w' := by
  have HG := hid G
  clear G
  by_cases ha : a.size ≤ 2147483647
  · have H1 := hid (bigRight_any a w ha)
    go_enter Tryz.func17, Tryz.ntmps17
    go_wp2_with fail
    refine H1.out.mono ?_
    rintro e w1 ⟨hk1, hcase⟩
    have HK1 := hid hk1
    clear hk1 H1
    rcases hcase with ⟨x, v, htx, rfl, hnv⟩ | ⟨n1, a1, l1, c1, rfl⟩
    · have HTX := hid htx
      obtain ⟨n1, a1, l1, c1, rfl, hp⟩ := hnv.parts
      have HP := hid hp
      clear htx hnv hp
      go_upto_region 6 with fail
      obtain ⟨W1, hW1⟩ : ∃ W, W = w1.alloc (.cells #[.bool n1, .slice a1 l1 c1] 24) := ⟨_, rfl⟩
      obtain ⟨p1, hp1⟩ : ∃ p, p = w1.heap.size := ⟨_, rfl⟩
      have hB1 : NumB W1 p1 n1 a1 l1 c1 x := by rw [hW1, hp1]; exact NumB.new HP.out
      have hK1 : Keeps (fun _ => False) w W1 := by rw [hW1]; exact HK1.out.alloc _
      have HB1 := hid hB1; have HKW := hid hK1; have HG1 := hid (HG.out.keep hK1 (fun _ _ h => h)); have HXL := hid (Txt.lt HTX.out)
      have HAl := hid (fun W (hk : Keeps (fun _ => False) W1 W) => bigAlive_true W (HG1.out.keep hk (fun _ _ h => h)))
      have HTl : Hid (Calls Tryz.prog 59 #[.string a] W1 fun e w' => (∃ v0 v1 v2 v3 v4 v5 v6 v7, e = .returned (.agg #[v0, v1, v2, v3, v4, v5, v6, v7]) ∧ Told x v0 v1 v2 v3 v4 v5 v6 v7) ∧ Keeps (fun _ => False) W1 w') := hid (by
        obtain ⟨na, la, da, hta, hx, _⟩ := HTX.out
        exact bigTell59 a na da la x W1 hta hx HXL.out HG1.out)
      rw [← hW1, ← hp1]
      clear hW1 hp1 hB1 hK1 HP HK1 HG
      go_wp2_with fail
      refine HTl.out.mono ?_
      rintro e w2 ⟨⟨v0, v1, v2, v3, v4, v5, v6, v7, rfl, ht⟩, hk2⟩
      obtain ⟨tb, tk, q1, q2, tb1, tk1, tq1, tq2, e0, e1, e2, e3, e4, e5, e6, e7⟩ := ht
      obtain ⟨sg, hsg⟩ : ∃ d, d = sgn x := ⟨_, rfl⟩
      obtain ⟨i6, hi6⟩ : ∃ d, d = isI64 x := ⟨_, rfl⟩
      obtain ⟨u6, hu6⟩ : ∃ d, d = isU64 x := ⟨_, rfl⟩
      obtain ⟨dn, hdn⟩ : ∃ d, d = max (digs x.natAbs).length 1 := ⟨_, rfl⟩
      rw [← hsg] at e0; rw [← hi6] at e3; rw [← hu6] at e4; rw [← hdn] at e7
      subst e0 e1 e2 e3 e4 e5 e6 e7
      have HTB := hid tb1; have HTK := hid tk1; have HTQ1 := hid tq1; have HTQ2 := hid tq2
      have HSG := hid hsg; have HI6 := hid hi6; have HU6 := hid hu6; have HDN := hid hdn
      have HK2 := hid hk2
      clear tb1 tk1 tq1 tq2 hsg hi6 hu6 hdn hk2 HTl
      go_upto_region 7 with fail
      obtain ⟨W2, hW2⟩ : ∃ W, W = w2.alloc (.cells #[.int .i64 sg, .int .i64 (tb : Int), .int .u64 (tk : Int), .bool i6, .bool u6, .int .i64 q1, .int .u64 q2, .int .i64 (dn : Int)] 87) := ⟨_, rfl⟩
      obtain ⟨p2, hp2⟩ : ∃ p, p = w2.heap.size := ⟨_, rfl⟩
      have HR2 : Hid (RowAt W2 p2 87 [.int .i64 sg, .int .i64 (tb : Int), .int .u64 (tk : Int), .bool i6, .bool u6, .int .i64 q1, .int .u64 q2, .int .i64 (dn : Int)]) := hid (by rw [hW2, hp2]; exact RowAt.new w2 87 _)
      have hK2 : Keeps (fun _ => False) W1 W2 := by rw [hW2]; exact HK2.out.alloc _
      have HKW2 := hid hK2; have HB2 := hid (HB1.out.keep hK2)
      rw [← hW2, ← hp2]
      clear hW2 hp2 hK2 HK2
      have hlen : (max l1 1 : Nat) = dn := by
        rw [HDN.out]
        have := HB2.out.v.get.2.2.1
        rw [this]
      have HSg : Hid (∀ W, Keeps (fun _ => False) W2 W → Calls Tryz.prog 35 #[.agg #[.bool n1, .slice a1 l1 c1]] W fun e w' => e = .returned (.int .i64 sg) ∧ Keeps (fun _ => False) W w') := hid (fun W hk => by
        rw [HSG.out]; exact sign35 _ x 0 W (HB2.out.keep hk).v)
      have HBt : Hid (∀ W, Keeps (fun _ => False) W2 W → Calls Tryz.prog 60 #[.agg #[.bool n1, .slice a1 l1 c1]] W fun e w' => e = .returned (.int .i64 (tb : Int)) ∧ Keeps (fun _ => False) W w') := hid (fun W hk => by
        refine (bits60 _ x 0 W (HB2.out.keep hk).v HXL.out).mono ?_
        rintro e w' ⟨⟨b, rfl, hb⟩, hk'⟩
        rw [hb.unique HTB.out]
        exact ⟨rfl, hk'⟩)
      have HS7 : Hid (∀ w', Keeps (fun _ => False) W2 w' → w'.cell? ⟨p1, 0, none⟩ = some (.bool n1) ∧ w'.cell? ⟨p1, 1, none⟩ = some (.slice a1 l1 c1)) := hid (fun w' hk => (HB2.out.keep hk).cells)
      have gmx : (max ((l1 : Nat) : Int) 1) = ((dn : Nat) : Int) := by rw [← hlen]; omega
      have HLN := hid hlen
      clear hlen
      go_cut [6] from 23 to 32 (fun v wx => TellC W2 sg tb dn v wx)
      case first =>
        go_region_held3 (fun w' => w'.cell? ⟨p1, 0, none⟩ = some (.bool n1) ∧ w'.cell? ⟨p1, 1, none⟩ = some (.slice a1 l1 c1))
          (((refine HS7.out _ ?_); repeat (first | (with_reducible exact K6.out) | (with_reducible exact K5.out) | (with_reducible exact Keeps.refl _ _) | (with_reducible refine Keeps.drew ?_) | (with_reducible refine Keeps.new ?_ _) | (refine Keeps.setCell ?_ _ (.inr (by dsimp only; omega)) _))))
          (first
           | (go_at_call 35; (with_reducible refine (HSg.out W2.drew (Keeps.refl _ W2).drew).mono ?_); rintro e w5 ⟨rfl, hk⟩; have K5 := hid (((Keeps.refl (fun _ => False) W2).drew).trans hk); have tok0 : True := trivial; clear hk)
           | (go_at_call 35; (with_reducible refine (HSg.out (W2.alloc (.cells #[.int .i64 0, .int .i64 0, .int .u64 0, .bool false, .bool false, .int .i64 0, .int .u64 0, .int .i64 0] 87)).drew ((Keeps.refl _ W2).alloc _).drew).mono ?_); rintro e w5 ⟨rfl, hk⟩; have K5 := hid ((((Keeps.refl (fun _ => False) W2).alloc (.cells #[.int .i64 0, .int .i64 0, .int .u64 0, .bool false, .bool false, .int .i64 0, .int .u64 0, .int .i64 0] 87)).drew).trans hk); have FR := hid (hk.row (RowAt.new W2 87 [.int .i64 0, .int .i64 0, .int .u64 0, .bool false, .bool false, .int .i64 0, .int .u64 0, .int .i64 0]) (fun h => h)); have tok1 : True := trivial; clear hk)
           | (go_at_call 60; have _t := tok0; (with_reducible refine (HBt.out w5 K5.out).mono ?_); rintro e w6 ⟨rfl, hk⟩; have K6 := hid (K5.out.trans hk); clear hk)
           | (go_at_call 60; have _t := tok0; (with_reducible refine (HBt.out (w5.alloc (.cells #[.int .i64 0, .int .i64 0, .int .u64 0, .bool false, .bool false, .int .i64 0, .int .u64 0, .int .i64 0] 87)) (K5.out.alloc _)).mono ?_); rintro e w6 ⟨rfl, hk⟩; have K6 := hid ((K5.out.alloc (.cells #[.int .i64 0, .int .i64 0, .int .u64 0, .bool false, .bool false, .int .i64 0, .int .u64 0, .int .i64 0] 87)).trans hk); have g0 : RowAt w6 w5.heap.size 87 [.int .i64 0, .int .i64 0, .int .u64 0, .bool false, .bool false, .int .i64 0, .int .u64 0, .int .i64 0] := hk.row (RowAt.new w5 87 [.int .i64 0, .int .i64 0, .int .u64 0, .bool false, .bool false, .int .i64 0, .int .u64 0, .int .i64 0]) (fun h => h); have G0 := hid g0; have z5 := K5.out.size; have gc0 := g0.cell 0; have gf0 := g0.frozen 0; have gc1 := g0.cell 1; have gf1 := g0.frozen 1; have gc2 := g0.cell 2; have gf2 := g0.frozen 2; have gc3 := g0.cell 3; have gf3 := g0.frozen 3; have gc4 := g0.cell 4; have gf4 := g0.frozen 4; have gc5 := g0.cell 5; have gf5 := g0.frozen 5; have gc6 := g0.cell 6; have gf6 := g0.frozen 6; have gc7 := g0.cell 7; have gf7 := g0.frozen 7; simp only [List.getElem?_cons_zero, List.getElem?_cons_succ] at gc0 gc1 gc2 gc3 gc4 gc5 gc6 gc7;  clear hk g0)
           | (go_at_call 60; have _t := tok1; (with_reducible refine (HBt.out w5 K5.out).mono ?_); rintro e w6 ⟨rfl, hk⟩; have K6 := hid (K5.out.trans hk); have g0 : RowAt w6 W2.heap.size 87 [.int .i64 0, .int .i64 0, .int .u64 0, .bool false, .bool false, .int .i64 0, .int .u64 0, .int .i64 0] := hk.row FR.out (fun h => h); have G0 := hid g0; have gc0 := g0.cell 0; have gf0 := g0.frozen 0; have gc1 := g0.cell 1; have gf1 := g0.frozen 1; have gc2 := g0.cell 2; have gf2 := g0.frozen 2; have gc3 := g0.cell 3; have gf3 := g0.frozen 3; have gc4 := g0.cell 4; have gf4 := g0.frozen 4; have gc5 := g0.cell 5; have gf5 := g0.frozen 5; have gc6 := g0.cell 6; have gf6 := g0.frozen 6; have gc7 := g0.cell 7; have gf7 := g0.frozen 7; simp only [List.getElem?_cons_zero, List.getElem?_cons_succ] at gc0 gc1 gc2 gc3 gc4 gc5 gc6 gc7;  clear hk g0))
        all_goals
          go_wp2_with fail
          go_meet
        all_goals first | with_reducible exact tell_B K6.out | with_reducible exact tell_A K6.out (by omega) G0.out | skip
      case rest =>
        obtain ⟨P, rfl, hPw, hrow, hkc⟩ := hcut
        have HR3 := hid hrow; have HKC := hid hkc; have HPW := hid hPw
        have HC31 := hid (abs31_any n1 a1 l1 c1 wc)
        have HVA : Hid (∀ W, Keeps (fun _ => False) W2 W → NumV W 0 (.agg #[.bool false, .slice a1 l1 c1]) (x.natAbs : Int)) := hid (fun W hk => (HB2.out.keep hk).v.abs)
        obtain ⟨b0, b1⟩ := HS7.out wc hkc
        clear hPw hrow hkc HSg HBt gmx
        go_wp2_with fail
        refine HC31.out.mono ?_
        rintro e w6 ⟨rfl, hk⟩
        have HK6 := hid (HKC.out.trans hk)
        have HR6 := hid (hk.row HR3.out (fun h => h))
        clear hk HC31 b0 b1
        go_upto_block 0 with fail
        obtain ⟨W7, hW7⟩ : ∃ W, W = w6.alloc (.cells #[.bool false, .slice a1 l1 c1] 24) := ⟨_, rfl⟩
        obtain ⟨p7, hp7⟩ : ∃ p, p = w6.heap.size := ⟨_, rfl⟩
        have HE7 : Hid (NumE W7 0 p7 (x.natAbs : Int)) := hid (by rw [hW7, hp7]; exact NumE.new (HVA.out w6 HK6.out))
        have hK7 : Keeps (fun _ => False) w6 W7 := by rw [hW7]; exact (Keeps.refl _ w6).alloc _
        have HK7 := hid (HK6.out.trans hK7); have HR7 := hid (hK7.row HR6.out (fun h => h))
        have HP7 : Hid (W2.heap.size ≤ p7 ∧ p7 ≠ P) := hid ⟨by rw [hp7]; exact HK6.out.size, by have := RowAt.lt HR6.out; omega⟩
        rw [← hW7, ← hp7]
        clear hW7 hp7 hK7 HVA
        have HO2 := hid (fun W => of33 2 W (by omega) (by omega))
        go_cut [7, 8, 9] from 34 to 52 (fun _ _ _ wx => TellEnd W2 P sg tb dn x.natAbs wx)
        case first =>
          go_wp2_with fail
          go_loopw [7] (fun uv wr => TellRel W2 P sg tb dn x.natAbs uv wr) (fun uv wr => (zOf wr (pblk uv)).toNat)
          case atStart => exact ⟨0, p7, x.natAbs, rfl, by rw [Nat.pow_zero, Nat.one_mul], fun _ => rfl, by omega, HE7.out, HR7.out, HK7.out, HP7.out.1, HP7.out.2⟩
          case round =>
            obtain ⟨c, Q, M, rfl, hM, hM0, hc1000, hE, hrow, hk, hQ, hQP⟩ := hrel
            obtain ⟨n2, a2, l2, c2, b0, b1, f0, f1, rQ, vQ⟩ := hE.facts
            have HZ := hid (zero23 _ _ _ wr vQ)
            have HM := hid hM; have HM0 := hid hM0; have HEr := hid hE; have HRr := hid hrow; have HKr := hid hk; have HQw := hid hQ; have HQP := hid hQP; have RQ := hid rQ; have VQ := hid vQ
            clear hM hM0 hE hrow hk hQ hQP rQ vQ
            by_cases h0 : M = 0
            · rw [show decide ((M : Int) = 0) = true by simp [h0]] at HZ
              have H0 := hid h0
              clear h0
              go_wp2_with fail
              refine HZ.out.mono ?_
              rintro e w7 ⟨rfl, hk⟩
              have HK := hid hk
              clear hk
              go_wp2_with fail
              go_meet
              case rel => exact ⟨c, .inl ⟨by rw [HM.out, H0.out, Nat.mul_zero], HM0.out H0.out⟩, HK.out.row HRr.out (fun h => h), HKr.out.trans HK.out⟩
            · rw [show decide ((M : Int) = 0) = false by simp [h0]] at HZ
              have H0 := hid h0
              clear h0
              go_wp2_with fail
              refine HZ.out.mono ?_
              rintro e wz ⟨rfl, hk⟩
              have HRz := hid (hk.row HRr.out (fun h => h)); have HKz := hid (HKr.out.trans hk)
              have RQz := hid (hk.row RQ.out (fun h => h)); have VQz := hid (VQ.out.keep hk (fun _ _ h => h)); have HEz := hid (HEr.out.keep hk)
              clear b0 b1 f0 f1 hk HZ
              have HS9 : Hid (∀ w', Keeps (fun _ => False) wz w' → w'.cell? ⟨Q, 0, none⟩ = some (.bool n2) ∧ w'.cell? ⟨Q, 1, none⟩ = some (.slice a2 l2 c2)) := hid (fun w' hk => ⟨(hk.row RQz.out (fun h => h)).cell 0, (hk.row RQz.out (fun h => h)).cell 1⟩)
              have HQR : Hid (∀ W vy b, NumV W b vy 2 → Keeps (fun _ => False) wz W → Calls Tryz.prog 40 #[.agg #[.bool n2, .slice a2 l2 c2], vy] W fun e w' => ∃ v1 v2, e = .returned (.tuple #[v1, v2]) ∧ NumV w' W.heap.size v1 ((M / 2 : Nat) : Int) ∧ NumV w' W.heap.size v2 ((M % 2 : Nat) : Int) ∧ Keeps (fun _ => False) W w') := hid (fun W vy b h1 hk => by
                have hv := VQz.out.keep hk (fun _ _ h => h)
                refine (quoRem40 _ vy _ 2 0 b W hv h1 (by omega) (digs_200 HXL.out (by have h := HM.out; have h2 := Nat.two_pow_pos c; rw [h]; exact Nat.le_mul_of_pos_left M h2)) (Nat.le_trans (digs_len (k := 2) (by decide)) (by omega))).mono ?_
                rintro e w' ⟨v1, v2, he, k1, k2, k3⟩
                exact ⟨v1, v2, he, k1, k2, k3⟩)
              go_upto_region 11 with fail
              go_cut [8, 9] from 41 to 47 (fun u v wx => TwoC wz 0 ((M / 2 : Nat) : Int) ((M % 2 : Nat) : Int) u v wx)
              case first =>
                go_region_held3 (fun w' => w'.cell? ⟨Q, 0, none⟩ = some (.bool n2) ∧ w'.cell? ⟨Q, 1, none⟩ = some (.slice a2 l2 c2))
                  (((refine HS9.out _ ?_); repeat (first | (with_reducible exact K6.out) | (with_reducible exact K5.out) | (with_reducible exact Keeps.refl _ _) | (with_reducible refine Keeps.drew ?_) | (with_reducible refine Keeps.new ?_ _) | (refine Keeps.setCell ?_ _ (.inr (by dsimp only; omega)) _))))
                  (first
                    | (go_at_call 33; (with_reducible refine (HO2.out (wz.drew)).mono ?_); rintro e w5 ⟨v, rfl, hv, hk⟩; obtain ⟨n5, a5, l5, c5, rfl⟩ := hv.agg; have HV5 := hid hv; have k5 := (show Keeps (fun _ => False) wz (wz.drew) from (Keeps.refl (fun _ => False) wz).drew); have K5 := hid (k5.trans hk); have tok0 : True := trivial; have z5 := K5.out.size; clear hv hk k5)
                    | (go_at_call 33; (with_reducible refine (HO2.out ((wz.alloc (.cells #[.bool false, .slice none 0 0] 24)).drew)).mono ?_); rintro e w5 ⟨v, rfl, hv, hk⟩; obtain ⟨n5, a5, l5, c5, rfl⟩ := hv.agg; have HV5 := hid hv; have k5 := (show Keeps (fun _ => False) wz ((wz.alloc (.cells #[.bool false, .slice none 0 0] 24)).drew) from ((Keeps.refl (fun _ => False) wz).alloc _).drew); have K5 := hid (k5.trans hk); have FR0 := hid ((show Fr ((wz.alloc (.cells #[.bool false, .slice none 0 0] 24)).drew) wz.heap.size from (Fr.new wz)).keep hk); have tok1 : True := trivial; have z5 := K5.out.size; clear hv hk k5)
                    | (go_at_call 33; (with_reducible refine (HO2.out (((wz.alloc (.cells #[.bool false, .slice none 0 0] 24)).alloc (.cells #[.bool false, .slice none 0 0] 24)).drew)).mono ?_); rintro e w5 ⟨v, rfl, hv, hk⟩; obtain ⟨n5, a5, l5, c5, rfl⟩ := hv.agg; have HV5 := hid hv; have k5 := (show Keeps (fun _ => False) wz (((wz.alloc (.cells #[.bool false, .slice none 0 0] 24)).alloc (.cells #[.bool false, .slice none 0 0] 24)).drew) from (((Keeps.refl (fun _ => False) wz).alloc _).alloc _).drew); have K5 := hid (k5.trans hk); have FR0 := hid ((show Fr (((wz.alloc (.cells #[.bool false, .slice none 0 0] 24)).alloc (.cells #[.bool false, .slice none 0 0] 24)).drew) wz.heap.size from (Fr.new2 wz).1).keep hk); have FR1 := hid ((show Fr (((wz.alloc (.cells #[.bool false, .slice none 0 0] 24)).alloc (.cells #[.bool false, .slice none 0 0] 24)).drew) (wz.heap.size + 1) from (Fr.new2 wz).2).keep hk); have tok2 : True := trivial; have z5 := K5.out.size; clear hv hk k5)
                    | (go_at_call 40; have _t := tok0; (with_reducible refine (HQR.out w5 _ _ (HV5.out.keep (show Keeps (fun _ => False) w5 w5 from (Keeps.refl (fun _ => False) w5)) (fun _ _ h => h)) (K5.out.trans (show Keeps (fun _ => False) w5 w5 from (Keeps.refl (fun _ => False) w5)))).mono ?_); rintro e w6 ⟨v1, v2, rfl, hv1, hv2, hk⟩; obtain ⟨n6, a6, l6, c6, rfl⟩ := hv1.agg; obtain ⟨n7, a7, l7, c7, rfl⟩ := hv2.agg; have k56 := (show Keeps (fun _ => False) w5 w5 from (Keeps.refl (fun _ => False) w5)).trans hk; have z6 := k56.size; have HV6 := hid (hv1.lower (Nat.zero_le _)); have HV7 := hid (hv2.lower (Nat.zero_le _)); have K6 := hid (K5.out.trans k56); clear hv1 hv2 hk k56)
                    | (go_at_call 40; have _t := tok0; (with_reducible refine (HQR.out (w5.alloc (.cells #[.bool false, .slice none 0 0] 24)) _ _ (HV5.out.keep (show Keeps (fun _ => False) w5 (w5.alloc (.cells #[.bool false, .slice none 0 0] 24)) from ((Keeps.refl (fun _ => False) w5).alloc _)) (fun _ _ h => h)) (K5.out.trans (show Keeps (fun _ => False) w5 (w5.alloc (.cells #[.bool false, .slice none 0 0] 24)) from ((Keeps.refl (fun _ => False) w5).alloc _)))).mono ?_); rintro e w6 ⟨v1, v2, rfl, hv1, hv2, hk⟩; obtain ⟨n6, a6, l6, c6, rfl⟩ := hv1.agg; obtain ⟨n7, a7, l7, c7, rfl⟩ := hv2.agg; have k56 := (show Keeps (fun _ => False) w5 (w5.alloc (.cells #[.bool false, .slice none 0 0] 24)) from ((Keeps.refl (fun _ => False) w5).alloc _)).trans hk; have z6 := k56.size; have HV6 := hid (hv1.lower (Nat.zero_le _)); have HV7 := hid (hv2.lower (Nat.zero_le _)); have K6 := hid (K5.out.trans k56); have g0 := ((Fr.new w5).keep hk); obtain ⟨x00, x01, x02, x03⟩ := g0.facts; have y00 := fun o => (Fr.facts (RowAt.alloc g0 o)).1; have y01 := fun o => (Fr.facts (RowAt.alloc g0 o)).2.1; have y02 := fun o => (Fr.facts (RowAt.alloc g0 o)).2.2.1; have y03 := fun o => (Fr.facts (RowAt.alloc g0 o)).2.2.2; have lt0 := RowAt.lt g0; have ne0 := Nat.ne_of_lt lt0; have nf0 := Ne.symm ne0; have G0 := hid g0; clear g0; clear hv1 hv2 hk k56)
                    | (go_at_call 40; have _t := tok0; (with_reducible refine (HQR.out ((w5.alloc (.cells #[.bool false, .slice none 0 0] 24)).alloc (.cells #[.bool false, .slice none 0 0] 24)) _ _ (HV5.out.keep (show Keeps (fun _ => False) w5 ((w5.alloc (.cells #[.bool false, .slice none 0 0] 24)).alloc (.cells #[.bool false, .slice none 0 0] 24)) from (((Keeps.refl (fun _ => False) w5).alloc _).alloc _)) (fun _ _ h => h)) (K5.out.trans (show Keeps (fun _ => False) w5 ((w5.alloc (.cells #[.bool false, .slice none 0 0] 24)).alloc (.cells #[.bool false, .slice none 0 0] 24)) from (((Keeps.refl (fun _ => False) w5).alloc _).alloc _)))).mono ?_); rintro e w6 ⟨v1, v2, rfl, hv1, hv2, hk⟩; obtain ⟨n6, a6, l6, c6, rfl⟩ := hv1.agg; obtain ⟨n7, a7, l7, c7, rfl⟩ := hv2.agg; have k56 := (show Keeps (fun _ => False) w5 ((w5.alloc (.cells #[.bool false, .slice none 0 0] 24)).alloc (.cells #[.bool false, .slice none 0 0] 24)) from (((Keeps.refl (fun _ => False) w5).alloc _).alloc _)).trans hk; have z6 := k56.size; have HV6 := hid (hv1.lower (Nat.zero_le _)); have HV7 := hid (hv2.lower (Nat.zero_le _)); have K6 := hid (K5.out.trans k56); have g0 := ((Fr.new2 w5).1.keep hk); obtain ⟨x00, x01, x02, x03⟩ := g0.facts; have y00 := fun o => (Fr.facts (RowAt.alloc g0 o)).1; have y01 := fun o => (Fr.facts (RowAt.alloc g0 o)).2.1; have y02 := fun o => (Fr.facts (RowAt.alloc g0 o)).2.2.1; have y03 := fun o => (Fr.facts (RowAt.alloc g0 o)).2.2.2; have lt0 := RowAt.lt g0; have ne0 := Nat.ne_of_lt lt0; have nf0 := Ne.symm ne0; have G0 := hid g0; clear g0; have g1 := ((Fr.new2 w5).2.keep hk); obtain ⟨x10, x11, x12, x13⟩ := g1.facts; have y10 := fun o => (Fr.facts (RowAt.alloc g1 o)).1; have y11 := fun o => (Fr.facts (RowAt.alloc g1 o)).2.1; have y12 := fun o => (Fr.facts (RowAt.alloc g1 o)).2.2.1; have y13 := fun o => (Fr.facts (RowAt.alloc g1 o)).2.2.2; have lt1 := RowAt.lt g1; have ne1 := Nat.ne_of_lt lt1; have nf1 := Ne.symm ne1; have G1 := hid g1; clear g1; clear hv1 hv2 hk k56)
                    | (go_at_call 40; have _t := tok1; (with_reducible refine (HQR.out w5 _ _ (HV5.out.keep (show Keeps (fun _ => False) w5 w5 from (Keeps.refl (fun _ => False) w5)) (fun _ _ h => h)) (K5.out.trans (show Keeps (fun _ => False) w5 w5 from (Keeps.refl (fun _ => False) w5)))).mono ?_); rintro e w6 ⟨v1, v2, rfl, hv1, hv2, hk⟩; obtain ⟨n6, a6, l6, c6, rfl⟩ := hv1.agg; obtain ⟨n7, a7, l7, c7, rfl⟩ := hv2.agg; have k56 := (show Keeps (fun _ => False) w5 w5 from (Keeps.refl (fun _ => False) w5)).trans hk; have z6 := k56.size; have HV6 := hid (hv1.lower (Nat.zero_le _)); have HV7 := hid (hv2.lower (Nat.zero_le _)); have K6 := hid (K5.out.trans k56); have ne45 := Nat.ne_of_lt (RowAt.lt FR0.out); have nf45 := Ne.symm ne45; have g0 := (FR0.out.keep k56); obtain ⟨x00, x01, x02, x03⟩ := g0.facts; have y00 := fun o => (Fr.facts (RowAt.alloc g0 o)).1; have y01 := fun o => (Fr.facts (RowAt.alloc g0 o)).2.1; have y02 := fun o => (Fr.facts (RowAt.alloc g0 o)).2.2.1; have y03 := fun o => (Fr.facts (RowAt.alloc g0 o)).2.2.2; have lt0 := RowAt.lt g0; have ne0 := Nat.ne_of_lt lt0; have nf0 := Ne.symm ne0; have G0 := hid g0; clear g0; clear hv1 hv2 hk k56)
                    | (go_at_call 40; have _t := tok1; (with_reducible refine (HQR.out (w5.alloc (.cells #[.bool false, .slice none 0 0] 24)) _ _ (HV5.out.keep (show Keeps (fun _ => False) w5 (w5.alloc (.cells #[.bool false, .slice none 0 0] 24)) from ((Keeps.refl (fun _ => False) w5).alloc _)) (fun _ _ h => h)) (K5.out.trans (show Keeps (fun _ => False) w5 (w5.alloc (.cells #[.bool false, .slice none 0 0] 24)) from ((Keeps.refl (fun _ => False) w5).alloc _)))).mono ?_); rintro e w6 ⟨v1, v2, rfl, hv1, hv2, hk⟩; obtain ⟨n6, a6, l6, c6, rfl⟩ := hv1.agg; obtain ⟨n7, a7, l7, c7, rfl⟩ := hv2.agg; have k56 := (show Keeps (fun _ => False) w5 (w5.alloc (.cells #[.bool false, .slice none 0 0] 24)) from ((Keeps.refl (fun _ => False) w5).alloc _)).trans hk; have z6 := k56.size; have HV6 := hid (hv1.lower (Nat.zero_le _)); have HV7 := hid (hv2.lower (Nat.zero_le _)); have K6 := hid (K5.out.trans k56); have ne45 := Nat.ne_of_lt (RowAt.lt FR0.out); have nf45 := Ne.symm ne45; have g0 := (FR0.out.keep k56); obtain ⟨x00, x01, x02, x03⟩ := g0.facts; have y00 := fun o => (Fr.facts (RowAt.alloc g0 o)).1; have y01 := fun o => (Fr.facts (RowAt.alloc g0 o)).2.1; have y02 := fun o => (Fr.facts (RowAt.alloc g0 o)).2.2.1; have y03 := fun o => (Fr.facts (RowAt.alloc g0 o)).2.2.2; have lt0 := RowAt.lt g0; have ne0 := Nat.ne_of_lt lt0; have nf0 := Ne.symm ne0; have G0 := hid g0; clear g0; have g1 := ((Fr.new w5).keep hk); obtain ⟨x10, x11, x12, x13⟩ := g1.facts; have y10 := fun o => (Fr.facts (RowAt.alloc g1 o)).1; have y11 := fun o => (Fr.facts (RowAt.alloc g1 o)).2.1; have y12 := fun o => (Fr.facts (RowAt.alloc g1 o)).2.2.1; have y13 := fun o => (Fr.facts (RowAt.alloc g1 o)).2.2.2; have lt1 := RowAt.lt g1; have ne1 := Nat.ne_of_lt lt1; have nf1 := Ne.symm ne1; have G1 := hid g1; clear g1; clear hv1 hv2 hk k56)
                    | (go_at_call 40; have _t := tok2; (with_reducible refine (HQR.out w5 _ _ (HV5.out.keep (show Keeps (fun _ => False) w5 w5 from (Keeps.refl (fun _ => False) w5)) (fun _ _ h => h)) (K5.out.trans (show Keeps (fun _ => False) w5 w5 from (Keeps.refl (fun _ => False) w5)))).mono ?_); rintro e w6 ⟨v1, v2, rfl, hv1, hv2, hk⟩; obtain ⟨n6, a6, l6, c6, rfl⟩ := hv1.agg; obtain ⟨n7, a7, l7, c7, rfl⟩ := hv2.agg; have k56 := (show Keeps (fun _ => False) w5 w5 from (Keeps.refl (fun _ => False) w5)).trans hk; have z6 := k56.size; have HV6 := hid (hv1.lower (Nat.zero_le _)); have HV7 := hid (hv2.lower (Nat.zero_le _)); have K6 := hid (K5.out.trans k56); have ne45 := Nat.ne_of_lt (RowAt.lt FR0.out); have nf45 := Ne.symm ne45; have g0 := (FR0.out.keep k56); obtain ⟨x00, x01, x02, x03⟩ := g0.facts; have y00 := fun o => (Fr.facts (RowAt.alloc g0 o)).1; have y01 := fun o => (Fr.facts (RowAt.alloc g0 o)).2.1; have y02 := fun o => (Fr.facts (RowAt.alloc g0 o)).2.2.1; have y03 := fun o => (Fr.facts (RowAt.alloc g0 o)).2.2.2; have lt0 := RowAt.lt g0; have ne0 := Nat.ne_of_lt lt0; have nf0 := Ne.symm ne0; have G0 := hid g0; clear g0; have g1 := (FR1.out.keep k56); obtain ⟨x10, x11, x12, x13⟩ := g1.facts; have y10 := fun o => (Fr.facts (RowAt.alloc g1 o)).1; have y11 := fun o => (Fr.facts (RowAt.alloc g1 o)).2.1; have y12 := fun o => (Fr.facts (RowAt.alloc g1 o)).2.2.1; have y13 := fun o => (Fr.facts (RowAt.alloc g1 o)).2.2.2; have lt1 := RowAt.lt g1; have ne1 := Nat.ne_of_lt lt1; have nf1 := Ne.symm ne1; have G1 := hid g1; clear g1; clear hv1 hv2 hk k56))
                all_goals
                  go_wp2_with fail
                  go_meet
                all_goals first | (with_reducible exact two_D K6.out HV6.out HV7.out) | (with_reducible exact two_B K6.out HV6.out HV7.out (by omega) G0.out) | (with_reducible exact two_C K6.out HV6.out HV7.out (by omega) G0.out) | (with_reducible exact two_A K6.out HV6.out HV7.out (by omega) (by omega) G0.out G1.out (by omega)) | (with_reducible exact two_A K6.out HV6.out HV7.out (by omega) (by omega) G1.out G0.out (by omega)) | (refine TwoC.symm ?_; with_reducible exact two_D K6.out HV7.out HV6.out) | (refine TwoC.symm ?_; with_reducible exact two_B K6.out HV7.out HV6.out (by omega) G0.out) | (refine TwoC.symm ?_; with_reducible exact two_C K6.out HV7.out HV6.out (by omega) G0.out) | (refine TwoC.symm ?_; with_reducible exact two_A K6.out HV7.out HV6.out (by omega) (by omega) G0.out G1.out (by omega)) | (refine TwoC.symm ?_; with_reducible exact two_A K6.out HV7.out HV6.out (by omega) (by omega) G1.out G0.out (by omega))
              case rest =>
                obtain ⟨P8, P9, rfl, rfl, h89, h8, h9, e8, e9, hkz⟩ := hcut
                obtain ⟨wk, rfl⟩ : ∃ wk : World, wk = wc := ⟨_, rfl⟩
                have H8 := hid h8; have HE8 := hid e8; have HKc := hid hkz
                obtain ⟨n9, a9, l9, c9, b0, b1, _, _, _, v9⟩ := e9.facts
                have HZ9 := hid (zero23 _ _ _ wk v9)
                clear h89 h8 h9 e8 e9 hkz v9 HQR HS9
                by_cases hodd : M % 2 = 0
                · rw [show decide (((M % 2 : Nat) : Int) = 0) = true by simp [hodd]] at HZ9
                  have HOD := hid hodd
                  clear hodd
                  go_wp2_with fail
                  refine HZ9.out.mono ?_
                  rintro e w8 ⟨rfl, hk⟩
                  have HK8 := hid (HKc.out.trans hk)
                  have HE88 := hid (HE8.out.keep hk)
                  have HRQ8 := hid (HK8.out.row RQz.out (fun h => h)); have HRP8 := hid (HK8.out.row HRz.out (fun h => h))
                  clear b0 b1 hk HZ9
                  obtain ⟨n8, a8, l8, c8, b0, b1, _, _, r8, v8⟩ := HE88.out.facts
                  obtain ⟨_, _, f0, f1⟩ := RowAt.facts2 HRQ8.out
                  have HV8 := hid v8
                  clear r8 v8
                  go_upto_region 14 with fail
                  obtain ⟨hv9, hr9⟩ := NumV.setRow2 HV8.out HRQ8.out (m := n8) (s := .slice a8 l8 c8)
                  have hrp9 := RowAt.other2 (x := .bool n8) (y := .slice a8 l8 c8) HRP8.out HQP.out
                  have hkk := (HKz.out.trans HK8.out)
                  have hk9 := (hkk.setCell ⟨Q, 0, none⟩ (.inr HQw.out) (.bool n8)).setCell ⟨Q, 1, none⟩ (.inr HQw.out) (.slice a8 l8 c8)
                  obtain ⟨W9, hW9⟩ : ∃ W, W = (w8.setCell ⟨Q, 0, none⟩ (.bool n8)).setCell ⟨Q, 1, none⟩ (.slice a8 l8 c8) := ⟨_, rfl⟩
                  rw [← hW9] at hv9 hr9 hrp9 hk9 ⊢
                  have HV9 := hid hv9; have HR9 := hid hr9; have HRP9 := hid hrp9; have HK9 := hid hk9
                  clear hkk hW9 hv9 hrp9 hk9 b0 b1 f0 f1
                  obtain ⟨b0, b1, _, _⟩ := RowAt.facts2 hr9
                  clear hr9
                  go_upto_region 10 with fail
                  obtain ⟨W10, hW10⟩ : ∃ W, W = W9.alloc (.cells #[.bool n8, .slice a8 l8 c8] 24) := ⟨_, rfl⟩
                  obtain ⟨Q2, hQ2⟩ : ∃ q, q = W9.heap.size := ⟨_, rfl⟩
                  have HE10 : Hid (NumE W10 0 Q2 ((M / 2 : Nat) : Int)) := hid (by rw [hW10, hQ2]; exact NumE.new HV9.out)
                  have HRP10 : Hid (RowAt W10 P 87 [.int .i64 sg, .int .i64 (tb : Int), .int .u64 (c : Int), .bool false, .bool false, .int .i64 0, .int .u64 0, .int .i64 (dn : Int)]) := hid (by rw [hW10]; exact RowAt.alloc HRP9.out _)
                  have HK10 : Hid (Keeps (fun _ => False) W2 W10) := hid (by rw [hW10]; exact HK9.out.alloc _)
                  have HQ2 : Hid (W2.heap.size ≤ Q2 ∧ Q2 ≠ P) := hid ⟨by rw [hQ2]; exact HK9.out.size, by have := RowAt.lt HRP9.out; omega⟩
                  rw [← hW10, ← hQ2]
                  clear hW10 hQ2 b0 b1
                  have hp2 := HRP10.out.cell 2; have hpf := HRP10.out.frozen 2
                  simp only [List.getElem?_cons_zero, List.getElem?_cons_succ] at hp2
                  have hcb : c < 999 := by
                    have h1 : 2 ^ c ≤ x.natAbs := by rw [HM.out]; exact Nat.le_mul_of_pos_right _ (Nat.pos_of_ne_zero H0.out)
                    exact tz_small h1 HXL.out
                  have gw : IntKind.u64.wrap ((c : Int) + 1) = ((c + 1 : Nat) : Int) := by rw [IntKind.wrap_u64]; omega
                  go_wp2_with fail
                  have hrow := HRP10.out.set 2 (.int .u64 ((c + 1 : Nat) : Int))
                  have hE2 := NumE.set87 HE10.out HRP10.out (Ne.symm HQ2.out.2) 2 (.int .u64 ((c + 1 : Nat) : Int))
                  have hne : M / 2 ≠ 0 := by have := HOD.out; have := H0.out; omega
                  refine ⟨⟨c + 1, Q2, M / 2, rfl, ?_, fun h => absurd h hne, by omega, hE2, by simpa using hrow, HK10.out.setCell _ (.inr HPW.out) _, HQ2.out.1, HQ2.out.2⟩, ?_⟩
                  · rw [HM.out, Nat.pow_succ, Nat.mul_assoc]; congr 1; have := HOD.out; omega
                  · show (zOf _ Q2).toNat < (zOf wr Q).toNat
                    have hE3 : NumE (W10.setCell ⟨P, 2, none⟩ (.int .u64 ((c : Int) + 1))) 0 Q2 ((M / 2 : Nat) : Int) := hE2
                    rw [zOf_eq hE3, zOf_eq HEr.out]
                    have := H0.out
                    omega
                · rw [show decide (((M % 2 : Nat) : Int) = 0) = false by simp; omega] at HZ9
                  have HOD := hid hodd
                  clear hodd
                  go_wp2_with fail
                  refine HZ9.out.mono ?_
                  rintro e w8 ⟨rfl, hk⟩
                  have HK8 := hid (HKc.out.trans hk)
                  clear b0 b1 hk HZ9
                  go_wp2_with fail
                  go_meet
                  case rel => exact ⟨c, .inr ⟨M / 2, by have h := HM.out; have h2 := HOD.out; rw [h]; congr 1; omega⟩, HK8.out.row HRz.out (fun h => h), HKz.out.trans HK8.out⟩
        case rest =>
          obtain ⟨c, hz, hrow, hk⟩ := hcut
          have hck := HTK.out.unique hz
          subst hck
          have HRl := hid hrow; have HKl := hid hk
          obtain ⟨b0, b1⟩ := HS7.out wc hk
          clear hz hrow hk
          obtain ⟨s1, hs1⟩ : ∃ s, s = if isI64 x = true then x else 0 := ⟨_, rfl⟩
          obtain ⟨s2, hs2⟩ : ∃ s, s = if isU64 x = true then x else 0 := ⟨_, rfl⟩
          have hl4 : (digs x.natAbs).length ≤ 40000 := Nat.le_trans (digs_len HXL.out) (by omega)
          have HSm : Hid (∀ W, Keeps (fun _ => False) W2 W → Calls Tryz.prog 61 #[.agg #[.bool n1, .slice a1 l1 c1]] W fun e w' => e = .returned (.tuple #[.int .i64 s1, .bool i6]) ∧ Keeps (fun _ => False) W w') := hid (fun W hk => by
            refine (small61 _ x 0 W (HB2.out.keep hk).v hl4).mono ?_
            rintro e w' ⟨he, hk'⟩
            refine ⟨?_, hk'⟩
            rw [he, hs1, HI6.out]
            cases isI64 x <;> rfl)
          have HUn : Hid (∀ W, Keeps (fun _ => False) W2 W → Calls Tryz.prog 62 #[.agg #[.bool n1, .slice a1 l1 c1]] W fun e w' => e = .returned (.tuple #[.int .u64 s2, .bool u6]) ∧ Keeps (fun _ => False) W w') := hid (fun W hk => by
            refine (unsigned62 _ x 0 W (HB2.out.keep hk).v hl4).mono ?_
            rintro e w' ⟨he, hk'⟩
            refine ⟨?_, hk'⟩
            rw [he, hs2, HU6.out]
            cases isU64 x <;> rfl)
          have hq1 : i6 = true → s1 = q1 := fun h => by
            have h2 : isI64 x = true := by rw [← HI6.out]; exact h
            rw [hs1, if_pos h2, HTQ1.out h2]
          have hq2 : u6 = true → s2 = q2 := fun h => by
            have h2 : isU64 x = true := by rw [← HU6.out]; exact h
            rw [hs2, if_pos h2, HTQ2.out h2]
          have HQ1 := hid hq1; have HQ2 := hid hq2
          clear hs1 hs2 hl4 hq1 hq2
          go_wp2_with fail
          refine (HSm.out wc HKl.out).mono ?_
          rintro e w8 ⟨rfl, hk8⟩
          have HK8 := hid (HKl.out.trans hk8)
          have hr8 := hk8.row HRl.out (fun h => h)
          have HR8 := hid hr8
          clear b0 b1 hk8 HSm
          have hc0 := hr8.cell 0; have hf0 := hr8.frozen 0; have hc1 := hr8.cell 1; have hf1 := hr8.frozen 1; have hc2 := hr8.cell 2; have hf2 := hr8.frozen 2; have hc3 := hr8.cell 3; have hf3 := hr8.frozen 3; have hc4 := hr8.cell 4; have hf4 := hr8.frozen 4; have hc5 := hr8.cell 5; have hf5 := hr8.frozen 5; have hc6 := hr8.cell 6; have hf6 := hr8.frozen 6; have hc7 := hr8.cell 7; have hf7 := hr8.frozen 7; simp only [List.getElem?_cons_zero, List.getElem?_cons_succ] at hc0 hc1 hc2 hc3 hc4 hc5 hc6 hc7
          clear hr8
          go_upto_region 17 with fail
          clear hc0 hf0 hc1 hf1 hc2 hf2 hc3 hf3 hc4 hf4 hc5 hf5 hc6 hf6 hc7 hf7
          obtain ⟨W9, hW9⟩ : ∃ W, W = (w8.setCell ⟨P, 5, none⟩ (.int .i64 s1)).setCell ⟨P, 3, none⟩ (.bool i6) := ⟨_, rfl⟩
          have HR9 : Hid (RowAt W9 P 87 [.int .i64 sg, .int .i64 (tb : Int), .int .u64 (tk : Int), .bool i6, .bool false, .int .i64 s1, .int .u64 0, .int .i64 (dn : Int)]) := hid (by rw [hW9]; simpa using (HR8.out.set 5 (.int .i64 s1)).set 3 (.bool i6))
          have HK9 : Hid (Keeps (fun _ => False) W2 W9) := hid (by rw [hW9]; exact (HK8.out.setCell _ (.inr HPW.out) _).setCell _ (.inr HPW.out) _)
          rw [← hW9]
          clear hW9
          obtain ⟨b0, b1⟩ := HS7.out W9 HK9.out
          go_wp2_with fail
          refine (HUn.out W9 HK9.out).mono ?_
          rintro e w10 ⟨rfl, hk10⟩
          have HK10 := hid (HK9.out.trans hk10)
          have hr10 := hk10.row HR9.out (fun h => h)
          have HR10 := hid hr10
          clear b0 b1 hk10 HUn
          have hc0 := hr10.cell 0; have hf0 := hr10.frozen 0; have hc1 := hr10.cell 1; have hf1 := hr10.frozen 1; have hc2 := hr10.cell 2; have hf2 := hr10.frozen 2; have hc3 := hr10.cell 3; have hf3 := hr10.frozen 3; have hc4 := hr10.cell 4; have hf4 := hr10.frozen 4; have hc5 := hr10.cell 5; have hf5 := hr10.frozen 5; have hc6 := hr10.cell 6; have hf6 := hr10.frozen 6; have hc7 := hr10.cell 7; have hf7 := hr10.frozen 7; simp only [List.getElem?_cons_zero, List.getElem?_cons_succ] at hc0 hc1 hc2 hc3 hc4 hc5 hc6 hc7
          clear hr10
          go_upto_region 18 with fail
          clear hc0 hf0 hc1 hf1 hc2 hf2 hc3 hf3 hc4 hf4 hc5 hf5 hc6 hf6 hc7 hf7
          obtain ⟨W11, hW11⟩ : ∃ W, W = (w10.setCell ⟨P, 6, none⟩ (.int .u64 s2)).setCell ⟨P, 4, none⟩ (.bool u6) := ⟨_, rfl⟩
          have HR11 : Hid (RowAt W11 P 87 [.int .i64 sg, .int .i64 (tb : Int), .int .u64 (tk : Int), .bool i6, .bool u6, .int .i64 s1, .int .u64 s2, .int .i64 (dn : Int)]) := hid (by rw [hW11]; simpa using (HR10.out.set 6 (.int .u64 s2)).set 4 (.bool u6))
          have HK11 : Hid (Keeps (fun _ => False) W2 W11) := hid (by rw [hW11]; exact (HK10.out.setCell _ (.inr HPW.out) _).setCell _ (.inr HPW.out) _)
          rw [← hW11]
          clear hW11
          cases i6 with
          | true =>
            have hs := (HQ1.out rfl).symm
            subst hs
            obtain ⟨W12, rfl⟩ : ∃ W : World, W = W11 := ⟨_, rfl⟩
            have hr11 := HR11.out
            have hc0 := hr11.cell 0; have hf0 := hr11.frozen 0; have hc1 := hr11.cell 1; have hf1 := hr11.frozen 1; have hc2 := hr11.cell 2; have hf2 := hr11.frozen 2; have hc3 := hr11.cell 3; have hf3 := hr11.frozen 3; have hc4 := hr11.cell 4; have hf4 := hr11.frozen 4; have hc5 := hr11.cell 5; have hf5 := hr11.frozen 5; have hc6 := hr11.cell 6; have hf6 := hr11.frozen 6; have hc7 := hr11.cell 7; have hf7 := hr11.frozen 7; simp only [List.getElem?_cons_zero, List.getElem?_cons_succ] at hc0 hc1 hc2 hc3 hc4 hc5 hc6 hc7
            clear hr11
            go_upto_region 20 with fail
            clear hc0 hf0 hc1 hf1 hc2 hf2 hc3 hf3 hc4 hf4 hc5 hf5 hc6 hf6 hc7 hf7
            have HR12 := HR11; have HK12 := HK11
            cases u6 with
            | true =>
              have hs := (HQ2.out rfl).symm
              subst hs
              have hr12 := HR12.out
              have hc0 := hr12.cell 0; have hf0 := hr12.frozen 0; have hc1 := hr12.cell 1; have hf1 := hr12.frozen 1; have hc2 := hr12.cell 2; have hf2 := hr12.frozen 2; have hc3 := hr12.cell 3; have hf3 := hr12.frozen 3; have hc4 := hr12.cell 4; have hf4 := hr12.frozen 4; have hc5 := hr12.cell 5; have hf5 := hr12.frozen 5; have hc6 := hr12.cell 6; have hf6 := hr12.frozen 6; have hc7 := hr12.cell 7; have hf7 := hr12.frozen 7; simp only [List.getElem?_cons_zero, List.getElem?_cons_succ] at hc0 hc1 hc2 hc3 hc4 hc5 hc6 hc7
              clear hr12
              go_upto_region 22 with fail
              clear hc0 hf0 hc1 hf1 hc2 hf2 hc3 hf3 hc4 hf4 hc5 hf5 hc6 hf6 hc7 hf7
              have HR13 := HR12; have HK13 := HK12
              have HA := hid (HAl.out _ (HKW2.out.trans HK13.out))
              go_wp2_with fail
              refine HA.out.mono ?_
              rintro e wg ⟨rfl, hkg⟩
              have hra := hkg.row HR13.out (fun h => h)
              have hrb := (HK13.out.trans hkg).row HR2.out (fun h => h)
              have HKG := hid (HK13.out.trans hkg)
              have ac0 := hra.cell 0; have af0 := hra.frozen 0; have ac1 := hra.cell 1; have af1 := hra.frozen 1; have ac2 := hra.cell 2; have af2 := hra.frozen 2; have ac3 := hra.cell 3; have af3 := hra.frozen 3; have ac4 := hra.cell 4; have af4 := hra.frozen 4; have ac5 := hra.cell 5; have af5 := hra.frozen 5; have ac6 := hra.cell 6; have af6 := hra.frozen 6; have ac7 := hra.cell 7; have af7 := hra.frozen 7; simp only [List.getElem?_cons_zero, List.getElem?_cons_succ] at ac0 ac1 ac2 ac3 ac4 ac5 ac6 ac7
              have dc0 := hrb.cell 0; have df0 := hrb.frozen 0; have dc1 := hrb.cell 1; have df1 := hrb.frozen 1; have dc2 := hrb.cell 2; have df2 := hrb.frozen 2; have dc3 := hrb.cell 3; have df3 := hrb.frozen 3; have dc4 := hrb.cell 4; have df4 := hrb.frozen 4; have dc5 := hrb.cell 5; have df5 := hrb.frozen 5; have dc6 := hrb.cell 6; have df6 := hrb.frozen 6; have dc7 := hrb.cell 7; have df7 := hrb.frozen 7; simp only [List.getElem?_cons_zero, List.getElem?_cons_succ] at dc0 dc1 dc2 dc3 dc4 dc5 dc6 dc7
              clear hra hrb hkg HA
              go_wp2_with fail
              go_ret
              exact ⟨rfl, (HKW.out.trans HKW2.out).trans HKG.out⟩
            | false =>
              have hr12 := HR12.out
              have hrd := HK12.out.row HR2.out (fun h => h)
              have hc0 := hr12.cell 0; have hf0 := hr12.frozen 0; have hc1 := hr12.cell 1; have hf1 := hr12.frozen 1; have hc2 := hr12.cell 2; have hf2 := hr12.frozen 2; have hc3 := hr12.cell 3; have hf3 := hr12.frozen 3; have hc4 := hr12.cell 4; have hf4 := hr12.frozen 4; have hc5 := hr12.cell 5; have hf5 := hr12.frozen 5; have hc6 := hr12.cell 6; have hf6 := hr12.frozen 6; have hc7 := hr12.cell 7; have hf7 := hr12.frozen 7; simp only [List.getElem?_cons_zero, List.getElem?_cons_succ] at hc0 hc1 hc2 hc3 hc4 hc5 hc6 hc7
              have kc0 := hrd.cell 0; have kf0 := hrd.frozen 0; have kc1 := hrd.cell 1; have kf1 := hrd.frozen 1; have kc2 := hrd.cell 2; have kf2 := hrd.frozen 2; have kc3 := hrd.cell 3; have kf3 := hrd.frozen 3; have kc4 := hrd.cell 4; have kf4 := hrd.frozen 4; have kc5 := hrd.cell 5; have kf5 := hrd.frozen 5; have kc6 := hrd.cell 6; have kf6 := hrd.frozen 6; have kc7 := hrd.cell 7; have kf7 := hrd.frozen 7; simp only [List.getElem?_cons_zero, List.getElem?_cons_succ] at kc0 kc1 kc2 kc3 kc4 kc5 kc6 kc7
              clear hr12 hrd
              go_upto_region 22 with fail
              clear hc0 hf0 hc1 hf1 hc2 hf2 hc3 hf3 hc4 hf4 hc5 hf5 hc6 hf6 hc7 hf7
              clear kc0 kf0 kc1 kf1 kc2 kf2 kc3 kf3 kc4 kf4 kc5 kf5 kc6 kf6 kc7 kf7
              obtain ⟨W13, hW13⟩ : ∃ W, W = W12.setCell ⟨P, 6, none⟩ (.int .u64 q2) := ⟨_, rfl⟩
              have HR13 : Hid (RowAt W13 P 87 [.int .i64 sg, .int .i64 (tb : Int), .int .u64 (tk : Int), .bool true, .bool false, .int .i64 q1, .int .u64 q2, .int .i64 (dn : Int)]) := hid (by rw [hW13]; simpa using HR12.out.set 6 (.int .u64 q2))
              have HK13 : Hid (Keeps (fun _ => False) W2 W13) := hid (by rw [hW13]; exact HK12.out.setCell _ (.inr HPW.out) _)
              rw [← hW13]
              clear hW13
              have HA := hid (HAl.out _ (HKW2.out.trans HK13.out))
              go_wp2_with fail
              refine HA.out.mono ?_
              rintro e wg ⟨rfl, hkg⟩
              have hra := hkg.row HR13.out (fun h => h)
              have hrb := (HK13.out.trans hkg).row HR2.out (fun h => h)
              have HKG := hid (HK13.out.trans hkg)
              have ac0 := hra.cell 0; have af0 := hra.frozen 0; have ac1 := hra.cell 1; have af1 := hra.frozen 1; have ac2 := hra.cell 2; have af2 := hra.frozen 2; have ac3 := hra.cell 3; have af3 := hra.frozen 3; have ac4 := hra.cell 4; have af4 := hra.frozen 4; have ac5 := hra.cell 5; have af5 := hra.frozen 5; have ac6 := hra.cell 6; have af6 := hra.frozen 6; have ac7 := hra.cell 7; have af7 := hra.frozen 7; simp only [List.getElem?_cons_zero, List.getElem?_cons_succ] at ac0 ac1 ac2 ac3 ac4 ac5 ac6 ac7
              have dc0 := hrb.cell 0; have df0 := hrb.frozen 0; have dc1 := hrb.cell 1; have df1 := hrb.frozen 1; have dc2 := hrb.cell 2; have df2 := hrb.frozen 2; have dc3 := hrb.cell 3; have df3 := hrb.frozen 3; have dc4 := hrb.cell 4; have df4 := hrb.frozen 4; have dc5 := hrb.cell 5; have df5 := hrb.frozen 5; have dc6 := hrb.cell 6; have df6 := hrb.frozen 6; have dc7 := hrb.cell 7; have df7 := hrb.frozen 7; simp only [List.getElem?_cons_zero, List.getElem?_cons_succ] at dc0 dc1 dc2 dc3 dc4 dc5 dc6 dc7
              clear hra hrb hkg HA
              go_wp2_with fail
              go_ret
              exact ⟨rfl, (HKW.out.trans HKW2.out).trans HKG.out⟩
          | false =>
            have hr11 := HR11.out
            have hrd := HK11.out.row HR2.out (fun h => h)
            have hc0 := hr11.cell 0; have hf0 := hr11.frozen 0; have hc1 := hr11.cell 1; have hf1 := hr11.frozen 1; have hc2 := hr11.cell 2; have hf2 := hr11.frozen 2; have hc3 := hr11.cell 3; have hf3 := hr11.frozen 3; have hc4 := hr11.cell 4; have hf4 := hr11.frozen 4; have hc5 := hr11.cell 5; have hf5 := hr11.frozen 5; have hc6 := hr11.cell 6; have hf6 := hr11.frozen 6; have hc7 := hr11.cell 7; have hf7 := hr11.frozen 7; simp only [List.getElem?_cons_zero, List.getElem?_cons_succ] at hc0 hc1 hc2 hc3 hc4 hc5 hc6 hc7
            have kc0 := hrd.cell 0; have kf0 := hrd.frozen 0; have kc1 := hrd.cell 1; have kf1 := hrd.frozen 1; have kc2 := hrd.cell 2; have kf2 := hrd.frozen 2; have kc3 := hrd.cell 3; have kf3 := hrd.frozen 3; have kc4 := hrd.cell 4; have kf4 := hrd.frozen 4; have kc5 := hrd.cell 5; have kf5 := hrd.frozen 5; have kc6 := hrd.cell 6; have kf6 := hrd.frozen 6; have kc7 := hrd.cell 7; have kf7 := hrd.frozen 7; simp only [List.getElem?_cons_zero, List.getElem?_cons_succ] at kc0 kc1 kc2 kc3 kc4 kc5 kc6 kc7
            clear hr11 hrd
            go_upto_region 20 with fail
            clear hc0 hf0 hc1 hf1 hc2 hf2 hc3 hf3 hc4 hf4 hc5 hf5 hc6 hf6 hc7 hf7
            clear kc0 kf0 kc1 kf1 kc2 kf2 kc3 kf3 kc4 kf4 kc5 kf5 kc6 kf6 kc7 kf7
            obtain ⟨W12, hW12⟩ : ∃ W, W = W11.setCell ⟨P, 5, none⟩ (.int .i64 q1) := ⟨_, rfl⟩
            have HR12 : Hid (RowAt W12 P 87 [.int .i64 sg, .int .i64 (tb : Int), .int .u64 (tk : Int), .bool false, .bool u6, .int .i64 q1, .int .u64 s2, .int .i64 (dn : Int)]) := hid (by rw [hW12]; simpa using HR11.out.set 5 (.int .i64 q1))
            have HK12 : Hid (Keeps (fun _ => False) W2 W12) := hid (by rw [hW12]; exact HK11.out.setCell _ (.inr HPW.out) _)
            rw [← hW12]
            clear hW12
            cases u6 with
            | true =>
              have hs := (HQ2.out rfl).symm
              subst hs
              have hr12 := HR12.out
              have hc0 := hr12.cell 0; have hf0 := hr12.frozen 0; have hc1 := hr12.cell 1; have hf1 := hr12.frozen 1; have hc2 := hr12.cell 2; have hf2 := hr12.frozen 2; have hc3 := hr12.cell 3; have hf3 := hr12.frozen 3; have hc4 := hr12.cell 4; have hf4 := hr12.frozen 4; have hc5 := hr12.cell 5; have hf5 := hr12.frozen 5; have hc6 := hr12.cell 6; have hf6 := hr12.frozen 6; have hc7 := hr12.cell 7; have hf7 := hr12.frozen 7; simp only [List.getElem?_cons_zero, List.getElem?_cons_succ] at hc0 hc1 hc2 hc3 hc4 hc5 hc6 hc7
              clear hr12
              go_upto_region 22 with fail
              clear hc0 hf0 hc1 hf1 hc2 hf2 hc3 hf3 hc4 hf4 hc5 hf5 hc6 hf6 hc7 hf7
              have HR13 := HR12; have HK13 := HK12
              have HA := hid (HAl.out _ (HKW2.out.trans HK13.out))
              go_wp2_with fail
              refine HA.out.mono ?_
              rintro e wg ⟨rfl, hkg⟩
              have hra := hkg.row HR13.out (fun h => h)
              have hrb := (HK13.out.trans hkg).row HR2.out (fun h => h)
              have HKG := hid (HK13.out.trans hkg)
              have ac0 := hra.cell 0; have af0 := hra.frozen 0; have ac1 := hra.cell 1; have af1 := hra.frozen 1; have ac2 := hra.cell 2; have af2 := hra.frozen 2; have ac3 := hra.cell 3; have af3 := hra.frozen 3; have ac4 := hra.cell 4; have af4 := hra.frozen 4; have ac5 := hra.cell 5; have af5 := hra.frozen 5; have ac6 := hra.cell 6; have af6 := hra.frozen 6; have ac7 := hra.cell 7; have af7 := hra.frozen 7; simp only [List.getElem?_cons_zero, List.getElem?_cons_succ] at ac0 ac1 ac2 ac3 ac4 ac5 ac6 ac7
              have dc0 := hrb.cell 0; have df0 := hrb.frozen 0; have dc1 := hrb.cell 1; have df1 := hrb.frozen 1; have dc2 := hrb.cell 2; have df2 := hrb.frozen 2; have dc3 := hrb.cell 3; have df3 := hrb.frozen 3; have dc4 := hrb.cell 4; have df4 := hrb.frozen 4; have dc5 := hrb.cell 5; have df5 := hrb.frozen 5; have dc6 := hrb.cell 6; have df6 := hrb.frozen 6; have dc7 := hrb.cell 7; have df7 := hrb.frozen 7; simp only [List.getElem?_cons_zero, List.getElem?_cons_succ] at dc0 dc1 dc2 dc3 dc4 dc5 dc6 dc7
              clear hra hrb hkg HA
              go_wp2_with fail
              go_ret
              exact ⟨rfl, (HKW.out.trans HKW2.out).trans HKG.out⟩
            | false =>
              have hr12 := HR12.out
              have hrd := HK12.out.row HR2.out (fun h => h)
              have hc0 := hr12.cell 0; have hf0 := hr12.frozen 0; have hc1 := hr12.cell 1; have hf1 := hr12.frozen 1; have hc2 := hr12.cell 2; have hf2 := hr12.frozen 2; have hc3 := hr12.cell 3; have hf3 := hr12.frozen 3; have hc4 := hr12.cell 4; have hf4 := hr12.frozen 4; have hc5 := hr12.cell 5; have hf5 := hr12.frozen 5; have hc6 := hr12.cell 6; have hf6 := hr12.frozen 6; have hc7 := hr12.cell 7; have hf7 := hr12.frozen 7; simp only [List.getElem?_cons_zero, List.getElem?_cons_succ] at hc0 hc1 hc2 hc3 hc4 hc5 hc6 hc7
              have kc0 := hrd.cell 0; have kf0 := hrd.frozen 0; have kc1 := hrd.cell 1; have kf1 := hrd.frozen 1; have kc2 := hrd.cell 2; have kf2 := hrd.frozen 2; have kc3 := hrd.cell 3; have kf3 := hrd.frozen 3; have kc4 := hrd.cell 4; have kf4 := hrd.frozen 4; have kc5 := hrd.cell 5; have kf5 := hrd.frozen 5; have kc6 := hrd.cell 6; have kf6 := hrd.frozen 6; have kc7 := hrd.cell 7; have kf7 := hrd.frozen 7; simp only [List.getElem?_cons_zero, List.getElem?_cons_succ] at kc0 kc1 kc2 kc3 kc4 kc5 kc6 kc7
              clear hr12 hrd
              go_upto_region 22 with fail
              clear hc0 hf0 hc1 hf1 hc2 hf2 hc3 hf3 hc4 hf4 hc5 hf5 hc6 hf6 hc7 hf7
              clear kc0 kf0 kc1 kf1 kc2 kf2 kc3 kf3 kc4 kf4 kc5 kf5 kc6 kf6 kc7 kf7
              obtain ⟨W13, hW13⟩ : ∃ W, W = W12.setCell ⟨P, 6, none⟩ (.int .u64 q2) := ⟨_, rfl⟩
              have HR13 : Hid (RowAt W13 P 87 [.int .i64 sg, .int .i64 (tb : Int), .int .u64 (tk : Int), .bool false, .bool false, .int .i64 q1, .int .u64 q2, .int .i64 (dn : Int)]) := hid (by rw [hW13]; simpa using HR12.out.set 6 (.int .u64 q2))
              have HK13 : Hid (Keeps (fun _ => False) W2 W13) := hid (by rw [hW13]; exact HK12.out.setCell _ (.inr HPW.out) _)
              rw [← hW13]
              clear hW13
              have HA := hid (HAl.out _ (HKW2.out.trans HK13.out))
              go_wp2_with fail
              refine HA.out.mono ?_
              rintro e wg ⟨rfl, hkg⟩
              have hra := hkg.row HR13.out (fun h => h)
              have hrb := (HK13.out.trans hkg).row HR2.out (fun h => h)
              have HKG := hid (HK13.out.trans hkg)
              have ac0 := hra.cell 0; have af0 := hra.frozen 0; have ac1 := hra.cell 1; have af1 := hra.frozen 1; have ac2 := hra.cell 2; have af2 := hra.frozen 2; have ac3 := hra.cell 3; have af3 := hra.frozen 3; have ac4 := hra.cell 4; have af4 := hra.frozen 4; have ac5 := hra.cell 5; have af5 := hra.frozen 5; have ac6 := hra.cell 6; have af6 := hra.frozen 6; have ac7 := hra.cell 7; have af7 := hra.frozen 7; simp only [List.getElem?_cons_zero, List.getElem?_cons_succ] at ac0 ac1 ac2 ac3 ac4 ac5 ac6 ac7
              have dc0 := hrb.cell 0; have df0 := hrb.frozen 0; have dc1 := hrb.cell 1; have df1 := hrb.frozen 1; have dc2 := hrb.cell 2; have df2 := hrb.frozen 2; have dc3 := hrb.cell 3; have df3 := hrb.frozen 3; have dc4 := hrb.cell 4; have df4 := hrb.frozen 4; have dc5 := hrb.cell 5; have df5 := hrb.frozen 5; have dc6 := hrb.cell 6; have df6 := hrb.frozen 6; have dc7 := hrb.cell 7; have df7 := hrb.frozen 7; simp only [List.getElem?_cons_zero, List.getElem?_cons_succ] at dc0 dc1 dc2 dc3 dc4 dc5 dc6 dc7
              clear hra hrb hkg HA
              go_wp2_with fail
              go_ret
              exact ⟨rfl, (HKW.out.trans HKW2.out).trans HKG.out⟩
    · go_wp2_with fail
      have hk := (HK1.out.alloc (.cells #[.bool n1, .slice a1 l1 c1] 24))
      have HKK := hid hk
      have HG2 := hid (HG.out.keep hk (fun _ _ h => h))
      clear hk
      refine (bigAlive_true _ HG2.out).mono ?_
      rintro e w9 ⟨rfl, hk9⟩
      have HK9 := hid hk9
      clear hk9
      go_wp2_with fail
      go_ret
      exact ⟨rfl, HKK.out.trans HK9.out⟩
  · go_enter Tryz.func17, Tryz.ntmps17
    go_wp2_with fail
    go_ret
    exact ⟨rfl, Keeps.refl _ _⟩
end Go.Proofs
