/- Parts of the proofs over the numbers of any length: Zof, Small, Bits60. -/
import Derived.Deep.RegionHeld3
import Derived.Test.YtacbllkmcldniaaGreatDoorOneD
import Derived.Test.YtacbllkmcldniaaGreatDoorSpecA
import Derived.Test.YtacbllkmcldniaaGreatDoorTellB
import Derived.Test.YtacbllkmcldniaaGreatDoorSpecB
import Derived.Test.YtacbllkmcldniaaGreatDoorSpecD
set_option linter.unusedSimpArgs false
set_option linter.unusedVariables false
namespace Go.Proofs
open Go.RowKit
set_option maxHeartbeats 400000
set_option linter.unusedVariables false
set_option linter.unusedSimpArgs false
set_option maxRecDepth 100000

theorem NumV.get {w : World} {b : Nat} {n : Bool} {a : Option Addr} {l c : Nat} {z : Int} (h : NumV w b (.agg #[.bool n, .slice a l c]) z) : RdV w a c (digs z.natAbs) ∧ (∀ k, InB a k → b ≤ k) ∧ l = (digs z.natAbs).length ∧ n = decide (z < 0) := by
  obtain ⟨a', c', he, g1, g2⟩ := h
  simp only [Value.agg.injEq, Array.mk.injEq, List.cons.injEq, Value.bool.injEq, Value.slice.injEq, and_true] at he
  obtain ⟨e1, e2, e3, e4⟩ := he
  subst e2; subst e4
  exact ⟨g1, g2, e3, e1⟩
theorem RdV.inj {w : World} {a : Option Addr} {c : Nat} {L M : List Nat} (h : RdV w a c L) (k : RdV w a c M) (hl : L.length = M.length) : L = M := by
  rcases h.2.2 with rfl | ⟨b, rfl, hc⟩
  · exact (List.length_eq_zero_iff.1 hl.symm).symm
  · rcases k.2.2 with rfl | ⟨b', he, kc⟩
    · exact List.length_eq_zero_iff.1 hl
    · cases he
      apply List.ext_getElem hl
      intro i h1 h2
      have := (hc i h1).symm.trans (kc i h2)
      simp only [Option.some.injEq, Value.int.injEq, true_and] at this
      simp only [List.getD_eq_getElem?_getD, List.getElem?_eq_getElem h1, List.getElem?_eq_getElem h2, Option.getD_some] at this
      omega
theorem NumV.inj {w : World} {b b' : Nat} {v : Value} {z z' : Int} (h : NumV w b v z) (k : NumV w b' v z') : z = z' := by
  obtain ⟨a, c, rfl, h2, _⟩ := h
  obtain ⟨a', c', he, k2, _⟩ := k
  simp only [Value.agg.injEq, Array.mk.injEq, List.cons.injEq, Value.bool.injEq, Value.slice.injEq, and_true] at he
  obtain ⟨e1, rfl, e3, rfl⟩ := he
  have e4 := digs_inj (RdV.inj h2 k2 e3)
  have e5 : (z < 0) ↔ (z' < 0) := by simpa using e1
  omega
/-- The number that a variable holds. -/
def NumP (w : World) (p : Nat) (z : Int) : Prop := ∃ b, NumE w b p z
theorem NumP.inj {w : World} {p : Nat} {z z' : Int} (h : NumP w p z) (k : NumP w p z') : z = z' := by
  obtain ⟨b, n, a, l, c, h1, h2⟩ := h
  obtain ⟨b', n', a', l', c', k1, k2⟩ := k
  have e0 := (h1.cell 0).symm.trans (k1.cell 0)
  have e1 := (h1.cell 1).symm.trans (k1.cell 1)
  simp only [List.getElem?_cons_zero, List.getElem?_cons_succ, Option.some.injEq, Value.bool.injEq, Value.slice.injEq] at e0 e1
  subst e0
  obtain ⟨rfl, rfl, rfl⟩ := e1
  exact h2.inj k2
noncomputable def zOf (w : World) (p : Nat) : Int := by
  classical exact if h : ∃ z, NumP w p z then Classical.choose h else 0
theorem zOf_eq {w : World} {b p : Nat} {z : Int} (h : NumE w b p z) : zOf w p = z := by
  unfold zOf
  have hx : ∃ z, NumP w p z := ⟨z, b, h⟩
  rw [dif_pos hx]
  exact (Classical.choose_spec hx).inj ⟨b, h⟩
theorem cmp30_z (vx vy : Value) (x y : Int) (bx b' : Nat) (w : World) (hx : NumV w bx vx x) (hy : NumV w b' vy y) (hlx : (digs x.natAbs).length ≤ 40000) (hly : (digs y.natAbs).length ≤ 40000) :
    Calls Tryz.prog 30 #[vx, vy] w fun e w' => e = .returned (.int .i64 (cmpZ x y)) ∧ Keeps (fun _ => False) w w' := by
  obtain ⟨a, c, rfl, hr, _⟩ := hx
  obtain ⟨a', c', rfl, hr', _⟩ := hy
  have := cmp30_any (decide (x < 0)) (decide (y < 0)) a a' c c' _ _ w hr hr' (by omega) (by omega)
  rwa [cmpN_z] at this
theorem cmp_eq0 (x y : Nat) : ((cmpZ (x : Int) (y : Int)) == 0) = decide (x = y) := by
  unfold cmpZ
  by_cases h : x = y
  · subst h; simp
  · rcases Nat.lt_or_ge x y with h1 | h1
    · rw [if_pos (by omega)]; simp [h]
    · rw [if_neg (by omega), if_pos (by omega)]; simp [h]
theorem cmp_le0 (x y : Nat) : decide ((cmpZ (x : Int) (y : Int)) ≤ 0) = decide (x ≤ y) := by
  unfold cmpZ
  by_cases h : x < y
  · rw [if_pos (by omega)]
    have : x ≤ y := by omega
    simp [this]
  · by_cases h2 : y < x
    · rw [if_neg (by omega), if_pos (by omega)]
      have : ¬ x ≤ y := by omega
      simp [this]
    · rw [if_neg (by omega), if_neg (by omega)]
      have : x ≤ y := by omega
      simp [this]
end Go.Proofs
namespace Go.Proofs
open Go.RowKit
set_option maxHeartbeats 4000000
set_option linter.unusedVariables false
set_option linter.unusedSimpArgs false
set_option maxRecDepth 100000

theorem cmp_lt0 (x y : Int) : decide (cmpZ x y < 0) = decide (x < y) := by
  unfold cmpZ
  by_cases h : x < y
  · rw [if_pos h]; simp [h]
  · rw [if_neg h]
    by_cases h2 : y < x
    · rw [if_pos h2]; simp [h]
    · rw [if_neg h2]; simp [h]
theorem cmp_gt0 (x y : Int) : decide (0 < cmpZ x y) = decide (y < x) := by
  unfold cmpZ
  by_cases h : x < y
  · rw [if_pos h]
    have : ¬ y < x := by omega
    simp [this]
  · rw [if_neg h]
    by_cases h2 : y < x
    · rw [if_pos h2]; simp [h2]
    · rw [if_neg h2]; simp [h2]
theorem dig_step (N j : Nat) : 10 * (N / 10 ^ (j + 1)) + N / 10 ^ j % 10 = N / 10 ^ j := by
  rw [Nat.pow_succ, ← Nat.div_div_eq_div_mul]
  omega
theorem sm_neg (A B d : Nat) (h : 10 * A + d = B) (hd : d < 10) (hB : B ≤ 9223372036854775808) : wrap64 (10 * -(A : Int)) = -((10 * A : Nat) : Int) ∧ wrap64 (-((10 * A : Nat) : Int) - (d : Int)) = -(B : Int) ∧ IntKind.i64.wrap (d : Int) = (d : Int) ∧ wrap64 (-(10 * (A : Int)) - (d : Int)) = -(B : Int) ∧ wrap64 (d : Int) = (d : Int) ∧ wrap64 (wrap64 (10 * -(A : Int)) - (d : Int)) = -(B : Int) := by
  have h1 : wrap64 (10 * -(A : Int)) = -((10 * A : Nat) : Int) := by unfold wrap64; omega
  have h2 : wrap64 (-((10 * A : Nat) : Int) - (d : Int)) = -(B : Int) := by unfold wrap64; omega
  refine ⟨h1, h2, by rw [IntKind.wrap_i64]; omega, by unfold wrap64; omega, by unfold wrap64; omega, by rw [h1, h2]⟩
theorem sm_pos (A B d : Nat) (h : 10 * A + d = B) (hd : d < 10) (hB : B ≤ 9223372036854775807) : wrap64 (10 * (A : Int)) = ((10 * A : Nat) : Int) ∧ wrap64 (((10 * A : Nat) : Int) + (d : Int)) = (B : Int) ∧ IntKind.i64.wrap (d : Int) = (d : Int) ∧ wrap64 (10 * (A : Int) + (d : Int)) = (B : Int) ∧ wrap64 (d : Int) = (d : Int) ∧ wrap64 (wrap64 (10 * (A : Int)) + (d : Int)) = (B : Int) := by
  have h1 : wrap64 (10 * (A : Int)) = ((10 * A : Nat) : Int) := by unfold wrap64; omega
  have h2 : wrap64 (((10 * A : Nat) : Int) + (d : Int)) = (B : Int) := by unfold wrap64; omega
  refine ⟨h1, h2, by rw [IntKind.wrap_i64]; omega, by unfold wrap64; omega, by unfold wrap64; omega, by rw [h1, h2]⟩
theorem sm_uns (A B d : Nat) (h : 10 * A + d = B) (hd : d < 10) (hB : B ≤ 18446744073709551615) : IntKind.u64.wrap (10 * (A : Int)) = ((10 * A : Nat) : Int) ∧ IntKind.u64.wrap (((10 * A : Nat) : Int) + (d : Int)) = (B : Int) ∧ IntKind.u64.wrap (d : Int) = (d : Int) ∧ IntKind.u64.wrap (10 * (A : Int) + (d : Int)) = (B : Int) ∧ wrap64 (d : Int) = (d : Int) ∧ IntKind.u64.wrap (IntKind.u64.wrap (10 * (A : Int)) + (d : Int)) = (B : Int) := by
  have h1 : IntKind.u64.wrap (10 * (A : Int)) = ((10 * A : Nat) : Int) := by rw [IntKind.wrap_u64]; omega
  have h2 : IntKind.u64.wrap (((10 * A : Nat) : Int) + (d : Int)) = (B : Int) := by rw [IntKind.wrap_u64]; omega
  refine ⟨h1, h2, by rw [IntKind.wrap_u64]; omega, by rw [IntKind.wrap_u64]; omega, by unfold wrap64; omega, by rw [h1, h2]⟩
theorem dig_le (N j : Nat) : N / 10 ^ j ≤ N := Nat.div_le_self _ _

theorem small61 (vx : Value) (x : Int) (bx : Nat) (w : World) (hx : NumV w bx vx x) (hl : (digs x.natAbs).length ≤ 40000) :
    Calls Tryz.prog 61 #[vx] w fun e w' => (e = .returned (if isI64 x = true then .tuple #[.int .i64 x, .bool true] else .tuple #[.int .i64 0, .bool false])) ∧ Keeps (fun _ => False) w w' := by
  obtain ⟨a1, c1, rfl, hrd, hb1⟩ := hx
  obtain ⟨n1, hn1⟩ : ∃ n, n = decide (x < 0) := ⟨_, rfl⟩
  obtain ⟨l1, hl1⟩ : ∃ n, n = (digs x.natAbs).length := ⟨_, rfl⟩
  rw [← hn1, ← hl1]; rw [← hl1] at hl
  obtain ⟨w0, hw0⟩ : ∃ W, W = w.alloc (.cells #[.bool n1, .slice a1 l1 c1] 24) := ⟨_, rfl⟩
  obtain ⟨p, hp⟩ : ∃ p, p = w.heap.size := ⟨_, rfl⟩
  have hk0 : Keeps (fun _ => False) w w0 := by rw [hw0]; exact (Keeps.refl _ w).alloc _
  have hrx : RowAt w0 p 24 [.bool n1, .slice a1 l1 c1] := by rw [hw0, hp]; exact RowAt.new w 24 _
  have HV : Hid (∀ W, Keeps (fun _ => False) w0 W → NumV W 0 (.agg #[.bool n1, .slice a1 l1 c1]) x) := hid (fun W hk => by
    rw [hn1, hl1]; exact ⟨a1, c1, rfl, hrd.keep (hk0.trans hk) (fun _ _ h => h), fun _ _ => Nat.zero_le _⟩)
  have HRD : Hid (∀ W, Keeps (fun _ => False) w0 W → RdV W a1 c1 (digs x.natAbs)) := hid (fun W hk => hrd.keep (hk0.trans hk) (fun _ _ h => h))
  have HS : Hid (∀ W, Keeps (fun _ => False) w0 W → W.cell? ⟨p, 0, none⟩ = some (.bool n1) ∧ W.cell? ⟨p, 1, none⟩ = some (.slice a1 l1 c1)) := hid (fun W hk => ⟨(hk.row hrx (fun h => h)).cell 0, (hk.row hrx (fun h => h)).cell 1⟩)
  have HK0 := hid hk0; have HN1 := hid hn1; have HL1 := hid hl1; have HL := hid hl
  clear hk0 hrx hrd hb1
  have HO1 := hid (fun W => of33 (-9223372036854775808) W (by omega) (by omega))
  have HO2 := hid (fun W => of33 9223372036854775807 W (by omega) (by omega))
  obtain ⟨z1, hz1⟩ : ∃ c, c = cmpZ x (-9223372036854775808) := ⟨_, rfl⟩
  obtain ⟨z2, hz2⟩ : ∃ c, c = cmpZ x 9223372036854775807 := ⟨_, rfl⟩
  have HC1 : Hid (∀ W v b, NumV W b v (-9223372036854775808) → Keeps (fun _ => False) w0 W → Calls Tryz.prog 30 #[.agg #[.bool n1, .slice a1 l1 c1], v] W fun e w' => e = .returned (.int .i64 z1) ∧ Keeps (fun _ => False) W w') := hid (fun W v b h1 hk => by
    rw [hz1]; exact cmp30_z _ _ _ _ _ _ W (HV.out W hk) h1 (by rw [← HL1.out]; exact HL.out) (Nat.le_trans (digs_len (k := 19) (by decide)) (by omega)))
  have HC2 : Hid (∀ W v b, NumV W b v 9223372036854775807 → Keeps (fun _ => False) w0 W → Calls Tryz.prog 30 #[.agg #[.bool n1, .slice a1 l1 c1], v] W fun e w' => e = .returned (.int .i64 z2) ∧ Keeps (fun _ => False) W w') := hid (fun W v b h1 hk => by
    rw [hz2]; exact cmp30_z _ _ _ _ _ _ W (HV.out W hk) h1 (by rw [← HL1.out]; exact HL.out) (Nat.le_trans (digs_len (k := 19) (by decide)) (by omega)))
  by_cases h1 : x < -9223372036854775808
  · have t1 : z1 = -1 := by rw [hz1]; unfold cmpZ; rw [if_pos h1]
    subst t1
    have hw : isI64 x = false := by unfold isI64; simp; omega
    rw [if_neg (show ¬ isI64 x = true by rw [hw]; simp)]
    clear hz1 hz2 hw h1 hn1 hl1 hl
    go_enter Tryz.func61, Tryz.ntmps61
    go_upto_region 1 with fail
    rw [← hw0, ← hp]
    clear hw0 hp
    obtain ⟨x8, x9⟩ := HS.out w0 (Keeps.refl _ _)
    go_region_law (first
       | (go_simp; go_at_call 33; ((with_reducible refine (HO1.out _).mono ?_)); rintro e w1 ⟨v, rfl, hv, hk⟩; obtain ⟨n2, a2, l2, c2, rfl⟩ := hv.agg; have HV1 := hid hv; have K1 := hid (((Keeps.refl (fun _ => False) w0).drew).trans hk); obtain ⟨y0, y1⟩ := HS.out w1 K1.out; clear hv hk)
       | (go_simp; go_at_call 30; ((with_reducible refine (HC1.out _ _ _ HV1.out K1.out).mono ?_)); rintro e w2 ⟨rfl, hk⟩; have K2 := hid (K1.out.trans hk); obtain ⟨y2, y3⟩ := HS.out w2 K2.out; clear hk)
       | (go_simp; go_at_call 33; ((with_reducible refine (HO2.out _).mono ?_)); rintro e w3 ⟨v, rfl, hv, hk⟩; obtain ⟨n3, a3, l3, c3, rfl⟩ := hv.agg; have HV3 := hid hv; have K3 := hid (K2.out.trans hk); obtain ⟨y4, y5⟩ := HS.out w3 K3.out; clear hv hk)
       | (go_simp; go_at_call 30; ((with_reducible refine (HC2.out _ _ _ HV3.out K3.out).mono ?_)); rintro e w4 ⟨rfl, hk⟩; have K4 := hid (K3.out.trans hk); clear hk))
    all_goals
      go_wp2_with fail
      go_ret2
      exact ⟨rfl, HK0.out.trans K2.out⟩
  have t1 : z1 = 0 ∨ z1 = 1 := by
    rw [hz1]; unfold cmpZ; rw [if_neg h1]
    split
    · exact .inr rfl
    · exact .inl rfl
  by_cases h2 : 9223372036854775807 < x
  · have t2 : z2 = 1 := by rw [hz2]; unfold cmpZ; rw [if_neg (by omega), if_pos h2]
    subst t2
    have hw : isI64 x = false := by unfold isI64; simp; omega
    rw [if_neg (show ¬ isI64 x = true by rw [hw]; simp)]
    clear hz1 hz2 hw h1 h2 hn1 hl1 hl
    rcases t1 with rfl | rfl
    all_goals
      go_enter Tryz.func61, Tryz.ntmps61
      go_upto_region 1 with fail
      rw [← hw0, ← hp]
      clear hw0 hp
      obtain ⟨x8, x9⟩ := HS.out w0 (Keeps.refl _ _)
      go_region_law (first
         | (go_simp; go_at_call 33; ((with_reducible refine (HO1.out _).mono ?_)); rintro e w1 ⟨v, rfl, hv, hk⟩; obtain ⟨n2, a2, l2, c2, rfl⟩ := hv.agg; have HV1 := hid hv; have K1 := hid (((Keeps.refl (fun _ => False) w0).drew).trans hk); obtain ⟨y0, y1⟩ := HS.out w1 K1.out; clear hv hk)
         | (go_simp; go_at_call 30; ((with_reducible refine (HC1.out _ _ _ HV1.out K1.out).mono ?_)); rintro e w2 ⟨rfl, hk⟩; have K2 := hid (K1.out.trans hk); obtain ⟨y2, y3⟩ := HS.out w2 K2.out; clear hk)
         | (go_simp; go_at_call 33; ((with_reducible refine (HO2.out _).mono ?_)); rintro e w3 ⟨v, rfl, hv, hk⟩; obtain ⟨n3, a3, l3, c3, rfl⟩ := hv.agg; have HV3 := hid hv; have K3 := hid (K2.out.trans hk); obtain ⟨y4, y5⟩ := HS.out w3 K3.out; clear hv hk)
         | (go_simp; go_at_call 30; ((with_reducible refine (HC2.out _ _ _ HV3.out K3.out).mono ?_)); rintro e w4 ⟨rfl, hk⟩; have K4 := hid (K3.out.trans hk); clear hk))
      all_goals
        go_wp2_with fail
        go_ret2
        exact ⟨rfl, HK0.out.trans K4.out⟩
  have t2 : z2 = -1 ∨ z2 = 0 := by
    rw [hz2]; unfold cmpZ
    split
    · exact .inl rfl
    · exact .inr rfl
  have hw : isI64 x = true := by unfold isI64; simp; omega
  rw [if_pos hw]
  have hx64 : -9223372036854775808 ≤ x ∧ x ≤ 9223372036854775807 := by omega
  clear hz1 hz2 hw h1 h2 hn1 hl1
  go_enter Tryz.func61, Tryz.ntmps61
  go_upto_region 1 with fail
  rw [← hw0, ← hp]
  clear hw0 hp
  obtain ⟨x8, x9⟩ := HS.out w0 (Keeps.refl _ _)
  go_cut [15] from 6 to 16 (fun v wx => v = .bool false ∧ Keeps (fun _ => False) w0 wx)
  case first =>
    rcases t1 with rfl | rfl <;> rcases t2 with rfl | rfl
    all_goals
      go_region_law (first
         | (go_simp; go_at_call 33; ((with_reducible refine (HO1.out _).mono ?_)); rintro e w1 ⟨v, rfl, hv, hk⟩; obtain ⟨n2, a2, l2, c2, rfl⟩ := hv.agg; have HV1 := hid hv; have K1 := hid (((Keeps.refl (fun _ => False) w0).drew).trans hk); obtain ⟨y0, y1⟩ := HS.out w1 K1.out; clear hv hk)
         | (go_simp; go_at_call 30; ((with_reducible refine (HC1.out _ _ _ HV1.out K1.out).mono ?_)); rintro e w2 ⟨rfl, hk⟩; have K2 := hid (K1.out.trans hk); obtain ⟨y2, y3⟩ := HS.out w2 K2.out; clear hk)
         | (go_simp; go_at_call 33; ((with_reducible refine (HO2.out _).mono ?_)); rintro e w3 ⟨v, rfl, hv, hk⟩; obtain ⟨n3, a3, l3, c3, rfl⟩ := hv.agg; have HV3 := hid hv; have K3 := hid (K2.out.trans hk); obtain ⟨y4, y5⟩ := HS.out w3 K3.out; clear hv hk)
         | (go_simp; go_at_call 30; ((with_reducible refine (HC2.out _ _ _ HV3.out K3.out).mono ?_)); rintro e w4 ⟨rfl, hk⟩; have K4 := hid (K3.out.trans hk); clear hk))
    all_goals
      go_wp2_with fail
      go_meet
    all_goals exact ⟨rfl, K4.out⟩
  case rest =>
    obtain ⟨rfl, hkc⟩ := hcut
    have KL := hid hkc
    clear hkc HC1 HC2 HO1 HO2 t1 t2 x8 x9
    obtain ⟨wl, rfl⟩ : ∃ wl : World, wl = wc := ⟨_, rfl⟩
    obtain ⟨x0, x1⟩ := HS.out wl KL.out
    by_cases hneg : x < 0
    · have e1 : n1 = true := by rw [HN1.out]; simp [hneg]
      subst e1
      obtain ⟨N, hN⟩ : ∃ N, N = x.natAbs := ⟨_, rfl⟩
      have hNb : N ≤ 9223372036854775808 := by omega
      have HNB := hid hNb; have HNe := hid hN
      have HXV : Hid (-((N : Nat) : Int) = x) := hid (by omega)
      have gl : wrap64 ((l1 : Int) - 1) = (l1 : Int) - 1 := by unfold wrap64; omega
      have gl2 : IntKind.i64.wrap ((l1 : Int) - 1) = (l1 : Int) - 1 := by rw [IntKind.wrap_i64]; omega
      clear hN hNb hx64
      go_wp2_with fail
      go_loopw [4, 5] (fun nv iv wr => ∃ j : Nat, iv = .int .i64 ((j : Int) - 1) ∧ nv = .int .i64 (-((N / 10 ^ j : Nat) : Int)) ∧ j ≤ l1 ∧ wr = wl) (fun _ iv _ => (intOf iv + 1).toNat)
      case atStart =>
        refine ⟨l1, by first | rfl | rw [gl] | rw [gl2], ?_, Nat.le_refl _, rfl⟩
        rw [Nat.div_eq_of_lt (by rw [HNe.out, HL1.out]; exact lt_digs _)]
        rfl
      case round =>
        obtain ⟨j, rfl, rfl, hj, rfl⟩ := hrel
        obtain ⟨x0, x1⟩ := HS.out wr KL.out
        rcases Nat.eq_zero_or_pos j with h0 | h0
        · subst h0
          clear gl gl2
          go_wp2_with fail
          go_ret2
          refine ⟨?_, HK0.out.trans KL.out⟩
          first | (rw [Nat.pow_zero, Nat.div_one, HXV.out] <;> rfl) | (rw [Nat.pow_zero, Nat.div_one, HXV.out])
        · obtain ⟨i, rfl⟩ : ∃ i, j = i + 1 := ⟨j - 1, by omega⟩
          have hil : i < (digs x.natAbs).length := by rw [← HL1.out]; omega
          obtain ⟨b2, rfl, hc2⟩ := (HRD.out wr KL.out).at_ (i := i) hil
          rw [digs_get, ← HNe.out] at hc2
          have hds := dig_step N i
          have hdl := dig_le N i
          obtain ⟨A, hA⟩ : ∃ A, A = N / 10 ^ (i + 1) := ⟨_, rfl⟩
          obtain ⟨Bq, hBq⟩ : ∃ B, B = N / 10 ^ i := ⟨_, rfl⟩
          obtain ⟨d, hd⟩ : ∃ d, d = Bq % 10 := ⟨_, rfl⟩
          rw [← hA, ← hBq, ← hd] at hds
          rw [← hBq] at hdl
          rw [← hBq, ← hd] at hc2
          rw [← hA]
          have hnb := HNB.out
          obtain ⟨g1, g2, g3, g4, g5, g6⟩ := sm_neg A Bq d hds (by rw [hd]; exact Nat.mod_lt _ (by omega)) (Nat.le_trans hdl hnb)
          have HBQ := hid hBq
          clear hA hBq hd hds hdl
          have e5 : ((i + 1 : Nat) : Int) - 1 = (i : Int) := by omega
          have gi : wrap64 ((i : Int) - 1) = (i : Int) - 1 := by unfold wrap64; omega
          have gi2 : IntKind.i64.wrap ((i : Int) - 1) = (i : Int) - 1 := by rw [IntKind.wrap_i64]; omega
          have hll : i < l1 := by omega
          rw [e5]
          clear gl gl2 hil hj h0 e5 hnb
          go_wp2_with fail
          refine ⟨⟨i, by first | rfl | rw [gi] | rw [gi2], ?_, by omega, by first | rfl | trivial⟩, by simp [intOf] <;> omega⟩
          rw [← HBQ.out]
          all_goals first | rfl | rw [g2] | rw [g4] | rw [g6]
    · have e1 : n1 = false := by rw [HN1.out]; simp [hneg]
      subst e1
      obtain ⟨N, hN⟩ : ∃ N, N = x.natAbs := ⟨_, rfl⟩
      have hNb : N ≤ 9223372036854775807 := by omega
      have HNB := hid hNb; have HNe := hid hN
      have HXV : Hid (((N : Nat) : Int) = x) := hid (by omega)
      have gl : wrap64 ((l1 : Int) - 1) = (l1 : Int) - 1 := by unfold wrap64; omega
      have gl2 : IntKind.i64.wrap ((l1 : Int) - 1) = (l1 : Int) - 1 := by rw [IntKind.wrap_i64]; omega
      clear hN hNb hx64
      go_wp2_with fail
      go_loopw [4, 5] (fun nv iv wr => ∃ j : Nat, iv = .int .i64 ((j : Int) - 1) ∧ nv = .int .i64 (((N / 10 ^ j : Nat) : Int)) ∧ j ≤ l1 ∧ wr = wl) (fun _ iv _ => (intOf iv + 1).toNat)
      case atStart =>
        refine ⟨l1, by first | rfl | rw [gl] | rw [gl2], ?_, Nat.le_refl _, rfl⟩
        rw [Nat.div_eq_of_lt (by rw [HNe.out, HL1.out]; exact lt_digs _)]
        rfl
      case round =>
        obtain ⟨j, rfl, rfl, hj, rfl⟩ := hrel
        obtain ⟨x0, x1⟩ := HS.out wr KL.out
        rcases Nat.eq_zero_or_pos j with h0 | h0
        · subst h0
          clear gl gl2
          go_wp2_with fail
          go_ret2
          refine ⟨?_, HK0.out.trans KL.out⟩
          first | (rw [Nat.pow_zero, Nat.div_one, HXV.out] <;> rfl) | (rw [Nat.pow_zero, Nat.div_one, HXV.out])
        · obtain ⟨i, rfl⟩ : ∃ i, j = i + 1 := ⟨j - 1, by omega⟩
          have hil : i < (digs x.natAbs).length := by rw [← HL1.out]; omega
          obtain ⟨b2, rfl, hc2⟩ := (HRD.out wr KL.out).at_ (i := i) hil
          rw [digs_get, ← HNe.out] at hc2
          have hds := dig_step N i
          have hdl := dig_le N i
          obtain ⟨A, hA⟩ : ∃ A, A = N / 10 ^ (i + 1) := ⟨_, rfl⟩
          obtain ⟨Bq, hBq⟩ : ∃ B, B = N / 10 ^ i := ⟨_, rfl⟩
          obtain ⟨d, hd⟩ : ∃ d, d = Bq % 10 := ⟨_, rfl⟩
          rw [← hA, ← hBq, ← hd] at hds
          rw [← hBq] at hdl
          rw [← hBq, ← hd] at hc2
          rw [← hA]
          have hnb := HNB.out
          obtain ⟨g1, g2, g3, g4, g5, g6⟩ := sm_pos A Bq d hds (by rw [hd]; exact Nat.mod_lt _ (by omega)) (Nat.le_trans hdl hnb)
          have HBQ := hid hBq
          clear hA hBq hd hds hdl
          have e5 : ((i + 1 : Nat) : Int) - 1 = (i : Int) := by omega
          have gi : wrap64 ((i : Int) - 1) = (i : Int) - 1 := by unfold wrap64; omega
          have gi2 : IntKind.i64.wrap ((i : Int) - 1) = (i : Int) - 1 := by rw [IntKind.wrap_i64]; omega
          have hll : i < l1 := by omega
          rw [e5]
          clear gl gl2 hil hj h0 e5 hnb
          go_wp2_with fail
          refine ⟨⟨i, by first | rfl | rw [gi] | rw [gi2], ?_, by omega, by first | rfl | trivial⟩, by simp [intOf] <;> omega⟩
          rw [← HBQ.out]
          all_goals first | rfl | rw [g2] | rw [g4] | rw [g6]

theorem unsigned62 (vx : Value) (x : Int) (bx : Nat) (w : World) (hx : NumV w bx vx x) (hl : (digs x.natAbs).length ≤ 40000) :
    Calls Tryz.prog 62 #[vx] w fun e w' => (e = .returned (if isU64 x = true then .tuple #[.int .u64 x, .bool true] else .tuple #[.int .u64 0, .bool false])) ∧ Keeps (fun _ => False) w w' := by
  obtain ⟨a1, c1, rfl, hrd, hb1⟩ := hx
  obtain ⟨n1, hn1⟩ : ∃ n, n = decide (x < 0) := ⟨_, rfl⟩
  obtain ⟨l1, hl1⟩ : ∃ n, n = (digs x.natAbs).length := ⟨_, rfl⟩
  rw [← hn1, ← hl1]; rw [← hl1] at hl
  obtain ⟨w0, hw0⟩ : ∃ W, W = w.alloc (.cells #[.bool n1, .slice a1 l1 c1] 24) := ⟨_, rfl⟩
  obtain ⟨p, hp⟩ : ∃ p, p = w.heap.size := ⟨_, rfl⟩
  have hk0 : Keeps (fun _ => False) w w0 := by rw [hw0]; exact (Keeps.refl _ w).alloc _
  have hrx : RowAt w0 p 24 [.bool n1, .slice a1 l1 c1] := by rw [hw0, hp]; exact RowAt.new w 24 _
  have HV : Hid (∀ W, Keeps (fun _ => False) w0 W → NumV W 0 (.agg #[.bool n1, .slice a1 l1 c1]) x) := hid (fun W hk => by
    rw [hn1, hl1]; exact ⟨a1, c1, rfl, hrd.keep (hk0.trans hk) (fun _ _ h => h), fun _ _ => Nat.zero_le _⟩)
  have HRD : Hid (∀ W, Keeps (fun _ => False) w0 W → RdV W a1 c1 (digs x.natAbs)) := hid (fun W hk => hrd.keep (hk0.trans hk) (fun _ _ h => h))
  have HS : Hid (∀ W, Keeps (fun _ => False) w0 W → W.cell? ⟨p, 0, none⟩ = some (.bool n1) ∧ W.cell? ⟨p, 1, none⟩ = some (.slice a1 l1 c1)) := hid (fun W hk => ⟨(hk.row hrx (fun h => h)).cell 0, (hk.row hrx (fun h => h)).cell 1⟩)
  have HK0 := hid hk0; have HN1 := hid hn1; have HL1 := hid hl1; have HL := hid hl
  clear hk0 hrx hrd hb1
  have HO1 : Hid (∀ W, Calls Tryz.prog 38 #[.int .u64 18446744073709551615] W fun e w' => ∃ v, e = .returned v ∧ NumV w' W.heap.size v 18446744073709551615 ∧ Keeps (fun _ => False) W w') := hid (fun W => ofUint38 18446744073709551615 W (by unfold W64; omega))
  obtain ⟨z1, hz1⟩ : ∃ c, c = cmpZ x 18446744073709551615 := ⟨_, rfl⟩
  have HC1 : Hid (∀ W v b, NumV W b v 18446744073709551615 → Keeps (fun _ => False) w0 W → Calls Tryz.prog 30 #[.agg #[.bool n1, .slice a1 l1 c1], v] W fun e w' => e = .returned (.int .i64 z1) ∧ Keeps (fun _ => False) W w') := hid (fun W v b h1 hk => by
    rw [hz1]; exact cmp30_z _ _ _ _ _ _ W (HV.out W hk) h1 (by rw [← HL1.out]; exact HL.out) (Nat.le_trans (digs_len (k := 20) (by decide)) (by omega)))
  by_cases hneg : x < 0
  · have e1 : n1 = true := by rw [hn1]; simp [hneg]
    subst e1
    have hw : isU64 x = false := by unfold isU64; simp; omega
    rw [if_neg (show ¬ isU64 x = true by rw [hw]; simp)]
    clear hz1 hw hneg hn1 hl1 hl
    go_enter Tryz.func62, Tryz.ntmps62
    go_upto_region 1 with fail
    rw [← hw0, ← hp]
    clear hw0 hp
    obtain ⟨x8, x9⟩ := HS.out w0 (Keeps.refl _ _)
    go_region_law (fail)
    all_goals
      go_wp2_with fail
      go_ret2
      exact ⟨rfl, HK0.out.trans (Keeps.refl _ w0).drew⟩
  have e1 : n1 = false := by rw [hn1]; simp [hneg]
  subst e1
  by_cases h2 : 18446744073709551615 < x
  · have t2 : z1 = 1 := by rw [hz1]; unfold cmpZ; rw [if_neg (by omega), if_pos h2]
    subst t2
    have hw : isU64 x = false := by unfold isU64; simp; omega
    rw [if_neg (show ¬ isU64 x = true by rw [hw]; simp)]
    clear hz1 hw hneg h2 hn1 hl1 hl
    go_enter Tryz.func62, Tryz.ntmps62
    go_upto_region 1 with fail
    rw [← hw0, ← hp]
    clear hw0 hp
    obtain ⟨x8, x9⟩ := HS.out w0 (Keeps.refl _ _)
    go_region_law (first
       | (go_simp; go_at_call 38; ((with_reducible refine (HO1.out _).mono ?_)); rintro e w3 ⟨v, rfl, hv, hk⟩; obtain ⟨n3, a3, l3, c3, rfl⟩ := hv.agg; have HV3 := hid hv; have K3 := hid (((Keeps.refl (fun _ => False) w0).drew).trans hk); obtain ⟨y4, y5⟩ := HS.out w3 K3.out; clear hv hk)
       | (go_simp; go_at_call 30; ((with_reducible refine (HC1.out _ _ _ HV3.out K3.out).mono ?_)); rintro e w4 ⟨rfl, hk⟩; have K4 := hid (K3.out.trans hk); clear hk))
    all_goals
      go_wp2_with fail
      go_ret2
      exact ⟨rfl, HK0.out.trans K4.out⟩
  have t2 : z1 = -1 ∨ z1 = 0 := by
    rw [hz1]; unfold cmpZ
    split
    · exact .inl rfl
    · exact .inr rfl
  have hw : isU64 x = true := by unfold isU64; simp; omega
  rw [if_pos hw]
  have hx64 : 0 ≤ x ∧ x ≤ 18446744073709551615 := by omega
  clear hz1 hw hneg h2 hn1 hl1
  go_enter Tryz.func62, Tryz.ntmps62
  go_upto_region 1 with fail
  rw [← hw0, ← hp]
  clear hw0 hp
  obtain ⟨x8, x9⟩ := HS.out w0 (Keeps.refl _ _)
  go_cut [13] from 6 to 14 (fun v wx => v = .bool false ∧ Keeps (fun _ => False) w0 wx)
  case first =>
    rcases t2 with rfl | rfl
    all_goals
      go_region_law (first
         | (go_simp; go_at_call 38; ((with_reducible refine (HO1.out _).mono ?_)); rintro e w3 ⟨v, rfl, hv, hk⟩; obtain ⟨n3, a3, l3, c3, rfl⟩ := hv.agg; have HV3 := hid hv; have K3 := hid (((Keeps.refl (fun _ => False) w0).drew).trans hk); obtain ⟨y4, y5⟩ := HS.out w3 K3.out; clear hv hk)
         | (go_simp; go_at_call 30; ((with_reducible refine (HC1.out _ _ _ HV3.out K3.out).mono ?_)); rintro e w4 ⟨rfl, hk⟩; have K4 := hid (K3.out.trans hk); clear hk))
    all_goals
      go_wp2_with fail
      go_meet
    all_goals exact ⟨rfl, K4.out⟩
  case rest =>
    obtain ⟨rfl, hkc⟩ := hcut
    have KL := hid hkc
    clear hkc HC1 HO1 t2 x8 x9
    obtain ⟨wl, rfl⟩ : ∃ wl : World, wl = wc := ⟨_, rfl⟩
    obtain ⟨x0, x1⟩ := HS.out wl KL.out
    obtain ⟨N, hN⟩ : ∃ N, N = x.natAbs := ⟨_, rfl⟩
    have hNb : N ≤ 18446744073709551615 := by omega
    have HNB := hid hNb; have HNe := hid hN
    have HXV : Hid (((N : Nat) : Int) = x) := hid (by omega)
    have gl : wrap64 ((l1 : Int) - 1) = (l1 : Int) - 1 := by unfold wrap64; omega
    have gl2 : IntKind.i64.wrap ((l1 : Int) - 1) = (l1 : Int) - 1 := by rw [IntKind.wrap_i64]; omega
    clear hN hNb hx64
    go_wp2_with fail
    go_loopw [4, 5] (fun nv iv wr => ∃ j : Nat, iv = .int .i64 ((j : Int) - 1) ∧ nv = .int .u64 (((N / 10 ^ j : Nat) : Int)) ∧ j ≤ l1 ∧ wr = wl) (fun _ iv _ => (intOf iv + 1).toNat)
    case atStart =>
      refine ⟨l1, by first | rfl | rw [gl] | rw [gl2], ?_, Nat.le_refl _, rfl⟩
      rw [Nat.div_eq_of_lt (by rw [HNe.out, HL1.out]; exact lt_digs _)]
      rfl
    case round =>
      obtain ⟨j, rfl, rfl, hj, rfl⟩ := hrel
      obtain ⟨x0, x1⟩ := HS.out wr KL.out
      rcases Nat.eq_zero_or_pos j with h0 | h0
      · subst h0
        clear gl gl2
        go_wp2_with fail
        go_ret2
        refine ⟨?_, HK0.out.trans KL.out⟩
        first | (rw [Nat.pow_zero, Nat.div_one, HXV.out] <;> rfl) | (rw [Nat.pow_zero, Nat.div_one, HXV.out])
      · obtain ⟨i, rfl⟩ : ∃ i, j = i + 1 := ⟨j - 1, by omega⟩
        have hil : i < (digs x.natAbs).length := by rw [← HL1.out]; omega
        obtain ⟨b2, rfl, hc2⟩ := (HRD.out wr KL.out).at_ (i := i) hil
        rw [digs_get, ← HNe.out] at hc2
        have hds := dig_step N i
        have hdl := dig_le N i
        obtain ⟨A, hA⟩ : ∃ A, A = N / 10 ^ (i + 1) := ⟨_, rfl⟩
        obtain ⟨Bq, hBq⟩ : ∃ B, B = N / 10 ^ i := ⟨_, rfl⟩
        obtain ⟨d, hd⟩ : ∃ d, d = Bq % 10 := ⟨_, rfl⟩
        rw [← hA, ← hBq, ← hd] at hds
        rw [← hBq] at hdl
        rw [← hBq, ← hd] at hc2
        rw [← hA]
        have hnb := HNB.out
        obtain ⟨g1, g2, g3, g4, g5, g6⟩ := sm_uns A Bq d hds (by rw [hd]; exact Nat.mod_lt _ (by omega)) (Nat.le_trans hdl hnb)
        have HBQ := hid hBq
        clear hA hBq hd hds hdl
        have e5 : ((i + 1 : Nat) : Int) - 1 = (i : Int) := by omega
        have gi : wrap64 ((i : Int) - 1) = (i : Int) - 1 := by unfold wrap64; omega
        have gi2 : IntKind.i64.wrap ((i : Int) - 1) = (i : Int) - 1 := by rw [IntKind.wrap_i64]; omega
        have hll : i < l1 := by omega
        rw [e5]
        clear gl gl2 hil hj h0 e5 hnb
        go_wp2_with fail
        refine ⟨⟨i, by first | rfl | rw [gi] | rw [gi2], ?_, by omega, by first | rfl | trivial⟩, by simp [intOf] <;> omega⟩
        rw [← HBQ.out]
        all_goals first | rfl | rw [g2] | rw [g4] | rw [g6]
end Go.Proofs
namespace Go.Proofs
open Go.RowKit
set_option maxHeartbeats 4000000
set_option linter.unusedVariables false
set_option linter.unusedSimpArgs false
set_option maxRecDepth 100000

theorem IsBits.unique {N b c : Nat} (h : IsBits N b) (k : IsBits N c) : b = c := by
  obtain ⟨h1, h2, h3⟩ := h
  obtain ⟨k1, k2, k3⟩ := k
  by_cases h0 : N = 0
  · rw [h3 h0, k3 h0]
  · have a1 := h2 h0
    have a2 := k2 h0
    rcases Nat.lt_trichotomy b c with h | h | h
    · have := Nat.pow_le_pow_right (show 0 < 2 by omega) (show b ≤ c - 1 by omega)
      omega
    · exact h
    · have := Nat.pow_le_pow_right (show 0 < 2 by omega) (show c ≤ b - 1 by omega)
      omega
theorem NumV.abs {w : World} {b : Nat} {n : Bool} {a : Option Addr} {l c : Nat} {x : Int} (h : NumV w b (.agg #[.bool n, .slice a l c]) x) : NumV w b (.agg #[.bool false, .slice a l c]) (x.natAbs : Int) := by
  obtain ⟨g1, g2, g3, g4⟩ := h.get
  refine ⟨a, c, ?_, ?_, g2⟩
  · rw [g3, Int.natAbs_natCast]
    have : ¬ ((x.natAbs : Int) < 0) := by omega
    simp [this]
  · rw [Int.natAbs_natCast]; exact g1
theorem bits_end {N k : Nat} (h0 : N / 2 ^ k = 0) (h : k = 0 ∨ 2 ^ (k - 1) ≤ N) : IsBits N k := by
  have h1 : N < 2 ^ k := by
    rcases Nat.lt_or_ge N (2 ^ k) with h2 | h2
    · exact h2
    · have := Nat.div_pos h2 (Nat.two_pow_pos k)
      omega
  have hp := Nat.two_pow_pos (k - 1)
  refine ⟨h1, fun hN => ?_, fun hN => ?_⟩
  · rcases h with h | h
    · subst h; simp at h1; omega
    · refine ⟨?_, h⟩
      rcases Nat.eq_zero_or_pos k with h3 | h3
      · subst h3; simp at h1; omega
      · exact h3
  · rcases h with h | h
    · exact h
    · omega
theorem bits_next {N k : Nat} (h0 : N / 2 ^ k ≠ 0) : 2 ^ k ≤ N := by
  rcases Nat.lt_or_ge N (2 ^ k) with h | h
  · exact absurd (Nat.div_eq_of_lt h) h0
  · exact h
theorem half_nat (m : Nat) : ((m : Nat) : Int).tdiv 2 = ((m / 2 : Nat) : Int) := rfl
theorem digs_200 {N M : Nat} (h : N < 10 ^ 200) (hm : M ≤ N) : (digs ((M : Nat) : Int).natAbs).length ≤ 40000 := by
  rw [Int.natAbs_natCast]
  exact Nat.le_trans (digs_len (k := 200) (Nat.lt_of_le_of_lt hm h)) (by omega)

theorem bits60 (vx : Value) (x : Int) (bx : Nat) (w : World) (hx : NumV w bx vx x) (hxb : x.natAbs < 10 ^ 200) :
    Calls Tryz.prog 60 #[vx] w fun e w' => (∃ b : Nat, e = .returned (.int .i64 (b : Int)) ∧ IsBits x.natAbs b) ∧ Keeps (fun _ => False) w w' := by
  obtain ⟨n1, a1, l1, c1, rfl, hpx⟩ := hx.parts
  obtain ⟨w0, hw0⟩ : ∃ W, W = w.alloc (.cells #[.bool n1, .slice a1 l1 c1] 24) := ⟨_, rfl⟩
  obtain ⟨p, hp⟩ : ∃ p, p = w.heap.size := ⟨_, rfl⟩
  have hk0 : Keeps (fun _ => False) w w0 := by rw [hw0]; exact (Keeps.refl _ w).alloc _
  have HV := hid (hpx w0 hk0 0 (fun _ _ => Nat.zero_le _))
  have HC := hid (abs31_any n1 a1 l1 c1 w0)
  obtain ⟨N, hN⟩ : ∃ N, N = x.natAbs := ⟨_, rfl⟩
  have HXB : Hid (N < 10 ^ 200) := hid (by rw [hN]; exact hxb)
  have HVA : Hid (∀ W, Keeps (fun _ => False) w0 W → NumV W 0 (.agg #[.bool false, .slice a1 l1 c1]) (N : Int)) := hid (fun W hk => by
    rw [hN]; exact (HV.out.keep hk (fun _ _ h => h)).abs)
  rw [← hN]
  have HK0 := hid hk0
  clear hk0 hpx hx hxb hN HV
  go_enter Tryz.func60, Tryz.ntmps60
  go_wp2_with fail
  rw [← hw0]
  clear hw0 hp
  refine HC.out.mono ?_
  rintro e w1 ⟨rfl, hk⟩
  have HV1 := hid (HVA.out w1 hk); have HK1 := hid (HK0.out.trans hk)
  clear hk HC HVA
  go_wp2_with fail
  obtain ⟨P, hP⟩ : ∃ p, p = w1.heap.size := ⟨_, rfl⟩
  obtain ⟨W, hW⟩ : ∃ W, W = w1.alloc (.cells #[.bool false, .slice a1 l1 c1] 24) := ⟨_, rfl⟩
  have HE : Hid (NumE W 0 P (N : Int)) := hid (by rw [hW, hP]; exact NumE.new HV1.out)
  have HKW : Hid (Keeps (fun _ => False) w W) := hid (by rw [hW]; exact HK1.out.alloc _)
  have HPP : Hid (w.heap.size ≤ P) := hid (by rw [hP]; exact HK1.out.size)
  rw [← hP, ← hW]
  clear hP hW HV1 HK1
  go_loopw [3, 4] (fun nv uv wr => ∃ k Q : Nat, nv = .int .i64 (k : Int) ∧ uv = .pointer (some ⟨Q, 0, none⟩) ∧ (k = 0 ∨ 2 ^ (k - 1) ≤ N) ∧ k ≤ 1000 ∧ NumE wr 0 Q ((N / 2 ^ k : Nat) : Int) ∧ w.heap.size ≤ Q ∧ Keeps (fun _ => False) w wr) (fun nv _ _ => 1000 - (intOf nv).toNat)
  case atStart => exact ⟨0, P, rfl, rfl, .inl rfl, by omega, by rw [Nat.pow_zero, Nat.div_one]; exact HE.out, HPP.out, HKW.out⟩
  case round =>
    obtain ⟨k, Q, rfl, rfl, hk2, hk1000, hE, hQ, hkr⟩ := hrel
    obtain ⟨n2, a2, l2, c2, b0, b1, f0, f1, rQ, vQ⟩ := hE.facts
    have HZ := hid (zero23 _ _ _ wr vQ)
    have HK2 := hid hk2; have HEr := hid hE; have HQ := hid hQ; have HKr := hid hkr; have RQ := hid rQ; have VQ := hid vQ
    obtain ⟨M, hM⟩ : ∃ M, M = N / 2 ^ k := ⟨_, rfl⟩
    have HM := hid hM
    rw [← hM] at HZ
    clear hk2 hE hQ hkr rQ vQ hM
    by_cases h0 : M = 0
    · rw [show decide ((M : Int) = 0) = true by simp [h0]] at HZ
      have H0 := hid h0
      clear h0
      go_wp2_with fail
      refine HZ.out.mono ?_
      rintro e w2 ⟨rfl, hk⟩
      have HKf := hid (HKr.out.trans hk)
      clear hk
      go_wp2_with fail
      go_ret
      exact ⟨⟨k, rfl, bits_end (by rw [← HM.out]; exact H0.out) HK2.out⟩, HKf.out⟩
    · rw [show decide ((M : Int) = 0) = false by simp [h0]] at HZ
      have H0 := hid h0
      have hkb : k < 1000 := by
        rcases Nat.lt_or_ge k 1000 with h | h
        · exact h
        · exfalso
          have h1 := bits_next (N := N) (k := k) (by rw [← HM.out]; exact h0)
          have h2 := HXB.out
          have h3 : (10 : Nat) ^ 200 ≤ (2 ^ 233) ^ 3 := by decide +kernel
          obtain ⟨E, hE⟩ : ∃ E, E = 233 * 3 := ⟨_, rfl⟩
          rw [← Nat.pow_mul, ← hE] at h3
          have h4 : 2 ^ E ≤ 2 ^ k := Nat.pow_le_pow_right (by omega) (by omega)
          omega
      clear h0
      go_wp2_with fail
      refine HZ.out.mono ?_
      rintro e w2 ⟨rfl, hk⟩
      have HKf := hid (HKr.out.trans hk)
      have hr2 := hk.row RQ.out (fun h => h)
      have HR2 := hid hr2
      have HV2 := hid (VQ.out.keep hk (fun _ _ h => h))
      clear b0 b1 f0 f1 hk
      obtain ⟨b0, b1, _, _⟩ := RowAt.facts2 hr2
      clear hr2 HZ
      have HO := hid (fun W => of33 2 W (by omega) (by omega))
      have HQ2 : Hid (∀ W vy b, NumV W b vy 2 → Keeps (fun _ => False) w2 W → Calls Tryz.prog 40 #[.agg #[.bool n2, .slice a2 l2 c2], vy] W fun e w' => ∃ v1 v2, e = .returned (.tuple #[v1, v2]) ∧ NumV w' W.heap.size v1 ((M / 2 : Nat) : Int) ∧ (∃ z, NumV w' W.heap.size v2 z) ∧ Keeps (fun _ => False) W w') := hid (fun W vy b h1 hk => by
        have hv := HV2.out.keep hk (fun _ _ h => h)
        rw [← HM.out] at hv
        refine (quoRem40 _ vy _ 2 0 b W hv h1 (by omega) (digs_200 HXB.out (by rw [HM.out]; exact Nat.div_le_self _ _)) (Nat.le_trans (digs_len (k := 2) (by decide)) (by omega))).mono ?_
        rintro e w' ⟨v1, v2, he, k1, k2, k3⟩
        rw [half_nat] at k1
        exact ⟨v1, v2, he, k1, ⟨_, k2⟩, k3⟩)
      have HD0 : Hid (Keeps (fun _ => False) w2 w2.drew) := hid (Keeps.refl _ w2).drew
      have gw : wrap64 ((k : Int) + 1) = ((k + 1 : Nat) : Int) := by unfold wrap64; omega
      have gw2 : IntKind.i64.wrap ((k : Int) + 1) = ((k + 1 : Nat) : Int) := by rw [IntKind.wrap_i64]; omega
      go_upto_region 5 with fail
      go_region_law (first
        | (go_simp; go_at_call 33; ((with_reducible refine (HO.out _).mono ?_)); rintro e w3 ⟨v, rfl, hv, hk⟩; obtain ⟨n3, a3, l3, c3, rfl⟩ := hv.agg; have HV3 := hid hv; have K3 := hid (HD0.out.trans hk); obtain ⟨d0, d1, _, _⟩ := RowAt.facts2 (K3.out.row HR2.out (fun h => h)); clear hv hk)
        | (go_simp; go_at_call 40; ((with_reducible refine (HQ2.out _ _ _ HV3.out K3.out).mono ?_)); rintro e w4 ⟨v1, v2, rfl, hv, ⟨z2, hv2⟩, hk⟩; obtain ⟨n4, a4, l4, c4, rfl⟩ := hv.agg; obtain ⟨n5, a5, l5, c5, rfl⟩ := hv2.agg; have HV4 := hid (hv.lower (Nat.zero_le _)); have K4 := hid (K3.out.trans hk); have R4 := hid (K4.out.row HR2.out (fun h => h)); obtain ⟨i0, i1, i2, i3⟩ := RowAt.facts2 R4.out; clear hv hv2 hk))
      all_goals
        go_wp2_with fail
        have hq := HQ.out
        obtain ⟨v1, r1⟩ := HV4.out.setRow2 R4.out (m := n4) (s := .slice a4 l4 c4)
        have e1 := NumE.new v1
        have hs : ((w4.setCell ⟨Q, 0, none⟩ (.bool n4)).setCell ⟨Q, 1, none⟩ (.slice a4 l4 c4)).heap.size = w4.heap.size := by simp
        have hkk := (HKf.out.trans K4.out)
        refine ⟨⟨k + 1, w4.heap.size, rfl, rfl, .inr ?_, by omega, ?_, hkk.size, (((hkk.setCell _ (.inr hq) _).setCell _ (.inr hq) _).alloc _)⟩, by simp [intOf] <;> omega⟩
        · rw [Nat.add_sub_cancel]; exact bits_next (by rw [← HM.out]; exact H0.out)
        · rw [hs, HM.out, Nat.div_div_eq_div_mul, ← Nat.pow_succ] at e1
          exact e1
end Go.Proofs
