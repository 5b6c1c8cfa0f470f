/- Parts of the proofs over the numbers of any length: Div150, LGcd2, Gcd2, Str0. -/
import Derived.Test.YtacbllkmcldniaaGreatDoorGcdB
import Derived.Test.YtacbllkmcldniaaGreatDoorGcdC
import Derived.Test.YtacbllkmcldniaaGreatDoorDivdA
import Derived.Test.YtacbllkmcldniaaGreatDoorRangeB
import Derived.Test.YtacbllkmcldniaaGreatDoorConvA
import Derived.Test.YtacbllkmcldniaaGreatDoorGcdE
set_option linter.unusedSimpArgs false
set_option linter.unusedVariables false
namespace Go.Proofs
open Go.RowKit
set_option maxHeartbeats 1000000
set_option linter.unusedVariables false
set_option linter.unusedSimpArgs false
set_option maxRecDepth 100000

/-- QuoRem; the quotient and the rest may lie upon the operands. -/
theorem EnvG.quoRem164a {S : Nat → Prop} {w0 w : World} {V : Nat → Option (TypeId × SV)} (h : EnvG S w0 w V) {pz px py pr : Nat} {tz tx ty tr : TypeId} {z r : SV} {x y : Int} (hz : V pz = some (tz, z)) (hx : V px = some (tx, sv x)) (hy : V py = some (ty, sv y)) (hr : V pr = some (tr, r))
    (d3 : pz ≠ pr) (G : Glob w) (hy0 : y ≠ 0) (h1 : x.natAbs < W64 ^ 40) (h2 : y.natAbs < W64 ^ 39) :
    Calls Tryz.prog 164 #[.pointer (some ⟨pz, 0, none⟩), .pointer (some ⟨px, 0, none⟩), .pointer (some ⟨py, 0, none⟩), .pointer (some ⟨pr, 0, none⟩)] w fun e w' =>
      e = .returned (.tuple #[.pointer (some ⟨pz, 0, none⟩), .pointer (some ⟨pr, 0, none⟩)]) ∧ EnvG S w0 w' (updG (updG V pz tz (sv (x.tdiv y))) pr tr (sv (x.tmod y))) := by
  obtain ⟨hk0, ho, f, g1, g2⟩ := h
  have ez : (V pz).isSome := by rw [hz]; rfl
  have ex : (V px).isSome := by rw [hx]; rfl
  have er : (V pr).isSome := by rw [hr]; rfl
  have iz := (g1 pz tz z hz).2.1; have ix := (g1 px tx _ hx).2.1; have iy := (g1 py ty _ hy).2.1; have ir := (g1 pr tr r hr).2.1
  refine (quoRem164_any pz px py pr tz tx ty tr x y z.1 r.1 z.2 r.2 _ _ _ _ _ _ _ _ _ _ _ _ w iz ix.s iy.s ir d3 (g2 pz pr ez er d3) (al_of (fun hne => g2 pz px ez ex hne) (fun he => by subst he; exact ⟨rfl, rfl⟩)) (al_of (fun hne => g2 pr px er ex hne) (fun he => by subst he; exact ⟨rfl, rfl⟩)) hy0 (by have := iy.len h2; omega) (by have := ix.len h1; omega) G).mono ?_
  rintro e w' ⟨rfl, qa, ql, qc, ra, rl, rc, k1, k2, k3, k4, k5, k6⟩
  exact ⟨rfl, EnvG.res2 hk0 ho g1 g2 hz hr d3 k1.h k2.h k3 k4 k5 k6⟩

theorem EnvG.same_at {S : Nat → Prop} {w0 w : World} {V : Nat → Option (TypeId × SV)} (h : EnvG S w0 w V) {p : Nat} {t : TypeId} {z : SV} (hp : V p = some (t, z)) : EnvG S w0 w (updG V p t z) := by
  refine h.mono (fun q t' z' hq => ?_)
  by_cases hqp : q = p
  · subst hqp
    rw [updG_eq] at hq
    rw [hp]
    exact hq
  · rwa [updG_ne _ _ _ hqp] at hq
theorem eql_other {S : Nat → Prop} {w0 w : World} {V : Nat → Option (TypeId × SV)} (h : EnvG S w0 w V) {p q : Nat} {t s : TypeId} {x y : SV} (hp : V p = some (t, x)) (hq : V q = some (s, y)) (hne : p ≠ q) :
    (binOp .eql 117 (.pointer (some ⟨p, 0, none⟩)) (.pointer (some ⟨q, 0, none⟩))).run Tryz.prog w = .ok (.bool false) w := by
  obtain ⟨_, _, _, i1⟩ := h.get hp
  obtain ⟨_, _, _, i2⟩ := h.get hq
  exact eql_ptr117_other _ _ _ _ _ _ _ _ _ _ _ _ w i1.row i2.row hne
/-- Int.Div, whatever it is written into. -/
theorem EnvG.div150 {S : Nat → Prop} {w0 w : World} {V : Nat → Option (TypeId × SV)} (h : EnvG S w0 w V) {pz px py : Nat} {tz tx ty : TypeId} {z : SV} {x y : Int} (hz : V pz = some (tz, z)) (hx : V px = some (tx, sv x)) (hy : V py = some (ty, sv y))
    (G0 : Glob w0) (hSG : ∀ k, GB k → ¬ S k) (hy0 : y ≠ 0) (h1 : x.natAbs < W64 ^ 38) (h2 : y.natAbs < W64 ^ 38) :
    Calls Tryz.prog 150 #[.pointer (some ⟨pz, 0, none⟩), .pointer (some ⟨px, 0, none⟩), .pointer (some ⟨py, 0, none⟩)] w fun e w' =>
      e = .returned (.pointer (some ⟨pz, 0, none⟩)) ∧ ∃ V', EnvG S w0 w' V' ∧ V' pz = some (tz, sv (dmQ x y)) ∧ ∀ k, k < w.heap.size → k ≠ pz → V' k = V k := by
  have hw39 : W64 ^ 38 ≤ W64 ^ 39 := Nat.pow_le_pow_right (by unfold W64; omega) (by omega)
  have hw40 : W64 ^ 38 ≤ W64 ^ 40 := Nat.pow_le_pow_right (by unfold W64; omega) (by omega)
  have lz := h.lt hz; have lx := h.lt hx; have ly := h.lt hy
  obtain ⟨q, hq⟩ : ∃ q, q = w.heap.size := ⟨_, rfl⟩
  have y1 := (h.sign hy).1
  obtain ⟨V1, hV1⟩ : ∃ V1, V1 = updG (updG (updG V q 103 (false, 0)) pz tz (sv (x.tdiv y))) q 103 (sv (x.tmod y)) := ⟨_, rfl⟩
  have v1q : V1 q = some (103, sv (x.tmod y)) := by rw [hV1, updG_eq]
  have v1z : V1 pz = some (tz, sv (x.tdiv y)) := by rw [hV1, updG_ne _ _ _ (by omega), updG_eq]
  have v1k : ∀ k, k < q → k ≠ pz → V1 k = V k := fun k k1 k2 => by rw [hV1, updG_ne _ _ _ (by omega), updG_ne _ _ _ k2, updG_ne _ _ _ (by omega)]
  have HQR : Hid (Calls Tryz.prog 164 #[.pointer (some ⟨pz, 0, none⟩), .pointer (some ⟨px, 0, none⟩), .pointer (some ⟨py, 0, none⟩), .pointer (some ⟨q, 0, none⟩)] (w.alloc (.cells #[.bool false, .slice none 0 0] 103)) fun e w' =>
      e = .returned (.tuple #[.pointer (some ⟨pz, 0, none⟩), .pointer (some ⟨q, 0, none⟩)]) ∧ EnvG S w0 w' V1) := hid (by
    have E1 := h.new 103
    rw [← hq] at E1
    rw [hV1]
    exact E1.quoRem164a ((updG_ne _ _ _ (by omega)).trans hz) ((updG_ne _ _ _ (by omega)).trans hx) ((updG_ne _ _ _ (by omega)).trans hy) (updG_eq _ _ _ _) (by omega) (E1.glob G0 hSG) hy0 (Nat.lt_of_lt_of_le h1 hw40) (Nat.lt_of_lt_of_le h2 hw39))
  have hq40 : (x.tdiv y).natAbs < W64 ^ 40 := by rw [Int.natAbs_tdiv]; exact Nat.lt_of_le_of_lt (Nat.div_le_self _ _) (Nat.lt_of_lt_of_le h1 hw40)
  have h140 : (sv 1).2 < W64 ^ 40 := by unfold W64; decide
  have HP : Hid (∀ w2 w3 p1 a1, EnvG S w0 w2 V1 → w2.heap.size ≤ p1 → (∀ k, InB a1 k → w2.heap.size ≤ k) → IntS w3 p1 103 1 a1 1 1 → Keeps (fun _ => False) w2 w3 →
      (Calls Tryz.prog 145 #[.pointer (some ⟨pz, 0, none⟩), .pointer (some ⟨pz, 0, none⟩), .pointer (some ⟨p1, 0, none⟩)] w3 fun e w' => e = .returned (.pointer (some ⟨pz, 0, none⟩)) ∧ EnvG S w0 w' (updG (updG V1 p1 103 (sv 1)) pz tz (sv (x.tdiv y + 1)))) ∧
      (Calls Tryz.prog 146 #[.pointer (some ⟨pz, 0, none⟩), .pointer (some ⟨pz, 0, none⟩), .pointer (some ⟨p1, 0, none⟩)] w3 fun e w' => e = .returned (.pointer (some ⟨pz, 0, none⟩)) ∧ EnvG S w0 w' (updG (updG V1 p1 103 (sv 1)) pz tz (sv (x.tdiv y - 1)))) ∧ q < p1) := hid (fun w2 w3 p1 a1 hE g1 g2 g3 g4 => by
    have hl1 := hE.lt v1z
    have hl2 := hE.lt v1q
    have E3 := hE.add g4 g1 g3.h g2
    have vz3 : (updG V1 p1 103 (sv 1)) pz = some (tz, sv (x.tdiv y)) := (updG_ne _ _ _ (by omega)).trans v1z
    have k1 := E3.add145 vz3 vz3 (updG_eq _ _ _ _) hq40 h140
    have k2 := E3.sub146 vz3 vz3 (updG_eq _ _ _ _) hq40 h140
    rw [sgnv_sv, sgnv_sv] at k1 k2
    exact ⟨k1, k2, by omega⟩)
  have Fin : Hid (∀ w' p1 r, q < p1 → r = dmQ x y → EnvG S w0 w' (updG (updG V1 p1 103 (sv 1)) pz tz (sv r)) → ∃ V', EnvG S w0 w' V' ∧ V' pz = some (tz, sv (dmQ x y)) ∧ ∀ k, k < w.heap.size → k ≠ pz → V' k = V k) := hid (fun w' p1 r hp hr h' =>
    ⟨_, h', by rw [updG_eq, hr], fun k k1 k2 => by rw [updG_ne _ _ _ k2, updG_ne _ _ _ (by omega)]; exact v1k k (by omega) k2⟩)
  have Fin0 : Hid (∀ w', x.tdiv y = dmQ x y → EnvG S w0 w' V1 → ∃ V', EnvG S w0 w' V' ∧ V' pz = some (tz, sv (dmQ x y)) ∧ ∀ k, k < w.heap.size → k ≠ pz → V' k = V k) := hid (fun w' hr h' =>
    ⟨_, h', by rw [v1z, hr], fun k k1 k2 => v1k k (by omega) k2⟩)
  have HV1q := hid v1q; have HQ := hid hq
  obtain ⟨sy, hsy⟩ : ∃ s, s = (sv y).1 := ⟨_, rfl⟩
  rw [← hsy] at y1
  have HSY := hid hsy
  clear h hx hy hz G0 hSG hy0 h1 h2 hw39 hw40 lz lx ly v1k v1z v1q hV1 hq40 h140 hsy
  go_enter Tryz.func150, Tryz.ntmps150
  go_wp2_with fail
  rw [← hq]
  refine HQR.out.mono ?_
  rintro e w2 ⟨rfl, E2⟩
  have r1 := (E2.sign HV1q.out).1
  have HE2 := hid E2
  clear E2 HQR hq y1
  by_cases hm : x.tmod y < 0
  · rw [show (sv (x.tmod y)).1 = true from decide_eq_true hm] at r1
    have Hm := hid hm
    clear hm
    by_cases hyn : y < 0
    · have hs : sy = true := by rw [HSY.out]; exact decide_eq_true hyn
      subst hs
      have Hyn := hid hyn
      clear hyn
      go_wp2_with fail
      refine (intOne200 w2).mono ?_
      rintro e w3 ⟨p1, a1, rfl, g1, g2, g3, g4⟩
      have K := hid (HP.out w2 w3 p1 a1 HE2.out g1 g2 g3 g4)
      clear g1 g2 g3 g4 r1
      have K1 := hid K.out.1
      go_wp2_with fail
      refine K1.out.mono ?_
      rintro e w4 ⟨rfl, E4⟩
      have HE4 := hid E4
      clear E4
      go_wp2_with fail
      go_ret
      exact ⟨rfl, Fin.out _ _ _ K.out.2.2 (by unfold dmQ; rw [if_pos Hm.out, if_pos Hyn.out]) HE4.out⟩
    · have hs : sy = false := by rw [HSY.out]; exact decide_eq_false hyn
      subst hs
      have Hyn := hid hyn
      clear hyn
      go_wp2_with fail
      refine (intOne200 w2).mono ?_
      rintro e w3 ⟨p1, a1, rfl, g1, g2, g3, g4⟩
      have K := hid (HP.out w2 w3 p1 a1 HE2.out g1 g2 g3 g4)
      clear g1 g2 g3 g4 r1
      have K1 := hid K.out.2.1
      go_wp2_with fail
      refine K1.out.mono ?_
      rintro e w4 ⟨rfl, E4⟩
      have HE4 := hid E4
      clear E4
      go_wp2_with fail
      go_ret
      exact ⟨rfl, Fin.out _ _ _ K.out.2.2 (by unfold dmQ; rw [if_pos Hm.out, if_neg (by have := Hyn.out; omega)]) HE4.out⟩
  · rw [show (sv (x.tmod y)).1 = false from decide_eq_false hm] at r1
    have Hm := hid hm
    clear hm
    go_wp2_with fail
    go_ret
    exact ⟨rfl, Fin0.out _ (by unfold dmQ; rw [if_neg (by have := Hm.out; omega)]) HE2.out⟩
end Go.Proofs
namespace Go.Proofs
open Go.RowKit
set_option maxHeartbeats 4000000
set_option linter.unusedVariables false
set_option linter.unusedSimpArgs false
set_option maxRecDepth 100000

/-- What lehmerGCD leaves, with both factors. -/
def LgRes2 (S : Nat → Prop) (w0 : World) (h0 : Nat) (V0 : Nat → Option (TypeId × SV)) (a b : Int) (pz px py : Nat) (tz tx ty : TypeId) (w' : World) : Prop :=
  ∃ V X sX Y, EnvG S w0 w' V ∧ V pz = some (tz, sv (Int.gcd a b : Int)) ∧ V px = some (tx, (sX, X.natAbs)) ∧ V py = some (ty, sv Y) ∧ (X ≠ 0 → sX = decide (X < 0)) ∧ (∀ k, k < h0 → k ≠ pz → k ≠ px → k ≠ py → V k = V0 k) ∧
    a * X + b * Y = (Int.gcd a b : Int) ∧ X.natAbs ≤ b.natAbs + 1 ∧ Y.natAbs ≤ a.natAbs + 1
theorem sgnv_flip (s : Bool) (n : Nat) : sgnv (!s) n = - sgnv s n := by
  unfold sgnv
  cases s <;> simp
theorem dmQ_exact {D b : Int} (hb : b ≠ 0) (h : b ∣ D) : b * dmQ D b = D := by
  have h0 : D.tmod b = 0 := Int.tmod_eq_zero_of_dvd h
  unfold dmQ
  rw [h0, if_neg (by omega)]
  have := Int.mul_tdiv_add_tmod D b
  omega
/-- The second factor's size. -/
theorem bez_size {a b g X Y : Int} (h : a * X + b * Y = g) (hb : b ≠ 0) (hg0 : 0 ≤ g) (hg : g ≤ b.natAbs) (hX : X.natAbs ≤ b.natAbs) : Y.natAbs ≤ a.natAbs + 1 := by
  have h1 : b.natAbs * Y.natAbs ≤ b.natAbs * (a.natAbs + 1) := by
    have e1 : (b * Y).natAbs ≤ g.natAbs + (a * X).natAbs := by
      rw [show b * Y = g - a * X by omega]
      exact Int.natAbs_sub_le _ _
    rw [Int.natAbs_mul, Int.natAbs_mul] at e1
    have e2 : a.natAbs * X.natAbs ≤ a.natAbs * b.natAbs := Nat.mul_le_mul_left _ hX
    have e3 : g.natAbs ≤ b.natAbs := by omega
    rw [Nat.mul_add, Nat.mul_one, Nat.mul_comm b.natAbs a.natAbs]
    omega
  exact Nat.le_of_mul_le_mul_left h1 (by omega)

theorem EnvG.lehmer207_both {S : Nat → Prop} {w0 w : World} {V : Nat → Option (TypeId × SV)} (h : EnvG S w0 w V) {pz px py pa pb : Nat} {tz tx ty ta tb : TypeId} {z x y a b : Int} (hz : V pz = some (tz, sv z)) (hx : V px = some (tx, sv x)) (hy : V py = some (ty, sv y)) (ha : V pa = some (ta, sv a)) (hb : V pb = some (tb, sv b))
    (hzx : pz ≠ px) (hzy : pz ≠ py) (hxy : px ≠ py) (hyb : py ≠ pb) (hya : py ≠ pa) (G0 : Glob w0) (hSG : ∀ k, GB k → ¬ S k) (ha0 : a ≠ 0) (hb0 : b ≠ 0) (hal : a.natAbs < W64 ^ 11) (hbl : b.natAbs < W64 ^ 11) :
    Calls Tryz.prog 207 #[.pointer (some ⟨pz, 0, none⟩), .pointer (some ⟨px, 0, none⟩), .pointer (some ⟨py, 0, none⟩), .pointer (some ⟨pa, 0, none⟩), .pointer (some ⟨pb, 0, none⟩)] w fun e w' =>
      e = .returned (.pointer (some ⟨pz, 0, none⟩)) ∧ LgRes2 S w0 w.heap.size V a b pz px py tz tx ty w' := by
  have l200 : W64 ^ 11 ≤ W64 ^ 200 := Nat.pow_le_pow_right (by unfold W64; omega) (by omega)
  have la := h.lt ha; have lb := h.lt hb
  obtain ⟨h0, hh0⟩ : ∃ k, k = w.heap.size := ⟨_, rfl⟩
  have C1 := hid (h.newAbs ha (Nat.lt_of_lt_of_le hal l200))
  rw [← hh0] at C1
  have C2 : Hid (∀ w1, EnvG S w0 w1 (updG V h0 103 (sv (a.natAbs : Int))) → Calls Tryz.prog 184 #[.pointer (some ⟨w1.heap.size, 0, none⟩), .pointer (some ⟨pb, 0, none⟩)] (w1.alloc (.cells #[.bool false, .slice none 0 0] 103)) fun e w' => e = .returned (.pointer (some ⟨w1.heap.size, 0, none⟩)) ∧ EnvG S w0 w' (updG (updG V h0 103 (sv (a.natAbs : Int))) w1.heap.size 103 (sv (b.natAbs : Int)))) :=
    hid (fun w1 h1 => h1.newAbs ((updG_ne _ _ _ (by omega)).trans hb) (Nat.lt_of_lt_of_le hbl l200))
  have C3 : Hid (∀ V2 w2, EnvG S w0 w2 V2 → Calls Tryz.prog 163 #[.pointer (some ⟨w2.heap.size, 0, none⟩), .int .i64 1] (w2.alloc (.cells #[.bool false, .slice none 0 0] 103)) fun e w' => e = .returned (.pointer (some ⟨w2.heap.size, 0, none⟩)) ∧ EnvG S w0 w' (updG V2 w2.heap.size 103 (sv 1))) :=
    hid (fun V2 w2 h2 => h2.newSet 1 (by omega) (by omega))
  have Hy := hid hy; have Hzy := hid hzy; have Hxy := hid hxy; have Hyb := hid hyb; have Hya := hid hya
  have HE := hid h; have Hz := hid hz; have Hx := hid hx; have Ha := hid ha; have Hb := hid hb; have HG0 := hid G0; have HSG := hid hSG; have Ha0 := hid ha0; have Hb0 := hid hb0; have Hal := hid hal; have Hbl := hid hbl; have H200 := hid l200; have Hh0 := hid hh0; have Hzx := hid hzx; have Hla := hid la; have Hlb := hid lb
  rw [← hh0]
  clear hy hzy hxy hyb hya h hz hx ha hb G0 hSG ha0 hb0 hal hbl l200 hzx la lb
  go_enter Tryz.func207, Tryz.ntmps207
  go_wp2_with fail
  rw [← hh0]
  refine C1.out.mono ?_
  rintro e w1 ⟨rfl, E1⟩
  have HE1 := hid E1
  clear E1 hh0
  obtain ⟨s2, hs2⟩ : ∃ k, k = w1.heap.size := ⟨_, rfl⟩
  have K2 := hid (C2.out w1 HE1.out)
  rw [← hs2] at K2
  go_wp2_with fail
  rw [← hs2]
  refine K2.out.mono ?_
  rintro e w2 ⟨rfl, E2⟩
  have HE2 := hid E2; have Hs2 := hid hs2
  clear E2 hs2
  obtain ⟨s3, hs3⟩ : ∃ k, k = w2.heap.size := ⟨_, rfl⟩
  have K3 := hid (C3.out _ w2 HE2.out)
  rw [← hs3] at K3
  go_wp2_with fail
  rw [← hs3]
  refine K3.out.mono ?_
  rintro e w3 ⟨rfl, E3⟩
  have HE3 := hid E3; have Hs3 := hid hs3
  clear E3 hs3
  obtain ⟨s4, hs4⟩ : ∃ k, k = w3.heap.size := ⟨_, rfl⟩
  have E4 := HE3.out.new3
  rw [← hs4] at E4
  obtain ⟨w4, hw4⟩ : ∃ w4, w4 = (((w3.alloc (.cells #[.bool false, .slice none 0 0] 103)).alloc (.cells #[.bool false, .slice none 0 0] 103)).alloc (.cells #[.bool false, .slice none 0 0] 103)) := ⟨_, rfl⟩
  have o1 : h0 < s2 := by rw [Hs2.out]; exact HE1.out.lt (updG_eq _ _ _ _)
  have o2 : s2 < s3 := by rw [Hs3.out]; exact HE2.out.lt (updG_eq _ _ _ _)
  have o3 : s3 < s4 := by rw [hs4]; exact HE3.out.lt (updG_eq _ _ _ _)
  rw [← hw4] at E4
  have HST := hid (Lg.start (h0 := h0) (V0 := V) E4 (by rw [updG_ne _ _ _ (show h0 ≠ s3 by omega), updG_ne _ _ _ (show h0 ≠ s2 by omega), updG_eq]) (by rw [updG_ne _ _ _ (show s2 ≠ s3 by omega), updG_eq]) (updG_eq _ _ _ _) (Nat.le_refl _) o1 o2 o3 (fun k hk => by rw [updG_ne _ _ _ (by omega), updG_ne _ _ _ (by omega), updG_ne _ _ _ (by omega)]) Ha0.out Hb0.out Hal.out Hbl.out)
  have HO := hid (show h0 < s2 ∧ s2 < s3 ∧ s3 < s4 from ⟨o1, o2, o3⟩)
  clear o1 o2 o3
  go_upto_region 10 with fail
  rw [← hs4, ← hw4]
  have HS4 := hid hs4
  clear hs4 hw4
  have vA : (updG (updG (updG (updG (updG (updG V h0 103 (sv (a.natAbs : Int))) s2 103 (sv (b.natAbs : Int))) s3 103 (sv 1)) s4 103 (sv 0)) (s4 + 1) 103 (sv 0)) (s4 + 2) 103 (sv 0)) h0 = some (103, sv (a.natAbs : Int)) := by
    have := HO.out
    rw [updG_ne _ _ _ (by omega), updG_ne _ _ _ (by omega), updG_ne _ _ _ (by omega), updG_ne _ _ _ (by omega), updG_ne _ _ _ (by omega), updG_eq]
  have vB : (updG (updG (updG (updG (updG (updG V h0 103 (sv (a.natAbs : Int))) s2 103 (sv (b.natAbs : Int))) s3 103 (sv 1)) s4 103 (sv 0)) (s4 + 1) 103 (sv 0)) (s4 + 2) 103 (sv 0)) s2 = some (103, sv (b.natAbs : Int)) := by
    have := HO.out
    rw [updG_ne _ _ _ (by omega), updG_ne _ _ _ (by omega), updG_ne _ _ _ (by omega), updG_ne _ _ _ (by omega), updG_eq]
  obtain ⟨_, _, _, _, a1, _, _, hla, hra⟩ := E4.cells vA
  obtain ⟨_, _, _, _, b1, _, _, hlb, hrb⟩ := E4.cells vB
  have HCMP := hid (cmp_any _ _ _ _ _ _ _ _ w4.drew (hra.drew) (hrb.drew))
  rw [show (sv (a.natAbs : Int)).2 = a.natAbs from Int.natAbs_natCast _, show (sv (b.natAbs : Int)).2 = b.natAbs from Int.natAbs_natCast _] at HCMP
  clear vA vB hra hrb hla hlb E4
  obtain ⟨c, hc⟩ : ∃ c, c = cmpI a.natAbs b.natAbs := ⟨_, rfl⟩
  have hcab : c < 0 ↔ a.natAbs < b.natAbs := by
    rw [hc]; unfold cmpI
    split
    · omega
    · split <;> omega
  rw [← hc] at HCMP
  have HCAB := hid hcab
  clear hc hcab
  go_still_tail 8, (by kernel_rfl)
  go_wp2_with fail
  refine HCMP.out.mono ?_
  rintro e w5 ⟨rfl, k, rfl⟩
  have HK5 := hid (show Keeps (fun _ => False) w4 (w4.drewN (1 + k)) from (Keeps.refl _ w4).drewN (1 + k))
  go_upto_if 60 with fail
  go_cut [11, 12, 13, 14] from 51 to 65 (fun x11 x12 x13 x14 wx => LgLoop S w0 h0 V (a.natAbs : Int) (b.natAbs : Int) (s4 + 1) x11 x12 x13 x14 (.pointer (some ⟨s4 + 2, 0, none⟩)) wx)
  case first =>
    by_cases hab : a.natAbs < b.natAbs
    · rw [decide_eq_true (HCAB.out.mpr hab)]
      have HL := hid (HST.out.2 hab)
      clear hab
      go_wp2_with fail
      go_meet
      case rel => exact ⟨_, _, _, _, _, _, _, _, _, rfl, rfl, rfl, rfl, rfl, HL.out.keep HK5.out⟩
    · rw [decide_eq_false (fun h => hab (HCAB.out.mp h))]
      have HL := hid (HST.out.1 (by omega))
      clear hab
      go_wp2_with fail
      go_meet
      case rel => exact ⟨_, _, _, _, _, _, _, _, _, rfl, rfl, rfl, rfl, rfl, HL.out.keep HK5.out⟩
  case rest =>
    have HREL := hid hcut
    clear hcut a1 b1 HCMP HST C1 C2 C3 K2 K3
    go_wp2_with fail
    go_loopw [11, 12, 13, 14, 17, 18, 19, 20, 21, 22] (fun x11 x12 x13 x14 x17 _ _ _ _ _ wr => LgLoop S w0 h0 V (a.natAbs : Int) (b.natAbs : Int) (s4 + 1) x11 x12 x13 x14 x17 wr) (fun _ x12 _ _ _ _ _ _ _ _ wr => Go.Proofs.absAt wr x12)
    case atStart => exact HREL.out
    case round =>
      obtain ⟨pA, pB, pU, pX, pr, A, B, U, X, rfl, rfl, rfl, rfl, rfl, hL⟩ := hrel
      obtain ⟨aA, lA, cA, cA1, hlA, _⟩ := hL.cellA
      obtain ⟨aB, lB, cB, cB1, hlB, _⟩ := hL.cellB
      have HL := hid hL; have HlA := hid hlA; have HlB := hid hlB
      clear hL hlA hlB
      by_cases hW : W64 ≤ B.natAbs
      · have t1 : decide ((1 : Int) < (lB : Int)) = true := by
          have := (words_gt1 B.natAbs).mpr hW
          rw [← HlB.out] at this
          simp; omega
        have hBpos : 0 < B := by have := HL.out.gc.ba; have : 0 < W64 := W64_pos; omega
        have HSIM := hid (HL.out.sim hW)
        have HBP := hid hBpos
        clear hW hBpos
        go_wp2_with fail
        refine HSIM.out.mono ?_
        rintro e w5 ⟨u0, u1, v0, v1, ev, rfl, g1, g2, g3, g4, hso, hk⟩
        have HL5 := hid (HL.out.keep hk)
        have HSO := hid hso
        clear hk hso HSIM cA1 cB1 t1
        by_cases hv : v0 = 0
        · subst hv
          have HEU := hid (HL5.out.eu HBP.out HG0.out HSG.out)
          clear g1 g2 g3 g4
          go_wp2_with fail
          refine HEU.out.mono ?_
          rintro e w6 ⟨rfl, hL6⟩
          have HL6 := hid hL6
          clear hL6 HEU
          go_wp2_with fail
          refine ⟨⟨_, _, _, _, _, _, _, _, _, rfl, rfl, rfl, rfl, rfl, HL6.out⟩, ?_⟩
          rw [HL6.out.absB, HL.out.absB]
          have h1 := Int.emod_lt_of_pos A HBP.out
          have h2 := Int.emod_nonneg A (show B ≠ 0 by have := HBP.out; omega)
          omega
        · have t2 : ((v0 : Int) == 0) = false := by simp; omega
          have HUP := hid (HL5.out.up HSO.out hv g1 g2 g3 g4)
          have HNX := hid (HSO.out.next hv)
          clear g1 g2 g3 g4 hv
          go_wp2_with fail
          refine HUP.out.mono ?_
          rintro e w6 ⟨rfl, h2⟩
          have H2 := hid h2
          clear h2 HUP
          go_wp2_with fail
          refine H2.out.mono ?_
          rintro e w7 ⟨rfl, hL7⟩
          have HL7 := hid hL7
          clear hL7 H2
          go_wp2_with fail
          refine ⟨⟨_, _, _, _, _, _, _, _, _, rfl, rfl, rfl, rfl, rfl, HL7.out⟩, ?_⟩
          rw [HL7.out.absB, HL.out.absB]
          obtain ⟨n1, n2, n3, _⟩ := HNX.out
          omega
      · have t1 : decide ((1 : Int) < (lB : Int)) = false := by
          have : ¬ 1 < lB := by rw [HlB.out]; intro h; exact hW ((words_gt1 _).mp h)
          simp; omega
        have HW := hid (show B.natAbs < W64 by omega)
        clear hW
        go_upto_if 122 with fail
        go_cut [11, 12, 13, 14, 17, 23, 24, 25, 26, 27, 28, 29, 30, 31] from 117 to 213 (fun x11 _ x13 _ _ _ _ _ _ _ _ _ _ _ wx => LgEnd S w0 h0 V (a.natAbs : Int) (b.natAbs : Int) x11 x13 wx)
        case first =>
          by_cases hB0 : B = 0
          · subst hB0
            have t2 : decide (0 < lB) = false := by
              have : lB = 0 := by rw [HlB.out]; exact (words_len_zero _).mpr rfl
              simp; omega
            rw [t2]
            clear t1 t2
            go_wp2_with fail
            go_meet
            case rel => exact HL.out.fin
          · have t2 : decide (0 < lB) = true := by
              have : 0 < lB := by rw [HlB.out]; exact (words_gt0 _).mpr (by omega)
              simp; omega
            have HB0 := hid hB0
            rw [t2]
            clear t1 t2 hB0
            go_upto_if 128 with fail
            go_cut [11, 12, 13, 14, 17] from 123 to 143 (fun x11 x12 x13 x14 x17 wx => ∃ pA pB pU pX pr A B U X, x11 = .pointer (some ⟨pA, 0, none⟩) ∧ x12 = .pointer (some ⟨pB, 0, none⟩) ∧ x13 = .pointer (some ⟨pU, 0, none⟩) ∧ x14 = .pointer (some ⟨pX, 0, none⟩) ∧ x17 = .pointer (some ⟨pr, 0, none⟩) ∧ Lg S w0 h0 V (a.natAbs : Int) (b.natAbs : Int) pA pB pU pX (s4 + 1) pr A B U X wx ∧ A.natAbs < W64)
            case first =>
              by_cases hAW : W64 ≤ A.natAbs
              · have t3 : decide ((1 : Int) < (lA : Int)) = true := by
                  have := (words_gt1 A.natAbs).mpr hAW
                  rw [← HlA.out] at this
                  simp; omega
                have HEU := hid (HL.out.eu (by have := HL.out.gc.ba; have := HB0.out; omega) HG0.out HSG.out)
                rw [t3]
                clear hAW t3
                go_wp2_with fail
                refine HEU.out.mono ?_
                rintro e w6 ⟨rfl, hL6⟩
                have HL6 := hid hL6
                clear hL6 HEU
                go_wp2_with fail
                go_meet
                case rel => exact ⟨_, _, _, _, _, _, _, _, _, rfl, rfl, rfl, rfl, rfl, HL6.out, HW.out⟩
              · have t3 : decide ((1 : Int) < (lA : Int)) = false := by
                  have : ¬ 1 < lA := by rw [HlA.out]; intro h; exact hAW ((words_gt1 _).mp h)
                  simp; omega
                have HAW := hid (show A.natAbs < W64 by omega)
                rw [t3]
                clear hAW t3
                go_wp2_with fail
                go_meet
                case rel => exact ⟨_, _, _, _, _, _, _, _, _, rfl, rfl, rfl, rfl, rfl, HL.out, HAW.out⟩
            case rest =>
              clear cA1 cB1 HL HlA HlB HW HB0
              obtain ⟨pA, pB, pU, pX, pr, A, B, U, X, rfl, rfl, rfl, rfl, rfl, hL, hAW⟩ := hcut
              obtain ⟨aB, lB, cB, cB1, hlB, _⟩ := hL.cellB
              have HL := hid hL; have HlB := hid hlB; have HAW := hid hAW
              clear hL hlB hAW
              by_cases hB0 : B = 0
              · subst hB0
                have hlB : lB = 0 := by rw [HlB.out]; exact (words_len_zero _).mpr rfl
                subst hlB
                go_wp2_with fail
                go_meet
                case rel => exact HL.out.fin
              · have hBA := HL.out.gc.ba
                have hBW : B.natAbs < W64 := by have := HAW.out; omega
                obtain ⟨kA, oA, dA, a1, a2⟩ := HL.out.wordA HAW.out
                obtain ⟨kB, oB, dB, b1, b2⟩ := HL.out.wordB hBW hB0
                have HEU0 := hid (Eu.start (a0 := A.natAbs) (b0 := B.natAbs) (by omega) (by omega))
                obtain ⟨M, hM⟩ : ∃ M, M = A.natAbs := ⟨_, rfl⟩
                obtain ⟨N, hN⟩ : ∃ N, N = B.natAbs := ⟨_, rfl⟩
                rw [← hM] at a2
                rw [← hN] at b2
                rw [← hM, ← hN] at HEU0
                have HM := hid hM; have HN := hid hN; have HBW := hid hBW
                clear hBA hBW hB0 hM hN cB1
                obtain ⟨wk, hwk⟩ : ∃ wk : World, wk = wc := ⟨_, rfl⟩
                go_wp2_with fail
                go_quiet (fail)
                go_wp2_with fail
                go_loopw [23, 24, 25, 26, 27, 28, 29, 30, 31] (fun x23 x24 x25 x26 x27 x28 x29 _ _ wr => EuRel M N wc x23 x24 x25 x26 x27 x28 x29 wr) (fun _ x24 _ _ _ _ _ _ _ _ => (intOf x24).toNat)
                case atStart => exact ⟨M, N, 1, 0, 0, 1, false, rfl, rfl, rfl, rfl, rfl, rfl, rfl, HEU0.out, by rw [HM.out]; exact HAW.out, by rw [HN.out]; exact HBW.out, (Keeps.refl _ wc).drewN _⟩
                case round =>
                  obtain ⟨w1, w2, u1, u2, v1, v2, ev, rfl, rfl, rfl, rfl, rfl, rfl, rfl, he, hw1, hw2, hk⟩ := hrel
                  have HK := hid hk
                  clear hk
                  by_cases h0 : w2 = 0
                  · subst h0
                    have HLr := hid (HL.out.keep HK.out)
                    have he' := he
                    rw [HM.out, HN.out] at he'
                    have HLA := hid (HLr.out.last HAW.out HBW.out he')
                    clear he he' a1 a2 b1 b2
                    go_wp2_with fail
                    refine HLA.out.mono ?_
                    rintro e w5 ⟨rfl, h2⟩
                    have H2 := hid h2
                    clear h2 HLA
                    go_wp2_with fail
                    refine H2.out.mono ?_
                    rintro e w6 ⟨rfl, h2⟩
                    have H3 := hid h2
                    clear h2 H2
                    go_wp2_with fail
                    refine H3.out.mono ?_
                    rintro e w7 ⟨rfl, k, o, c, k1, k2, k3, hend⟩
                    have HEND := hid hend
                    clear hend H3
                    go_wp2_with fail
                    go_meet
                    case rel => exact HEND.out
                  · have hpos : 0 < w2 := by omega
                    have HEN := hid (he.step hpos)
                    have hbn := (he.step hpos).bounds
                    have hM64 : M < W64 := by rw [HM.out]; exact HAW.out
                    have hN64 : N < W64 := by rw [HN.out]; exact HBW.out
                    obtain ⟨q, hq⟩ : ∃ q, q = w1 / w2 := ⟨_, rfl⟩
                    obtain ⟨r, hr⟩ : ∃ r, r = w1 % w2 := ⟨_, rfl⟩
                    obtain ⟨qu, hqu⟩ : ∃ x, x = q * u2 := ⟨_, rfl⟩
                    obtain ⟨qv, hqv⟩ : ∃ x, x = q * v2 := ⟨_, rfl⟩
                    obtain ⟨nu, hnu⟩ : ∃ x, x = u1 + qu := ⟨_, rfl⟩
                    obtain ⟨nv, hnv⟩ : ∃ x, x = v1 + qv := ⟨_, rfl⟩
                    rw [← hq, ← hqu, ← hqv, ← hnu, ← hnv] at hbn
                    rw [← hq, ← hr, ← hqu, ← hqv, ← hnu, ← hnv] at HEN
                    have hrl : r < w2 := by rw [hr]; exact Nat.mod_lt _ hpos
                    have hql : q ≤ w1 := by rw [hq]; exact Nat.div_le_self _ _
                    have z0 : ((w2 : Int) == 0) = false := by simp; omega
                    have e1 : (w1 : Int).tdiv (w2 : Int) = (q : Int) := by rw [hq]; exact (Int.ofNat_tdiv w1 w2).symm
                    have e2 : (w1 : Int).tmod (w2 : Int) = (r : Int) := by rw [hr]; exact (Int.ofNat_tmod w1 w2).symm
                    have e3 : (w1 : Int) / (w2 : Int) = (q : Int) := by rw [hq]; rfl
                    have e4 : (w1 : Int) % (w2 : Int) = (r : Int) := by rw [hr]; rfl
                    have g3 : IntKind.u64.wrap (q : Int) = (q : Int) := u64_wrap _ (by omega)
                    have g4 : IntKind.u64.wrap (r : Int) = (r : Int) := u64_wrap _ (by omega)
                    have g5 : IntKind.u64.wrap ((q : Int) * (u2 : Int)) = (qu : Int) := by rw [← Int.natCast_mul, ← hqu]; exact u64_wrap _ (by omega)
                    have g6 : IntKind.u64.wrap ((q : Int) * (v2 : Int)) = (qv : Int) := by rw [← Int.natCast_mul, ← hqv]; exact u64_wrap _ (by omega)
                    have g7 : IntKind.u64.wrap ((u1 : Int) + (qu : Int)) = (nu : Int) := by rw [← Int.natCast_add, ← hnu]; exact u64_wrap _ (by omega)
                    have g8 : IntKind.u64.wrap ((v1 : Int) + (qv : Int)) = (nv : Int) := by rw [← Int.natCast_add, ← hnv]; exact u64_wrap _ (by omega)
                    have HRW := hid (show r < w2 ∧ w2 < W64 ∧ r < W64 from ⟨hrl, hw2, by omega⟩)
                    clear he hbn hM64 hN64 hq hr hqu hqv hnu hnv hrl hql h0 hw1 hw2 a1 a2 b1 b2
                    go_wp2_with fail
                    go_quiet (fail)
                    go_wp2_with fail
                    refine ⟨⟨w2, r, u2, nu, v2, nv, !ev, rfl, rfl, rfl, rfl, rfl, rfl, (by first | rfl | simp), HEN.out, HRW.out.2.1, HRW.out.2.2, HK.out.drewN nq⟩, by have := HRW.out.1; simp [intOf]; omega⟩
        case rest =>
          clear cA1 cB1 t1 HL HlA HlB HW
          obtain ⟨pA, pU, V1, U, rfl, rfl, hE, vA, vU, hV, gA, gU, nAU, hd, hu1, hu2, hgl⟩ := hcut
          have hgcd : Int.gcd (a.natAbs : Int) (b.natAbs : Int) = Int.gcd a b := rfl
          rw [hgcd] at vA hd hgl
          have l200 := H200.out
          have l40 : W64 ^ 11 ≤ W64 ^ 38 := Nat.pow_le_pow_right (by unfold W64; omega) (by omega)
          have lz : pz < h0 := by rw [Hh0.out]; exact HE.out.lt Hz.out
          have lx : px < h0 := by rw [Hh0.out]; exact HE.out.lt Hx.out
          have ly : py < h0 := by rw [Hh0.out]; exact HE.out.lt Hy.out
          have la : pa < h0 := by rw [Hh0.out]; exact Hla.out
          have lb : pb < h0 := by rw [Hh0.out]; exact Hlb.out
          have a0 := (hE.sign ((hV pa la).trans Ha.out)).1
          have hbl := Hbl.out
          have hal := Hal.out
          have hUl : U.natAbs < W64 ^ 11 := by omega
          have qE := eql_other hE ((hV py ly).trans Hy.out) ((hV pb lb).trans Hb.out) Hyb.out
          -- the numbers
          obtain ⟨P, hP⟩ : ∃ P, P = a * U := ⟨_, rfl⟩
          obtain ⟨X, hX⟩ : ∃ X, X = if a < 0 then -U else U := ⟨_, rfl⟩
          obtain ⟨D, hD⟩ : ∃ D, D = (Int.gcd a b : Int) - a * X := ⟨_, rfl⟩
          have hPl : P.natAbs < W64 ^ 22 := by
            rw [hP, Int.natAbs_mul, show W64 ^ 22 = W64 ^ 11 * W64 ^ 11 by rw [← Nat.pow_add]]
            exact Nat.mul_lt_mul'' hal hUl
          have hPD : (a < 0 → D = (Int.gcd a b : Int) - -P) ∧ (¬ a < 0 → D = (Int.gcd a b : Int) - P) := by
            constructor
            · intro h; rw [hD, hX, if_pos h, hP, Int.mul_neg]
            · intro h; rw [hD, hX, if_neg h, hP]
          have hbD : b ∣ D := by
            have h1 : b ∣ U * (a.natAbs : Int) - (Int.gcd a b : Int) := Int.dvd_trans (Int.dvd_natAbs_self) hd
            have h2 : U * (a.natAbs : Int) = a * X := by
              rw [hX]
              by_cases h : a < 0
              · rw [if_pos h, show ((a.natAbs : Nat) : Int) = -a by omega, Int.mul_neg, Int.mul_neg, Int.mul_comm]
              · rw [if_neg h, show ((a.natAbs : Nat) : Int) = a by omega, Int.mul_comm]
            rw [h2] at h1
            rw [hD, show (Int.gcd a b : Int) - a * X = -(a * X - (Int.gcd a b : Int)) by omega]
            exact Int.dvd_neg.mpr h1
          have hDl : D.natAbs < W64 ^ 38 := by
            have h1 : D.natAbs ≤ (Int.gcd a b) + P.natAbs := by
              by_cases h : a < 0
              · have := hPD.1 h; omega
              · have := hPD.2 h; omega
            have h2 : W64 ^ 11 + W64 ^ 22 ≤ W64 ^ 38 := by unfold W64; decide +kernel
            omega
          have hex := dmQ_exact Hb0.out hbD
          obtain ⟨Y, hY⟩ : ∃ Y, Y = dmQ D b := ⟨_, rfl⟩
          rw [← hY] at hex
          have hlaw : a * X + b * Y = (Int.gcd a b : Int) := by omega
          have hXb : X.natAbs ≤ b.natAbs := by rw [hX]; split <;> omega
          have hgb : (Int.gcd a b : Int) ≤ (b.natAbs : Int) := by
            have : Int.gcd a b ≤ b.natAbs := Nat.le_of_dvd (by have := Hb0.out; omega) (Nat.gcd_dvd_right _ _)
            omega
          have hYs := bez_size hlaw Hb0.out (by omega) hgb hXb
          -- y.Mul
          have C1 := hid (hE.mul147 ((hV py ly).trans Hy.out) ((hV pa la).trans Ha.out) vU (hE.glob HG0.out HSG.out) hal hUl)
          rw [← hP] at C1
          obtain ⟨V2, hV2⟩ : ∃ V2, V2 = updG V1 py ty (sv P) := ⟨_, rfl⟩
          rw [← hV2] at C1
          have v2y : V2 py = some (ty, sv P) := by rw [hV2, updG_eq]
          have v2k : ∀ k, k ≠ py → V2 k = V1 k := fun k hk => by rw [hV2, updG_ne _ _ _ hk]
          obtain ⟨sP, hsP⟩ : ∃ s, s = (sv P).1 := ⟨_, rfl⟩
          have hsgP : sgnv sP P.natAbs = P := by rw [hsP]; exact sgnv_sv P
          have HS2 : Hid (∀ w5, EnvG S w0 w5 V2 → w5.cell? ⟨py, 0, none⟩ = some (.bool sP) ∧ w5.frozen? ⟨py, 0, none⟩ = false ∧ EnvG S w0 (w5.setCell ⟨py, 0, none⟩ (.bool (!sP))) (updG V2 py ty (!sP, P.natAbs)) ∧ EnvG S w0 w5 (updG V2 py ty (sP, P.natAbs))) := hid (fun w5 h5 => by
            obtain ⟨c1, c2⟩ := h5.sign v2y
            rw [hsP]
            exact ⟨c1, c2, h5.setSign v2y _, h5.same_at v2y⟩)
          -- y.Sub
          have C2 : Hid (∀ w5 s, sgnv s P.natAbs = (Int.gcd a b : Int) - D → EnvG S w0 w5 (updG V2 py ty (s, P.natAbs)) → Calls Tryz.prog 146 #[.pointer (some ⟨py, 0, none⟩), .pointer (some ⟨pA, 0, none⟩), .pointer (some ⟨py, 0, none⟩)] w5 fun e w' => e = .returned (.pointer (some ⟨py, 0, none⟩)) ∧ EnvG S w0 w' (updG (updG V2 py ty (s, P.natAbs)) py ty (sv D))) := hid (fun w5 s hs h5 => by
            have h40 : W64 ^ 22 ≤ W64 ^ 40 := Nat.pow_le_pow_right (by unfold W64; omega) (by omega)
            have h41 : W64 ^ 11 ≤ W64 ^ 40 := Nat.pow_le_pow_right (by unfold W64; omega) (by omega)
            have := h5.sub146 (pz := py) (px := pA) (py := py) (updG_eq _ _ _ _) (by rw [updG_ne _ _ _ (by omega), v2k _ (by omega)]; exact vA) (updG_eq _ _ _ _) (by show ((Int.gcd a b : Nat) : Int).natAbs < _; rw [Int.natAbs_natCast]; omega) (Nat.lt_of_lt_of_le hPl h40)
            rw [sgnv_sv, hs, show (Int.gcd a b : Int) - ((Int.gcd a b : Int) - D) = D by omega] at this
            exact this)
          -- y.Div
          have C3 : Hid (∀ w6 s, EnvG S w0 w6 (updG (updG V2 py ty (s, P.natAbs)) py ty (sv D)) → Calls Tryz.prog 150 #[.pointer (some ⟨py, 0, none⟩), .pointer (some ⟨py, 0, none⟩), .pointer (some ⟨pb, 0, none⟩)] w6 fun e w' => e = .returned (.pointer (some ⟨py, 0, none⟩)) ∧ ∃ V4, EnvG S w0 w' V4 ∧ V4 py = some (ty, sv Y) ∧ V4 px = some (tx, sv x) ∧ V4 pz = some (tz, sv z) ∧ V4 pA = some (103, sv (Int.gcd a b : Int)) ∧ V4 pU = some (103, sv U) ∧ (∀ k, k < h0 → k ≠ py → V4 k = V k)) := hid (fun w6 s h6 => by
            have e6 : ∀ k, k ≠ py → (updG (updG V2 py ty (s, P.natAbs)) py ty (sv D)) k = V1 k := fun k hk => by rw [updG_ne _ _ _ hk, updG_ne _ _ _ hk, v2k _ hk]
            have fA := (e6 pA (by omega)).trans vA
            have fU := (e6 pU (by omega)).trans vU
            have gA6 := h6.lt fA
            have gU6 := h6.lt fU
            refine (h6.div150 (updG_eq _ _ _ _) (updG_eq _ _ _ _) ((e6 pb (Ne.symm Hyb.out)).trans ((hV pb lb).trans Hb.out)) HG0.out HSG.out Hb0.out hDl (Nat.lt_of_lt_of_le hbl l40)).mono ?_
            rintro e w' ⟨rfl, V4, h4, v4, v4k⟩
            rw [← hY] at v4
            exact ⟨rfl, V4, h4, v4, (v4k px (by omega) Hxy.out).trans ((e6 px Hxy.out).trans ((hV px lx).trans Hx.out)), (v4k pz (by omega) Hzy.out).trans ((e6 pz Hzy.out).trans ((hV pz lz).trans Hz.out)), (v4k pA gA6 (by omega)).trans fA, (v4k pU gU6 (by omega)).trans fU, fun k k1 k2 => (v4k k (by omega) k2).trans ((e6 k k2).trans (hV k k1))⟩)
          -- x.Set
          have C4 : Hid (∀ w7 V4, EnvG S w0 w7 V4 → V4 px = some (tx, sv x) → V4 pU = some (103, sv U) → Calls Tryz.prog 160 #[.pointer (some ⟨px, 0, none⟩), .pointer (some ⟨pU, 0, none⟩)] w7 fun e w' => e = .returned (.pointer (some ⟨px, 0, none⟩)) ∧ EnvG S w0 w' (updG V4 px tx (sv U))) := hid (fun w7 V4 h7 k1 k2 => h7.set160 k1 k2 (by omega) (show U.natAbs < W64 ^ 200 by omega))
          obtain ⟨sU, hsU⟩ : ∃ s, s = (sv U).1 := ⟨_, rfl⟩
          have HS5 : Hid (∀ w8 V4, EnvG S w0 w8 (updG V4 px tx (sv U)) → w8.cell? ⟨px, 0, none⟩ = some (.bool sU) ∧ w8.frozen? ⟨px, 0, none⟩ = false ∧ EnvG S w0 (w8.setCell ⟨px, 0, none⟩ (.bool (!sU))) (updG (updG V4 px tx (sv U)) px tx (!sU, U.natAbs)) ∧ EnvG S w0 w8 (updG (updG V4 px tx (sv U)) px tx (sU, U.natAbs))) := hid (fun w8 V4 h8 => by
            obtain ⟨c1, c2⟩ := h8.sign (updG_eq _ _ _ _)
            rw [hsU]
            exact ⟨c1, c2, h8.setSign (updG_eq _ _ _ _) _, h8.same_at (updG_eq _ _ _ _)⟩)
          -- z.Set
          have C5 : Hid (∀ w9 V4 s, EnvG S w0 w9 (updG (updG V4 px tx (sv U)) px tx (s, U.natAbs)) → V4 pz = some (tz, sv z) → V4 pA = some (103, sv (Int.gcd a b : Int)) → Calls Tryz.prog 160 #[.pointer (some ⟨pz, 0, none⟩), .pointer (some ⟨pA, 0, none⟩)] w9 fun e w' => e = .returned (.pointer (some ⟨pz, 0, none⟩)) ∧ EnvG S w0 w' (updG (updG (updG V4 px tx (sv U)) px tx (s, U.natAbs)) pz tz (sv (Int.gcd a b : Int)))) := hid (fun w9 V4 s h9 k1 k2 =>
            h9.set160 ((updG_ne _ _ _ Hzx.out).trans ((updG_ne _ _ _ Hzx.out).trans k1)) ((updG_ne _ _ _ (by omega)).trans ((updG_ne _ _ _ (by omega)).trans k2)) (by omega) (by rw [Int.natAbs_natCast]; omega))
          have Fin : Hid (∀ w' V4 s, (s = if a < 0 then !sU else sU) → V4 py = some (ty, sv Y) → (∀ k, k < h0 → k ≠ py → V4 k = V k) → EnvG S w0 w' (updG (updG (updG V4 px tx (sv U)) px tx (s, U.natAbs)) pz tz (sv (Int.gcd a b : Int))) → LgRes2 S w0 h0 V a b pz px py tz tx ty w') := hid (fun w' V4 s hs k1 k2 h' =>
            ⟨_, X, s, Y, h', updG_eq _ _ _ _, by
              rw [updG_ne _ _ _ (Ne.symm Hzx.out), updG_eq]
              have : X.natAbs = U.natAbs := by rw [hX]; split <;> omega
              rw [this], by rw [updG_ne _ _ _ (Ne.symm Hzy.out), updG_ne _ _ _ (Ne.symm Hxy.out), updG_ne _ _ _ (Ne.symm Hxy.out)]; exact k1, fun hX0 => by
              rw [hs, hsU]
              show (if a < 0 then !decide (U < 0) else decide (U < 0)) = decide (X < 0)
              rw [hX] at hX0 ⊢
              by_cases h : a < 0
              · rw [if_pos h] at hX0 ⊢
                rw [if_pos h]
                by_cases hU : U < 0
                · rw [decide_eq_true hU, decide_eq_false (by omega)]; rfl
                · rw [decide_eq_false hU, decide_eq_true (by omega)]; rfl
              · rw [if_neg h, if_neg h], fun k q1 q2 q3 q4 => by rw [updG_ne _ _ _ q2, updG_ne _ _ _ q3, updG_ne _ _ _ q3]; exact k2 k q1 q4, hlaw, by omega, hYs⟩)
          have HPD := hid hPD; have HSGP := hid hsgP
          clear hE vA vU hV gA gU nAU hd hu1 hu2 hgl l200 l40 lz lx ly la lb hbl hal hUl hV2 v2y v2k hsU hsP hgcd hP hX hD hPl hPD hbD hDl hex hY hlaw hXb hgb hYs hsgP
          by_cases han : a < 0
          · rw [show (sv a).1 = true from decide_eq_true han] at a0
            have HF := hid (fun w' V4 => Fin.out w' V4 (!sU) (by rw [if_pos han]))
            have HD1 := hid (C2.out · (!sP) (by rw [sgnv_flip, HSGP.out]; have := HPD.out.1 han; omega))
            clear han Fin HPD
            go_wp2_with fail
            refine C1.out.mono ?_
            rintro e w5 ⟨rfl, E5⟩
            obtain ⟨c1, c2, c3, _⟩ := HS2.out w5 E5
            have K3 := hid (HD1.out _ c3)
            clear E5 c3 C1 C2 qE
            go_wp2_with fail
            refine K3.out.mono ?_
            rintro e w6 ⟨rfl, E6⟩
            have K4 := hid (C3.out w6 _ E6)
            clear E6 K3 c1 c2 HD1
            go_wp2_with fail
            refine K4.out.mono ?_
            rintro e w7 ⟨rfl, V4, E7, v1, v2, v3, v4, v5, v6⟩
            have HV4 := hid (And.intro v1 (And.intro v3 (And.intro v4 v6)))
            have K5 := hid (C4.out w7 V4 E7 v2 v5)
            clear E7 v1 v2 v3 v4 v5 v6 K4
            go_wp2_with fail
            refine K5.out.mono ?_
            rintro e w8 ⟨rfl, E8⟩
            obtain ⟨c1, c2, c3, _⟩ := HS5.out w8 V4 E8
            have K6 := hid (C5.out _ V4 _ c3 HV4.out.2.1 HV4.out.2.2.1)
            clear E8 c3 K5
            go_wp2_with fail
            refine K6.out.mono ?_
            rintro e w9 ⟨rfl, E9⟩
            have HE9 := hid E9
            clear E9 K6
            go_wp2_with fail
            go_ret
            exact ⟨rfl, HF.out _ V4 HV4.out.1 HV4.out.2.2.2 HE9.out⟩
          · rw [show (sv a).1 = false from decide_eq_false han] at a0
            have HF := hid (fun w' V4 => Fin.out w' V4 sU (by rw [if_neg han]))
            have HD1 := hid (C2.out · sP (by rw [HSGP.out]; have := HPD.out.2 han; omega))
            clear han Fin HPD
            go_wp2_with fail
            refine C1.out.mono ?_
            rintro e w5 ⟨rfl, E5⟩
            obtain ⟨_, _, _, c4⟩ := HS2.out w5 E5
            have K3 := hid (HD1.out _ c4)
            clear E5 c4 C1 C2 qE
            go_wp2_with fail
            refine K3.out.mono ?_
            rintro e w6 ⟨rfl, E6⟩
            have K4 := hid (C3.out w6 _ E6)
            clear E6 K3 HD1
            go_wp2_with fail
            refine K4.out.mono ?_
            rintro e w7 ⟨rfl, V4, E7, v1, v2, v3, v4, v5, v6⟩
            have HV4 := hid (And.intro v1 (And.intro v3 (And.intro v4 v6)))
            have K5 := hid (C4.out w7 V4 E7 v2 v5)
            clear E7 v1 v2 v3 v4 v5 v6 K4
            go_wp2_with fail
            refine K5.out.mono ?_
            rintro e w8 ⟨rfl, E8⟩
            obtain ⟨_, _, _, c4⟩ := HS5.out w8 V4 E8
            have K6 := hid (C5.out _ V4 _ c4 HV4.out.2.1 HV4.out.2.2.1)
            clear E8 c4 K5
            go_wp2_with fail
            refine K6.out.mono ?_
            rintro e w9 ⟨rfl, E9⟩
            have HE9 := hid E9
            clear E9 K6
            go_wp2_with fail
            go_ret
            exact ⟨rfl, HF.out _ V4 HV4.out.1 HV4.out.2.2.2 HE9.out⟩
end Go.Proofs
namespace Go.Proofs
open Go.RowKit
set_option maxHeartbeats 1000000
set_option linter.unusedVariables false
set_option linter.unusedSimpArgs false
set_option maxRecDepth 100000

/-- GCD with both factors, not both numbers nought. -/
theorem EnvG.gcd156_both {S : Nat → Prop} {w0 w : World} {V : Nat → Option (TypeId × SV)} (h : EnvG S w0 w V) {pz px py pa pb : Nat} {tz tx ty ta tb : TypeId} {z x y : Int} {a b : Int} (hz : V pz = some (tz, sv z)) (hx : V px = some (tx, sv x)) (hy : V py = some (ty, sv y)) (ha : V pa = some (ta, sv a)) (hb : V pb = some (tb, sv b))
    (hzx : pz ≠ px) (hzy : pz ≠ py) (hxy : px ≠ py) (hza : pz ≠ pa) (hzb : pz ≠ pb) (hya : py ≠ pa) (hyb : py ≠ pb) (G0 : Glob w0) (hSG : ∀ k, GB k → ¬ S k) (hab : ¬ (a = 0 ∧ b = 0)) (hal : a.natAbs < W64 ^ 11) (hbl : b.natAbs < W64 ^ 11) :
    Calls Tryz.prog 156 #[.pointer (some ⟨pz, 0, none⟩), .pointer (some ⟨px, 0, none⟩), .pointer (some ⟨py, 0, none⟩), .pointer (some ⟨pa, 0, none⟩), .pointer (some ⟨pb, 0, none⟩)] w fun e w' =>
      e = .returned (.pointer (some ⟨pz, 0, none⟩)) ∧ LgRes2 S w0 w.heap.size V a b pz px py tz tx ty w' := by
  obtain ⟨aa, la, ca, a0, a1, _, _, hla, hra⟩ := h.cells ha
  obtain ⟨ab, lb, cb, b0, b1, _, _, hlb, hrb⟩ := h.cells hb
  have Hla := hid hla; have Hlb := hid hlb
  have l200 : W64 ^ 11 ≤ W64 ^ 200 := Nat.pow_le_pow_right (by unfold W64; omega) (by omega)
  have lz := h.lt hz; have lx := h.lt hx; have ly := h.lt hy
  clear hra hrb hla hlb
  by_cases ha0 : a = 0
  · subst ha0
    have hb0 : b ≠ 0 := fun h => hab ⟨rfl, h⟩
    have hla : la = 0 := by rw [Hla.out]; exact (words_len_zero _).mpr rfl
    subst hla
    have hlb0 : 0 < lb := by rw [Hlb.out]; exact words_length_pos (by show b.natAbs ≠ 0; omega)
    have t2 : ((lb : Int) == 0) = false := by simp; omega
    have C1 := hid (fun k => (h.drewN k).set160 hz hb hzb (Nat.lt_of_lt_of_le hbl l200))
    obtain ⟨V1, hV1⟩ : ∃ V1, V1 = updG (updG V pz tz (sv b)) pz tz (false, b.natAbs) := ⟨_, rfl⟩
    have e1 : ∀ k, k ≠ pz → V1 k = V k := fun k hk => by rw [hV1, updG_ne _ _ _ hk, updG_ne _ _ _ hk]
    have HC2 : Hid (∀ w1, EnvG S w0 w1 (updG V pz tz (sv b)) → w1.cell? ⟨pz, 0, none⟩ = some (.bool (sv b).1) ∧ w1.frozen? ⟨pz, 0, none⟩ = false ∧ EnvG S w0 (w1.setCell ⟨pz, 0, none⟩ (.bool false)) V1) := hid (fun w1 h1 => by
      obtain ⟨c0, c2⟩ := h1.sign (updG_eq _ _ _ _)
      exact ⟨c0, c2, by rw [hV1]; exact h1.setSign (updG_eq _ _ _ _) false⟩)
    have C3 : Hid (∀ w1, EnvG S w0 w1 V1 → Calls Tryz.prog 162 #[.pointer (some ⟨px, 0, none⟩), .int .u64 0] w1 fun e w' => e = .returned (.pointer (some ⟨px, 0, none⟩)) ∧ EnvG S w0 w' (updG V1 px tx (sv 0))) := hid (fun w1 h1 =>
      h1.setUint64_162 (z := x) ((e1 px (Ne.symm hzx)).trans hx) 0 (by unfold W64; omega))
    have C4 : Hid (∀ w1, EnvG S w0 w1 (updG V1 px tx (sv 0)) → Calls Tryz.prog 162 #[.pointer (some ⟨py, 0, none⟩), .int .u64 1] w1 fun e w' => e = .returned (.pointer (some ⟨py, 0, none⟩)) ∧ EnvG S w0 w' (updG (updG V1 px tx (sv 0)) py ty (sv 1))) := hid (fun w1 h1 =>
      h1.setUint64_162 (z := y) ((updG_ne _ _ _ (Ne.symm hxy)).trans ((e1 py (Ne.symm hzy)).trans hy)) 1 (by unfold W64; omega))
    have hg : Int.gcd 0 b = b.natAbs := Int.gcd_zero_left ..
    obtain ⟨sb, hsb⟩ : ∃ s, s = (sv b).1 := ⟨_, rfl⟩
    have HC5 : Hid (∀ w1, EnvG S w0 w1 (updG (updG V1 px tx (sv 0)) py ty (sv 1)) → w1.cell? ⟨py, 0, none⟩ = some (.bool (sv 1).1) ∧ w1.frozen? ⟨py, 0, none⟩ = false ∧ EnvG S w0 (w1.setCell ⟨py, 0, none⟩ (.bool sb)) (updG (updG (updG V1 px tx (sv 0)) py ty (sv 1)) py ty (sb, 1))) := hid (fun w1 h1 => by
      obtain ⟨c0, c2⟩ := h1.sign (updG_eq _ _ _ _)
      exact ⟨c0, c2, h1.setSign (updG_eq _ _ _ _) sb⟩)
    have Fin : Hid (∀ w', EnvG S w0 w' (updG (updG (updG V1 px tx (sv 0)) py ty (sv 1)) py ty (sb, 1)) → LgRes2 S w0 w.heap.size V 0 b pz px py tz tx ty w') := hid (fun w' h' => by
      have hY : sv (if b < 0 then -1 else 1 : Int) = (sb, 1) := by
        rw [hsb]
        unfold sv
        by_cases h : b < 0
        · rw [if_pos h, decide_eq_true h]; rfl
        · rw [if_neg h, decide_eq_false h]; rfl
      refine ⟨_, 0, false, if b < 0 then -1 else 1, h', ?_, ?_, ?_, fun h => absurd rfl h, fun k k1 k2 k3 k4 => ?_, ?_, by omega, by split <;> omega⟩
      · rw [updG_ne _ _ _ hzy, updG_ne _ _ _ hzy, updG_ne _ _ _ hzx, hV1, updG_eq, hg]
        have : (sv (b.natAbs : Int)) = (false, b.natAbs) := by unfold sv; rw [decide_eq_false (by omega), Int.natAbs_natCast]
        rw [this]
      · rw [updG_ne _ _ _ hxy, updG_ne _ _ _ hxy, updG_eq]; rfl
      · rw [updG_eq, hY]
      · rw [updG_ne _ _ _ k4, updG_ne _ _ _ k4, updG_ne _ _ _ k3, e1 k k2]
      · rw [hg]; split <;> omega)
    rw [← hsb] at b0 HC2
    clear h hz hx hy ha hb hzx hzy hxy hza hzb hya hyb G0 hSG hab hal hbl l200 hV1 hg hb0 hlb0 lz lx ly e1 hsb
    go_enter Tryz.func156, Tryz.ntmps156
    go_wp2_with fail
    go_quiet (fail)
    go_wp2_with fail
    refine (C1.out _).mono ?_
    rintro e w1 ⟨rfl, E1⟩
    obtain ⟨c0, c1, c2⟩ := HC2.out w1 E1
    have HE2 := hid c2
    clear E1 c2
    go_wp2_with fail
    refine (C3.out _ HE2.out).mono ?_
    rintro e w2 ⟨rfl, E2⟩
    have HE3 := hid E2
    clear E2 c0 c1
    go_wp2_with fail
    refine (C4.out _ HE3.out).mono ?_
    rintro e w3 ⟨rfl, E3⟩
    obtain ⟨c0, c1, c2⟩ := HC5.out w3 E3
    have HE4 := hid c2
    clear E3 c2
    go_wp2_with fail
    go_ret
    exact ⟨rfl, Fin.out _ HE4.out⟩
  by_cases hb0 : b = 0
  · subst hb0
    have hlb : lb = 0 := by rw [Hlb.out]; exact (words_len_zero _).mpr rfl
    subst hlb
    have hla0 : 0 < la := by rw [Hla.out]; exact words_length_pos (by show a.natAbs ≠ 0; omega)
    have t1 : ((la : Int) == 0) = false := by simp; omega
    have C1 := hid (fun k => (h.drewN k).set160 hz ha hza (Nat.lt_of_lt_of_le hal l200))
    obtain ⟨V1, hV1⟩ : ∃ V1, V1 = updG (updG V pz tz (sv a)) pz tz (false, a.natAbs) := ⟨_, rfl⟩
    have e1 : ∀ k, k ≠ pz → V1 k = V k := fun k hk => by rw [hV1, updG_ne _ _ _ hk, updG_ne _ _ _ hk]
    have HC2 : Hid (∀ w1, EnvG S w0 w1 (updG V pz tz (sv a)) → w1.cell? ⟨pz, 0, none⟩ = some (.bool (sv a).1) ∧ w1.frozen? ⟨pz, 0, none⟩ = false ∧ EnvG S w0 (w1.setCell ⟨pz, 0, none⟩ (.bool false)) V1) := hid (fun w1 h1 => by
      obtain ⟨c0, c2⟩ := h1.sign (updG_eq _ _ _ _)
      exact ⟨c0, c2, by rw [hV1]; exact h1.setSign (updG_eq _ _ _ _) false⟩)
    have C3 : Hid (∀ w1, EnvG S w0 w1 V1 → Calls Tryz.prog 162 #[.pointer (some ⟨px, 0, none⟩), .int .u64 1] w1 fun e w' => e = .returned (.pointer (some ⟨px, 0, none⟩)) ∧ EnvG S w0 w' (updG V1 px tx (sv 1))) := hid (fun w1 h1 =>
      h1.setUint64_162 (z := x) ((e1 px (Ne.symm hzx)).trans hx) 1 (by unfold W64; omega))
    obtain ⟨sa, hsa⟩ : ∃ s, s = (sv a).1 := ⟨_, rfl⟩
    have HC4 : Hid (∀ w1, EnvG S w0 w1 (updG V1 px tx (sv 1)) → w1.cell? ⟨px, 0, none⟩ = some (.bool (sv 1).1) ∧ w1.frozen? ⟨px, 0, none⟩ = false ∧ EnvG S w0 (w1.setCell ⟨px, 0, none⟩ (.bool sa)) (updG (updG V1 px tx (sv 1)) px tx (sa, 1))) := hid (fun w1 h1 => by
      obtain ⟨c0, c2⟩ := h1.sign (updG_eq _ _ _ _)
      exact ⟨c0, c2, h1.setSign (updG_eq _ _ _ _) sa⟩)
    have C5 : Hid (∀ w1, EnvG S w0 w1 (updG (updG V1 px tx (sv 1)) px tx (sa, 1)) → Calls Tryz.prog 162 #[.pointer (some ⟨py, 0, none⟩), .int .u64 0] w1 fun e w' => e = .returned (.pointer (some ⟨py, 0, none⟩)) ∧ EnvG S w0 w' (updG (updG (updG V1 px tx (sv 1)) px tx (sa, 1)) py ty (sv 0))) := hid (fun w1 h1 =>
      h1.setUint64_162 (z := y) ((updG_ne _ _ _ (Ne.symm hxy)).trans ((updG_ne _ _ _ (Ne.symm hxy)).trans ((e1 py (Ne.symm hzy)).trans hy))) 0 (by unfold W64; omega))
    have hg : Int.gcd a 0 = a.natAbs := Int.gcd_zero_right ..
    have Fin : Hid (∀ w', EnvG S w0 w' (updG (updG (updG V1 px tx (sv 1)) px tx (sa, 1)) py ty (sv 0)) → LgRes2 S w0 w.heap.size V a 0 pz px py tz tx ty w') := hid (fun w' h' => by
      refine ⟨_, if a < 0 then -1 else 1, sa, 0, h', ?_, ?_, updG_eq _ _ _ _, fun _ => ?_, fun k k1 k2 k3 k4 => ?_, ?_, by split <;> omega, by omega⟩
      · rw [updG_ne _ _ _ hzy, updG_ne _ _ _ hzx, updG_ne _ _ _ hzx, hV1, updG_eq, hg]
        have : (sv (a.natAbs : Int)) = (false, a.natAbs) := by unfold sv; rw [decide_eq_false (by omega), Int.natAbs_natCast]
        rw [this]
      · rw [updG_ne _ _ _ hxy, updG_eq]
        have : (if a < 0 then -1 else 1 : Int).natAbs = 1 := by split <;> rfl
        rw [this]
      · rw [hsa]
        show decide (a < 0) = _
        by_cases h : a < 0
        · rw [if_pos h, decide_eq_true h]; rfl
        · rw [if_neg h, decide_eq_false h]; rfl
      · rw [updG_ne _ _ _ k4, updG_ne _ _ _ k3, updG_ne _ _ _ k3, e1 k k2]
      · rw [hg]; split <;> omega)
    rw [← hsa] at a0 HC2
    clear h hz hx hy ha hb hzx hzy hxy hza hzb hya hyb G0 hSG hab hal hbl l200 hV1 hg ha0 hla0 lz lx ly e1 hsa
    go_enter Tryz.func156, Tryz.ntmps156
    go_wp2_with fail
    go_quiet (fail)
    go_wp2_with fail
    refine (C1.out _).mono ?_
    rintro e w1 ⟨rfl, E1⟩
    obtain ⟨c0, c1, c2⟩ := HC2.out w1 E1
    have HE2 := hid c2
    clear E1 c2
    go_wp2_with fail
    refine (C3.out _ HE2.out).mono ?_
    rintro e w2 ⟨rfl, E2⟩
    obtain ⟨d0, d1, d2⟩ := HC4.out w2 E2
    have HE3 := hid d2
    clear E2 c0 c1 d2
    go_wp2_with fail
    refine (C5.out _ HE3.out).mono ?_
    rintro e w3 ⟨rfl, E3⟩
    have HE4 := hid E3
    clear E3
    go_wp2_with fail
    go_ret
    exact ⟨rfl, Fin.out _ HE4.out⟩
  · have hla0 : 0 < la := by rw [Hla.out]; exact words_length_pos (by show a.natAbs ≠ 0; omega)
    have hlb0 : 0 < lb := by rw [Hlb.out]; exact words_length_pos (by show b.natAbs ≠ 0; omega)
    have t1 : ((la : Int) == 0) = false := by simp; omega
    have t2 : ((lb : Int) == 0) = false := by simp; omega
    have C := hid (h.lehmer207_both hz hx hy ha hb hzx hzy hxy hyb hya G0 hSG ha0 hb0 hal hbl)
    clear h hz hx hy ha hb hzx hzy hxy hza hzb hya hyb G0 hSG hab hal hbl l200 ha0 hb0 hla0 hlb0 lz lx ly
    go_enter Tryz.func156, Tryz.ntmps156
    go_wp2_with fail
    refine C.out.mono ?_
    rintro e w1 ⟨rfl, hr⟩
    have HR := hid hr
    clear hr
    go_wp2_with fail
    go_ret
    exact ⟨rfl, HR.out⟩
end Go.Proofs
namespace Go.Proofs
open Go.RowKit
set_option maxHeartbeats 400000
set_option linter.unusedVariables false
set_option linter.unusedSimpArgs false
set_option maxRecDepth 100000

/-- The text of a nought, whatever its sign. -/
theorem itoa10_nought (a : Option Addr) (c : Nat) (neg : Bool) (w : World) :
    Calls Tryz.prog 213 #[.slice a 0 c, .bool neg, .int .i64 10] w fun e w' => ∃ v, e = .returned v ∧ RdB w' w.heap.size v (txt false 0) ∧ Keeps (fun _ => False) w w' := by
  have kc := fun (w : World) (C : Array Value) (n c : Nat) => Lib.run_convert_bytes_const (P := Tryz.prog) w 22 5 C n c Tryz.underlying22 Tryz.underlying5
  go_enter_defers Tryz.func213, Tryz.ntmps213
  go_wp2_with fail
  refine ⟨_, results_tmp rfl _ _ _, _, rfl, ?_, (Keeps.refl _ w).alloc _⟩
  have ht : txt false 0 = [48] := by unfold txt decs; rw [nd]; simp [lowDigs]
  rw [ht]
  refine ⟨w.heap.size, 0, 1, rfl, Nat.le_refl _, by simp, ?_⟩
  intro i hi
  have hi0 : i = 0 := by simp at hi; omega
  subst hi0
  exact cell_new_at w #[.int .u8 48] 5 (1, 2) 0 _ rfl
theorem text170_nought (p : Nat) (t : TypeId) (s : Bool) (a : Option Addr) (c : Nat) (w : World) (h : IntRow w p t s a 0 c) :
    Calls Tryz.prog 170 #[.pointer (some ⟨p, 0, none⟩), .int .i64 10] w fun e w' => e = .returned (.string (strB (txt false 0))) ∧ Keeps (fun _ => False) w w' := by
  obtain ⟨c1, c2, _, _⟩ := h.facts
  clear h
  have hpt : (binOp .eql 117 (.pointer (some ⟨p, 0, none⟩)) (.pointer none)).run Tryz.prog w = .ok (.bool false) w := by simp [go_sem]
  go_enter Tryz.func170, Tryz.ntmps170
  go_wp2_with fail
  go_still_tail 9, (by kernel_rfl)
  go_wp2_with fail
  refine (itoa10_nought a c s w.drew).mono ?_
  rintro e w1 ⟨v, rfl, hv, hk⟩
  have hs := hv.string
  have HV := hid hv; have HK := hid hk
  clear hv hk
  go_wp2_with fail
  go_ret
  exact ⟨rfl, ((Keeps.refl _ w).drew).trans HK.out⟩
theorem string157_nought (p : Nat) (t : TypeId) (s : Bool) (a : Option Addr) (c : Nat) (w : World) (h : IntRow w p t s a 0 c) :
    Calls Tryz.prog 157 #[.pointer (some ⟨p, 0, none⟩)] w fun e w' => e = .returned (.string (strB (txt false 0))) ∧ Keeps (fun _ => False) w w' := by
  have H := hid (text170_nought p t s a c w h)
  clear h
  go_enter Tryz.func157, Tryz.ntmps157
  go_wp2_with fail
  refine H.out.mono ?_
  rintro e w1 ⟨rfl, hk⟩
  have hk := hid hk
  go_wp2_with fail
  go_ret
  exact ⟨rfl, hk.out⟩
theorem string80_nought (p : Nat) (t : TypeId) (s : Bool) (a : Option Addr) (c : Nat) (w : World) (h : IntRow w p t s a 0 c) :
    Calls Tryz.prog 80 #[.pointer (some ⟨p, 0, none⟩)] w fun e w' => e = .returned (.string (strB (txt false 0))) ∧ Keeps (fun _ => False) w w' := by
  have H := hid (string157_nought p t s a c w h)
  clear h
  go_enter Tryz.func80, Tryz.ntmps80
  go_wp2_with fail
  refine H.out.mono ?_
  rintro e w1 ⟨rfl, hk⟩
  have hk := hid hk
  go_wp2_with fail
  go_ret
  exact ⟨rfl, hk.out⟩
/-- A number's text, where a nought may bear a sign. -/
theorem EnvG.string80 {S : Nat → Prop} {w0 w : World} {V : Nat → Option (TypeId × SV)} (h : EnvG S w0 w V) {p : Nat} {t : TypeId} {s : Bool} {z : Int} (hp : V p = some (t, (s, z.natAbs))) (hs : z ≠ 0 → s = decide (z < 0)) (hz : z.natAbs < TXB) (G : Glob w) :
    Calls Tryz.prog 80 #[.pointer (some ⟨p, 0, none⟩)] w fun e w' => e = .returned (.string (strB (txt (decide (z < 0)) z.natAbs))) ∧ Keeps (fun _ => False) w w' := by
  obtain ⟨a, l, c, hi⟩ := h.get hp
  by_cases h0 : z = 0
  · subst h0
    have hl : l = 0 := by
      have := hi.rd.length
      rw [show ((s, (0 : Int).natAbs) : SV).2 = 0 from rfl, words_zero] at this
      exact this.symm
    subst hl
    exact string80_nought p t s a c w hi.row
  · have hsv : ((s, z.natAbs) : SV) = sv z := by rw [hs h0]; rfl
    rw [hsv] at hi
    exact string80_big p t z w hi.s.at hz G
end Go.Proofs
