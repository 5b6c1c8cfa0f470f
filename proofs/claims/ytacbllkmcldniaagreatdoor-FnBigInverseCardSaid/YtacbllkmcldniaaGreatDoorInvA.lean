/- Parts of the proofs over the numbers of any length: InvP, MInv161, Inv92, Inv34. -/
import Derived.Deep.RegionHeld3
import Derived.Test.YtacbllkmcldniaaGreatDoorGcdA
import Derived.Test.YtacbllkmcldniaaGreatDoorGcdC
import Derived.Test.YtacbllkmcldniaaGreatDoorRangeB
import Derived.Test.YtacbllkmcldniaaGreatDoorBaseB
import Derived.Test.YtacbllkmcldniaaGreatDoorDivdA
import Derived.Test.YtacbllkmcldniaaGreatDoorEnvN
import Derived.Test.YtacbllkmcldniaaGreatDoorShiftB
import Derived.Test.YtacbllkmcldniaaGreatDoorConvA
import Derived.Test.YtacbllkmcldniaaGreatDoorIntA
set_option linter.unusedSimpArgs false
set_option linter.unusedVariables false
namespace Go.Proofs
set_option maxHeartbeats 1000000
set_option linter.unusedVariables false

/-- The number whose inverse is sought, not below nought. -/
def invG (x m : Int) : Int := if x < 0 then x % m else x
theorem invG_nonneg {x m : Int} (hm : 0 < m) : 0 ≤ invG x m := by
  unfold invG
  split
  · exact Int.emod_nonneg x (by omega)
  · omega
theorem gcd_emod {x m : Int} (hm : 0 < m) : Int.gcd (x % m) m = Int.gcd x m := by
  have hd := Int.mul_ediv_add_emod x m
  apply Nat.dvd_antisymm
  · apply Int.dvd_gcd
    · conv => rhs; rw [← hd]
      exact Int.dvd_add (Int.dvd_mul_of_dvd_left (Int.gcd_dvd_right ..)) (Int.gcd_dvd_left ..)
    · exact Int.gcd_dvd_right ..
  · apply Int.dvd_gcd
    · rw [show x % m = x - m * (x / m) by omega]
      exact Int.dvd_sub (Int.gcd_dvd_left ..) (Int.dvd_mul_of_dvd_left (Int.gcd_dvd_right ..))
    · exact Int.gcd_dvd_right ..
theorem invG_gcd {x m : Int} (hm : 0 < m) : Int.gcd (invG x m) m = Int.gcd x m := by
  unfold invG
  split
  · exact gcd_emod hm
  · rfl
theorem invG_mod {x m : Int} (hm : 0 < m) (z : Int) : (invG x m * z) % m = (x * z) % m := by
  unfold invG
  split
  · rw [Int.mul_emod, Int.emod_emod_of_dvd _ (Int.dvd_refl m), ← Int.mul_emod]
  · rfl
theorem invG_le {x m : Int} (hm : 0 < m) : (invG x m).natAbs ≤ max x.natAbs m.natAbs := by
  unfold invG
  split
  · have h1 := Int.emod_nonneg x (by omega : m ≠ 0)
    have h2 := Int.emod_lt_of_pos x hm
    omega
  · omega
/-- The inverse, in its range. -/
def invZ (u m : Int) : Int := if u < 0 then u + m else u
theorem invZ_law {x m u : Int} (hm : 2 ≤ m) (hu : m ∣ u * invG x m - 1) (h1 : -m ≤ u) (h2 : u ≤ m) :
    0 ≤ invZ u m ∧ invZ u m < m ∧ (x * invZ u m) % m = 1 := by
  have hne : ∀ k, u ≠ m * k := by
    rintro k rfl
    have h3 : m ∣ 1 := by
      have h4 : m ∣ m * k * invG x m := Int.dvd_mul_of_dvd_left (Int.dvd_mul_right _ _)
      have h5 := Int.dvd_sub h4 hu
      rwa [show m * k * invG x m - (m * k * invG x m - 1) = 1 by omega] at h5
    have := Int.le_of_dvd (by omega) h3
    omega
  have n1 := hne 1
  have n2 := hne (-1)
  have n0 := hne 0
  rw [Int.mul_one] at n1
  rw [Int.mul_neg, Int.mul_one] at n2
  have hz : 0 ≤ invZ u m ∧ invZ u m < m := by unfold invZ; split <;> omega
  refine ⟨hz.1, hz.2, ?_⟩
  rw [← invG_mod (by omega)]
  have h6 : m ∣ invG x m * invZ u m - 1 := by
    unfold invZ
    split
    · rw [Int.mul_add, Int.mul_comm (invG x m) u, show u * invG x m + invG x m * m - 1 = (u * invG x m - 1) + invG x m * m by omega]
      exact Int.dvd_add hu (Int.dvd_mul_left _ _)
    · rw [Int.mul_comm]; exact hu
  have h7 := Int.emod_emod_of_dvd (invG x m * invZ u m) (Int.dvd_refl m)
  have h8 := Int.emod_eq_emod_iff_emod_sub_eq_zero.mpr (Int.emod_eq_zero_of_dvd h6)
  rw [h8]
  exact Int.emod_eq_of_lt (by omega) (by omega)
theorem inv_unique {x m z y : Int} (h1 : 0 ≤ z) (h2 : z < m) (h3 : x * z % m = 1) (g1 : 0 ≤ y) (g2 : y < m) (g3 : x * y % m = 1) : z = y := by
  have e1 : m ∣ x * z - 1 := by
    have := Int.mul_ediv_add_emod (x * z) m
    exact ⟨x * z / m, by omega⟩
  have e2 : m ∣ x * y - 1 := by
    have := Int.mul_ediv_add_emod (x * y) m
    exact ⟨x * y / m, by omega⟩
  have e3 : m ∣ z - y := by
    have k1 : m ∣ (x * z - 1) * y := Int.dvd_mul_of_dvd_left e1
    have k2 : m ∣ (x * y - 1) * z := Int.dvd_mul_of_dvd_left e2
    have k3 := Int.dvd_sub k1 k2
    rwa [show (x * z - 1) * y - (x * y - 1) * z = z - y by grind] at k3
  obtain ⟨k, hk⟩ := e3
  have hk0 : k = 0 := by
    rcases Int.lt_trichotomy k 0 with h | h | h
    · have : m * k ≤ m * (-1) := Int.mul_le_mul_of_nonneg_left (by omega) (by omega)
      omega
    · exact h
    · have : m * 1 ≤ m * k := Int.mul_le_mul_of_nonneg_left (by omega) (by omega)
      omega
  subst hk0
  omega
theorem bez_exists (b : Nat) : ∀ a : Nat, ∃ u v : Int, u * a + v * b = (Nat.gcd a b : Int) := by
  induction b using Nat.strongRecOn with
  | _ b ih =>
    intro a
    rcases Nat.eq_zero_or_pos b with h | h
    · subst h
      exact ⟨1, 0, by simp⟩
    · obtain ⟨u, v, hu⟩ := ih (a % b) (Nat.mod_lt _ h) b
      have hg : Nat.gcd b (a % b) = Nat.gcd a b := by rw [Nat.gcd_comm a b, Nat.gcd_rec b a, Nat.gcd_comm]
      rw [hg] at hu
      refine ⟨v, u - v * (a / b : Nat), ?_⟩
      have hd := Nat.div_add_mod a b
      have : (a : Int) = b * (a / b : Nat) + (a % b : Nat) := by rw [← Int.natCast_mul, ← Int.natCast_add, hd]
      rw [← hu]
      generalize ((a / b : Nat) : Int) = q at *
      generalize ((a % b : Nat) : Int) = r at *
      rw [this]
      grind
theorem inv_exists {x m : Int} (hm : 2 ≤ m) (hg : Int.gcd x m = 1) : ∃ z, 0 ≤ z ∧ z < m ∧ x * z % m = 1 := by
  obtain ⟨u, v, hu⟩ := bez_exists m.natAbs x.natAbs
  have h1 : (Nat.gcd x.natAbs m.natAbs : Int) = 1 := by
    have : Nat.gcd x.natAbs m.natAbs = 1 := hg
    rw [this]; rfl
  rw [h1, show ((m.natAbs : Nat) : Int) = m by omega] at hu
  obtain ⟨s, hs⟩ : ∃ s : Int, s * x = (x.natAbs : Int) := by
    by_cases hx : x < 0
    · exact ⟨-1, by omega⟩
    · exact ⟨1, by omega⟩
  refine ⟨(u * s) % m, Int.emod_nonneg _ (by omega), Int.emod_lt_of_pos _ (by omega), ?_⟩
  rw [Int.mul_emod, Int.emod_emod_of_dvd _ (Int.dvd_refl m), ← Int.mul_emod]
  have h2 : x * (u * s) = 1 + m * (-v) := by
    rw [← hs] at hu
    grind
  rw [h2, Int.add_mul_emod_self_left]
  exact Int.emod_eq_of_lt (by omega) (by omega)
/-- The factors' law. -/
theorem bez_law {a b g u : Int} (hb : b ≠ 0) (h : b ∣ u * a - g) : a * u + b * ((g - a * u) / b) = g := by
  have h2 : b ∣ g - a * u := by
    have := Int.dvd_neg.mpr h
    rwa [show -(u * a - g) = g - a * u by rw [Int.mul_comm u a]; omega] at this
  rw [Int.mul_ediv_cancel' h2]
  omega
end Go.Proofs
namespace Go.Proofs
open Go.RowKit
set_option maxHeartbeats 1000000
set_option linter.unusedVariables false
set_option linter.unusedSimpArgs false
set_option maxRecDepth 100000

/-- What ModInverse leaves. -/
def MInvRes (S : Nat → Prop) (w0 : World) (V0 : Nat → Option (TypeId × SV)) (pz : Nat) (tz : TypeId) (x m : Int) (h0 : Nat) (e : Ending) (w' : World) : Prop :=
  (Int.gcd x m = 1 ∧ e = .returned (.pointer (some ⟨pz, 0, none⟩)) ∧ ∃ V r, EnvG S w0 w' V ∧ V pz = some (tz, sv r) ∧ 0 ≤ r ∧ r < m ∧ x * r % m = 1 ∧ ∀ k, k < h0 → k ≠ pz → V k = V0 k) ∨
  (Int.gcd x m ≠ 1 ∧ e = .returned (.pointer none) ∧ ∃ V, EnvG S w0 w' V ∧ ∀ k, k < h0 → V k = V0 k)
/-- The part behind the numbers' preparation. -/
theorem minv_tail {S : Nat → Prop} {w0 w : World} {V : Nat → Option (TypeId × SV)} (h : EnvG S w0 w V) {pz pg pm : Nat} {tz tg tm : TypeId} {z g m : Int} (hz : V pz = some (tz, sv z)) (hg : V pg = some (tg, sv g)) (hm : V pm = some (tm, sv m))
    (G0 : Glob w0) (hSG : ∀ k, GB k → ¬ S k) (hm2 : 2 ≤ m) (hg0 : 0 ≤ g) (hgl : g.natAbs < W64 ^ 11) (hml : m.natAbs < W64 ^ 11) :
    Calls Tryz.prog 156 #[.pointer (some ⟨w.heap.size, 0, none⟩), .pointer (some ⟨w.heap.size + 1, 0, none⟩), .pointer none, .pointer (some ⟨pg, 0, none⟩), .pointer (some ⟨pm, 0, none⟩)] ((w.alloc (.cells #[.bool false, .slice none 0 0] 103)).alloc (.cells #[.bool false, .slice none 0 0] 103)) fun e w1 =>
      e = .returned (.pointer (some ⟨w.heap.size, 0, none⟩)) ∧ ∃ V1 u, EnvG S w0 w1 V1 ∧ V1 w.heap.size = some (103, sv (Int.gcd g m : Int)) ∧ V1 (w.heap.size + 1) = some (103, sv u) ∧ (∀ k, k < w.heap.size → V1 k = V k) ∧ m ∣ u * g - (Int.gcd g m : Int) ∧ -m ≤ u ∧ u ≤ m ∧ w.heap.size + 1 < w1.heap.size := by
  have lz := h.lt hz; have lg := h.lt hg; have lm := h.lt hm
  have h2 := h.new2
  refine (h2.gcd156 (z := 0) (x := 0) (by rw [updG_ne _ _ _ (by omega), updG_eq]) (updG_eq _ _ _ _) (by rw [updG_ne _ _ _ (by omega), updG_ne _ _ _ (by omega)]; exact hg) (by rw [updG_ne _ _ _ (by omega), updG_ne _ _ _ (by omega)]; exact hm) (by omega) (by omega) G0 hSG (by omega) hgl hml).mono ?_
  rintro e w1 ⟨rfl, V1, U, hE, k1, k2, k3, k4, k5, k6, k7⟩
  have hk2 : V1 (w.heap.size + 1) = some (103, sv U) := by
    rw [k2, decide_eq_false (by omega), Bool.bne_false]
    rfl
  refine ⟨rfl, V1, U, hE, k1, hk2, fun k hk => ?_, ?_, ?_, ?_, hE.lt hk2⟩
  · rw [k3 k (by simp; omega) (by omega) (by omega), updG_ne _ _ _ (by omega), updG_ne _ _ _ (by omega)]
  · rw [show ((m.natAbs : Nat) : Int) = m by omega, show ((g.natAbs : Nat) : Int) = g by omega] at k4
    exact k4
  · omega
  · omega
/-- The state behind the signs' tests. -/
def MRel (S : Nat → Prop) (w0 : World) (V0 : Nat → Option (TypeId × SV)) (g : Int) (h0 : Nat) (v : Value) (w : World) : Prop :=
  ∃ pg tg V, v = .pointer (some ⟨pg, 0, none⟩) ∧ EnvG S w0 w V ∧ V pg = some (tg, sv g) ∧ (∀ k, k < h0 → V k = V0 k) ∧ h0 ≤ w.heap.size
theorem EnvG.modInv161 {S : Nat → Prop} {w0 w : World} {V : Nat → Option (TypeId × SV)} (h : EnvG S w0 w V) {pz px pm : Nat} {tz tx tm : TypeId} {z x m : Int} (hz : V pz = some (tz, sv z)) (hx : V px = some (tx, sv x)) (hm : V pm = some (tm, sv m))
    (G0 : Glob w0) (hSG : ∀ k, GB k → ¬ S k) (hm2 : 2 ≤ m) (hxl : x.natAbs < W64 ^ 11) (hml : m.natAbs < W64 ^ 11) :
    Calls Tryz.prog 161 #[.pointer (some ⟨pz, 0, none⟩), .pointer (some ⟨px, 0, none⟩), .pointer (some ⟨pm, 0, none⟩)] w (MInvRes S w0 V pz tz x m w.heap.size) := by
  have l38 : W64 ^ 11 ≤ W64 ^ 38 := Nat.pow_le_pow_right (by unfold W64; omega) (by omega)
  have lz := h.lt hz; have lx := h.lt hx; have lm := h.lt hm
  have m0 := (h.sign hm).1
  have x0 := (h.sign hx).1
  rw [show (sv m).1 = false from decide_eq_false (by omega)] at m0
  obtain ⟨h0, hh0⟩ : ∃ k, k = w.heap.size := ⟨_, rfl⟩
  obtain ⟨g, hg⟩ : ∃ g, g = invG x m := ⟨_, rfl⟩
  have HGg := hid hg
  have hg0 : 0 ≤ g := by rw [hg]; exact invG_nonneg (by omega)
  have hgl : g.natAbs < W64 ^ 11 := by
    have := invG_le (x := x) (m := m) (by omega)
    rw [← hg] at this
    omega
  have hgd : Int.gcd g m = Int.gcd x m := by rw [hg]; exact invG_gcd (by omega)
  have HMOD : Hid (x < 0 → Calls Tryz.prog 151 #[.pointer (some ⟨h0, 0, none⟩), .pointer (some ⟨px, 0, none⟩), .pointer (some ⟨pm, 0, none⟩)] (w.alloc (.cells #[.bool false, .slice none 0 0] 103)) fun e w' => e = .returned (.pointer (some ⟨h0, 0, none⟩)) ∧ MRel S w0 V g h0 (.pointer (some ⟨h0, 0, none⟩)) w') := hid (fun hxn => by
    have E1 := h.new 103
    rw [← hh0] at E1
    have hs : (w.alloc (.cells #[.bool false, .slice none 0 0] 103)).heap.size = h0 + 1 := by rw [hh0]; simp
    refine (E1.mod151 (z := 0) (updG_eq _ _ _ _) ((updG_ne _ _ _ (by omega)).trans hx) ((updG_ne _ _ _ (by omega)).trans hm) (by omega) (by omega) G0 hSG (by omega) (Nat.lt_of_lt_of_le hxl l38) (Nat.lt_of_lt_of_le hml l38)).mono ?_
    rintro e w' ⟨rfl, V1, hE, v1, v2⟩
    refine ⟨rfl, h0, 103, V1, rfl, hE, ?_, fun k hk => ?_, Nat.le_of_lt (hE.lt v1)⟩
    · rw [v1, hg, (dm_pos (show 0 < m by omega)).2]
      unfold invG
      rw [if_pos hxn]
    · rw [v2 k (by omega) (by omega), updG_ne _ _ _ (by omega)])
  have HSTA : Hid (¬ x < 0 → MRel S w0 V g h0 (.pointer (some ⟨px, 0, none⟩)) w) := hid (fun hxn => ⟨px, tx, V, rfl, h, by rw [hg]; unfold invG; rw [if_neg hxn]; exact hx, fun _ _ => rfl, Nat.le_of_eq hh0⟩)
  have HTAIL : Hid (∀ w1 pg tg V1, EnvG S w0 w1 V1 → V1 pg = some (tg, sv g) → (∀ k, k < h0 → V1 k = V k) → h0 ≤ w1.heap.size → Calls Tryz.prog 156 #[.pointer (some ⟨w1.heap.size, 0, none⟩), .pointer (some ⟨w1.heap.size + 1, 0, none⟩), .pointer none, .pointer (some ⟨pg, 0, none⟩), .pointer (some ⟨pm, 0, none⟩)] ((w1.alloc (.cells #[.bool false, .slice none 0 0] 103)).alloc (.cells #[.bool false, .slice none 0 0] 103)) fun e w2 =>
      e = .returned (.pointer (some ⟨w1.heap.size, 0, none⟩)) ∧ ∃ V2 u, EnvG S w0 w2 V2 ∧ V2 w1.heap.size = some (103, sv (Int.gcd x m : Int)) ∧ V2 (w1.heap.size + 1) = some (103, sv u) ∧ (∀ k, k < h0 → V2 k = V k) ∧ m ∣ u * g - (Int.gcd x m : Int) ∧ -m ≤ u ∧ u ≤ m ∧ w1.heap.size + 1 < w2.heap.size) := hid (fun w1 pg tg V1 hE hv hk hs => by
    refine (minv_tail hE (z := z) (g := g) (m := m) ((hk pz (by omega)).trans hz) hv ((hk pm (by omega)).trans hm) G0 hSG hm2 hg0 hgl hml).mono ?_
    rintro e w2 ⟨he, V2, u, k1, k2, k3, k4, k5, k6, k7, k8⟩
    rw [hgd] at k2 k5
    exact ⟨he, V2, u, k1, k2, k3, fun k hk' => (k4 k (by omega)).trans (hk k hk'), k5, k6, k7, k8⟩)
  obtain ⟨sx, hsx⟩ : ∃ s, s = (sv x).1 := ⟨_, rfl⟩
  rw [← hsx] at x0
  have HSX := hid hsx
  have HV : Hid (V pz = some (tz, sv z) ∧ V pm = some (tm, sv m) ∧ pz < h0 ∧ pm < h0) := hid ⟨hz, hm, by omega, by omega⟩
  have HM2 := hid hm2; have HML := hid hml; have HL38 := hid l38
  clear h hz hx hm G0 hSG hm2 hxl hml l38 lz lx lm hg hg0 hgl hgd hsx
  rw [← hh0]
  go_enter Tryz.func161, Tryz.ntmps161
  go_upto_if 20 with fail
  go_cut [1] from 17 to 24 (fun v wx => MRel S w0 V g h0 v wx)
  case first =>
    by_cases hx : x < 0
    · have hs : sx = true := by rw [HSX.out]; exact decide_eq_true hx
      subst hs
      have HC := hid (HMOD.out hx)
      clear hx
      go_wp2_with fail
      rw [← hh0]
      refine HC.out.mono ?_
      rintro e w1 ⟨rfl, hr⟩
      have HR := hid hr
      clear hr
      go_wp2_with fail
      go_meet
      case rel => rw [← hh0]; exact HR.out
    · have hs : sx = false := by rw [HSX.out]; exact decide_eq_false hx
      subst hs
      have HR := hid (HSTA.out hx)
      clear hx
      go_wp2_with fail
      go_meet
      case rel => exact HR.out
  case rest =>
    obtain ⟨pg, tg, V1, rfl, hE, hv, hk, hs⟩ := hcut
    have HC := hid (HTAIL.out wc pg tg V1 hE hv hk hs)
    obtain ⟨d, hd⟩ : ∃ d, d = wc.heap.size := ⟨_, rfl⟩
    have HD := hid (show h0 ≤ d by rw [hd]; exact hs)
    rw [← hd] at HC
    clear hE hv hk hs m0 x0 hh0
    go_wp2_with fail
    rw [← hd]
    clear hd
    refine HC.out.mono ?_
    rintro e w2 ⟨rfl, V2, u, hE, vd, vx, hk, hu, hu1, hu2, hsz⟩
    have HE := hid hE; have HVD := hid vd; have HVX := hid vx; have HK := hid hk; have HU := hid hu; have HUB := hid (And.intro hu1 hu2); have HSZ := hid hsz
    clear hE vd vx hk hu hu1 hu2 hsz HC
    go_wp2_with fail
    refine (intOne200 w2).mono ?_
    rintro e w3 ⟨p1, a1, rfl, g1, g2, g3, g4⟩
    have HE3 := hid (HE.out.same g4)
    obtain ⟨_, _, _, id⟩ := HE3.out.get HVD.out
    have HCM := hid (cmp158_any d p1 103 103 (Int.gcd x m : Int) 1 w3 id.s.at g3.at)
    obtain ⟨c, hc⟩ : ∃ c, c = cmpZ (Int.gcd x m : Int) 1 := ⟨_, rfl⟩
    rw [← hc] at HCM
    have hcz : c = 0 ↔ Int.gcd x m = 1 := by rw [hc]; unfold cmpZ; (repeat' split) <;> omega
    have HCZ := hid hcz
    clear g1 g2 g3 g4 id hc hcz
    go_wp2_with fail
    refine HCM.out.mono ?_
    rintro e w4 ⟨rfl, k, hk⟩
    have hE4 : EnvG S w0 w4 V2 := by rw [hk]; exact HE3.out.drewN k
    have HE4 := hid hE4
    clear HCM hk hE4
    by_cases hg1 : Int.gcd x m = 1
    · have hc0 := HCZ.out.mpr hg1
      subst hc0
      have u0 := (HE4.out.sign HVX.out).1
      have HG1 := hid hg1
      have HLAW := hid (invZ_law (x := x) (m := m) (u := u) HM2.out (by rw [← HGg.out]; have := HU.out; rw [hg1] at this; exact this) HUB.out.1 HUB.out.2)
      have HNE : Hid (pz ≠ d + 1 ∧ pz ≠ d) := hid (by
        have h1 := HV.out.2.2.1
        have h2 := HD.out
        exact ⟨by omega, by omega⟩)
      clear hg1
      by_cases hun : u < 0
      · rw [show (sv u).1 = true from decide_eq_true hun] at u0
        have HADD : Hid (Calls Tryz.prog 145 #[.pointer (some ⟨pz, 0, none⟩), .pointer (some ⟨d + 1, 0, none⟩), .pointer (some ⟨pm, 0, none⟩)] w4 fun e w' => e = .returned (.pointer (some ⟨pz, 0, none⟩)) ∧ EnvG S w0 w' (updG V2 pz tz (sv (u + m)))) := hid (by
          have l40 : W64 ^ 11 ≤ W64 ^ 40 := Nat.pow_le_pow_right (by unfold W64; omega) (by omega)
          have hml40 := Nat.lt_of_lt_of_le HML.out l40
          have := HE4.out.add145 (x := sv u) (y := sv m) ((HK.out pz HV.out.2.2.1).trans HV.out.1) HVX.out ((HK.out pm HV.out.2.2.2).trans HV.out.2.1) (Nat.lt_of_le_of_lt (show u.natAbs ≤ m.natAbs by have := HUB.out; omega) hml40) hml40
          rwa [sgnv_sv, sgnv_sv] at this)
        have HUN := hid hun
        clear hun
        go_wp2_with fail
        refine HADD.out.mono ?_
        rintro e w5 ⟨rfl, hE⟩
        have HE5 := hid hE
        clear hE
        go_wp2_with fail
        go_ret
        refine .inl ⟨HG1.out, rfl, _, u + m, HE5.out, updG_eq _ _ _ _, ?_, ?_, ?_, fun k k1 k2 => (updG_ne _ _ _ k2).trans (HK.out k k1)⟩
        all_goals
          have h := HLAW.out
          unfold invZ at h
          rw [if_pos HUN.out] at h
        · exact h.1
        · exact h.2.1
        · exact h.2.2
      · rw [show (sv u).1 = false from decide_eq_false hun] at u0
        have HSET : Hid (Calls Tryz.prog 160 #[.pointer (some ⟨pz, 0, none⟩), .pointer (some ⟨d + 1, 0, none⟩)] w4 fun e w' => e = .returned (.pointer (some ⟨pz, 0, none⟩)) ∧ EnvG S w0 w' (updG V2 pz tz (sv u))) := hid (by
          have l200 : W64 ^ 11 ≤ W64 ^ 200 := Nat.pow_le_pow_right (by unfold W64; omega) (by omega)
          exact HE4.out.set160 ((HK.out pz HV.out.2.2.1).trans HV.out.1) HVX.out HNE.out.1 (Nat.lt_of_le_of_lt (show u.natAbs ≤ m.natAbs by have := HUB.out; omega) (Nat.lt_of_lt_of_le HML.out l200)))
        have HUN := hid hun
        clear hun
        go_wp2_with fail
        refine HSET.out.mono ?_
        rintro e w5 ⟨rfl, hE⟩
        have HE5 := hid hE
        clear hE
        go_wp2_with fail
        go_ret
        refine .inl ⟨HG1.out, rfl, _, u, HE5.out, updG_eq _ _ _ _, ?_, ?_, ?_, fun k k1 k2 => (updG_ne _ _ _ k2).trans (HK.out k k1)⟩
        all_goals
          have h := HLAW.out
          unfold invZ at h
          rw [if_neg (by have := HUN.out; omega)] at h
        · exact h.1
        · exact h.2.1
        · exact h.2.2
    · have hc0 : c ≠ 0 := fun h => hg1 (HCZ.out.mp h)
      have t1 : (c == 0) = false := by simpa using hc0
      have t2 : (c != 0) = true := by simpa using hc0
      have HG1 := hid hg1
      clear hg1 hc0
      go_wp2_with fail
      go_ret
      exact .inr ⟨HG1.out, rfl, V2, HE4.out, HK.out⟩
end Go.Proofs
namespace Go.Proofs
open Go.RowKit
set_option maxHeartbeats 2000000
set_option linter.unusedVariables false
set_option linter.unusedSimpArgs false
set_option maxRecDepth 100000

/-- The inverse's text. -/
def InvT (x n : Int) (T : ByteArray) : Prop := ∃ z, 0 ≤ z ∧ z < n ∧ x * z % n = 1 ∧ T = strB (txt (decide (z < 0)) z.natAbs)
theorem w93_ptr (p q r : Addr) (w : World) (R : World → Prop) (h : Calls Tryz.prog 161 #[.pointer (some p), .pointer (some q), .pointer (some r)] w.drew fun e w' => e = .returned (.pointer (some p)) ∧ R w') :
    Calls Tryz.prog 93 #[.pointer (some p), .pointer (some q), .pointer (some r)] w fun e w' => e = .returned (.pointer (some p)) ∧ R w' := by
  have H := hid h
  clear h
  obtain ⟨b0, o0, s0⟩ := p
  obtain ⟨b1, o1, s1⟩ := q
  obtain ⟨b2, o2, s2⟩ := r
  go_enter Tryz.func93, Tryz.ntmps93
  go_wp2_with fail
  go_still_tail 9, (by kernel_rfl)
  go_wp2_with fail
  refine H.out.mono ?_
  rintro e w1 ⟨rfl, hR⟩
  have HR := hid hR
  clear hR
  go_wp2_with fail
  go_ret
  exact ⟨rfl, HR.out⟩
theorem w93_nil (p q r : Addr) (w : World) (R : World → Prop) (h : Calls Tryz.prog 161 #[.pointer (some p), .pointer (some q), .pointer (some r)] w.drew fun e w' => e = .returned (.pointer none) ∧ R w') :
    Calls Tryz.prog 93 #[.pointer (some p), .pointer (some q), .pointer (some r)] w fun e w' => e = .returned (.pointer none) ∧ R w' := by
  have H := hid h
  clear h
  obtain ⟨b0, o0, s0⟩ := p
  obtain ⟨b1, o1, s1⟩ := q
  obtain ⟨b2, o2, s2⟩ := r
  go_enter Tryz.func93, Tryz.ntmps93
  go_wp2_with fail
  go_still_tail 9, (by kernel_rfl)
  go_wp2_with fail
  refine H.out.mono ?_
  rintro e w1 ⟨rfl, hR⟩
  have HR := hid hR
  clear hR
  go_wp2_with fail
  go_ret
  exact ⟨rfl, HR.out⟩
/-- The wrapper's answer. -/
theorem minv93 {w W : World} {V : Nat → Option (TypeId × Int)} (h : Env (fun _ => False) w W V) {pz px pm : Nat} {x m : Int} (hz : V pz = some (105, 0)) (hx : V px = some (105, x)) (hm : V pm = some (105, m)) (G0 : Glob w) (hm2 : 2 ≤ m) (hxl : x.natAbs < 10 ^ 200) (hml : m.natAbs < 10 ^ 200) :
    (∀ z, 0 ≤ z → z < m → x * z % m = 1 → Calls Tryz.prog 93 #[.pointer (some ⟨pz, 0, none⟩), .pointer (some ⟨px, 0, none⟩), .pointer (some ⟨pm, 0, none⟩)] W fun e w' => e = .returned (.pointer (some ⟨pz, 0, none⟩)) ∧ IntAt w' pz 105 z ∧ Keeps (fun _ => False) w w') ∧
    (Int.gcd x m ≠ 1 → Calls Tryz.prog 93 #[.pointer (some ⟨pz, 0, none⟩), .pointer (some ⟨px, 0, none⟩), .pointer (some ⟨pm, 0, none⟩)] W fun e w' => e = .returned (.pointer none) ∧ Keeps (fun _ => False) w w') := by
  have hlt : ∀ y : Int, y.natAbs < 10 ^ 200 → y.natAbs < W64 ^ 11 := fun y hy => Nat.lt_of_lt_of_le hy (by unfold W64; decide +kernel)
  have hc := h.drew.h.modInv161 (pz := pz) (px := px) (pm := pm) (z := 0) (x := x) (m := m) (svV_some hz) (svV_some hx) (svV_some hm) G0 (fun _ _ h => h) hm2 (hlt x hxl) (hlt m hml)
  constructor
  · intro z h1 h2 h3
    have hg : Int.gcd x m = 1 := by
      have hd : (Int.gcd x m : Int) ∣ 1 := by
        have e1 := Int.mul_ediv_add_emod (x * z) m
        rw [h3] at e1
        have k1 : (Int.gcd x m : Int) ∣ x * z := Int.dvd_mul_of_dvd_left (Int.gcd_dvd_left ..)
        have k2 : (Int.gcd x m : Int) ∣ m * (x * z / m) := Int.dvd_mul_of_dvd_left (Int.gcd_dvd_right ..)
        have k3 := Int.dvd_sub k1 k2
        rwa [show x * z - m * (x * z / m) = 1 by omega] at k3
      have h0 := Int.le_of_dvd (by omega) hd
      have h1 : Int.gcd x m ≠ 0 := by
        intro h
        rw [h] at hd
        have := Int.zero_dvd.mp hd
        omega
      omega
    refine w93_ptr ⟨pz, 0, none⟩ ⟨px, 0, none⟩ ⟨pm, 0, none⟩ W (fun w' => IntAt w' pz 105 z ∧ Keeps (fun _ => False) w w') (hc.mono ?_)
    rintro e w' (⟨_, rfl, V', r, hE, vz, g1, g2, g3, _⟩ | ⟨hne, _, _⟩)
    · have hr : r = z := inv_unique g1 g2 g3 h1 h2 h3
      subst hr
      obtain ⟨a, l, c, hi⟩ := hE.get vz
      exact ⟨rfl, hi.s.at, hE.keeps⟩
    · exact absurd hg hne
  · intro hne
    refine w93_nil ⟨pz, 0, none⟩ ⟨px, 0, none⟩ ⟨pm, 0, none⟩ W (fun w' => Keeps (fun _ => False) w w') (hc.mono ?_)
    rintro e w' (⟨hg, _, _⟩ | ⟨_, rfl, V', hE, _⟩)
    · exact absurd hg hne
    · exact ⟨rfl, hE.keeps⟩
theorem inv92_ok (T : ByteArray) (A B O K : Nat) (sa sb : ByteArray) (na nb : Bool) (da db : Nat → Nat) (la lb : Nat) (x n : Int) (s0 : ByteArray) (w : World)
    (hA : w.cell? ⟨A, 0, none⟩ = some (.string sa)) (hB : w.cell? ⟨B, 0, none⟩ = some (.string sb)) (ta : NumText sa na la da) (tb : NumText sb nb lb db) (rO : RowAt w O 9 [.string s0]) (rK : RowAt w K 4 [.bool false]) (hAO : A ≠ O) (hBO : B ≠ O) (hAK : A ≠ K) (hBK : B ≠ K) (hOK : O ≠ K)
    (hx : x = numZ na (dval da la)) (hn : n = numZ nb (dval db lb)) (G : Glob w) (hxl : x.natAbs < 10 ^ 200) (hnl : n.natAbs < 10 ^ 200) (hn2 : 2 ≤ n) (hT : InvT x n T) :
    Calls Tryz.prog 92 #[.pointer (some ⟨A, 0, none⟩), .pointer (some ⟨B, 0, none⟩), .pointer (some ⟨O, 0, none⟩), .pointer (some ⟨K, 0, none⟩)] w fun e w' => e = .returned (.tuple #[]) ∧ OutL w' [(O, 9, .string T), (K, 4, .bool true)] ∧ Keeps (OutK [(O, 9, .string T), (K, 4, .bool true)]) w w' := by
  obtain ⟨z, hz0, hz1, hz2, hTz⟩ := hT
  have HG := hid G
  have hAl : A < w.heap.size := World.block_lt_of_cell? w ⟨A, 0, none⟩ hA
  have hBl : B < w.heap.size := World.block_lt_of_cell? w ⟨B, 0, none⟩ hB
  have HN1 : Hid (∀ W V k, Env (fun _ => False) w W V → k ≤ W.heap.size → Calls Tryz.prog 67 #[.string sa] W fun e w' => ∃ p, e = .returned (.pointer (some ⟨p, 0, none⟩)) ∧ k ≤ p ∧ p < w'.heap.size ∧ Env (fun _ => False) w w' (upd V p 105 x)) :=
    hid (fun W V k h hn => number_env h sa na la da x k hn ta hx (G.keep h.keeps (fun _ _ h => h)))
  have HN2 : Hid (∀ W V k, Env (fun _ => False) w W V → k ≤ W.heap.size → Calls Tryz.prog 67 #[.string sb] W fun e w' => ∃ p, e = .returned (.pointer (some ⟨p, 0, none⟩)) ∧ k ≤ p ∧ p < w'.heap.size ∧ Env (fun _ => False) w w' (upd V p 105 n)) :=
    hid (fun W V k h hk => number_env h sb nb lb db n k hk tb hn (G.keep h.keeps (fun _ _ h => h)))
  have HMI : Hid (∀ W V pz px pm, Env (fun _ => False) w W V → V pz = some (105, 0) → V px = some (105, x) → V pm = some (105, n) → Calls Tryz.prog 93 #[.pointer (some ⟨pz, 0, none⟩), .pointer (some ⟨px, 0, none⟩), .pointer (some ⟨pm, 0, none⟩)] W fun e w' => e = .returned (.pointer (some ⟨pz, 0, none⟩)) ∧ IntAt w' pz 105 z ∧ Keeps (fun _ => False) w w') := hid (fun W V pz px pm h h1 h2 h3 =>
    (minv93 h h1 h2 h3 G hn2 hxl hnl).1 z hz0 hz1 hz2)
  have HSt : Hid (∀ p W, IntAt W p 105 z → Keeps (fun _ => False) w W → Calls Tryz.prog 80 #[.pointer (some ⟨p, 0, none⟩)] W fun e w' => e = .returned (.string T) ∧ Keeps (fun _ => False) W w') := hid (fun p W h1 h4 => by
    rw [hTz]
    exact string80_big p 105 z W h1 (lt_TXB (Nat.lt_trans (show z.natAbs < 10 ^ 200 by omega) (by decide +kernel))) (G.keep h4 (fun _ _ h => h)))
  have HA := hid hA; have HB := hid hB
  have HS : Hid (∀ w', Keeps (fun _ => False) w w' → w'.cell? ⟨A, 0, none⟩ = some (.string sa) ∧ w'.cell? ⟨B, 0, none⟩ = some (.string sb)) := hid (fun w' hk =>
    ⟨(cell_of_block (p := ⟨A, 0, none⟩) (hk.block A hAl (fun h => h))).trans HA.out, (cell_of_block (p := ⟨B, 0, none⟩) (hk.block B hBl (fun h => h))).trans HB.out⟩)
  have RO := hid rO; have RK := hid rK
  have HST : Hid (∀ w7, Keeps (fun _ => False) w w7 → w7.cell? ⟨O, 0, none⟩ = some (.string s0) ∧ w7.frozen? ⟨O, 0, none⟩ = false ∧ (w7.setCell ⟨O, 0, none⟩ (.string T)).cell? ⟨K, 0, none⟩ = some (.bool false) ∧ (w7.setCell ⟨O, 0, none⟩ (.string T)).frozen? ⟨K, 0, none⟩ = false) := hid (fun w7 hk => by
    have q1 := hk.row RO.out (fun h => h)
    have q2 := (hk.row RK.out (fun h => h)).other (show (⟨O, 0, none⟩ : Addr).block ≠ K from hOK) (.string T)
    exact ⟨q1.cell 0, q1.frozen 0, q2.cell 0, q2.frozen 0⟩)
  have HFin : Hid (∀ w7, Keeps (fun _ => False) w w7 → OutL ((w7.setCell ⟨O, 0, none⟩ (.string T)).setCell ⟨K, 0, none⟩ (.bool true)) [(O, 9, .string T), (K, 4, .bool true)] ∧ Keeps (OutK [(O, 9, .string T), (K, 4, .bool true)]) w ((w7.setCell ⟨O, 0, none⟩ (.string T)).setCell ⟨K, 0, none⟩ (.bool true))) := hid (fun w7 hk => by
    refine ⟨stores_outL (L := [(O, 9, .string T), (K, 4, .bool true)]) (w := w7) (by simp [hOK]) (fun x hx => ?_), (hk.any).trans (stores_keeps [(O, 9, .string T), (K, 4, .bool true)] w7)⟩
    simp only [List.mem_cons, List.not_mem_nil, or_false] at hx
    rcases hx with rfl | rfl
    · exact ⟨_, hk.row RO.out (fun h => h)⟩
    · exact ⟨_, hk.row RK.out (fun h => h)⟩)
  have HSZ : Hid (∀ W : World, W.heap.size ≤ W.heap.size ∧ W.heap.size + 1 ≤ (W.alloc (.cells #[.bool false, .slice none 0 0] 105)).heap.size) := hid (fun W => ⟨Nat.le_refl _, by simp⟩)
  have HE0 := hid (Env.start (fun _ => False) w (fun _ h => h.elim))
  have HE0a := hid HE0.out.drew
  have HE0b : Hid (Env (fun _ => False) w (w.alloc (.cells #[.bool false, .slice none 0 0] 105)).drew _) := hid (HE0.out.new 105).drew
  have HS0 : Hid (w.heap.size ≤ w.drew.heap.size ∧ w.heap.size + 1 ≤ (w.alloc (.cells #[.bool false, .slice none 0 0] 105)).drew.heap.size) := hid ⟨Nat.le_refl _, by simp⟩
  obtain ⟨sA, sB⟩ := HS.out w (Keeps.refl _ _)
  clear hA hB ta tb hx hn G hxl hnl hn2 hAl hBl rO rK hAO hBO hAK hBK hz0 hz1 hz2 hTz hOK
  go_enter Tryz.func92, Tryz.ntmps92
  go_upto_region 0 with fail
  go_cut [4] from 5 to 11 (fun v wx => ∃ pz, v = .pointer (some ⟨pz, 0, none⟩) ∧ IntAt wx pz 105 z ∧ Keeps (fun _ => False) w wx)
  case first =>
    go_region_held3 (fun w' => w'.cell? ⟨A, 0, none⟩ = some (.string sa) ∧ w'.cell? ⟨B, 0, none⟩ = some (.string sb))
      (first | with_reducible exact HS.out _ HE0a.out.keeps | with_reducible exact HS.out _ HE0b.out.keeps | with_reducible exact HS.out _ HE0.out.keeps | with_reducible exact HS.out _ (HE0.out.new 105).keeps | with_reducible exact HS.out _ HE1.out.keeps | with_reducible exact HS.out _ (HE1.out.new 105).keeps | with_reducible exact HS.out _ HE2.out.keeps | with_reducible exact HS.out _ (HE2.out.new 105).keeps | with_reducible exact HS.out _ HK3.out)
      (first
       | (go_at_call 67; (with_reducible refine (HN1.out _ _ w.heap.size HE0a.out HS0.out.1).mono ?_); rintro e w1 ⟨p1, rfl, o1, o2, h⟩; have HE1 := hid h; clear h)
       | (go_at_call 67; (with_reducible refine (HN1.out _ _ (w.heap.size + 1) HE0b.out HS0.out.2).mono ?_); rintro e w1 ⟨p1, rfl, o1, o2, h⟩; have HE1 := hid h; clear h)
       | (go_at_call 67; (with_reducible refine (HN2.out _ _ w1.heap.size HE1.out (HSZ.out w1).1).mono ?_); rintro e w2 ⟨p2, rfl, o3, o4, h⟩; have HE2 := hid h; clear h)
       | (go_at_call 67; (with_reducible refine (HN2.out _ _ (w1.heap.size + 1) (HE1.out.new 105) (HSZ.out w1).2).mono ?_); rintro e w2 ⟨p2, rfl, o3, o4, h⟩; have HE2 := hid h; clear h)
       | (go_at_call 93; (with_reducible refine (HMI.out _ _ _ _ _ HE2.out (by repeat (first | exact upd_eq _ _ _ _ | (refine (upd_ne _ _ _ ?_).trans ?_; omega))) (by repeat (first | exact upd_eq _ _ _ _ | (refine (upd_ne _ _ _ ?_).trans ?_; omega))) (by repeat (first | exact upd_eq _ _ _ _ | (refine (upd_ne _ _ _ ?_).trans ?_; omega)))).mono ?_); rintro e w3 ⟨rfl, hi, hk⟩; have HI3 := hid hi; have HK3 := hid hk; clear hi hk)
       | (go_at_call 93; (with_reducible refine (HMI.out _ _ _ _ _ (HE2.out.new 105) (by repeat (first | exact upd_eq _ _ _ _ | (refine (upd_ne _ _ _ ?_).trans ?_; omega))) (by repeat (first | exact upd_eq _ _ _ _ | (refine (upd_ne _ _ _ ?_).trans ?_; omega))) (by repeat (first | exact upd_eq _ _ _ _ | (refine (upd_ne _ _ _ ?_).trans ?_; omega)))).mono ?_); rintro e w3 ⟨rfl, hi, hk⟩; have HI3 := hid hi; have HK3 := hid hk; clear hi hk))
    all_goals
      go_wp2_with fail
      go_meet
    all_goals exact ⟨_, rfl, HI3.out, HK3.out⟩
  case rest =>
    obtain ⟨pz, rfl, hi, hk⟩ := hcut
    have HC := hid (HSt.out pz wc hi hk)
    have HK := hid hk
    clear hi hk
    go_wp2_with fail
    refine HC.out.mono ?_
    rintro e w4 ⟨rfl, hk⟩
    have HK4 := hid (HK.out.trans hk)
    obtain ⟨q0, q1, q2, q3⟩ := HST.out w4 HK4.out
    clear hk
    go_wp2_with fail
    go_end0
    exact ⟨rfl, (HFin.out w4 HK4.out).1, (HFin.out w4 HK4.out).2⟩
theorem inv92_none (A B O K : Nat) (sa sb : ByteArray) (na nb : Bool) (da db : Nat → Nat) (la lb : Nat) (x n : Int) (s0 : ByteArray) (w : World)
    (hA : w.cell? ⟨A, 0, none⟩ = some (.string sa)) (hB : w.cell? ⟨B, 0, none⟩ = some (.string sb)) (ta : NumText sa na la da) (tb : NumText sb nb lb db) (rO : RowAt w O 9 [.string { data := #[] }]) (rK : RowAt w K 4 [.bool false]) (hAO : A ≠ O) (hBO : B ≠ O) (hAK : A ≠ K) (hBK : B ≠ K) (hOK : O ≠ K)
    (hx : x = numZ na (dval da la)) (hn : n = numZ nb (dval db lb)) (G : Glob w) (hxl : x.natAbs < 10 ^ 200) (hnl : n.natAbs < 10 ^ 200) (hn2 : 2 ≤ n) (hg : Int.gcd x n ≠ 1) :
    Calls Tryz.prog 92 #[.pointer (some ⟨A, 0, none⟩), .pointer (some ⟨B, 0, none⟩), .pointer (some ⟨O, 0, none⟩), .pointer (some ⟨K, 0, none⟩)] w fun e w' => e = .returned (.tuple #[]) ∧ OutL w' [(O, 9, .string { data := #[] }), (K, 4, .bool false)] ∧ Keeps (OutK [(O, 9, .string { data := #[] }), (K, 4, .bool false)]) w w' := by
  have HG := hid G
  have hAl : A < w.heap.size := World.block_lt_of_cell? w ⟨A, 0, none⟩ hA
  have hBl : B < w.heap.size := World.block_lt_of_cell? w ⟨B, 0, none⟩ hB
  have HN1 : Hid (∀ W V k, Env (fun _ => False) w W V → k ≤ W.heap.size → Calls Tryz.prog 67 #[.string sa] W fun e w' => ∃ p, e = .returned (.pointer (some ⟨p, 0, none⟩)) ∧ k ≤ p ∧ p < w'.heap.size ∧ Env (fun _ => False) w w' (upd V p 105 x)) :=
    hid (fun W V k h hn => number_env h sa na la da x k hn ta hx (G.keep h.keeps (fun _ _ h => h)))
  have HN2 : Hid (∀ W V k, Env (fun _ => False) w W V → k ≤ W.heap.size → Calls Tryz.prog 67 #[.string sb] W fun e w' => ∃ p, e = .returned (.pointer (some ⟨p, 0, none⟩)) ∧ k ≤ p ∧ p < w'.heap.size ∧ Env (fun _ => False) w w' (upd V p 105 n)) :=
    hid (fun W V k h hk => number_env h sb nb lb db n k hk tb hn (G.keep h.keeps (fun _ _ h => h)))
  have HMI : Hid (∀ W V pz px pm, Env (fun _ => False) w W V → V pz = some (105, 0) → V px = some (105, x) → V pm = some (105, n) → Calls Tryz.prog 93 #[.pointer (some ⟨pz, 0, none⟩), .pointer (some ⟨px, 0, none⟩), .pointer (some ⟨pm, 0, none⟩)] W fun e w' => e = .returned (.pointer none) ∧ Keeps (fun _ => False) w w') := hid (fun W V pz px pm h h1 h2 h3 =>
    (minv93 h h1 h2 h3 G hn2 hxl hnl).2 hg)
  have HA := hid hA; have HB := hid hB
  have HS : Hid (∀ w', Keeps (fun _ => False) w w' → w'.cell? ⟨A, 0, none⟩ = some (.string sa) ∧ w'.cell? ⟨B, 0, none⟩ = some (.string sb)) := hid (fun w' hk =>
    ⟨(cell_of_block (p := ⟨A, 0, none⟩) (hk.block A hAl (fun h => h))).trans HA.out, (cell_of_block (p := ⟨B, 0, none⟩) (hk.block B hBl (fun h => h))).trans HB.out⟩)
  have RO := hid rO; have RK := hid rK
  have HFin : Hid (∀ w7, Keeps (fun _ => False) w w7 → OutL w7 [(O, 9, .string { data := #[] }), (K, 4, .bool false)]) := hid (fun w7 hk x hx => by
    simp only [List.mem_cons, List.not_mem_nil, or_false] at hx
    rcases hx with rfl | rfl
    · exact hk.row RO.out (fun h => h)
    · exact hk.row RK.out (fun h => h))
  have HSZ : Hid (∀ W : World, W.heap.size ≤ W.heap.size ∧ W.heap.size + 1 ≤ (W.alloc (.cells #[.bool false, .slice none 0 0] 105)).heap.size) := hid (fun W => ⟨Nat.le_refl _, by simp⟩)
  have HE0 := hid (Env.start (fun _ => False) w (fun _ h => h.elim))
  have HE0a := hid HE0.out.drew
  have HE0b : Hid (Env (fun _ => False) w (w.alloc (.cells #[.bool false, .slice none 0 0] 105)).drew _) := hid (HE0.out.new 105).drew
  have HS0 : Hid (w.heap.size ≤ w.drew.heap.size ∧ w.heap.size + 1 ≤ (w.alloc (.cells #[.bool false, .slice none 0 0] 105)).drew.heap.size) := hid ⟨Nat.le_refl _, by simp⟩
  obtain ⟨sA, sB⟩ := HS.out w (Keeps.refl _ _)
  clear hA hB ta tb hx hn G hxl hnl hn2 hAl hBl rO rK hAO hBO hAK hBK hg hOK
  go_enter Tryz.func92, Tryz.ntmps92
  go_upto_region 0 with fail
  go_cut [4] from 5 to 11 (fun v wx => v = .pointer none ∧ Keeps (fun _ => False) w wx)
  case first =>
    go_region_held3 (fun w' => w'.cell? ⟨A, 0, none⟩ = some (.string sa) ∧ w'.cell? ⟨B, 0, none⟩ = some (.string sb))
      (first | with_reducible exact HS.out _ HE0a.out.keeps | with_reducible exact HS.out _ HE0b.out.keeps | with_reducible exact HS.out _ HE0.out.keeps | with_reducible exact HS.out _ (HE0.out.new 105).keeps | with_reducible exact HS.out _ HE1.out.keeps | with_reducible exact HS.out _ (HE1.out.new 105).keeps | with_reducible exact HS.out _ HE2.out.keeps | with_reducible exact HS.out _ (HE2.out.new 105).keeps | with_reducible exact HS.out _ HK3.out)
      (first
       | (go_at_call 67; (with_reducible refine (HN1.out _ _ w.heap.size HE0a.out HS0.out.1).mono ?_); rintro e w1 ⟨p1, rfl, o1, o2, h⟩; have HE1 := hid h; clear h)
       | (go_at_call 67; (with_reducible refine (HN1.out _ _ (w.heap.size + 1) HE0b.out HS0.out.2).mono ?_); rintro e w1 ⟨p1, rfl, o1, o2, h⟩; have HE1 := hid h; clear h)
       | (go_at_call 67; (with_reducible refine (HN2.out _ _ w1.heap.size HE1.out (HSZ.out w1).1).mono ?_); rintro e w2 ⟨p2, rfl, o3, o4, h⟩; have HE2 := hid h; clear h)
       | (go_at_call 67; (with_reducible refine (HN2.out _ _ (w1.heap.size + 1) (HE1.out.new 105) (HSZ.out w1).2).mono ?_); rintro e w2 ⟨p2, rfl, o3, o4, h⟩; have HE2 := hid h; clear h)
       | (go_at_call 93; (with_reducible refine (HMI.out _ _ _ _ _ HE2.out (by repeat (first | exact upd_eq _ _ _ _ | (refine (upd_ne _ _ _ ?_).trans ?_; omega))) (by repeat (first | exact upd_eq _ _ _ _ | (refine (upd_ne _ _ _ ?_).trans ?_; omega))) (by repeat (first | exact upd_eq _ _ _ _ | (refine (upd_ne _ _ _ ?_).trans ?_; omega)))).mono ?_); rintro e w3 ⟨rfl, hk⟩; have HK3 := hid hk; clear hk)
       | (go_at_call 93; (with_reducible refine (HMI.out _ _ _ _ _ (HE2.out.new 105) (by repeat (first | exact upd_eq _ _ _ _ | (refine (upd_ne _ _ _ ?_).trans ?_; omega))) (by repeat (first | exact upd_eq _ _ _ _ | (refine (upd_ne _ _ _ ?_).trans ?_; omega))) (by repeat (first | exact upd_eq _ _ _ _ | (refine (upd_ne _ _ _ ?_).trans ?_; omega)))).mono ?_); rintro e w3 ⟨rfl, hk⟩; have HK3 := hid hk; clear hk))
    all_goals
      go_wp2_with fail
      go_meet
    all_goals exact ⟨rfl, HK3.out⟩
  case rest =>
    obtain ⟨rfl, hk⟩ := hcut
    have HK := hid hk
    clear hk
    go_wp2_with fail
    go_end0
    exact ⟨rfl, HFin.out _ HK.out, HK.out.any⟩

end Go.Proofs
namespace Go.Proofs
open Go.RowKit
set_option maxHeartbeats 1600000
set_option linter.unusedVariables false
set_option linter.unusedSimpArgs false
set_option maxRecDepth 100000

theorem call92 (cap : Array Value) (w : World) : (callFunc 92 cap).run Tryz.prog w = .ok (.enter 92 cap) w := by simp [go_sem, callFunc, Tryz.func92]; rfl

theorem bigInverse34 (T : ByteArray) (sa sb : ByteArray) (na nb : Bool) (da db : Nat → Nat) (la lb : Nat) (x n : Int) (w : World) (ta : NumText sa na la da) (tb : NumText sb nb lb db)
    (hx : x = numZ na (dval da la)) (hn : n = numZ nb (dval db lb)) (G : Glob w) (hxl : x.natAbs < 10 ^ 200) (hnl : n.natAbs < 10 ^ 200) (hn2 : 2 ≤ n) (hT : InvT x n T) :
    Calls Tryz.prog 34 #[.string sa, .string sb] w fun e w' => e = .returned (.tuple #[.string T, .bool true]) ∧ Keeps (fun _ => False) w w' := by
  have hmf : ∀ (fn : Fn) (first cap : Array Value) (w : World), (Instr.makeFunc fn first cap).run Tryz.prog w = .ok (.func fn first cap) w := fun _ _ _ _ => rfl
  obtain ⟨B, hB⟩ : ∃ B : List (TypeId × Value), B = [(9, .string sa), (9, .string sb), (9, .string { data := #[] }), (4, .bool false)] := ⟨_, rfl⟩
  obtain ⟨W, hW⟩ : ∃ W, W = boxed w B := ⟨_, rfl⟩
  obtain ⟨m, hm⟩ : ∃ m, m = w.heap.size := ⟨_, rfl⟩
  have hnest : ((((w.alloc (.cells #[.string sa] 9)).alloc (.cells #[.string sb] 9)).alloc (.cells #[.string { data := #[] }] 9)).alloc (.cells #[.bool false] 4)) = W := by rw [hW, hB]; rfl
  have hk : Keeps (fun _ => False) w W := by rw [hW]; exact boxed_keeps w B
  have hs : W.heap.size = m + 4 := by rw [hW, boxed_size, hB, hm]; rfl
  have hr : ∀ (i : Nat) (x : TypeId × Value), B[i]? = some x → RowAt W (m + i) x.1 [x.2] := fun i x h => by rw [hW, hm]; exact boxed_row w B i x h
  rw [hB] at hr
  have q0 : RowAt W (m) 9 [.string sa] := hr 0 _ rfl
  have q1 : RowAt W (m + 1) 9 [.string sb] := hr 1 _ rfl
  have q2 : RowAt W (m + 1 + 1) 9 [.string { data := #[] }] := hr 2 _ rfl
  have q3 : RowAt W (m + 1 + 1 + 1) 4 [.bool false] := hr 3 _ rfl
  obtain ⟨L, hL⟩ : ∃ L : List (Nat × TypeId × Value), L = [(m + 1 + 1, 9, .string T), (m + 1 + 1 + 1, 4, .bool true)] := ⟨_, rfl⟩
  have hsafe := safe_outs 92 #[.pointer (some ⟨m, 0, none⟩), .pointer (some ⟨m + 1, 0, none⟩), .pointer (some ⟨m + 1 + 1, 0, none⟩), .pointer (some ⟨m + 1 + 1 + 1, 0, none⟩)] W L (call92 _)
    (by rw [hL]; intro x hx; simp only [List.mem_cons, List.not_mem_nil, or_false] at hx; rcases hx with rfl | rfl <;> simp <;> omega)
    (fun w1 hs1 hk1 => by
      rw [hL]
      exact inv92_ok T m (m + 1) (m + 1 + 1) (m + 1 + 1 + 1) sa sb na nb da db la lb x n _ w1 ((hk1.row q0 (fun h => h)).cell 0) ((hk1.row q1 (fun h => h)).cell 0) ta tb (hk1.row q2 (fun h => h)) (hk1.row q3 (fun h => h)) (by omega) (by omega) (by omega) (by omega) (by omega) hx hn (G.keep (hk.trans hk1) (fun _ _ h => h)) hxl hnl hn2 hT)
  have HS := hid hsafe; have HK := hid hk; have HL := hid hL; have HM := hid hm
  clear hsafe hk hL q0 q1 q2 q3 hr hs hB hW hT G ta tb hx hn hxl hnl hn2
  go_enter Tryz.func34, Tryz.ntmps34
  go_wp2_with fail
  rw [← hm]
  clear hnest hm
  refine HS.out.mono ?_
  rintro e w2 ⟨rfl, ho, hk2⟩
  have hkf : Keeps (fun _ => False) w w2 := HK.out.fresh hk2 (fun i ⟨x, hx, he⟩ => by
    rw [HL.out] at hx
    simp only [List.mem_cons, List.not_mem_nil, or_false] at hx
    have := HM.out
    rcases hx with rfl | rfl <;> simp at he <;> omega)
  have HO := hid ho; have HKF := hid hkf
  clear hk2 hkf
  have m0 : (m + 1 + 1, 9, (.string T : Value)) ∈ L := by rw [HL.out]; exact .head _
  have m1 : (m + 1 + 1 + 1, 4, (.bool true : Value)) ∈ L := by rw [HL.out]; exact .tail _ (.head _)
  have hS : ∀ w', OutL w' L → w'.cell? ⟨m + 1 + 1, 0, none⟩ = some (.string T) ∧ w'.cell? ⟨m + 1 + 1 + 1, 0, none⟩ = some (.bool true) := fun w' h => ⟨h.cell m0, h.cell m1⟩
  have HSS := hid hS
  have f0 := ho.frozen m0; have f1 := ho.frozen m1
  obtain ⟨c0, c1⟩ := hS w2 ho
  have e0 := hid (show ∃ t, (m + 1 + 1, t, (.string T : Value)) ∈ L from ⟨_, m0⟩)
  have e1 := hid (show ∃ t, (m + 1 + 1 + 1, t, (.bool true : Value)) ∈ L from ⟨_, m1⟩)
  clear ho m0 m1 hS
  go_wp2_with fail
  have hof := ((HO.out.again e0.out).again e1.out)
  have hge : ∀ i, m ≤ i → w.heap.size ≤ i := fun i hi => by rw [← HM.out]; exact hi
  have hkf := ((HKF.out.setCell ⟨m + 1 + 1, 0, none⟩ (.inr (hge _ (by show m ≤ m + 1 + 1; omega))) (.string T)).setCell ⟨m + 1 + 1 + 1, 0, none⟩ (.inr (hge _ (by show m ≤ m + 1 + 1 + 1; omega))) (.bool true))
  obtain ⟨a0, a1⟩ := HSS.out _ hof
  generalize ((w2.setCell ⟨m + 1 + 1, 0, none⟩ (.string T)).setCell ⟨m + 1 + 1 + 1, 0, none⟩ (.bool true)) = wf at *
  refine bodyPost_ret (v := (.tuple #[.string T, .bool true])) ?_ rfl ⟨rfl, hkf⟩
  simp [results, Tryz.results34, go_sem, a0, a1]
theorem bigInverse34_none (sa sb : ByteArray) (na nb : Bool) (da db : Nat → Nat) (la lb : Nat) (x n : Int) (w : World) (ta : NumText sa na la da) (tb : NumText sb nb lb db)
    (hx : x = numZ na (dval da la)) (hn : n = numZ nb (dval db lb)) (G : Glob w) (hxl : x.natAbs < 10 ^ 200) (hnl : n.natAbs < 10 ^ 200) (hn2 : 2 ≤ n) (hg : Int.gcd x n ≠ 1) :
    Calls Tryz.prog 34 #[.string sa, .string sb] w fun e w' => e = .returned (.tuple #[.string { data := #[] }, .bool false]) ∧ Keeps (fun _ => False) w w' := by
  have hmf : ∀ (fn : Fn) (first cap : Array Value) (w : World), (Instr.makeFunc fn first cap).run Tryz.prog w = .ok (.func fn first cap) w := fun _ _ _ _ => rfl
  obtain ⟨B, hB⟩ : ∃ B : List (TypeId × Value), B = [(9, .string sa), (9, .string sb), (9, .string { data := #[] }), (4, .bool false)] := ⟨_, rfl⟩
  obtain ⟨W, hW⟩ : ∃ W, W = boxed w B := ⟨_, rfl⟩
  obtain ⟨m, hm⟩ : ∃ m, m = w.heap.size := ⟨_, rfl⟩
  have hnest : ((((w.alloc (.cells #[.string sa] 9)).alloc (.cells #[.string sb] 9)).alloc (.cells #[.string { data := #[] }] 9)).alloc (.cells #[.bool false] 4)) = W := by rw [hW, hB]; rfl
  have hk : Keeps (fun _ => False) w W := by rw [hW]; exact boxed_keeps w B
  have hs : W.heap.size = m + 4 := by rw [hW, boxed_size, hB, hm]; rfl
  have hr : ∀ (i : Nat) (x : TypeId × Value), B[i]? = some x → RowAt W (m + i) x.1 [x.2] := fun i x h => by rw [hW, hm]; exact boxed_row w B i x h
  rw [hB] at hr
  have q0 : RowAt W (m) 9 [.string sa] := hr 0 _ rfl
  have q1 : RowAt W (m + 1) 9 [.string sb] := hr 1 _ rfl
  have q2 : RowAt W (m + 1 + 1) 9 [.string { data := #[] }] := hr 2 _ rfl
  have q3 : RowAt W (m + 1 + 1 + 1) 4 [.bool false] := hr 3 _ rfl
  obtain ⟨L, hL⟩ : ∃ L : List (Nat × TypeId × Value), L = [(m + 1 + 1, 9, .string { data := #[] }), (m + 1 + 1 + 1, 4, .bool false)] := ⟨_, rfl⟩
  have hsafe := safe_outs 92 #[.pointer (some ⟨m, 0, none⟩), .pointer (some ⟨m + 1, 0, none⟩), .pointer (some ⟨m + 1 + 1, 0, none⟩), .pointer (some ⟨m + 1 + 1 + 1, 0, none⟩)] W L (call92 _)
    (by rw [hL]; intro x hx; simp only [List.mem_cons, List.not_mem_nil, or_false] at hx; rcases hx with rfl | rfl <;> simp <;> omega)
    (fun w1 hs1 hk1 => by
      rw [hL]
      exact inv92_none m (m + 1) (m + 1 + 1) (m + 1 + 1 + 1) sa sb na nb da db la lb x n { data := #[] } w1 ((hk1.row q0 (fun h => h)).cell 0) ((hk1.row q1 (fun h => h)).cell 0) ta tb (hk1.row q2 (fun h => h)) (hk1.row q3 (fun h => h)) (by omega) (by omega) (by omega) (by omega) (by omega) hx hn (G.keep (hk.trans hk1) (fun _ _ h => h)) hxl hnl hn2 hg)
  have HS := hid hsafe; have HK := hid hk; have HL := hid hL; have HM := hid hm
  clear hsafe hk hL q0 q1 q2 q3 hr hs hB hW hg G ta tb hx hn hxl hnl hn2
  go_enter Tryz.func34, Tryz.ntmps34
  go_wp2_with fail
  rw [← hm]
  clear hnest hm
  refine HS.out.mono ?_
  rintro e w2 ⟨rfl, ho, hk2⟩
  have hkf : Keeps (fun _ => False) w w2 := HK.out.fresh hk2 (fun i ⟨x, hx, he⟩ => by
    rw [HL.out] at hx
    simp only [List.mem_cons, List.not_mem_nil, or_false] at hx
    have := HM.out
    rcases hx with rfl | rfl <;> simp at he <;> omega)
  have HO := hid ho; have HKF := hid hkf
  clear hk2 hkf
  have m0 : (m + 1 + 1, 9, (.string { data := #[] } : Value)) ∈ L := by rw [HL.out]; exact .head _
  have m1 : (m + 1 + 1 + 1, 4, (.bool false : Value)) ∈ L := by rw [HL.out]; exact .tail _ (.head _)
  have hS : ∀ w', OutL w' L → w'.cell? ⟨m + 1 + 1, 0, none⟩ = some (.string { data := #[] }) ∧ w'.cell? ⟨m + 1 + 1 + 1, 0, none⟩ = some (.bool false) := fun w' h => ⟨h.cell m0, h.cell m1⟩
  have HSS := hid hS
  have f0 := ho.frozen m0; have f1 := ho.frozen m1
  obtain ⟨c0, c1⟩ := hS w2 ho
  have e0 := hid (show ∃ t, (m + 1 + 1, t, (.string { data := #[] } : Value)) ∈ L from ⟨_, m0⟩)
  have e1 := hid (show ∃ t, (m + 1 + 1 + 1, t, (.bool false : Value)) ∈ L from ⟨_, m1⟩)
  clear ho m0 m1 hS
  go_wp2_with fail
  have hof := ((HO.out.again e0.out).again e1.out)
  have hge : ∀ i, m ≤ i → w.heap.size ≤ i := fun i hi => by rw [← HM.out]; exact hi
  have hkf := ((HKF.out.setCell ⟨m + 1 + 1, 0, none⟩ (.inr (hge _ (by show m ≤ m + 1 + 1; omega))) (.string { data := #[] })).setCell ⟨m + 1 + 1 + 1, 0, none⟩ (.inr (hge _ (by show m ≤ m + 1 + 1 + 1; omega))) (.bool false))
  obtain ⟨a0, a1⟩ := HSS.out _ hof
  generalize ((w2.setCell ⟨m + 1 + 1, 0, none⟩ (.string { data := #[] })).setCell ⟨m + 1 + 1 + 1, 0, none⟩ (.bool false)) = wf at *
  refine bodyPost_ret (v := (.tuple #[.string { data := #[] }, .bool false])) ?_ rfl ⟨rfl, hkf⟩
  simp [results, Tryz.results34, go_sem, a0, a1]
end Go.Proofs
