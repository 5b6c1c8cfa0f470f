/- Parts of the proofs over the numbers of any length: ExpP, Exp, Dvs. -/
import Derived.Test.YtacbllkmcldniaaGreatDoorDivD
set_option linter.unusedSimpArgs false
set_option linter.unusedVariables false
namespace Go.Proofs
open Go.RowKit
set_option maxHeartbeats 400000
set_option linter.unusedVariables false
set_option linter.unusedSimpArgs false
set_option maxRecDepth 100000

/-- The exponent's bits below place r, laid at the top of a word. -/
def exV (y r : Nat) : Nat := y % 2 ^ r * 2 ^ (64 - r)

theorem exV_lt (y : Nat) {r : Nat} (hr : r ≤ 64) : exV y r < W64 := by
  unfold exV
  have h1 : y % 2 ^ r < 2 ^ r := Nat.mod_lt _ (Nat.two_pow_pos r)
  have h2 : y % 2 ^ r * 2 ^ (64 - r) < 2 ^ r * 2 ^ (64 - r) := Nat.mul_lt_mul_of_pos_right h1 (Nat.two_pow_pos _)
  rw [← Nat.pow_add, show r + (64 - r) = 64 by omega] at h2
  exact h2
theorem exV_start (y : Nat) {r : Nat} (hr : r ≤ 64) : y * 2 ^ (64 - r) % W64 = exV y r := by
  unfold exV
  rw [show W64 = 2 ^ r * 2 ^ (64 - r) by rw [← Nat.pow_add, show r + (64 - r) = 64 by omega]; rfl, Nat.mul_mod_mul_right]
theorem exV_next (y : Nat) {r : Nat} (hr : r + 1 ≤ 64) : exV y (r + 1) * 2 % W64 = exV y r := by
  unfold exV
  rw [Nat.mul_assoc, ← Nat.pow_succ, show (64 - (r + 1)).succ = 64 - r by omega]
  rw [show W64 = 2 ^ r * 2 ^ (64 - r) by rw [← Nat.pow_add, show r + (64 - r) = 64 by omega]; rfl, Nat.mul_mod_mul_right]
  rw [Nat.mod_mod_of_dvd _ (Nat.pow_dvd_pow 2 (by omega))]
theorem mod_bit (y r : Nat) : y % 2 ^ (r + 1) = y % 2 ^ r + 2 ^ r * (y / 2 ^ r % 2) := by
  rw [Nat.pow_succ, Nat.mod_mul]
theorem exV_bit (y : Nat) {r : Nat} (hr : r + 1 ≤ 64) : (2 ^ 63 ≤ exV y (r + 1)) ↔ y / 2 ^ r % 2 = 1 := by
  unfold exV
  rw [mod_bit, show (2 : Nat) ^ 63 = 2 ^ r * 2 ^ (64 - (r + 1)) by rw [← Nat.pow_add]; congr 1; omega]
  have h1 : y % 2 ^ r < 2 ^ r := Nat.mod_lt _ (Nat.two_pow_pos r)
  have h2 : y / 2 ^ r % 2 < 2 := Nat.mod_lt _ (by omega)
  have hp : 0 < 2 ^ (64 - (r + 1)) := Nat.two_pow_pos _
  constructor
  · intro h
    have h3 := Nat.le_of_mul_le_mul_right h hp
    rcases Nat.lt_or_ge (y / 2 ^ r % 2) 1 with h4 | h4
    · have : y / 2 ^ r % 2 = 0 := by omega
      rw [this] at h3; omega
    · omega
  · intro h
    rw [h, Nat.mul_one]
    exact Nat.mul_le_mul_right _ (by omega)
theorem half_bit (y r : Nat) : y / 2 ^ r = y / 2 ^ (r + 1) + y / 2 ^ (r + 1) + y / 2 ^ r % 2 := by
  rw [Nat.pow_succ, ← Nat.div_div_eq_div_mul]
  omega
theorem ex_even (N y r : Nat) (h : y / 2 ^ r % 2 ≠ 1) : N ^ (y / 2 ^ (r + 1)) * N ^ (y / 2 ^ (r + 1)) = N ^ (y / 2 ^ r) := by
  rw [← Nat.pow_add]
  congr 1
  have := half_bit y r
  omega
theorem ex_odd (N y r : Nat) (h : y / 2 ^ r % 2 = 1) : N ^ (y / 2 ^ (r + 1)) * N ^ (y / 2 ^ (r + 1)) * N = N ^ (y / 2 ^ r) := by
  rw [← Nat.pow_add, ← Nat.pow_succ]
  congr 1
  have := half_bit y r
  omega
theorem ex_half (N y r : Nat) (h0 : 0 < N) : N ^ (y / 2 ^ (r + 1)) ≤ N ^ (y / 2) := by
  refine Nat.pow_le_pow_right h0 ?_
  rw [Nat.pow_succ, Nat.mul_comm, ← Nat.div_div_eq_div_mul]
  exact Nat.div_le_self _ _
theorem ex_sq (N y r : Nat) {B : Nat} (h0 : 0 < N) (h : N ^ (y / 2) < B) : N ^ (y / 2 ^ (r + 1)) * N ^ (y / 2 ^ (r + 1)) < B * B := by
  have h1 := Nat.lt_of_le_of_lt (ex_half N y r h0) h
  exact Nat.mul_lt_mul'' h1 h1
theorem bits_top {v : Nat} (h : v < W64) : bits .and .u64 (v : Int) 9223372036854775808 = if 2 ^ 63 ≤ v then 9223372036854775808 else 0 := by
  have h2 := bits_and_u64_nat v 9223372036854775808 h (by omega)
  rw [show ((9223372036854775808 : Nat) : Int) = 9223372036854775808 from rfl] at h2
  rw [h2, show (9223372036854775808 : Nat) = 2 ^ 63 from rfl]
  have h3 : v.testBit 63 = decide (2 ^ 63 ≤ v) := by
    rw [Nat.testBit_eq_decide_div_mod_eq]
    congr 1
    unfold W64 at h
    apply propext
    constructor <;> intro _ <;> omega
  have h4 : v &&& 2 ^ 63 = if 2 ^ 63 ≤ v then 2 ^ 63 else 0 := by
    apply Nat.eq_of_testBit_eq
    intro i
    rw [Nat.testBit_and, Nat.testBit_two_pow]
    by_cases hi : 63 = i
    · subst hi
      rw [h3]
      split
      · rename_i h5; rw [Nat.testBit_two_pow]; simp [h5]
      · rename_i h5; simp [h5]
    · split
      · rw [Nat.testBit_two_pow]; simp [hi]
      · simp [hi]
  rw [h4]
  split <;> rfl
end Go.Proofs
namespace Go.Proofs
open Go.RowKit
set_option maxHeartbeats 1000000
set_option linter.unusedVariables false
set_option linter.unusedSimpArgs false
set_option maxRecDepth 100000

theorem shares_apart {w : World} {a x : Option Addr} {l c xc xl : Nat} {L : List Nat} (h : Rd w a l c L) (hn : ∀ k, InB a k → ¬ InB x k) : sharesB a c x xc = false := by
  unfold sharesB
  by_cases he : a = x
  · subst he
    rcases h with ⟨rfl, _⟩ | ⟨b, o, M, rfl, _⟩
    · simp
    · exact absurd ⟨o, rfl⟩ (hn b ⟨o, rfl⟩)
  · simp [he]

/-- The powers' loop: z = N^(y / 2^r), the lower r places of y left. -/
def ExRel (w0 : World) (a : Option Addr) (c N y wn : Nat) (z zz v i : Value) (wr : World) : Prop :=
  ∃ r j vv E za zl zc qa ql qc, ∃ Q : List Nat, r + j = wn ∧ vv = exV y r ∧ E = N ^ (y / 2 ^ r) ∧ i = .int .i64 (j : Int) ∧ v = .int .u64 (vv : Int) ∧ z = .slice za zl zc ∧ zz = .slice qa ql qc ∧
    Rd wr za zl zc (words E) ∧ Rd wr qa ql qc Q ∧ (∀ k, InB za k → ¬ InB qa k) ∧ Into w0 a c za zc ∧ Into w0 a c qa qc ∧ Keeps (InB a) w0 wr

theorem expNN_walk (a : Option Addr) (l c : Nat) (L : List Nat) (p : Addr) (x : Option Addr) (xl xc N : Nat) (y : Option Addr) (yc v : Nat) (w : World)
    (G : Glob w) (hz : Rd w a l c L) (hx : Rd w x xl xc (words N)) (hy : Rd w y 1 yc [v]) (hv : 2 ≤ v) (hN : 2 ≤ N) (hxl : xl = 1) (hb : N ^ (v / 2) < W64 ^ 11)
    (hax : ∀ k, InB a k → ¬ InB x k) (hay : ∀ k, InB a k → ¬ InB y k) :
    Calls Tryz.prog 256 #[.slice a l c, .pointer (some p), .slice x xl xc, .slice y 1 yc, .slice none 0 0, .bool false] w (NatRes w a c (N ^ v)) := by
  have hvl : v < W64 := hy.words v (by simp)
  have HA1 := hid (alias_any a l c L x xl xc (words N) w hz hx (Al.of_ne hax))
  have HA2 := hid (fun k => alias_any a l c L y 1 yc [v] (w.drewN k) (hz.drewN k) (hy.drewN k) (Al.of_ne hay))
  rw [shares_apart (xl := xl) hz hax] at HA1
  rw [shares_apart (xl := 1) hz hay] at HA2
  obtain ⟨nzv, hnz⟩ : ∃ n, n = nz v := ⟨_, rfl⟩
  obtain ⟨n1, n2, n3, n4⟩ := nz_facts (x := v) (by omega) hvl
  rw [← hnz] at n1 n2 n3 n4
  have n5 : nzv ≤ 62 := by
    rcases Nat.lt_or_ge nzv 63 with h | h
    · omega
    · exfalso
      rw [show 64 - nzv = 1 by omega] at n4; omega
  obtain ⟨wn, hwn⟩ : ∃ wn, wn = 63 - nzv := ⟨_, rfl⟩
  obtain ⟨s, hs⟩ : ∃ s, s = nzv + 1 := ⟨_, rfl⟩
  have HSTART := hid (exV_start v (r := wn) (by omega))
  rw [show 64 - wn = s by omega] at HSTART
  have htop : v / 2 ^ wn = 1 := by
    rw [hwn]
    rw [Nat.div_eq_iff (Nat.two_pow_pos _)]
    rw [show 64 - nzv = (63 - nzv) + 1 by omega, Nat.pow_succ] at n4
    omega
  have HTOP := hid htop
  have HNL := hid (fun (w1 : World) => nlz_any v w1 (by omega) hvl)
  rw [← hnz] at HNL
  have hx0 : ∃ x0, words N = [x0] ∧ x0 = N := by
    have h1 := val_words N
    have h2 := hx.length
    rw [hxl] at h2
    match hw : words N, h2 with
    | [x0], _ => rw [hw] at h1; exact ⟨x0, rfl, by simpa using h1⟩
  obtain ⟨x0, hx1, hx2⟩ := hx0
  subst hxl
  obtain ⟨xb, xo, rfl, hxcell⟩ := hx.cell (by omega)
  have c0 := hxcell 0 (by omega)
  obtain ⟨yb, yo, rfl, hycell⟩ := hy.cell (by omega)
  have c1 := hycell 0 (by omega)
  rw [hx1, hx2] at c0
  simp only [Nat.add_zero, List.getD_cons_zero] at c0 c1
  have t1 : ((N : Int) == 1) = false := by simp; omega
  have t2 : ((v : Int) == 1) = false := by simp; omega
  have t3 : IntKind.u64.wrap ((nzv : Int) + 1) = (s : Int) := by rw [IntKind.wrap_u64]; omega
  have HSH := hid (shl_wrap v s)
  have t4 : IntKind.i64.wrap ((s : Int)) = (s : Int) := by rw [IntKind.wrap_i64]; omega
  have t5 : (64 : Int) - (s : Int) = (wn : Int) := by omega
  have t6 : IntKind.i64.wrap ((wn : Int)) = (wn : Int) := by rw [IntKind.wrap_i64]; omega
  have HG := hid G; have HZ := hid hz; have HX := hid hx; have HY := hid hy; have HB := hid hb; have Hax := hid hax; have Hay := hid hay
  have HV := hid hvl; have Hv2 := hid hv; have HN2 := hid hN; have HWN := hid hwn; have HS := hid hs; have HN5 := hid n5; have HNZ := hid hnz
  clear G hz hx hy hb hax hay hvl hv hN hwn hs n1 n2 n3 n4 n5 hnz htop hxcell hycell hx1 hx2
  go_enter_defers Tryz.func256, Tryz.ntmps256
  go_wp2_with fail
  refine HA1.out.mono ?_
  rintro e w1 ⟨rfl, k1, rfl⟩
  go_wp2_with fail
  refine (HA2.out k1).mono ?_
  rintro e w1 ⟨rfl, k2, rfl⟩
  go_wp2_with fail
  refine (set_any a l c L (some ⟨xb, xo, none⟩) 1 xc (words N) _ (HZ.out.drewN (k1 + k2)) (HX.out.drewN (k1 + k2)) (by omega)).mono ?_
  rintro e w2 ⟨za, zc, rfl, h1, h2, h3⟩
  have h4 : Keeps (InB a) w w2 := (((Keeps.refl _ w).drewN (k1 + k2))).trans h3
  have h5 : Into w a c za zc := h2.mono (by simp)
  have c2 : w2.cell? ⟨yb, yo, none⟩ = some (.int .u64 (v : Int)) := by
    obtain ⟨yb', yo', he, hyc⟩ := (HY.out.keep h4 (fun k hk hk2 => Hax.out k hk2 (absurd hk (Hay.out k hk2)))).cell (by omega)
    cases he
    have := hyc 0 (by omega)
    simpa using this
  have R0 : ExRel w a c N v wn (.slice za 1 zc) (.slice none 0 0) (.int .u64 (exV v wn : Int)) (.int .i64 0) w2 :=
    ⟨wn, 0, _, N, za, 1, zc, none, 0, 0, [], rfl, rfl, by rw [HTOP.out, Nat.pow_one], rfl, rfl, rfl, rfl, h1, Rd.nil _, (fun k _ hk => by obtain ⟨o, ho⟩ := hk; cases ho), h5, .inl ⟨rfl, rfl⟩, h4⟩
  have R := hid R0
  clear h1 h2 h3 h4 h5 R0 HA1 HA2 c0 c1
  go_wp2_with fail
  refine (HNL.out w2).mono ?_
  rintro e w3 ⟨rfl, rfl⟩
  go_wp2_with fail
  go_loopw [0, 19, 15, 21] (fun z zz v' i wr => ExRel w a c N v wn z zz v' i wr) (fun _ _ _ i _ => wn - (intOf i).toNat)
  case atStart =>
    have e1 : IntKind.u64.wrap ((v : Int) * 2 ^ s) = ((exV v wn : Nat) : Int) := by rw [HSH.out, HSTART.out]
    try rw [e1]
    exact R.out
  case round =>
    obtain ⟨r, j, vv, E, za, zl, zc, qa, ql, qc, Q, hr, hvv, hE, rfl, rfl, rfl, rfl, h1, h2, h3, h4, h5, h6⟩ := hrel
    rcases Nat.eq_zero_or_pos r with h0 | h0
    · have b1 : decide (j < wn) = false := by simp; omega
      have HE := hid hE
      have H1 := hid h1; have H4 := hid h4; have H6 := hid h6; have H0 := hid h0
      clear h1 h2 h3 h4 h5 h6 R hr hvv hE h0
      go_wp2_with fail
      go_loopw [0, 22] (fun z k w' => z = .slice za zl zc ∧ k = .int .i64 (-1) ∧ w' = wr) (fun _ _ _ => 0)
      case atStart => exact ⟨rfl, rfl, rfl⟩
      case round =>
        obtain ⟨rfl, rfl, rfl⟩ := hrel
        go_wp2_with fail
        refine (norm_any _ _ _ _ _ H1.out).mono ?_
        rintro e w4 ⟨nn, rfl, hr, hnl, rfl⟩
        have Hr := hid hr
        clear hr
        go_wp2_with fail
        refine ⟨_, results_tmp rfl _ _ _, ?_⟩
        refine ⟨_, _, _, rfl, ?_, H4.out, H6.out⟩
        have h9 := Hr.out
        rw [trimZ_eq_words H1.out.words, val_words, HE.out, H0.out, Nat.pow_zero, Nat.div_one] at h9
        exact h9
    · obtain ⟨r, rfl⟩ : ∃ r', r = r' + 1 := ⟨r - 1, by omega⟩
      have b1 : decide (j < wn) = true := by simp; omega
      have hr64 : r + 1 ≤ 64 := by have := HWN.out; omega
      have hvl := exV_lt v hr64
      rw [← hvv] at hvl
      have htb := bits_top hvl
      have hbit := exV_bit v hr64
      have hnx := exV_next v hr64
      rw [← hvv] at hbit hnx
      have hlz : zl ≤ 11 := by rw [← h1.length, hE]; exact words_lt (Nat.lt_of_le_of_lt (ex_half N v r (by have := HN2.out; omega)) HB.out)
      have HX1 := hid (HX.out.keep h6 (fun k hk hk2 => Hax.out k hk2 hk))
      have G1 := hid (HG.out.keep h6 (fun k hk hk2 => HG.out.ne_rd HZ.out hk hk2))
      have HSQ := hid (sqr_any qa ql qc Q (some p) za zl zc E wr G1.out h2 h1 (by omega) (Al.of_ne (fun k hk hk2 => h3 k hk2 hk)))
      have H1 := hid h1; have H2 := hid h2; have H3 := hid h3; have H4 := hid h4; have H5 := hid h5; have H6 := hid h6
      have Hvv := hid hvl; have Htb := hid htb; have Hbit := hid hbit; have Hnx := hid hnx; have HE := hid hE
      have Hr64 := hid hr64; have Hr := hid hr
      clear h1 h2 h3 h4 h5 h6 hvl htb hbit hnx hvv hE hr64 hr R
      go_wp2_with fail
      refine HSQ.out.mono ?_
      rintro e w4 ⟨ra, rl, rc, rfl, k1, k2, k3⟩
      have R1 := hid k1; have R3 := hid k3
      have Hi2 := hid (H5.out.trans k2 H6.out.size)
      have K2 := hid (H6.out.trans' k3 (fun i hi hk => (H5.out.inB hk).resolve_right (by omega)))
      have Z2 := hid (H1.out.keep k3 (fun k hk hk2 => H3.out k hk hk2))
      have A2 := hid (show ∀ k, InB ra k → ¬ InB za k from fun k hk hk2 => (k2.inB hk).elim (fun h => H3.out k hk2 h) (fun h => by have := H1.out.lt hk2; omega))
      clear k1 k2 k3 HSQ
      by_cases hb1 : v / 2 ^ r % 2 = 1
      · have h63 : 2 ^ 63 ≤ vv := Hbit.out.mpr hb1
        have htb := Htb.out
        rw [if_pos h63] at htb
        clear h63
        have Hb1 := hid hb1
        clear hb1
        have hrl : rl ≤ 22 := by
          rw [← R1.out.length]
          refine words_lt (Nat.lt_of_lt_of_eq (show E * E < W64 ^ 11 * W64 ^ 11 from ?_) (by rw [← Nat.pow_add]))
          rw [HE.out]; exact ex_sq N v r (by have := HN2.out; omega) HB.out
        have G2 := HG.out.keep K2.out (fun k hk hk2 => HG.out.ne_rd HZ.out hk hk2)
        have X2 := HX.out.keep K2.out (fun k hk hk2 => Hax.out k hk2 hk)
        have HMU := hid (mul_any za zl zc (words E) (some p) ra rl rc (E * E) _ 1 xc N w4 G2 Z2.out R1.out X2 (by omega) (by omega) (Al.of_ne (fun k hk hk2 => A2.out k hk2 hk))
          (Al.of_ne (fun k hk hk2 => (H4.out.inB hk).elim (fun h => Hax.out k h hk2) (fun h => by have := HX.out.lt hk2; omega))))
        clear hrl G2 X2
        go_wp2_with fail
        refine HMU.out.mono ?_
        rintro e w5 ⟨ma, ml, mc, rfl, k1, k2, k3⟩
        have M1 := hid k1; have M2 := hid k2; have M3 := hid k3
        clear k1 k2 k3 HMU
        go_wp2_with fail
        have hj := Hr.out; have hw := HWN.out
        refine ⟨⟨r, j + 1, exV v r, E * E * N, ma, ml, mc, ra, rl, rc, _, by omega, rfl, by rw [HE.out, ex_odd N v r Hb1.out], ?_, ?_, rfl, rfl, M1.out, R1.out.keep M3.out (fun k hk hk2 => A2.out k hk hk2), ?_, H4.out.trans M2.out K2.out.size, Hi2.out, ?_⟩, ?_⟩
        · rw [show wrap64 ((j : Int) + 1) = ((j + 1 : Nat) : Int) by unfold wrap64; omega]
        · rw [← Hnx.out, show (vv : Int) * 2 = ((vv * 2 : Nat) : Int) by omega, u64_wrapM]
        · exact fun k hk hk2 => (M2.out.inB hk).elim (fun h => A2.out k hk2 h) (fun h => by have := R1.out.lt hk2; omega)
        · exact K2.out.trans' M3.out (fun i hi hk => (H4.out.inB hk).resolve_right (by omega))
        · rw [show wrap64 ((j : Int) + 1) = ((j + 1 : Nat) : Int) by unfold wrap64; omega]
          simp only [intOf, Int.toNat_natCast]
          omega
      · have h63 : ¬ 2 ^ 63 ≤ vv := fun h => hb1 (Hbit.out.mp h)
        have htb := Htb.out
        rw [if_neg h63] at htb
        clear h63
        have Hb1 := hid hb1
        clear hb1
        go_wp2_with fail
        have hj := Hr.out; have hw := HWN.out
        refine ⟨⟨r, j + 1, exV v r, E * E, ra, rl, rc, za, zl, zc, _, by omega, rfl, by rw [HE.out, ex_even N v r Hb1.out], ?_, ?_, rfl, rfl, R1.out, Z2.out, A2.out, Hi2.out, H4.out, K2.out⟩, ?_⟩
        · rw [show wrap64 ((j : Int) + 1) = ((j + 1 : Nat) : Int) by unfold wrap64; omega]
        · rw [← Hnx.out, show (vv : Int) * 2 = ((vv * 2 : Nat) : Int) by omega, u64_wrapM]
        · rw [show wrap64 ((j : Int) + 1) = ((j + 1 : Nat) : Int) by unfold wrap64; omega]
          simp only [intOf, Int.toNat_natCast]
          omega
end Go.Proofs
namespace Go.Proofs
open Go.RowKit
set_option maxHeartbeats 1000000
set_option linter.unusedVariables false
set_option linter.unusedSimpArgs false
set_option maxRecDepth 100000

theorem words_single {N : Nat} (h0 : 0 < N) (h : N < W64) : words N = [N] := by
  have h1 : N % W64 = N := Nat.mod_eq_of_lt h
  have h2 : N / W64 = 0 := Nat.div_eq_of_lt h
  rw [words, dif_neg (by omega), h1, h2, words_zero]

theorem expWW (p : Addr) (N v : Nat) (w : World) (G : Glob w) (hN : 2 ≤ N) (hNl : N < W64) (hv : 2 ≤ v) (hvl : v < W64) (hb : N ^ (v / 2) < W64 ^ 11) :
    Calls Tryz.prog 285 #[.slice none 0 0, .pointer (some p), .int .u64 (N : Int), .int .u64 (v : Int)] w (NatRes w none 0 (N ^ v)) := by
  have H1 := hid (setWord_any none 0 0 [] N w (Rd.nil w) hNl)
  have H2 := hid (fun (w1 : World) => setWord_any none 0 0 [] v w1 (Rd.nil w1) hvl)
  have HW1 := hid (words_single (by omega : 0 < N) hNl)
  have HW2 := hid (words_single (by omega : 0 < v) hvl)
  have HG := hid G; have Hb := hid hb; have HN := hid hN; have HV := hid hv
  clear G hN hNl hv hvl hb
  go_enter Tryz.func285, Tryz.ntmps285
  go_wp2_with fail
  refine H1.out.mono ?_
  rintro e w1 ⟨xa, xl, xc, rfl, h1, h2, h3⟩
  have X1 := hid h1; have X3 := hid h3
  clear h1 h2 h3
  go_wp2_with fail
  refine (H2.out w1).mono ?_
  rintro e w2 ⟨ya, yl, yc, rfl, h1, h2, h3⟩
  have Y1 := hid h1; have Y3 := hid h3
  clear h1 h2 h3
  have hxl := X1.out.length; have hyl := Y1.out.length
  rw [HW1.out] at hxl; rw [HW2.out] at hyl
  simp only [List.length_cons, List.length_nil] at hxl hyl
  subst hxl; subst hyl
  have X2 := X1.out.keep Y3.out (fun k _ hk => by obtain ⟨o, ho⟩ := hk; cases ho)
  have Y2 := Y1.out
  rw [HW2.out] at Y2
  have K := X3.out.trans Y3.out
  have G2 := HG.out.in_rd (Rd.nil w) K
  have HE := hid (expNN_walk none 0 0 [] p xa 1 xc N ya yc v w2 G2 (Rd.nil w2) X2 Y2 HV.out HN.out rfl Hb.out (fun k hk => by obtain ⟨o, ho⟩ := hk; cases ho) (fun k hk => by obtain ⟨o, ho⟩ := hk; cases ho))
  have HK := hid K
  clear X2 Y2 K G2
  go_wp2_with fail
  refine HE.out.mono ?_
  rintro e w3 ⟨ra, rl, rc, rfl, h1, h2, h3⟩
  have R1 := hid h1; have R2 := hid h2; have R3 := hid h3
  clear h1 h2 h3
  go_wp2_with fail
  go_ret
  exact ⟨ra, rl, rc, rfl, R1.out, R2.out.mono HK.out.size, HK.out.trans R3.out⟩

theorem info245 : (Tryz.prog.info? 245).map (fun i => (i.zero.map (·.cells), i.size, i.bytes)) = some (some #[.slice none 0 0, .int .i64 0, .int .i64 0], 3, 40) := by kernel_rfl
theorem u208 : Tryz.prog.underlying 208 = some (.slice 245) := by kernel_rfl
theorem mk208_one (w : World) : (Instr.makeSlice 208 (.int .i64 1) (.int .i64 1)).run Tryz.prog w = .ok (.slice (some ⟨w.heap.size, 0, none⟩) 1 1) (w.alloc (.cells #[.slice none 0 0, .int .i64 0, .int .i64 0] 245)) := by
  have h := info245
  rw [Option.map_eq_some_iff] at h
  obtain ⟨i, hi, h2⟩ := h
  simp only [Prod.mk.injEq, Option.map_eq_some_iff] at h2
  obtain ⟨⟨z, hz, hc⟩, hs, hb⟩ := h2
  have hrun := run_make (P := Tryz.prog) w 208 245 i z u208 hi hz .i64 .i64 1 1 (by omega) (by omega) (by rw [hb]; decide) (by decide)
  have hm : madeCells #[Value.slice none 0 0, Value.int IntKind.i64 0, Value.int IntKind.i64 0] (Int.toNat 1 * 3) = #[Value.slice none 0 0, Value.int IntKind.i64 0, Value.int IntKind.i64 0] := by kernel_rfl
  rw [hrun, hs, hc, hm]
  rfl

/-- The loop that makes the divisor as great as it can be. -/
def LgRel (w0 : World) (T lb lo lc : Nat) (wr : World) : Prop :=
  ∃ (e : Nat) (a : Option Addr) (l c : Nat), 152 ≤ e ∧ e ≤ 154 ∧ RowAt wr T 245 [.slice a l c, .int .i64 0, .int .i64 (e : Int)] ∧ Rd wr a l c (words (10 ^ e)) ∧ Rd wr (some ⟨lb, lo, none⟩) 8 lc (words (10 ^ e)) ∧
    (∀ k, InB a k → w0.heap.size ≤ k ∧ k ≠ T ∧ k ≠ lb) ∧ Keeps (fun _ => False) w0 wr

theorem ten_len {e : Nat} (h1 : 152 ≤ e) (h2 : e ≤ 154) : (words (10 ^ e)).length = 8 := by
  have h3 : (words (10 ^ e)).length ≤ 8 := words_lt (Nat.lt_of_le_of_lt (Nat.pow_le_pow_right (by omega) h2) (by unfold W64; decide))
  have h4 := lt_words (10 ^ e)
  have h5 : ¬ (words (10 ^ e)).length ≤ 7 := fun h => by
    have h6 : W64 ^ (words (10 ^ e)).length ≤ W64 ^ 7 := Nat.pow_le_pow_right (by unfold W64; omega) h
    have h7 : W64 ^ 7 < 10 ^ 152 := by unfold W64; decide
    have h8 : 10 ^ 152 ≤ 10 ^ e := Nat.pow_le_pow_right (by omega) h1
    omega
  omega

theorem bits_154 {b : Nat} (h : IsBits (10 ^ 154) b) : b = 512 := by
  obtain ⟨h1, h2, _⟩ := h
  have h0 : (10 : Nat) ^ 154 ≠ 0 := by decide
  obtain ⟨h3, h4⟩ := h2 h0
  obtain ⟨P, hP⟩ : ∃ P : Nat, P = 512 := ⟨_, rfl⟩
  have h5 : (10 : Nat) ^ 154 < 2 ^ P := by rw [hP]; decide +kernel
  have h6 : (2 : Nat) ^ 511 ≤ 10 ^ 154 := by decide +kernel
  have h7 : 511 < b := (Nat.pow_lt_pow_iff_right (a := 2) (by decide)).mp (Nat.lt_of_le_of_lt h6 h1)
  have h8 : b - 1 < P := (Nat.pow_lt_pow_iff_right (a := 2) (by decide)).mp (Nat.lt_of_le_of_lt h4 h5)
  omega

/-- The table: one divisor, 10^154. -/
def Tab1 (w0 : World) (e : Ending) (w' : World) : Prop :=
  ∃ T a l c, e = .returned (.slice (some ⟨T, 0, none⟩) 1 1) ∧ w0.heap.size ≤ T ∧ RowAt w' T 245 [.slice a l c, .int .i64 512, .int .i64 154] ∧ Rd w' a l c (words (10 ^ 154)) ∧ (∀ k, InB a k → w0.heap.size ≤ k ∧ k ≠ T) ∧ Keeps (fun _ => False) w0 w'

theorem divisors_one (p sp m : Nat) (w : World) (G : Glob w) (hm : 9 ≤ m) (hm2 : m ≤ 17) :
    Calls Tryz.prog 253 #[.pointer (some ⟨p, 0, none⟩), .int .i64 (m : Int), .int .u64 10, .int .i64 19, .int .u64 10000000000000000000] w (Tab1 w) := by
  have c1 := G.lf
  have hmk := mk208_one w
  have t1 : decide ((m : Int) ≤ 8) = false := by simp; omega
  obtain ⟨h, hh⟩ : ∃ h, h = m / 2 := ⟨_, rfl⟩
  have t2 : (m : Int) / 2 = (h : Int) := by omega
  have t3 : decide ((8 : Int) < (h : Int)) = false := by simp; omega
  have HG := hid G; have Hm := hid hm; have Hm2 := hid hm2
  clear G hm hm2 hh
  go_enter Tryz.func253, Tryz.ntmps253
  go_wp2_with fail
  go_loopw [11, 12] (fun a b w' => a = .int .i64 1 ∧ b = .int .i64 8 ∧ w' = w) (fun _ _ _ => 0)
  case atStart => exact ⟨rfl, rfl, rfl⟩
  case round =>
    obtain ⟨rfl, rfl, hwr⟩ := hrel
    have hwr' := hwr.symm
    subst hwr'
    clear hwr
    go_wp2_with fail
    obtain ⟨T, hT⟩ : ∃ T, T = w.heap.size := ⟨_, rfl⟩
    rw [← hT]
    obtain ⟨w1, hw1⟩ : ∃ w1, w1 = w.alloc (.cells #[.slice none 0 0, .int .i64 0, .int .i64 0] 245) := ⟨_, rfl⟩
    rw [← hw1]
    have HT0 := hid (show RowAt w1 T 245 [.slice none 0 0, .int .i64 0, .int .i64 0] by rw [hw1, hT]; exact RowAt.new w 245 _)
    have HK1 := hid (show Keeps (fun _ => False) w w1 by rw [hw1]; exact (Keeps.refl _ w).alloc _)
    have HT := hid hT; have HW1 := hid hw1
    clear hmk c1 hT hw1
    go_loopw [15] (fun i w' => (i = .int .i64 0 ∧ w' = w1) ∨ (i = .int .i64 1 ∧ Tab1 w (.returned (.slice (some ⟨T, 0, none⟩) 1 1)) w')) (fun i _ => 1 - (intOf i).toNat)
    case atStart => exact .inl ⟨rfl, rfl⟩
    case round =>
      obtain ⟨rfl, hwr⟩ | ⟨rfl, hd⟩ := hrel
      · have hwr' := hwr.symm
        subst hwr'
        clear hwr
        have b0 := RowAt.cell HT0.out 0
        have b1 := RowAt.cell HT0.out 1
        have b2 := RowAt.cell HT0.out 2
        have G1 := hid (HG.out.keep HK1.out (fun _ _ h => h))
        have c1 := G1.out.lf
        have HE := hid (expWW ⟨p, 0, none⟩ 10000000000000000000 8 w1 G1.out (by omega) (by unfold W64; omega) (by omega) (by unfold W64; omega) (by unfold W64; decide))
        rw [show (10000000000000000000 : Nat) ^ 8 = 10 ^ 152 by decide] at HE
        simp at b0 b1 b2
        go_wp2_with fail
        refine HE.out.mono ?_
        rintro e w2 ⟨ba, bl, bc, rfl, h1, h2, h3⟩
        have B1 := hid h1; have B2 := hid h2; have B3 := hid h3
        have HT2 := hid (h3.row HT0.out (fun hk => by obtain ⟨o, ho⟩ := hk; cases ho))
        have G2 := hid (G1.out.in_rd (Rd.nil w1) h3)
        clear h1 h2 h3 HE b0 b1 b2 c1
        have c1 := G2.out.lf
        have f0 := RowAt.frozen HT2.out 0
        have f2 := RowAt.frozen HT2.out 2
        have b0 := RowAt.cell HT2.out 0
        have b2 := RowAt.cell HT2.out 2
        have hTG : ¬ GB T := fun h => by have h1 := HG.out.lt h; have h2 := HT.out; omega
        have HT3 := HT2.out.set 0 (.slice ba bl bc)
        have HT4 := HT3.set 2 (.int .i64 152)
        simp only [List.set_cons_zero, List.set_cons_succ] at HT3 HT4
        have K4 : Keeps (· = T) w2 ((w2.setCell ⟨T, 0, none⟩ (.slice ba bl bc)).setCell ⟨T, 2, none⟩ (.int .i64 152)) := ((Keeps.refl (· = T) w2).setCell ⟨T, 0, none⟩ (.inl (Eq.refl T)) _).setCell ⟨T, 2, none⟩ (.inl (Eq.refl T)) _
        have K3 : Keeps (· = T) w2 (w2.setCell ⟨T, 0, none⟩ (.slice ba bl bc)) := (Keeps.refl (· = T) w2).setCell ⟨T, 0, none⟩ (.inl (Eq.refl T)) _
        have c2 := (G2.out.keep K3 (fun k hk hk2 => hTG (by rw [← hk2]; exact hk))).lf
        have f3 := RowAt.frozen HT3 2
        have hbT : ¬ InB ba T := fun hk => (B2.out.inB hk).elim (fun h => by obtain ⟨o, ho⟩ := h; cases ho) (fun h => by have := HT0.out.lt; omega)
        have B4 := hid (B1.out.keep K4 (fun k hk hk2 => hbT (by rw [← hk2]; exact hk)))
        have G4 := hid (G2.out.keep K4 (fun k hk hk2 => hTG (by rw [← hk2]; exact hk)))
        have HT4' := hid HT4; have HK4 := hid K4; have HbT := hid hbT
        clear hTG K3 K4 HT3 HT4 hbT
        go_upto_region 19 with fail
        generalize ((w2.setCell ⟨T, 0, none⟩ (.slice ba bl bc)).setCell ⟨T, 2, none⟩ (.int .i64 152)) = w4 at *
        have HK := hid ((HK1.out.trans' B3.out (fun i _ hk => by obtain ⟨o, ho⟩ := hk; cases ho)).trans' HK4.out (fun i hi hk => by have := HT.out; omega))
        clear f0 f2 b0 b2 c1 c2 f3
        have hbl : bl = 8 := by rw [← B4.out.length]; exact ten_len (by omega) (by omega)
        refine (set_any none 0 0 [] ba bl bc (words (10 ^ 152)) w4 (Rd.nil _) B4.out (by omega)).mono ?_
        rintro e w5 ⟨ra, rc, rfl, h1, h2, h3⟩
        obtain ⟨lb, lo, hra, _⟩ := h1.cell (by omega)
        subst hra
        subst hbl
        have L0 : LgRel w T lb lo rc w5 := by
          refine ⟨152, ba, 8, bc, by omega, by omega, h3.row HT4'.out (fun hk => by obtain ⟨o, ho⟩ := hk; cases ho), B4.out.keep h3 (fun k _ hk => by obtain ⟨o, ho⟩ := hk; cases ho), h1, ?_, HK.out.trans' h3 (fun i _ hk => by obtain ⟨o, ho⟩ := hk; cases ho)⟩
          intro k hk
          refine ⟨?_, fun h => HbT.out (by rw [← h]; exact hk), ?_⟩
          · exact (B2.out.inB hk).elim (fun h => by obtain ⟨o, ho⟩ := h; cases ho) (fun h => Nat.le_trans HK1.out.size h)
          · have h4 := B4.out.lt hk
            rcases h2 with ⟨h5, _⟩ | ⟨h5, _⟩ | ⟨b', h5, h6⟩
            · cases h5
            · cases h5
            · cases h5; omega
        have HlbT := hid (show lb ≠ T from fun h => by
          have h4 := HT4'.out.lt
          rcases h2 with ⟨h5, _⟩ | ⟨h5, _⟩ | ⟨b', h5, h6⟩
          · cases h5
          · cases h5
          · cases h5; omega)
        have HlbS := hid (show w.heap.size ≤ lb from by
          have h4 := HK.out.size
          rcases h2 with ⟨h5, _⟩ | ⟨h5, _⟩ | ⟨b', h5, h6⟩
          · cases h5
          · cases h5
          · cases h5; omega)
        have HL0 := hid L0
        clear L0 h1 h2 h3
        go_wp2_with fail
        go_loopw [105] (fun _ w' => LgRel w T lb lo rc w') (fun _ w' => 155 - (intOf ((w'.cell? ⟨T, 2, none⟩).getD (.int .i64 0))).toNat)
        case atStart => exact HL0.out
        case round =>
          obtain ⟨e, a, l, c, he1, he2, h1, h2, h3, h4, h5⟩ := hrel
          rcases h3 with ⟨h3, _⟩ | ⟨lb', lo', M, hea, hb, hw, hm1, hm2, hm3, hm4⟩
          · cases h3
          cases hea
          have HM := hid (mulAddVWW_any lb lo rc lb lo rc 8 10 0 M M wr (by omega) hb hb hw (by unfold W64; omega) (by unfold W64; omega) (by omega) (by omega) (.inr (.inl (Nat.le_refl _))))
          rw [hm3, val_words, Nat.add_zero] at HM
          have R1 := hid h1; have A1 := hid h2; have A4 := hid h4; have K5 := hid h5; have Hb := hid hb; have Hw := hid hw; have Hm3 := hid hm3
          have r0 := RowAt.cell h1 0
          have r2 := RowAt.cell h1 2
          simp at r0 r2
          clear h1 h2 h4 h5 hb hw hm3
          go_wp2_with fail
          refine HM.out.mono ?_
          rintro e' w6 ⟨R, cy, k1, k2, k3, k4, rfl, k5, k6⟩
          have A6 := hid (A1.out.keep k6 (fun k hk hk2 => (A4.out k hk).2.2 hk2))
          have R6 := hid (k6.row R1.out (fun h => HlbT.out h.symm))
          have K6 := hid (K5.out.trans' k6 (fun i hi hk => by have := HlbS.out; omega))
          by_cases he : e = 154
          · have hc : ((cy : Int) == 0) = false := by
              have h9 : cy ≠ 0 := fun h => by
                rw [h, he] at k4
                have h8 := val_lt k2
                rw [k1] at h8
                have h10 : W64 ^ 8 < 10 ^ 154 * 10 := by unfold W64; decide
                omega
              simp; omega
            subst he
            have b0 := R6.out.cell 0
            have b1 := R6.out.cell 1
            have f1 := R6.out.frozen 1
            simp only [List.getElem?_cons_zero, List.getElem?_cons_succ] at b0 b1
            have HBL := hid (bitLen225_any a l c (10 ^ 154) w6 A6.out)
            clear k1 k2 k3 k4 k5 k6
            go_wp2_with fail
            refine HBL.out.mono ?_
            rintro e' w7 ⟨bb, rfl, k1, _, rfl⟩
            have hbb : bb = 512 := bits_154 k1
            subst hbb
            clear k1
            have R7 := hid (R6.out.set 1 (.int .i64 512))
            go_wp2_with fail
            have hKT : Keeps (· = T) w7 (w7.setCell ⟨T, 1, none⟩ (.int .i64 512)) := (Keeps.refl (· = T) w7).setCell ⟨T, 1, none⟩ (.inl (Eq.refl T)) _
            refine ⟨.inr ⟨rfl, T, a, l, c, rfl, Nat.le_of_eq HT.out.symm, R7.out, A6.out.keep hKT (fun k hk hk2 => (A4.out k hk).2.1 hk2), fun k hk => ⟨(A4.out k hk).1, (A4.out k hk).2.1⟩, K6.out.trans' hKT (fun i hi hk => by have := HT.out; omega)⟩, by simp [intOf]⟩

          · have hc : cy = 0 := by
              rcases Nat.eq_zero_or_pos cy with h9 | h9
              · exact h9
              · exfalso
                have h8 : 10 ^ e * 10 ≤ 10 ^ 154 := by rw [← Nat.pow_succ]; exact Nat.pow_le_pow_right (by omega) (by omega)
                have h10 : 10 ^ 154 < W64 ^ 8 := by unfold W64; decide
                have h11 : W64 ^ 8 ≤ W64 ^ 8 * cy := Nat.le_mul_of_pos_right _ h9
                omega
            subst hc
            have hv : val R = 10 ^ (e + 1) := by rw [Nat.pow_succ]; omega
            have hR : R = words (10 ^ (e + 1)) := by
              rw [← hv]
              refine eq_words_of_length k2 ?_
              rw [hv, k1]
              exact ten_len (by omega) (by omega)
            have hrd : Rd w6 (some ⟨lb, lo, none⟩) 8 rc R := by
              have h9 := Rd.of_blk (l := 8) (c := rc) (o := lo) k5 (Words.splice Hw.out k2 lo) hm1 (by rw [length_splice (by omega)]; exact hm2) (by rw [length_splice (by omega)]; exact hm4)
              rw [seg_splice_all k1 (by omega)] at h9
              exact h9
            have b0 := R6.out.cell 0
            simp only [List.getElem?_cons_zero] at b0
            have Hrd := hid hrd; have HR := hid hR
            clear k1 k2 k3 k4 k5 k6 hR hrd hv
            go_wp2_with fail
            refine (set_any a l c (words (10 ^ e)) (some ⟨lb, lo, none⟩) 8 rc R w6 A6.out Hrd.out (by omega)).mono ?_
            rintro e' w7 ⟨a', c', rfl, k1, k2, k3⟩
            have R7 := hid (k3.row R6.out (fun hk => (A4.out T hk).2.1 rfl))
            have f0 := R7.out.frozen 0
            have b0' := R7.out.cell 0
            have R8 := R7.out.set 0 (.slice a' 8 c')
            have b2 := R8.cell 2
            have f2 := R8.frozen 2
            have R9 := hid (R8.set 2 (.int .i64 ((e : Int) + 1)))
            simp at b2 b0'
            have tw : wrap64 ((e : Int) + 1) = (e : Int) + 1 := by unfold wrap64; omega
            have tw2 : IntKind.i64.wrap ((e : Int) + 1) = (e : Int) + 1 := by rw [IntKind.wrap_i64]; omega
            have Q1 := hid k1; have Q2 := hid k2; have Q3 := hid k3
            clear k1 k2 k3 R8
            go_wp2_with fail
            have hKT : Keeps (· = T) w7 ((w7.setCell ⟨T, 0, none⟩ (.slice a' 8 c')).setCell ⟨T, 2, none⟩ (.int .i64 ((e : Int) + 1))) := ((Keeps.refl (· = T) w7).setCell ⟨T, 0, none⟩ (.inl (Eq.refl T)) _).setCell ⟨T, 2, none⟩ (.inl (Eq.refl T)) _
            have hT9 := R6.out.lt
            have hl9 := Hrd.out.lt ⟨lo, rfl⟩
            have hA : ∀ k, InB a' k → w.heap.size ≤ k ∧ k ≠ T ∧ k ≠ lb := fun k hk => (Q2.out.inB hk).elim (fun h => A4.out k h) (fun h => ⟨Nat.le_trans K6.out.size h, by omega, by omega⟩)
            refine ⟨⟨e + 1, a', 8, c', by omega, by omega, R9.out, ?_, ?_, hA, ?_⟩, ?_⟩
            · rw [← HR.out]
              exact Q1.out.keep hKT (fun k hk hk2 => (hA k hk).2.1 hk2)
            · rw [← HR.out]
              refine (Hrd.out.keep Q3.out (fun k hk hk2 => ?_)).keep hKT (fun k hk hk2 => ?_)
              · obtain ⟨o, ho⟩ := hk
                cases ho
                exact (A4.out lb hk2).2.2 rfl
              · obtain ⟨o, ho⟩ := hk
                cases ho
                exact HlbT.out hk2
            · exact (K6.out.trans' Q3.out (fun i hi hk => by have := (A4.out i hk).1; omega)).trans' hKT (fun i hi hk => by have := HT.out; omega)
            · have h9 := R9.out.cell 2
              simp only [List.set_cons_zero, List.set_cons_succ, List.getElem?_cons_zero, List.getElem?_cons_succ] at h9
              rw [h9, r2]
              simp only [Option.getD_some, intOf]
              omega

      · go_wp2_with fail
        go_ret
        exact hd

end Go.Proofs
