/- Parts of the proofs over the numbers of any length: Bufs, ExpL, ExpN, ExpS, PowP, NotA, ExpI, ExpW. -/
import Derived.StillTailTactics
import Derived.Test.YtacbllkmcldniaaGreatDoorDivD
import Derived.Test.YtacbllkmcldniaaGreatDoorExpA
import Derived.Test.YtacbllkmcldniaaGreatDoorRangeB
import Derived.Test.YtacbllkmcldniaaGreatDoorIntA
import Derived.Test.YtacbllkmcldniaaGreatDoorMadeA
import Derived.Test.YtacbllkmcldniaaGreatDoorConvA
set_option linter.unusedSimpArgs false
set_option linter.unusedVariables false
namespace Go.Proofs
open Go.RowKit
set_option maxHeartbeats 1000000
set_option linter.unusedVariables false
set_option linter.unusedSimpArgs false
set_option maxRecDepth 100000

/-- Two slices lie in different blocks. -/
def Apt (a b : Option Addr) : Prop := ∀ k, InB a k → ¬ InB b k
/-- A slice lies apart from the stack's data. -/
def Off (D : Option (Nat × Nat)) (a : Option Addr) : Prop := ∀ s e, D = some (s, e) → ¬ InB a e
theorem Apt.symm {a b : Option Addr} (h : Apt a b) : Apt b a := fun k h1 h2 => h k h2 h1
theorem Into.apt {w : World} {a ra b : Option Addr} {c rc l cb : Nat} {L : List Nat} (h : Into w a c ra rc) (hab : Apt a b) (hb : Rd w b l cb L) : Apt ra b := fun k hk hk2 =>
  (h.inB hk).elim (fun h => hab k h hk2) (fun h => by have := hb.lt hk2; omega)
theorem Into.nw {w : World} {n : Nat} {a ra : Option Addr} {c rc : Nat} (h : Into w a c ra rc) (ha : ∀ k, InB a k → n ≤ k) (hn : n ≤ w.heap.size) : ∀ k, InB ra k → n ≤ k := fun k hk =>
  (h.inB hk).elim (fun h => ha k h) (fun h => by omega)
theorem Stk.dlt {w : World} {p sp s e : Nat} (h : Stk w p sp (some (s, e))) : e < w.heap.size := by
  obtain ⟨M, h1, h2, h3, h4⟩ := h
  exact RowAt.lt h3
theorem Into.off {w : World} {p sp : Nat} {D : Option (Nat × Nat)} {a ra : Option Addr} {c rc : Nat} (h : Into w a c ra rc) (ho : Off D a) (hs : Stk w p sp D) : Off D ra := by
  rintro s e rfl hk
  rcases h.inB hk with h1 | h1
  · exact ho s e rfl h1
  · have := hs.dlt; omega
theorem Off.next {w : World} {D D' : Option (Nat × Nat)} {a : Option Addr} {l c : Nat} {L : List Nat} (ho : Off D a) (hI : StI w D D') (hr : Rd w a l c L) : Off D' a := by
  intro s e hD hk
  rcases (hI s e hD).2 with ⟨s', h⟩ | h
  · exact ho s' e h hk
  · have := hr.lt hk; omega

/-- The four slices of a power modulo a number, and the stack. -/
structure Bufs (w0 w : World) (p : Nat) (D : Option (Nat × Nat)) (za : Option Addr) (zl zc : Nat) (Z : List Nat) (ya : Option Addr) (yl yc : Nat) (Y : List Nat) (qa : Option Addr) (ql qc : Nat) (Q : List Nat) (ra : Option Addr) (rl rc : Nat) (R : List Nat) : Prop where
  st : Stk w p 0 D
  dn : ∀ b, StB p D b → w0.heap.size ≤ b
  hz : Rd w za zl zc Z
  hy : Rd w ya yl yc Y
  hq : Rd w qa ql qc Q
  hr : Rd w ra rl rc R
  nz : ∀ k, InB za k → w0.heap.size ≤ k
  ny : ∀ k, InB ya k → w0.heap.size ≤ k
  nq : ∀ k, InB qa k → w0.heap.size ≤ k
  nr : ∀ k, InB ra k → w0.heap.size ≤ k
  oz : Off D za
  oy : Off D ya
  oq : Off D qa
  or_ : Off D ra
  zy : Apt za ya
  zq : Apt za qa
  zr : Apt za ra
  yq : Apt ya qa
  yr : Apt ya ra
  qr : Apt qa ra
  kp : Keeps (fun _ => False) w0 w

/-- Something is written into the second slice, and both are swapped. -/
theorem Bufs.into {w0 w w' : World} {p : Nat} {D : Option (Nat × Nat)} {za : Option Addr} {zl zc : Nat} {Z : List Nat} {ya : Option Addr} {yl yc : Nat} {Y : List Nat} {qa : Option Addr} {ql qc : Nat} {Q : List Nat} {ra : Option Addr} {rl rc : Nat} {R : List Nat}
    (B : Bufs w0 w p D za zl zc Z ya yl yc Y qa ql qc Q ra rl rc R) {na : Option Addr} {nl nc : Nat} {N : List Nat} (hn : Rd w' na nl nc N) (hi : Into w ya yc na nc) (hk : Keeps (InB ya) w w') :
    Bufs w0 w' p D na nl nc N za zl zc Z qa ql qc Q ra rl rc R where
  st := B.st.keepK hk (B.hy.notStB B.st B.oy)
  dn := B.dn
  hz := hn
  hy := B.hz.keep hk B.zy
  hq := B.hq.keep hk B.yq.symm
  hr := B.hr.keep hk B.yr.symm
  nz := hi.nw B.ny B.kp.size
  ny := B.nz
  nq := B.nq
  nr := B.nr
  oz := hi.off B.oy B.st
  oy := B.oz
  oq := B.oq
  or_ := B.or_
  zy := hi.apt B.zy.symm B.hz
  zq := hi.apt B.yq B.hq
  zr := hi.apt B.yr B.hr
  yq := B.zq
  yr := B.zr
  qr := B.qr
  kp := B.kp.trans' hk (fun i h1 h2 => by have := B.ny i h2; omega)

/-- A division, its quotient into the second slice and its rest into the fourth one; all four change places. -/
theorem Bufs.div {w0 w w' : World} {p : Nat} {D D' : Option (Nat × Nat)} {za : Option Addr} {zl zc : Nat} {Z : List Nat} {ya : Option Addr} {yl yc : Nat} {Y : List Nat} {qa : Option Addr} {ql qc : Nat} {Q : List Nat} {ra : Option Addr} {rl rc : Nat} {R : List Nat}
    (B : Bufs w0 w p D za zl zc Z ya yl yc Y qa ql qc Q ra rl rc R) {na : Option Addr} {nl nc : Nat} {N : List Nat} {ma : Option Addr} {ml mc : Nat} {M : List Nat}
    (hn : Rd w' na nl nc N) (hi : Into w ya yc na nc) (hm : Rd w' ma ml mc M) (hj : Into w ra rc ma mc) (hnm : Apt na ma) (hs : Stk w' p 0 D') (hI : StI w D D') (ho : ∀ s e, D' = some (s, e) → ¬ InB na e ∧ ¬ InB ma e)
    (hk : Keeps (fun b => InB ya b ∨ InB ra b ∨ StB p D b) w w') :
    Bufs w0 w' p D' ma ml mc M qa ql qc Q na nl nc N za zl zc Z where
  st := hs
  dn := by
    rintro b (rfl | ⟨s, d, rfl, h | h⟩)
    · exact B.dn b (.inl rfl)
    · subst h
      rcases (hI b d rfl).1 with ⟨d', h⟩ | h
      · exact B.dn b (.inr ⟨b, d', h, .inl rfl⟩)
      · exact Nat.le_trans B.kp.size h
    · subst h
      rcases (hI s b rfl).2 with ⟨s', h⟩ | h
      · exact B.dn b (.inr ⟨s', b, h, .inr rfl⟩)
      · exact Nat.le_trans B.kp.size h
  hz := hm
  hy := B.hq.keep hk (fun k hk2 h => by
    rcases h with h | h | h
    · exact B.yq k h hk2
    · exact B.qr k hk2 h
    · exact B.hq.notStB B.st B.oq k h hk2)
  hq := hn
  hr := B.hz.keep hk (fun k hk2 h => by
    rcases h with h | h | h
    · exact B.zy k hk2 h
    · exact B.zr k hk2 h
    · exact B.hz.notStB B.st B.oz k h hk2)
  nz := hj.nw B.nr B.kp.size
  ny := B.nq
  nq := hi.nw B.ny B.kp.size
  nr := B.nz
  oz := fun s e h => (ho s e h).2
  oy := B.oq.next hI B.hq
  oq := fun s e h => (ho s e h).1
  or_ := B.oz.next hI B.hz
  zy := hj.apt B.qr.symm B.hq
  zq := hnm.symm
  zr := hj.apt B.zr.symm B.hz
  yq := (hi.apt B.yq B.hq).symm
  yr := B.zq.symm
  qr := hi.apt B.zy.symm B.hz
  kp := B.kp.trans' hk (fun i h1 h2 => by
    rcases h2 with h | h | h
    · have := B.ny i h; omega
    · have := B.nr i h; omega
    · have := B.dn i h; omega)
/-- What lay there before stays apart from the stack's data. -/
theorem Bufs.off {w0 w : World} {p : Nat} {D : Option (Nat × Nat)} {za : Option Addr} {zl zc : Nat} {Z : List Nat} {ya : Option Addr} {yl yc : Nat} {Y : List Nat} {qa : Option Addr} {ql qc : Nat} {Q : List Nat} {ra : Option Addr} {rl rc : Nat} {R : List Nat}
    (B : Bufs w0 w p D za zl zc Z ya yl yc Y qa ql qc Q ra rl rc R) {x : Option Addr} {l c : Nat} {L : List Nat} (hx : Rd w0 x l c L) : Off D x := by
  rintro s e rfl hk
  have := B.dn e (.inr ⟨s, e, rfl, .inr rfl⟩)
  have := hx.lt hk
  omega
end Go.Proofs
namespace Go.Proofs
open Go.RowKit
set_option maxHeartbeats 400000
set_option linter.unusedVariables false
set_option linter.unusedSimpArgs false
set_option maxRecDepth 100000

def ExpRes (w : World) (V : Nat) (e : Ending) (w' : World) : Prop :=
  ∃ ra rl rc, e = .returned (.slice ra rl rc) ∧ Rd w' ra rl rc (words V) ∧ (∀ k, InB ra k → w.heap.size ≤ k) ∧ Keeps (fun _ => False) w w'

theorem words_bound {E n : Nat} (h : (words E).length ≤ n) : E < W64 ^ n := Nat.lt_of_lt_of_le (lt_words E) (Nat.pow_le_pow_right (by unfold W64; decide) h)
theorem sq_len {E : Nat} {n : Nat} (h : (words E).length ≤ n) : (words (E * E)).length ≤ 2 * n := by
  refine words_lt ?_
  have h1 := words_bound h
  rw [show 2 * n = n + n by omega, Nat.pow_add]
  exact Nat.mul_lt_mul'' h1 h1
theorem mul_len {E F : Nat} {n m : Nat} (h : (words E).length ≤ n) (k : (words F).length ≤ m) : (words (E * F)).length ≤ n + m := by
  refine words_lt ?_
  rw [Nat.pow_add]
  exact Nat.mul_lt_mul'' (words_bound h) (words_bound k)

end Go.Proofs
namespace Go.Proofs
open Go.RowKit
set_option maxHeartbeats 4000000
set_option linter.unusedVariables false
set_option linter.unusedSimpArgs false
set_option maxRecDepth 100000

/-- The powers' loop with no modulus. -/
def EnRel (w0 : World) (p N y wn : Nat) (z zz v i : Value) (wr : World) : Prop :=
  ∃ rr j vv E za zl zc ya yl yc, ∃ (Y : List Nat), rr + j = wn ∧ vv = exV y rr ∧ E = N ^ (y / 2 ^ rr) ∧
    i = .int .i64 (j : Int) ∧ v = .int .u64 (vv : Int) ∧ z = .slice za zl zc ∧ zz = .slice ya yl yc ∧
    Bufs w0 wr p none za zl zc (words E) ya yl yc Y none 0 0 [] none 0 0 []

theorem expNN_nil (x : Option Addr) (xl xc N : Nat) (y : Option Addr) (yc v : Nat) (w : World)
    (G : Glob w) (hx : Rd w x xl xc (words N)) (hy : Rd w y 1 yc [v]) (hv : 2 ≤ v) (hN : 2 ≤ N) (hxl : xl ≤ 11) (hb : N ^ (v / 2) < W64 ^ 11) :
    Calls Tryz.prog 256 #[.slice none 0 0, .pointer none, .slice x xl xc, .slice y 1 yc, .slice none 0 0, .bool false] w (ExpRes w (N ^ v)) := by
  have hvl : v < W64 := hy.words v (by simp)
  have hz : Rd w none 0 0 [] := Rd.nil _
  have hnn : ∀ (b : Option Addr) k, InB none k → ¬ InB b k := fun b k ⟨o, ho⟩ => by cases ho
  have HA1 := hid (alias_any none 0 0 [] x xl xc (words N) w hz hx (Al.of_ne (hnn _)))
  have HA2 := hid (fun k => alias_any none 0 0 [] y 1 yc [v] (w.drewN k) (hz.drewN k) (hy.drewN k) (Al.of_ne (hnn _)))
  rw [shares_apart (xl := xl) hz (hnn _)] at HA1
  rw [shares_apart (xl := 1) hz (hnn _)] at HA2
  obtain ⟨nzv, hnz⟩ : ∃ n, n = nz v := ⟨_, rfl⟩
  obtain ⟨n1, n2, n3, n4⟩ := nz_facts (x := v) (by omega) hvl
  rw [← hnz] at n1 n2 n3 n4
  have n5 : nzv ≤ 62 := by
    rcases Nat.lt_or_ge nzv 63 with h | h
    · omega
    · exfalso
      rw [show 64 - nzv = 1 by omega] at n4; omega
  obtain ⟨wn, hwn⟩ : ∃ wn, wn = 63 - nzv := ⟨_, rfl⟩
  obtain ⟨s, hs⟩ : ∃ s, s = nzv + 1 := ⟨_, rfl⟩
  have HSTART := hid (exV_start v (r := wn) (by omega))
  rw [show 64 - wn = s by omega] at HSTART
  have htop : v / 2 ^ wn = 1 := by
    rw [hwn]
    rw [Nat.div_eq_iff (Nat.two_pow_pos _)]
    rw [show 64 - nzv = (63 - nzv) + 1 by omega, Nat.pow_succ] at n4
    omega
  have HTOP := hid htop
  have HNL := hid (fun (w1 : World) => nlz_any v w1 (by omega) hvl)
  rw [← hnz] at HNL
  have hxl0 : 0 < xl := by rw [← hx.length]; exact words_length_pos (by omega)
  obtain ⟨xb, xo, rfl, hxcell⟩ := hx.cell hxl0
  obtain ⟨yb, yo, rfl, hycell⟩ := hy.cell (by omega)
  have c1 := hycell 0 (by omega)
  simp only [Nat.add_zero, List.getD_cons_zero] at c1
  have HYC : Hid (∀ W, Keeps (fun _ => False) w W → W.cell? ⟨yb, yo, none⟩ = some (.int .u64 (v : Int))) := hid (fun W hk => by
    obtain ⟨yb', yo', he, hyc⟩ := (hy.keep hk (fun _ _ h => h)).cell (by omega)
    cases he
    have := hyc 0 (by omega)
    simpa using this)
  have hxcase : (((xl : Int) == 1) = true ∧ ∃ x0, w.cell? ⟨xb, xo, none⟩ = some (.int .u64 (x0 : Int)) ∧ ((x0 : Int) == 1) = false) ∨ ((xl : Int) == 1) = false := by
    by_cases h : xl = 1
    · left
      refine ⟨by simp; omega, ?_⟩
      have h1 := hxcell 0 (by omega)
      have h2 := hx.length
      have h3 := val_words N
      refine ⟨_, h1, ?_⟩
      match hw : words N, h2 with
      | [x0], _ =>
        rw [hw] at h3
        simp at h3
        simp
        omega
      | [], h2 => simp at h2; omega
      | _ :: _ :: _, h2 => simp at h2; omega
    · right; simp; omega
  have t2 : ((v : Int) == 1) = false := by simp; omega
  have t9 : ((xl : Int) == 0) = false := by simp; omega
  have t3 : IntKind.u64.wrap ((nzv : Int) + 1) = (s : Int) := by rw [IntKind.wrap_u64]; omega
  have HSH := hid (shl_wrap v s)
  have t4 : IntKind.i64.wrap ((s : Int)) = (s : Int) := by rw [IntKind.wrap_i64]; omega
  have t5 : (64 : Int) - (s : Int) = (wn : Int) := by omega
  have t6 : IntKind.i64.wrap ((wn : Int)) = (wn : Int) := by rw [IntKind.wrap_i64]; omega
  have HG := hid G; have HX := hid hx; have HY := hid hy
  have HV := hid hvl; have Hv2 := hid hv; have HN2 := hid hN; have HWN := hid hwn; have HS := hid hs; have HN5 := hid n5; have HNZ := hid hnz; have HXL := hid hxl; have HBD := hid hb
  clear G hx hy hvl hv hN hwn hb hs n1 n2 n3 n4 n5 hnz htop hxcell hycell hxl hz hnn
  have HGO : Hid (∀ (k : Nat) (w1 : World) (p : Nat) (za : Option Addr) (zc : Nat) (L : List Nat), w1 = (w.drewN k).alloc (.cells #[.pointer none] 240) → p = w.heap.size → True) := hid (fun _ _ _ _ _ _ _ _ => trivial)
  clear HGO
  rcases hxcase with ⟨tx, x0, c0, t1⟩ | t1
  all_goals
    go_enter_defers Tryz.func256, Tryz.ntmps256
    go_wp2_with fail
    refine HA1.out.mono ?_
    rintro e w1 ⟨rfl, k1, rfl⟩
    go_wp2_with fail
    refine (HA2.out k1).mono ?_
    rintro e w1 ⟨rfl, k2, rfl⟩
    go_wp2_with fail
    refine (getStack_any _).mono ?_
    rintro e w2 ⟨rfl, rfl⟩
    rw [show (w.drewN (k1 + k2)).heap.size = w.heap.size from rfl]
    obtain ⟨W1, hW1⟩ : ∃ W, W = (w.drewN (k1 + k2)).alloc (.cells #[.pointer none] 240) := ⟨_, rfl⟩
    obtain ⟨p, hp⟩ : ∃ p, p = w.heap.size := ⟨_, rfl⟩
    have hk1 : Keeps (fun _ => False) w W1 := by rw [hW1]; exact ((Keeps.refl _ w).drewN (k1 + k2)).alloc _
    have hrp : RowAt W1 p 240 [.pointer none] := by rw [hW1, hp]; exact RowAt.new (w.drewN (k1 + k2)) 240 [.pointer none]
    have hpw : p < W1.heap.size := hrp.lt
    rw [← hW1, ← hp]
    have c4 := HYC.out W1 hk1
    have HP := hid hp; have HK1 := hid hk1; have HRP := hid hrp; have HPW := hid hpw
    have HPG : Hid (¬ GB p) := hid (fun h => by have := HG.out.lt h; omega)
    clear hW1 hp hk1 hrp hpw HA1 HA2
    have HST := hid (set_any none 0 0 [] (some ⟨xb, xo, none⟩) xl xc (words N) W1 (Rd.nil _) (HX.out.keep HK1.out (fun _ _ h => h)) (by have := HXL.out; omega))
    go_wp2_with fail
    refine HST.out.mono ?_
    rintro e w4 ⟨za, zc, rfl, h1, h2, h3⟩
    have hwW := HK1.out.size
    have hk4 : Keeps (fun _ => False) w w4 := HK1.out.trans' h3 (fun i hi ⟨o', ho⟩ => by cases ho)
    have hBu : Bufs w w4 p none za xl zc (words N) none 0 0 [] none 0 0 [] none 0 0 [] :=
      { st := ⟨h3.row HRP.out (fun ⟨o', ho⟩ => by cases ho), rfl⟩
        dn := fun b hb => by
          rcases hb with h | ⟨s, d, h, _⟩
          · have := HP.out; omega
          · cases h
        hz := h1, hy := Rd.nil _, hq := Rd.nil _, hr := Rd.nil _
        nz := fun k hk => by
          rcases h2.inB hk with ⟨o', ho⟩ | h
          · cases ho
          · omega
        ny := fun k ⟨o, ho⟩ => by cases ho
        nq := fun k ⟨o, ho⟩ => by cases ho
        nr := fun k ⟨o, ho⟩ => by cases ho
        oz := fun s e h => by cases h
        oy := fun s e h => by cases h
        oq := fun s e h => by cases h
        or_ := fun s e h => by cases h
        zy := fun k _ ⟨o, ho⟩ => by cases ho
        zq := fun k _ ⟨o, ho⟩ => by cases ho
        zr := fun k _ ⟨o, ho⟩ => by cases ho
        yq := fun k _ ⟨o, ho⟩ => by cases ho
        yr := fun k _ ⟨o, ho⟩ => by cases ho
        qr := fun k _ ⟨o, ho⟩ => by cases ho
        kp := hk4 }
    have c2 := HYC.out w4 hk4
    have R0 : EnRel w p N v wn (.slice za xl zc) (.slice none 0 0) (.int .u64 (exV v wn : Int)) (.int .i64 0) w4 :=
      ⟨wn, 0, _, N, za, xl, zc, none, 0, 0, [], rfl, rfl, by rw [HTOP.out, Nat.pow_one], rfl, rfl, rfl, rfl, hBu⟩
    have R := hid R0
    clear h1 h2 h3 hk4 hBu R0 c1 c4 hwW HST
    go_wp2_with fail
    refine (HNL.out w4).mono ?_
    rintro e w5 ⟨rfl, rfl⟩
    go_wp2_with fail
    go_loopw [0, 19, 15, 21] (fun z zz v' i wr => EnRel w p N v wn z zz v' i wr) (fun _ _ _ i _ => wn - (intOf i).toNat)
    case atStart =>
      have e1 : IntKind.u64.wrap ((v : Int) * 2 ^ s) = ((exV v wn : Nat) : Int) := by rw [HSH.out, HSTART.out]
      try rw [e1]
      exact R.out
    case round =>
      obtain ⟨r, j, vv, E, za, zl, zc, ya, yl, yc', Y, hr, hvv, hE, rfl, rfl, rfl, rfl, hB⟩ := hrel
      rcases Nat.eq_zero_or_pos r with h0 | h0
      · have b1 : decide (j < wn) = false := by simp; omega
        have hEv : E = N ^ v := by rw [hE, h0, Nat.pow_zero, Nat.div_one]
        have HEV := hid hEv; have HB := hid hB
        clear hB R hr hvv hE h0 hEv
        go_wp2_with fail
        go_loopw [0, 22] (fun z k w' => z = .slice za zl zc ∧ k = .int .i64 (-1) ∧ w' = wr) (fun _ _ _ => 0)
        case atStart => exact ⟨rfl, rfl, rfl⟩
        case round =>
          obtain ⟨rfl, rfl, rfl⟩ := hrel
          go_wp2_with fail
          refine (norm_any _ _ _ _ _ HB.out.hz).mono ?_
          rintro e w4 ⟨nn, rfl, hr, hnl, rfl⟩
          have Hr := hid hr
          clear hr
          go_wp2_with fail
          refine leaves_cons (f := 240) (args := #[.pointer (some ⟨p, 0, none⟩)]) (by simp) (by simp [go_sem]) ?_
          refine (free240_any p 0 none _ _ HB.out.st).mono ?_
          rintro e u' w'' ⟨rfl, rfl, hk'⟩
          refine ⟨_, results_tmp rfl _ _ _, ?_⟩
          refine ⟨_, _, _, rfl, ?_, HB.out.nz, HB.out.kp.trans' hk' (fun i hi ⟨d, hd⟩ => by have := HB.out.dn i (.inr ⟨i, d, hd, .inl rfl⟩); omega)⟩
          have h9 := Hr.out
          rw [trimZ_eq_words HB.out.hz.words, val_words, HEV.out] at h9
          exact h9.freed HB.out.st hk'
      · obtain ⟨r, rfl⟩ : ∃ r', r = r' + 1 := ⟨r - 1, by omega⟩
        have b1 : decide (j < wn) = true := by simp; omega
        have hr64 : r + 1 ≤ 64 := by have := HWN.out; omega
        have hvl := exV_lt v hr64
        rw [← hvv] at hvl
        have htb := bits_top hvl
        have hbit := exV_bit v hr64
        have hnx := exV_next v hr64
        rw [← hvv] at hbit hnx
        have hlz : (words E).length ≤ 11 := by rw [hE]; exact words_lt (Nat.lt_of_le_of_lt (ex_half N v r (by have := HN2.out; omega)) HBD.out)
        have hzl : zl ≤ 11 := by rw [← hB.hz.length]; exact hlz
        have G1 := hid (HG.out.keep hB.kp (fun _ _ h => h))
        have HSQ := hid (sqr_any ya yl yc' Y (some ⟨p, 0, none⟩) za zl zc E wr G1.out hB.hy hB.hz (by omega) (Al.of_ne hB.zy.symm))
        have HB := hid hB; have Hvv := hid hvl; have Htb := hid htb; have Hbit := hid hbit; have Hnx := hid hnx; have HE := hid hE
        have Hr64 := hid hr64; have Hr := hid hr; have HLZ := hid hlz
        clear hB hvl htb hbit hnx hvv hE hr64 hr hlz hzl R
        go_wp2_with fail
        refine HSQ.out.mono ?_
        rintro e w4 ⟨na, nl, nc, rfl, k1, k2, k3⟩
        have hB1 := HB.out.into k1 k2 k3
        have HB1 := hid hB1
        have hnl : nl ≤ 22 := by rw [← k1.length]; exact sq_len HLZ.out
        clear k1 k2 k3 HSQ hB1
        by_cases hb1 : v / 2 ^ r % 2 = 1
        · have h63 : 2 ^ 63 ≤ vv := Hbit.out.mpr hb1
          have htb := Htb.out
          rw [if_pos h63] at htb
          clear h63
          have Hb1 := hid hb1
          clear hb1
          have hxl2 : xl < 40 := by have := HXL.out; omega
          have HMU := hid (mul_any za zl zc (words E) (some ⟨p, 0, none⟩) na nl nc (E * E) (some ⟨xb, xo, none⟩) xl xc N w4 (HG.out.keep HB1.out.kp (fun _ _ h => h)) HB1.out.hy HB1.out.hz (HX.out.keep HB1.out.kp (fun _ _ h => h)) (by omega) hxl2 (Al.of_ne HB1.out.zy.symm)
            (Al.of_ne (fun k hk hk2 => by have := HB1.out.ny k hk; have := HX.out.lt hk2; omega)))
          clear hxl2
          have Hnl := hid hnl
          clear hnl
          go_wp2_with fail
          refine HMU.out.mono ?_
          rintro e w5 ⟨ma, mll, mcc, rfl, k1, k2, k3⟩
          have hB2 := HB1.out.into k1 k2 k3
          have HB2 := hid hB2
          clear k1 k2 k3 HMU hB2
          go_wp2_with fail
          have hj := Hr.out; have hw := HWN.out
          refine ⟨⟨r, j + 1, exV v r, E * E * N, ma, mll, mcc, na, nl, nc, _, by omega, rfl, by rw [HE.out, ex_odd N v r Hb1.out], ?_, ?_, rfl, rfl, HB2.out⟩, ?_⟩
          · rw [show wrap64 ((j : Int) + 1) = ((j + 1 : Nat) : Int) by unfold wrap64; omega]
          · rw [← Hnx.out, show (vv : Int) * 2 = ((vv * 2 : Nat) : Int) by omega, u64_wrapM]
          · rw [show wrap64 ((j : Int) + 1) = ((j + 1 : Nat) : Int) by unfold wrap64; omega]
            simp only [intOf, Int.toNat_natCast]
            omega
        · have h63 : ¬ 2 ^ 63 ≤ vv := fun h => hb1 (Hbit.out.mp h)
          have htb := Htb.out
          rw [if_neg h63] at htb
          clear h63
          have Hb1 := hid hb1
          clear hb1
          go_wp2_with fail
          have hj := Hr.out; have hw := HWN.out
          refine ⟨⟨r, j + 1, exV v r, E * E, na, nl, nc, za, zl, zc, _, by omega, rfl, by rw [HE.out, ex_even N v r Hb1.out], ?_, ?_, rfl, rfl, HB1.out⟩, ?_⟩
          · rw [show wrap64 ((j : Int) + 1) = ((j + 1 : Nat) : Int) by unfold wrap64; omega]
          · rw [← Hnx.out, show (vv : Int) * 2 = ((vv * 2 : Nat) : Int) by omega, u64_wrapM]
          · rw [show wrap64 ((j : Int) + 1) = ((j + 1 : Nat) : Int) by unfold wrap64; omega]
            simp only [intOf, Int.toNat_natCast]
            omega
end Go.Proofs
namespace Go.Proofs
open Go.RowKit
set_option maxHeartbeats 1000000
set_option linter.unusedVariables false
set_option linter.unusedSimpArgs false
set_option maxRecDepth 100000

theorem rd_one {w : World} {a : Option Addr} {c M : Nat} (h : Rd w a 1 c (words M)) : ∃ b o, a = some ⟨b, o, none⟩ ∧ w.cell? ⟨b, o, none⟩ = some (.int .u64 (M : Int)) ∧ M < W64 ∧ words M = [M] := by
  obtain ⟨b, o, rfl, hc⟩ := h.cell (by omega)
  have h1 := hc 0 (by omega)
  have h2 := h.length
  have h3 := val_words M
  have h4 := words_words M
  match hw : words M, h2 with
  | [x0], _ =>
    rw [hw] at h1 h3 h4
    simp at h3
    subst h3
    exact ⟨b, o, rfl, by simpa using h1, h4 _ (by simp), rfl⟩
  | [], h2 => simp at h2
  | _ :: _ :: _, h2 => simp at h2
theorem words_len_le_one {v : Nat} (h : v < W64) : (words v).length ≤ 1 := words_lt (by rwa [Nat.pow_one])
theorem ExpRes.of {w w1 w' : World} {e : Ending} {V : Nat} (h : NatRes w1 none 0 V e w') (hk : Keeps (fun _ => False) w w1) : ExpRes w V e w' := by
  obtain ⟨ra, rl, rc, rfl, h1, h2, h3⟩ := h
  exact ⟨ra, rl, rc, rfl, h1, h2.nw (n := w.heap.size) (fun k ⟨o, ho⟩ => by cases ho) hk.size, hk.trans' h3 (fun i hi ⟨o, ho⟩ => by cases ho)⟩

theorem expNN_none (x : Option Addr) (xl xc N : Nat) (y : Option Addr) (yl yc v : Nat) (w : World)
    (G : Glob w) (hx : Rd w x xl xc (words N)) (hy : Rd w y yl yc (words v)) (hv : v < W64) (hxl : xl ≤ 11) (hb : N ^ (v / 2) < W64 ^ 11) :
    Calls Tryz.prog 256 #[.slice none 0 0, .pointer none, .slice x xl xc, .slice y yl yc, .slice none 0 0, .bool false] w (ExpRes w (N ^ v)) := by
  have hz : Rd w none 0 0 [] := Rd.nil _
  have hnn : ∀ (b : Option Addr) k, InB none k → ¬ InB b k := fun b k ⟨o, ho⟩ => by cases ho
  have hyl1 : yl ≤ 1 := by rw [← hy.length]; exact words_len_le_one hv
  by_cases hmain : 2 ≤ N ∧ 2 ≤ v
  · have h1 : yl = 1 := by
      have := hy.length
      have h2 := words_length_pos (n := v) (by omega)
      omega
    subst h1
    obtain ⟨_, _, _, _, _, hw⟩ := rd_one hy
    rw [hw] at hy
    exact expNN_nil x xl xc N y yc v w G hx hy hmain.2 hmain.1 hxl hb
  have HA1 := hid (alias_any none 0 0 [] x xl xc (words N) w hz hx (Al.of_ne (hnn _)))
  have HA2 := hid (fun k => alias_any none 0 0 [] y yl yc (words v) (w.drewN k) (hz.drewN k) (hy.drewN k) (Al.of_ne (hnn _)))
  rw [shares_apart (xl := xl) hz (hnn _)] at HA1
  rw [shares_apart (xl := yl) hz (hnn _)] at HA2
  have HK := hid (fun k => ((Keeps.refl (fun _ => False) w).drewN k))
  have HX := hid hx
  by_cases hv0 : v = 0
  · subst hv0
    have h0 : yl = 0 := by have := hy.length; rw [words_zero] at this; simpa using this.symm
    subst h0
    have HS := hid (fun k => setWord_any none 0 0 [] 1 (w.drewN k) (Rd.nil _) (by unfold W64; decide))
    clear hx hy G hb hmain hz hnn
    go_enter Tryz.func256, Tryz.ntmps256
    go_wp2_with fail
    refine HA1.out.mono ?_
    rintro e w1 ⟨rfl, k1, rfl⟩
    go_wp2_with fail
    refine (HA2.out k1).mono ?_
    rintro e w1 ⟨rfl, k2, rfl⟩
    go_wp2_with fail
    refine (HS.out (k1 + k2)).mono ?_
    rintro e w3 h
    obtain ⟨ra, rl, rc, rfl, h1, h2, h3⟩ := ExpRes.of h (HK.out (k1 + k2))
    have H1 := hid h1; have H2 := hid h2; have H3 := hid h3
    clear h h1 h2 h3
    go_wp2_with fail
    go_ret
    exact ⟨_, _, _, rfl, by rw [Nat.pow_zero]; exact H1.out, H2.out, H3.out⟩
  have h1 : yl = 1 := by
    have := hy.length
    have h2 := words_length_pos (n := v) hv0
    omega
  subst h1
  obtain ⟨yb, yo, rfl, c1, _, _⟩ := rd_one hy
  by_cases hN0 : N = 0
  · subst hN0
    have h0 : xl = 0 := by have := hx.length; rw [words_zero] at this; simpa using this.symm
    subst h0
    have HS := hid (fun k => setWord_any none 0 0 [] 0 (w.drewN k) (Rd.nil _) (by unfold W64; decide))
    have hp : 0 ^ v = 0 := Nat.zero_pow (by omega)
    have HPW := hid hp
    clear hx hy G hb hmain hz hnn hp
    go_enter Tryz.func256, Tryz.ntmps256
    go_wp2_with fail
    refine HA1.out.mono ?_
    rintro e w1 ⟨rfl, k1, rfl⟩
    go_wp2_with fail
    refine (HA2.out k1).mono ?_
    rintro e w1 ⟨rfl, k2, rfl⟩
    go_wp2_with fail
    refine (HS.out (k1 + k2)).mono ?_
    rintro e w3 h
    obtain ⟨ra, rl, rc, rfl, h1, h2, h3⟩ := ExpRes.of h (HK.out (k1 + k2))
    have H1 := hid h1; have H2 := hid h2; have H3 := hid h3
    clear h h1 h2 h3
    go_wp2_with fail
    go_ret
    exact ⟨_, _, _, rfl, by rw [HPW.out]; exact H1.out, H2.out, H3.out⟩
  have hxl0 : 0 < xl := by rw [← hx.length]; exact words_length_pos hN0
  have t9 : ((xl : Int) == 0) = false := by simp; omega
  by_cases hN1 : N = 1
  · subst hN1
    have h0 : xl = 1 := by have := hx.length; rw [show words 1 = [1] by decide +kernel] at this; simpa using this.symm
    subst h0
    obtain ⟨xb, xo, rfl, c0, _, _⟩ := rd_one hx
    have HS := hid (fun k => setWord_any none 0 0 [] 1 (w.drewN k) (Rd.nil _) (by unfold W64; decide))
    clear hx hy G hb hmain hz hnn
    go_enter Tryz.func256, Tryz.ntmps256
    go_wp2_with fail
    refine HA1.out.mono ?_
    rintro e w1 ⟨rfl, k1, rfl⟩
    go_wp2_with fail
    refine (HA2.out k1).mono ?_
    rintro e w1 ⟨rfl, k2, rfl⟩
    go_wp2_with fail
    refine (HS.out (k1 + k2)).mono ?_
    rintro e w3 h
    obtain ⟨ra, rl, rc, rfl, h1, h2, h3⟩ := ExpRes.of h (HK.out (k1 + k2))
    have H1 := hid h1; have H2 := hid h2; have H3 := hid h3
    clear h h1 h2 h3
    go_wp2_with fail
    go_ret
    exact ⟨_, _, _, rfl, by rw [Nat.one_pow]; exact H1.out, H2.out, H3.out⟩
  have hv1 : v = 1 := by omega
  subst hv1
  obtain ⟨xb, xo, rfl, hxcell⟩ := hx.cell hxl0
  have hxcase : (((xl : Int) == 1) = true ∧ ∃ x0, w.cell? ⟨xb, xo, none⟩ = some (.int .u64 (x0 : Int)) ∧ ((x0 : Int) == 1) = false) ∨ ((xl : Int) == 1) = false := by
    by_cases h : xl = 1
    · left
      subst h
      obtain ⟨b, o, he, c0, _, _⟩ := rd_one hx
      cases he
      exact ⟨by simp, _, c0, by simp; omega⟩
    · right; simp; omega
  have HS := hid (fun k => set_any none 0 0 [] (some ⟨xb, xo, none⟩) xl xc (words N) (w.drewN k) (Rd.nil _) (hx.drewN k) (by omega))
  clear hx hy G hb hmain hz hnn hxcell
  rcases hxcase with ⟨tx, x0, c0, t1⟩ | t1
  all_goals
    go_enter Tryz.func256, Tryz.ntmps256
    go_wp2_with fail
    refine HA1.out.mono ?_
    rintro e w1 ⟨rfl, k1, rfl⟩
    go_wp2_with fail
    refine (HA2.out k1).mono ?_
    rintro e w1 ⟨rfl, k2, rfl⟩
    go_wp2_with fail
    refine (HS.out (k1 + k2)).mono ?_
    rintro e w3 ⟨ra, rc, rfl, h1, h2, h3⟩
    have H1 := hid h1; have H2 := hid h2; have H3 := hid h3
    clear h1 h2 h3
    go_wp2_with fail
    go_ret
    exact ⟨_, _, _, rfl, by rw [Nat.pow_one]; exact H1.out, H2.out.nw (n := w.heap.size) (fun k ⟨o, ho⟩ => by cases ho) (HK.out (k1 + k2)).size, (HK.out (k1 + k2)).trans' H3.out (fun i hi ⟨o, ho⟩ => by cases ho)⟩
end Go.Proofs
namespace Go.Proofs
set_option maxHeartbeats 400000
set_option linter.unusedVariables false

theorem pm_even {E N y r m : Nat} (h : E % m = N ^ (y / 2 ^ (r + 1)) % m) (hb : y / 2 ^ r % 2 ≠ 1) : E * E % m = N ^ (y / 2 ^ r) % m := by
  rw [← ex_even N y r hb, Nat.mul_mod, h, ← Nat.mul_mod]
theorem pm_odd {E N y r m : Nat} (h : E % m = N ^ (y / 2 ^ (r + 1)) % m) (hb : y / 2 ^ r % 2 = 1) : E * E * N % m = N ^ (y / 2 ^ r) % m := by
  rw [← ex_odd N y r hb, Nat.mul_mod (E * E), Nat.mul_mod E, h, ← Nat.mul_mod (N ^ _) (N ^ _), ← Nat.mul_mod]

theorem sq_pow (x : Int) (k : Nat) : (x * x) ^ k = x ^ (2 * k) := by
  induction k with
  | zero => simp
  | succ k ih => rw [Int.pow_succ, ih, show 2 * (k + 1) = 2 * k + 1 + 1 by omega, Int.pow_succ, Int.pow_succ, Int.mul_assoc]
theorem emod_pow (a m : Int) (k : Nat) : (a % m) ^ k % m = a ^ k % m := by
  induction k with
  | zero => simp
  | succ k ih => rw [Int.pow_succ, Int.pow_succ, Int.mul_emod, ih, Int.emod_emod_of_dvd _ (Int.dvd_refl m), ← Int.mul_emod]
/-- One round of the reference's power modulo m: a place that is set. -/
theorem pmod_odd (o x m : Int) (n : Nat) (h : n % 2 = 1) : (o * x % m) * (x * x % m) ^ (n / 2) % m = o * x ^ n % m := by
  rw [Int.mul_emod, emod_pow, Int.emod_emod_of_dvd _ (Int.dvd_refl m), ← Int.mul_emod]
  congr 1
  rw [sq_pow, Int.mul_assoc, ← Int.pow_succ']
  congr 2
  omega
theorem pmod_even (o x m : Int) (n : Nat) (h : n % 2 ≠ 1) : o * (x * x % m) ^ (n / 2) % m = o * x ^ n % m := by
  rw [Int.mul_emod, emod_pow, ← Int.mul_emod]
  congr 1
  rw [sq_pow]
  congr 2
  omega
/-- What the implementation leaves of a power of the size: its sign and the modulus put in. -/
def powZ (x : Int) (n M : Nat) : Int := if x < 0 ∧ n % 2 = 1 ∧ x.natAbs ^ n % M ≠ 0 then ((M - x.natAbs ^ n % M : Nat) : Int) else ((x.natAbs ^ n % M : Nat) : Int)
theorem neg_pow_even (a : Int) (n : Nat) (h : n % 2 ≠ 1) : (-a) ^ n = a ^ n := by
  obtain ⟨k, rfl⟩ : ∃ k, n = 2 * k := ⟨n / 2, by omega⟩
  rw [← sq_pow, ← sq_pow, Int.neg_mul_neg]
theorem neg_pow_odd (a : Int) (n : Nat) (h : n % 2 = 1) : (-a) ^ n = -(a ^ n) := by
  obtain ⟨k, rfl⟩ : ∃ k, n = k + 1 := ⟨n - 1, by omega⟩
  rw [Int.pow_succ, Int.pow_succ, neg_pow_even a k (by omega), Int.mul_neg]
theorem powZ_eq (x : Int) (n M : Nat) (hM : 0 < M) : powZ x n M = x ^ n % (M : Int) := by
  have hc : ((x.natAbs ^ n : Nat) : Int) = (x.natAbs : Int) ^ n := Int.natCast_pow _ _
  have hr : ((x.natAbs ^ n % M : Nat) : Int) = (x.natAbs : Int) ^ n % (M : Int) := by rw [Int.natCast_emod, hc]
  have hlt := Nat.mod_lt (x.natAbs ^ n) hM
  unfold powZ
  by_cases hx : x < 0
  · have he : x = -(x.natAbs : Int) := by omega
    by_cases hn : n % 2 = 1
    · have h1 : x ^ n = -((x.natAbs : Int) ^ n) := by
        have := neg_pow_odd (x.natAbs : Int) n hn
        rw [← he] at this
        rw [this]
      rw [h1, ← hc]
      generalize x.natAbs ^ n = P at *
      by_cases h0 : P % M = 0
      · rw [if_neg (by omega), h0]
        rw [Int.neg_emod]
        have : (M : Int) ∣ (P : Int) := by
          rw [Int.natCast_dvd_natCast]
          exact Nat.dvd_of_mod_eq_zero h0
        simp [this]
      · rw [if_pos ⟨hx, hn, h0⟩, Int.neg_emod]
        have : ¬ (M : Int) ∣ (P : Int) := by
          rw [Int.natCast_dvd_natCast]
          exact fun h => h0 (Nat.mod_eq_zero_of_dvd h)
        rw [if_neg this]
        have : (P : Int) % (M : Int) = ((P % M : Nat) : Int) := rfl
        omega
    · have h1 : x ^ n = (x.natAbs : Int) ^ n := by
        have := neg_pow_even (x.natAbs : Int) n hn
        rw [← he] at this
        rw [this]
      rw [if_neg (by omega), hr, h1]
  · have he : x = (x.natAbs : Int) := by omega
    rw [if_neg (by omega), hr]
    rw [← he]
end Go.Proofs
namespace Go.Proofs
open Go.RowKit
set_option maxHeartbeats 1000000
set_option linter.unusedVariables false
set_option linter.unusedSimpArgs false
set_option maxRecDepth 100000

theorem words_len_zero (N : Nat) : (words N).length = 0 ↔ N = 0 := by
  constructor
  · intro h
    by_cases h0 : N = 0
    · exact h0
    · exact absurd h (by have := words_mono (show 1 ≤ N by omega); rw [words_one] at this; simp at this; omega)
  · rintro rfl
    rw [words_zero]; rfl
end Go.Proofs
namespace Go.Proofs
open Go.RowKit
set_option maxHeartbeats 2000000
set_option linter.unusedVariables false
set_option linter.unusedSimpArgs false
set_option maxRecDepth 100000

theorem u64_and1 (n : Nat) : bits .and .u64 (n : Int) 1 = ((n % 2 : Nat) : Int) := by
  have h127 : (BitVec.ofInt 64 1).toNat = 2 ^ 1 - 1 := by decide
  have key : (BitVec.ofInt 64 (n : Int) &&& BitVec.ofInt 64 1).toNat = ((n : Int) % ((2 ^ 64 : Nat) : Int)).toNat % 2 ^ 1 := by
    rw [BitVec.toNat_and, BitVec.toNat_ofInt, h127, Nat.and_two_pow_sub_one_eq_mod]
  show IntKind.u64.wrap ((BitVec.ofInt 64 (n : Int) &&& BitVec.ofInt 64 1).toNat : Nat) = ((n % 2 : Nat) : Int)
  rw [key, IntKind.wrap_u64]
  omega
theorem pow_sign (x : Int) (v : Nat) : (x ^ v < 0) ↔ (x < 0 ∧ v % 2 = 1) := by
  have hp : ∀ n : Nat, (0 : Int) ≤ (n : Int) ^ v := fun n => by rw [← Int.natCast_pow]; omega
  by_cases hx : x < 0
  · have he : x = -(x.natAbs : Int) := by omega
    have h1 := hp x.natAbs
    by_cases hv : v % 2 = 1
    · have h := neg_pow_odd (x.natAbs : Int) v hv
      rw [← he] at h
      have h0 : (x.natAbs : Int) ^ v ≠ 0 := by
        rw [← Int.natCast_pow]
        have : x.natAbs ^ v ≠ 0 := Nat.ne_of_gt (Nat.pow_pos (by omega))
        omega
      rw [h]
      constructor
      · intro _; exact ⟨hx, hv⟩
      · intro _; omega
    · have h := neg_pow_even (x.natAbs : Int) v hv
      rw [← he] at h
      rw [h]
      omega
  · have he : x = (x.natAbs : Int) := by omega
    have h1 := hp x.natAbs
    rw [← he] at h1
    omega
theorem exp218_none (pz px py tz tx ty : Nat) (x : Int) (v : Nat) (ax ay : Option Addr) (lx cx ly cy : Nat) (w : World) (hz : IntS w pz tz 0 none 0 0) (hx : IntS w px tx x ax lx cx) (hy : IntS w py ty (v : Int) ay ly cy)
    (hzx : pz ≠ px) (hzy : pz ≠ py) (hv : v < W64) (hlx : lx ≤ 11) (hb : x.natAbs ^ (v / 2) < W64 ^ 11) (G : Glob w) :
    Calls Tryz.prog 218 #[.pointer (some ⟨pz, 0, none⟩), .pointer (some ⟨px, 0, none⟩), .pointer (some ⟨py, 0, none⟩), .pointer none, .bool false] w fun e w' => e = .returned (.pointer (some ⟨pz, 0, none⟩)) ∧
      ∃ a l c, IntS w' pz tz (x ^ v) a l c ∧ (∀ k, InB a k → w.heap.size ≤ k) ∧ Keeps (fun k => k = pz) w w' := by
  obtain ⟨z1, z2, z3, z4⟩ := hz.row.facts
  obtain ⟨x1, x2, _, _⟩ := hx.row.facts
  obtain ⟨y1, y2, _, _⟩ := hy.row.facts
  rw [decide_eq_false (show ¬ (v : Int) < 0 by omega)] at y1
  have hyr := hy.rd
  rw [Int.natAbs_natCast] at hyr
  have HC := hid (expNN_none ax lx cx x.natAbs ay ly cy v w G hx.rd hyr hv hlx hb)
  have hly : ly ≤ 1 := by rw [← hyr.length]; exact words_len_le_one hv
  have hsg := pow_sign x v
  have habs : (x ^ v).natAbs = x.natAbs ^ v := Int.natAbs_pow x v
  have HZ := hid hz; have HXR := hid hx.row; have HYR := hid hyr; have HLY := hid hly; have HSG := hid hsg; have HABS := hid habs
  obtain ⟨sx, hsx⟩ : ∃ s, s = decide (x < 0) := ⟨_, rfl⟩
  rw [← hsx] at x1
  have HSX := hid hsx
  have HXR2 : Hid (∀ w', Keeps (fun k => k = pz) w w' → w'.cell? ⟨px, 0, none⟩ = some (.bool sx)) := hid (fun w' hk => by
    have := (IntRow.facts (hk.row HXR.out (fun h => hzx h.symm))).1
    rw [hsx]; exact this)
  have HYC : Hid (∀ w', IntRow w pz tz (decide ((0 : Int) < 0)) none 0 0 → Keeps (fun k => k = pz) w w' → ly = 1 → ∃ b o, ay = some ⟨b, o, none⟩ ∧ w'.cell? ⟨b, o, none⟩ = some (.int .u64 (v : Int))) := hid (fun w' hr hk h1 => by
    subst h1
    have := hyr.keep hk (fun k hk2 h => by subst h; exact hyr.not_row hr hk2)
    obtain ⟨b, o, he, hc, _, _⟩ := rd_one this
    exact ⟨b, o, he, hc⟩)
  clear hz hx hy hyr hv hlx hb G hly hsg habs hsx
  go_enter Tryz.func218, Tryz.ntmps218
  go_wp2_with fail
  refine HC.out.mono ?_
  rintro e w1 ⟨ra, rl, rc, rfl, h1, h2, h3⟩
  have hzr : IntRow w1 pz tz (decide ((0 : Int) < 0)) none 0 0 := h3.row HZ.out.row (fun h => h)
  obtain ⟨d0, d1, d2, d3⟩ := hzr.facts
  have H1 := hid h1; have H2 := hid h2; have H3 := hid h3; have HZR := hid hzr
  have hk2 : Keeps (fun k => k = pz) w (w1.setCell ⟨pz, 1, none⟩ (.slice ra rl rc)) := (h3.any (S := fun k => k = pz)).setCell _ (.inl rfl) _
  have hc2 := HXR2.out _ hk2
  have HK2 := hid hk2
  have hrl : rl = 0 ↔ x.natAbs ^ v = 0 := by
    rw [← h1.length]; exact words_len_zero _
  have hfin : ∀ b : Bool, b = decide (x ^ v < 0) → ∃ a l c, IntS ((w1.setCell ⟨pz, 1, none⟩ (.slice ra rl rc)).setCell ⟨pz, 0, none⟩ (.bool b)) pz tz (x ^ v) a l c ∧ (∀ k, InB a k → w.heap.size ≤ k) ∧ Keeps (fun k => k = pz) w ((w1.setCell ⟨pz, 1, none⟩ (.slice ra rl rc)).setCell ⟨pz, 0, none⟩ (.bool b)) := fun b hb => by
    have r1 := IntRow.set1 (ra := ra) (rl := rl) (rc := rc) HZR.out
    refine ⟨ra, rl, rc, ⟨?_, ?_⟩, H2.out, HK2.out.setCell _ (.inl rfl) _⟩
    · rw [← hb]; exact IntRow.set0 r1
    · rw [HABS.out]
      exact (H1.out.set_row HZR.out _ _).set_row r1 _ _
  have HF := hid hfin
  clear h1 h2 h3 hzr hk2 hfin z1 z2 x1
  by_cases hr0 : rl = 0
  · have t1 : decide ((0 : Int) < (rl : Int)) = false := by simp; omega
    have t1' : decide (0 < rl) = false := by simp; omega
    have hfalse : false = decide (x ^ v < 0) := by
      have h0 : (x ^ v).natAbs = 0 := by rw [HABS.out]; exact hrl.1 hr0
      have : ¬ (x ^ v < 0) := by omega
      simp [this]
    have HFA := hid hfalse
    have hr0' := hid hr0
    clear hrl hr0 hfalse
    go_wp2_with fail
    go_ret
    exact ⟨rfl, HF.out _ HFA.out⟩
  have t1 : decide ((0 : Int) < (rl : Int)) = true := by simp; omega
  have t1' : decide (0 < rl) = true := by simp; omega
  clear hrl hr0
  cases sx with
  | false =>
    have hfalse : false = decide (x ^ v < 0) := by
      have h0 : ¬ x < 0 := by simpa using HSX.out.symm
      have : ¬ (x ^ v < 0) := fun h => h0 (HSG.out.1 h).1
      simp [this]
    have HFA := hid hfalse
    clear hfalse
    go_wp2_with fail
    go_ret
    exact ⟨rfl, HF.out _ HFA.out⟩
  | true =>
    have hx0 : x < 0 := by simpa using HSX.out.symm
    have HX0 := hid hx0
    clear hx0
    by_cases hl0 : ly = 0
    · have t2 : decide ((0 : Int) < (ly : Int)) = false := by simp; omega
      have t2' : decide (0 < ly) = false := by simp; omega
      have hfalse : false = decide (x ^ v < 0) := by
        have h0 : v = 0 := by
          have := HYR.out.length
          rw [hl0] at this
          exact (words_len_zero v).1 this
        have : ¬ (x ^ v < 0) := fun h => by have := (HSG.out.1 h).2; omega
        simp [this]
      have HFA := hid hfalse
      have hl0' := hid hl0
      clear hfalse hl0
      go_wp2_with fail
      go_ret
      exact ⟨rfl, HF.out _ HFA.out⟩
    · have t2 : decide ((0 : Int) < (ly : Int)) = true := by simp; omega
      have t2' : decide (0 < ly) = true := by simp; omega
      have hly0 : 0 < ly := by omega
      obtain ⟨yb, yo, rfl, hyc⟩ := HYC.out _ HZ.out.row HK2.out (by have := HLY.out; omega)
      obtain ⟨q, hq⟩ : ∃ q, q = bits .and .u64 (v : Int) 1 := ⟨_, rfl⟩
      by_cases hodd : v % 2 = 1
      · have t3 : (bits .and .u64 (v : Int) 1 == 1) = true := by rw [u64_and1, hodd]; rfl
        have htrue : true = decide (x ^ v < 0) := by
          have : x ^ v < 0 := HSG.out.2 ⟨HX0.out, hodd⟩
          simp [this]
        have HFA := hid htrue
        clear htrue hodd hq hl0
        go_wp2_with fail
        go_ret
        exact ⟨rfl, HF.out _ HFA.out⟩
      · have t3 : (bits .and .u64 (v : Int) 1 == 1) = false := by rw [u64_and1, show v % 2 = 0 by omega]; rfl
        have hfalse : false = decide (x ^ v < 0) := by
          have : ¬ (x ^ v < 0) := fun h => hodd (HSG.out.1 h).2
          simp [this]
        have HFA := hid hfalse
        clear hfalse hodd hq hl0
        go_wp2_with fail
        go_ret
        exact ⟨rfl, HF.out _ HFA.out⟩
end Go.Proofs
namespace Go.Proofs
open Go.RowKit
set_option maxHeartbeats 1000000
set_option linter.unusedVariables false
set_option linter.unusedSimpArgs false
set_option maxRecDepth 100000

theorem w174 (p q r : Addr) (m : Value) (w : World) (R : World → Prop) (h : Calls Tryz.prog 218 #[.pointer (some p), .pointer (some q), .pointer (some r), m, .bool false] w fun e w' => e = .returned (.pointer (some p)) ∧ R w') :
    Calls Tryz.prog 174 #[.pointer (some p), .pointer (some q), .pointer (some r), m] w fun e w' => e = .returned (.pointer (some p)) ∧ R w' := by
  have H := hid h
  clear h
  go_enter Tryz.func174, Tryz.ntmps174
  go_wp2_with fail
  refine H.out.mono ?_
  rintro e w1 ⟨rfl, hR⟩
  have HR := hid hR
  clear hR
  go_wp2_with fail
  go_ret
  exact ⟨rfl, HR.out⟩
theorem w117_nil (p q r : Addr) (w : World) (R : World → Prop) (h : Calls Tryz.prog 174 #[.pointer (some p), .pointer (some q), .pointer (some r), .pointer none] w.drew fun e w' => e = .returned (.pointer (some p)) ∧ R w') :
    Calls Tryz.prog 117 #[.pointer (some p), .pointer (some q), .pointer (some r), .pointer none] w fun e w' => e = .returned (.pointer (some p)) ∧ R w' := by
  have H := hid h
  clear h
  obtain ⟨b0, o0, s0⟩ := p
  obtain ⟨b1, o1, s1⟩ := q
  obtain ⟨b2, o2, s2⟩ := r
  go_enter Tryz.func117, Tryz.ntmps117
  go_wp2_with fail
  go_still_tail 9, (by kernel_rfl)
  go_wp2_with fail
  refine H.out.mono ?_
  rintro e w1 ⟨rfl, hR⟩
  have HR := hid hR
  clear hR
  go_wp2_with fail
  go_ret
  exact ⟨rfl, HR.out⟩
theorem w117_ptr (p q r m : Addr) (w : World) (R : World → Prop) (h : Calls Tryz.prog 174 #[.pointer (some p), .pointer (some q), .pointer (some r), .pointer (some m)] w.drew fun e w' => e = .returned (.pointer (some p)) ∧ R w') :
    Calls Tryz.prog 117 #[.pointer (some p), .pointer (some q), .pointer (some r), .pointer (some m)] w fun e w' => e = .returned (.pointer (some p)) ∧ R w' := by
  have H := hid h
  clear h
  obtain ⟨b0, o0, s0⟩ := p
  obtain ⟨b1, o1, s1⟩ := q
  obtain ⟨b2, o2, s2⟩ := r
  obtain ⟨b3, o3, s3⟩ := m
  go_enter Tryz.func117, Tryz.ntmps117
  go_wp2_with fail
  go_still_tail 12, (by kernel_rfl)
  go_wp2_with fail
  refine H.out.mono ?_
  rintro e w1 ⟨rfl, hR⟩
  have HR := hid hR
  clear hR
  go_wp2_with fail
  go_ret
  exact ⟨rfl, HR.out⟩
theorem bigTen259 (w : World) : Calls Tryz.prog 259 #[] w fun e w' => e = .returned (.pointer (some ⟨w.heap.size, 0, none⟩)) ∧ IntAt w' w.heap.size 105 10 ∧ Keeps (fun _ => False) w w' := by
  have H := hid (newBigInt97 10 w (by omega) (by omega))
  go_enter Tryz.func259, Tryz.ntmps259
  go_wp2_with fail
  refine H.out.mono ?_
  rintro e w1 ⟨rfl, h1, h2⟩
  have H1 := hid h1; have H2 := hid h2
  clear h1 h2
  go_wp2_with fail
  go_ret
  exact ⟨rfl, H1.out, H2.out⟩

theorem nil0 (w : World) : Rd w none 0 0 (words (Int.natAbs 0)) := by rw [show Int.natAbs 0 = 0 from rfl, words_zero]; exact Rd.nil _
/-- What a number of its own holds after a call. -/
def IntN (w0 w : World) (p : Nat) (t : TypeId) (z : Int) : Prop := ∃ a l c, IntS w p t z a l c ∧ (∀ k, InB a k → w0.heap.size ≤ k)

theorem pow228 (pz n : Nat) (w : World) (hz : IntS w pz 105 0 none 0 0) (hn : n ≤ 400) (G : Glob w) :
    Calls Tryz.prog 228 #[.pointer (some ⟨pz, 0, none⟩), .int .i64 (n : Int)] w fun e w' => e = .returned (.tuple #[]) ∧ IntN w w' pz 105 ((10 ^ n : Nat) : Int) ∧ Keeps (fun k => k = pz) w w' := by
  have hpz : pz < w.heap.size := hz.row.lt
  obtain ⟨W, hW⟩ : ∃ W, W = w.alloc (.cells #[.bool false, .slice none 0 0] 105) := ⟨_, rfl⟩
  obtain ⟨q, hq⟩ : ∃ q, q = w.heap.size := ⟨_, rfl⟩
  have hkW : Keeps (fun _ => False) w W := by rw [hW]; exact (Keeps.refl _ w).alloc _
  have hqS : IntS W q 105 0 none 0 0 := by rw [hW, hq]; exact intS_new w 105
  have hzW : IntS W pz 105 0 none 0 0 := ⟨hkW.row hz.row (fun h => h), nil0 _⟩
  have H1 := hid (w96 ⟨q, 0, none⟩ (n : Int) W (IntRes W q 105 none 0 (n : Int)) ((setInt64_163 q 105 0 none 0 0 n W hqS (by omega) (by omega)).mono (fun e w' ⟨he, hr⟩ => ⟨⟨_, he⟩, hr⟩)))
  have H2 := hid bigTen259
  have HKW := hid hkW; have HZW := hid hzW; have HG := hid G; have HQ := hid hq; have HPZ := hid hpz; have HN := hid hn; have HZ := hid hz
  clear hkW hqS hzW G hz hn
  go_enter Tryz.func228, Tryz.ntmps228
  go_wp2_with fail
  rw [← hW, ← hq]
  clear hW hq hpz
  refine H1.out.mono ?_
  rintro e w1 ⟨rfl, a1, l1, c1, h3, h4, h5⟩
  have hqn : pz ≠ q := by have := HPZ.out; have := HQ.out; omega
  have hk1 : Keeps (fun _ => False) w w1 := HKW.out.trans' h5 (fun i hi h => by
    rcases h with h | ⟨o, ho⟩
    · have := HQ.out; omega
    · cases ho)
  have hz1 : IntS w1 pz 105 0 none 0 0 := ⟨h5.row HZW.out.row (fun h => by
    rcases h with h | ⟨o, ho⟩
    · exact hqn h
    · cases ho), nil0 _⟩
  have H3 := hid h3; have HK1 := hid hk1; have HZ1 := hid hz1; have HQN := hid hqn
  clear h3 h4 h5 hk1 hz1 H1 hqn
  go_wp2_with fail
  refine (H2.out w1).mono ?_
  rintro e w2 ⟨rfl, ⟨a2, l2, c2, h6, h7⟩, h8⟩
  have HK2 := hid (HK1.out.trans h8)
  have hkd : Keeps (fun _ => False) w w2.drew := HK2.out.drew
  have hz2 : IntS w2.drew pz 105 0 none 0 0 := ⟨(h8.drew).row HZ1.out.row (fun h => h), nil0 _⟩
  have hy2 : IntS w2.drew q 105 (n : Int) a1 l1 c1 := ⟨(h8.drew).row H3.out.row (fun h => h), H3.out.rd.keep h8.drew (fun _ _ h => h)⟩
  have hx2 : IntS w2.drew w1.heap.size 105 10 a2 l2 c2 := ⟨((Keeps.refl (fun _ => False) w2).drew).row h6 (fun h => h), h7.drew⟩
  have hl2 : l2 ≤ 11 := by rw [← h7.length]; exact Nat.le_trans (words_len_le_one (v := (10 : Int).natAbs) (by unfold W64; decide)) (by omega)
  have hne : pz ≠ w1.heap.size := by have := HZ1.out.row.lt; omega
  have hpow : (10 : Int).natAbs ^ (n / 2) < W64 ^ 11 := Nat.lt_of_le_of_lt (Nat.pow_le_pow_right (by decide) (show n / 2 ≤ 200 by have := HN.out; omega)) (by unfold W64; decide +kernel)
  have HE := hid (w117_nil ⟨pz, 0, none⟩ ⟨w1.heap.size, 0, none⟩ ⟨q, 0, none⟩ w2 (fun w' => IntN w w' pz 105 ((10 ^ n : Nat) : Int) ∧ Keeps (fun k => k = pz) w w') (w174 _ _ _ _ _ _ ((exp218_none pz w1.heap.size q 105 105 105 10 n a2 a1 l2 c2 l1 c1 w2.drew hz2 hx2 hy2 hne HQN.out (by have := HN.out; unfold W64; omega) hl2 hpow (HG.out.keep hkd (fun _ _ h => h))).mono (by
    rintro e w' ⟨he, a, l, c, k1, k2, k3⟩
    refine ⟨he, ⟨a, l, c, ?_, fun k hk => Nat.le_trans hkd.size (k2 k hk)⟩, hkd.any.trans k3⟩
    rw [Int.natCast_pow]; exact k1))))
  clear h6 h7 h8 hkd hz2 hy2 hx2 hl2 hne hpow H2
  go_wp2_with fail
  refine HE.out.mono ?_
  rintro e w3 ⟨rfl, h1, h2⟩
  have H5 := hid h1; have H6 := hid h2
  clear h1 h2
  go_wp2_with fail
  go_end0
  exact ⟨rfl, H5.out, H6.out⟩
theorem table194 (pz n : Nat) (w : World) (hz : IntS w pz 105 0 none 0 0) (hn : n ≤ 400) (G : Glob w) :
    Calls Tryz.prog 194 #[.int .i64 (n : Int), .pointer (some ⟨pz, 0, none⟩)] w fun e w' => e = .returned (.pointer (some ⟨pz, 0, none⟩)) ∧ IntN w w' pz 105 ((10 ^ n : Nat) : Int) ∧ Keeps (fun k => k = pz) w w' := by
  have H := hid (pow228 pz n w hz hn G)
  clear hz hn G
  go_enter Tryz.func194, Tryz.ntmps194
  go_wp2_with fail
  refine H.out.mono ?_
  rintro e w1 ⟨rfl, h1, h2⟩
  have H1 := hid h1; have H2 := hid h2
  clear h1 h2
  go_wp2_with fail
  go_ret
  exact ⟨rfl, H1.out, H2.out⟩
end Go.Proofs
