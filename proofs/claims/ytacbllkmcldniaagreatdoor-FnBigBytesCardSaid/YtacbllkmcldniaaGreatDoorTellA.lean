/- Parts of the proofs over the numbers of any length: Bufs, ExpL, ExpN, ExpS. -/
import Derived.Test.YtacbllkmcldniaaGreatDoorDivD
import Derived.Test.YtacbllkmcldniaaGreatDoorExpA
set_option linter.unusedSimpArgs false
set_option linter.unusedVariables false
namespace Go.Proofs
open Go.RowKit
set_option maxHeartbeats 1000000
set_option linter.unusedVariables false
set_option linter.unusedSimpArgs false
set_option maxRecDepth 100000

/-- Two slices lie in different blocks. -/
def Apt (a b : Option Addr) : Prop := ∀ k, InB a k → ¬ InB b k
/-- A slice lies apart from the stack's data. -/
def Off (D : Option (Nat × Nat)) (a : Option Addr) : Prop := ∀ s e, D = some (s, e) → ¬ InB a e
theorem Apt.symm {a b : Option Addr} (h : Apt a b) : Apt b a := fun k h1 h2 => h k h2 h1
theorem Into.apt {w : World} {a ra b : Option Addr} {c rc l cb : Nat} {L : List Nat} (h : Into w a c ra rc) (hab : Apt a b) (hb : Rd w b l cb L) : Apt ra b := fun k hk hk2 =>
  (h.inB hk).elim (fun h => hab k h hk2) (fun h => by have := hb.lt hk2; omega)
theorem Into.nw {w : World} {n : Nat} {a ra : Option Addr} {c rc : Nat} (h : Into w a c ra rc) (ha : ∀ k, InB a k → n ≤ k) (hn : n ≤ w.heap.size) : ∀ k, InB ra k → n ≤ k := fun k hk =>
  (h.inB hk).elim (fun h => ha k h) (fun h => by omega)
theorem Stk.dlt {w : World} {p sp s e : Nat} (h : Stk w p sp (some (s, e))) : e < w.heap.size := by
  obtain ⟨M, h1, h2, h3, h4⟩ := h
  exact RowAt.lt h3
theorem Into.off {w : World} {p sp : Nat} {D : Option (Nat × Nat)} {a ra : Option Addr} {c rc : Nat} (h : Into w a c ra rc) (ho : Off D a) (hs : Stk w p sp D) : Off D ra := by
  rintro s e rfl hk
  rcases h.inB hk with h1 | h1
  · exact ho s e rfl h1
  · have := hs.dlt; omega
theorem Off.next {w : World} {D D' : Option (Nat × Nat)} {a : Option Addr} {l c : Nat} {L : List Nat} (ho : Off D a) (hI : StI w D D') (hr : Rd w a l c L) : Off D' a := by
  intro s e hD hk
  rcases (hI s e hD).2 with ⟨s', h⟩ | h
  · exact ho s' e h hk
  · have := hr.lt hk; omega

/-- The four slices of a power modulo a number, and the stack. -/
structure Bufs (w0 w : World) (p : Nat) (D : Option (Nat × Nat)) (za : Option Addr) (zl zc : Nat) (Z : List Nat) (ya : Option Addr) (yl yc : Nat) (Y : List Nat) (qa : Option Addr) (ql qc : Nat) (Q : List Nat) (ra : Option Addr) (rl rc : Nat) (R : List Nat) : Prop where
  st : Stk w p 0 D
  dn : ∀ b, StB p D b → w0.heap.size ≤ b
  hz : Rd w za zl zc Z
  hy : Rd w ya yl yc Y
  hq : Rd w qa ql qc Q
  hr : Rd w ra rl rc R
  nz : ∀ k, InB za k → w0.heap.size ≤ k
  ny : ∀ k, InB ya k → w0.heap.size ≤ k
  nq : ∀ k, InB qa k → w0.heap.size ≤ k
  nr : ∀ k, InB ra k → w0.heap.size ≤ k
  oz : Off D za
  oy : Off D ya
  oq : Off D qa
  or_ : Off D ra
  zy : Apt za ya
  zq : Apt za qa
  zr : Apt za ra
  yq : Apt ya qa
  yr : Apt ya ra
  qr : Apt qa ra
  kp : Keeps (fun _ => False) w0 w

/-- Something is written into the second slice, and both are swapped. -/
theorem Bufs.into {w0 w w' : World} {p : Nat} {D : Option (Nat × Nat)} {za : Option Addr} {zl zc : Nat} {Z : List Nat} {ya : Option Addr} {yl yc : Nat} {Y : List Nat} {qa : Option Addr} {ql qc : Nat} {Q : List Nat} {ra : Option Addr} {rl rc : Nat} {R : List Nat}
    (B : Bufs w0 w p D za zl zc Z ya yl yc Y qa ql qc Q ra rl rc R) {na : Option Addr} {nl nc : Nat} {N : List Nat} (hn : Rd w' na nl nc N) (hi : Into w ya yc na nc) (hk : Keeps (InB ya) w w') :
    Bufs w0 w' p D na nl nc N za zl zc Z qa ql qc Q ra rl rc R where
  st := B.st.keepK hk (B.hy.notStB B.st B.oy)
  dn := B.dn
  hz := hn
  hy := B.hz.keep hk B.zy
  hq := B.hq.keep hk B.yq.symm
  hr := B.hr.keep hk B.yr.symm
  nz := hi.nw B.ny B.kp.size
  ny := B.nz
  nq := B.nq
  nr := B.nr
  oz := hi.off B.oy B.st
  oy := B.oz
  oq := B.oq
  or_ := B.or_
  zy := hi.apt B.zy.symm B.hz
  zq := hi.apt B.yq B.hq
  zr := hi.apt B.yr B.hr
  yq := B.zq
  yr := B.zr
  qr := B.qr
  kp := B.kp.trans' hk (fun i h1 h2 => by have := B.ny i h2; omega)

/-- A division, its quotient into the second slice and its rest into the fourth one; all four change places. -/
theorem Bufs.div {w0 w w' : World} {p : Nat} {D D' : Option (Nat × Nat)} {za : Option Addr} {zl zc : Nat} {Z : List Nat} {ya : Option Addr} {yl yc : Nat} {Y : List Nat} {qa : Option Addr} {ql qc : Nat} {Q : List Nat} {ra : Option Addr} {rl rc : Nat} {R : List Nat}
    (B : Bufs w0 w p D za zl zc Z ya yl yc Y qa ql qc Q ra rl rc R) {na : Option Addr} {nl nc : Nat} {N : List Nat} {ma : Option Addr} {ml mc : Nat} {M : List Nat}
    (hn : Rd w' na nl nc N) (hi : Into w ya yc na nc) (hm : Rd w' ma ml mc M) (hj : Into w ra rc ma mc) (hnm : Apt na ma) (hs : Stk w' p 0 D') (hI : StI w D D') (ho : ∀ s e, D' = some (s, e) → ¬ InB na e ∧ ¬ InB ma e)
    (hk : Keeps (fun b => InB ya b ∨ InB ra b ∨ StB p D b) w w') :
    Bufs w0 w' p D' ma ml mc M qa ql qc Q na nl nc N za zl zc Z where
  st := hs
  dn := by
    rintro b (rfl | ⟨s, d, rfl, h | h⟩)
    · exact B.dn b (.inl rfl)
    · subst h
      rcases (hI b d rfl).1 with ⟨d', h⟩ | h
      · exact B.dn b (.inr ⟨b, d', h, .inl rfl⟩)
      · exact Nat.le_trans B.kp.size h
    · subst h
      rcases (hI s b rfl).2 with ⟨s', h⟩ | h
      · exact B.dn b (.inr ⟨s', b, h, .inr rfl⟩)
      · exact Nat.le_trans B.kp.size h
  hz := hm
  hy := B.hq.keep hk (fun k hk2 h => by
    rcases h with h | h | h
    · exact B.yq k h hk2
    · exact B.qr k hk2 h
    · exact B.hq.notStB B.st B.oq k h hk2)
  hq := hn
  hr := B.hz.keep hk (fun k hk2 h => by
    rcases h with h | h | h
    · exact B.zy k hk2 h
    · exact B.zr k hk2 h
    · exact B.hz.notStB B.st B.oz k h hk2)
  nz := hj.nw B.nr B.kp.size
  ny := B.nq
  nq := hi.nw B.ny B.kp.size
  nr := B.nz
  oz := fun s e h => (ho s e h).2
  oy := B.oq.next hI B.hq
  oq := fun s e h => (ho s e h).1
  or_ := B.oz.next hI B.hz
  zy := hj.apt B.qr.symm B.hq
  zq := hnm.symm
  zr := hj.apt B.zr.symm B.hz
  yq := (hi.apt B.yq B.hq).symm
  yr := B.zq.symm
  qr := hi.apt B.zy.symm B.hz
  kp := B.kp.trans' hk (fun i h1 h2 => by
    rcases h2 with h | h | h
    · have := B.ny i h; omega
    · have := B.nr i h; omega
    · have := B.dn i h; omega)
/-- What lay there before stays apart from the stack's data. -/
theorem Bufs.off {w0 w : World} {p : Nat} {D : Option (Nat × Nat)} {za : Option Addr} {zl zc : Nat} {Z : List Nat} {ya : Option Addr} {yl yc : Nat} {Y : List Nat} {qa : Option Addr} {ql qc : Nat} {Q : List Nat} {ra : Option Addr} {rl rc : Nat} {R : List Nat}
    (B : Bufs w0 w p D za zl zc Z ya yl yc Y qa ql qc Q ra rl rc R) {x : Option Addr} {l c : Nat} {L : List Nat} (hx : Rd w0 x l c L) : Off D x := by
  rintro s e rfl hk
  have := B.dn e (.inr ⟨s, e, rfl, .inr rfl⟩)
  have := hx.lt hk
  omega
end Go.Proofs
namespace Go.Proofs
open Go.RowKit
set_option maxHeartbeats 400000
set_option linter.unusedVariables false
set_option linter.unusedSimpArgs false
set_option maxRecDepth 100000

def ExpRes (w : World) (V : Nat) (e : Ending) (w' : World) : Prop :=
  ∃ ra rl rc, e = .returned (.slice ra rl rc) ∧ Rd w' ra rl rc (words V) ∧ (∀ k, InB ra k → w.heap.size ≤ k) ∧ Keeps (fun _ => False) w w'

theorem words_bound {E n : Nat} (h : (words E).length ≤ n) : E < W64 ^ n := Nat.lt_of_lt_of_le (lt_words E) (Nat.pow_le_pow_right (by unfold W64; decide) h)
theorem sq_len {E : Nat} {n : Nat} (h : (words E).length ≤ n) : (words (E * E)).length ≤ 2 * n := by
  refine words_lt ?_
  have h1 := words_bound h
  rw [show 2 * n = n + n by omega, Nat.pow_add]
  exact Nat.mul_lt_mul'' h1 h1
theorem mul_len {E F : Nat} {n m : Nat} (h : (words E).length ≤ n) (k : (words F).length ≤ m) : (words (E * F)).length ≤ n + m := by
  refine words_lt ?_
  rw [Nat.pow_add]
  exact Nat.mul_lt_mul'' (words_bound h) (words_bound k)

end Go.Proofs
namespace Go.Proofs
open Go.RowKit
set_option maxHeartbeats 4000000
set_option linter.unusedVariables false
set_option linter.unusedSimpArgs false
set_option maxRecDepth 100000

/-- The powers' loop with no modulus. -/
def EnRel (w0 : World) (p N y wn : Nat) (z zz v i : Value) (wr : World) : Prop :=
  ∃ rr j vv E za zl zc ya yl yc, ∃ (Y : List Nat), rr + j = wn ∧ vv = exV y rr ∧ E = N ^ (y / 2 ^ rr) ∧
    i = .int .i64 (j : Int) ∧ v = .int .u64 (vv : Int) ∧ z = .slice za zl zc ∧ zz = .slice ya yl yc ∧
    Bufs w0 wr p none za zl zc (words E) ya yl yc Y none 0 0 [] none 0 0 []

theorem expNN_nil (x : Option Addr) (xl xc N : Nat) (y : Option Addr) (yc v : Nat) (w : World)
    (G : Glob w) (hx : Rd w x xl xc (words N)) (hy : Rd w y 1 yc [v]) (hv : 2 ≤ v) (hN : 2 ≤ N) (hxl : xl ≤ 11) (hb : N ^ (v / 2) < W64 ^ 11) :
    Calls Tryz.prog 256 #[.slice none 0 0, .pointer none, .slice x xl xc, .slice y 1 yc, .slice none 0 0, .bool false] w (ExpRes w (N ^ v)) := by
  have hvl : v < W64 := hy.words v (by simp)
  have hz : Rd w none 0 0 [] := Rd.nil _
  have hnn : ∀ (b : Option Addr) k, InB none k → ¬ InB b k := fun b k ⟨o, ho⟩ => by cases ho
  have HA1 := hid (alias_any none 0 0 [] x xl xc (words N) w hz hx (Al.of_ne (hnn _)))
  have HA2 := hid (fun k => alias_any none 0 0 [] y 1 yc [v] (w.drewN k) (hz.drewN k) (hy.drewN k) (Al.of_ne (hnn _)))
  rw [shares_apart (xl := xl) hz (hnn _)] at HA1
  rw [shares_apart (xl := 1) hz (hnn _)] at HA2
  obtain ⟨nzv, hnz⟩ : ∃ n, n = nz v := ⟨_, rfl⟩
  obtain ⟨n1, n2, n3, n4⟩ := nz_facts (x := v) (by omega) hvl
  rw [← hnz] at n1 n2 n3 n4
  have n5 : nzv ≤ 62 := by
    rcases Nat.lt_or_ge nzv 63 with h | h
    · omega
    · exfalso
      rw [show 64 - nzv = 1 by omega] at n4; omega
  obtain ⟨wn, hwn⟩ : ∃ wn, wn = 63 - nzv := ⟨_, rfl⟩
  obtain ⟨s, hs⟩ : ∃ s, s = nzv + 1 := ⟨_, rfl⟩
  have HSTART := hid (exV_start v (r := wn) (by omega))
  rw [show 64 - wn = s by omega] at HSTART
  have htop : v / 2 ^ wn = 1 := by
    rw [hwn]
    rw [Nat.div_eq_iff (Nat.two_pow_pos _)]
    rw [show 64 - nzv = (63 - nzv) + 1 by omega, Nat.pow_succ] at n4
    omega
  have HTOP := hid htop
  have HNL := hid (fun (w1 : World) => nlz_any v w1 (by omega) hvl)
  rw [← hnz] at HNL
  have hxl0 : 0 < xl := by rw [← hx.length]; exact words_length_pos (by omega)
  obtain ⟨xb, xo, rfl, hxcell⟩ := hx.cell hxl0
  obtain ⟨yb, yo, rfl, hycell⟩ := hy.cell (by omega)
  have c1 := hycell 0 (by omega)
  simp only [Nat.add_zero, List.getD_cons_zero] at c1
  have HYC : Hid (∀ W, Keeps (fun _ => False) w W → W.cell? ⟨yb, yo, none⟩ = some (.int .u64 (v : Int))) := hid (fun W hk => by
    obtain ⟨yb', yo', he, hyc⟩ := (hy.keep hk (fun _ _ h => h)).cell (by omega)
    cases he
    have := hyc 0 (by omega)
    simpa using this)
  have hxcase : (((xl : Int) == 1) = true ∧ ∃ x0, w.cell? ⟨xb, xo, none⟩ = some (.int .u64 (x0 : Int)) ∧ ((x0 : Int) == 1) = false) ∨ ((xl : Int) == 1) = false := by
    by_cases h : xl = 1
    · left
      refine ⟨by simp; omega, ?_⟩
      have h1 := hxcell 0 (by omega)
      have h2 := hx.length
      have h3 := val_words N
      refine ⟨_, h1, ?_⟩
      match hw : words N, h2 with
      | [x0], _ =>
        rw [hw] at h3
        simp at h3
        simp
        omega
      | [], h2 => simp at h2; omega
      | _ :: _ :: _, h2 => simp at h2; omega
    · right; simp; omega
  have t2 : ((v : Int) == 1) = false := by simp; omega
  have t9 : ((xl : Int) == 0) = false := by simp; omega
  have t3 : IntKind.u64.wrap ((nzv : Int) + 1) = (s : Int) := by rw [IntKind.wrap_u64]; omega
  have HSH := hid (shl_wrap v s)
  have t4 : IntKind.i64.wrap ((s : Int)) = (s : Int) := by rw [IntKind.wrap_i64]; omega
  have t5 : (64 : Int) - (s : Int) = (wn : Int) := by omega
  have t6 : IntKind.i64.wrap ((wn : Int)) = (wn : Int) := by rw [IntKind.wrap_i64]; omega
  have HG := hid G; have HX := hid hx; have HY := hid hy
  have HV := hid hvl; have Hv2 := hid hv; have HN2 := hid hN; have HWN := hid hwn; have HS := hid hs; have HN5 := hid n5; have HNZ := hid hnz; have HXL := hid hxl; have HBD := hid hb
  clear G hx hy hvl hv hN hwn hb hs n1 n2 n3 n4 n5 hnz htop hxcell hycell hxl hz hnn
  have HGO : Hid (∀ (k : Nat) (w1 : World) (p : Nat) (za : Option Addr) (zc : Nat) (L : List Nat), w1 = (w.drewN k).alloc (.cells #[.pointer none] 240) → p = w.heap.size → True) := hid (fun _ _ _ _ _ _ _ _ => trivial)
  clear HGO
  rcases hxcase with ⟨tx, x0, c0, t1⟩ | t1
  all_goals
    go_enter_defers Tryz.func256, Tryz.ntmps256
    go_wp2_with fail
    refine HA1.out.mono ?_
    rintro e w1 ⟨rfl, k1, rfl⟩
    go_wp2_with fail
    refine (HA2.out k1).mono ?_
    rintro e w1 ⟨rfl, k2, rfl⟩
    go_wp2_with fail
    refine (getStack_any _).mono ?_
    rintro e w2 ⟨rfl, rfl⟩
    rw [show (w.drewN (k1 + k2)).heap.size = w.heap.size from rfl]
    obtain ⟨W1, hW1⟩ : ∃ W, W = (w.drewN (k1 + k2)).alloc (.cells #[.pointer none] 240) := ⟨_, rfl⟩
    obtain ⟨p, hp⟩ : ∃ p, p = w.heap.size := ⟨_, rfl⟩
    have hk1 : Keeps (fun _ => False) w W1 := by rw [hW1]; exact ((Keeps.refl _ w).drewN (k1 + k2)).alloc _
    have hrp : RowAt W1 p 240 [.pointer none] := by rw [hW1, hp]; exact RowAt.new (w.drewN (k1 + k2)) 240 [.pointer none]
    have hpw : p < W1.heap.size := hrp.lt
    rw [← hW1, ← hp]
    have c4 := HYC.out W1 hk1
    have HP := hid hp; have HK1 := hid hk1; have HRP := hid hrp; have HPW := hid hpw
    have HPG : Hid (¬ GB p) := hid (fun h => by have := HG.out.lt h; omega)
    clear hW1 hp hk1 hrp hpw HA1 HA2
    have HST := hid (set_any none 0 0 [] (some ⟨xb, xo, none⟩) xl xc (words N) W1 (Rd.nil _) (HX.out.keep HK1.out (fun _ _ h => h)) (by have := HXL.out; omega))
    go_wp2_with fail
    refine HST.out.mono ?_
    rintro e w4 ⟨za, zc, rfl, h1, h2, h3⟩
    have hwW := HK1.out.size
    have hk4 : Keeps (fun _ => False) w w4 := HK1.out.trans' h3 (fun i hi ⟨o', ho⟩ => by cases ho)
    have hBu : Bufs w w4 p none za xl zc (words N) none 0 0 [] none 0 0 [] none 0 0 [] :=
      { st := ⟨h3.row HRP.out (fun ⟨o', ho⟩ => by cases ho), rfl⟩
        dn := fun b hb => by
          rcases hb with h | ⟨s, d, h, _⟩
          · have := HP.out; omega
          · cases h
        hz := h1, hy := Rd.nil _, hq := Rd.nil _, hr := Rd.nil _
        nz := fun k hk => by
          rcases h2.inB hk with ⟨o', ho⟩ | h
          · cases ho
          · omega
        ny := fun k ⟨o, ho⟩ => by cases ho
        nq := fun k ⟨o, ho⟩ => by cases ho
        nr := fun k ⟨o, ho⟩ => by cases ho
        oz := fun s e h => by cases h
        oy := fun s e h => by cases h
        oq := fun s e h => by cases h
        or_ := fun s e h => by cases h
        zy := fun k _ ⟨o, ho⟩ => by cases ho
        zq := fun k _ ⟨o, ho⟩ => by cases ho
        zr := fun k _ ⟨o, ho⟩ => by cases ho
        yq := fun k _ ⟨o, ho⟩ => by cases ho
        yr := fun k _ ⟨o, ho⟩ => by cases ho
        qr := fun k _ ⟨o, ho⟩ => by cases ho
        kp := hk4 }
    have c2 := HYC.out w4 hk4
    have R0 : EnRel w p N v wn (.slice za xl zc) (.slice none 0 0) (.int .u64 (exV v wn : Int)) (.int .i64 0) w4 :=
      ⟨wn, 0, _, N, za, xl, zc, none, 0, 0, [], rfl, rfl, by rw [HTOP.out, Nat.pow_one], rfl, rfl, rfl, rfl, hBu⟩
    have R := hid R0
    clear h1 h2 h3 hk4 hBu R0 c1 c4 hwW HST
    go_wp2_with fail
    refine (HNL.out w4).mono ?_
    rintro e w5 ⟨rfl, rfl⟩
    go_wp2_with fail
    go_loopw [0, 19, 15, 21] (fun z zz v' i wr => EnRel w p N v wn z zz v' i wr) (fun _ _ _ i _ => wn - (intOf i).toNat)
    case atStart =>
      have e1 : IntKind.u64.wrap ((v : Int) * 2 ^ s) = ((exV v wn : Nat) : Int) := by rw [HSH.out, HSTART.out]
      try rw [e1]
      exact R.out
    case round =>
      obtain ⟨r, j, vv, E, za, zl, zc, ya, yl, yc', Y, hr, hvv, hE, rfl, rfl, rfl, rfl, hB⟩ := hrel
      rcases Nat.eq_zero_or_pos r with h0 | h0
      · have b1 : decide (j < wn) = false := by simp; omega
        have hEv : E = N ^ v := by rw [hE, h0, Nat.pow_zero, Nat.div_one]
        have HEV := hid hEv; have HB := hid hB
        clear hB R hr hvv hE h0 hEv
        go_wp2_with fail
        go_loopw [0, 22] (fun z k w' => z = .slice za zl zc ∧ k = .int .i64 (-1) ∧ w' = wr) (fun _ _ _ => 0)
        case atStart => exact ⟨rfl, rfl, rfl⟩
        case round =>
          obtain ⟨rfl, rfl, rfl⟩ := hrel
          go_wp2_with fail
          refine (norm_any _ _ _ _ _ HB.out.hz).mono ?_
          rintro e w4 ⟨nn, rfl, hr, hnl, rfl⟩
          have Hr := hid hr
          clear hr
          go_wp2_with fail
          refine leaves_cons (f := 240) (args := #[.pointer (some ⟨p, 0, none⟩)]) (by simp) (by simp [go_sem]) ?_
          refine (free240_any p 0 none _ _ HB.out.st).mono ?_
          rintro e u' w'' ⟨rfl, rfl, hk'⟩
          refine ⟨_, results_tmp rfl _ _ _, ?_⟩
          refine ⟨_, _, _, rfl, ?_, HB.out.nz, HB.out.kp.trans' hk' (fun i hi ⟨d, hd⟩ => by have := HB.out.dn i (.inr ⟨i, d, hd, .inl rfl⟩); omega)⟩
          have h9 := Hr.out
          rw [trimZ_eq_words HB.out.hz.words, val_words, HEV.out] at h9
          exact h9.freed HB.out.st hk'
      · obtain ⟨r, rfl⟩ : ∃ r', r = r' + 1 := ⟨r - 1, by omega⟩
        have b1 : decide (j < wn) = true := by simp; omega
        have hr64 : r + 1 ≤ 64 := by have := HWN.out; omega
        have hvl := exV_lt v hr64
        rw [← hvv] at hvl
        have htb := bits_top hvl
        have hbit := exV_bit v hr64
        have hnx := exV_next v hr64
        rw [← hvv] at hbit hnx
        have hlz : (words E).length ≤ 11 := by rw [hE]; exact words_lt (Nat.lt_of_le_of_lt (ex_half N v r (by have := HN2.out; omega)) HBD.out)
        have hzl : zl ≤ 11 := by rw [← hB.hz.length]; exact hlz
        have G1 := hid (HG.out.keep hB.kp (fun _ _ h => h))
        have HSQ := hid (sqr_any ya yl yc' Y (some ⟨p, 0, none⟩) za zl zc E wr G1.out hB.hy hB.hz (by omega) (Al.of_ne hB.zy.symm))
        have HB := hid hB; have Hvv := hid hvl; have Htb := hid htb; have Hbit := hid hbit; have Hnx := hid hnx; have HE := hid hE
        have Hr64 := hid hr64; have Hr := hid hr; have HLZ := hid hlz
        clear hB hvl htb hbit hnx hvv hE hr64 hr hlz hzl R
        go_wp2_with fail
        refine HSQ.out.mono ?_
        rintro e w4 ⟨na, nl, nc, rfl, k1, k2, k3⟩
        have hB1 := HB.out.into k1 k2 k3
        have HB1 := hid hB1
        have hnl : nl ≤ 22 := by rw [← k1.length]; exact sq_len HLZ.out
        clear k1 k2 k3 HSQ hB1
        by_cases hb1 : v / 2 ^ r % 2 = 1
        · have h63 : 2 ^ 63 ≤ vv := Hbit.out.mpr hb1
          have htb := Htb.out
          rw [if_pos h63] at htb
          clear h63
          have Hb1 := hid hb1
          clear hb1
          have hxl2 : xl < 40 := by have := HXL.out; omega
          have HMU := hid (mul_any za zl zc (words E) (some ⟨p, 0, none⟩) na nl nc (E * E) (some ⟨xb, xo, none⟩) xl xc N w4 (HG.out.keep HB1.out.kp (fun _ _ h => h)) HB1.out.hy HB1.out.hz (HX.out.keep HB1.out.kp (fun _ _ h => h)) (by omega) hxl2 (Al.of_ne HB1.out.zy.symm)
            (Al.of_ne (fun k hk hk2 => by have := HB1.out.ny k hk; have := HX.out.lt hk2; omega)))
          clear hxl2
          have Hnl := hid hnl
          clear hnl
          go_wp2_with fail
          refine HMU.out.mono ?_
          rintro e w5 ⟨ma, mll, mcc, rfl, k1, k2, k3⟩
          have hB2 := HB1.out.into k1 k2 k3
          have HB2 := hid hB2
          clear k1 k2 k3 HMU hB2
          go_wp2_with fail
          have hj := Hr.out; have hw := HWN.out
          refine ⟨⟨r, j + 1, exV v r, E * E * N, ma, mll, mcc, na, nl, nc, _, by omega, rfl, by rw [HE.out, ex_odd N v r Hb1.out], ?_, ?_, rfl, rfl, HB2.out⟩, ?_⟩
          · rw [show wrap64 ((j : Int) + 1) = ((j + 1 : Nat) : Int) by unfold wrap64; omega]
          · rw [← Hnx.out, show (vv : Int) * 2 = ((vv * 2 : Nat) : Int) by omega, u64_wrapM]
          · rw [show wrap64 ((j : Int) + 1) = ((j + 1 : Nat) : Int) by unfold wrap64; omega]
            simp only [intOf, Int.toNat_natCast]
            omega
        · have h63 : ¬ 2 ^ 63 ≤ vv := fun h => hb1 (Hbit.out.mp h)
          have htb := Htb.out
          rw [if_neg h63] at htb
          clear h63
          have Hb1 := hid hb1
          clear hb1
          go_wp2_with fail
          have hj := Hr.out; have hw := HWN.out
          refine ⟨⟨r, j + 1, exV v r, E * E, na, nl, nc, za, zl, zc, _, by omega, rfl, by rw [HE.out, ex_even N v r Hb1.out], ?_, ?_, rfl, rfl, HB1.out⟩, ?_⟩
          · rw [show wrap64 ((j : Int) + 1) = ((j + 1 : Nat) : Int) by unfold wrap64; omega]
          · rw [← Hnx.out, show (vv : Int) * 2 = ((vv * 2 : Nat) : Int) by omega, u64_wrapM]
          · rw [show wrap64 ((j : Int) + 1) = ((j + 1 : Nat) : Int) by unfold wrap64; omega]
            simp only [intOf, Int.toNat_natCast]
            omega
end Go.Proofs
namespace Go.Proofs
open Go.RowKit
set_option maxHeartbeats 1000000
set_option linter.unusedVariables false
set_option linter.unusedSimpArgs false
set_option maxRecDepth 100000

theorem rd_one {w : World} {a : Option Addr} {c M : Nat} (h : Rd w a 1 c (words M)) : ∃ b o, a = some ⟨b, o, none⟩ ∧ w.cell? ⟨b, o, none⟩ = some (.int .u64 (M : Int)) ∧ M < W64 ∧ words M = [M] := by
  obtain ⟨b, o, rfl, hc⟩ := h.cell (by omega)
  have h1 := hc 0 (by omega)
  have h2 := h.length
  have h3 := val_words M
  have h4 := words_words M
  match hw : words M, h2 with
  | [x0], _ =>
    rw [hw] at h1 h3 h4
    simp at h3
    subst h3
    exact ⟨b, o, rfl, by simpa using h1, h4 _ (by simp), rfl⟩
  | [], h2 => simp at h2
  | _ :: _ :: _, h2 => simp at h2
theorem words_len_le_one {v : Nat} (h : v < W64) : (words v).length ≤ 1 := words_lt (by rwa [Nat.pow_one])
theorem ExpRes.of {w w1 w' : World} {e : Ending} {V : Nat} (h : NatRes w1 none 0 V e w') (hk : Keeps (fun _ => False) w w1) : ExpRes w V e w' := by
  obtain ⟨ra, rl, rc, rfl, h1, h2, h3⟩ := h
  exact ⟨ra, rl, rc, rfl, h1, h2.nw (n := w.heap.size) (fun k ⟨o, ho⟩ => by cases ho) hk.size, hk.trans' h3 (fun i hi ⟨o, ho⟩ => by cases ho)⟩

theorem expNN_none (x : Option Addr) (xl xc N : Nat) (y : Option Addr) (yl yc v : Nat) (w : World)
    (G : Glob w) (hx : Rd w x xl xc (words N)) (hy : Rd w y yl yc (words v)) (hv : v < W64) (hxl : xl ≤ 11) (hb : N ^ (v / 2) < W64 ^ 11) :
    Calls Tryz.prog 256 #[.slice none 0 0, .pointer none, .slice x xl xc, .slice y yl yc, .slice none 0 0, .bool false] w (ExpRes w (N ^ v)) := by
  have hz : Rd w none 0 0 [] := Rd.nil _
  have hnn : ∀ (b : Option Addr) k, InB none k → ¬ InB b k := fun b k ⟨o, ho⟩ => by cases ho
  have hyl1 : yl ≤ 1 := by rw [← hy.length]; exact words_len_le_one hv
  by_cases hmain : 2 ≤ N ∧ 2 ≤ v
  · have h1 : yl = 1 := by
      have := hy.length
      have h2 := words_length_pos (n := v) (by omega)
      omega
    subst h1
    obtain ⟨_, _, _, _, _, hw⟩ := rd_one hy
    rw [hw] at hy
    exact expNN_nil x xl xc N y yc v w G hx hy hmain.2 hmain.1 hxl hb
  have HA1 := hid (alias_any none 0 0 [] x xl xc (words N) w hz hx (Al.of_ne (hnn _)))
  have HA2 := hid (fun k => alias_any none 0 0 [] y yl yc (words v) (w.drewN k) (hz.drewN k) (hy.drewN k) (Al.of_ne (hnn _)))
  rw [shares_apart (xl := xl) hz (hnn _)] at HA1
  rw [shares_apart (xl := yl) hz (hnn _)] at HA2
  have HK := hid (fun k => ((Keeps.refl (fun _ => False) w).drewN k))
  have HX := hid hx
  by_cases hv0 : v = 0
  · subst hv0
    have h0 : yl = 0 := by have := hy.length; rw [words_zero] at this; simpa using this.symm
    subst h0
    have HS := hid (fun k => setWord_any none 0 0 [] 1 (w.drewN k) (Rd.nil _) (by unfold W64; decide))
    clear hx hy G hb hmain hz hnn
    go_enter Tryz.func256, Tryz.ntmps256
    go_wp2_with fail
    refine HA1.out.mono ?_
    rintro e w1 ⟨rfl, k1, rfl⟩
    go_wp2_with fail
    refine (HA2.out k1).mono ?_
    rintro e w1 ⟨rfl, k2, rfl⟩
    go_wp2_with fail
    refine (HS.out (k1 + k2)).mono ?_
    rintro e w3 h
    obtain ⟨ra, rl, rc, rfl, h1, h2, h3⟩ := ExpRes.of h (HK.out (k1 + k2))
    have H1 := hid h1; have H2 := hid h2; have H3 := hid h3
    clear h h1 h2 h3
    go_wp2_with fail
    go_ret
    exact ⟨_, _, _, rfl, by rw [Nat.pow_zero]; exact H1.out, H2.out, H3.out⟩
  have h1 : yl = 1 := by
    have := hy.length
    have h2 := words_length_pos (n := v) hv0
    omega
  subst h1
  obtain ⟨yb, yo, rfl, c1, _, _⟩ := rd_one hy
  by_cases hN0 : N = 0
  · subst hN0
    have h0 : xl = 0 := by have := hx.length; rw [words_zero] at this; simpa using this.symm
    subst h0
    have HS := hid (fun k => setWord_any none 0 0 [] 0 (w.drewN k) (Rd.nil _) (by unfold W64; decide))
    have hp : 0 ^ v = 0 := Nat.zero_pow (by omega)
    have HPW := hid hp
    clear hx hy G hb hmain hz hnn hp
    go_enter Tryz.func256, Tryz.ntmps256
    go_wp2_with fail
    refine HA1.out.mono ?_
    rintro e w1 ⟨rfl, k1, rfl⟩
    go_wp2_with fail
    refine (HA2.out k1).mono ?_
    rintro e w1 ⟨rfl, k2, rfl⟩
    go_wp2_with fail
    refine (HS.out (k1 + k2)).mono ?_
    rintro e w3 h
    obtain ⟨ra, rl, rc, rfl, h1, h2, h3⟩ := ExpRes.of h (HK.out (k1 + k2))
    have H1 := hid h1; have H2 := hid h2; have H3 := hid h3
    clear h h1 h2 h3
    go_wp2_with fail
    go_ret
    exact ⟨_, _, _, rfl, by rw [HPW.out]; exact H1.out, H2.out, H3.out⟩
  have hxl0 : 0 < xl := by rw [← hx.length]; exact words_length_pos hN0
  have t9 : ((xl : Int) == 0) = false := by simp; omega
  by_cases hN1 : N = 1
  · subst hN1
    have h0 : xl = 1 := by have := hx.length; rw [show words 1 = [1] by decide +kernel] at this; simpa using this.symm
    subst h0
    obtain ⟨xb, xo, rfl, c0, _, _⟩ := rd_one hx
    have HS := hid (fun k => setWord_any none 0 0 [] 1 (w.drewN k) (Rd.nil _) (by unfold W64; decide))
    clear hx hy G hb hmain hz hnn
    go_enter Tryz.func256, Tryz.ntmps256
    go_wp2_with fail
    refine HA1.out.mono ?_
    rintro e w1 ⟨rfl, k1, rfl⟩
    go_wp2_with fail
    refine (HA2.out k1).mono ?_
    rintro e w1 ⟨rfl, k2, rfl⟩
    go_wp2_with fail
    refine (HS.out (k1 + k2)).mono ?_
    rintro e w3 h
    obtain ⟨ra, rl, rc, rfl, h1, h2, h3⟩ := ExpRes.of h (HK.out (k1 + k2))
    have H1 := hid h1; have H2 := hid h2; have H3 := hid h3
    clear h h1 h2 h3
    go_wp2_with fail
    go_ret
    exact ⟨_, _, _, rfl, by rw [Nat.one_pow]; exact H1.out, H2.out, H3.out⟩
  have hv1 : v = 1 := by omega
  subst hv1
  obtain ⟨xb, xo, rfl, hxcell⟩ := hx.cell hxl0
  have hxcase : (((xl : Int) == 1) = true ∧ ∃ x0, w.cell? ⟨xb, xo, none⟩ = some (.int .u64 (x0 : Int)) ∧ ((x0 : Int) == 1) = false) ∨ ((xl : Int) == 1) = false := by
    by_cases h : xl = 1
    · left
      subst h
      obtain ⟨b, o, he, c0, _, _⟩ := rd_one hx
      cases he
      exact ⟨by simp, _, c0, by simp; omega⟩
    · right; simp; omega
  have HS := hid (fun k => set_any none 0 0 [] (some ⟨xb, xo, none⟩) xl xc (words N) (w.drewN k) (Rd.nil _) (hx.drewN k) (by omega))
  clear hx hy G hb hmain hz hnn hxcell
  rcases hxcase with ⟨tx, x0, c0, t1⟩ | t1
  all_goals
    go_enter Tryz.func256, Tryz.ntmps256
    go_wp2_with fail
    refine HA1.out.mono ?_
    rintro e w1 ⟨rfl, k1, rfl⟩
    go_wp2_with fail
    refine (HA2.out k1).mono ?_
    rintro e w1 ⟨rfl, k2, rfl⟩
    go_wp2_with fail
    refine (HS.out (k1 + k2)).mono ?_
    rintro e w3 ⟨ra, rc, rfl, h1, h2, h3⟩
    have H1 := hid h1; have H2 := hid h2; have H3 := hid h3
    clear h1 h2 h3
    go_wp2_with fail
    go_ret
    exact ⟨_, _, _, rfl, by rw [Nat.pow_one]; exact H1.out, H2.out.nw (n := w.heap.size) (fun k ⟨o, ho⟩ => by cases ho) (HK.out (k1 + k2)).size, (HK.out (k1 + k2)).trans' H3.out (fun i hi ⟨o, ho⟩ => by cases ho)⟩
end Go.Proofs
