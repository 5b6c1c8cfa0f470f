/- Parts of the proofs over the numbers of any length: NegAbs, LOps, Lg, Lg2, LPre, LGcd, Gcd156, Mod151. -/
import Derived.Test.YtacbllkmcldniaaGreatDoorIntA
import Derived.Test.YtacbllkmcldniaaGreatDoorTellA
import Derived.Test.YtacbllkmcldniaaGreatDoorGcdB
import Derived.Test.YtacbllkmcldniaaGreatDoorDivdA
import Derived.Test.YtacbllkmcldniaaGreatDoorExpA
set_option linter.unusedSimpArgs false
set_option linter.unusedVariables false
namespace Go.Proofs
open Go.RowKit
set_option maxHeartbeats 1000000
set_option linter.unusedVariables false
set_option linter.unusedSimpArgs false
set_option maxRecDepth 100000

/-- Neg, by what Set does. -/
theorem neg183_of (pz px tz : Nat) (x : Int) (az : Option Addr) (cz : Nat) (w : World)
    (h : Calls Tryz.prog 160 #[.pointer (some ⟨pz, 0, none⟩), .pointer (some ⟨px, 0, none⟩)] w fun e w' => e = .returned (.pointer (some ⟨pz, 0, none⟩)) ∧ IntRes w pz tz az cz x w') :
    Calls Tryz.prog 183 #[.pointer (some ⟨pz, 0, none⟩), .pointer (some ⟨px, 0, none⟩)] w fun e w' => e = .returned (.pointer (some ⟨pz, 0, none⟩)) ∧ IntRes w pz tz az cz (-x) w' := by
  have H := hid h
  clear h
  go_enter Tryz.func183, Tryz.ntmps183
  go_wp2_with fail
  refine H.out.mono ?_
  rintro e w1 ⟨rfl, a, l, c, hI, hin, hk⟩
  obtain ⟨z1, z2, z3, z4⟩ := hI.row.facts
  have hl := hI.rd.length
  have HI := hid hI; have HN := hid hin; have HK := hid hk
  have hwl := words_len_zero x.natAbs
  rcases Int.lt_trichotomy x 0 with hx | hx | hx
  · rw [decide_eq_true hx] at z1
    have t1 : decide (0 < l) = true := by simp; omega
    have t2 : decide ((0 : Int) < (l : Int)) = true := by simp; omega
    have HX := hid hx
    clear hI hin hk hl hwl hx H
    go_wp2_with fail
    go_ret
    exact ⟨rfl, IntRes.sign HI.out.row HI.out.rd HN.out HK.out (by have := HX.out; simp; omega) (by omega)⟩
  · have t1 : decide (0 < l) = false := by simp; omega
    have t2 : decide ((0 : Int) < (l : Int)) = false := by simp; omega
    have HX := hid hx
    clear hI hin hk hl hwl hx H
    go_wp2_with fail
    go_ret
    exact ⟨rfl, IntRes.sign HI.out.row HI.out.rd HN.out HK.out (by have := HX.out; simp; omega) (by omega)⟩
  · rw [decide_eq_false (show ¬ x < 0 by omega)] at z1
    have t1 : decide (0 < l) = true := by simp; omega
    have t2 : decide ((0 : Int) < (l : Int)) = true := by simp; omega
    have HX := hid hx
    clear hI hin hk hl hwl hx H
    go_wp2_with fail
    go_ret
    exact ⟨rfl, IntRes.sign HI.out.row HI.out.rd HN.out HK.out (by have := HX.out; simp; omega) (by omega)⟩

/-- Abs, by what Set does. -/
theorem abs184_of (pz px tz : Nat) (x : Int) (az : Option Addr) (cz : Nat) (w : World)
    (h : Calls Tryz.prog 160 #[.pointer (some ⟨pz, 0, none⟩), .pointer (some ⟨px, 0, none⟩)] w fun e w' => e = .returned (.pointer (some ⟨pz, 0, none⟩)) ∧ IntRes w pz tz az cz x w') :
    Calls Tryz.prog 184 #[.pointer (some ⟨pz, 0, none⟩), .pointer (some ⟨px, 0, none⟩)] w fun e w' => e = .returned (.pointer (some ⟨pz, 0, none⟩)) ∧ IntRes w pz tz az cz (x.natAbs : Int) w' := by
  have H := hid h
  clear h
  go_enter Tryz.func184, Tryz.ntmps184
  go_wp2_with fail
  refine H.out.mono ?_
  rintro e w1 ⟨rfl, a, l, c, hI, hin, hk⟩
  obtain ⟨z1, z2, z3, z4⟩ := hI.row.facts
  have HI := hid hI; have HN := hid hin; have HK := hid hk
  clear hI hin hk H
  go_wp2_with fail
  go_ret
  exact ⟨rfl, IntRes.sign HI.out.row HI.out.rd HN.out HK.out (by simp) (by omega)⟩
end Go.Proofs
namespace Go.Proofs
open Go.RowKit
set_option maxHeartbeats 1000000
set_option linter.unusedVariables false
set_option linter.unusedSimpArgs false
set_option maxRecDepth 100000

theorem EnvG.abs184 {S : Nat → Prop} {w0 w : World} {V : Nat → Option (TypeId × SV)} (h : EnvG S w0 w V) {pz px : Nat} {tz tx : TypeId} {z x : Int} (hz : V pz = some (tz, sv z)) (hx : V px = some (tx, sv x)) (hp : pz ≠ px) (h1 : x.natAbs < W64 ^ 200) :
    Calls Tryz.prog 184 #[.pointer (some ⟨pz, 0, none⟩), .pointer (some ⟨px, 0, none⟩)] w fun e w' => e = .returned (.pointer (some ⟨pz, 0, none⟩)) ∧ EnvG S w0 w' (updG V pz tz (sv (x.natAbs : Int))) :=
  h.op2 hz hx fun az ax lz cz lx cx g1 g2 a1 _ => (abs184_of pz px tz x az cz w (set160_other pz px tz tx z x az ax lz cz lx cx w g1.s g2.s hp (a1 hp) (Nat.le_trans (g2.len h1) (by omega)))).mono (by rintro e w' ⟨rfl, hr⟩; exact ⟨rfl, hr.h⟩)
theorem EnvG.neg183 {S : Nat → Prop} {w0 w : World} {V : Nat → Option (TypeId × SV)} (h : EnvG S w0 w V) {pz px : Nat} {tz tx : TypeId} {z x : Int} (hz : V pz = some (tz, sv z)) (hx : V px = some (tx, sv x)) (hp : pz ≠ px) (h1 : x.natAbs < W64 ^ 200) :
    Calls Tryz.prog 183 #[.pointer (some ⟨pz, 0, none⟩), .pointer (some ⟨px, 0, none⟩)] w fun e w' => e = .returned (.pointer (some ⟨pz, 0, none⟩)) ∧ EnvG S w0 w' (updG V pz tz (sv (-x))) :=
  h.op2 hz hx fun az ax lz cz lx cx g1 g2 a1 _ => (neg183_of pz px tz x az cz w (set160_other pz px tz tx z x az ax lz cz lx cx w g1.s g2.s hp (a1 hp) (Nat.le_trans (g2.len h1) (by omega)))).mono (by rintro e w' ⟨rfl, hr⟩; exact ⟨rfl, hr.h⟩)
theorem EnvG.set160 {S : Nat → Prop} {w0 w : World} {V : Nat → Option (TypeId × SV)} (h : EnvG S w0 w V) {pz px : Nat} {tz tx : TypeId} {z x : Int} (hz : V pz = some (tz, sv z)) (hx : V px = some (tx, sv x)) (hp : pz ≠ px) (h1 : x.natAbs < W64 ^ 200) :
    Calls Tryz.prog 160 #[.pointer (some ⟨pz, 0, none⟩), .pointer (some ⟨px, 0, none⟩)] w fun e w' => e = .returned (.pointer (some ⟨pz, 0, none⟩)) ∧ EnvG S w0 w' (updG V pz tz (sv x)) :=
  h.op2 hz hx fun az ax lz cz lx cx g1 g2 a1 _ => (set160_other pz px tz tx z x az ax lz cz lx cx w g1.s g2.s hp (a1 hp) (Nat.le_trans (g2.len h1) (by omega))).mono (by rintro e w' ⟨rfl, hr⟩; exact ⟨rfl, hr.h⟩)
theorem EnvG.setInt64_163 {S : Nat → Prop} {w0 w : World} {V : Nat → Option (TypeId × SV)} (h : EnvG S w0 w V) {pz : Nat} {tz : TypeId} {z : Int} (hz : V pz = some (tz, sv z)) (x : Int) (h1 : -9223372036854775808 ≤ x) (h2 : x < 9223372036854775808) :
    Calls Tryz.prog 163 #[.pointer (some ⟨pz, 0, none⟩), .int .i64 x] w fun e w' => e = .returned (.pointer (some ⟨pz, 0, none⟩)) ∧ EnvG S w0 w' (updG V pz tz (sv x)) :=
  h.op1 hz fun az lz cz g => (Go.Proofs.setInt64_163 pz tz z az lz cz x w g.s h1 h2).mono (by rintro e w' ⟨rfl, hr⟩; exact ⟨rfl, hr.h⟩)
theorem EnvG.setUint64_162 {S : Nat → Prop} {w0 w : World} {V : Nat → Option (TypeId × SV)} (h : EnvG S w0 w V) {pz : Nat} {tz : TypeId} {z : Int} (hz : V pz = some (tz, sv z)) (x : Nat) (h1 : x < W64) :
    Calls Tryz.prog 162 #[.pointer (some ⟨pz, 0, none⟩), .int .u64 (x : Int)] w fun e w' => e = .returned (.pointer (some ⟨pz, 0, none⟩)) ∧ EnvG S w0 w' (updG V pz tz (sv (x : Int))) :=
  h.op1 hz fun az lz cz g => (Go.Proofs.setUint64_162 pz tz z az lz cz x w g.s h1).mono (by rintro e w' ⟨rfl, hr⟩; exact ⟨rfl, hr.h⟩)

/-- The cells of a number. -/
theorem EnvG.cells {S : Nat → Prop} {w0 w : World} {V : Nat → Option (TypeId × SV)} (h : EnvG S w0 w V) {p : Nat} {t : TypeId} {z : SV} (hp : V p = some (t, z)) :
    ∃ a l c, w.cell? ⟨p, 0, none⟩ = some (.bool z.1) ∧ w.cell? ⟨p, 1, none⟩ = some (.slice a l c) ∧ w.frozen? ⟨p, 0, none⟩ = false ∧ w.frozen? ⟨p, 1, none⟩ = false ∧ l = (words z.2).length ∧ Rd w a l c (words z.2) := by
  obtain ⟨a, l, c, hi⟩ := h.get hp
  obtain ⟨h1, h2, h3, h4⟩ := hi.row.facts
  exact ⟨a, l, c, h1, h2, h3, h4, hi.rd.length.symm, hi.rd⟩
/-- The sign alone is set. -/
theorem EnvG.setSign {S : Nat → Prop} {w0 w : World} {V : Nat → Option (TypeId × SV)} (h : EnvG S w0 w V) {p : Nat} {t : TypeId} {z : SV} (hp : V p = some (t, z)) (s : Bool) : EnvG S w0 (w.setCell ⟨p, 0, none⟩ (.bool s)) (updG V p t (s, z.2)) := by
  obtain ⟨hk0, ho, f, h1, h2⟩ := h
  have hi := (h1 p t z hp).2.1
  exact EnvG.res hk0 ho h1 h2 hp ⟨(f p).1, (f p).2.1, (f p).2.2, IntG.mk (IntRow.set0 hi.row) (hi.rd.set_row hi.row 0 _), Into.refl _ _ _, (Keeps.refl _ w).setCell ⟨p, 0, none⟩ (.inl (.inl rfl)) _⟩
/-- One word is set. -/
theorem Rd.word1 {w : World} {a : Option Addr} {c x v : Nat} (h : Rd w a 1 c [x]) (hv : v < W64) : ∃ b o, a = some ⟨b, o, none⟩ ∧ w.cell? ⟨b, o, none⟩ = some (.int .u64 (x : Int)) ∧ w.frozen? ⟨b, o, none⟩ = false ∧ Rd (w.setCell ⟨b, o, none⟩ (.int .u64 (v : Int))) a 1 c [v] := by
  obtain ⟨b, o, rfl, hs⟩ := h.sg (by omega)
  have hc := hs.cell (i := 0) (by simp)
  have hst := (hs.set (i := 0) (by simp) hv).1
  rw [Nat.add_zero] at hc hst
  rcases h with ⟨h, _⟩ | ⟨b', o', M, h, hb, hw, h1, h2, h3, h4⟩
  · cases h
  · cases h
    have hb' := hb.set o v
    refine ⟨b, o, rfl, by simpa using hc, RowAt.frozen hb o, ?_⟩
    have := hst.rd hb' (by rw [List.length_set]; exact h4) (c := c) (by simpa using h1) (by rw [List.length_set]; exact h2)
    simpa using this
theorem EnvG.setWord {S : Nat → Prop} {w0 w : World} {V : Nat → Option (TypeId × SV)} (h : EnvG S w0 w V) {p : Nat} {t : TypeId} {s : Bool} {N v : Nat} (hp : V p = some (t, (s, N))) (h0 : N ≠ 0) (hN : N < W64) (hv0 : v ≠ 0) (hv : v < W64) :
    ∃ b o c, w.cell? ⟨p, 1, none⟩ = some (.slice (some ⟨b, o, none⟩) 1 c) ∧ w.cell? ⟨b, o, none⟩ = some (.int .u64 (N : Int)) ∧ w.frozen? ⟨b, o, none⟩ = false ∧ EnvG S w0 (w.setCell ⟨b, o, none⟩ (.int .u64 (v : Int))) (updG V p t (s, v)) := by
  obtain ⟨hk0, ho, f, h1, h2⟩ := h
  have hi := (h1 p t _ hp).2.1
  have hw1 : ∀ x : Nat, x ≠ 0 → x < W64 → words x = [x] := fun x hx hxl => by
    rw [words_pos hx, Nat.div_eq_of_lt hxl, words_zero, Nat.mod_eq_of_lt hxl]
  have hrd : Rd w (f p).1 (f p).2.1 (f p).2.2 [N] := by have := hi.rd; rwa [hw1 N h0 hN] at this
  have hl : (f p).2.1 = 1 := by have := hrd.length; simpa using this.symm
  have hrow := hi.row
  rw [hl] at hrd hrow
  obtain ⟨b, o, ha, hc, hf, hr⟩ := hrd.word1 hv
  refine ⟨b, o, (f p).2.2, by rw [← ha]; exact hrow.facts.2.1, hc, hf, EnvG.res hk0 ho h1 h2 hp ⟨(f p).1, 1, (f p).2.2, IntG.mk (RowAt.other hrow (p := ⟨b, o, none⟩) ?_ _) (by rw [hw1 v hv0 hv]; exact hr), Into.refl _ _ _, (Keeps.refl _ w).setCell ⟨b, o, none⟩ (.inl (.inr ⟨o, ha⟩)) _⟩⟩
  rintro rfl
  exact hrd.not_row hrow ⟨o, ha⟩

/-- A number's size, by its address. -/
def HasAbs (w : World) (v : Value) (N : Nat) : Prop := ∃ p t s a l c, v = .pointer (some ⟨p, 0, none⟩) ∧ IntH w p t (s, N) a l c
theorem HasAbs.inj {w : World} {v : Value} {M N : Nat} (h : HasAbs w v M) (k : HasAbs w v N) : M = N := by
  obtain ⟨p, t, s, a, l, c, rfl, hi⟩ := h
  obtain ⟨p', t', s', a', l', c', he, ki⟩ := k
  cases he
  obtain ⟨_, rfl, rfl, rfl⟩ := IntH.same hi ki
  exact words_inj (Rd.inj hi.rd ki.rd)
open Classical in
noncomputable def absAt (w : World) (v : Value) : Nat := if h : ∃ N, HasAbs w v N then h.choose else 0
theorem absAt_of {w : World} {v : Value} {N : Nat} (h : HasAbs w v N) : absAt w v = N := by
  have he : ∃ N, HasAbs w v N := ⟨N, h⟩
  unfold absAt
  rw [dif_pos he]
  exact he.choose_spec.inj h
theorem EnvG.absAt {S : Nat → Prop} {w0 w : World} {V : Nat → Option (TypeId × SV)} (h : EnvG S w0 w V) {p : Nat} {t : TypeId} {z : SV} (hp : V p = some (t, z)) : absAt w (.pointer (some ⟨p, 0, none⟩)) = z.2 := by
  obtain ⟨a, l, c, hi⟩ := h.get hp
  exact absAt_of ⟨p, t, z.1, a, l, c, rfl, hi⟩
theorem words_gt1 (n : Nat) : 1 < (words n).length ↔ W64 ≤ n := by
  constructor
  · intro h
    refine Nat.le_of_not_lt fun hlt => ?_
    have := words_lt (n := n) (k := 1) (by rw [Nat.pow_one]; exact hlt)
    omega
  · intro h
    refine Nat.lt_of_not_le fun hle => ?_
    have h2 := lt_words n
    have h3 : W64 ^ (words n).length ≤ W64 ^ 1 := Nat.pow_le_pow_right (by unfold W64; omega) hle
    rw [Nat.pow_one] at h3
    omega
theorem words_gt0 (n : Nat) : 0 < (words n).length ↔ 0 < n := by
  have := words_len_zero n
  omega
end Go.Proofs
namespace Go.Proofs
open Go.RowKit
set_option maxHeartbeats 1000000
set_option linter.unusedVariables false
set_option linter.unusedSimpArgs false
set_option maxRecDepth 100000

/-- The state of lehmerGCD. -/
structure Lg (S : Nat → Prop) (w0 : World) (h0 : Nat) (V0 : Nat → Option (TypeId × SV)) (a b : Int) (pA pB pU pX pq pr : Nat) (A B U X : Int) (w : World) : Prop where
  six : Six S w0 h0 V0 pA pB pU pX pq pr A B U X w
  ap : Ap6 pA pB pU pX pq pr
  ge : h0 ≤ pA ∧ h0 ≤ pB ∧ h0 ≤ pU ∧ h0 ≤ pX ∧ h0 ≤ pq ∧ h0 ≤ pr
  gc : Gc a b A B U X
  le : A.natAbs < W64 ^ 11
  bl : b.natAbs < W64 ^ 11

theorem w9_11 : W64 ^ 11 ≤ W64 ^ 11 := Nat.pow_le_pow_right (by unfold W64; omega) (by omega)
theorem w9_20 : W64 ^ 11 ≤ W64 ^ 20 := Nat.pow_le_pow_right (by unfold W64; omega) (by omega)
section
variable {S : Nat → Prop} {w0 : World} {h0 : Nat} {V0 : Nat → Option (TypeId × SV)} {a b : Int} {pA pB pU pX pq pr : Nat} {A B U X : Int} {w : World}
theorem Lg.bnd (h : Lg S w0 h0 V0 a b pA pB pU pX pq pr A B U X w) : A.natAbs < W64 ^ 11 ∧ B.natAbs < W64 ^ 11 ∧ U.natAbs < W64 ^ 11 ∧ X.natAbs < W64 ^ 11 := by
  have h1 := h.gc.ba
  have h2 := h.gc.ul
  have h3 := h.gc.ub
  have h4 := h.le
  have h5 := h.bl
  generalize W64 ^ 11 = x at *
  omega
/-- Euclid's step. -/
theorem Lg.eu (h : Lg S w0 h0 V0 a b pA pB pU pX pq pr A B U X w) (hB : 0 < B) (G0 : Glob w0) (hSG : ∀ k, GB k → ¬ S k) :
    Calls Tryz.prog 244 #[.pointer (some ⟨pA, 0, none⟩), .pointer (some ⟨pB, 0, none⟩), .pointer (some ⟨pU, 0, none⟩), .pointer (some ⟨pX, 0, none⟩), .pointer (some ⟨pq, 0, none⟩), .pointer (some ⟨pr, 0, none⟩), .bool true] w fun ev w' =>
      ev = .returned (.tuple #[.pointer (some ⟨pB, 0, none⟩), .pointer (some ⟨pr, 0, none⟩), .pointer (some ⟨pA, 0, none⟩), .pointer (some ⟨pX, 0, none⟩), .pointer (some ⟨pU, 0, none⟩)]) ∧
      Lg S w0 h0 V0 a b pB pr pX pU pq pA B (A % B) X (U - A / B * X) w' := by
  obtain ⟨b1, b2, b3, b4⟩ := h.bnd
  obtain ⟨g1, g2, g3, g4, g5, g6⟩ := h.ge
  have hba := h.gc.ba
  have hl := w9_11
  refine (h.six.euclid h.ap g3 g5 g6 G0 hSG (by omega) hB (Nat.lt_of_lt_of_le b1 hl) (Nat.lt_of_lt_of_le b2 hl) (Nat.lt_of_lt_of_le b3 hl) (Nat.lt_of_lt_of_le b4 hl)).mono ?_
  rintro ev w' ⟨rfl, h'⟩
  exact ⟨rfl, h', h.ap.turn, ⟨g2, g6, g4, g3, g5, g1⟩, h.gc.step hB, b2, h.bl⟩
/-- Lehmer's step. -/
theorem Lg.up (h : Lg S w0 h0 V0 a b pA pB pU pX pq pr A B U X w) {u0 u1 v0 v1 : Nat} {e : Bool} (hs : SimOut A B u0 u1 v0 v1 e) (hv : v0 ≠ 0) (hu0 : u0 < W64) (hu1 : u1 < W64) (hv0 : v0 < W64) (hv1 : v1 < W64) :
    Calls Tryz.prog 243 #[.pointer (some ⟨pA, 0, none⟩), .pointer (some ⟨pB, 0, none⟩), .pointer (some ⟨pq, 0, none⟩), .pointer (some ⟨pr, 0, none⟩), .int .u64 (u0 : Int), .int .u64 (u1 : Int), .int .u64 (v0 : Int), .int .u64 (v1 : Int), .bool e] w fun ev w1 => ev = .returned (.tuple #[]) ∧
      Calls Tryz.prog 243 #[.pointer (some ⟨pU, 0, none⟩), .pointer (some ⟨pX, 0, none⟩), .pointer (some ⟨pq, 0, none⟩), .pointer (some ⟨pr, 0, none⟩), .int .u64 (u0 : Int), .int .u64 (u1 : Int), .int .u64 (v0 : Int), .int .u64 (v1 : Int), .bool e] w1 fun ev w' => ev = .returned (.tuple #[]) ∧
        Lg S w0 h0 V0 a b pA pB pU pX pq pr (rowv (!e) u0 v0 A B) (rowv e u1 v1 A B) (rowv (!e) u0 v0 U X) (rowv e u1 v1 U X) w' := by
  obtain ⟨b1, b2, b3, b4⟩ := h.bnd
  obtain ⟨g1, g2, g3, g4, g5, g6⟩ := h.ge
  have hl := w9_20
  refine (h.six.upd1 h.ap g1 g2 g5 g6 u0 u1 v0 v1 e hu0 hu1 hv0 hv1 (Nat.lt_of_lt_of_le b1 hl) (Nat.lt_of_lt_of_le b2 hl)).mono ?_
  rintro ev w1 ⟨rfl, h1⟩
  refine ⟨rfl, ?_⟩
  refine (h1.upd2 h.ap g3 g4 g5 g6 u0 u1 v0 v1 e hu0 hu1 hv0 hv1 (Nat.lt_of_lt_of_le b3 hl) (Nat.lt_of_lt_of_le b4 hl)).mono ?_
  rintro ev w2 ⟨rfl, h2⟩
  refine ⟨rfl, h2, h.ap, h.ge, h.gc.lehmer hs hv, ?_, h.bl⟩
  obtain ⟨n1, n2, n3, n4⟩ := hs.next hv
  generalize W64 ^ 11 = x at *
  have := h.gc.ba
  omega
theorem Lg.sim (h : Lg S w0 h0 V0 a b pA pB pU pX pq pr A B U X w) (hB : W64 ≤ B.natAbs) : Calls Tryz.prog 242 #[.pointer (some ⟨pA, 0, none⟩), .pointer (some ⟨pB, 0, none⟩)] w (SimRes A B w) := by
  obtain ⟨b1, b2, b3, b4⟩ := h.bnd
  have := h.gc.ba
  exact h.six.sim (by omega) this.2.1 (Nat.lt_of_lt_of_le b1 w9_20)
theorem Lg.keep {w' : World} (h : Lg S w0 h0 V0 a b pA pB pU pX pq pr A B U X w) (hk : Keeps (fun _ => False) w w') : Lg S w0 h0 V0 a b pA pB pU pX pq pr A B U X w' := by
  obtain ⟨⟨V, q, r, hE, hr⟩, h2, h3, h4, h5, h6⟩ := h
  exact ⟨⟨V, q, r, hE.same hk, hr⟩, h2, h3, h4, h5, h6⟩
theorem Lg.cellA (h : Lg S w0 h0 V0 a b pA pB pU pX pq pr A B U X w) : ∃ al l c, w.cell? ⟨pA, 1, none⟩ = some (.slice al l c) ∧ l = (words A.natAbs).length ∧ Rd w al l c (words A.natAbs) := by
  obtain ⟨V, q, r, hE, cA, cB, cU, cX, cq, cr, hV⟩ := h.six
  obtain ⟨al, l, c, h1, h2, h3, h4, h5, h6⟩ := hE.cells cA
  exact ⟨al, l, c, h2, h5, h6⟩
theorem Lg.cellB (h : Lg S w0 h0 V0 a b pA pB pU pX pq pr A B U X w) : ∃ al l c, w.cell? ⟨pB, 1, none⟩ = some (.slice al l c) ∧ l = (words B.natAbs).length ∧ Rd w al l c (words B.natAbs) := by
  obtain ⟨V, q, r, hE, cA, cB, cU, cX, cq, cr, hV⟩ := h.six
  obtain ⟨al, l, c, h1, h2, h3, h4, h5, h6⟩ := hE.cells cB
  exact ⟨al, l, c, h2, h5, h6⟩
theorem Lg.absB (h : Lg S w0 h0 V0 a b pA pB pU pX pq pr A B U X w) : absAt w (.pointer (some ⟨pB, 0, none⟩)) = B.natAbs := by
  obtain ⟨V, q, r, hE, cA, cB, cU, cX, cq, cr, hV⟩ := h.six
  exact hE.absAt cB
end
/-- The loop's variables: A, B, Ua, Ub, r. -/
def LgLoop (S : Nat → Prop) (w0 : World) (h0 : Nat) (V0 : Nat → Option (TypeId × SV)) (a b : Int) (pq : Nat) (x11 x12 x13 x14 x17 : Value) (w : World) : Prop :=
  ∃ pA pB pU pX pr A B U X, x11 = .pointer (some ⟨pA, 0, none⟩) ∧ x12 = .pointer (some ⟨pB, 0, none⟩) ∧ x13 = .pointer (some ⟨pU, 0, none⟩) ∧ x14 = .pointer (some ⟨pX, 0, none⟩) ∧ x17 = .pointer (some ⟨pr, 0, none⟩) ∧ Lg S w0 h0 V0 a b pA pB pU pX pq pr A B U X w
/-- What the loops leave: the divisor and the first factor. -/
def LgEnd (S : Nat → Prop) (w0 : World) (h0 : Nat) (V0 : Nat → Option (TypeId × SV)) (a b : Int) (x11 x13 : Value) (w : World) : Prop :=
  ∃ pA pU V U, x11 = .pointer (some ⟨pA, 0, none⟩) ∧ x13 = .pointer (some ⟨pU, 0, none⟩) ∧ EnvG S w0 w V ∧ V pA = some (103, sv (Int.gcd a b : Int)) ∧ V pU = some (103, sv U) ∧ (∀ k, k < h0 → V k = V0 k) ∧ h0 ≤ pA ∧ h0 ≤ pU ∧ pA ≠ pU ∧ b ∣ U * a - (Int.gcd a b : Int) ∧ -b ≤ U ∧ U ≤ b ∧ (Int.gcd a b) < W64 ^ 11
theorem Lg.fin {S : Nat → Prop} {w0 : World} {h0 : Nat} {V0 : Nat → Option (TypeId × SV)} {a b : Int} {pA pB pU pX pq pr : Nat} {A U X : Int} {w : World} (h : Lg S w0 h0 V0 a b pA pB pU pX pq pr A 0 U X w) :
    LgEnd S w0 h0 V0 a b (.pointer (some ⟨pA, 0, none⟩)) (.pointer (some ⟨pU, 0, none⟩)) w := by
  have hg := h.gc.done
  have hle := h.le
  obtain ⟨V, q, r, hE, cA, cB, cU, cX, cq, cr, hV⟩ := h.six
  obtain ⟨g1, g2, g3, g4, g5, g6⟩ := h.ge
  refine ⟨pA, pU, V, U, rfl, rfl, hE, by rw [← hg]; exact cA, cU, hV, g1, g3, h.ap.h.2.1, by rw [← hg]; exact h.gc.da, h.gc.ul.1, h.gc.ul.2, ?_⟩
  generalize W64 ^ 11 = x at *
  omega
end Go.Proofs
namespace Go.Proofs
open Go.RowKit
set_option maxHeartbeats 1000000
set_option linter.unusedVariables false
set_option linter.unusedSimpArgs false
set_option maxRecDepth 100000

section
variable {S : Nat → Prop} {w0 : World} {h0 : Nat} {V0 : Nat → Option (TypeId × SV)} {a b : Int} {pA pB pU pX pq pr : Nat} {A B U X : Int} {w : World}
theorem Lg.wordA (h : Lg S w0 h0 V0 a b pA pB pU pX pq pr A B U X w) (hA : A.natAbs < W64) : ∃ k o c, w.cell? ⟨pA, 1, none⟩ = some (.slice (some ⟨k, o, none⟩) 1 c) ∧ w.cell? ⟨k, o, none⟩ = some (.int .u64 ((A.natAbs : Nat) : Int)) := by
  have hba := h.gc.ba
  obtain ⟨V, q, r, hE, cA, cB, cU, cX, cq, cr, hV⟩ := h.six
  obtain ⟨k, o, c, h1, h2, h3, h4⟩ := hE.setWord (s := (sv A).1) (N := A.natAbs) (v := 1) cA (by omega) hA (by omega) (by unfold W64; omega)
  exact ⟨k, o, c, h1, h2⟩
theorem Lg.wordB (h : Lg S w0 h0 V0 a b pA pB pU pX pq pr A B U X w) (hB : B.natAbs < W64) (hB0 : B ≠ 0) : ∃ k o c, w.cell? ⟨pB, 1, none⟩ = some (.slice (some ⟨k, o, none⟩) 1 c) ∧ w.cell? ⟨k, o, none⟩ = some (.int .u64 ((B.natAbs : Nat) : Int)) := by
  obtain ⟨V, q, r, hE, cA, cB, cU, cX, cq, cr, hV⟩ := h.six
  obtain ⟨k, o, c, h1, h2, h3, h4⟩ := hE.setWord (s := (sv B).1) (N := B.natAbs) (v := 1) cB (by omega) hB (by omega) (by unfold W64; omega)
  exact ⟨k, o, c, h1, h2⟩
/-- The end, where both numbers are words. -/
theorem Lg.last (h : Lg S w0 h0 V0 a b pA pB pU pX pq pr A B U X w) (hA : A.natAbs < W64) (hB : B.natAbs < W64) {a1 u1 u2 v1 v2 : Nat} {e : Bool} (he : Eu A.natAbs B.natAbs a1 0 u1 u2 v1 v2 e) :
    Calls Tryz.prog 245 #[.pointer (some ⟨pU, 0, none⟩), .pointer (some ⟨pU, 0, none⟩), .bool e, .int .u64 (u1 : Int)] w fun ev w1 => ev = .returned (.tuple #[]) ∧
      Calls Tryz.prog 245 #[.pointer (some ⟨pX, 0, none⟩), .pointer (some ⟨pX, 0, none⟩), .bool (!e), .int .u64 (v1 : Int)] w1 fun ev w2 => ev = .returned (.tuple #[]) ∧
        Calls Tryz.prog 145 #[.pointer (some ⟨pU, 0, none⟩), .pointer (some ⟨pU, 0, none⟩), .pointer (some ⟨pX, 0, none⟩)] w2 fun ev w3 => ev = .returned (.pointer (some ⟨pU, 0, none⟩)) ∧
          ∃ k o c, w3.cell? ⟨pA, 1, none⟩ = some (.slice (some ⟨k, o, none⟩) 1 c) ∧ w3.cell? ⟨k, o, none⟩ = some (.int .u64 ((A.natAbs : Nat) : Int)) ∧ w3.frozen? ⟨k, o, none⟩ = false ∧
            LgEnd S w0 h0 V0 a b (.pointer (some ⟨pA, 0, none⟩)) (.pointer (some ⟨pU, 0, none⟩)) (w3.setCell ⟨k, o, none⟩ (.int .u64 (a1 : Int))) := by
  have hba := h.gc.ba
  obtain ⟨b1, b2, b3, b4⟩ := h.bnd
  obtain ⟨hw1, hw2, hw3, hw4⟩ := h.gc.words (A0 := A.natAbs) (B0 := B.natAbs) (by omega) (by omega) he
  obtain ⟨wl1, wl2⟩ := he.wl
  have hpos := he.pos
  have hle : a1 ≤ A.natAbs := by
    have h1 := he.d1
    have h2 : 1 ≤ v2 := by
      rcases Nat.eq_zero_or_pos v2 with h3 | h3
      · subst h3; rw [Nat.mul_zero, Nat.zero_mul] at h1; omega
      · exact h3
    have h3 : a1 * 1 ≤ a1 * v2 := Nat.mul_le_mul_left _ h2
    rw [Nat.zero_mul] at h1
    omega
  obtain ⟨V, q, r, hE, cA, cB, cU, cX, cq, cr, hV⟩ := h.six
  obtain ⟨g1, g2, g3, g4, g5, g6⟩ := h.ge
  obtain ⟨n1, n2, n3, n4, n5, n6, n7, n8, n9, n10, n11, n12, n13, n14, n15⟩ := h.ap.h
  have hl : W64 ^ 11 ≤ W64 ^ 200 := Nat.pow_le_pow_right (by unfold W64; omega) (by omega)
  have hl2 := w9_20
  have hu1 : u1 < W64 := by omega
  have hv1 : v1 < W64 := by omega
  refine (hE.mulW cU cU e u1 hu1 (Nat.lt_of_lt_of_le b3 hl)).mono ?_
  rintro ev w1 ⟨rfl, h1⟩
  refine ⟨rfl, ?_⟩
  have cX1 : updG V pU 103 ((sv U).1 != e, (sv U).2 * u1) pX = some (103, sv X) := (updG_ne _ _ _ (Ne.symm n10)).trans cX
  refine (h1.mulW cX1 cX1 (!e) v1 hv1 (Nat.lt_of_lt_of_le b4 hl)).mono ?_
  rintro ev w2 ⟨rfl, h2⟩
  refine ⟨rfl, ?_⟩
  obtain ⟨V2, hV2⟩ : ∃ V2, V2 = updG (updG V pU 103 ((sv U).1 != e, (sv U).2 * u1)) pX 103 ((sv X).1 != !e, (sv X).2 * v1) := ⟨_, rfl⟩
  rw [← hV2] at h2
  have cU2 : V2 pU = some (103, ((sv U).1 != e, (sv U).2 * u1)) := by rw [hV2, updG_ne _ _ _ n10, updG_eq]
  have cX2 : V2 pX = some (103, ((sv X).1 != !e, (sv X).2 * v1)) := by rw [hV2, updG_eq]
  have a2 : ∀ k, k ≠ pU → k ≠ pX → V2 k = V k := fun k k1 k2 => by rw [hV2, updG_ne _ _ _ k2, updG_ne _ _ _ k1]
  have es : sgnv ((sv U).1 != e) ((sv U).2 * u1) + sgnv ((sv X).1 != !e) ((sv X).2 * v1) = rowv e u1 v1 U X := by
    rw [sgnv_mulW, sgnv_mulW]; unfold rowv; cases e <;> simp <;> omega
  have m1 : (sv U).2 * u1 < W64 ^ 40 := mulW_lt (z := U.natAbs) (Nat.lt_of_lt_of_le b3 hl2) hu1
  have m2 : (sv X).2 * v1 < W64 ^ 40 := mulW_lt (z := X.natAbs) (Nat.lt_of_lt_of_le b4 hl2) hv1
  refine (h2.add145p cU2 cU2 cX2 es m1 m2).mono ?_
  rintro ev w3 ⟨rfl, h3⟩
  refine ⟨rfl, ?_⟩
  have cA3 : updG V2 pU 103 (sv (rowv e u1 v1 U X)) pA = some (103, ((sv A).1, A.natAbs)) := (updG_ne _ _ _ n2).trans ((a2 _ n2 n3).trans cA)
  obtain ⟨k, o, c, k1, k2, k3, k4⟩ := h3.setWord (v := a1) cA3 (by omega) hA (by omega) (by omega)
  refine ⟨k, o, c, k1, k2, k3, pA, pU, _, rowv e u1 v1 U X, rfl, rfl, k4, ?_, ?_, ?_, g1, g3, n2, ?_, hw3, hw4, ?_⟩
  · rw [updG_eq, ← hw1]
    have : (sv A).1 = (sv ((a1 : Nat) : Int)).1 := by
      unfold sv
      simp only
      rw [decide_eq_false (by omega), decide_eq_false (by omega)]
    rw [this]
    rfl
  · rw [updG_ne _ _ _ (Ne.symm n2), updG_eq]
  · intro k hk
    rw [updG_ne _ _ _ (by omega), updG_ne _ _ _ (by omega), a2 _ (by omega) (by omega)]
    exact hV k hk
  · rw [← hw1]; exact hw2
  · have h5 : (Int.gcd a b) = a1 := by omega
    rw [h5]
    have h6 : W64 ≤ W64 ^ 11 := by
      have := Nat.pow_le_pow_right W64_pos (show 1 ≤ 11 by omega)
      rwa [Nat.pow_one] at this
    omega
end
/-- Euclid's loop upon words. -/
def EuRel (A B : Nat) (w : World) (x23 x24 x25 x26 x27 x28 x29 : Value) (wr : World) : Prop :=
  ∃ (a1 a2 u1 u2 v1 v2 : Nat) (e : Bool), x23 = .int .u64 (a1 : Int) ∧ x24 = .int .u64 (a2 : Int) ∧ x25 = .int .u64 (u1 : Int) ∧ x26 = .int .u64 (u2 : Int) ∧ x27 = .int .u64 (v1 : Int) ∧ x28 = .int .u64 (v2 : Int) ∧ x29 = .bool (!e) ∧ Eu A B a1 a2 u1 u2 v1 v2 e ∧ a1 < W64 ∧ a2 < W64 ∧ Keeps (fun _ => False) w wr
end Go.Proofs
namespace Go.Proofs
open Go.RowKit
set_option maxHeartbeats 1000000
set_option linter.unusedVariables false
set_option linter.unusedSimpArgs false
set_option maxRecDepth 100000

theorem updG_twice (V : Nat → Option (TypeId × SV)) (p : Nat) (t : TypeId) (z z' : SV) : updG (updG V p t z) p t z' = updG V p t z' := by
  funext q
  unfold updG
  split <;> rfl
/-- A number's sign in memory. -/
theorem EnvG.sign {S : Nat → Prop} {w0 w : World} {V : Nat → Option (TypeId × SV)} (h : EnvG S w0 w V) {p : Nat} {t : TypeId} {z : SV} (hp : V p = some (t, z)) : w.cell? ⟨p, 0, none⟩ = some (.bool z.1) ∧ w.frozen? ⟨p, 0, none⟩ = false := by
  obtain ⟨_, _, _, h1, _, h2, _, _, _⟩ := h.cells hp
  exact ⟨h1, h2⟩
theorem sv_zero : sv 0 = (false, 0) := rfl
/-- A new number becomes another one's size. -/
theorem EnvG.newAbs {S : Nat → Prop} {w0 w : World} {V : Nat → Option (TypeId × SV)} (h : EnvG S w0 w V) {px : Nat} {tx : TypeId} {x : Int} (hx : V px = some (tx, sv x)) (h1 : x.natAbs < W64 ^ 200) :
    Calls Tryz.prog 184 #[.pointer (some ⟨w.heap.size, 0, none⟩), .pointer (some ⟨px, 0, none⟩)] (w.alloc (.cells #[.bool false, .slice none 0 0] 103)) fun e w' => e = .returned (.pointer (some ⟨w.heap.size, 0, none⟩)) ∧ EnvG S w0 w' (updG V w.heap.size 103 (sv (x.natAbs : Int))) := by
  have hlt := h.lt hx
  have hne : px ≠ w.heap.size := by omega
  refine ((h.new 103).abs184 (z := 0) (updG_eq _ _ _ _) ((updG_ne _ _ _ hne).trans hx) (Ne.symm hne) h1).mono ?_
  rintro e w' ⟨rfl, h2⟩
  rw [updG_twice] at h2
  exact ⟨rfl, h2⟩
theorem EnvG.newSet {S : Nat → Prop} {w0 w : World} {V : Nat → Option (TypeId × SV)} (h : EnvG S w0 w V) (x : Int) (h1 : -9223372036854775808 ≤ x) (h2 : x < 9223372036854775808) :
    Calls Tryz.prog 163 #[.pointer (some ⟨w.heap.size, 0, none⟩), .int .i64 x] (w.alloc (.cells #[.bool false, .slice none 0 0] 103)) fun e w' => e = .returned (.pointer (some ⟨w.heap.size, 0, none⟩)) ∧ EnvG S w0 w' (updG V w.heap.size 103 (sv x)) := by
  refine ((h.new 103).setInt64_163 (z := 0) (updG_eq _ _ _ _) x h1 h2).mono ?_
  rintro e w' ⟨rfl, h2⟩
  rw [updG_twice] at h2
  exact ⟨rfl, h2⟩
theorem EnvG.new3 {S : Nat → Prop} {w0 w : World} {V : Nat → Option (TypeId × SV)} (h : EnvG S w0 w V) :
    EnvG S w0 (((w.alloc (.cells #[.bool false, .slice none 0 0] 103)).alloc (.cells #[.bool false, .slice none 0 0] 103)).alloc (.cells #[.bool false, .slice none 0 0] 103)) (updG (updG (updG V w.heap.size 103 (sv 0)) (w.heap.size + 1) 103 (sv 0)) (w.heap.size + 2) 103 (sv 0)) := by
  have h3 := ((h.new 103).new 103).new 103
  have e1 : (w.alloc (.cells #[.bool false, .slice none 0 0] 103)).heap.size = w.heap.size + 1 := by simp
  have e2 : ((w.alloc (.cells #[.bool false, .slice none 0 0] 103)).alloc (.cells #[.bool false, .slice none 0 0] 103)).heap.size = w.heap.size + 2 := by simp
  rw [e1, e2] at h3
  exact h3
theorem EnvG.new2 {S : Nat → Prop} {w0 w : World} {V : Nat → Option (TypeId × SV)} (h : EnvG S w0 w V) :
    EnvG S w0 ((w.alloc (.cells #[.bool false, .slice none 0 0] 103)).alloc (.cells #[.bool false, .slice none 0 0] 103)) (updG (updG V w.heap.size 103 (sv 0)) (w.heap.size + 1) 103 (sv 0)) := by
  have h3 := (h.new 103).new 103
  have e1 : (w.alloc (.cells #[.bool false, .slice none 0 0] 103)).heap.size = w.heap.size + 1 := by simp
  rw [e1] at h3
  exact h3
/-- The start of lehmerGCD. -/
theorem Lg.start {S : Nat → Prop} {w0 w4 : World} {h0 : Nat} {V0 V3 : Nat → Option (TypeId × SV)} {a b : Int} {s1 s2 s3 s4 : Nat} (hE : EnvG S w0 w4 (updG (updG (updG V3 s4 103 (sv 0)) (s4 + 1) 103 (sv 0)) (s4 + 2) 103 (sv 0)))
    (hA : V3 s1 = some (103, sv (a.natAbs : Int))) (hB : V3 s2 = some (103, sv (b.natAbs : Int))) (hU : V3 s3 = some (103, sv 1)) (o1 : h0 ≤ s1) (o2 : s1 < s2) (o3 : s2 < s3) (o4 : s3 < s4) (hV : ∀ k, k < h0 → V3 k = V0 k)
    (ha : a ≠ 0) (hb : b ≠ 0) (hal : a.natAbs < W64 ^ 11) (hbl : b.natAbs < W64 ^ 11) :
    (b.natAbs ≤ a.natAbs → Lg S w0 h0 V0 (a.natAbs : Int) (b.natAbs : Int) s1 s2 s3 s4 (s4 + 1) (s4 + 2) (a.natAbs : Int) (b.natAbs : Int) 1 0 w4) ∧
    (a.natAbs < b.natAbs → Lg S w0 h0 V0 (a.natAbs : Int) (b.natAbs : Int) s2 s1 s4 s3 (s4 + 1) (s4 + 2) (b.natAbs : Int) (a.natAbs : Int) 0 1 w4) := by
  obtain ⟨V4, hV4⟩ : ∃ V4, V4 = updG (updG (updG V3 s4 103 (sv 0)) (s4 + 1) 103 (sv 0)) (s4 + 2) 103 (sv 0) := ⟨_, rfl⟩
  rw [← hV4] at hE
  have f : ∀ k, k < s4 → V4 k = V3 k := fun k hk => by rw [hV4, updG_ne _ _ _ (by omega), updG_ne _ _ _ (by omega), updG_ne _ _ _ (by omega)]
  have fX : V4 s4 = some (103, sv 0) := by rw [hV4, updG_ne _ _ _ (by omega), updG_ne _ _ _ (by omega), updG_eq]
  have fq : V4 (s4 + 1) = some (103, sv 0) := by rw [hV4, updG_ne _ _ _ (by omega), updG_eq]
  have fr : V4 (s4 + 2) = some (103, sv 0) := by rw [hV4, updG_eq]
  have fA := (f s1 (by omega)).trans hA
  have fB := (f s2 (by omega)).trans hB
  have fU := (f s3 (by omega)).trans hU
  have f0 : ∀ k, k < h0 → V4 k = V0 k := fun k hk => (f k (by omega)).trans (hV k hk)
  constructor
  · intro hle
    exact ⟨⟨V4, _, _, hE, fA, fB, fU, fX, fq, fr, f0⟩, ⟨⟨by omega, by omega, by omega, by omega, by omega, by omega, by omega, by omega, by omega, by omega, by omega, by omega, by omega, by omega, by omega⟩⟩, ⟨by omega, by omega, by omega, by omega, by omega, by omega⟩, Gc.start (by omega) (by omega) (by omega), by rw [Int.natAbs_natCast]; exact hal, by rw [Int.natAbs_natCast]; exact hbl⟩
  · intro hlt
    exact ⟨⟨V4, _, _, hE, fB, fA, fX, fU, fq, fr, f0⟩, ⟨⟨by omega, by omega, by omega, by omega, by omega, by omega, by omega, by omega, by omega, by omega, by omega, by omega, by omega, by omega, by omega⟩⟩, ⟨by omega, by omega, by omega, by omega, by omega, by omega⟩, Gc.swap (by omega) (by omega) (by omega), by rw [Int.natAbs_natCast]; exact hbl, by rw [Int.natAbs_natCast]; exact hbl⟩
end Go.Proofs
namespace Go.Proofs
open Go.RowKit
set_option maxHeartbeats 4000000
set_option linter.unusedVariables false
set_option linter.unusedSimpArgs false
set_option maxRecDepth 100000

/-- What lehmerGCD leaves. -/
def LgRes (S : Nat → Prop) (w0 : World) (h0 : Nat) (V0 : Nat → Option (TypeId × SV)) (a b : Int) (pz px : Nat) (tz tx : TypeId) (w' : World) : Prop :=
  ∃ V U, EnvG S w0 w' V ∧ V pz = some (tz, sv (Int.gcd a b : Int)) ∧ V px = some (tx, ((sv U).1 != decide (a < 0), U.natAbs)) ∧ (∀ k, k < h0 → k ≠ pz → k ≠ px → V k = V0 k) ∧
    (b.natAbs : Int) ∣ U * (a.natAbs : Int) - (Int.gcd a b : Int) ∧ -(b.natAbs : Int) ≤ U ∧ U ≤ (b.natAbs : Int) ∧ Int.gcd a b < W64 ^ 11

theorem EnvG.lehmer207_none {S : Nat → Prop} {w0 w : World} {V : Nat → Option (TypeId × SV)} (h : EnvG S w0 w V) {pz px pa pb : Nat} {tz tx ta tb : TypeId} {z x a b : Int} (hz : V pz = some (tz, sv z)) (hx : V px = some (tx, sv x)) (ha : V pa = some (ta, sv a)) (hb : V pb = some (tb, sv b))
    (hzx : pz ≠ px) (G0 : Glob w0) (hSG : ∀ k, GB k → ¬ S k) (ha0 : a ≠ 0) (hb0 : b ≠ 0) (hal : a.natAbs < W64 ^ 11) (hbl : b.natAbs < W64 ^ 11) :
    Calls Tryz.prog 207 #[.pointer (some ⟨pz, 0, none⟩), .pointer (some ⟨px, 0, none⟩), .pointer none, .pointer (some ⟨pa, 0, none⟩), .pointer (some ⟨pb, 0, none⟩)] w fun e w' =>
      e = .returned (.pointer (some ⟨pz, 0, none⟩)) ∧ LgRes S w0 w.heap.size V a b pz px tz tx w' := by
  have l200 : W64 ^ 11 ≤ W64 ^ 200 := Nat.pow_le_pow_right (by unfold W64; omega) (by omega)
  have la := h.lt ha; have lb := h.lt hb
  obtain ⟨h0, hh0⟩ : ∃ k, k = w.heap.size := ⟨_, rfl⟩
  have C1 := hid (h.newAbs ha (Nat.lt_of_lt_of_le hal l200))
  rw [← hh0] at C1
  have C2 : Hid (∀ w1, EnvG S w0 w1 (updG V h0 103 (sv (a.natAbs : Int))) → Calls Tryz.prog 184 #[.pointer (some ⟨w1.heap.size, 0, none⟩), .pointer (some ⟨pb, 0, none⟩)] (w1.alloc (.cells #[.bool false, .slice none 0 0] 103)) fun e w' => e = .returned (.pointer (some ⟨w1.heap.size, 0, none⟩)) ∧ EnvG S w0 w' (updG (updG V h0 103 (sv (a.natAbs : Int))) w1.heap.size 103 (sv (b.natAbs : Int)))) :=
    hid (fun w1 h1 => h1.newAbs ((updG_ne _ _ _ (by omega)).trans hb) (Nat.lt_of_lt_of_le hbl l200))
  have C3 : Hid (∀ V2 w2, EnvG S w0 w2 V2 → Calls Tryz.prog 163 #[.pointer (some ⟨w2.heap.size, 0, none⟩), .int .i64 1] (w2.alloc (.cells #[.bool false, .slice none 0 0] 103)) fun e w' => e = .returned (.pointer (some ⟨w2.heap.size, 0, none⟩)) ∧ EnvG S w0 w' (updG V2 w2.heap.size 103 (sv 1))) :=
    hid (fun V2 w2 h2 => h2.newSet 1 (by omega) (by omega))
  have HE := hid h; have Hz := hid hz; have Hx := hid hx; have Ha := hid ha; have Hb := hid hb; have HG0 := hid G0; have HSG := hid hSG; have Ha0 := hid ha0; have Hb0 := hid hb0; have Hal := hid hal; have Hbl := hid hbl; have H200 := hid l200; have Hh0 := hid hh0; have Hzx := hid hzx; have Hla := hid la; have Hlb := hid lb
  rw [← hh0]
  clear h hz hx ha hb G0 hSG ha0 hb0 hal hbl l200 hzx la lb
  go_enter Tryz.func207, Tryz.ntmps207
  go_wp2_with fail
  rw [← hh0]
  refine C1.out.mono ?_
  rintro e w1 ⟨rfl, E1⟩
  have HE1 := hid E1
  clear E1 hh0
  obtain ⟨s2, hs2⟩ : ∃ k, k = w1.heap.size := ⟨_, rfl⟩
  have K2 := hid (C2.out w1 HE1.out)
  rw [← hs2] at K2
  go_wp2_with fail
  rw [← hs2]
  refine K2.out.mono ?_
  rintro e w2 ⟨rfl, E2⟩
  have HE2 := hid E2; have Hs2 := hid hs2
  clear E2 hs2
  obtain ⟨s3, hs3⟩ : ∃ k, k = w2.heap.size := ⟨_, rfl⟩
  have K3 := hid (C3.out _ w2 HE2.out)
  rw [← hs3] at K3
  go_wp2_with fail
  rw [← hs3]
  refine K3.out.mono ?_
  rintro e w3 ⟨rfl, E3⟩
  have HE3 := hid E3; have Hs3 := hid hs3
  clear E3 hs3
  obtain ⟨s4, hs4⟩ : ∃ k, k = w3.heap.size := ⟨_, rfl⟩
  have E4 := HE3.out.new3
  rw [← hs4] at E4
  obtain ⟨w4, hw4⟩ : ∃ w4, w4 = (((w3.alloc (.cells #[.bool false, .slice none 0 0] 103)).alloc (.cells #[.bool false, .slice none 0 0] 103)).alloc (.cells #[.bool false, .slice none 0 0] 103)) := ⟨_, rfl⟩
  have o1 : h0 < s2 := by rw [Hs2.out]; exact HE1.out.lt (updG_eq _ _ _ _)
  have o2 : s2 < s3 := by rw [Hs3.out]; exact HE2.out.lt (updG_eq _ _ _ _)
  have o3 : s3 < s4 := by rw [hs4]; exact HE3.out.lt (updG_eq _ _ _ _)
  rw [← hw4] at E4
  have HST := hid (Lg.start (h0 := h0) (V0 := V) E4 (by rw [updG_ne _ _ _ (show h0 ≠ s3 by omega), updG_ne _ _ _ (show h0 ≠ s2 by omega), updG_eq]) (by rw [updG_ne _ _ _ (show s2 ≠ s3 by omega), updG_eq]) (updG_eq _ _ _ _) (Nat.le_refl _) o1 o2 o3 (fun k hk => by rw [updG_ne _ _ _ (by omega), updG_ne _ _ _ (by omega), updG_ne _ _ _ (by omega)]) Ha0.out Hb0.out Hal.out Hbl.out)
  have HO := hid (show h0 < s2 ∧ s2 < s3 ∧ s3 < s4 from ⟨o1, o2, o3⟩)
  clear o1 o2 o3
  go_upto_region 10 with fail
  rw [← hs4, ← hw4]
  have HS4 := hid hs4
  clear hs4 hw4
  have vA : (updG (updG (updG (updG (updG (updG V h0 103 (sv (a.natAbs : Int))) s2 103 (sv (b.natAbs : Int))) s3 103 (sv 1)) s4 103 (sv 0)) (s4 + 1) 103 (sv 0)) (s4 + 2) 103 (sv 0)) h0 = some (103, sv (a.natAbs : Int)) := by
    have := HO.out
    rw [updG_ne _ _ _ (by omega), updG_ne _ _ _ (by omega), updG_ne _ _ _ (by omega), updG_ne _ _ _ (by omega), updG_ne _ _ _ (by omega), updG_eq]
  have vB : (updG (updG (updG (updG (updG (updG V h0 103 (sv (a.natAbs : Int))) s2 103 (sv (b.natAbs : Int))) s3 103 (sv 1)) s4 103 (sv 0)) (s4 + 1) 103 (sv 0)) (s4 + 2) 103 (sv 0)) s2 = some (103, sv (b.natAbs : Int)) := by
    have := HO.out
    rw [updG_ne _ _ _ (by omega), updG_ne _ _ _ (by omega), updG_ne _ _ _ (by omega), updG_ne _ _ _ (by omega), updG_eq]
  obtain ⟨_, _, _, _, a1, _, _, hla, hra⟩ := E4.cells vA
  obtain ⟨_, _, _, _, b1, _, _, hlb, hrb⟩ := E4.cells vB
  have HCMP := hid (cmp_any _ _ _ _ _ _ _ _ w4.drew (hra.drew) (hrb.drew))
  rw [show (sv (a.natAbs : Int)).2 = a.natAbs from Int.natAbs_natCast _, show (sv (b.natAbs : Int)).2 = b.natAbs from Int.natAbs_natCast _] at HCMP
  clear vA vB hra hrb hla hlb E4
  obtain ⟨c, hc⟩ : ∃ c, c = cmpI a.natAbs b.natAbs := ⟨_, rfl⟩
  have hcab : c < 0 ↔ a.natAbs < b.natAbs := by
    rw [hc]; unfold cmpI
    split
    · omega
    · split <;> omega
  rw [← hc] at HCMP
  have HCAB := hid hcab
  clear hc hcab
  go_still_tail 8, (by kernel_rfl)
  go_wp2_with fail
  refine HCMP.out.mono ?_
  rintro e w5 ⟨rfl, k, rfl⟩
  have HK5 := hid (show Keeps (fun _ => False) w4 (w4.drewN (1 + k)) from (Keeps.refl _ w4).drewN (1 + k))
  go_upto_if 60 with fail
  go_cut [11, 12, 13, 14] from 51 to 65 (fun x11 x12 x13 x14 wx => LgLoop S w0 h0 V (a.natAbs : Int) (b.natAbs : Int) (s4 + 1) x11 x12 x13 x14 (.pointer (some ⟨s4 + 2, 0, none⟩)) wx)
  case first =>
    by_cases hab : a.natAbs < b.natAbs
    · rw [decide_eq_true (HCAB.out.mpr hab)]
      have HL := hid (HST.out.2 hab)
      clear hab
      go_wp2_with fail
      go_meet
      case rel => exact ⟨_, _, _, _, _, _, _, _, _, rfl, rfl, rfl, rfl, rfl, HL.out.keep HK5.out⟩
    · rw [decide_eq_false (fun h => hab (HCAB.out.mp h))]
      have HL := hid (HST.out.1 (by omega))
      clear hab
      go_wp2_with fail
      go_meet
      case rel => exact ⟨_, _, _, _, _, _, _, _, _, rfl, rfl, rfl, rfl, rfl, HL.out.keep HK5.out⟩
  case rest =>
    have HREL := hid hcut
    clear hcut a1 b1 HCMP HST C1 C2 C3 K2 K3
    go_wp2_with fail
    go_loopw [11, 12, 13, 14, 17, 18, 19, 20, 21, 22] (fun x11 x12 x13 x14 x17 _ _ _ _ _ wr => LgLoop S w0 h0 V (a.natAbs : Int) (b.natAbs : Int) (s4 + 1) x11 x12 x13 x14 x17 wr) (fun _ x12 _ _ _ _ _ _ _ _ wr => Go.Proofs.absAt wr x12)
    case atStart => exact HREL.out
    case round =>
      obtain ⟨pA, pB, pU, pX, pr, A, B, U, X, rfl, rfl, rfl, rfl, rfl, hL⟩ := hrel
      obtain ⟨aA, lA, cA, cA1, hlA, _⟩ := hL.cellA
      obtain ⟨aB, lB, cB, cB1, hlB, _⟩ := hL.cellB
      have HL := hid hL; have HlA := hid hlA; have HlB := hid hlB
      clear hL hlA hlB
      by_cases hW : W64 ≤ B.natAbs
      · have t1 : decide ((1 : Int) < (lB : Int)) = true := by
          have := (words_gt1 B.natAbs).mpr hW
          rw [← HlB.out] at this
          simp; omega
        have hBpos : 0 < B := by have := HL.out.gc.ba; have : 0 < W64 := W64_pos; omega
        have HSIM := hid (HL.out.sim hW)
        have HBP := hid hBpos
        clear hW hBpos
        go_wp2_with fail
        refine HSIM.out.mono ?_
        rintro e w5 ⟨u0, u1, v0, v1, ev, rfl, g1, g2, g3, g4, hso, hk⟩
        have HL5 := hid (HL.out.keep hk)
        have HSO := hid hso
        clear hk hso HSIM cA1 cB1 t1
        by_cases hv : v0 = 0
        · subst hv
          have HEU := hid (HL5.out.eu HBP.out HG0.out HSG.out)
          clear g1 g2 g3 g4
          go_wp2_with fail
          refine HEU.out.mono ?_
          rintro e w6 ⟨rfl, hL6⟩
          have HL6 := hid hL6
          clear hL6 HEU
          go_wp2_with fail
          refine ⟨⟨_, _, _, _, _, _, _, _, _, rfl, rfl, rfl, rfl, rfl, HL6.out⟩, ?_⟩
          rw [HL6.out.absB, HL.out.absB]
          have h1 := Int.emod_lt_of_pos A HBP.out
          have h2 := Int.emod_nonneg A (show B ≠ 0 by have := HBP.out; omega)
          omega
        · have t2 : ((v0 : Int) == 0) = false := by simp; omega
          have HUP := hid (HL5.out.up HSO.out hv g1 g2 g3 g4)
          have HNX := hid (HSO.out.next hv)
          clear g1 g2 g3 g4 hv
          go_wp2_with fail
          refine HUP.out.mono ?_
          rintro e w6 ⟨rfl, h2⟩
          have H2 := hid h2
          clear h2 HUP
          go_wp2_with fail
          refine H2.out.mono ?_
          rintro e w7 ⟨rfl, hL7⟩
          have HL7 := hid hL7
          clear hL7 H2
          go_wp2_with fail
          refine ⟨⟨_, _, _, _, _, _, _, _, _, rfl, rfl, rfl, rfl, rfl, HL7.out⟩, ?_⟩
          rw [HL7.out.absB, HL.out.absB]
          obtain ⟨n1, n2, n3, _⟩ := HNX.out
          omega
      · have t1 : decide ((1 : Int) < (lB : Int)) = false := by
          have : ¬ 1 < lB := by rw [HlB.out]; intro h; exact hW ((words_gt1 _).mp h)
          simp; omega
        have HW := hid (show B.natAbs < W64 by omega)
        clear hW
        go_upto_if 122 with fail
        go_cut [11, 12, 13, 14, 17, 23, 24, 25, 26, 27, 28, 29, 30, 31] from 117 to 213 (fun x11 _ x13 _ _ _ _ _ _ _ _ _ _ _ wx => LgEnd S w0 h0 V (a.natAbs : Int) (b.natAbs : Int) x11 x13 wx)
        case first =>
          by_cases hB0 : B = 0
          · subst hB0
            have t2 : decide (0 < lB) = false := by
              have : lB = 0 := by rw [HlB.out]; exact (words_len_zero _).mpr rfl
              simp; omega
            rw [t2]
            clear t1 t2
            go_wp2_with fail
            go_meet
            case rel => exact HL.out.fin
          · have t2 : decide (0 < lB) = true := by
              have : 0 < lB := by rw [HlB.out]; exact (words_gt0 _).mpr (by omega)
              simp; omega
            have HB0 := hid hB0
            rw [t2]
            clear t1 t2 hB0
            go_upto_if 128 with fail
            go_cut [11, 12, 13, 14, 17] from 123 to 143 (fun x11 x12 x13 x14 x17 wx => ∃ pA pB pU pX pr A B U X, x11 = .pointer (some ⟨pA, 0, none⟩) ∧ x12 = .pointer (some ⟨pB, 0, none⟩) ∧ x13 = .pointer (some ⟨pU, 0, none⟩) ∧ x14 = .pointer (some ⟨pX, 0, none⟩) ∧ x17 = .pointer (some ⟨pr, 0, none⟩) ∧ Lg S w0 h0 V (a.natAbs : Int) (b.natAbs : Int) pA pB pU pX (s4 + 1) pr A B U X wx ∧ A.natAbs < W64)
            case first =>
              by_cases hAW : W64 ≤ A.natAbs
              · have t3 : decide ((1 : Int) < (lA : Int)) = true := by
                  have := (words_gt1 A.natAbs).mpr hAW
                  rw [← HlA.out] at this
                  simp; omega
                have HEU := hid (HL.out.eu (by have := HL.out.gc.ba; have := HB0.out; omega) HG0.out HSG.out)
                rw [t3]
                clear hAW t3
                go_wp2_with fail
                refine HEU.out.mono ?_
                rintro e w6 ⟨rfl, hL6⟩
                have HL6 := hid hL6
                clear hL6 HEU
                go_wp2_with fail
                go_meet
                case rel => exact ⟨_, _, _, _, _, _, _, _, _, rfl, rfl, rfl, rfl, rfl, HL6.out, HW.out⟩
              · have t3 : decide ((1 : Int) < (lA : Int)) = false := by
                  have : ¬ 1 < lA := by rw [HlA.out]; intro h; exact hAW ((words_gt1 _).mp h)
                  simp; omega
                have HAW := hid (show A.natAbs < W64 by omega)
                rw [t3]
                clear hAW t3
                go_wp2_with fail
                go_meet
                case rel => exact ⟨_, _, _, _, _, _, _, _, _, rfl, rfl, rfl, rfl, rfl, HL.out, HAW.out⟩
            case rest =>
              clear cA1 cB1 HL HlA HlB HW HB0
              obtain ⟨pA, pB, pU, pX, pr, A, B, U, X, rfl, rfl, rfl, rfl, rfl, hL, hAW⟩ := hcut
              obtain ⟨aB, lB, cB, cB1, hlB, _⟩ := hL.cellB
              have HL := hid hL; have HlB := hid hlB; have HAW := hid hAW
              clear hL hlB hAW
              by_cases hB0 : B = 0
              · subst hB0
                have hlB : lB = 0 := by rw [HlB.out]; exact (words_len_zero _).mpr rfl
                subst hlB
                go_wp2_with fail
                go_meet
                case rel => exact HL.out.fin
              · have hBA := HL.out.gc.ba
                have hBW : B.natAbs < W64 := by have := HAW.out; omega
                obtain ⟨kA, oA, dA, a1, a2⟩ := HL.out.wordA HAW.out
                obtain ⟨kB, oB, dB, b1, b2⟩ := HL.out.wordB hBW hB0
                have HEU0 := hid (Eu.start (a0 := A.natAbs) (b0 := B.natAbs) (by omega) (by omega))
                obtain ⟨M, hM⟩ : ∃ M, M = A.natAbs := ⟨_, rfl⟩
                obtain ⟨N, hN⟩ : ∃ N, N = B.natAbs := ⟨_, rfl⟩
                rw [← hM] at a2
                rw [← hN] at b2
                rw [← hM, ← hN] at HEU0
                have HM := hid hM; have HN := hid hN; have HBW := hid hBW
                clear hBA hBW hB0 hM hN cB1
                obtain ⟨wk, hwk⟩ : ∃ wk : World, wk = wc := ⟨_, rfl⟩
                go_wp2_with fail
                go_quiet (fail)
                go_wp2_with fail
                go_loopw [23, 24, 25, 26, 27, 28, 29, 30, 31] (fun x23 x24 x25 x26 x27 x28 x29 _ _ wr => EuRel M N wc x23 x24 x25 x26 x27 x28 x29 wr) (fun _ x24 _ _ _ _ _ _ _ _ => (intOf x24).toNat)
                case atStart => exact ⟨M, N, 1, 0, 0, 1, false, rfl, rfl, rfl, rfl, rfl, rfl, rfl, HEU0.out, by rw [HM.out]; exact HAW.out, by rw [HN.out]; exact HBW.out, (Keeps.refl _ wc).drewN _⟩
                case round =>
                  obtain ⟨w1, w2, u1, u2, v1, v2, ev, rfl, rfl, rfl, rfl, rfl, rfl, rfl, he, hw1, hw2, hk⟩ := hrel
                  have HK := hid hk
                  clear hk
                  by_cases h0 : w2 = 0
                  · subst h0
                    have HLr := hid (HL.out.keep HK.out)
                    have he' := he
                    rw [HM.out, HN.out] at he'
                    have HLA := hid (HLr.out.last HAW.out HBW.out he')
                    clear he he' a1 a2 b1 b2
                    go_wp2_with fail
                    refine HLA.out.mono ?_
                    rintro e w5 ⟨rfl, h2⟩
                    have H2 := hid h2
                    clear h2 HLA
                    go_wp2_with fail
                    refine H2.out.mono ?_
                    rintro e w6 ⟨rfl, h2⟩
                    have H3 := hid h2
                    clear h2 H2
                    go_wp2_with fail
                    refine H3.out.mono ?_
                    rintro e w7 ⟨rfl, k, o, c, k1, k2, k3, hend⟩
                    have HEND := hid hend
                    clear hend H3
                    go_wp2_with fail
                    go_meet
                    case rel => exact HEND.out
                  · have hpos : 0 < w2 := by omega
                    have HEN := hid (he.step hpos)
                    have hbn := (he.step hpos).bounds
                    have hM64 : M < W64 := by rw [HM.out]; exact HAW.out
                    have hN64 : N < W64 := by rw [HN.out]; exact HBW.out
                    obtain ⟨q, hq⟩ : ∃ q, q = w1 / w2 := ⟨_, rfl⟩
                    obtain ⟨r, hr⟩ : ∃ r, r = w1 % w2 := ⟨_, rfl⟩
                    obtain ⟨qu, hqu⟩ : ∃ x, x = q * u2 := ⟨_, rfl⟩
                    obtain ⟨qv, hqv⟩ : ∃ x, x = q * v2 := ⟨_, rfl⟩
                    obtain ⟨nu, hnu⟩ : ∃ x, x = u1 + qu := ⟨_, rfl⟩
                    obtain ⟨nv, hnv⟩ : ∃ x, x = v1 + qv := ⟨_, rfl⟩
                    rw [← hq, ← hqu, ← hqv, ← hnu, ← hnv] at hbn
                    rw [← hq, ← hr, ← hqu, ← hqv, ← hnu, ← hnv] at HEN
                    have hrl : r < w2 := by rw [hr]; exact Nat.mod_lt _ hpos
                    have hql : q ≤ w1 := by rw [hq]; exact Nat.div_le_self _ _
                    have z0 : ((w2 : Int) == 0) = false := by simp; omega
                    have e1 : (w1 : Int).tdiv (w2 : Int) = (q : Int) := by rw [hq]; exact (Int.ofNat_tdiv w1 w2).symm
                    have e2 : (w1 : Int).tmod (w2 : Int) = (r : Int) := by rw [hr]; exact (Int.ofNat_tmod w1 w2).symm
                    have e3 : (w1 : Int) / (w2 : Int) = (q : Int) := by rw [hq]; rfl
                    have e4 : (w1 : Int) % (w2 : Int) = (r : Int) := by rw [hr]; rfl
                    have g3 : IntKind.u64.wrap (q : Int) = (q : Int) := u64_wrap _ (by omega)
                    have g4 : IntKind.u64.wrap (r : Int) = (r : Int) := u64_wrap _ (by omega)
                    have g5 : IntKind.u64.wrap ((q : Int) * (u2 : Int)) = (qu : Int) := by rw [← Int.natCast_mul, ← hqu]; exact u64_wrap _ (by omega)
                    have g6 : IntKind.u64.wrap ((q : Int) * (v2 : Int)) = (qv : Int) := by rw [← Int.natCast_mul, ← hqv]; exact u64_wrap _ (by omega)
                    have g7 : IntKind.u64.wrap ((u1 : Int) + (qu : Int)) = (nu : Int) := by rw [← Int.natCast_add, ← hnu]; exact u64_wrap _ (by omega)
                    have g8 : IntKind.u64.wrap ((v1 : Int) + (qv : Int)) = (nv : Int) := by rw [← Int.natCast_add, ← hnv]; exact u64_wrap _ (by omega)
                    have HRW := hid (show r < w2 ∧ w2 < W64 ∧ r < W64 from ⟨hrl, hw2, by omega⟩)
                    clear he hbn hM64 hN64 hq hr hqu hqv hnu hnv hrl hql h0 hw1 hw2 a1 a2 b1 b2
                    go_wp2_with fail
                    go_quiet (fail)
                    go_wp2_with fail
                    refine ⟨⟨w2, r, u2, nu, v2, nv, !ev, rfl, rfl, rfl, rfl, rfl, rfl, (by first | rfl | simp), HEN.out, HRW.out.2.1, HRW.out.2.2, HK.out.drewN nq⟩, by have := HRW.out.1; simp [intOf]; omega⟩
        case rest =>
          clear cA1 cB1 t1 HL HlA HlB HW
          obtain ⟨pA, pU, V1, U, rfl, rfl, hE, vA, vU, hV, gA, gU, nAU, hd, hu1, hu2, hgl⟩ := hcut
          have hgcd : Int.gcd (a.natAbs : Int) (b.natAbs : Int) = Int.gcd a b := rfl
          rw [hgcd] at vA hd hgl
          have l200 := H200.out
          have lz : pz < h0 := by rw [Hh0.out]; exact HE.out.lt Hz.out
          have lx : px < h0 := by rw [Hh0.out]; exact HE.out.lt Hx.out
          have la : pa < h0 := by rw [Hh0.out]; exact Hla.out
          have a0 := (hE.sign ((hV pa la).trans Ha.out)).1
          have hbl := Hbl.out
          have C1 := hid (hE.set160 ((hV px lx).trans Hx.out) vU (by omega) (show U.natAbs < W64 ^ 200 by omega))
          obtain ⟨V2, hV2⟩ : ∃ V2, V2 = updG V1 px tx (sv U) := ⟨_, rfl⟩
          rw [← hV2] at C1
          have v2x : V2 px = some (tx, sv U) := by rw [hV2, updG_eq]
          have v2k : ∀ k, k ≠ px → V2 k = V1 k := fun k hk => by rw [hV2, updG_ne _ _ _ hk]
          have C2 : Hid (∀ w5 s, EnvG S w0 w5 (updG V2 px tx (s, U.natAbs)) → Calls Tryz.prog 160 #[.pointer (some ⟨pz, 0, none⟩), .pointer (some ⟨pA, 0, none⟩)] w5 fun e w' => e = .returned (.pointer (some ⟨pz, 0, none⟩)) ∧ EnvG S w0 w' (updG (updG V2 px tx (s, U.natAbs)) pz tz (sv (Int.gcd a b : Int)))) :=
            hid (fun w5 s h5 => h5.set160 (by rw [updG_ne _ _ _ Hzx.out, v2k _ Hzx.out]; exact (hV pz lz).trans Hz.out) (by rw [updG_ne _ _ _ (by omega), v2k _ (by omega)]; exact vA) (by omega) (by rw [Int.natAbs_natCast]; omega))
          have Fin : Hid (∀ w' s, s = ((sv U).1 != decide (a < 0)) → EnvG S w0 w' (updG (updG V2 px tx (s, U.natAbs)) pz tz (sv (Int.gcd a b : Int))) → LgRes S w0 w.heap.size V a b pz px tz tx w') := hid (fun w' s hs h' =>
            ⟨_, U, h', updG_eq _ _ _ _, by rw [updG_ne _ _ _ (Ne.symm Hzx.out), updG_eq, hs], fun k k1 k2 k3 => by rw [updG_ne _ _ _ k2, updG_ne _ _ _ k3, v2k _ k3]; exact hV k (by rw [Hh0.out]; exact k1), hd, hu1, hu2, hgl⟩)
          obtain ⟨sU, hsU⟩ : ∃ s, s = (sv U).1 := ⟨_, rfl⟩
          have HS2 : Hid (∀ w5, EnvG S w0 w5 V2 → w5.cell? ⟨px, 0, none⟩ = some (.bool sU) ∧ w5.frozen? ⟨px, 0, none⟩ = false ∧ EnvG S w0 (w5.setCell ⟨px, 0, none⟩ (.bool (!sU))) (updG V2 px tx (!sU, U.natAbs)) ∧ EnvG S w0 w5 (updG V2 px tx (sU, U.natAbs))) := hid (fun w5 h5 => by
            obtain ⟨c1, c2⟩ := h5.sign v2x
            rw [hsU]
            refine ⟨c1, c2, h5.setSign v2x _, h5.mono (fun p t z hp => ?_)⟩
            by_cases hpx : p = px
            · subst hpx
              rw [updG_eq] at hp
              rw [v2x]
              exact hp
            · rwa [updG_ne _ _ _ hpx] at hp)
          rw [← hsU] at Fin
          clear hE vA vU hV gA gU nAU hd hu1 hu2 hgl l200 lz lx la hbl hV2 v2x v2k hsU hgcd
          by_cases han : a < 0
          · rw [show (sv a).1 = true from decide_eq_true han] at a0
            have HF := hid (fun w' h => Fin.out w' (!sU) (by rw [decide_eq_true han]; cases sU <;> rfl) h)
            clear han Fin
            go_wp2_with fail
            refine C1.out.mono ?_
            rintro e w5 ⟨rfl, E5⟩
            obtain ⟨c1, c2, c3, _⟩ := HS2.out w5 E5
            have K3 := hid (C2.out _ _ c3)
            clear E5 c3 C1 C2
            go_wp2_with fail
            refine K3.out.mono ?_
            rintro e w6 ⟨rfl, E6⟩
            have HE6 := hid E6
            clear E6 K3
            go_wp2_with fail
            go_ret
            exact ⟨rfl, by rw [Hh0.out]; exact HF.out _ HE6.out⟩
          · rw [show (sv a).1 = false from decide_eq_false han] at a0
            have HF := hid (fun w' h => Fin.out w' sU (by rw [decide_eq_false han]; cases sU <;> rfl) h)
            clear han Fin
            go_wp2_with fail
            refine C1.out.mono ?_
            rintro e w5 ⟨rfl, E5⟩
            obtain ⟨_, _, _, c4⟩ := HS2.out w5 E5
            have K3 := hid (C2.out _ _ c4)
            clear E5 c4 C1 C2
            go_wp2_with fail
            refine K3.out.mono ?_
            rintro e w6 ⟨rfl, E6⟩
            have HE6 := hid E6
            clear E6 K3
            go_wp2_with fail
            go_ret
            exact ⟨rfl, by rw [Hh0.out]; exact HF.out _ HE6.out⟩
end Go.Proofs
namespace Go.Proofs
open Go.RowKit
set_option maxHeartbeats 1000000
set_option linter.unusedVariables false
set_option linter.unusedSimpArgs false
set_option maxRecDepth 100000

/-- GCD with the first factor alone, b not nought. -/
theorem EnvG.gcd156 {S : Nat → Prop} {w0 w : World} {V : Nat → Option (TypeId × SV)} (h : EnvG S w0 w V) {pz px pa pb : Nat} {tz tx ta tb : TypeId} {z x : Int} {a b : Int} (hz : V pz = some (tz, sv z)) (hx : V px = some (tx, sv x)) (ha : V pa = some (ta, sv a)) (hb : V pb = some (tb, sv b))
    (hzx : pz ≠ px) (hzb : pz ≠ pb) (G0 : Glob w0) (hSG : ∀ k, GB k → ¬ S k) (hb0 : b ≠ 0) (hal : a.natAbs < W64 ^ 11) (hbl : b.natAbs < W64 ^ 11) :
    Calls Tryz.prog 156 #[.pointer (some ⟨pz, 0, none⟩), .pointer (some ⟨px, 0, none⟩), .pointer none, .pointer (some ⟨pa, 0, none⟩), .pointer (some ⟨pb, 0, none⟩)] w fun e w' =>
      e = .returned (.pointer (some ⟨pz, 0, none⟩)) ∧ LgRes S w0 w.heap.size V a b pz px tz tx w' := by
  obtain ⟨aa, la, ca, a0, a1, _, _, hla, hra⟩ := h.cells ha
  obtain ⟨ab, lb, cb, b0, b1, _, _, hlb, hrb⟩ := h.cells hb
  have hlb0 : 0 < lb := by rw [hlb]; exact words_length_pos (by show b.natAbs ≠ 0; omega)
  have Hla := hid hla; have Hlb := hid hlb
  have l200 : W64 ^ 11 ≤ W64 ^ 200 := Nat.pow_le_pow_right (by unfold W64; omega) (by omega)
  clear hra hrb hla hlb
  by_cases ha0 : a = 0
  · subst ha0
    have hla : la = 0 := by rw [Hla.out]; exact (words_len_zero _).mpr rfl
    subst hla
    have C1 := hid (fun k => (h.drewN k).set160 hz hb hzb (Nat.lt_of_lt_of_le hbl l200))
    obtain ⟨V1, hV1⟩ : ∃ V1, V1 = updG (updG V pz tz (sv b)) pz tz (false, b.natAbs) := ⟨_, rfl⟩
    have HC2 : Hid (∀ w1, EnvG S w0 w1 (updG V pz tz (sv b)) → w1.cell? ⟨pz, 0, none⟩ = some (.bool (sv b).1) ∧ w1.frozen? ⟨pz, 0, none⟩ = false ∧ EnvG S w0 (w1.setCell ⟨pz, 0, none⟩ (.bool false)) V1) := hid (fun w1 h1 => by
      obtain ⟨c0, c2⟩ := h1.sign (updG_eq _ _ _ _)
      exact ⟨c0, c2, by rw [hV1]; exact h1.setSign (updG_eq _ _ _ _) false⟩)
    have C3 : Hid (∀ w1, EnvG S w0 w1 V1 → Calls Tryz.prog 162 #[.pointer (some ⟨px, 0, none⟩), .int .u64 0] w1 fun e w' => e = .returned (.pointer (some ⟨px, 0, none⟩)) ∧ EnvG S w0 w' (updG V1 px tx (sv 0))) := hid (fun w1 h1 =>
      h1.setUint64_162 (z := x) (by rw [hV1, updG_ne _ _ _ (Ne.symm hzx), updG_ne _ _ _ (Ne.symm hzx)]; exact hx) 0 (by unfold W64; omega))
    have hg : Int.gcd 0 b = b.natAbs := Int.gcd_zero_left ..
    have Fin : Hid (∀ w', EnvG S w0 w' (updG V1 px tx (sv 0)) → LgRes S w0 w.heap.size V 0 b pz px tz tx w') := hid (fun w' h' =>
      ⟨_, 0, h', by
        rw [updG_ne _ _ _ hzx, hV1, updG_eq, hg]
        have : (sv (b.natAbs : Int)) = (false, b.natAbs) := by unfold sv; rw [decide_eq_false (by omega), Int.natAbs_natCast]
        rw [this], by rw [updG_eq]; rfl, fun k k1 k2 k3 => by rw [updG_ne _ _ _ k3, hV1, updG_ne _ _ _ k2, updG_ne _ _ _ k2], by rw [hg, Int.zero_mul, Int.zero_sub]; exact Int.dvd_neg.mpr (Int.dvd_refl _), by omega, by omega, by rw [hg]; exact hbl⟩)
    have HE := hid h
    clear h hz hx ha hb hzx hzb G0 hSG hb0 hal hbl l200 hV1 hg
    go_enter Tryz.func156, Tryz.ntmps156
    go_wp2_with fail
    go_quiet (fail)
    go_wp2_with fail
    refine (C1.out _).mono ?_
    rintro e w1 ⟨rfl, E1⟩
    obtain ⟨c0, c1, c2⟩ := HC2.out w1 E1
    have HE2 := hid c2
    clear E1 c2
    go_wp2_with fail
    refine (C3.out _ HE2.out).mono ?_
    rintro e w2 ⟨rfl, E2⟩
    have HE3 := hid E2
    clear E2
    go_wp2_with fail
    go_ret
    exact ⟨rfl, Fin.out _ HE3.out⟩
  · have hla0 : 0 < la := by rw [Hla.out]; exact words_length_pos (by show a.natAbs ≠ 0; omega)
    have t1 : ((la : Int) == 0) = false := by simp; omega
    have t2 : ((lb : Int) == 0) = false := by simp; omega
    have C := hid (h.lehmer207_none hz hx ha hb hzx G0 hSG ha0 hb0 hal hbl)
    clear h hz hx ha hb hzx hzb G0 hSG hb0 hal hbl l200
    go_enter Tryz.func156, Tryz.ntmps156
    go_wp2_with fail
    refine C.out.mono ?_
    rintro e w1 ⟨rfl, hr⟩
    have HR := hid hr
    clear hr
    go_wp2_with fail
    go_ret
    exact ⟨rfl, HR.out⟩
end Go.Proofs
namespace Go.Proofs
open Go.RowKit
set_option maxHeartbeats 1000000
set_option linter.unusedVariables false
set_option linter.unusedSimpArgs false
set_option maxRecDepth 100000

/-- Int.Mod into a number of its own. -/
theorem EnvG.mod151 {S : Nat → Prop} {w0 w : World} {V : Nat → Option (TypeId × SV)} (h : EnvG S w0 w V) {pz px py : Nat} {tz tx ty : TypeId} {z x y : Int} (hz : V pz = some (tz, sv z)) (hx : V px = some (tx, sv x)) (hy : V py = some (ty, sv y))
    (d1 : pz ≠ px) (d2 : pz ≠ py) (G0 : Glob w0) (hSG : ∀ k, GB k → ¬ S k) (hy0 : y ≠ 0) (h1 : x.natAbs < W64 ^ 38) (h2 : y.natAbs < W64 ^ 38) :
    Calls Tryz.prog 151 #[.pointer (some ⟨pz, 0, none⟩), .pointer (some ⟨px, 0, none⟩), .pointer (some ⟨py, 0, none⟩)] w fun e w' =>
      e = .returned (.pointer (some ⟨pz, 0, none⟩)) ∧ ∃ V', EnvG S w0 w' V' ∧ V' pz = some (tz, sv (dmM x y)) ∧ ∀ k, k < w.heap.size → k ≠ pz → V' k = V k := by
  have hw39 : W64 ^ 38 ≤ W64 ^ 39 := Nat.pow_le_pow_right (by unfold W64; omega) (by omega)
  have hw40 : W64 ^ 38 ≤ W64 ^ 40 := Nat.pow_le_pow_right (by unfold W64; omega) (by omega)
  have lz := h.lt hz; have lx := h.lt hx; have ly := h.lt hy
  obtain ⟨q, hq⟩ : ∃ q, q = w.heap.size := ⟨_, rfl⟩
  have nz : pz ≠ q := by omega
  have nx : px ≠ q := by omega
  have ny : py ≠ q := by omega
  obtain ⟨V1, hV1⟩ : ∃ V1, V1 = updG (updG (updG V q 103 (sv 0)) q 103 (sv (x.tdiv y))) pz tz (sv (x.tmod y)) := ⟨_, rfl⟩
  have v1z : V1 pz = some (tz, sv (x.tmod y)) := by rw [hV1, updG_eq]
  have v1y : V1 py = some (ty, sv y) := by rw [hV1, updG_ne _ _ _ (Ne.symm d2), updG_ne _ _ _ ny, updG_ne _ _ _ ny]; exact hy
  have v1k : ∀ k, k < q → k ≠ pz → V1 k = V k := fun k k1 k2 => by rw [hV1, updG_ne _ _ _ k2, updG_ne _ _ _ (by omega), updG_ne _ _ _ (by omega)]
  have HQR : Hid (∀ k, Calls Tryz.prog 164 #[.pointer (some ⟨q, 0, none⟩), .pointer (some ⟨px, 0, none⟩), .pointer (some ⟨py, 0, none⟩), .pointer (some ⟨pz, 0, none⟩)] ((w.drewN (1 + k)).alloc (.cells #[.bool false, .slice none 0 0] 103)) fun e w' =>
      e = .returned (.tuple #[.pointer (some ⟨q, 0, none⟩), .pointer (some ⟨pz, 0, none⟩)]) ∧ EnvG S w0 w' V1) := hid (fun k => by
    have E1 := (h.drewN (1 + k)).new 103
    rw [show (w.drewN (1 + k)).heap.size = q from hq.symm] at E1
    rw [hV1]
    exact E1.quoRem164 (updG_eq _ _ _ _) ((updG_ne _ _ _ nx).trans hx) ((updG_ne _ _ _ ny).trans hy) ((updG_ne _ _ _ nz).trans hz) (Ne.symm nx) (Ne.symm ny) (Ne.symm nz) d1 d2 (E1.glob G0 hSG) hy0 (Nat.lt_of_lt_of_le h1 hw40) (Nat.lt_of_lt_of_le h2 hw39))
  obtain ⟨az, lz', cz, iz⟩ := h.get hz
  obtain ⟨ay, ly', cy, iy⟩ := h.get hy
  have hap : ∀ k, InB az k → ¬ InB ay k := by
    obtain ⟨hk0, ho, f, g1, g2⟩ := h
    have jz := (g1 pz tz _ hz).2.1; have jy := (g1 py ty _ hy).2.1
    obtain ⟨_, e1, _, _⟩ := iz.same jz
    obtain ⟨_, e2, _, _⟩ := iy.same jy
    rw [e1, e2]
    exact g2 pz py (by rw [hz]; rfl) (by rw [hy]; rfl) d2
  obtain ⟨z1, z2, _, _⟩ := iz.row.facts
  obtain ⟨y1, y2, _, _⟩ := iy.row.facts
  have qE := eql_ptr117_other _ _ _ _ _ _ _ _ _ _ _ _ w.drew ((Keeps.refl (fun _ => False) w).drew.row iz.row (fun h => h)) ((Keeps.refl (fun _ => False) w).drew.row iy.row (fun h => h)) d2
  have qE0 := eql_ptr117_other _ _ _ _ _ _ _ _ _ _ _ _ w iz.row iy.row d2
  have HAL := hid (alias_any az lz' cz _ ay ly' cy _ w.drew iz.rd.drew iy.rd.drew (Al.of_ne hap))
  rw [shares_apart (xl := ly') iz.rd.drew hap] at HAL
  have hr40 : (x.tmod y).natAbs < W64 ^ 40 := by rw [Int.natAbs_tmod]; exact Nat.lt_of_le_of_lt (Nat.mod_le _ _) (Nat.lt_of_lt_of_le h1 hw40)
  have hy40 := Nat.lt_of_lt_of_le h2 hw40
  have HSU : Hid (∀ w1, EnvG S w0 w1 V1 → Calls Tryz.prog 146 #[.pointer (some ⟨pz, 0, none⟩), .pointer (some ⟨pz, 0, none⟩), .pointer (some ⟨py, 0, none⟩)] w1 fun e w' => e = .returned (.pointer (some ⟨pz, 0, none⟩)) ∧ EnvG S w0 w' (updG V1 pz tz (sv (x.tmod y - y)))) := hid (fun w1 h => by
    have := h.sub146 v1z v1z v1y hr40 hy40
    rwa [sgnv_sv, sgnv_sv] at this)
  have HAD : Hid (∀ w1, EnvG S w0 w1 V1 → Calls Tryz.prog 145 #[.pointer (some ⟨pz, 0, none⟩), .pointer (some ⟨pz, 0, none⟩), .pointer (some ⟨py, 0, none⟩)] w1 fun e w' => e = .returned (.pointer (some ⟨pz, 0, none⟩)) ∧ EnvG S w0 w' (updG V1 pz tz (sv (x.tmod y + y)))) := hid (fun w1 h => by
    have := h.add145 v1z v1z v1y hr40 hy40
    rwa [sgnv_sv, sgnv_sv] at this)
  have Fin : Hid (∀ w' r, r = dmM x y → EnvG S w0 w' (updG V1 pz tz (sv r)) → ∃ V', EnvG S w0 w' V' ∧ V' pz = some (tz, sv (dmM x y)) ∧ ∀ k, k < w.heap.size → k ≠ pz → V' k = V k) := hid (fun w' r hr h' =>
    ⟨_, h', by rw [updG_eq, hr], fun k k1 k2 => by rw [updG_ne _ _ _ k2]; exact v1k k (by omega) k2⟩)
  have Fin0 : Hid (∀ w', x.tmod y = dmM x y → EnvG S w0 w' V1 → ∃ V', EnvG S w0 w' V' ∧ V' pz = some (tz, sv (dmM x y)) ∧ ∀ k, k < w.heap.size → k ≠ pz → V' k = V k) := hid (fun w' hr h' =>
    ⟨_, h', by rw [v1z, hr], fun k k1 k2 => v1k k (by omega) k2⟩)
  have HV1z := hid v1z; have HV1y := hid v1y; have HQ := hid hq
  clear h hx hy hz d1 G0 hSG hy0 h1 h2 hw39 hw40 lz lx ly nz nx ny v1k v1z v1y iz iy hap z1 y1 hr40 hy40 hV1
  go_enter Tryz.func151, Tryz.ntmps151
  go_wp2_with fail
  go_still_tail 12, (by kernel_rfl)
  go_wp2_with fail
  refine HAL.out.mono ?_
  rintro e w1 ⟨rfl, k, rfl⟩
  go_wp2_with fail
  rw [← HQ.out]
  refine (HQR.out k).mono ?_
  rintro e w2 ⟨rfl, E2⟩
  have r1 := (E2.sign HV1z.out).1
  have y1 := (E2.sign HV1y.out).1
  have HE2 := hid E2
  clear E2 HQR HAL z2 y2 qE qE0 hq
  by_cases hm : x.tmod y < 0
  · rw [show (sv (x.tmod y)).1 = true from decide_eq_true hm] at r1
    have Hm := hid hm
    clear hm
    by_cases hyn : y < 0
    · rw [show (sv y).1 = true from decide_eq_true hyn] at y1
      have Hyn := hid hyn
      clear hyn
      go_wp2_with fail
      refine (HSU.out w2 HE2.out).mono ?_
      rintro e w3 ⟨rfl, E3⟩
      have HE3 := hid E3
      clear E3
      go_wp2_with fail
      go_ret
      exact ⟨rfl, Fin.out _ _ (by unfold dmM; rw [if_pos Hm.out, if_pos Hyn.out]) HE3.out⟩
    · rw [show (sv y).1 = false from decide_eq_false hyn] at y1
      have Hyn := hid hyn
      clear hyn
      go_wp2_with fail
      refine (HAD.out w2 HE2.out).mono ?_
      rintro e w3 ⟨rfl, E3⟩
      have HE3 := hid E3
      clear E3
      go_wp2_with fail
      go_ret
      exact ⟨rfl, Fin.out _ _ (by unfold dmM; rw [if_pos Hm.out, if_neg (by have := Hyn.out; omega)]) HE3.out⟩
  · rw [show (sv (x.tmod y)).1 = false from decide_eq_false hm] at r1
    have Hm := hid hm
    clear hm
    go_wp2_with fail
    go_ret
    exact ⟨rfl, Fin0.out _ (by unfold dmM; rw [if_neg (by have := Hm.out; omega)]) HE2.out⟩
end Go.Proofs
