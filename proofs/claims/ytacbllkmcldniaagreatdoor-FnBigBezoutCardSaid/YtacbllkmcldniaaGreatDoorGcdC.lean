/- Parts of the proofs over the numbers of any length: NegAbs, LOps, Lg, Lg2, LPre. -/
import Derived.Test.YtacbllkmcldniaaGreatDoorIntA
import Derived.Test.YtacbllkmcldniaaGreatDoorTellA
import Derived.Test.YtacbllkmcldniaaGreatDoorGcdB
set_option linter.unusedSimpArgs false
set_option linter.unusedVariables false
namespace Go.Proofs
open Go.RowKit
set_option maxHeartbeats 1000000
set_option linter.unusedVariables false
set_option linter.unusedSimpArgs false
set_option maxRecDepth 100000

/-- Neg, by what Set does. -/
theorem neg183_of (pz px tz : Nat) (x : Int) (az : Option Addr) (cz : Nat) (w : World)
    (h : Calls Tryz.prog 160 #[.pointer (some ⟨pz, 0, none⟩), .pointer (some ⟨px, 0, none⟩)] w fun e w' => e = .returned (.pointer (some ⟨pz, 0, none⟩)) ∧ IntRes w pz tz az cz x w') :
    Calls Tryz.prog 183 #[.pointer (some ⟨pz, 0, none⟩), .pointer (some ⟨px, 0, none⟩)] w fun e w' => e = .returned (.pointer (some ⟨pz, 0, none⟩)) ∧ IntRes w pz tz az cz (-x) w' := by
  have H := hid h
  clear h
  go_enter Tryz.func183, Tryz.ntmps183
  go_wp2_with fail
  refine H.out.mono ?_
  rintro e w1 ⟨rfl, a, l, c, hI, hin, hk⟩
  obtain ⟨z1, z2, z3, z4⟩ := hI.row.facts
  have hl := hI.rd.length
  have HI := hid hI; have HN := hid hin; have HK := hid hk
  have hwl := words_len_zero x.natAbs
  rcases Int.lt_trichotomy x 0 with hx | hx | hx
  · rw [decide_eq_true hx] at z1
    have t1 : decide (0 < l) = true := by simp; omega
    have t2 : decide ((0 : Int) < (l : Int)) = true := by simp; omega
    have HX := hid hx
    clear hI hin hk hl hwl hx H
    go_wp2_with fail
    go_ret
    exact ⟨rfl, IntRes.sign HI.out.row HI.out.rd HN.out HK.out (by have := HX.out; simp; omega) (by omega)⟩
  · have t1 : decide (0 < l) = false := by simp; omega
    have t2 : decide ((0 : Int) < (l : Int)) = false := by simp; omega
    have HX := hid hx
    clear hI hin hk hl hwl hx H
    go_wp2_with fail
    go_ret
    exact ⟨rfl, IntRes.sign HI.out.row HI.out.rd HN.out HK.out (by have := HX.out; simp; omega) (by omega)⟩
  · rw [decide_eq_false (show ¬ x < 0 by omega)] at z1
    have t1 : decide (0 < l) = true := by simp; omega
    have t2 : decide ((0 : Int) < (l : Int)) = true := by simp; omega
    have HX := hid hx
    clear hI hin hk hl hwl hx H
    go_wp2_with fail
    go_ret
    exact ⟨rfl, IntRes.sign HI.out.row HI.out.rd HN.out HK.out (by have := HX.out; simp; omega) (by omega)⟩

/-- Abs, by what Set does. -/
theorem abs184_of (pz px tz : Nat) (x : Int) (az : Option Addr) (cz : Nat) (w : World)
    (h : Calls Tryz.prog 160 #[.pointer (some ⟨pz, 0, none⟩), .pointer (some ⟨px, 0, none⟩)] w fun e w' => e = .returned (.pointer (some ⟨pz, 0, none⟩)) ∧ IntRes w pz tz az cz x w') :
    Calls Tryz.prog 184 #[.pointer (some ⟨pz, 0, none⟩), .pointer (some ⟨px, 0, none⟩)] w fun e w' => e = .returned (.pointer (some ⟨pz, 0, none⟩)) ∧ IntRes w pz tz az cz (x.natAbs : Int) w' := by
  have H := hid h
  clear h
  go_enter Tryz.func184, Tryz.ntmps184
  go_wp2_with fail
  refine H.out.mono ?_
  rintro e w1 ⟨rfl, a, l, c, hI, hin, hk⟩
  obtain ⟨z1, z2, z3, z4⟩ := hI.row.facts
  have HI := hid hI; have HN := hid hin; have HK := hid hk
  clear hI hin hk H
  go_wp2_with fail
  go_ret
  exact ⟨rfl, IntRes.sign HI.out.row HI.out.rd HN.out HK.out (by simp) (by omega)⟩
end Go.Proofs
namespace Go.Proofs
open Go.RowKit
set_option maxHeartbeats 1000000
set_option linter.unusedVariables false
set_option linter.unusedSimpArgs false
set_option maxRecDepth 100000

theorem EnvG.abs184 {S : Nat → Prop} {w0 w : World} {V : Nat → Option (TypeId × SV)} (h : EnvG S w0 w V) {pz px : Nat} {tz tx : TypeId} {z x : Int} (hz : V pz = some (tz, sv z)) (hx : V px = some (tx, sv x)) (hp : pz ≠ px) (h1 : x.natAbs < W64 ^ 200) :
    Calls Tryz.prog 184 #[.pointer (some ⟨pz, 0, none⟩), .pointer (some ⟨px, 0, none⟩)] w fun e w' => e = .returned (.pointer (some ⟨pz, 0, none⟩)) ∧ EnvG S w0 w' (updG V pz tz (sv (x.natAbs : Int))) :=
  h.op2 hz hx fun az ax lz cz lx cx g1 g2 a1 _ => (abs184_of pz px tz x az cz w (set160_other pz px tz tx z x az ax lz cz lx cx w g1.s g2.s hp (a1 hp) (Nat.le_trans (g2.len h1) (by omega)))).mono (by rintro e w' ⟨rfl, hr⟩; exact ⟨rfl, hr.h⟩)
theorem EnvG.neg183 {S : Nat → Prop} {w0 w : World} {V : Nat → Option (TypeId × SV)} (h : EnvG S w0 w V) {pz px : Nat} {tz tx : TypeId} {z x : Int} (hz : V pz = some (tz, sv z)) (hx : V px = some (tx, sv x)) (hp : pz ≠ px) (h1 : x.natAbs < W64 ^ 200) :
    Calls Tryz.prog 183 #[.pointer (some ⟨pz, 0, none⟩), .pointer (some ⟨px, 0, none⟩)] w fun e w' => e = .returned (.pointer (some ⟨pz, 0, none⟩)) ∧ EnvG S w0 w' (updG V pz tz (sv (-x))) :=
  h.op2 hz hx fun az ax lz cz lx cx g1 g2 a1 _ => (neg183_of pz px tz x az cz w (set160_other pz px tz tx z x az ax lz cz lx cx w g1.s g2.s hp (a1 hp) (Nat.le_trans (g2.len h1) (by omega)))).mono (by rintro e w' ⟨rfl, hr⟩; exact ⟨rfl, hr.h⟩)
theorem EnvG.set160 {S : Nat → Prop} {w0 w : World} {V : Nat → Option (TypeId × SV)} (h : EnvG S w0 w V) {pz px : Nat} {tz tx : TypeId} {z x : Int} (hz : V pz = some (tz, sv z)) (hx : V px = some (tx, sv x)) (hp : pz ≠ px) (h1 : x.natAbs < W64 ^ 200) :
    Calls Tryz.prog 160 #[.pointer (some ⟨pz, 0, none⟩), .pointer (some ⟨px, 0, none⟩)] w fun e w' => e = .returned (.pointer (some ⟨pz, 0, none⟩)) ∧ EnvG S w0 w' (updG V pz tz (sv x)) :=
  h.op2 hz hx fun az ax lz cz lx cx g1 g2 a1 _ => (set160_other pz px tz tx z x az ax lz cz lx cx w g1.s g2.s hp (a1 hp) (Nat.le_trans (g2.len h1) (by omega))).mono (by rintro e w' ⟨rfl, hr⟩; exact ⟨rfl, hr.h⟩)
theorem EnvG.setInt64_163 {S : Nat → Prop} {w0 w : World} {V : Nat → Option (TypeId × SV)} (h : EnvG S w0 w V) {pz : Nat} {tz : TypeId} {z : Int} (hz : V pz = some (tz, sv z)) (x : Int) (h1 : -9223372036854775808 ≤ x) (h2 : x < 9223372036854775808) :
    Calls Tryz.prog 163 #[.pointer (some ⟨pz, 0, none⟩), .int .i64 x] w fun e w' => e = .returned (.pointer (some ⟨pz, 0, none⟩)) ∧ EnvG S w0 w' (updG V pz tz (sv x)) :=
  h.op1 hz fun az lz cz g => (Go.Proofs.setInt64_163 pz tz z az lz cz x w g.s h1 h2).mono (by rintro e w' ⟨rfl, hr⟩; exact ⟨rfl, hr.h⟩)
theorem EnvG.setUint64_162 {S : Nat → Prop} {w0 w : World} {V : Nat → Option (TypeId × SV)} (h : EnvG S w0 w V) {pz : Nat} {tz : TypeId} {z : Int} (hz : V pz = some (tz, sv z)) (x : Nat) (h1 : x < W64) :
    Calls Tryz.prog 162 #[.pointer (some ⟨pz, 0, none⟩), .int .u64 (x : Int)] w fun e w' => e = .returned (.pointer (some ⟨pz, 0, none⟩)) ∧ EnvG S w0 w' (updG V pz tz (sv (x : Int))) :=
  h.op1 hz fun az lz cz g => (Go.Proofs.setUint64_162 pz tz z az lz cz x w g.s h1).mono (by rintro e w' ⟨rfl, hr⟩; exact ⟨rfl, hr.h⟩)

/-- The cells of a number. -/
theorem EnvG.cells {S : Nat → Prop} {w0 w : World} {V : Nat → Option (TypeId × SV)} (h : EnvG S w0 w V) {p : Nat} {t : TypeId} {z : SV} (hp : V p = some (t, z)) :
    ∃ a l c, w.cell? ⟨p, 0, none⟩ = some (.bool z.1) ∧ w.cell? ⟨p, 1, none⟩ = some (.slice a l c) ∧ w.frozen? ⟨p, 0, none⟩ = false ∧ w.frozen? ⟨p, 1, none⟩ = false ∧ l = (words z.2).length ∧ Rd w a l c (words z.2) := by
  obtain ⟨a, l, c, hi⟩ := h.get hp
  obtain ⟨h1, h2, h3, h4⟩ := hi.row.facts
  exact ⟨a, l, c, h1, h2, h3, h4, hi.rd.length.symm, hi.rd⟩
/-- The sign alone is set. -/
theorem EnvG.setSign {S : Nat → Prop} {w0 w : World} {V : Nat → Option (TypeId × SV)} (h : EnvG S w0 w V) {p : Nat} {t : TypeId} {z : SV} (hp : V p = some (t, z)) (s : Bool) : EnvG S w0 (w.setCell ⟨p, 0, none⟩ (.bool s)) (updG V p t (s, z.2)) := by
  obtain ⟨hk0, ho, f, h1, h2⟩ := h
  have hi := (h1 p t z hp).2.1
  exact EnvG.res hk0 ho h1 h2 hp ⟨(f p).1, (f p).2.1, (f p).2.2, IntG.mk (IntRow.set0 hi.row) (hi.rd.set_row hi.row 0 _), Into.refl _ _ _, (Keeps.refl _ w).setCell ⟨p, 0, none⟩ (.inl (.inl rfl)) _⟩
/-- One word is set. -/
theorem Rd.word1 {w : World} {a : Option Addr} {c x v : Nat} (h : Rd w a 1 c [x]) (hv : v < W64) : ∃ b o, a = some ⟨b, o, none⟩ ∧ w.cell? ⟨b, o, none⟩ = some (.int .u64 (x : Int)) ∧ w.frozen? ⟨b, o, none⟩ = false ∧ Rd (w.setCell ⟨b, o, none⟩ (.int .u64 (v : Int))) a 1 c [v] := by
  obtain ⟨b, o, rfl, hs⟩ := h.sg (by omega)
  have hc := hs.cell (i := 0) (by simp)
  have hst := (hs.set (i := 0) (by simp) hv).1
  rw [Nat.add_zero] at hc hst
  rcases h with ⟨h, _⟩ | ⟨b', o', M, h, hb, hw, h1, h2, h3, h4⟩
  · cases h
  · cases h
    have hb' := hb.set o v
    refine ⟨b, o, rfl, by simpa using hc, RowAt.frozen hb o, ?_⟩
    have := hst.rd hb' (by rw [List.length_set]; exact h4) (c := c) (by simpa using h1) (by rw [List.length_set]; exact h2)
    simpa using this
theorem EnvG.setWord {S : Nat → Prop} {w0 w : World} {V : Nat → Option (TypeId × SV)} (h : EnvG S w0 w V) {p : Nat} {t : TypeId} {s : Bool} {N v : Nat} (hp : V p = some (t, (s, N))) (h0 : N ≠ 0) (hN : N < W64) (hv0 : v ≠ 0) (hv : v < W64) :
    ∃ b o c, w.cell? ⟨p, 1, none⟩ = some (.slice (some ⟨b, o, none⟩) 1 c) ∧ w.cell? ⟨b, o, none⟩ = some (.int .u64 (N : Int)) ∧ w.frozen? ⟨b, o, none⟩ = false ∧ EnvG S w0 (w.setCell ⟨b, o, none⟩ (.int .u64 (v : Int))) (updG V p t (s, v)) := by
  obtain ⟨hk0, ho, f, h1, h2⟩ := h
  have hi := (h1 p t _ hp).2.1
  have hw1 : ∀ x : Nat, x ≠ 0 → x < W64 → words x = [x] := fun x hx hxl => by
    rw [words_pos hx, Nat.div_eq_of_lt hxl, words_zero, Nat.mod_eq_of_lt hxl]
  have hrd : Rd w (f p).1 (f p).2.1 (f p).2.2 [N] := by have := hi.rd; rwa [hw1 N h0 hN] at this
  have hl : (f p).2.1 = 1 := by have := hrd.length; simpa using this.symm
  have hrow := hi.row
  rw [hl] at hrd hrow
  obtain ⟨b, o, ha, hc, hf, hr⟩ := hrd.word1 hv
  refine ⟨b, o, (f p).2.2, by rw [← ha]; exact hrow.facts.2.1, hc, hf, EnvG.res hk0 ho h1 h2 hp ⟨(f p).1, 1, (f p).2.2, IntG.mk (RowAt.other hrow (p := ⟨b, o, none⟩) ?_ _) (by rw [hw1 v hv0 hv]; exact hr), Into.refl _ _ _, (Keeps.refl _ w).setCell ⟨b, o, none⟩ (.inl (.inr ⟨o, ha⟩)) _⟩⟩
  rintro rfl
  exact hrd.not_row hrow ⟨o, ha⟩

/-- A number's size, by its address. -/
def HasAbs (w : World) (v : Value) (N : Nat) : Prop := ∃ p t s a l c, v = .pointer (some ⟨p, 0, none⟩) ∧ IntH w p t (s, N) a l c
theorem HasAbs.inj {w : World} {v : Value} {M N : Nat} (h : HasAbs w v M) (k : HasAbs w v N) : M = N := by
  obtain ⟨p, t, s, a, l, c, rfl, hi⟩ := h
  obtain ⟨p', t', s', a', l', c', he, ki⟩ := k
  cases he
  obtain ⟨_, rfl, rfl, rfl⟩ := IntH.same hi ki
  exact words_inj (Rd.inj hi.rd ki.rd)
open Classical in
noncomputable def absAt (w : World) (v : Value) : Nat := if h : ∃ N, HasAbs w v N then h.choose else 0
theorem absAt_of {w : World} {v : Value} {N : Nat} (h : HasAbs w v N) : absAt w v = N := by
  have he : ∃ N, HasAbs w v N := ⟨N, h⟩
  unfold absAt
  rw [dif_pos he]
  exact he.choose_spec.inj h
theorem EnvG.absAt {S : Nat → Prop} {w0 w : World} {V : Nat → Option (TypeId × SV)} (h : EnvG S w0 w V) {p : Nat} {t : TypeId} {z : SV} (hp : V p = some (t, z)) : absAt w (.pointer (some ⟨p, 0, none⟩)) = z.2 := by
  obtain ⟨a, l, c, hi⟩ := h.get hp
  exact absAt_of ⟨p, t, z.1, a, l, c, rfl, hi⟩
theorem words_gt1 (n : Nat) : 1 < (words n).length ↔ W64 ≤ n := by
  constructor
  · intro h
    refine Nat.le_of_not_lt fun hlt => ?_
    have := words_lt (n := n) (k := 1) (by rw [Nat.pow_one]; exact hlt)
    omega
  · intro h
    refine Nat.lt_of_not_le fun hle => ?_
    have h2 := lt_words n
    have h3 : W64 ^ (words n).length ≤ W64 ^ 1 := Nat.pow_le_pow_right (by unfold W64; omega) hle
    rw [Nat.pow_one] at h3
    omega
theorem words_gt0 (n : Nat) : 0 < (words n).length ↔ 0 < n := by
  have := words_len_zero n
  omega
end Go.Proofs
namespace Go.Proofs
open Go.RowKit
set_option maxHeartbeats 1000000
set_option linter.unusedVariables false
set_option linter.unusedSimpArgs false
set_option maxRecDepth 100000

/-- The state of lehmerGCD. -/
structure Lg (S : Nat → Prop) (w0 : World) (h0 : Nat) (V0 : Nat → Option (TypeId × SV)) (a b : Int) (pA pB pU pX pq pr : Nat) (A B U X : Int) (w : World) : Prop where
  six : Six S w0 h0 V0 pA pB pU pX pq pr A B U X w
  ap : Ap6 pA pB pU pX pq pr
  ge : h0 ≤ pA ∧ h0 ≤ pB ∧ h0 ≤ pU ∧ h0 ≤ pX ∧ h0 ≤ pq ∧ h0 ≤ pr
  gc : Gc a b A B U X
  le : A.natAbs < W64 ^ 11
  bl : b.natAbs < W64 ^ 11

theorem w9_11 : W64 ^ 11 ≤ W64 ^ 11 := Nat.pow_le_pow_right (by unfold W64; omega) (by omega)
theorem w9_20 : W64 ^ 11 ≤ W64 ^ 20 := Nat.pow_le_pow_right (by unfold W64; omega) (by omega)
section
variable {S : Nat → Prop} {w0 : World} {h0 : Nat} {V0 : Nat → Option (TypeId × SV)} {a b : Int} {pA pB pU pX pq pr : Nat} {A B U X : Int} {w : World}
theorem Lg.bnd (h : Lg S w0 h0 V0 a b pA pB pU pX pq pr A B U X w) : A.natAbs < W64 ^ 11 ∧ B.natAbs < W64 ^ 11 ∧ U.natAbs < W64 ^ 11 ∧ X.natAbs < W64 ^ 11 := by
  have h1 := h.gc.ba
  have h2 := h.gc.ul
  have h3 := h.gc.ub
  have h4 := h.le
  have h5 := h.bl
  generalize W64 ^ 11 = x at *
  omega
/-- Euclid's step. -/
theorem Lg.eu (h : Lg S w0 h0 V0 a b pA pB pU pX pq pr A B U X w) (hB : 0 < B) (G0 : Glob w0) (hSG : ∀ k, GB k → ¬ S k) :
    Calls Tryz.prog 244 #[.pointer (some ⟨pA, 0, none⟩), .pointer (some ⟨pB, 0, none⟩), .pointer (some ⟨pU, 0, none⟩), .pointer (some ⟨pX, 0, none⟩), .pointer (some ⟨pq, 0, none⟩), .pointer (some ⟨pr, 0, none⟩), .bool true] w fun ev w' =>
      ev = .returned (.tuple #[.pointer (some ⟨pB, 0, none⟩), .pointer (some ⟨pr, 0, none⟩), .pointer (some ⟨pA, 0, none⟩), .pointer (some ⟨pX, 0, none⟩), .pointer (some ⟨pU, 0, none⟩)]) ∧
      Lg S w0 h0 V0 a b pB pr pX pU pq pA B (A % B) X (U - A / B * X) w' := by
  obtain ⟨b1, b2, b3, b4⟩ := h.bnd
  obtain ⟨g1, g2, g3, g4, g5, g6⟩ := h.ge
  have hba := h.gc.ba
  have hl := w9_11
  refine (h.six.euclid h.ap g3 g5 g6 G0 hSG (by omega) hB (Nat.lt_of_lt_of_le b1 hl) (Nat.lt_of_lt_of_le b2 hl) (Nat.lt_of_lt_of_le b3 hl) (Nat.lt_of_lt_of_le b4 hl)).mono ?_
  rintro ev w' ⟨rfl, h'⟩
  exact ⟨rfl, h', h.ap.turn, ⟨g2, g6, g4, g3, g5, g1⟩, h.gc.step hB, b2, h.bl⟩
/-- Lehmer's step. -/
theorem Lg.up (h : Lg S w0 h0 V0 a b pA pB pU pX pq pr A B U X w) {u0 u1 v0 v1 : Nat} {e : Bool} (hs : SimOut A B u0 u1 v0 v1 e) (hv : v0 ≠ 0) (hu0 : u0 < W64) (hu1 : u1 < W64) (hv0 : v0 < W64) (hv1 : v1 < W64) :
    Calls Tryz.prog 243 #[.pointer (some ⟨pA, 0, none⟩), .pointer (some ⟨pB, 0, none⟩), .pointer (some ⟨pq, 0, none⟩), .pointer (some ⟨pr, 0, none⟩), .int .u64 (u0 : Int), .int .u64 (u1 : Int), .int .u64 (v0 : Int), .int .u64 (v1 : Int), .bool e] w fun ev w1 => ev = .returned (.tuple #[]) ∧
      Calls Tryz.prog 243 #[.pointer (some ⟨pU, 0, none⟩), .pointer (some ⟨pX, 0, none⟩), .pointer (some ⟨pq, 0, none⟩), .pointer (some ⟨pr, 0, none⟩), .int .u64 (u0 : Int), .int .u64 (u1 : Int), .int .u64 (v0 : Int), .int .u64 (v1 : Int), .bool e] w1 fun ev w' => ev = .returned (.tuple #[]) ∧
        Lg S w0 h0 V0 a b pA pB pU pX pq pr (rowv (!e) u0 v0 A B) (rowv e u1 v1 A B) (rowv (!e) u0 v0 U X) (rowv e u1 v1 U X) w' := by
  obtain ⟨b1, b2, b3, b4⟩ := h.bnd
  obtain ⟨g1, g2, g3, g4, g5, g6⟩ := h.ge
  have hl := w9_20
  refine (h.six.upd1 h.ap g1 g2 g5 g6 u0 u1 v0 v1 e hu0 hu1 hv0 hv1 (Nat.lt_of_lt_of_le b1 hl) (Nat.lt_of_lt_of_le b2 hl)).mono ?_
  rintro ev w1 ⟨rfl, h1⟩
  refine ⟨rfl, ?_⟩
  refine (h1.upd2 h.ap g3 g4 g5 g6 u0 u1 v0 v1 e hu0 hu1 hv0 hv1 (Nat.lt_of_lt_of_le b3 hl) (Nat.lt_of_lt_of_le b4 hl)).mono ?_
  rintro ev w2 ⟨rfl, h2⟩
  refine ⟨rfl, h2, h.ap, h.ge, h.gc.lehmer hs hv, ?_, h.bl⟩
  obtain ⟨n1, n2, n3, n4⟩ := hs.next hv
  generalize W64 ^ 11 = x at *
  have := h.gc.ba
  omega
theorem Lg.sim (h : Lg S w0 h0 V0 a b pA pB pU pX pq pr A B U X w) (hB : W64 ≤ B.natAbs) : Calls Tryz.prog 242 #[.pointer (some ⟨pA, 0, none⟩), .pointer (some ⟨pB, 0, none⟩)] w (SimRes A B w) := by
  obtain ⟨b1, b2, b3, b4⟩ := h.bnd
  have := h.gc.ba
  exact h.six.sim (by omega) this.2.1 (Nat.lt_of_lt_of_le b1 w9_20)
theorem Lg.keep {w' : World} (h : Lg S w0 h0 V0 a b pA pB pU pX pq pr A B U X w) (hk : Keeps (fun _ => False) w w') : Lg S w0 h0 V0 a b pA pB pU pX pq pr A B U X w' := by
  obtain ⟨⟨V, q, r, hE, hr⟩, h2, h3, h4, h5, h6⟩ := h
  exact ⟨⟨V, q, r, hE.same hk, hr⟩, h2, h3, h4, h5, h6⟩
theorem Lg.cellA (h : Lg S w0 h0 V0 a b pA pB pU pX pq pr A B U X w) : ∃ al l c, w.cell? ⟨pA, 1, none⟩ = some (.slice al l c) ∧ l = (words A.natAbs).length ∧ Rd w al l c (words A.natAbs) := by
  obtain ⟨V, q, r, hE, cA, cB, cU, cX, cq, cr, hV⟩ := h.six
  obtain ⟨al, l, c, h1, h2, h3, h4, h5, h6⟩ := hE.cells cA
  exact ⟨al, l, c, h2, h5, h6⟩
theorem Lg.cellB (h : Lg S w0 h0 V0 a b pA pB pU pX pq pr A B U X w) : ∃ al l c, w.cell? ⟨pB, 1, none⟩ = some (.slice al l c) ∧ l = (words B.natAbs).length ∧ Rd w al l c (words B.natAbs) := by
  obtain ⟨V, q, r, hE, cA, cB, cU, cX, cq, cr, hV⟩ := h.six
  obtain ⟨al, l, c, h1, h2, h3, h4, h5, h6⟩ := hE.cells cB
  exact ⟨al, l, c, h2, h5, h6⟩
theorem Lg.absB (h : Lg S w0 h0 V0 a b pA pB pU pX pq pr A B U X w) : absAt w (.pointer (some ⟨pB, 0, none⟩)) = B.natAbs := by
  obtain ⟨V, q, r, hE, cA, cB, cU, cX, cq, cr, hV⟩ := h.six
  exact hE.absAt cB
end
/-- The loop's variables: A, B, Ua, Ub, r. -/
def LgLoop (S : Nat → Prop) (w0 : World) (h0 : Nat) (V0 : Nat → Option (TypeId × SV)) (a b : Int) (pq : Nat) (x11 x12 x13 x14 x17 : Value) (w : World) : Prop :=
  ∃ pA pB pU pX pr A B U X, x11 = .pointer (some ⟨pA, 0, none⟩) ∧ x12 = .pointer (some ⟨pB, 0, none⟩) ∧ x13 = .pointer (some ⟨pU, 0, none⟩) ∧ x14 = .pointer (some ⟨pX, 0, none⟩) ∧ x17 = .pointer (some ⟨pr, 0, none⟩) ∧ Lg S w0 h0 V0 a b pA pB pU pX pq pr A B U X w
/-- What the loops leave: the divisor and the first factor. -/
def LgEnd (S : Nat → Prop) (w0 : World) (h0 : Nat) (V0 : Nat → Option (TypeId × SV)) (a b : Int) (x11 x13 : Value) (w : World) : Prop :=
  ∃ pA pU V U, x11 = .pointer (some ⟨pA, 0, none⟩) ∧ x13 = .pointer (some ⟨pU, 0, none⟩) ∧ EnvG S w0 w V ∧ V pA = some (103, sv (Int.gcd a b : Int)) ∧ V pU = some (103, sv U) ∧ (∀ k, k < h0 → V k = V0 k) ∧ h0 ≤ pA ∧ h0 ≤ pU ∧ pA ≠ pU ∧ b ∣ U * a - (Int.gcd a b : Int) ∧ -b ≤ U ∧ U ≤ b ∧ (Int.gcd a b) < W64 ^ 11
theorem Lg.fin {S : Nat → Prop} {w0 : World} {h0 : Nat} {V0 : Nat → Option (TypeId × SV)} {a b : Int} {pA pB pU pX pq pr : Nat} {A U X : Int} {w : World} (h : Lg S w0 h0 V0 a b pA pB pU pX pq pr A 0 U X w) :
    LgEnd S w0 h0 V0 a b (.pointer (some ⟨pA, 0, none⟩)) (.pointer (some ⟨pU, 0, none⟩)) w := by
  have hg := h.gc.done
  have hle := h.le
  obtain ⟨V, q, r, hE, cA, cB, cU, cX, cq, cr, hV⟩ := h.six
  obtain ⟨g1, g2, g3, g4, g5, g6⟩ := h.ge
  refine ⟨pA, pU, V, U, rfl, rfl, hE, by rw [← hg]; exact cA, cU, hV, g1, g3, h.ap.h.2.1, by rw [← hg]; exact h.gc.da, h.gc.ul.1, h.gc.ul.2, ?_⟩
  generalize W64 ^ 11 = x at *
  omega
end Go.Proofs
namespace Go.Proofs
open Go.RowKit
set_option maxHeartbeats 1000000
set_option linter.unusedVariables false
set_option linter.unusedSimpArgs false
set_option maxRecDepth 100000

section
variable {S : Nat → Prop} {w0 : World} {h0 : Nat} {V0 : Nat → Option (TypeId × SV)} {a b : Int} {pA pB pU pX pq pr : Nat} {A B U X : Int} {w : World}
theorem Lg.wordA (h : Lg S w0 h0 V0 a b pA pB pU pX pq pr A B U X w) (hA : A.natAbs < W64) : ∃ k o c, w.cell? ⟨pA, 1, none⟩ = some (.slice (some ⟨k, o, none⟩) 1 c) ∧ w.cell? ⟨k, o, none⟩ = some (.int .u64 ((A.natAbs : Nat) : Int)) := by
  have hba := h.gc.ba
  obtain ⟨V, q, r, hE, cA, cB, cU, cX, cq, cr, hV⟩ := h.six
  obtain ⟨k, o, c, h1, h2, h3, h4⟩ := hE.setWord (s := (sv A).1) (N := A.natAbs) (v := 1) cA (by omega) hA (by omega) (by unfold W64; omega)
  exact ⟨k, o, c, h1, h2⟩
theorem Lg.wordB (h : Lg S w0 h0 V0 a b pA pB pU pX pq pr A B U X w) (hB : B.natAbs < W64) (hB0 : B ≠ 0) : ∃ k o c, w.cell? ⟨pB, 1, none⟩ = some (.slice (some ⟨k, o, none⟩) 1 c) ∧ w.cell? ⟨k, o, none⟩ = some (.int .u64 ((B.natAbs : Nat) : Int)) := by
  obtain ⟨V, q, r, hE, cA, cB, cU, cX, cq, cr, hV⟩ := h.six
  obtain ⟨k, o, c, h1, h2, h3, h4⟩ := hE.setWord (s := (sv B).1) (N := B.natAbs) (v := 1) cB (by omega) hB (by omega) (by unfold W64; omega)
  exact ⟨k, o, c, h1, h2⟩
/-- The end, where both numbers are words. -/
theorem Lg.last (h : Lg S w0 h0 V0 a b pA pB pU pX pq pr A B U X w) (hA : A.natAbs < W64) (hB : B.natAbs < W64) {a1 u1 u2 v1 v2 : Nat} {e : Bool} (he : Eu A.natAbs B.natAbs a1 0 u1 u2 v1 v2 e) :
    Calls Tryz.prog 245 #[.pointer (some ⟨pU, 0, none⟩), .pointer (some ⟨pU, 0, none⟩), .bool e, .int .u64 (u1 : Int)] w fun ev w1 => ev = .returned (.tuple #[]) ∧
      Calls Tryz.prog 245 #[.pointer (some ⟨pX, 0, none⟩), .pointer (some ⟨pX, 0, none⟩), .bool (!e), .int .u64 (v1 : Int)] w1 fun ev w2 => ev = .returned (.tuple #[]) ∧
        Calls Tryz.prog 145 #[.pointer (some ⟨pU, 0, none⟩), .pointer (some ⟨pU, 0, none⟩), .pointer (some ⟨pX, 0, none⟩)] w2 fun ev w3 => ev = .returned (.pointer (some ⟨pU, 0, none⟩)) ∧
          ∃ k o c, w3.cell? ⟨pA, 1, none⟩ = some (.slice (some ⟨k, o, none⟩) 1 c) ∧ w3.cell? ⟨k, o, none⟩ = some (.int .u64 ((A.natAbs : Nat) : Int)) ∧ w3.frozen? ⟨k, o, none⟩ = false ∧
            LgEnd S w0 h0 V0 a b (.pointer (some ⟨pA, 0, none⟩)) (.pointer (some ⟨pU, 0, none⟩)) (w3.setCell ⟨k, o, none⟩ (.int .u64 (a1 : Int))) := by
  have hba := h.gc.ba
  obtain ⟨b1, b2, b3, b4⟩ := h.bnd
  obtain ⟨hw1, hw2, hw3, hw4⟩ := h.gc.words (A0 := A.natAbs) (B0 := B.natAbs) (by omega) (by omega) he
  obtain ⟨wl1, wl2⟩ := he.wl
  have hpos := he.pos
  have hle : a1 ≤ A.natAbs := by
    have h1 := he.d1
    have h2 : 1 ≤ v2 := by
      rcases Nat.eq_zero_or_pos v2 with h3 | h3
      · subst h3; rw [Nat.mul_zero, Nat.zero_mul] at h1; omega
      · exact h3
    have h3 : a1 * 1 ≤ a1 * v2 := Nat.mul_le_mul_left _ h2
    rw [Nat.zero_mul] at h1
    omega
  obtain ⟨V, q, r, hE, cA, cB, cU, cX, cq, cr, hV⟩ := h.six
  obtain ⟨g1, g2, g3, g4, g5, g6⟩ := h.ge
  obtain ⟨n1, n2, n3, n4, n5, n6, n7, n8, n9, n10, n11, n12, n13, n14, n15⟩ := h.ap.h
  have hl : W64 ^ 11 ≤ W64 ^ 200 := Nat.pow_le_pow_right (by unfold W64; omega) (by omega)
  have hl2 := w9_20
  have hu1 : u1 < W64 := by omega
  have hv1 : v1 < W64 := by omega
  refine (hE.mulW cU cU e u1 hu1 (Nat.lt_of_lt_of_le b3 hl)).mono ?_
  rintro ev w1 ⟨rfl, h1⟩
  refine ⟨rfl, ?_⟩
  have cX1 : updG V pU 103 ((sv U).1 != e, (sv U).2 * u1) pX = some (103, sv X) := (updG_ne _ _ _ (Ne.symm n10)).trans cX
  refine (h1.mulW cX1 cX1 (!e) v1 hv1 (Nat.lt_of_lt_of_le b4 hl)).mono ?_
  rintro ev w2 ⟨rfl, h2⟩
  refine ⟨rfl, ?_⟩
  obtain ⟨V2, hV2⟩ : ∃ V2, V2 = updG (updG V pU 103 ((sv U).1 != e, (sv U).2 * u1)) pX 103 ((sv X).1 != !e, (sv X).2 * v1) := ⟨_, rfl⟩
  rw [← hV2] at h2
  have cU2 : V2 pU = some (103, ((sv U).1 != e, (sv U).2 * u1)) := by rw [hV2, updG_ne _ _ _ n10, updG_eq]
  have cX2 : V2 pX = some (103, ((sv X).1 != !e, (sv X).2 * v1)) := by rw [hV2, updG_eq]
  have a2 : ∀ k, k ≠ pU → k ≠ pX → V2 k = V k := fun k k1 k2 => by rw [hV2, updG_ne _ _ _ k2, updG_ne _ _ _ k1]
  have es : sgnv ((sv U).1 != e) ((sv U).2 * u1) + sgnv ((sv X).1 != !e) ((sv X).2 * v1) = rowv e u1 v1 U X := by
    rw [sgnv_mulW, sgnv_mulW]; unfold rowv; cases e <;> simp <;> omega
  have m1 : (sv U).2 * u1 < W64 ^ 40 := mulW_lt (z := U.natAbs) (Nat.lt_of_lt_of_le b3 hl2) hu1
  have m2 : (sv X).2 * v1 < W64 ^ 40 := mulW_lt (z := X.natAbs) (Nat.lt_of_lt_of_le b4 hl2) hv1
  refine (h2.add145p cU2 cU2 cX2 es m1 m2).mono ?_
  rintro ev w3 ⟨rfl, h3⟩
  refine ⟨rfl, ?_⟩
  have cA3 : updG V2 pU 103 (sv (rowv e u1 v1 U X)) pA = some (103, ((sv A).1, A.natAbs)) := (updG_ne _ _ _ n2).trans ((a2 _ n2 n3).trans cA)
  obtain ⟨k, o, c, k1, k2, k3, k4⟩ := h3.setWord (v := a1) cA3 (by omega) hA (by omega) (by omega)
  refine ⟨k, o, c, k1, k2, k3, pA, pU, _, rowv e u1 v1 U X, rfl, rfl, k4, ?_, ?_, ?_, g1, g3, n2, ?_, hw3, hw4, ?_⟩
  · rw [updG_eq, ← hw1]
    have : (sv A).1 = (sv ((a1 : Nat) : Int)).1 := by
      unfold sv
      simp only
      rw [decide_eq_false (by omega), decide_eq_false (by omega)]
    rw [this]
    rfl
  · rw [updG_ne _ _ _ (Ne.symm n2), updG_eq]
  · intro k hk
    rw [updG_ne _ _ _ (by omega), updG_ne _ _ _ (by omega), a2 _ (by omega) (by omega)]
    exact hV k hk
  · rw [← hw1]; exact hw2
  · have h5 : (Int.gcd a b) = a1 := by omega
    rw [h5]
    have h6 : W64 ≤ W64 ^ 11 := by
      have := Nat.pow_le_pow_right W64_pos (show 1 ≤ 11 by omega)
      rwa [Nat.pow_one] at this
    omega
end
/-- Euclid's loop upon words. -/
def EuRel (A B : Nat) (w : World) (x23 x24 x25 x26 x27 x28 x29 : Value) (wr : World) : Prop :=
  ∃ (a1 a2 u1 u2 v1 v2 : Nat) (e : Bool), x23 = .int .u64 (a1 : Int) ∧ x24 = .int .u64 (a2 : Int) ∧ x25 = .int .u64 (u1 : Int) ∧ x26 = .int .u64 (u2 : Int) ∧ x27 = .int .u64 (v1 : Int) ∧ x28 = .int .u64 (v2 : Int) ∧ x29 = .bool (!e) ∧ Eu A B a1 a2 u1 u2 v1 v2 e ∧ a1 < W64 ∧ a2 < W64 ∧ Keeps (fun _ => False) w wr
end Go.Proofs
namespace Go.Proofs
open Go.RowKit
set_option maxHeartbeats 1000000
set_option linter.unusedVariables false
set_option linter.unusedSimpArgs false
set_option maxRecDepth 100000

theorem updG_twice (V : Nat → Option (TypeId × SV)) (p : Nat) (t : TypeId) (z z' : SV) : updG (updG V p t z) p t z' = updG V p t z' := by
  funext q
  unfold updG
  split <;> rfl
/-- A number's sign in memory. -/
theorem EnvG.sign {S : Nat → Prop} {w0 w : World} {V : Nat → Option (TypeId × SV)} (h : EnvG S w0 w V) {p : Nat} {t : TypeId} {z : SV} (hp : V p = some (t, z)) : w.cell? ⟨p, 0, none⟩ = some (.bool z.1) ∧ w.frozen? ⟨p, 0, none⟩ = false := by
  obtain ⟨_, _, _, h1, _, h2, _, _, _⟩ := h.cells hp
  exact ⟨h1, h2⟩
theorem sv_zero : sv 0 = (false, 0) := rfl
/-- A new number becomes another one's size. -/
theorem EnvG.newAbs {S : Nat → Prop} {w0 w : World} {V : Nat → Option (TypeId × SV)} (h : EnvG S w0 w V) {px : Nat} {tx : TypeId} {x : Int} (hx : V px = some (tx, sv x)) (h1 : x.natAbs < W64 ^ 200) :
    Calls Tryz.prog 184 #[.pointer (some ⟨w.heap.size, 0, none⟩), .pointer (some ⟨px, 0, none⟩)] (w.alloc (.cells #[.bool false, .slice none 0 0] 103)) fun e w' => e = .returned (.pointer (some ⟨w.heap.size, 0, none⟩)) ∧ EnvG S w0 w' (updG V w.heap.size 103 (sv (x.natAbs : Int))) := by
  have hlt := h.lt hx
  have hne : px ≠ w.heap.size := by omega
  refine ((h.new 103).abs184 (z := 0) (updG_eq _ _ _ _) ((updG_ne _ _ _ hne).trans hx) (Ne.symm hne) h1).mono ?_
  rintro e w' ⟨rfl, h2⟩
  rw [updG_twice] at h2
  exact ⟨rfl, h2⟩
theorem EnvG.newSet {S : Nat → Prop} {w0 w : World} {V : Nat → Option (TypeId × SV)} (h : EnvG S w0 w V) (x : Int) (h1 : -9223372036854775808 ≤ x) (h2 : x < 9223372036854775808) :
    Calls Tryz.prog 163 #[.pointer (some ⟨w.heap.size, 0, none⟩), .int .i64 x] (w.alloc (.cells #[.bool false, .slice none 0 0] 103)) fun e w' => e = .returned (.pointer (some ⟨w.heap.size, 0, none⟩)) ∧ EnvG S w0 w' (updG V w.heap.size 103 (sv x)) := by
  refine ((h.new 103).setInt64_163 (z := 0) (updG_eq _ _ _ _) x h1 h2).mono ?_
  rintro e w' ⟨rfl, h2⟩
  rw [updG_twice] at h2
  exact ⟨rfl, h2⟩
theorem EnvG.new3 {S : Nat → Prop} {w0 w : World} {V : Nat → Option (TypeId × SV)} (h : EnvG S w0 w V) :
    EnvG S w0 (((w.alloc (.cells #[.bool false, .slice none 0 0] 103)).alloc (.cells #[.bool false, .slice none 0 0] 103)).alloc (.cells #[.bool false, .slice none 0 0] 103)) (updG (updG (updG V w.heap.size 103 (sv 0)) (w.heap.size + 1) 103 (sv 0)) (w.heap.size + 2) 103 (sv 0)) := by
  have h3 := ((h.new 103).new 103).new 103
  have e1 : (w.alloc (.cells #[.bool false, .slice none 0 0] 103)).heap.size = w.heap.size + 1 := by simp
  have e2 : ((w.alloc (.cells #[.bool false, .slice none 0 0] 103)).alloc (.cells #[.bool false, .slice none 0 0] 103)).heap.size = w.heap.size + 2 := by simp
  rw [e1, e2] at h3
  exact h3
theorem EnvG.new2 {S : Nat → Prop} {w0 w : World} {V : Nat → Option (TypeId × SV)} (h : EnvG S w0 w V) :
    EnvG S w0 ((w.alloc (.cells #[.bool false, .slice none 0 0] 103)).alloc (.cells #[.bool false, .slice none 0 0] 103)) (updG (updG V w.heap.size 103 (sv 0)) (w.heap.size + 1) 103 (sv 0)) := by
  have h3 := (h.new 103).new 103
  have e1 : (w.alloc (.cells #[.bool false, .slice none 0 0] 103)).heap.size = w.heap.size + 1 := by simp
  rw [e1] at h3
  exact h3
/-- The start of lehmerGCD. -/
theorem Lg.start {S : Nat → Prop} {w0 w4 : World} {h0 : Nat} {V0 V3 : Nat → Option (TypeId × SV)} {a b : Int} {s1 s2 s3 s4 : Nat} (hE : EnvG S w0 w4 (updG (updG (updG V3 s4 103 (sv 0)) (s4 + 1) 103 (sv 0)) (s4 + 2) 103 (sv 0)))
    (hA : V3 s1 = some (103, sv (a.natAbs : Int))) (hB : V3 s2 = some (103, sv (b.natAbs : Int))) (hU : V3 s3 = some (103, sv 1)) (o1 : h0 ≤ s1) (o2 : s1 < s2) (o3 : s2 < s3) (o4 : s3 < s4) (hV : ∀ k, k < h0 → V3 k = V0 k)
    (ha : a ≠ 0) (hb : b ≠ 0) (hal : a.natAbs < W64 ^ 11) (hbl : b.natAbs < W64 ^ 11) :
    (b.natAbs ≤ a.natAbs → Lg S w0 h0 V0 (a.natAbs : Int) (b.natAbs : Int) s1 s2 s3 s4 (s4 + 1) (s4 + 2) (a.natAbs : Int) (b.natAbs : Int) 1 0 w4) ∧
    (a.natAbs < b.natAbs → Lg S w0 h0 V0 (a.natAbs : Int) (b.natAbs : Int) s2 s1 s4 s3 (s4 + 1) (s4 + 2) (b.natAbs : Int) (a.natAbs : Int) 0 1 w4) := by
  obtain ⟨V4, hV4⟩ : ∃ V4, V4 = updG (updG (updG V3 s4 103 (sv 0)) (s4 + 1) 103 (sv 0)) (s4 + 2) 103 (sv 0) := ⟨_, rfl⟩
  rw [← hV4] at hE
  have f : ∀ k, k < s4 → V4 k = V3 k := fun k hk => by rw [hV4, updG_ne _ _ _ (by omega), updG_ne _ _ _ (by omega), updG_ne _ _ _ (by omega)]
  have fX : V4 s4 = some (103, sv 0) := by rw [hV4, updG_ne _ _ _ (by omega), updG_ne _ _ _ (by omega), updG_eq]
  have fq : V4 (s4 + 1) = some (103, sv 0) := by rw [hV4, updG_ne _ _ _ (by omega), updG_eq]
  have fr : V4 (s4 + 2) = some (103, sv 0) := by rw [hV4, updG_eq]
  have fA := (f s1 (by omega)).trans hA
  have fB := (f s2 (by omega)).trans hB
  have fU := (f s3 (by omega)).trans hU
  have f0 : ∀ k, k < h0 → V4 k = V0 k := fun k hk => (f k (by omega)).trans (hV k hk)
  constructor
  · intro hle
    exact ⟨⟨V4, _, _, hE, fA, fB, fU, fX, fq, fr, f0⟩, ⟨⟨by omega, by omega, by omega, by omega, by omega, by omega, by omega, by omega, by omega, by omega, by omega, by omega, by omega, by omega, by omega⟩⟩, ⟨by omega, by omega, by omega, by omega, by omega, by omega⟩, Gc.start (by omega) (by omega) (by omega), by rw [Int.natAbs_natCast]; exact hal, by rw [Int.natAbs_natCast]; exact hbl⟩
  · intro hlt
    exact ⟨⟨V4, _, _, hE, fB, fA, fX, fU, fq, fr, f0⟩, ⟨⟨by omega, by omega, by omega, by omega, by omega, by omega, by omega, by omega, by omega, by omega, by omega, by omega, by omega, by omega, by omega⟩⟩, ⟨by omega, by omega, by omega, by omega, by omega, by omega⟩, Gc.swap (by omega) (by omega) (by omega), by rw [Int.natAbs_natCast]; exact hbl, by rw [Int.natAbs_natCast]; exact hbl⟩
end Go.Proofs
