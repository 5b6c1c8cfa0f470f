/- Parts of the proofs over the numbers of any length: SqrtP, Not, Sqrt, Sqrt2, Sqrt3. -/
import Derived.Test.YtacbllkmcldniaaGreatDoorLehm2
import Derived.Test.YtacbllkmcldniaaGreatDoorShiftA
import Derived.Test.YtacbllkmcldniaaGreatDoorIntA
import Derived.Test.YtacbllkmcldniaaGreatDoorBitA
import Derived.Test.YtacbllkmcldniaaGreatDoorDivD
import Derived.Test.YtacbllkmcldniaaGreatDoorRangeC
import Derived.Test.YtacbllkmcldniaaGreatDoorBaseC
set_option linter.unusedSimpArgs false
set_option linter.unusedVariables false
namespace Go.Proofs
set_option maxHeartbeats 400000
set_option linter.unusedVariables false
set_option linter.unusedSimpArgs false

/-- Newton's step halves what the guess is too great by. -/
theorem root_half {x s v : Nat} (h : IsRoot x s) (hv : s < v) : ((x / v + v) / 2 - s) * 2 ≤ v - s := by
  have h1 : x / v ≤ s := by
    have h2 : x < v * (s + 1) := Nat.lt_of_lt_of_le h.2 (Nat.mul_le_mul_right _ hv)
    have h3 : x / v < s + 1 := (Nat.div_lt_iff_lt_mul (by omega)).2 (by rw [Nat.mul_comm]; exact h2)
    omega
  omega
theorem root_round {x s v n E : Nat} (h : IsRoot x s) (hs : s ≤ v) (hp : 0 < v) (hl : (x / v + v) / 2 < v) (hE : (v - s) * 2 ^ n ≤ E) (M : Nat) (hE2 : E < 2 ^ M) :
    n < M ∧ s ≤ (x / v + v) / 2 ∧ ((x / v + v) / 2 - s) * 2 ^ (n + 1) ≤ E := by
  have h1 := root_step h hs hp
  have h2 : s < v := by omega
  refine ⟨?_, h1, ?_⟩
  · have h3 : 2 ^ n ≤ (v - s) * 2 ^ n := Nat.le_mul_of_pos_left _ (by omega)
    have h4 : 2 ^ n < 2 ^ M := by omega
    exact (Nat.pow_lt_pow_iff_right (by omega)).1 h4
  · have h3 := root_half h h2
    have h4 := Nat.mul_le_mul_right (2 ^ n) h3
    rw [Nat.pow_succ, ← Nat.mul_assoc, Nat.mul_right_comm]
    omega
/-- The first guess: a power of two that is no smaller than the root. -/
theorem root_start {x s b : Nat} (h : IsRoot x s) (hb : x < 2 ^ b) : s ≤ 2 ^ ((b + 1) / 2) := by
  by_cases hs : s ≤ 2 ^ ((b + 1) / 2)
  · exact hs
  · have h1 : 2 ^ ((b + 1) / 2) * 2 ^ ((b + 1) / 2) ≤ s * s := Nat.mul_le_mul (by omega) (by omega)
    rw [← Nat.pow_add] at h1
    have h2 : 2 ^ b ≤ 2 ^ ((b + 1) / 2 + (b + 1) / 2) := Nat.pow_le_pow_right (by omega) (by omega)
    have := h.1
    omega
end Go.Proofs
namespace Go.Proofs
open Go.RowKit
set_option maxHeartbeats 1000000
set_option linter.unusedVariables false
set_option linter.unusedSimpArgs false
set_option maxRecDepth 100000

theorem words_len_zero (N : Nat) : (words N).length = 0 ↔ N = 0 := by
  constructor
  · intro h
    by_cases h0 : N = 0
    · exact h0
    · exact absurd h (by have := words_mono (show 1 ≤ N by omega); rw [words_one] at this; simp at this; omega)
  · rintro rfl
    rw [words_zero]; rfl

/-- Neg, by what Set does. -/
theorem neg183_of (pz px tz : Nat) (x : Int) (az : Option Addr) (cz : Nat) (w : World)
    (h : Calls Tryz.prog 160 #[.pointer (some ⟨pz, 0, none⟩), .pointer (some ⟨px, 0, none⟩)] w fun e w' => e = .returned (.pointer (some ⟨pz, 0, none⟩)) ∧ IntRes w pz tz az cz x w') :
    Calls Tryz.prog 183 #[.pointer (some ⟨pz, 0, none⟩), .pointer (some ⟨px, 0, none⟩)] w fun e w' => e = .returned (.pointer (some ⟨pz, 0, none⟩)) ∧ IntRes w pz tz az cz (-x) w' := by
  have H := hid h
  clear h
  go_enter Tryz.func183, Tryz.ntmps183
  go_wp2_with fail
  refine H.out.mono ?_
  rintro e w1 ⟨rfl, a, l, c, hI, hin, hk⟩
  obtain ⟨z1, z2, z3, z4⟩ := hI.row.facts
  have hl := hI.rd.length
  have HI := hid hI; have HN := hid hin; have HK := hid hk
  have hwl := words_len_zero x.natAbs
  rcases Int.lt_trichotomy x 0 with hx | hx | hx
  · rw [decide_eq_true hx] at z1
    have t1 : decide (0 < l) = true := by simp; omega
    have t2 : decide ((0 : Int) < (l : Int)) = true := by simp; omega
    have HX := hid hx
    clear hI hin hk hl hwl hx H
    go_wp2_with fail
    go_ret
    exact ⟨rfl, IntRes.sign HI.out.row HI.out.rd HN.out HK.out (by have := HX.out; simp; omega) (by omega)⟩
  · have t1 : decide (0 < l) = false := by simp; omega
    have t2 : decide ((0 : Int) < (l : Int)) = false := by simp; omega
    have HX := hid hx
    clear hI hin hk hl hwl hx H
    go_wp2_with fail
    go_ret
    exact ⟨rfl, IntRes.sign HI.out.row HI.out.rd HN.out HK.out (by have := HX.out; simp; omega) (by omega)⟩
  · rw [decide_eq_false (show ¬ x < 0 by omega)] at z1
    have t1 : decide (0 < l) = true := by simp; omega
    have t2 : decide ((0 : Int) < (l : Int)) = true := by simp; omega
    have HX := hid hx
    clear hI hin hk hl hwl hx H
    go_wp2_with fail
    go_ret
    exact ⟨rfl, IntRes.sign HI.out.row HI.out.rd HN.out HK.out (by have := HX.out; simp; omega) (by omega)⟩

/-- Abs, by what Set does. -/
theorem abs184_of (pz px tz : Nat) (x : Int) (az : Option Addr) (cz : Nat) (w : World)
    (h : Calls Tryz.prog 160 #[.pointer (some ⟨pz, 0, none⟩), .pointer (some ⟨px, 0, none⟩)] w fun e w' => e = .returned (.pointer (some ⟨pz, 0, none⟩)) ∧ IntRes w pz tz az cz x w') :
    Calls Tryz.prog 184 #[.pointer (some ⟨pz, 0, none⟩), .pointer (some ⟨px, 0, none⟩)] w fun e w' => e = .returned (.pointer (some ⟨pz, 0, none⟩)) ∧ IntRes w pz tz az cz (x.natAbs : Int) w' := by
  have H := hid h
  clear h
  go_enter Tryz.func184, Tryz.ntmps184
  go_wp2_with fail
  refine H.out.mono ?_
  rintro e w1 ⟨rfl, a, l, c, hI, hin, hk⟩
  obtain ⟨z1, z2, z3, z4⟩ := hI.row.facts
  have HI := hid hI; have HN := hid hin; have HK := hid hk
  clear hI hin hk H
  go_wp2_with fail
  go_ret
  exact ⟨rfl, IntRes.sign HI.out.row HI.out.rd HN.out HK.out (by simp) (by omega)⟩

theorem not185 (pz px tz tx : Nat) (z x : Int) (az ax : Option Addr) (lz cz lx cx : Nat) (w : World) (hz : IntS w pz tz z az lz cz) (hx : IntS w px tx x ax lx cx)
    (hax : SoA az lz cz ax lx cx) (hlx : lx ≤ 100000) :
    Calls Tryz.prog 185 #[.pointer (some ⟨pz, 0, none⟩), .pointer (some ⟨px, 0, none⟩)] w fun e w' => e = .returned (.pointer (some ⟨pz, 0, none⟩)) ∧ IntRes w pz tz az cz (-x - 1) w' := by
  have Hz := hid hz; have Hx := hid hx
  obtain ⟨z1, z2, z3, z4⟩ := hz.row.facts
  obtain ⟨x1, x2, _, _⟩ := hx.row.facts
  have HOne := hid (natOne_any w.drew)
  have hS : Hid (∀ w', Keeps (InB az) w w' → (w'.cell? ⟨pz, 0, none⟩ = some (.bool (decide (z < 0))) ∧ w'.cell? ⟨pz, 1, none⟩ = some (.slice az lz cz) ∧ w'.frozen? ⟨pz, 0, none⟩ = false ∧ w'.frozen? ⟨pz, 1, none⟩ = false) ∧ w'.cell? ⟨px, 1, none⟩ = some (.slice ax lx cx)) := hid (fun w' hk => ⟨hz.row.after hk (hz.rd.not_row hz.row), (hx.row.after hk (hz.rd.not_row hx.row)).2.1⟩)
  have HK0 : Hid (Keeps (fun _ => False) w w.drew) := hid (Keeps.refl _ w).drew
  have hlz := hz.rd.len_le
  by_cases hneg : x < 0
  · rw [decide_eq_true hneg] at x1
    have HSub : Hid (∀ w1 b, Rd w1 (some ⟨b, 0, none⟩) 1 1 (words 1) → w.heap.size ≤ b → Keeps (fun _ => False) w w1 → Calls Tryz.prog 197 #[.slice az lz cz, .slice ax lx cx, .slice (some ⟨b, 0, none⟩) 1 1] w1 (NatRes w az cz (x.natAbs - 1))) :=
      hid (fun w1 b h1 h2 h3 => sub_one hz.rd hx.rd hax.al (by omega) (by omega) h1 h2 h3)
    have Hneg := hid hneg
    clear hz hx hax hneg hlz
    go_enter Tryz.func185, Tryz.ntmps185
    go_upto_region 2 with fail
    go_region_law (first
      | (go_simp; go_at_call 202; (with_reducible refine HOne.out.mono ?_); rintro e w1 ⟨b, rfl, h1, h2, h3⟩; have H1 := hid h1; have H2 := hid (show w.heap.size ≤ b from h2); have HK1 := hid (HK0.out.trans h3); obtain ⟨⟨y1, y2, y3, y4⟩, y5⟩ := hS.out _ HK1.out.any; clear h1 h2 h3)
      | (go_simp; go_at_call 197; (with_reducible refine (HSub.out _ _ H1.out H2.out HK1.out).mono ?_); rintro e w2 ⟨ra, rl, rc, rfl, h1, h2, h3⟩; have HR := hid h1; have HI := hid h2; have HK := hid h3; obtain ⟨⟨v1, v2, v3, v4⟩, v5⟩ := hS.out _ HK.out; clear h1 h2 h3))
    all_goals go_wp2_with fail
    all_goals go_ret
    all_goals exact ⟨rfl, IntRes.both (HK.out.row Hz.out.row (Hz.out.rd.not_row Hz.out.row)) HR.out HI.out (HK.out.mono (fun i _ h => .inr h)) (by have := Hneg.out; simp; omega) (by have := Hneg.out; omega)⟩
  · rw [decide_eq_false hneg] at x1
    have HAdd : Hid (∀ w1 b, Rd w1 (some ⟨b, 0, none⟩) 1 1 (words 1) → w.heap.size ≤ b → Keeps (fun _ => False) w w1 → Calls Tryz.prog 195 #[.slice az lz cz, .slice ax lx cx, .slice (some ⟨b, 0, none⟩) 1 1] w1 (NatRes w az cz (x.natAbs + 1))) :=
      hid (fun w1 b h1 h2 h3 => add_one hz.rd hx.rd hax.al (by omega) h1 h2 h3)
    have Hneg := hid hneg
    clear hz hx hax hneg hlz
    go_enter Tryz.func185, Tryz.ntmps185
    go_upto_region 5 with fail
    go_region_law (first
      | (go_simp; go_at_call 202; (with_reducible refine HOne.out.mono ?_); rintro e w1 ⟨b, rfl, h1, h2, h3⟩; have H1 := hid h1; have H2 := hid (show w.heap.size ≤ b from h2); have HK1 := hid (HK0.out.trans h3); obtain ⟨⟨y1, y2, y3, y4⟩, y5⟩ := hS.out _ HK1.out.any; clear h1 h2 h3)
      | (go_simp; go_at_call 195; (with_reducible refine (HAdd.out _ _ H1.out H2.out HK1.out).mono ?_); rintro e w2 ⟨ra, rl, rc, rfl, h1, h2, h3⟩; have HR := hid h1; have HI := hid h2; have HK := hid h3; obtain ⟨⟨v1, v2, v3, v4⟩, v5⟩ := hS.out _ HK.out; clear h1 h2 h3))
    all_goals go_wp2_with fail
    all_goals go_ret
    all_goals exact ⟨rfl, IntRes.both (HK.out.row Hz.out.row (Hz.out.rd.not_row Hz.out.row)) HR.out HI.out (HK.out.mono (fun i _ h => .inr h)) (by have := Hneg.out; simp; omega) (by have := Hneg.out; omega)⟩
end Go.Proofs
namespace Go.Proofs
open Go.RowKit
set_option maxHeartbeats 1000000
set_option linter.unusedVariables false
set_option linter.unusedSimpArgs false
set_option maxRecDepth 100000

/-- The root's two buffers and its stack, all made since w. -/
structure SqS (w wr : World) (p : Nat) (a1 : Option Addr) (l1 c1 v : Nat) (a2 : Option Addr) (l2 c2 : Nat) (L2 : List Nat) (D : Option (Nat × Nat)) : Prop where
  r1 : Rd wr a1 l1 c1 (words v)
  r2 : Rd wr a2 l2 c2 L2
  i1 : Into w none 0 a1 c1
  i2 : Into w none 0 a2 c2
  d : ∀ k, InB a1 k → ¬ InB a2 k
  st : Stk wr p 0 D
  hD : ∀ s e, D = some (s, e) → w.heap.size ≤ s ∧ w.heap.size ≤ e ∧ ¬ InB a1 e ∧ ¬ InB a2 e
  hp : w.heap.size ≤ p
  k : Keeps (fun _ => False) w wr

theorem Into.none_le {w : World} {a : Option Addr} {c : Nat} (h : Into w none 0 a c) : ∀ k, InB a k → w.heap.size ≤ k := fun k hk => by
  rcases h.inB hk with ⟨o, ho⟩ | h1
  · cases ho
  · exact h1
theorem SqS.n1 {w wr : World} {p l1 c1 v l2 c2 : Nat} {a1 a2 : Option Addr} {L2 : List Nat} {D : Option (Nat × Nat)} (h : SqS w wr p a1 l1 c1 v a2 l2 c2 L2 D) : ∀ k, InB a1 k → w.heap.size ≤ k := h.i1.none_le
theorem SqS.n2 {w wr : World} {p l1 c1 v l2 c2 : Nat} {a1 a2 : Option Addr} {L2 : List Nat} {D : Option (Nat × Nat)} (h : SqS w wr p a1 l1 c1 v a2 l2 c2 L2 D) : ∀ k, InB a2 k → w.heap.size ≤ k := h.i2.none_le

theorem SqS.put {w wr w' : World} {p l1 c1 v l2 c2 rl rc : Nat} {a1 a2 ra : Option Addr} {L2 L' : List Nat} {D : Option (Nat × Nat)} (h : SqS w wr p a1 l1 c1 v a2 l2 c2 L2 D)
    (hr : Rd w' ra rl rc L') (hi : Into wr a2 c2 ra rc) (hk : Keeps (InB a2) wr w') : SqS w w' p a1 l1 c1 v ra rl rc L' D where
  r1 := h.r1.keep hk h.d
  r2 := hr
  i1 := h.i1
  i2 := h.i2.trans hi h.k.size
  d := fun k hb hb' => by
    rcases hi.inB hb' with h1 | h1
    · exact h.d k hb h1
    · have := h.r1.lt hb; omega
  st := h.st.keepK hk (fun b hb => h.r2.notStB h.st (fun s e he => (h.hD s e he).2.2.2) b hb)
  hD := fun s e he => ⟨(h.hD s e he).1, (h.hD s e he).2.1, (h.hD s e he).2.2.1, fun hb => by
    rcases hi.inB hb with h1 | h1
    · exact (h.hD s e he).2.2.2 h1
    · subst he; have := h.st.ltD.2; omega⟩
  hp := h.hp
  k := h.k.trans' hk (fun i hi hb => by have := h.n2 i hb; omega)

theorem SqS.swap {w wr : World} {p l1 c1 v l2 c2 u : Nat} {a1 a2 : Option Addr} {D : Option (Nat × Nat)} (h : SqS w wr p a1 l1 c1 v a2 l2 c2 (words u) D) : SqS w wr p a2 l2 c2 u a1 l1 c1 (words v) D where
  r1 := h.r2
  r2 := h.r1
  i1 := h.i2
  i2 := h.i1
  d := fun k h1 h2 => h.d k h2 h1
  st := h.st
  hD := fun s e he => ⟨(h.hD s e he).1, (h.hD s e he).2.1, (h.hD s e he).2.2.2, (h.hD s e he).2.2.1⟩
  hp := h.hp
  k := h.k
theorem SqS.drewN {w wr : World} {p l1 c1 v l2 c2 : Nat} {a1 a2 : Option Addr} {L2 : List Nat} {D : Option (Nat × Nat)} (h : SqS w wr p a1 l1 c1 v a2 l2 c2 L2 D) (n : Nat) : SqS w (wr.drewN n) p a1 l1 c1 v a2 l2 c2 L2 D where
  r1 := h.r1.drewN n
  r2 := h.r2.drewN n
  i1 := h.i1
  i2 := h.i2
  d := h.d
  st := h.st.keepF ((Keeps.refl _ wr).drewN n)
  hD := h.hD
  hp := h.hp
  k := h.k.drewN n

theorem SqS.div {w wr : World} {p l1 c1 v l2 c2 xl xc N : Nat} {a1 a2 x : Option Addr} {L2 : List Nat} {D : Option (Nat × Nat)} (h : SqS w wr p a1 l1 c1 v a2 l2 c2 L2 D) (hx : Rd w x xl xc (words N)) (hv : v ≠ 0) (hl : l1 < 40) (hxl : xl ≤ 100000) (G : Glob w) :
    Calls Tryz.prog 199 #[.slice a2 l2 c2, .pointer (some ⟨p, 0, none⟩), .slice none 0 0, .slice x xl xc, .slice a1 l1 c1] wr fun e w' => ∃ qa ql qc ra rl rc D', e = .returned (.tuple #[.slice qa ql qc, .slice ra rl rc]) ∧ SqS w w' p a1 l1 c1 v qa ql qc (words (N / v)) D' := by
  have hxn : ∀ k, InB x k → k < w.heap.size := fun k hk => hx.lt hk
  have nn : ∀ k, ¬ InB none k := fun k hk => by obtain ⟨o, ho⟩ := hk; cases ho
  refine (div199_stk a2 l2 c2 L2 none 0 0 [] x xl xc N a1 l1 c1 v p 0 D wr h.r2 (Rd.nil wr) (hx.keep h.k (fun _ _ h => h)) h.r1 hv hl hxl (fun k _ => nn k)
    (Al.of_ne fun k h1 h2 => by have := h.n2 k h1; have := hxn k h2; omega) (Al.of_ne fun k h1 => (nn k h1).elim) h.st (by omega)
    (fun s e he => ⟨(h.hD s e he).2.2.2, nn e, fun hb => by have := hxn e hb; have := (h.hD s e he).2.1; omega, (h.hD s e he).2.2.1⟩) (G.keep h.k (fun _ _ h => h)) (fun hg => by have := G.lt hg; have := h.hp; omega)).mono ?_
  rintro e w' ⟨qa, ql, qc, ra, rl, rc, D', rfl, k1, k2, k3, k4, k5, k6, k7, k8, k9⟩
  have hst1 := h.r1.notStB h.st (fun s e he => (h.hD s e he).2.2.1)
  have hlo : ∀ b, StB p D b → w.heap.size ≤ b := by
    rintro b (rfl | ⟨s, d, h1, rfl | rfl⟩)
    · exact h.hp
    · exact (h.hD _ _ h1).1
    · exact (h.hD _ _ h1).2.1
  have hsz := h.k.size
  refine ⟨qa, ql, qc, ra, rl, rc, D', rfl, ⟨h.r1.keep k9 (fun k hk hb => ?_), k1, h.i1, h.i2.trans k2 h.k.size, fun k hb hb' => ?_, k6, fun s e he => ?_, h.hp, h.k.trans' k9 (fun i hi hb => ?_)⟩⟩
  · rcases hb with h1 | h1 | h1
    · exact h.d k hk h1
    · exact nn k h1
    · exact hst1 k h1 hk
  · rcases k2.inB hb' with h1 | h1
    · exact h.d k hb h1
    · have := h.r1.lt hb; omega
  · obtain ⟨j1, j2⟩ := k7 s e he
    refine ⟨?_, ?_, ?_, (k8 s e he).1⟩
    · rcases j1 with ⟨d, hd⟩ | h1
      · exact (h.hD _ _ hd).1
      · omega
    · rcases j2 with ⟨d, hd⟩ | h1
      · exact (h.hD _ _ hd).2.1
      · omega
    · rcases j2 with ⟨d, hd⟩ | h1
      · exact (h.hD _ _ hd).2.2.1
      · intro hb; have := h.r1.lt hb; omega
  · rcases hb with h1 | h1 | h1
    · have := h.n2 i h1; omega
    · exact (nn i h1).elim
    · have := hlo i h1; omega
end Go.Proofs
namespace Go.Proofs
open Go.RowKit
set_option maxHeartbeats 2000000
set_option linter.unusedVariables false
set_option linter.unusedSimpArgs false
set_option maxRecDepth 100000

def SqRel (w : World) (p N s V0 E : Nat) (t7 t8 t9 : Value) (wr : World) : Prop := ∃ a1 l1 c1 v a2 l2 c2 L2 D n, t7 = .slice a1 l1 c1 ∧ t8 = .slice a2 l2 c2 ∧ t9 = .int .i64 ((n : Nat) : Int) ∧ SqS w wr p a1 l1 c1 v a2 l2 c2 L2 D ∧ s ≤ v ∧ 0 < v ∧ v ≤ V0 ∧ (v - s) * 2 ^ n ≤ E ∧ n ≤ 1300

theorem pow_words (h m : Nat) (hh : h ≤ 64 * m) : 2 ^ h ≤ W64 ^ m := by
  rw [show W64 = 2 ^ 64 by unfold W64; rfl, ← Nat.pow_mul]
  exact Nat.pow_le_pow_right (by omega) hh
theorem SqS.put2 {w wr w' : World} {p l1 c1 v l2 c2 : Nat} {a1 a2 : Option Addr} {L2 : List Nat} {D : Option (Nat × Nat)} (h : SqS w wr p a1 l1 c1 v a2 l2 c2 L2 D) (nn : ∀ k, ¬ InB none k) (hk : Keeps (InB none) wr w') : SqS w w' p a1 l1 c1 v a2 l2 c2 L2 D where
  r1 := h.r1.keep hk (fun k _ => nn k)
  r2 := h.r2.keep hk (fun k _ => nn k)
  i1 := h.i1
  i2 := h.i2
  d := h.d
  st := h.st.keepK hk (fun b _ => nn b)
  hD := h.hD
  hp := h.hp
  k := h.k.trans' hk (fun i _ hb => (nn i hb).elim)
theorem sq_end {w wr w' : World} {p l1 c1 v l2 c2 rl rc s : Nat} {a1 a2 ra : Option Addr} {L2 : List Nat} {D : Option (Nat × Nat)} (h : SqS w wr p a1 l1 c1 v a2 l2 c2 L2 D) (hr : Rd w' ra rl rc (words s)) (hk : Keeps (fun b => ∃ d, D = some (b, d)) wr w') (hn : Into w none 0 ra rc) :
    NatRes w none 0 s (.returned (.slice ra rl rc)) w' := by
  exact ⟨ra, rl, rc, rfl, hr, hn, h.k.any.trans' hk (fun i hi ⟨d, hd⟩ => by have := (h.hD _ _ hd).1; omega)⟩

theorem sqrt_nil (x : Option Addr) (xl xc N s : Nat) (w : World) (hx : Rd w x xl xc (words N)) (h2 : 2 ≤ N) (hs : IsRoot N s) (hN : N < W64 ^ 38) (G : Glob w) :
    Calls Tryz.prog 224 #[.slice none 0 0, .pointer none, .slice x xl xc] w (NatRes w none 0 s) := by
  have hxl : xl ≤ 38 := by rw [← hx.length]; exact words_lt hN
  have HX := hid hx; have HS := hid hs; have HG := hid G; have HN := hid hN; have H2 := hid h2
  have HOne := hid (natOne_any w)
  have HC : Hid (∀ w1 b, Keeps (fun _ => False) w w1 → Rd w1 (some ⟨b, 0, none⟩) 1 1 (words 1) → Calls Tryz.prog 196 #[.slice x xl xc, .slice (some ⟨b, 0, none⟩) 1 1] w1 fun e w' => e = .returned (.int .i64 1) ∧ ∃ k, w' = w1.drewN k) := hid (fun w1 b hk h1 => by
    have := cmp_any x xl xc (some ⟨b, 0, none⟩) 1 1 N 1 w1 (hx.keep hk (fun _ _ h => h)) h1
    rwa [show cmpI N 1 = 1 by unfold cmpI; rw [if_neg (by omega), if_pos (by omega)]] at this)
  have HA : Hid (∀ w1, Keeps (fun _ => False) w w1 → Calls Tryz.prog 201 #[.slice none 0 0, .slice x xl xc] w1 fun e w' => e = .returned (.bool false) ∧ ∃ k, w' = w1.drewN k) := hid (fun w1 hk => by
    have := alias_any none 0 0 [] x xl xc _ w1 (Rd.nil w1) (hx.keep hk (fun _ _ h => h)) (Al.of_ne (fun k hk => by obtain ⟨o, ho⟩ := hk; cases ho))
    rwa [show sharesB none 0 x xc = false by unfold sharesB; simp] at this)
  have nn : ∀ k, ¬ InB none k := fun k hk => by obtain ⟨o, ho⟩ := hk; cases ho
  have HNN := hid nn
  have Hxl := hid hxl
  clear hx hs hN G h2 nn
  go_enter_defers Tryz.func224, Tryz.ntmps224
  go_wp2_with fail
  refine HOne.out.mono ?_
  rintro e w1 ⟨b, rfl, h1, h2, h3⟩
  have HK1 := hid h3
  have HC1 := hid (HC.out w1 b h3 h1)
  clear h1 h2 h3 HC HOne
  go_wp2_with fail
  refine HC1.out.mono ?_
  rintro e w2 ⟨rfl, k1, rfl⟩
  have HK2 := hid (HK1.out.drewN k1)
  have HA1 := hid (HA.out _ HK2.out)
  clear HC1 HA HK1
  go_wp2_with fail
  refine HA1.out.mono ?_
  rintro e w3 ⟨rfl, k2, rfl⟩
  have HK3 := hid (HK2.out.drewN k2)
  clear HA1 HK2
  generalize (w1.drewN k1).drewN k2 = w3 at *
  go_wp2_with fail
  refine (getStack_any _).mono ?_
  rintro e w4 ⟨rfl, rfl⟩
  obtain ⟨w4, hw4⟩ : ∃ W, W = w3.alloc (.cells #[.pointer none] 240) := ⟨_, rfl⟩
  obtain ⟨p, hp⟩ : ∃ p, p = w3.heap.size := ⟨_, rfl⟩
  rw [← hw4, ← hp]
  have HRow : Hid (RowAt w4 p 240 [.pointer none]) := hid (by rw [hw4, hp]; exact RowAt.new w3 240 [.pointer none])
  have HK4 : Hid (Keeps (fun _ => False) w w4) := hid (by rw [hw4]; exact HK3.out.alloc _)
  have HP : Hid (w.heap.size ≤ p) := hid (by rw [hp]; exact HK3.out.size)
  clear hw4 hp HK3
  have HU : Hid (Calls Tryz.prog 209 #[.slice none 0 0, .int .u64 1] w4 (NatRes w4 none 0 1)) := hid (setUint64_any none 0 0 [] 1 w4 (Rd.nil w4) (by unfold W64; omega))
  go_wp2_with fail
  refine HU.out.mono ?_
  rintro e w5 ⟨a5, l5, c5, rfl, h1, h2, h3⟩
  have HR5 := hid h1; have HI5 := hid h2; have HK5 := hid h3
  have HX5 := hid ((HX.out.keep HK4.out (fun _ _ h => h)).keep h3 (fun k _ => HNN.out k))
  clear h1 h2 h3 HU
  go_wp2_with fail
  refine (bitLen225_any x xl xc N w5 HX5.out).mono ?_
  rintro e w6 ⟨b, rfl, hb1, hb2, rfl⟩
  have HB := hid hb1
  have hb3 : b ≤ 2432 := by have := Hxl.out; omega
  clear hb1 hb2
  obtain ⟨b1, hb4⟩ : ∃ b1, b1 = b + 1 := ⟨_, rfl⟩
  obtain ⟨h, hh⟩ : ∃ h, h = b1 / 2 := ⟨_, rfl⟩
  have g1 : IntKind.i64.wrap ((b : Int) + 1) = (b1 : Int) := by rw [IntKind.wrap_i64]; omega
  have g2 : IntKind.u64.wrap (b1 : Int) = (b1 : Int) := by rw [IntKind.wrap_u64]; omega
  have g3 : (b1 : Int) / 2 = (h : Int) := by omega
  have g4 : IntKind.u64.wrap (h : Int) = (h : Int) := by rw [IntKind.wrap_u64]; omega
  have HHh := hid (show h = (b + 1) / 2 ∧ h ≤ 1216 from by omega)
  have HL := hid (lsh_any a5 l5 c5 _ a5 l5 c5 1 h w6 HR5.out HR5.out (SoA.refl _ _ _) (by
    have := HR5.out.length; rw [words_one] at this; simp at this; omega) (by omega))
  clear hb3 hb4 hh
  go_wp2_with fail
  refine HL.out.mono ?_
  intro e w7 hn7
  obtain ⟨a7, l7, c7, rfl, h1, h2, h3⟩ := NatRes.chain HI5.out (HK5.out.mono (fun k _ h => (HNN.out k h).elim)) hn7
  rw [Nat.one_mul] at h1
  have HR7 := hid h1; have HI7 := hid h2; have HK7 := hid h3
  clear h1 h2 h3 hn7 HL HR5 HI5 HK5 HX5 g1 g2 g3 g4
  obtain ⟨V0, hV0⟩ : ∃ V, V = 2 ^ h := ⟨_, rfl⟩
  rw [← hV0] at HR7
  have HV0 := hid hV0
  have HVb : Hid (V0 ≤ W64 ^ 19) := hid (by rw [hV0]; exact pow_words h 19 (by have := HHh.out.2; omega))
  obtain ⟨M, hM⟩ : ∃ M, M = 1300 := ⟨_, rfl⟩
  have HE : Hid (V0 < 2 ^ M) := hid (by rw [hV0]; exact Nat.pow_lt_pow_right (by omega) (by have := HHh.out.2; omega))
  have HVs : Hid (s ≤ V0 ∧ 0 < V0) := hid (by
    rw [hV0, HHh.out.1]
    exact ⟨root_start HS.out HB.out.1, Nat.two_pow_pos _⟩)
  have HWX : Hid (W64 ^ 38 + W64 ^ 19 ≤ W64 ^ 39) := hid (by
    have h1 : W64 ^ 19 ≤ W64 ^ 38 := Nat.pow_le_pow_right W64_pos (by omega)
    have h2 : W64 ^ 39 = W64 ^ 38 * W64 := Nat.pow_succ _ _
    have h3 : W64 ^ 38 * 2 ≤ W64 ^ 38 * W64 := Nat.mul_le_mul_left _ (by unfold W64; omega)
    omega)
  have HM := hid hM
  clear hV0 hM HHh HB
  go_wp2_with fail
  go_loopw [7, 8, 9] (fun t7 t8 t9 wr => SqRel w p N s V0 V0 t7 t8 t9 wr) (fun _ _ iv _ => (1301 - intOf iv).toNat)
  case atStart =>
    have hk7 := HK7.out
    have hst : Stk w7 p 0 none := ⟨hk7.row HRow.out (HNN.out p), rfl⟩
    exact ⟨a7, l7, c7, V0, none, 0, 0, [], none, 0, rfl, rfl, rfl, ⟨HR7.out, Rd.nil w7, HI7.out.mono HK4.out.size, .inl ⟨rfl, rfl⟩, fun k _ hk => HNN.out k hk, hst, fun s e h => (by cases h), HP.out, HK4.out.trans' hk7 (fun i _ h => (HNN.out i h).elim)⟩, HVs.out.1, HVs.out.2, Nat.le_refl _, by rw [Nat.pow_zero, Nat.mul_one]; exact Nat.sub_le _ _, by omega⟩
  case round =>
    obtain ⟨a1, l1, c1, v, a2, l2, c2, L2, D, n, rfl, rfl, rfl, hS, hv1, hv2, hv3, hv4, hv5⟩ := hrel
    have HV := hid (And.intro hv1 (And.intro hv2 (And.intro hv3 hv4)))
    have hvl : v < W64 ^ 39 := Nat.lt_of_le_of_lt hv3 (Nat.lt_of_le_of_lt HVb.out (Nat.pow_lt_pow_right (by unfold W64; omega) (by omega)))
    have hl1 : l1 ≤ 39 := by rw [← hS.r1.length]; exact words_lt hvl
    obtain ⟨q, hq⟩ : ∃ q, q = N / v := ⟨_, rfl⟩
    obtain ⟨u2, hu2⟩ : ∃ u, u = q + v := ⟨_, rfl⟩
    obtain ⟨u, hu⟩ : ∃ u, u = u2 / 2 := ⟨_, rfl⟩
    have hql : q < W64 ^ 38 := by rw [hq]; exact Nat.lt_of_le_of_lt (Nat.div_le_self _ _) HN.out
    have hul : u2 < W64 ^ 39 := by have := HVb.out; have := HWX.out; omega
    have HD := hid (hS.div HX.out (show v ≠ 0 by omega) (by omega) (by have := Hxl.out; omega) HG.out)
    rw [← hq] at HD
    have HQ := hid hq; have HU2 := hid hu2; have HU := hid hu; have HQl := hid (words_lt hql); have HUl := hid (words_lt hul)
    clear hS hv1 hv2 hv3 hv4 hvl hq hu2 hu hql hul
    go_wp2_with fail
    refine HD.out.mono ?_
    rintro e w8 ⟨qa, ql, qc, ra, rl, rc, D8, rfl, h8⟩
    have H8 := hid h8
    have HAd := hid (add_any qa ql qc _ qa ql qc q a1 l1 c1 v w8 h8.r2 h8.r2 h8.r1 (by have := h8.r2.length; have := HQl.out; omega) (by omega) (Al.refl _ _) (Al.of_ne (fun k h2 h3 => h8.d k h3 h2)))
    rw [← HU2.out] at HAd
    clear h8 HD
    go_wp2_with fail
    refine HAd.out.mono ?_
    rintro e w9 ⟨sa, sl, sc, rfl, h1, h2, h3⟩
    have h9 := H8.out.put h1 h2 h3
    have H9 := hid h9
    have HRs : Hid (Calls Tryz.prog 211 #[.slice sa sl sc, .slice sa sl sc, .int .u64 1] w9 (NatRes w9 sa sc u)) := hid (by
      have := rsh_any sa sl sc _ sa sl sc u2 1 w9 h9.r2 h9.r2 (SoA.refl _ _ _) (by have := h9.r2.length; have := HUl.out; omega) (by omega)
      rw [Nat.pow_one, ← HU.out] at this
      exact this)
    clear h1 h2 h3 h9 HAd H8
    go_wp2_with fail
    refine HRs.out.mono ?_
    rintro e w10 ⟨ta, tl, tc, rfl, h1, h2, h3⟩
    have h10 := H9.out.put h1 h2 h3
    have H10 := hid h10
    have HCm := hid (cmp_any ta tl tc a1 l1 c1 u v w10 h10.r2 h10.r1)
    clear h1 h2 h3 h10 HRs H9
    by_cases hlt : u < v
    · rw [show cmpI u v = -1 by unfold cmpI; rw [if_pos hlt]] at HCm
      obtain ⟨r1, r2, r3⟩ := root_round (n := n) HS.out HV.out.1 HV.out.2.1 (by rw [← HQ.out, ← HU2.out, ← HU.out]; exact hlt) HV.out.2.2.2 M HE.out
      rw [← HQ.out, ← HU2.out, ← HU.out] at r2 r3
      have hu0 : 0 < u := by
        have h1 : 0 < s := by
          rcases Nat.eq_zero_or_pos s with h | h
          · subst h; have h6 : N < 1 := by simpa using HS.out.2
            have := H2.out; omega
          · exact h
        omega
      have g1 : IntKind.i64.wrap ((n : Int) + 1) = (((n + 1 : Nat)) : Int) := by rw [IntKind.wrap_i64]; omega
      have HR := hid (And.intro r2 r3)
      have hn : n < 1300 := by have := HM.out; omega
      have HV3 := hid (show u ≤ V0 by have := HV.out.2.2.1; omega)
      clear r1 r2 r3 hlt
      go_wp2_with fail
      refine HCm.out.mono ?_
      rintro e w11 ⟨rfl, k3, rfl⟩
      clear HCm
      go_wp2_with fail
      exact ⟨⟨ta, tl, tc, u, a1, l1, c1, _, D8, n + 1, rfl, rfl, rfl, (H10.out.drewN k3).swap, HR.out.1, hu0, HV3.out, HR.out.2, by omega⟩, by simp [intOf]; omega⟩
    · have hvs : v = s := root_done HS.out HV.out.1 HV.out.2.1 (by rw [← HQ.out, ← HU2.out, ← HU.out]; omega)
      obtain ⟨cm, hcm⟩ : ∃ cm, cm = cmpI u v := ⟨_, rfl⟩
      have hc0 : decide (0 ≤ cm) = true := by rw [hcm]; unfold cmpI; rw [if_neg hlt]; split <;> simp
      have hc1 : decide (cm ≥ 0) = true := hc0
      rw [← hcm] at HCm
      have HVS := hid hvs
      clear hlt hcm hvs
      have hpar : n % 2 = 0 ∨ n % 2 = 1 := by omega
      rcases hpar with hpar | hpar
      · have hb : bits .and .i64 (n : Int) 1 = 0 := by rw [i64_and1]; omega
        clear hpar
        go_wp2_with fail
        refine HCm.out.mono ?_
        rintro e w11 ⟨rfl, k3, rfl⟩
        have H11 := hid (H10.out.drewN k3)
        clear HCm H10
        go_wp2_with fail
        refine leaves_cons (f := 240) (args := #[.pointer (some ⟨p, 0, none⟩)]) (by simp) (by simp [go_sem]) ?_
        refine (free240_any p 0 D8 _ _ H11.out.st).mono ?_
        rintro e u' w'' ⟨rfl, rfl, hk'⟩
        refine ⟨_, results_tmp rfl _ _ _, ?_⟩
        have hr := H11.out.r1.freed H11.out.st hk'
        rw [HVS.out] at hr
        exact sq_end H11.out hr hk' H11.out.i1
      · have hb : bits .and .i64 (n : Int) 1 = 1 := by rw [i64_and1]; omega
        clear hpar
        go_wp2_with fail
        refine HCm.out.mono ?_
        rintro e w11 ⟨rfl, k3, rfl⟩
        have H11 := hid (H10.out.drewN k3)
        clear HCm H10
        have HSt := hid (set_any none 0 0 [] a1 l1 c1 _ _ (Rd.nil _) H11.out.r1 (by omega))
        go_wp2_with fail
        refine HSt.out.mono ?_
        rintro e w12 ⟨ra', rc', rfl, h1, h2, h3⟩
        have hst12 := H11.out.st.keepK h3 (fun b hb hn => HNN.out b hn)
        have HR12 := hid h1; have HI12 := hid h2; have HK12 := hid h3; have HS12 := hid hst12
        clear h1 h2 h3 hst12 HSt
        go_wp2_with fail
        refine leaves_cons (f := 240) (args := #[.pointer (some ⟨p, 0, none⟩)]) (by simp) (by simp [go_sem]) ?_
        refine (free240_any p 0 D8 _ _ HS12.out).mono ?_
        rintro e u' w'' ⟨rfl, rfl, hk'⟩
        refine ⟨_, results_tmp rfl _ _ _, ?_⟩
        have hr := HR12.out.freed HS12.out hk'
        rw [HVS.out] at hr
        exact sq_end (H11.out.put2 HNN.out HK12.out) hr hk' (HI12.out.mono H11.out.k.size)

theorem sqrt_same (x : Option Addr) (xl xc N s : Nat) (w : World) (hx : Rd w x xl xc (words N)) (h2 : 2 ≤ N) (hs : IsRoot N s) (hN : N < W64 ^ 38) (G : Glob w) :
    Calls Tryz.prog 224 #[.slice x xl xc, .pointer none, .slice x xl xc] w (NatRes w none 0 s) := by
  have hxl : xl ≤ 38 := by rw [← hx.length]; exact words_lt hN
  have HX := hid hx; have HS := hid hs; have HG := hid G; have HN := hid hN; have H2 := hid h2
  have HOne := hid (natOne_any w)
  have HC : Hid (∀ w1 b, Keeps (fun _ => False) w w1 → Rd w1 (some ⟨b, 0, none⟩) 1 1 (words 1) → Calls Tryz.prog 196 #[.slice x xl xc, .slice (some ⟨b, 0, none⟩) 1 1] w1 fun e w' => e = .returned (.int .i64 1) ∧ ∃ k, w' = w1.drewN k) := hid (fun w1 b hk h1 => by
    have := cmp_any x xl xc (some ⟨b, 0, none⟩) 1 1 N 1 w1 (hx.keep hk (fun _ _ h => h)) h1
    rwa [show cmpI N 1 = 1 by unfold cmpI; rw [if_neg (by omega), if_pos (by omega)]] at this)
  have HA : Hid (∀ w1, Keeps (fun _ => False) w w1 → Calls Tryz.prog 201 #[.slice x xl xc, .slice x xl xc] w1 fun e w' => e = .returned (.bool true) ∧ ∃ k, w' = w1.drewN k) := hid (fun w1 hk => by
    have h1 := hx.keep hk (fun _ _ h => h)
    have := alias_any x xl xc _ x xl xc _ w1 h1 h1 (Al.refl _ _)
    rwa [show sharesB x xc x xc = true by
      have hp := words_length_pos (show N ≠ 0 by omega)
      have hl := hx.length
      rcases hx with ⟨_, h3, _⟩ | ⟨b, o, M, rfl, _, _, h4, _, h5, _⟩
      · rw [h3] at hp; simp at hp
      · unfold sharesB; simp; omega] at this)
  have nn : ∀ k, ¬ InB none k := fun k hk => by obtain ⟨o, ho⟩ := hk; cases ho
  have HNN := hid nn
  have Hxl := hid hxl
  clear hx hs hN G h2 nn
  go_enter_defers Tryz.func224, Tryz.ntmps224
  go_wp2_with fail
  refine HOne.out.mono ?_
  rintro e w1 ⟨b, rfl, h1, h2, h3⟩
  have HK1 := hid h3
  have HC1 := hid (HC.out w1 b h3 h1)
  clear h1 h2 h3 HC HOne
  go_wp2_with fail
  refine HC1.out.mono ?_
  rintro e w2 ⟨rfl, k1, rfl⟩
  have HK2 := hid (HK1.out.drewN k1)
  have HA1 := hid (HA.out _ HK2.out)
  clear HC1 HA HK1
  go_wp2_with fail
  refine HA1.out.mono ?_
  rintro e w3 ⟨rfl, k2, rfl⟩
  have HK3 := hid (HK2.out.drewN k2)
  clear HA1 HK2
  generalize (w1.drewN k1).drewN k2 = w3 at *
  go_wp2_with fail
  refine (getStack_any _).mono ?_
  rintro e w4 ⟨rfl, rfl⟩
  obtain ⟨w4, hw4⟩ : ∃ W, W = w3.alloc (.cells #[.pointer none] 240) := ⟨_, rfl⟩
  obtain ⟨p, hp⟩ : ∃ p, p = w3.heap.size := ⟨_, rfl⟩
  rw [← hw4, ← hp]
  have HRow : Hid (RowAt w4 p 240 [.pointer none]) := hid (by rw [hw4, hp]; exact RowAt.new w3 240 [.pointer none])
  have HK4 : Hid (Keeps (fun _ => False) w w4) := hid (by rw [hw4]; exact HK3.out.alloc _)
  have HP : Hid (w.heap.size ≤ p) := hid (by rw [hp]; exact HK3.out.size)
  clear hw4 hp HK3
  have HU : Hid (Calls Tryz.prog 209 #[.slice none 0 0, .int .u64 1] w4 (NatRes w4 none 0 1)) := hid (setUint64_any none 0 0 [] 1 w4 (Rd.nil w4) (by unfold W64; omega))
  go_wp2_with fail
  refine HU.out.mono ?_
  rintro e w5 ⟨a5, l5, c5, rfl, h1, h2, h3⟩
  have HR5 := hid h1; have HI5 := hid h2; have HK5 := hid h3
  have HX5 := hid ((HX.out.keep HK4.out (fun _ _ h => h)).keep h3 (fun k _ => HNN.out k))
  clear h1 h2 h3 HU
  go_wp2_with fail
  refine (bitLen225_any x xl xc N w5 HX5.out).mono ?_
  rintro e w6 ⟨b, rfl, hb1, hb2, rfl⟩
  have HB := hid hb1
  have hb3 : b ≤ 2432 := by have := Hxl.out; omega
  clear hb1 hb2
  obtain ⟨b1, hb4⟩ : ∃ b1, b1 = b + 1 := ⟨_, rfl⟩
  obtain ⟨h, hh⟩ : ∃ h, h = b1 / 2 := ⟨_, rfl⟩
  have g1 : IntKind.i64.wrap ((b : Int) + 1) = (b1 : Int) := by rw [IntKind.wrap_i64]; omega
  have g2 : IntKind.u64.wrap (b1 : Int) = (b1 : Int) := by rw [IntKind.wrap_u64]; omega
  have g3 : (b1 : Int) / 2 = (h : Int) := by omega
  have g4 : IntKind.u64.wrap (h : Int) = (h : Int) := by rw [IntKind.wrap_u64]; omega
  have HHh := hid (show h = (b + 1) / 2 ∧ h ≤ 1216 from by omega)
  have HL := hid (lsh_any a5 l5 c5 _ a5 l5 c5 1 h w6 HR5.out HR5.out (SoA.refl _ _ _) (by
    have := HR5.out.length; rw [words_one] at this; simp at this; omega) (by omega))
  clear hb3 hb4 hh
  go_wp2_with fail
  refine HL.out.mono ?_
  intro e w7 hn7
  obtain ⟨a7, l7, c7, rfl, h1, h2, h3⟩ := NatRes.chain HI5.out (HK5.out.mono (fun k _ h => (HNN.out k h).elim)) hn7
  rw [Nat.one_mul] at h1
  have HR7 := hid h1; have HI7 := hid h2; have HK7 := hid h3
  clear h1 h2 h3 hn7 HL HR5 HI5 HK5 HX5 g1 g2 g3 g4
  obtain ⟨V0, hV0⟩ : ∃ V, V = 2 ^ h := ⟨_, rfl⟩
  rw [← hV0] at HR7
  have HV0 := hid hV0
  have HVb : Hid (V0 ≤ W64 ^ 19) := hid (by rw [hV0]; exact pow_words h 19 (by have := HHh.out.2; omega))
  obtain ⟨M, hM⟩ : ∃ M, M = 1300 := ⟨_, rfl⟩
  have HE : Hid (V0 < 2 ^ M) := hid (by rw [hV0]; exact Nat.pow_lt_pow_right (by omega) (by have := HHh.out.2; omega))
  have HVs : Hid (s ≤ V0 ∧ 0 < V0) := hid (by
    rw [hV0, HHh.out.1]
    exact ⟨root_start HS.out HB.out.1, Nat.two_pow_pos _⟩)
  have HWX : Hid (W64 ^ 38 + W64 ^ 19 ≤ W64 ^ 39) := hid (by
    have h1 : W64 ^ 19 ≤ W64 ^ 38 := Nat.pow_le_pow_right W64_pos (by omega)
    have h2 : W64 ^ 39 = W64 ^ 38 * W64 := Nat.pow_succ _ _
    have h3 : W64 ^ 38 * 2 ≤ W64 ^ 38 * W64 := Nat.mul_le_mul_left _ (by unfold W64; omega)
    omega)
  have HM := hid hM
  clear hV0 hM HHh HB
  go_wp2_with fail
  go_loopw [7, 8, 9] (fun t7 t8 t9 wr => SqRel w p N s V0 V0 t7 t8 t9 wr) (fun _ _ iv _ => (1301 - intOf iv).toNat)
  case atStart =>
    have hk7 := HK7.out
    have hst : Stk w7 p 0 none := ⟨hk7.row HRow.out (HNN.out p), rfl⟩
    exact ⟨a7, l7, c7, V0, none, 0, 0, [], none, 0, rfl, rfl, rfl, ⟨HR7.out, Rd.nil w7, HI7.out.mono HK4.out.size, .inl ⟨rfl, rfl⟩, fun k _ hk => HNN.out k hk, hst, fun s e h => (by cases h), HP.out, HK4.out.trans' hk7 (fun i _ h => (HNN.out i h).elim)⟩, HVs.out.1, HVs.out.2, Nat.le_refl _, by rw [Nat.pow_zero, Nat.mul_one]; exact Nat.sub_le _ _, by omega⟩
  case round =>
    obtain ⟨a1, l1, c1, v, a2, l2, c2, L2, D, n, rfl, rfl, rfl, hS, hv1, hv2, hv3, hv4, hv5⟩ := hrel
    have HV := hid (And.intro hv1 (And.intro hv2 (And.intro hv3 hv4)))
    have hvl : v < W64 ^ 39 := Nat.lt_of_le_of_lt hv3 (Nat.lt_of_le_of_lt HVb.out (Nat.pow_lt_pow_right (by unfold W64; omega) (by omega)))
    have hl1 : l1 ≤ 39 := by rw [← hS.r1.length]; exact words_lt hvl
    obtain ⟨q, hq⟩ : ∃ q, q = N / v := ⟨_, rfl⟩
    obtain ⟨u2, hu2⟩ : ∃ u, u = q + v := ⟨_, rfl⟩
    obtain ⟨u, hu⟩ : ∃ u, u = u2 / 2 := ⟨_, rfl⟩
    have hql : q < W64 ^ 38 := by rw [hq]; exact Nat.lt_of_le_of_lt (Nat.div_le_self _ _) HN.out
    have hul : u2 < W64 ^ 39 := by have := HVb.out; have := HWX.out; omega
    have HD := hid (hS.div HX.out (show v ≠ 0 by omega) (by omega) (by have := Hxl.out; omega) HG.out)
    rw [← hq] at HD
    have HQ := hid hq; have HU2 := hid hu2; have HU := hid hu; have HQl := hid (words_lt hql); have HUl := hid (words_lt hul)
    clear hS hv1 hv2 hv3 hv4 hvl hq hu2 hu hql hul
    go_wp2_with fail
    refine HD.out.mono ?_
    rintro e w8 ⟨qa, ql, qc, ra, rl, rc, D8, rfl, h8⟩
    have H8 := hid h8
    have HAd := hid (add_any qa ql qc _ qa ql qc q a1 l1 c1 v w8 h8.r2 h8.r2 h8.r1 (by have := h8.r2.length; have := HQl.out; omega) (by omega) (Al.refl _ _) (Al.of_ne (fun k h2 h3 => h8.d k h3 h2)))
    rw [← HU2.out] at HAd
    clear h8 HD
    go_wp2_with fail
    refine HAd.out.mono ?_
    rintro e w9 ⟨sa, sl, sc, rfl, h1, h2, h3⟩
    have h9 := H8.out.put h1 h2 h3
    have H9 := hid h9
    have HRs : Hid (Calls Tryz.prog 211 #[.slice sa sl sc, .slice sa sl sc, .int .u64 1] w9 (NatRes w9 sa sc u)) := hid (by
      have := rsh_any sa sl sc _ sa sl sc u2 1 w9 h9.r2 h9.r2 (SoA.refl _ _ _) (by have := h9.r2.length; have := HUl.out; omega) (by omega)
      rw [Nat.pow_one, ← HU.out] at this
      exact this)
    clear h1 h2 h3 h9 HAd H8
    go_wp2_with fail
    refine HRs.out.mono ?_
    rintro e w10 ⟨ta, tl, tc, rfl, h1, h2, h3⟩
    have h10 := H9.out.put h1 h2 h3
    have H10 := hid h10
    have HCm := hid (cmp_any ta tl tc a1 l1 c1 u v w10 h10.r2 h10.r1)
    clear h1 h2 h3 h10 HRs H9
    by_cases hlt : u < v
    · rw [show cmpI u v = -1 by unfold cmpI; rw [if_pos hlt]] at HCm
      obtain ⟨r1, r2, r3⟩ := root_round (n := n) HS.out HV.out.1 HV.out.2.1 (by rw [← HQ.out, ← HU2.out, ← HU.out]; exact hlt) HV.out.2.2.2 M HE.out
      rw [← HQ.out, ← HU2.out, ← HU.out] at r2 r3
      have hu0 : 0 < u := by
        have h1 : 0 < s := by
          rcases Nat.eq_zero_or_pos s with h | h
          · subst h; have h6 : N < 1 := by simpa using HS.out.2
            have := H2.out; omega
          · exact h
        omega
      have g1 : IntKind.i64.wrap ((n : Int) + 1) = (((n + 1 : Nat)) : Int) := by rw [IntKind.wrap_i64]; omega
      have HR := hid (And.intro r2 r3)
      have hn : n < 1300 := by have := HM.out; omega
      have HV3 := hid (show u ≤ V0 by have := HV.out.2.2.1; omega)
      clear r1 r2 r3 hlt
      go_wp2_with fail
      refine HCm.out.mono ?_
      rintro e w11 ⟨rfl, k3, rfl⟩
      clear HCm
      go_wp2_with fail
      exact ⟨⟨ta, tl, tc, u, a1, l1, c1, _, D8, n + 1, rfl, rfl, rfl, (H10.out.drewN k3).swap, HR.out.1, hu0, HV3.out, HR.out.2, by omega⟩, by simp [intOf]; omega⟩
    · have hvs : v = s := root_done HS.out HV.out.1 HV.out.2.1 (by rw [← HQ.out, ← HU2.out, ← HU.out]; omega)
      obtain ⟨cm, hcm⟩ : ∃ cm, cm = cmpI u v := ⟨_, rfl⟩
      have hc0 : decide (0 ≤ cm) = true := by rw [hcm]; unfold cmpI; rw [if_neg hlt]; split <;> simp
      have hc1 : decide (cm ≥ 0) = true := hc0
      rw [← hcm] at HCm
      have HVS := hid hvs
      clear hlt hcm hvs
      have hpar : n % 2 = 0 ∨ n % 2 = 1 := by omega
      rcases hpar with hpar | hpar
      · have hb : bits .and .i64 (n : Int) 1 = 0 := by rw [i64_and1]; omega
        clear hpar
        go_wp2_with fail
        refine HCm.out.mono ?_
        rintro e w11 ⟨rfl, k3, rfl⟩
        have H11 := hid (H10.out.drewN k3)
        clear HCm H10
        go_wp2_with fail
        refine leaves_cons (f := 240) (args := #[.pointer (some ⟨p, 0, none⟩)]) (by simp) (by simp [go_sem]) ?_
        refine (free240_any p 0 D8 _ _ H11.out.st).mono ?_
        rintro e u' w'' ⟨rfl, rfl, hk'⟩
        refine ⟨_, results_tmp rfl _ _ _, ?_⟩
        have hr := H11.out.r1.freed H11.out.st hk'
        rw [HVS.out] at hr
        exact sq_end H11.out hr hk' H11.out.i1
      · have hb : bits .and .i64 (n : Int) 1 = 1 := by rw [i64_and1]; omega
        clear hpar
        go_wp2_with fail
        refine HCm.out.mono ?_
        rintro e w11 ⟨rfl, k3, rfl⟩
        have H11 := hid (H10.out.drewN k3)
        clear HCm H10
        have HSt := hid (set_any none 0 0 [] a1 l1 c1 _ _ (Rd.nil _) H11.out.r1 (by omega))
        go_wp2_with fail
        refine HSt.out.mono ?_
        rintro e w12 ⟨ra', rc', rfl, h1, h2, h3⟩
        have hst12 := H11.out.st.keepK h3 (fun b hb hn => HNN.out b hn)
        have HR12 := hid h1; have HI12 := hid h2; have HK12 := hid h3; have HS12 := hid hst12
        clear h1 h2 h3 hst12 HSt
        go_wp2_with fail
        refine leaves_cons (f := 240) (args := #[.pointer (some ⟨p, 0, none⟩)]) (by simp) (by simp [go_sem]) ?_
        refine (free240_any p 0 D8 _ _ HS12.out).mono ?_
        rintro e u' w'' ⟨rfl, rfl, hk'⟩
        refine ⟨_, results_tmp rfl _ _ _, ?_⟩
        have hr := HR12.out.freed HS12.out hk'
        rw [HVS.out] at hr
        exact sq_end (H11.out.put2 HNN.out HK12.out) hr hk' (HI12.out.mono H11.out.k.size)

end Go.Proofs
namespace Go.Proofs
open Go.RowKit
set_option maxHeartbeats 1000000
set_option linter.unusedVariables false
set_option linter.unusedSimpArgs false
set_option maxRecDepth 100000

theorem sqrt_small (a : Option Addr) (l c : Nat) (L : List Nat) (x : Option Addr) (xl xc N : Nat) (w : World) (hz : Rd w a l c L) (hx : Rd w x xl xc (words N)) (h1 : N ≤ 1) :
    Calls Tryz.prog 224 #[.slice a l c, .pointer none, .slice x xl xc] w (NatRes w a c N) := by
  have HZ := hid hz; have HX := hid hx
  have hxl : xl ≤ 1 := by rw [← hx.length]; exact words_lt (k := 1) (by rw [Nat.pow_one]; unfold W64; omega)
  have HOne := hid (natOne_any w)
  obtain ⟨cm, hcm⟩ : ∃ cm, cm = cmpI N 1 := ⟨_, rfl⟩
  have hc0 : decide (cm ≤ 0) = true := by rw [hcm]; unfold cmpI; rw [if_neg (show ¬ 1 < N by omega)]; split <;> simp
  have HC : Hid (∀ w1 b, Keeps (fun _ => False) w w1 → Rd w1 (some ⟨b, 0, none⟩) 1 1 (words 1) → Calls Tryz.prog 196 #[.slice x xl xc, .slice (some ⟨b, 0, none⟩) 1 1] w1 fun e w' => e = .returned (.int .i64 cm) ∧ ∃ k, w' = w1.drewN k) := hid (fun w1 b hk h1 => by
    rw [hcm]
    exact cmp_any x xl xc (some ⟨b, 0, none⟩) 1 1 N 1 w1 (hx.keep hk (fun _ _ h => h)) h1)
  have Hxl := hid hxl
  clear hz hx hcm h1 hxl
  go_enter_defers Tryz.func224, Tryz.ntmps224
  go_wp2_with fail
  refine HOne.out.mono ?_
  rintro e w1 ⟨b, rfl, h1, h2, h3⟩
  have HK1 := hid h3
  have HC1 := hid (HC.out w1 b h3 h1)
  clear h1 h2 h3 HC HOne
  go_wp2_with fail
  refine HC1.out.mono ?_
  rintro e w2 ⟨rfl, k1, rfl⟩
  have HK2 := hid (HK1.out.drewN k1)
  have HS := hid (set_any a l c _ x xl xc _ (w1.drewN k1) (HZ.out.keep HK2.out (fun _ _ h => h)) (HX.out.keep HK2.out (fun _ _ h => h)) (by have := Hxl.out; omega))
  clear HC1 HK1
  go_wp2_with fail
  refine HS.out.mono ?_
  rintro e w3 ⟨ra, rc, rfl, h1, h2, h3⟩
  have H1 := hid h1; have H2 := hid h2; have H3 := hid h3
  clear h1 h2 h3 HS
  go_wp2_with fail
  refine ⟨_, results_tmp rfl _ _ _, ?_⟩
  exact ⟨ra, xl, rc, rfl, H1.out, H2.out.mono HK2.out.size, HK2.out.any.trans H3.out⟩

/-- The root, for z nil or z = x. -/
theorem sqrt_any (a : Option Addr) (l c : Nat) (x : Option Addr) (xl xc N s : Nat) (w : World) (hz : (a = none ∧ l = 0 ∧ c = 0) ∨ (a = x ∧ l = xl ∧ c = xc)) (hx : Rd w x xl xc (words N)) (hs : IsRoot N s) (hN : N < W64 ^ 38) (G : Glob w) :
    Calls Tryz.prog 224 #[.slice a l c, .pointer none, .slice x xl xc] w (NatRes w a c s) := by
  by_cases h : N ≤ 1
  · have hsN : s = N := hs.unique (by
      have : N = 0 ∨ N = 1 := by omega
      rcases this with rfl | rfl <;> simp [IsRoot])
    rw [hsN]
    rcases hz with ⟨rfl, rfl, rfl⟩ | ⟨rfl, rfl, rfl⟩
    · exact sqrt_small none 0 0 [] x xl xc N w (Rd.nil w) hx h
    · exact sqrt_small a l c _ a l c N w hx hx h
  · have key : ∀ e w', NatRes w none 0 s e w' → NatRes w a c s e w' := by
      rintro e w' ⟨ra, rl, rc, rfl, h1, h2, h3⟩
      refine ⟨ra, rl, rc, rfl, h1, ?_, h3.mono (fun i _ ⟨o, ho⟩ => by cases ho)⟩
      rcases h2 with h2 | ⟨rfl, rfl⟩ | h2
      · exact .inl h2
      · exact .inl ⟨rfl, rfl⟩
      · exact .inr (.inr h2)
    rcases hz with ⟨rfl, rfl, rfl⟩ | ⟨rfl, rfl, rfl⟩
    · exact (sqrt_nil x xl xc N s w hx (by omega) hs hN G).mono key
    · exact (sqrt_same a l c N s w hx (by omega) hs hN G).mono key
end Go.Proofs
