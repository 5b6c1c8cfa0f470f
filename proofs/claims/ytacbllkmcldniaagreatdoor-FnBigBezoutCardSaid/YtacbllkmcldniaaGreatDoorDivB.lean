/- Parts of the proofs over the numbers of any length: Sg, Grow, Stk, Stk2. -/
import Derived.Lib.AppendZerosOnto
import Derived.Defers
import Derived.Laws.BitsAllLaws
import Derived.Test.YtacbllkmcldniaaGreatDoorBaseA
set_option linter.unusedSimpArgs false
set_option linter.unusedVariables false
namespace Go.Proofs
open Go.RowKit
set_option maxHeartbeats 400000
set_option linter.unusedVariables false
set_option linter.unusedSimpArgs false
set_option maxRecDepth 100000

/-! ### Ranges of a block of words, and what turns by cells -/

/-- The cells of a range. -/
def Cl (b o n : Nat) : Nat → Nat → Prop := fun b' i => b' = b ∧ o ≤ i ∧ i < o + n

/-- The greatest length of a slice. -/
def BIGL : Nat := 9223372036854775807
theorem LIM_BIGL : LIM ≤ BIGL := by unfold LIM BIGL; omega
/-- The words from place o on of block b are L. -/
def Sg (w : World) (b o : Nat) (L : List Nat) : Prop := ∃ M, Blk w b M ∧ Words M ∧ M.length ≤ BIGL ∧ o + L.length ≤ M.length ∧ seg M o L.length = L

/-- Only the cells in C, and new blocks, have turned; blocks of words are such still. -/
structure KC (C : Nat → Nat → Prop) (w w' : World) : Prop where
  os : w'.os = w.os
  tape : w'.tape = w.tape
  output : w'.output = w.output
  size : w.heap.size ≤ w'.heap.size
  block : ∀ b, b < w.heap.size → (∀ i, ¬ C b i) → w'.heap[b]? = w.heap[b]?
  words : ∀ b M, Blk w b M → Words M → ∃ M', Blk w' b M' ∧ M'.length = M.length ∧ Words M' ∧ ∀ i, ¬ C b i → M'[i]? = M[i]?

theorem KC.refl (C : Nat → Nat → Prop) (w : World) : KC C w w := ⟨rfl, rfl, rfl, Nat.le_refl _, fun _ _ _ => rfl, fun b M h hw => ⟨M, h, rfl, hw, fun _ _ => rfl⟩⟩
theorem KC.trans' {C D E : Nat → Nat → Prop} {a b c : World} (h : KC C a b) (k : KC D b c) (hC : ∀ x i, x < a.heap.size → C x i → E x i) (hD : ∀ x i, x < a.heap.size → D x i → E x i) : KC E a c := by
  refine ⟨k.os.trans h.os, k.tape.trans h.tape, k.output.trans h.output, Nat.le_trans h.size k.size, fun x hx hn => ?_, fun x M hx hw => ?_⟩
  · exact (k.block x (Nat.lt_of_lt_of_le hx h.size) (fun i hd => hn i (hD x i hx hd))).trans (h.block x hx (fun i hc => hn i (hC x i hx hc)))
  · obtain ⟨M1, h1, h2, h3, h4⟩ := h.words x M hx hw
    obtain ⟨M2, k1, k2, k3, k4⟩ := k.words x M1 h1 h3
    refine ⟨M2, k1, k2.trans h2, k3, fun i hi => ?_⟩
    exact (k4 i (fun hd => hi (hD x i hx.lt hd))).trans (h4 i (fun hc => hi (hC x i hx.lt hc)))
theorem KC.trans {C : Nat → Nat → Prop} {a b c : World} (h : KC C a b) (k : KC C b c) : KC C a c := h.trans' k (fun _ _ _ h => h) (fun _ _ _ h => h)
theorem KC.mono {C D : Nat → Nat → Prop} {a b : World} (h : KC C a b) (hCD : ∀ x i, x < a.heap.size → C x i → D x i) : KC D a b := h.trans' (KC.refl D b) hCD (fun _ _ _ h => h)
theorem KC.drewN {C : Nat → Nat → Prop} {a b : World} (h : KC C a b) (n : Nat) : KC C a (b.drewN n) := ⟨h.os, h.tape, h.output, h.size, h.block, h.words⟩
theorem KC.drew {C : Nat → Nat → Prop} {a b : World} (h : KC C a b) : KC C a b.drew := ⟨h.os, h.tape, h.output, h.size, h.block, h.words⟩
theorem KC.alloc {C : Nat → Nat → Prop} {a b : World} (h : KC C a b) (o : Obj) : KC C a (b.alloc o) := by
  have hk := (Keeps.refl (fun _ => False) b).alloc o
  refine ⟨h.os, h.tape, h.output, Nat.le_trans h.size hk.size, fun x hx hn => ?_, fun x M hx hw => ?_⟩
  · exact (hk.block x (Nat.lt_of_lt_of_le hx h.size) (fun h => h)).trans (h.block x hx hn)
  · obtain ⟨M1, h1, h2⟩ := h.words x M hx hw
    exact ⟨M1, hk.row h1 (fun h => h), h2⟩
theorem KC.of_keeps {w w' : World} {C : Nat → Nat → Prop} (h : Keeps (fun _ => False) w w') : KC C w w' :=
  ⟨h.os, h.tape, h.output, h.size, fun b hb _ => h.block b hb (fun h => h), fun b M hb hw => ⟨M, h.row hb (fun h => h), rfl, hw, fun _ _ => rfl⟩⟩
/-- A range of a block is laid over. -/
theorem KC.splice {w w' : World} {b o : Nat} {Z R : List Nat} (hb : Blk w b Z) (hb' : Blk w' b (splice Z o R)) (hk : Keeps (· = b) w w') (hR : Words R) (hfit : o + R.length ≤ Z.length) : KC (Cl b o R.length) w w' := by
  refine ⟨hk.os, hk.tape, hk.output, hk.size, fun x hx hn => ?_, fun x M hx hw => ?_⟩
  · by_cases hxb : x = b
    · by_cases h0 : R.length = 0
      · subst hxb
        have hnil : R = [] := List.eq_nil_of_length_eq_zero h0
        subst hnil
        rw [splice_nil] at hb'
        unfold Blk RowAt at hb hb'
        rw [hb, hb']
      · exact absurd ⟨hxb, Nat.le_refl _, by omega⟩ (hn o)
    · exact hk.block x hx hxb
  · by_cases hxb : x = b
    · subst hxb
      have := hb.inj hx
      subst this
      refine ⟨_, hb', length_splice hfit, hw.splice hR o, fun i hi => ?_⟩
      rcases Nat.lt_or_ge i o with h | h
      · exact splice_get_lt (by omega) h
      · rcases Nat.lt_or_ge i (o + R.length) with h' | h'
        · exact absurd ⟨rfl, h, h'⟩ hi
        · exact splice_get_ge hfit h'
    · exact ⟨M, hk.row hx hxb, rfl, hw, fun _ _ => rfl⟩
theorem KC.keeps {C : Nat → Nat → Prop} {w w' : World} (h : KC C w w') : Keeps (fun b => ∃ i, C b i) w w' :=
  ⟨h.os, h.tape, h.output, h.size, fun b hb hn => h.block b hb (fun i hi => hn ⟨i, hi⟩)⟩
theorem KC.row {C : Nat → Nat → Prop} {w w' : World} (h : KC C w w') {b : Nat} {t : TypeId} {vs : List Value} (hr : RowAt w b t vs) (hn : ∀ i, ¬ C b i) : RowAt w' b t vs := by
  have := h.block b hr.lt hn
  unfold RowAt at *
  rw [this]; exact hr
/-- A cell of a block that is not one of words. -/
theorem KC.setOther {C : Nat → Nat → Prop} {a b : World} (h : KC C a b) {p : Nat} {t : TypeId} {vs : List Value} (hr : RowAt b p t vs) (ht : t ≠ 177) (hp : (∃ i, C p i) ∨ a.heap.size ≤ p) (o : Nat) (v : Value) : KC C a (b.setCell ⟨p, o, none⟩ v) := by
  have hk : Keeps (· = p) b (b.setCell ⟨p, o, none⟩ v) := Keeps.set1 b p o v
  refine ⟨h.os, h.tape, h.output, Nat.le_trans h.size hk.size, fun x hx hn => ?_, fun x M hx hw => ?_⟩
  · have hxp : x ≠ p := by
      rintro rfl
      rcases hp with ⟨i, hi⟩ | hp
      · exact hn i hi
      · omega
    exact (hk.block x (Nat.lt_of_lt_of_le hx h.size) hxp).trans (h.block x hx hn)
  · obtain ⟨M1, h1, h2⟩ := h.words x M hx hw
    have hxp : x ≠ p := by
      rintro rfl
      exact ht (RowAt.type hr h1)
    exact ⟨M1, hk.row h1 hxp, h2⟩

theorem Sg.words {w : World} {b o : Nat} {L : List Nat} (h : Sg w b o L) : Words L := by
  obtain ⟨M, _, hw, _, _, hL⟩ := h
  rw [← hL]; exact hw.seg _ _
theorem Sg.lt {w : World} {b o : Nat} {L : List Nat} (h : Sg w b o L) : b < w.heap.size := by
  obtain ⟨M, hb, _⟩ := h; exact hb.lt
theorem Sg.keep {C : Nat → Nat → Prop} {w w' : World} {b o : Nat} {L : List Nat} (h : Sg w b o L) (hk : KC C w w') (hn : ∀ i, o ≤ i → i < o + L.length → ¬ C b i) : Sg w' b o L := by
  obtain ⟨M, h1, h2, h3, h4, h5⟩ := h
  obtain ⟨M', k1, k2, k3, k4⟩ := hk.words b M h1 h2
  refine ⟨M', k1, k3, by omega, by omega, ?_⟩
  rw [← h5]
  apply List.ext_getElem?
  intro i
  simp only [seg, List.length_take, List.length_drop]
  by_cases hi : i < L.length
  · rw [List.getElem?_take_of_lt (by omega), List.getElem?_take_of_lt (by omega), List.getElem?_drop, List.getElem?_drop]
    exact k4 _ (hn _ (by omega) (by omega))
  · rw [List.getElem?_eq_none (by simp; omega), List.getElem?_eq_none (by simp; omega)]
theorem Sg.sub {w : World} {b o : Nat} {L : List Nat} (h : Sg w b o L) (j n : Nat) (hj : j + n ≤ L.length) : Sg w b (o + j) (seg L j n) := by
  obtain ⟨M, h1, h2, h3, h4, h5⟩ := h
  have hl : (seg L j n).length = n := length_seg hj
  refine ⟨M, h1, h2, h3, by omega, ?_⟩
  rw [hl]
  conv => rhs; rw [← h5]
  simp only [seg]
  rw [List.drop_take, List.take_take, List.drop_drop, Nat.min_eq_left (by omega)]
theorem Sg.blk {w : World} {b o : Nat} {L : List Nat} (h : Sg w b o L) : ∃ M, Blk w b M ∧ Words M ∧ M.length ≤ BIGL ∧ o + L.length ≤ M.length ∧ seg M o L.length = L := h
theorem Sg.of_splice {w : World} {b o : Nat} {Z R : List Nat} (h : Blk w b (splice Z o R)) (hZ : Words Z) (hl : Z.length ≤ BIGL) (hR : Words R) (hfit : o + R.length ≤ Z.length) : Sg w b o R :=
  ⟨_, h, hZ.splice hR o, by rw [length_splice hfit]; exact hl, by rw [length_splice hfit]; exact hfit, seg_splice_all rfl hfit⟩
/-- A part of a range is laid over. -/
theorem Sg.part {w w' : World} {b o j : Nat} {L R : List Nat} (h : Sg w b o L) (hk : KC (Cl b (o + j) R.length) w w') (hR : Sg w' b (o + j) R) (hfit : j + R.length ≤ L.length) : Sg w' b o (splice L j R) := by
  obtain ⟨M, h1, h2, h3, h4, h5⟩ := h
  obtain ⟨M', k1, k2, k3, k4⟩ := hk.words b M h1 h2
  obtain ⟨M2, r1, r2, r3, r4, r5⟩ := hR
  have := r1.inj k1
  subst this
  have hl : (splice L j R).length = L.length := length_splice hfit
  refine ⟨M2, r1, r2, r3, by omega, ?_⟩
  rw [hl]
  apply List.ext_getElem?
  intro i
  by_cases hi : i < L.length
  · have e : (seg M2 o L.length)[i]? = M2[o + i]? := by
      simp only [seg]; rw [List.getElem?_take_of_lt hi, List.getElem?_drop]
    have e1 : L[i]? = M[o + i]? := by
      conv => lhs; rw [← h5]
      simp only [seg]; rw [List.getElem?_take_of_lt hi, List.getElem?_drop]
    rw [e]
    rcases Nat.lt_or_ge i j with hij | hij
    · rw [splice_get_lt (by omega) hij, e1]
      exact k4 _ (by rintro ⟨_, h, _⟩; omega)
    · rcases Nat.lt_or_ge i (j + R.length) with hir | hir
      · obtain ⟨t, rfl⟩ : ∃ t, i = j + t := ⟨i - j, by omega⟩
        rw [splice_get_in (by omega) (by omega)]
        have e2 : R[t]? = M2[o + j + t]? := by
          conv => lhs; rw [← r5]
          simp only [seg]; rw [List.getElem?_take_of_lt (by omega), List.getElem?_drop]
        rw [e2, Nat.add_assoc]
      · rw [splice_get_ge hfit hir, e1]
        exact k4 _ (by rintro ⟨_, _, h⟩; omega)
  · rw [List.getElem?_eq_none (by simp [seg]; omega), List.getElem?_eq_none (by omega)]
theorem Sg.cell {w : World} {b o : Nat} {L : List Nat} (h : Sg w b o L) {i : Nat} (hi : i < L.length) : w.cell? ⟨b, o + i, none⟩ = some (.int .u64 ((L.getD i 0 : Nat) : Int)) := by
  obtain ⟨M, h1, h2, h3, h4, h5⟩ := h
  rw [Blk.cell h1 (by omega), ← seg_getD (o := o) (n := L.length) hi, h5]
theorem Sg.frozen {w : World} {b o : Nat} {L : List Nat} (h : Sg w b o L) (i : Nat) : w.frozen? ⟨b, i, none⟩ = false := by
  obtain ⟨M, h1, _⟩ := h
  exact Blk.frozen h1 i
theorem Sg.set {w : World} {b o : Nat} {L : List Nat} (h : Sg w b o L) {i : Nat} (hi : i < L.length) {v : Nat} (hv : v < W64) :
    Sg (w.setCell ⟨b, o + i, none⟩ (.int .u64 (v : Int))) b o (L.set i v) ∧ KC (Cl b (o + i) 1) w (w.setCell ⟨b, o + i, none⟩ (.int .u64 (v : Int))) := by
  obtain ⟨M, h1, h2, h3, h4, h5⟩ := h
  have hs := splice_snoc (L := M) (o := o + i) (R := []) (v := v) (by simp; omega)
  simp only [List.length_nil, Nat.add_zero, splice_nil, List.nil_append] at hs
  have hb := Blk.set h1 (o + i) v
  rw [hs] at hb
  have hk := KC.splice h1 hb (Keeps.set1 w b (o + i) _) (Words.cons hv Words.nil) (by simp; omega)
  have hp := Sg.part (j := i) (R := [v]) ⟨M, h1, h2, h3, h4, h5⟩ hk (Sg.of_splice hb h2 h3 (Words.cons hv Words.nil) (by simp; omega)) (by simp; omega)
  have e : Go.Proofs.splice L i [v] = L.set i v := by
    have := splice_snoc (L := L) (o := i) (R := []) (v := v) (by simp; omega)
    simpa using this.symm
  rw [e] at hp
  exact ⟨hp, hk⟩
theorem Sg.rd {w : World} {b o c : Nat} {L : List Nat} {M : List Nat} (h : Sg w b o L) (hb : Blk w b M) (hM : M.length ≤ LIM) (hc : L.length ≤ c) (hoc : o + c ≤ M.length) : Rd w (some ⟨b, o, none⟩) L.length c L := by
  obtain ⟨M', h1, h2, h3, h4, h5⟩ := h
  have := h1.inj hb
  subst this
  exact .inr ⟨b, o, M', rfl, h1, h2, hc, hoc, h5, hM⟩
theorem Rd.sg {w : World} {a : Option Addr} {l c : Nat} {L : List Nat} (h : Rd w a l c L) (hl : 0 < l) : ∃ b o, a = some ⟨b, o, none⟩ ∧ Sg w b o L := by
  have hlen := h.length
  rcases h with ⟨_, _, rfl, _⟩ | ⟨b, o, M, rfl, hb, hw, h1, h2, h3, h4⟩
  · omega
  · exact ⟨b, o, rfl, M, hb, hw, Nat.le_trans h4 LIM_BIGL, by omega, by rw [hlen]; exact h3⟩
theorem Rd.keepC {C : Nat → Nat → Prop} {w w' : World} {a : Option Addr} {l c : Nat} {L : List Nat} (h : Rd w a l c L) (hk : KC C w w') (hn : ∀ b o, a = some ⟨b, o, none⟩ → ∀ i, o ≤ i → i < o + l → ¬ C b i) : Rd w' a l c L := by
  rcases h with h | ⟨b, o, M, rfl, hb, hw, h1, h2, h3, h4⟩
  · exact .inl h
  · obtain ⟨M', k1, k2, k3, k4⟩ := hk.words b M hb hw
    have hs : Sg w b o L := ⟨M, hb, hw, Nat.le_trans h4 LIM_BIGL, by rw [← h3, length_seg (by omega)]; omega, by rw [← h3, length_seg (by omega)]⟩
    have hL : L.length = l := by rw [← h3]; exact length_seg (by omega)
    have := Sg.keep hs hk (fun i h1 h2 => hn b o rfl i h1 (by omega))
    have := this.rd (c := c) k1 (by omega) (by omega) (by omega)
    rwa [hL] at this

/-! ### The vectors -/
theorem subVV_sg (zb zo zc xb xo xc yb yo yc n : Nat) (Z X Y : List Nat) (w : World) (hn : n ≤ 1000000) (hz : Sg w zb zo Z) (hx : Sg w xb xo X) (hy : Sg w yb yo Y) (hZ : Z.length = n) (hX : X.length = n) (hY : Y.length = n)
    (hax : xb ≠ zb ∨ zo ≤ xo ∨ xo + n ≤ zo) (hay : yb ≠ zb ∨ zo ≤ yo ∨ yo + n ≤ zo) :
    Calls Tryz.prog 233 #[.slice (some ⟨zb, zo, none⟩) n zc, .slice (some ⟨xb, xo, none⟩) n xc, .slice (some ⟨yb, yo, none⟩) n yc] w fun e w' =>
      ∃ (R : List Nat) (c : Nat), R.length = n ∧ Words R ∧ c ≤ 1 ∧ val R + val Y = val X + W64 ^ n * c ∧ e = .returned (.int .u64 (c : Int)) ∧ Sg w' zb zo R ∧ KC (Cl zb zo n) w w' := by
  obtain ⟨MZ, z1, z2, z3, z4, z5⟩ := hz
  obtain ⟨MX, x1, x2, x3, x4, x5⟩ := hx
  obtain ⟨MY, y1, y2, y3, y4, y5⟩ := hy
  rw [hZ] at z4 z5; rw [hX] at x4 x5; rw [hY] at y4 y5
  refine (subVV_any zb zo zc xb xo xc yb yo yc n MZ MX MY w hn z1 x1 y1 x2 y2 z4 x4 y4 hax hay).mono ?_
  rintro e w' ⟨R, c, h1, h2, h3, h4, rfl, h5, h6⟩
  rw [x5, y5] at h4
  exact ⟨R, c, h1, h2, h3, h4, rfl, Sg.of_splice h5 z2 z3 h2 (by omega), by have := KC.splice z1 h5 h6 h2 (by omega); rwa [h1] at this⟩
theorem addVV_sg (zb zo zc xb xo xc yb yo yc n : Nat) (Z X Y : List Nat) (w : World) (hn : n ≤ 1000000) (hz : Sg w zb zo Z) (hx : Sg w xb xo X) (hy : Sg w yb yo Y) (hZ : Z.length = n) (hX : X.length = n) (hY : Y.length = n)
    (hax : xb ≠ zb ∨ zo ≤ xo ∨ xo + n ≤ zo) (hay : yb ≠ zb ∨ zo ≤ yo ∨ yo + n ≤ zo) :
    Calls Tryz.prog 230 #[.slice (some ⟨zb, zo, none⟩) n zc, .slice (some ⟨xb, xo, none⟩) n xc, .slice (some ⟨yb, yo, none⟩) n yc] w fun e w' =>
      ∃ (R : List Nat) (c : Nat), R.length = n ∧ Words R ∧ c ≤ 1 ∧ val R + W64 ^ n * c = val X + val Y ∧ e = .returned (.int .u64 (c : Int)) ∧ Sg w' zb zo R ∧ KC (Cl zb zo n) w w' := by
  obtain ⟨MZ, z1, z2, z3, z4, z5⟩ := hz
  obtain ⟨MX, x1, x2, x3, x4, x5⟩ := hx
  obtain ⟨MY, y1, y2, y3, y4, y5⟩ := hy
  rw [hZ] at z4 z5; rw [hX] at x4 x5; rw [hY] at y4 y5
  refine (addVV_any zb zo zc xb xo xc yb yo yc n MZ MX MY w hn z1 x1 y1 x2 y2 z4 x4 y4 hax hay).mono ?_
  rintro e w' ⟨R, c, h1, h2, h3, h4, rfl, h5, h6⟩
  rw [x5, y5] at h4
  exact ⟨R, c, h1, h2, h3, h4, rfl, Sg.of_splice h5 z2 z3 h2 (by omega), by have := KC.splice z1 h5 h6 h2 (by omega); rwa [h1] at this⟩
theorem mulAddVWW_sg (zb zo zc xb xo xc n : Nat) (y r : Nat) (Z X : List Nat) (w : World) (hn : n ≤ 1000000) (hz : Sg w zb zo Z) (hx : Sg w xb xo X) (hZ : Z.length = n) (hX : X.length = n) (hy : y < W64) (hr : r < W64)
    (hax : xb ≠ zb ∨ zo ≤ xo ∨ xo + n ≤ zo) :
    Calls Tryz.prog 286 #[.slice (some ⟨zb, zo, none⟩) n zc, .slice (some ⟨xb, xo, none⟩) n xc, .int .u64 (y : Int), .int .u64 (r : Int)] w fun e w' =>
      ∃ (R : List Nat) (c : Nat), R.length = n ∧ Words R ∧ c < W64 ∧ val R + W64 ^ n * c = val X * y + r ∧ e = .returned (.int .u64 (c : Int)) ∧ Sg w' zb zo R ∧ KC (Cl zb zo n) w w' := by
  obtain ⟨MZ, z1, z2, z3, z4, z5⟩ := hz
  obtain ⟨MX, x1, x2, x3, x4, x5⟩ := hx
  rw [hZ] at z4 z5; rw [hX] at x4 x5
  refine (mulAddVWW_any zb zo zc xb xo xc n y r MZ MX w hn z1 x1 x2 hy hr z4 x4 hax).mono ?_
  rintro e w' ⟨R, c, h1, h2, h3, h4, rfl, h5, h6⟩
  rw [x5] at h4
  exact ⟨R, c, h1, h2, h3, h4, rfl, Sg.of_splice h5 z2 z3 h2 (by omega), by have := KC.splice z1 h5 h6 h2 (by omega); rwa [h1] at this⟩
end Go.Proofs
namespace Go.Proofs
open Go.RowKit
set_option maxHeartbeats 1000000
set_option linter.unusedVariables false
set_option linter.unusedSimpArgs false
set_option maxRecDepth 100000

theorem zeroCells_one (z : Value) (n : Nat) : Builtin.zeroCells #[z] n = (List.replicate n z).toArray := by
  apply Array.ext
  · simp [Builtin.zeroCells]
  · intro i h1 h2
    simp [Builtin.zeroCells, Nat.mod_one]

theorem grow_room (FN : FuncId) (T : TypeId) (h : (FN = 326 ∧ T = 100) ∨ (FN = 306 ∧ T = 101)) (base : Option Addr) (l c n : Nat) (w : World) (hlc : l ≤ c) (hc : c ≤ BIGL) (hn : n ≤ BIGL) (hroom : l + n ≤ c) :
    Calls Tryz.prog FN #[.slice base l c, .int .i64 (n : Int)] w fun e w' => e = .returned (.slice base l c) ∧ w' = w := by
  unfold BIGL at hc hn
  have h1 : ¬ ((n : Int) < 0) := by omega
  have h2 : wrap64 ((c : Int) - (l : Int)) = (c : Int) - (l : Int) := by unfold wrap64; omega
  have h3 : wrap64 ((n : Int) - ((c : Int) - (l : Int))) = (n : Int) - ((c : Int) - (l : Int)) := by unfold wrap64; omega
  have h4 : ¬ ((n : Int) - ((c : Int) - (l : Int)) > 0) := by omega
  rcases h with ⟨rfl, rfl⟩ | ⟨rfl, rfl⟩
  · go_enter Tryz.func326, Tryz.ntmps326
    go_wp2
    go_ret
    exact ⟨rfl, rfl⟩
  · go_enter Tryz.func306, Tryz.ntmps306
    go_wp2
    go_ret
    exact ⟨rfl, rfl⟩

/-- What Grow gives where there is no room. -/
def GrowRes (w : World) (l n : Nat) (M : List Nat) (e : Ending) (w' : World) : Prop :=
  ∃ G, l + n ≤ G ∧ G ≤ BIGL ∧ e = .returned (.slice (some ⟨w.heap.size, 0, none⟩) l G) ∧ Blk w' w.heap.size (M ++ List.replicate (G - M.length) 0) ∧ Keeps (fun _ => False) w w' ∧ w.heap.size < w'.heap.size

theorem grow_grow (FN : FuncId) (T : TypeId) (h : (FN = 326 ∧ T = 100) ∨ (FN = 306 ∧ T = 101)) (base : Option Addr) (l c n : Nat) (M : List Nat) (w : World) (hlc : l ≤ c) (hroom : c < l + n) (hn : l + n ≤ 1000000)
    (hM : M.length = c) (hb : (base = none ∧ c = 0) ∨ ∃ b, base = some ⟨b, 0, none⟩ ∧ Blk w b M) :
    Calls Tryz.prog FN #[.slice base l c, .int .i64 (n : Int)] w (GrowRes w l n M) := by
  have h1 : ¬ ((n : Int) < 0) := by omega
  have h2 : wrap64 ((c : Int) - (l : Int)) = (c : Int) - (l : Int) := by unfold wrap64; omega
  have h3 : wrap64 ((n : Int) - ((c : Int) - (l : Int))) = (n : Int) - ((c : Int) - (l : Int)) := by unfold wrap64; omega
  have h4 : (n : Int) - ((c : Int) - (l : Int)) > 0 := by omega
  obtain ⟨i0, hi0, hz0, hs0, hby⟩ := info_parts info177
  have hold : (Builtin.firstCells i0.size c (.slice base c c)).run Tryz.prog w.drew = .ok (M.map wv).toArray w.drew := by
    rcases hb with ⟨rfl, rfl⟩ | ⟨b, rfl, hb⟩
    · have : M = [] := List.eq_nil_of_length_eq_zero hM
      subst this
      exact run_firstCells_none w.drew i0.size 0 0 0
    · refine run_firstCells_some w.drew i0.size c ⟨b, 0, none⟩ c c (M.map wv) (by rw [hs0]; simp [hM]) (fun j v hj => ?_)
      have hjl : j < M.length := by
        have := (List.getElem?_eq_some_iff.1 hj).1
        simpa using this
      have hadd : (⟨b, 0, none⟩ : Addr).add j = ⟨b, 0 + j, none⟩ := by unfold Addr.add; split <;> simp_all
      rw [hadd]
      refine (Blk.cell (w := w.drew) (RowAt.drew hb) (by omega)).trans ?_
      simp [wv, hjl] at hj
      rw [← hj]
      simp [hjl]
  have hck : c + (l + n - c) = l + n := by omega
  have hrz : ∀ ty, (Builtin.append_ #[T, 3] ty #[.slice base c c, .int .i64 ((n : Int) - ((c : Int) - (l : Int)))]).run Tryz.prog w =
      .ok (.slice (some ⟨w.heap.size, 0, none⟩) (l + n) (grownCap w (l + n) c 177)) (w.drew.alloc (.cells ((M.map wv).toArray ++ Builtin.zeroCells #[.int .u64 0] (l + n - c) ++ Builtin.zeroCells #[.int .u64 0] (grownCap w (l + n) c 177 - (l + n))) 177)) := fun ty => by
    have hT : Tryz.prog.underlying T = some (.slice 177) := by rcases h with ⟨_, rfl⟩ | ⟨_, rfl⟩; exact u100; exact u101
    have h := Lib.run_append_grow_zeros w T 3 ty 177 i0 (.int .u64 0) .i64 .i64 hT Tryz.underlying3 hi0 hz0 base c c (M.map wv) hold (l + n - c) (by omega) (by omega) (by omega) (by omega)
      (by rw [hby]; omega)
      (by rw [hck]
          have h8 : Builtin.nextslicecap (l + n) c ≤ 2 * (l + n) := by
            unfold Builtin.nextslicecap
            split
            · omega
            · split
              · omega
              · have hg : ∀ r x, x ≤ l + n → Builtin.growBy (l + n) r x ≤ 2 * (l + n) ∨ r = 0 ∨ True := fun _ _ _ => .inr (.inr trivial)
                have hgb : ∀ r x, x ≤ 2 * (l + n) → 256 ≤ x → Builtin.growBy (l + n) r x ≤ 2 * (l + n) := by
                  intro r
                  induction r with
                  | zero => intro x hx _; exact hx
                  | succ r ih =>
                    intro x hx h256
                    unfold Builtin.growBy
                    split
                    · exact hx
                    · exact ih _ (by omega) (by omega)
                exact hgb 4 c (by omega) (by omega)
          rw [hby]; omega)
    rw [hck] at h
    rw [show (n : Int) - ((c : Int) - (l : Int)) = ((l + n - c : Nat) : Int) by omega]
    exact h
  have hGn : l + n ≤ grownCap w (l + n) c 177 := grownCap_ge w _ _ _
  have hG63 : grownCap w (l + n) c 177 ≤ BIGL := grownCap_le_maxLen w (l + n) c 177 (by unfold maxLen; omega)
  obtain ⟨G, hG⟩ : ∃ G, G = grownCap w (l + n) c 177 := ⟨_, rfl⟩
  rw [← hG] at hrz hGn hG63
  have hcells : (M.map wv).toArray ++ Builtin.zeroCells #[.int .u64 0] (l + n - c) ++ Builtin.zeroCells #[.int .u64 0] (G - (l + n)) = ((M ++ List.replicate (G - M.length) 0).map wv).toArray := by
    rw [zeroCells_one, zeroCells_one]
    have e : List.replicate (G - M.length) (0 : Nat) = List.replicate (l + n - c) 0 ++ List.replicate (G - (l + n)) 0 := by
      rw [List.replicate_append_replicate]; congr 1; omega
    rw [e]
    simp [wv]
  rw [hcells] at hrz
  have hblk : Blk (w.drew.alloc (.cells ((M ++ List.replicate (G - M.length) 0).map wv).toArray 177)) w.heap.size (M ++ List.replicate (G - M.length) 0) := RowAt.new w.drew 177 _
  have hk : Keeps (fun _ => False) w (w.drew.alloc (.cells ((M ++ List.replicate (G - M.length) 0).map wv).toArray 177)) := (Keeps.refl _ w).drew.alloc _
  have hsz : w.heap.size < (w.drew.alloc (.cells ((M ++ List.replicate (G - M.length) 0).map wv).toArray 177)).heap.size := by simp
  generalize w.drew.alloc (.cells ((M ++ List.replicate (G - M.length) 0).map wv).toArray 177) = w1 at *
  have hG' : G ≤ 9223372036854775807 := hG63
  have HB := hid hblk; have HK := hid hk; have HS := hid hsz
  clear hold hck hG hM hcells hb hblk hk hsz hi0 hz0 hs0 hby
  rcases h with ⟨rfl, rfl⟩ | ⟨rfl, rfl⟩
  · go_enter Tryz.func326, Tryz.ntmps326
    go_wp2_with (at_builtin; refine Lib.wpList_append_run _ rfl _ _ _ _ rfl _ _ rfl rfl _ _ (hrz _) ?_)
    all_goals (go_ret; exact ⟨G, hGn, hG63, rfl, HB.out, HK.out, HS.out⟩)
  · go_enter Tryz.func306, Tryz.ntmps306
    go_wp2_with (at_builtin; refine Lib.wpList_append_run _ rfl _ _ _ _ rfl _ _ rfl rfl _ _ (hrz _) ?_)
    all_goals (go_ret; exact ⟨G, hGn, hG63, rfl, HB.out, HK.out, HS.out⟩)
end Go.Proofs
namespace Go.Proofs
open Go.RowKit
set_option maxHeartbeats 1000000
set_option linter.unusedVariables false
set_option linter.unusedSimpArgs false
set_option maxRecDepth 100000

/-! ### The stack of words -/

/-- The stack at p: empty and without memory (none), or with its inner part in block s and its words in block d; sp words are in use. -/
def Stk (w : World) (p sp : Nat) : Option (Nat × Nat) → Prop
  | none => RowAt w p 240 [.pointer none] ∧ sp = 0
  | some (s, d) => ∃ M, RowAt w p 240 [.pointer (some ⟨s, 0, none⟩)] ∧ RowAt w s 266 [.slice (some ⟨d, 0, none⟩) sp M.length] ∧ Blk w d M ∧ Words M ∧ M.length ≤ BIGL ∧ sp ≤ M.length
/-- The stack's own cells from sp on. -/
def StC (p sp : Nat) (D : Option (Nat × Nat)) : Nat → Nat → Prop := fun b i => b = p ∨ ∃ s d, D = some (s, d) ∧ (b = s ∨ (b = d ∧ sp ≤ i))
/-- The stack's blocks are those that it had, or new ones. -/
def StI (w : World) (D D' : Option (Nat × Nat)) : Prop := ∀ s' d', D' = some (s', d') → ((∃ d, D = some (s', d)) ∨ w.heap.size ≤ s') ∧ ((∃ s, D = some (s, d')) ∨ w.heap.size ≤ d')
/-- A range lies below the stack's top, or in another block. -/
def Under (D : Option (Nat × Nat)) (sp b o n : Nat) : Prop := ∀ s d, D = some (s, d) → b = d → o + n ≤ sp

theorem StI.refl (w : World) (D : Option (Nat × Nat)) : StI w D D := fun s' d' h => ⟨.inl ⟨d', h⟩, .inl ⟨s', h⟩⟩
theorem StI.trans {w w1 : World} {D D1 D2 : Option (Nat × Nat)} (h : StI w D D1) (k : StI w1 D1 D2) (hs : w.heap.size ≤ w1.heap.size) : StI w D D2 := by
  intro s' d' h2
  obtain ⟨a, b⟩ := k s' d' h2
  refine ⟨?_, ?_⟩
  · rcases a with ⟨d, hd⟩ | h3
    · exact (h _ _ hd).1
    · exact .inr (by omega)
  · rcases b with ⟨s, hd⟩ | h3
    · exact (h _ _ hd).2
    · exact .inr (by omega)
theorem Under.none (sp b o n : Nat) : Under none sp b o n := fun _ _ h => by cases h
theorem Under.mono {D : Option (Nat × Nat)} {sp sp' b o n : Nat} (h : Under D sp b o n) (hs : sp ≤ sp') : Under D sp' b o n := fun s d h1 h2 => Nat.le_trans (h s d h1 h2) hs
/-- What lay under the top lies so still. -/
theorem Under.step {w : World} {D D' : Option (Nat × Nat)} {sp sp' b o n : Nat} (h : Under D sp b o n) (hi : StI w D D') (hs : sp ≤ sp') (hb : b < w.heap.size) : Under D' sp' b o n := by
  intro s' d' h1 h2
  subst h2
  rcases (hi s' b h1).2 with ⟨s, hd⟩ | h3
  · exact Nat.le_trans (h s b hd rfl) hs
  · omega
theorem Under.sub {D : Option (Nat × Nat)} {sp b o n o' n' : Nat} (h : Under D sp b o n) (h1 : o' + n' ≤ o + n) : Under D sp b o' n' := fun s d h2 h3 => Nat.le_trans h1 (h s d h2 h3)

theorem Stk.lt {w : World} {p sp : Nat} {D : Option (Nat × Nat)} (h : Stk w p sp D) : p < w.heap.size := by
  cases D with
  | none => exact h.1.lt
  | some x => obtain ⟨s, d⟩ := x; obtain ⟨M, h1, _⟩ := h; exact h1.lt
theorem Stk.ltD {w : World} {p sp s d : Nat} (h : Stk w p sp (some (s, d))) : s < w.heap.size ∧ d < w.heap.size := by
  obtain ⟨M, _, h2, h3, _⟩ := h
  exact ⟨h2.lt, h3.lt⟩
theorem Stk.ne {w : World} {p sp s d : Nat} (h : Stk w p sp (some (s, d))) : p ≠ s ∧ p ≠ d ∧ s ≠ d := by
  obtain ⟨M, h1, h2, h3, _⟩ := h
  refine ⟨?_, ?_, ?_⟩
  · rintro rfl; exact absurd (RowAt.type h1 h2) (by decide)
  · rintro rfl; exact absurd (RowAt.type h1 h3) (by decide)
  · rintro rfl; exact absurd (RowAt.type h2 h3) (by decide)
/-- A range of words is none of the stack's cells from sp on. -/
theorem Stk.not_c {w : World} {p sp b o : Nat} {D : Option (Nat × Nat)} {L : List Nat} (h : Stk w p sp D) (hb : Sg w b o L) (hu : Under D sp b o L.length) : ∀ i, o ≤ i → i < o + L.length → ¬ StC p sp D b i := by
  obtain ⟨M, hM, _⟩ := hb
  rintro i h1 h2 (rfl | ⟨s, d, rfl, rfl | ⟨rfl, h3⟩⟩)
  · cases D with
    | none => exact absurd (RowAt.type h.1 hM) (by decide)
    | some x => obtain ⟨s, d⟩ := x; obtain ⟨N, k1, _⟩ := h; exact absurd (RowAt.type k1 hM) (by decide)
  · obtain ⟨N, _, k2, _⟩ := h; exact absurd (RowAt.type k2 hM) (by decide)
  · have := hu s b rfl rfl; omega
/-- What turns none of the stack's own blocks, but words. -/
theorem Stk.keep {C : Nat → Nat → Prop} {w w' : World} {p sp : Nat} {D : Option (Nat × Nat)} (h : Stk w p sp D) (hk : KC C w w') (hp : ∀ i, ¬ C p i) (hs : ∀ s d, D = some (s, d) → ∀ i, ¬ C s i) : Stk w' p sp D := by
  cases D with
  | none => exact ⟨hk.row h.1 hp, h.2⟩
  | some x =>
    obtain ⟨s, d⟩ := x
    obtain ⟨M, h1, h2, h3, h4, h5, h6⟩ := h
    obtain ⟨M', k1, k2, k3, _⟩ := hk.words d M h3 h4
    exact ⟨M', hk.row h1 hp, by rw [k2]; exact hk.row h2 (hs s d rfl), k1, k3, by omega, by omega⟩
/-- The same where only words turn. -/
theorem Stk.keepCl {w w' : World} {p sp b o o' n : Nat} {D : Option (Nat × Nat)} {L : List Nat} (h : Stk w p sp D) (hb : Sg w b o L) (hk : KC (Cl b o' n) w w') : Stk w' p sp D := by
  obtain ⟨M, hM, _⟩ := hb
  refine h.keep hk ?_ ?_
  · rintro i ⟨rfl, _⟩
    cases D with
    | none => exact absurd (RowAt.type h.1 hM) (by decide)
    | some x => obtain ⟨s, d⟩ := x; obtain ⟨N, k1, _⟩ := h; exact absurd (RowAt.type k1 hM) (by decide)
  · rintro s d rfl i ⟨rfl, _⟩
    obtain ⟨N, _, k2, _⟩ := h
    exact absurd (RowAt.type k2 hM) (by decide)
theorem Stk.keepF {w w' : World} {p sp : Nat} {D : Option (Nat × Nat)} (h : Stk w p sp D) (hk : Keeps (fun _ => False) w w') : Stk w' p sp D :=
  h.keep (C := fun _ _ => False) (KC.of_keeps hk) (fun _ h => h) (fun _ _ _ _ h => h)

theorem Sg.restored {w w' : World} {p sp b o : Nat} {D : Option (Nat × Nat)} {L : List Nat} (h : Sg w b o L) (hs : Stk w p sp D) (hk : KC (fun b _ => ∃ d, D = some (b, d)) w w') : Sg w' b o L := by
  refine h.keep hk ?_
  rintro i _ _ ⟨d, rfl⟩
  obtain ⟨M, hM, _⟩ := h
  obtain ⟨N, _, k2, _⟩ := hs
  exact absurd (RowAt.type k2 hM) (by decide)
theorem isave305 (s sp d : Nat) (c : Nat) (w : World) (h : RowAt w s 266 [.slice (some ⟨d, 0, none⟩) sp c]) :
    Calls Tryz.prog 305 #[.pointer (some ⟨s, 0, none⟩)] w fun e w' => e = .returned (.int .i64 (sp : Int)) ∧ w' = w := by
  have c1 := h.cell 0
  simp at c1
  clear h
  go_enter Tryz.func305, Tryz.ntmps305
  go_wp2_with fail
  go_ret
  exact ⟨rfl, rfl⟩
theorem save271 (p sp : Nat) (D : Option (Nat × Nat)) (w : World) (h : Stk w p sp D) :
    Calls Tryz.prog 271 #[.pointer (some ⟨p, 0, none⟩)] w fun e w' => e = .returned (.int .i64 (sp : Int)) ∧ w' = w := by
  cases D with
  | none =>
    obtain ⟨h1, rfl⟩ := h
    have c1 := h1.cell 0
    simp at c1
    clear h1
    go_enter Tryz.func271, Tryz.ntmps271
    go_wp2_with fail
    go_ret
    exact ⟨rfl, rfl⟩
  | some x =>
    obtain ⟨s, d⟩ := x
    obtain ⟨M, h1, h2, h3, h4, h5, h6⟩ := h
    have HC := hid (isave305 s sp d _ w h2)
    have c1 := h1.cell 0
    simp at c1
    clear h1 h2 h3 h4 h5 h6
    go_enter Tryz.func271, Tryz.ntmps271
    go_wp2_with fail
    refine HC.out.mono ?_
    rintro e w1 ⟨rfl, rfl⟩
    go_wp2_with fail
    go_ret
    exact ⟨rfl, rfl⟩
theorem irestore304 (s sp d n c : Nat) (w : World) (h : RowAt w s 266 [.slice (some ⟨d, 0, none⟩) sp c]) (hn : n ≤ sp) (hsp : sp ≤ c) (hc : c ≤ BIGL) :
    Calls Tryz.prog 304 #[.pointer (some ⟨s, 0, none⟩), .int .i64 (n : Int)] w fun e w' => e = .returned (.tuple #[]) ∧ RowAt w' s 266 [.slice (some ⟨d, 0, none⟩) n c] ∧ w' = w.setCell ⟨s, 0, none⟩ (.slice (some ⟨d, 0, none⟩) n c) := by
  have c1 := h.cell 0
  simp at c1
  have f1 := h.frozen 0
  have hr := h.set 0 (.slice (some ⟨d, 0, none⟩) n c)
  simp at hr
  have HR := hid hr
  unfold BIGL at hc
  clear h hr
  go_enter Tryz.func304, Tryz.ntmps304
  go_wp2_with fail
  go_end0
  exact ⟨rfl, HR.out, rfl⟩
/-- The stack is cut back to n words. -/
theorem restore270 (p sp n : Nat) (D : Option (Nat × Nat)) (u : FrameMode) (w : World) (h : Stk w p sp D) (hn : n ≤ sp) :
    CallsD Tryz.prog 270 #[.pointer (some ⟨p, 0, none⟩), .int .i64 (n : Int)] u w fun e u' w' => u' = u ∧ e = .returned (.tuple #[]) ∧ Stk w' p n D ∧ KC (fun b _ => ∃ d, D = some (b, d)) w w' := by
  cases D with
  | none =>
    obtain ⟨h1, rfl⟩ := h
    have c1 := h1.cell 0
    simp at c1
    have H1 := hid h1
    clear h1
    go_enter_d Tryz.func270, Tryz.ntmps270
    go_wp2_with fail
    exact bodyPost_ret (results_none rfl _ _ _) rfl ⟨rfl, ⟨H1.out, by omega⟩, KC.refl _ _⟩
  | some x =>
    obtain ⟨s, d⟩ := x
    have hne := h.ne
    obtain ⟨M, h1, h2, h3, h4, h5, h6⟩ := h
    have HC := hid (irestore304 s sp d n _ w h2 hn h6 h5)
    have c1 := h1.cell 0
    simp at c1
    have H1 := hid h1; have H2 := hid h2; have H3 := hid h3; have H4 := hid h4
    clear h1 h2 h3 h4
    go_enter_d Tryz.func270, Tryz.ntmps270
    go_wp2_with fail
    refine HC.out.mono ?_
    rintro e w1 ⟨rfl, hr, rfl⟩
    go_wp2_with fail
    go_end0
    refine ⟨rfl, ⟨M, H1.out.other (Ne.symm hne.1) _, hr, RowAt.other H3.out hne.2.2 _, H4.out, h5, by omega⟩, ?_⟩
    exact (KC.refl _ w).setOther H2.out (by decide) (.inl ⟨0, d, rfl⟩) 0 _
end Go.Proofs
namespace Go.Proofs
open Go.RowKit
set_option maxHeartbeats 1000000
set_option linter.unusedVariables false
set_option linter.unusedSimpArgs false
set_option maxRecDepth 100000

theorem andNot3 (i : Nat) (h : i < 1000000000) : bits .andNot .i64 (i : Int) 3 = ((i / 4 * 4 : Nat) : Int) := by
  show IntKind.i64.wrap ((BitVec.ofInt 64 (i : Int) &&& ~~~BitVec.ofInt 64 ((3 : Nat) : Int)).toNat : Int) = _
  rw [BitVec.toNat_and, BitVec.toNat_not, ofInt_u64 i (by omega), ofInt_u64 3 (by omega)]
  have e : 2 ^ 64 - 1 - 3 = 18446744073709551612 := by decide
  rw [e, nat_hi64_2, Nat.mod_eq_of_lt (by omega), IntKind.wrap_i64]
  omega

theorem slice100_to (b l c m : Nat) (h : m ≤ c) :
    ∀ w : World, (Instr.slice 100 (.slice (some ⟨b, 0, none⟩) l c) none (some (.int .i64 (m : Int))) none).run Tryz.prog w = .ok (.slice (some ⟨b, 0, none⟩) m c) w := by
  intro w
  rw [run_slice_h (P := Tryz.prog) w 100 _ l c (by rw [elem100]; exact u100) .i64 (m : Int) (by omega) (by omega), elem100, size177]
  simp only [Result.andThen_ok, sliced, Int.toNat_natCast, Nat.mul_one, Nat.sub_zero]
  congr 2
  split
  · rfl
  · simp [Addr.add]
/-- s[k:k+n:k+n]. -/
theorem slice_cut (T : TypeId) (hT : Tryz.prog.underlying T = some (.slice (Tryz.prog.elem T))) (hE : Tryz.prog.elem T = 177) (b o l c k n : Nat) (hn : 0 < n) (h : k + n ≤ c) :
    ∀ w : World, (Instr.slice T (.slice (some ⟨b, o, none⟩) l c) (some (.int .i64 (k : Int))) (some (.int .i64 ((k : Int) + (n : Int)))) (some (.int .i64 ((k : Int) + (n : Int))))).run Tryz.prog w = .ok (.slice (some ⟨b, o + k, none⟩) n n) w := by
  intro w
  rw [run_slice_lhm (P := Tryz.prog) w T _ l c hT .i64 .i64 .i64 (k : Int) ((k : Int) + (n : Int)) ((k : Int) + (n : Int)) (by omega) (by omega) (by omega) (by omega), hE, size177]
  simp only [Result.andThen_ok, sliced, Int.toNat_natCast, Nat.mul_one]
  have e1 : ((k : Int) + (n : Int)).toNat - k = n := by omega
  rw [e1]
  congr 2
  rw [if_neg (by omega)]
  simp only [Option.map_some, Addr.add]
  by_cases hk : k = 0
  · subst hk; simp
  · simp [hk]
theorem slice100_cut (b l c k n : Nat) (hn : 0 < n) (h : k + n ≤ c) :
    ∀ w : World, (Instr.slice 100 (.slice (some ⟨b, 0, none⟩) l c) (some (.int .i64 (k : Int))) (some (.int .i64 ((k : Int) + (n : Int)))) (some (.int .i64 ((k : Int) + (n : Int))))).run Tryz.prog w = .ok (.slice (some ⟨b, k, none⟩) n n) w := by
  have := slice_cut 100 (by rw [elem100]; exact u100) elem100 b 0 l c k n hn h
  rwa [Nat.zero_add] at this

theorem KC.set1 {w : World} {b o : Nat} {M : List Nat} (h : Blk w b M) (hw : Words M) (ho : o < M.length) {v : Nat} (hv : v < W64) : KC (Cl b o 1) w (w.setCell ⟨b, o, none⟩ (.int .u64 (v : Int))) := by
  have hs := splice_snoc (L := M) (o := o) (R := []) (v := v) (by simp; omega)
  simp only [List.length_nil, Nat.add_zero, splice_nil, List.nil_append] at hs
  have hb := Blk.set h o v
  rw [hs] at hb
  exact KC.splice h hb (Keeps.set1 w b o _) (Words.cons hv Words.nil) (by simp; omega)
/-- What a piece of the stack is: n words at the old top. -/
structure INat (w w' : World) (s sp n : Nat) (base : Option Addr) (b : Nat) : Prop where
  row : ∃ M sp', RowAt w' s 266 [.slice (some ⟨b, 0, none⟩) sp' M.length] ∧ Blk w' b M ∧ Words M ∧ M.length ≤ BIGL ∧ sp + n ≤ sp' ∧ sp' ≤ sp + n + 3 ∧ sp' ≤ M.length
  was : base = some ⟨b, 0, none⟩ ∨ w.heap.size ≤ b
  kc : KC (fun x i => x = s ∨ (base = some ⟨b, 0, none⟩ ∧ x = b ∧ sp ≤ i)) w w'

theorem inat307 (s sp n c : Nat) (base : Option Addr) (M : List Nat) (w : World) (h : RowAt w s 266 [.slice base sp c]) (hM : M.length = c) (hsp : sp ≤ c) (hc : c ≤ BIGL) (hw : Words M)
    (hb : (base = none ∧ c = 0) ∨ ∃ b, base = some ⟨b, 0, none⟩ ∧ Blk w b M) (hn0 : 0 < n) (hn : sp + n ≤ 900000) :
    Calls Tryz.prog 307 #[.pointer (some ⟨s, 0, none⟩), .int .i64 (n : Int)] w fun e w' => ∃ b, e = .returned (.slice (some ⟨b, sp, none⟩) n n) ∧ INat w w' s sp n base b := by
  have c1 := h.cell 0
  simp at c1
  have f1 := h.frozen 0
  obtain ⟨nr, hnr⟩ : ∃ nr, nr = (n + 3) / 4 * 4 := ⟨_, rfl⟩
  have a1 : bits .andNot .i64 ((n : Int) + 3) 3 = (nr : Int) := by
    have := andNot3 (n + 3) (by omega)
    rw [hnr]; rwa [Int.natCast_add] at this
  have hnr1 : n ≤ nr ∧ nr ≤ n + 3 := by omega
  have Hb := hid hb; have Hrow := hid h; have Hw := hid hw
  by_cases hroom : sp + nr ≤ c
  · have hb' : ∃ b, base = some ⟨b, 0, none⟩ ∧ Blk w b M := by
      rcases hb with ⟨rfl, h0⟩ | hb
      · omega
      · exact hb
    obtain ⟨b, rfl, hbk⟩ := hb'
    have HG := hid (grow_room 326 100 (.inl ⟨rfl, rfl⟩) (some ⟨b, 0, none⟩) sp c nr w hsp hc (by unfold BIGL; omega) hroom)
    have s1 := slice100_to b sp c (sp + nr) hroom
    rw [Int.natCast_add] at s1
    have s2 := slice100_cut b (sp + nr) c sp n hn0 (by omega)
    have HB := hid hbk
    have hne : b ≠ s := by rintro rfl; exact absurd (RowAt.type h hbk) (by decide)
    have r1 := hid (h.set 0 (.slice (some ⟨b, 0, none⟩) sp c))
    have r2 := hid (r1.out.set 0 (.slice (some ⟨b, 0, none⟩) (sp + nr) c))
    have HB2 : Hid (Blk ((w.setCell ⟨s, 0, none⟩ (.slice (some ⟨b, 0, none⟩) sp c)).setCell ⟨s, 0, none⟩ (.slice (some ⟨b, 0, none⟩) (sp + nr) c)) b M) := hid (RowAt.other (RowAt.other hbk (Ne.symm hne) _) (Ne.symm hne) _)
    have HK2 : Hid (KC (fun x i => x = s ∨ ((some ⟨b, 0, none⟩ : Option Addr) = some ⟨b, 0, none⟩ ∧ x = b ∧ sp ≤ i)) w ((w.setCell ⟨s, 0, none⟩ (.slice (some ⟨b, 0, none⟩) sp c)).setCell ⟨s, 0, none⟩ (.slice (some ⟨b, 0, none⟩) (sp + nr) c))) :=
      hid (((KC.refl _ w).setOther h (by decide) (.inl ⟨0, .inl rfl⟩) 0 _).setOther r1.out (by decide) (.inl ⟨0, .inl rfl⟩) 0 _)
    have f2 := r1.out.frozen 0
    have cb := Blk.cell hbk (o := sp) (by omega)
    have fb := Blk.frozen hbk sp
    have hv : (1043915 : Nat) < W64 := by unfold W64; omega
    have hne' := Ne.symm hne
    have Hroom := hid hroom; have Hc := hid hc
    clear h hb hbk hw hroom hnr hc
    go_enter Tryz.func307, Tryz.ntmps307
    go_wp2_with fail
    refine HG.out.mono ?_
    rintro e w1 ⟨rfl, rfl⟩
    go_wp2_with fail
    go_ret
    have hroom := Hroom.out; have hc := Hc.out
    refine ⟨b, rfl, ⟨M.set sp 1043915, sp + nr, ?_, ?_, Hw.out.set _ _ hv, by simp; omega, by omega, by omega, by simp; omega⟩, .inl rfl, ?_⟩
    · have := RowAt.other r2.out (p := ⟨b, sp, none⟩) hne (.int .u64 1043915)
      simpa [hM] using this
    · exact Blk.set HB2.out sp 1043915
    · exact HK2.out.trans' (KC.set1 HB2.out Hw.out (by omega) hv) (fun _ _ _ h => by rcases h with h | ⟨_, h⟩; exact .inl h; exact .inr ⟨rfl, h⟩) (by rintro x i _ ⟨rfl, h1, h2⟩; exact .inr ⟨rfl, rfl, h1⟩)
  · have HG := hid (grow_grow 326 100 (.inl ⟨rfl, rfl⟩) base sp c nr M w hsp (by omega) (by omega) hM hb)
    have hsl := h.lt
    have hcG : c < sp + nr := by omega
    have hv : (1043915 : Nat) < W64 := by unfold W64; omega
    clear h hb hw hroom hnr hc
    go_enter Tryz.func307, Tryz.ntmps307
    go_wp2_with fail
    refine HG.out.mono ?_
    rintro e w1 ⟨G, g1, g2, rfl, g3, g4, g5⟩
    have g2' : G ≤ 9223372036854775807 := g2
    obtain ⟨b, hb⟩ : ∃ b, b = w.heap.size := ⟨_, rfl⟩
    rw [← hb] at g3 g5 ⊢
    obtain ⟨N, hN⟩ : ∃ N, N = M ++ List.replicate (G - M.length) 0 := ⟨_, rfl⟩
    rw [← hN] at g3
    have hNl : N.length = G := by rw [hN]; simp; omega
    have hNw : Words N := by rw [hN]; exact Hw.out.append (Words.replicate_zero _)
    have hne : b ≠ s := by omega
    have hne' := Ne.symm hne
    have r0 := hid (g4.row Hrow.out (fun h => h))
    have s1 := slice100_to b sp G (sp + nr) g1
    rw [Int.natCast_add] at s1
    have s2 := slice100_cut b (sp + nr) G sp n hn0 (by omega)
    have r1 := hid (r0.out.set 0 (.slice (some ⟨b, 0, none⟩) sp G))
    have r2 := hid (r1.out.set 0 (.slice (some ⟨b, 0, none⟩) (sp + nr) G))
    have HB2 : Hid (Blk ((w1.setCell ⟨s, 0, none⟩ (.slice (some ⟨b, 0, none⟩) sp G)).setCell ⟨s, 0, none⟩ (.slice (some ⟨b, 0, none⟩) (sp + nr) G)) b N) := hid (RowAt.other (RowAt.other g3 hne' _) hne' _)
    have HK2 : Hid (KC (fun x i => x = s ∨ (base = some ⟨b, 0, none⟩ ∧ x = b ∧ sp ≤ i)) w ((w1.setCell ⟨s, 0, none⟩ (.slice (some ⟨b, 0, none⟩) sp G)).setCell ⟨s, 0, none⟩ (.slice (some ⟨b, 0, none⟩) (sp + nr) G))) :=
      hid (((KC.of_keeps g4).setOther r0.out (by decide) (.inl ⟨0, .inl rfl⟩) 0 _).setOther r1.out (by decide) (.inl ⟨0, .inl rfl⟩) 0 _)
    have c1' := r0.out.cell 0
    have f1' := r0.out.frozen 0
    have f2 := r1.out.frozen 0
    have c2 := r1.out.cell 0
    have c3 := r2.out.cell 0
    simp at c1' c2 c3
    have cb := Blk.cell g3 (o := sp) (by omega)
    have fb := Blk.frozen g3 sp
    have Hb' := hid hb; have HN := hid hNl; have HNw := hid hNw
    clear c1 f1 hb hN g3 g4 g5 hNl hNw
    go_wp2_with fail
    go_ret
    have hNl := HN.out
    have hbe := Hb'.out
    refine ⟨b, rfl, ⟨N.set sp 1043915, sp + nr, ?_, ?_, HNw.out.set _ _ hv, by simp; omega, by omega, by omega, by simp; omega⟩, .inr (by omega), ?_⟩
    · have := RowAt.other r2.out (p := ⟨b, sp, none⟩) hne (.int .u64 1043915)
      simpa [hNl] using this
    · exact Blk.set HB2.out sp 1043915
    · exact HK2.out.trans' (KC.set1 HB2.out HNw.out (by omega) hv) (fun _ _ _ h => h) (by rintro x i hx ⟨rfl, h1, h2⟩; omega)

/-- What the stack's nat leaves: n words in a piece of its own. -/
structure SNat (w w' : World) (p sp n : Nat) (D : Option (Nat × Nat)) (b o : Nat) (sp' : Nat) (D' : Option (Nat × Nat)) : Prop where
  stk : Stk w' p sp' D'
  top : sp ≤ sp' ∧ sp' ≤ sp + n + 3
  sg : ∃ H : List Nat, H.length = n ∧ Sg w' b o H
  under : Under D' sp' b o n
  place : w.heap.size ≤ b ∨ ∃ s, D = some (s, b) ∧ sp ≤ o
  into : StI w D D'
  kc : KC (StC p sp D) w w'

theorem Blk.sg {w : World} {b o n : Nat} {M : List Nat} (h : Blk w b M) (hw : Words M) (hl : M.length ≤ BIGL) (hf : o + n ≤ M.length) : ∃ H : List Nat, H.length = n ∧ Sg w b o H :=
  ⟨seg M o n, length_seg hf, M, h, hw, hl, by rw [length_seg hf]; exact hf, by rw [length_seg hf]⟩

theorem nat272 (p sp n : Nat) (D : Option (Nat × Nat)) (w : World) (h : Stk w p sp D) (hn0 : 0 < n) (hn : sp + n ≤ 900000) :
    Calls Tryz.prog 272 #[.pointer (some ⟨p, 0, none⟩), .int .i64 (n : Int)] w fun e w' => ∃ b o c sp' D', e = .returned (.slice (some ⟨b, o, none⟩) n c) ∧ n ≤ c ∧ c ≤ BIGL ∧ SNat w w' p sp n D b o sp' D' := by
  cases D with
  | none =>
    obtain ⟨h1, rfl⟩ := h
    have c1 := h1.cell 0
    simp at c1
    have f1 := h1.frozen 0
    have H1 := hid h1
    by_cases h4 : n ≤ 4
    · have HG := hid (grow_grow 306 101 (.inr ⟨rfl, rfl⟩) none 0 0 n [] w (Nat.le_refl _) (by omega) (by omega) rfl (.inl ⟨rfl, rfl⟩))
      have t1 : decide ((n : Int) ≤ 4) = true := by simp; omega
      clear h1
      go_enter Tryz.func272, Tryz.ntmps272
      go_wp2_with fail
      refine HG.out.mono ?_
      rintro e w1 ⟨G, g1, g2, rfl, g3, g4, g5⟩
      have g2' : G ≤ 9223372036854775807 := g2
      obtain ⟨b, hb⟩ : ∃ b, b = w.heap.size := ⟨_, rfl⟩
      rw [← hb] at g3 g5 ⊢
      simp only [List.length_nil, Nat.sub_zero, List.nil_append, Nat.zero_add] at g3 g1
      have s1 := slice101_pre b 0 0 G n g1
      have cb := Blk.cell g3 (o := 0) (by simp; omega)
      have fb := Blk.frozen g3 0
      have hv : (11259375 : Nat) < W64 := by unfold W64; omega
      have hkc := KC.set1 (o := 0) g3 (Words.replicate_zero _) (by simp; omega) hv
      have hbk := Blk.set g3 0 11259375
      have hst := (g4.row H1.out (fun h => h)).other (p := ⟨b, 0, none⟩) (show b ≠ p by have := H1.out.lt; omega) (.int .u64 (11259375 : Nat))
      have HK := hid hkc; have HBK := hid hbk; have HST := hid hst; have H4 := hid g4; have Hbe := hid hb
      clear hkc hbk hst g3 g4 g5 hb
      go_wp2_with fail
      go_ret
      have hwd : Words ((List.replicate G 0).set 0 11259375) := (Words.replicate_zero _).set _ _ hv
      refine ⟨b, 0, G, 0, none, rfl, g1, g2, ⟨HST.out, rfl⟩, by omega, Blk.sg HBK.out hwd (by simpa using g2) (by simpa using g1), Under.none _ _ _ _, .inl (by rw [Hbe.out]; exact Nat.le_refl _), StI.refl _ _, ?_⟩
      exact (KC.of_keeps (C := StC p 0 none) H4.out).trans' HK.out (fun _ _ _ h => h) (by rintro x i hx ⟨rfl, _⟩; have := Hbe.out; omega)
    · have t1 : decide ((n : Int) ≤ 4) = false := by simp; omega
      obtain ⟨s, hs⟩ : ∃ s, s = w.heap.size := ⟨_, rfl⟩
      have hpl := h1.lt
      have r2 : RowAt ((w.setCell ⟨p, 0, none⟩ (.pointer (some ⟨s, 0, none⟩))).alloc (.cells #[.slice none 0 0] 266)) s 266 [.slice none 0 0] := by
        have := RowAt.new (w.setCell ⟨p, 0, none⟩ (.pointer (some ⟨s, 0, none⟩))) 266 [.slice none 0 0]
        rw [show (w.setCell ⟨p, 0, none⟩ (.pointer (some ⟨s, 0, none⟩))).heap.size = s by rw [hs]; simp] at this
        exact this
      have r3 : RowAt ((w.setCell ⟨p, 0, none⟩ (.pointer (some ⟨s, 0, none⟩))).alloc (.cells #[.slice none 0 0] 266)) p 240 [.pointer (some ⟨s, 0, none⟩)] := (h1.set 0 _).alloc _
      have k1 : KC (StC p 0 none) w ((w.setCell ⟨p, 0, none⟩ (.pointer (some ⟨s, 0, none⟩))).alloc (.cells #[.slice none 0 0] 266)) := ((KC.refl _ w).setOther h1 (by decide) (.inl ⟨0, .inl rfl⟩) 0 _).alloc _
      obtain ⟨W, hW⟩ : ∃ W, W = ((w.setCell ⟨p, 0, none⟩ (.pointer (some ⟨s, 0, none⟩))).alloc (.cells #[.slice none 0 0] 266)) := ⟨_, rfl⟩
      rw [← hW] at r2 r3 k1
      have HC := hid (inat307 s 0 n 0 none [] W r2 rfl (Nat.le_refl _) (by unfold BIGL; omega) Words.nil (.inl ⟨rfl, rfl⟩) hn0 (by omega))
      have HW := hid hW; have R3 := hid r3; have K1 := hid k1; have Hs := hid hs
      have hsz : W.heap.size = s + 1 := by rw [hW, hs]; simp
      have Hsz := hid hsz
      clear h1 r2 r3 k1 hW hs hsz h4
      go_enter Tryz.func272, Tryz.ntmps272
      go_wp2_with fail
      rw [← Hs.out, ← HW.out]
      refine HC.out.mono ?_
      rintro e w1 ⟨b, rfl, ⟨⟨M, sp', i1, i2, i3, i4, i5, i6, i7⟩, i8, i9⟩⟩
      have I1 := hid i1; have I2 := hid i2; have I3 := hid i3; have I8 := hid i8; have I9 := hid i9
      clear i1 i2 i3 i8 i9
      go_wp2_with fail
      go_ret
      have hbs : W.heap.size ≤ b := by
        rcases I8.out with h | h
        · cases h
        · exact h
      have hse := Hs.out; have hsz := Hsz.out
      refine ⟨b, 0, n, sp', some (s, b), rfl, Nat.le_refl _, by unfold BIGL; omega, ⟨M, I9.out.row R3.out ?_, I1.out, I2.out, I3.out, i4, i7⟩, by omega, Blk.sg I2.out I3.out i4 (by omega), ?_, .inl (by omega), ?_, K1.out.trans' I9.out (fun _ _ _ h => h) ?_⟩
      · rintro i (h | ⟨h, _⟩)
        · omega
        · cases h
      · rintro s' d' h1 h2; cases h1; omega
      · rintro s' d' h1; cases h1; exact ⟨.inr (by omega), .inr (by omega)⟩
      · rintro x i hx (h | ⟨h, _⟩)
        · omega
        · cases h
  | some x =>
    obtain ⟨s, d⟩ := x
    obtain ⟨ne1, ne2, ne3⟩ := h.ne
    obtain ⟨M, h1, h2, h3, h4, h5, h6⟩ := h
    have HC := hid (inat307 s sp n _ (some ⟨d, 0, none⟩) M w h2 rfl h6 h5 h4 (.inr ⟨d, rfl, h3⟩) hn0 hn)
    have c1 := h1.cell 0
    simp at c1
    have H1 := hid h1
    have hpl := h1.lt
    clear h1 h2 h3 h4
    go_enter Tryz.func272, Tryz.ntmps272
    go_wp2_with fail
    refine HC.out.mono ?_
    rintro e w1 ⟨b, rfl, ⟨⟨M', sp', i1, i2, i3, i4, i5, i6, i7⟩, i8, i9⟩⟩
    have I1 := hid i1; have I2 := hid i2; have I3 := hid i3; have I8 := hid i8; have I9 := hid i9
    clear i1 i2 i3 i8 i9
    go_wp2_with fail
    go_ret
    refine ⟨b, sp, n, sp', some (s, b), rfl, Nat.le_refl _, by unfold BIGL; omega, ⟨M', I9.out.row H1.out ?_, I1.out, I2.out, I3.out, i4, i7⟩, by omega, Blk.sg I2.out I3.out i4 (by omega), ?_, ?_, ?_, I9.out.mono ?_⟩
    · rintro i (h | ⟨h, h', _⟩)
      · exact ne1 h
      · cases h; exact ne2 h'
    · rintro s' d' h1 h2; cases h1; omega
    · rcases I8.out with h | h
      · cases h; exact .inr ⟨s, rfl, Nat.le_refl _⟩
      · exact .inl h
    · rintro s' d' h1; cases h1
      refine ⟨.inl ⟨d, rfl⟩, ?_⟩
      rcases I8.out with h | h
      · cases h; exact .inl ⟨_, rfl⟩
      · exact .inr h
    · rintro x i hx (h | ⟨h, h', h3⟩)
      · exact .inr ⟨s, d, rfl, .inl h⟩
      · cases h; exact .inr ⟨s, _, rfl, .inr ⟨h', h3⟩⟩
end Go.Proofs
