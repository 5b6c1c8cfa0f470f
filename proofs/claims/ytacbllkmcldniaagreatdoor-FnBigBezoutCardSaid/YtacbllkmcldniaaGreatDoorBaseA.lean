/- Parts of the proofs over the numbers of any length: Mem, Val, Leaf, Leaf2, Leaf3, Ops, Rd, Nat, Nat2, Cmp, VW, VW2, SW, Add, Sub. -/
import Derived.Below
import Derived.Laws.World
import Derived.Deep.Draws
import Derived.Deep.QuietTactic
import Derived.Test.YtacbllkmcldniaaGreatDoorProg
import Derived.WalkKit
import Derived.WalkLawsBesides
import Derived.WalkSpells
import Derived.BigQuiet
import Derived.Laws.MathBits
import Derived.Laws.Externs
import Derived.Lib.Mul64
import Derived.Laws.Bits64b
import Derived.Laws.CopyOwn
import Derived.Laws.OwnMore
import Derived.LaidEqlPtr
import Derived.StillTailTactics
set_option linter.unusedSimpArgs false
set_option linter.unusedVariables false
namespace Go.Proofs
open Go.RowKit

theorem hid {p : Prop} (h : p) : Hid p := h
/-- A block of memory holds just these cells. -/
def RowAt (w : World) (b : Nat) (t : TypeId) (vs : List Value) : Prop := w.heap[b]? = some (.cells vs.toArray t (0, 0))

theorem RowAt.lt {w : World} {b : Nat} {t : TypeId} {vs : List Value} (h : RowAt w b t vs) : b < w.heap.size := by
  unfold RowAt at h
  rcases Nat.lt_or_ge b w.heap.size with h' | h'
  · exact h'
  · simp [Array.getElem?_eq_none h'] at h

theorem RowAt.cell {w : World} {b : Nat} {t : TypeId} {vs : List Value} (h : RowAt w b t vs) (o : Nat) : w.cell? ⟨b, o, none⟩ = vs[o]? := by
  unfold RowAt at h
  simp [World.cell?, h]

theorem RowAt.frozen {w : World} {b : Nat} {t : TypeId} {vs : List Value} (h : RowAt w b t vs) (o : Nat) : w.frozen? ⟨b, o, none⟩ = false := by
  unfold RowAt at h
  simp [World.frozen?, h]

theorem RowAt.set {w : World} {b : Nat} {t : TypeId} {vs : List Value} (h : RowAt w b t vs) (o : Nat) (v : Value) :
    RowAt (w.setCell ⟨b, o, none⟩ v) b t (vs.set o v) := by
  unfold RowAt at *
  simp [World.setCell, Array.getElem?_modify, h]

theorem RowAt.other {w : World} {b : Nat} {t : TypeId} {vs : List Value} (h : RowAt w b t vs) {p : Addr} (hp : p.block ≠ b) (v : Value) :
    RowAt (w.setCell p v) b t vs := by
  unfold RowAt at *
  simp [World.setCell, Array.getElem?_modify, h, hp]

theorem RowAt.alloc {w : World} {b : Nat} {t : TypeId} {vs : List Value} (h : RowAt w b t vs) (o : Obj) : RowAt (w.alloc o) b t vs := by
  have hl := h.lt
  unfold RowAt at *
  simp only [World.alloc, Array.getElem?_push]
  rw [if_neg (by omega)]
  exact h

theorem RowAt.new (w : World) (t : TypeId) (vs : List Value) : RowAt (w.alloc (.cells vs.toArray t)) w.heap.size t vs := by
  show (w.heap.push _)[w.heap.size]? = _
  simp

theorem RowAt.drew {w : World} {b : Nat} {t : TypeId} {vs : List Value} (h : RowAt w b t vs) : RowAt w.drew b t vs := h
theorem RowAt.drewN {w : World} {b : Nat} {t : TypeId} {vs : List Value} (h : RowAt w b t vs) (n : Nat) : RowAt (w.drewN n) b t vs := h

theorem RowAt.inj {w : World} {b : Nat} {t u : TypeId} {vs us : List Value} (h : RowAt w b t vs) (k : RowAt w b u us) : vs = us := by
  unfold RowAt at *
  rw [h] at k
  injection k with k
  injection k with k1
  simpa using k1

theorem RowAt.type {w : World} {b : Nat} {t u : TypeId} {vs us : List Value} (h : RowAt w b t vs) (k : RowAt w b u us) : t = u := by
  unfold RowAt at *
  rw [h] at k
  injection k with k
  injection k with _ k2

/-- Only the blocks in S, and new ones, have turned. -/
structure Keeps (S : Nat → Prop) (w w' : World) : Prop where
  os : w'.os = w.os
  tape : w'.tape = w.tape
  output : w'.output = w.output
  size : w.heap.size ≤ w'.heap.size
  block : ∀ i, i < w.heap.size → ¬ S i → w'.heap[i]? = w.heap[i]?

theorem Keeps.refl (S : Nat → Prop) (w : World) : Keeps S w w := ⟨rfl, rfl, rfl, Nat.le_refl _, fun _ _ _ => rfl⟩
theorem Keeps.trans {S : Nat → Prop} {a b c : World} (h : Keeps S a b) (k : Keeps S b c) : Keeps S a c :=
  ⟨k.os.trans h.os, k.tape.trans h.tape, k.output.trans h.output, Nat.le_trans h.size k.size,
    fun i hi hn => (k.block i (Nat.lt_of_lt_of_le hi h.size) hn).trans (h.block i hi hn)⟩
theorem Keeps.trans' {S T : Nat → Prop} {a b c : World} (h : Keeps S a b) (k : Keeps T b c) (hT : ∀ i, i < a.heap.size → T i → S i) : Keeps S a c :=
  ⟨k.os.trans h.os, k.tape.trans h.tape, k.output.trans h.output, Nat.le_trans h.size k.size,
    fun i hi hn => (k.block i (Nat.lt_of_lt_of_le hi h.size) (fun ht => hn (hT i hi ht))).trans (h.block i hi hn)⟩
theorem Keeps.mono {S T : Nat → Prop} {a b : World} (h : Keeps S a b) (hST : ∀ i, i < a.heap.size → S i → T i) : Keeps T a b :=
  ⟨h.os, h.tape, h.output, h.size, fun i hi hn => h.block i hi (fun hs => hn (hST i hi hs))⟩
theorem Keeps.drew {S : Nat → Prop} {a b : World} (h : Keeps S a b) : Keeps S a b.drew := ⟨h.os, h.tape, h.output, h.size, h.block⟩
theorem Keeps.drewN {S : Nat → Prop} {a b : World} (h : Keeps S a b) (n : Nat) : Keeps S a (b.drewN n) := ⟨h.os, h.tape, h.output, h.size, h.block⟩
theorem Keeps.alloc {S : Nat → Prop} {a b : World} (h : Keeps S a b) (o : Obj) : Keeps S a (b.alloc o) :=
  ⟨h.os, h.tape, h.output, by have := h.size; simp; omega, fun i hi hn => by
    have := h.size
    simp only [World.alloc, Array.getElem?_push]
    rw [if_neg (by omega)]
    exact h.block i hi hn⟩
theorem Keeps.setCell {S : Nat → Prop} {a b : World} (h : Keeps S a b) (p : Addr) (hp : S p.block ∨ a.heap.size ≤ p.block) (v : Value) : Keeps S a (b.setCell p v) :=
  ⟨h.os, h.tape, h.output, by simpa using h.size, fun i hi hn => by
    have hne : p.block ≠ i := by
      rintro rfl
      rcases hp with hp | hp
      · exact hn hp
      · omega
    simp only [World.setCell, Array.getElem?_modify, if_neg hne]
    exact h.block i hi hn⟩
theorem Keeps.row {S : Nat → Prop} {w w' : World} (h : Keeps S w w') {b : Nat} {t : TypeId} {vs : List Value} (hr : RowAt w b t vs) (hb : ¬ S b) : RowAt w' b t vs := by
  have := h.block b hr.lt hb
  unfold RowAt at *
  rw [this]; exact hr
theorem Keeps.below {w w' : World} {S : Nat → Prop} (h : Keeps S w w') (hS : ∀ i, i < w.heap.size → ¬ S i) : Below w.heap.size w w' :=
  ⟨h.os, h.tape, h.output, h.size, fun i hi => h.block i hi (hS i hi)⟩
theorem Keeps.of_below {w w' : World} (S : Nat → Prop) (h : Below w.heap.size w w') : Keeps S w w' :=
  ⟨h.os, h.tape, h.output, h.size, fun i hi _ => h.block i hi⟩

/-- L with R laid over it from o on. -/
def splice {α : Type} (L : List α) (o : Nat) (R : List α) : List α := L.take o ++ R ++ L.drop (o + R.length)

@[simp] theorem splice_nil {α : Type} (L : List α) (o : Nat) : splice L o [] = L := by simp [splice]
theorem length_splice {α : Type} {L : List α} {o : Nat} {R : List α} (h : o + R.length ≤ L.length) : (splice L o R).length = L.length := by
  simp [splice]; omega
theorem splice_snoc {α : Type} {L : List α} {o : Nat} {R : List α} {v : α} (h : o + R.length < L.length) :
    (splice L o R).set (o + R.length) v = splice L o (R ++ [v]) := by
  have hl : (L.take o ++ R).length = o + R.length := by simp; omega
  unfold splice
  rw [List.set_append_right _ _ (by rw [hl]; omega), hl, Nat.sub_self]
  have hd : L.drop (o + R.length) = L[o + R.length] :: L.drop (o + R.length + 1) := by
    rw [List.drop_eq_getElem_cons h]
  rw [hd, List.set_cons_zero]
  simp [Nat.add_assoc]
theorem splice_get_lt {α : Type} {L : List α} {o : Nat} {R : List α} {i : Nat} (h : o ≤ L.length) (hi : i < o) : (splice L o R)[i]? = L[i]? := by
  unfold splice
  rw [List.append_assoc, List.getElem?_append_left (by simp; omega), List.getElem?_take_of_lt hi]
theorem splice_get_ge {α : Type} {L : List α} {o : Nat} {R : List α} {i : Nat} (h : o + R.length ≤ L.length) (hi : o + R.length ≤ i) : (splice L o R)[i]? = L[i]? := by
  have hl : (L.take o ++ R).length = o + R.length := by simp; omega
  unfold splice
  rw [List.getElem?_append_right (by rw [hl]; exact hi), hl, List.getElem?_drop]
  congr 1; omega
theorem splice_get_in {α : Type} {L : List α} {o : Nat} {R : List α} {i : Nat} (h : o ≤ L.length) (hi : i < R.length) : (splice L o R)[o + i]? = R[i]? := by
  unfold splice
  rw [List.append_assoc, List.getElem?_append_right (by simp; omega)]
  simp only [List.length_take]
  rw [show o + i - min o L.length = i by omega, List.getElem?_append_left hi]
theorem splice_map {α β : Type} (f : α → β) (L : List α) (o : Nat) (R : List α) : (splice L o R).map f = splice (L.map f) o (R.map f) := by
  simp [splice, List.map_take, List.map_drop]
theorem splice_drop_take {α : Type} {L : List α} {o : Nat} {R : List α} (h : o + R.length ≤ L.length) : ((splice L o R).drop o).take R.length = R := by
  unfold splice
  rw [List.append_assoc, List.drop_append_of_le_length (by simp; omega), List.drop_of_length_le (by simp; omega)]
  simp

/-- A word as a value. -/
def wv (x : Nat) : Value := .int .u64 (x : Int)
/-- A block of words. -/
def Blk (w : World) (b : Nat) (L : List Nat) : Prop := RowAt w b 177 (L.map wv)
theorem Blk.cell {w : World} {b : Nat} {L : List Nat} (h : Blk w b L) {o : Nat} (ho : o < L.length) : w.cell? ⟨b, o, none⟩ = some (.int .u64 ((L.getD o 0 : Nat) : Int)) := by
  rw [RowAt.cell h]; simp [wv, ho]
theorem Blk.frozen {w : World} {b : Nat} {L : List Nat} (h : Blk w b L) (o : Nat) : w.frozen? ⟨b, o, none⟩ = false := RowAt.frozen h o
theorem Blk.set {w : World} {b : Nat} {L : List Nat} (h : Blk w b L) (o x : Nat) : Blk (w.setCell ⟨b, o, none⟩ (.int .u64 (x : Int))) b (L.set o x) := by
  have := RowAt.set h o (.int .u64 (x : Int))
  unfold Blk
  rw [List.map_set]
  exact this
theorem Blk.inj {w : World} {b : Nat} {L M : List Nat} (h : Blk w b L) (k : Blk w b M) : L = M := by
  have := RowAt.inj h k
  have hi : ∀ (L M : List Nat), L.map wv = M.map wv → L = M := by
    intro L
    induction L with
    | nil => intro M h; cases M <;> simp_all
    | cons x xs ih =>
      intro M h
      cases M with
      | nil => simp at h
      | cons y ys =>
        simp only [List.map_cons, List.cons.injEq, wv, Value.int.injEq, true_and] at h
        rw [ih ys h.2]
        congr 1
        omega
  exact hi _ _ this
theorem Blk.lt {w : World} {b : Nat} {L : List Nat} (h : Blk w b L) : b < w.heap.size := RowAt.lt h


theorem quiet_left {P : Program} {f : FuncId} {args : Array Value} {w : World} {n : Nat} {v : Value}
    (h : Calls P f args (w.drewN n) fun e w' => e = .returned v ∧ w.drewN n = w') : Calls P f args (w.drewN n) fun e w' => e = .returned v ∧ ∃ m, w' = w.drewN m :=
  h.mono fun _ _ ⟨he, hw⟩ => ⟨he, n, hw.symm⟩
end Go.Proofs
namespace Go.Proofs

/-- How many words there are. -/
def W64 : Nat := 18446744073709551616
theorem W64_pos : 0 < W64 := by unfold W64; omega
theorem W64_two : W64 = 2 ^ 64 := rfl

/-- The number that words are, the lowest one first. -/
def val : List Nat → Nat
  | [] => 0
  | x :: xs => x + W64 * val xs
@[simp] theorem val_nil : val [] = 0 := rfl
@[simp] theorem val_cons (x : Nat) (xs : List Nat) : val (x :: xs) = x + W64 * val xs := rfl

/-- Each is a word. -/
def Words (L : List Nat) : Prop := ∀ x ∈ L, x < W64

theorem Words.nil : Words [] := by intro x h; cases h
theorem Words.cons {x : Nat} {xs : List Nat} (hx : x < W64) (h : Words xs) : Words (x :: xs) := by
  intro y hy
  cases hy with
  | head => exact hx
  | tail _ hy => exact h y hy
theorem Words.head {x : Nat} {xs : List Nat} (h : Words (x :: xs)) : x < W64 := h x (List.mem_cons_self ..)
theorem Words.tail {x : Nat} {xs : List Nat} (h : Words (x :: xs)) : Words xs := fun y hy => h y (List.mem_cons_of_mem _ hy)
theorem Words.append {xs ys : List Nat} (h : Words xs) (k : Words ys) : Words (xs ++ ys) := by
  intro y hy
  rcases List.mem_append.1 hy with hy | hy
  · exact h y hy
  · exact k y hy
theorem Words.snoc {xs : List Nat} {y : Nat} (h : Words xs) (k : y < W64) : Words (xs ++ [y]) := h.append (Words.cons k Words.nil)
theorem Words.left {xs ys : List Nat} (h : Words (xs ++ ys)) : Words xs := fun y hy => h y (List.mem_append_left _ hy)
theorem Words.right {xs ys : List Nat} (h : Words (xs ++ ys)) : Words ys := fun y hy => h y (List.mem_append_right _ hy)
theorem Words.take {xs : List Nat} (h : Words xs) (n : Nat) : Words (xs.take n) := fun y hy => h y (List.mem_of_mem_take hy)
theorem Words.drop {xs : List Nat} (h : Words xs) (n : Nat) : Words (xs.drop n) := fun y hy => h y (List.mem_of_mem_drop hy)
theorem Words.getD {xs : List Nat} (h : Words xs) (i : Nat) : xs.getD i 0 < W64 := by
  rw [List.getD_eq_getElem?_getD]
  cases hh : xs[i]? with
  | none => simpa using W64_pos
  | some v => exact h v (List.mem_of_getElem? hh)
theorem Words.set {xs : List Nat} (h : Words xs) (i v : Nat) (hv : v < W64) : Words (xs.set i v) := by
  intro y hy
  rcases List.mem_or_eq_of_mem_set hy with hy | hy
  · exact h y hy
  · exact hy ▸ hv
theorem Words.replicate_zero (n : Nat) : Words (List.replicate n 0) := by
  intro y hy
  rw [List.eq_of_mem_replicate hy]
  exact W64_pos

theorem val_append (xs ys : List Nat) : val (xs ++ ys) = val xs + W64 ^ xs.length * val ys := by
  induction xs with
  | nil => simp
  | cons x xs ih =>
    simp only [List.cons_append, val_cons, ih, List.length_cons, Nat.pow_succ]
    rw [Nat.mul_add, Nat.add_assoc, Nat.mul_comm (W64 ^ xs.length) W64, Nat.mul_assoc]
theorem val_snoc (xs : List Nat) (y : Nat) : val (xs ++ [y]) = val xs + W64 ^ xs.length * y := by
  rw [val_append]; simp

theorem val_replicate_zero (n : Nat) : val (List.replicate n 0) = 0 := by
  induction n with
  | zero => rfl
  | succ n ih => simp [List.replicate_succ, ih]

theorem val_lt {xs : List Nat} (h : Words xs) : val xs < W64 ^ xs.length := by
  induction xs with
  | nil => simp
  | cons x xs ih =>
    have hx := h.head
    have ht := ih h.tail
    simp only [val_cons, List.length_cons, Nat.pow_succ]
    have : W64 * val xs + W64 ≤ W64 * W64 ^ xs.length := by
      rw [← Nat.mul_succ]; exact Nat.mul_le_mul_left _ ht
    rw [Nat.mul_comm (W64 ^ xs.length) W64]
    omega

/-- n words of a block from o on. -/
def seg {α : Type} (L : List α) (o n : Nat) : List α := (L.drop o).take n
theorem length_seg {α : Type} {L : List α} {o n : Nat} (h : o + n ≤ L.length) : (seg L o n).length = n := by simp [seg]; omega
@[simp] theorem seg_zero {α : Type} (L : List α) (o : Nat) : seg L o 0 = [] := by simp [seg]
theorem seg_succ {L : List Nat} {o k : Nat} (h : o + k < L.length) : seg L o (k + 1) = seg L o k ++ [L.getD (o + k) 0] := by
  unfold seg
  rw [List.take_succ_eq_append_getElem (by simp; omega)]
  simp [h]
theorem val_seg_succ {L : List Nat} {o k : Nat} (h : o + k < L.length) : val (seg L o (k + 1)) = val (seg L o k) + W64 ^ k * L.getD (o + k) 0 := by
  rw [seg_succ h, val_snoc, length_seg (by omega)]
theorem Words.seg {L : List Nat} (h : Words L) (o n : Nat) : Words (seg L o n) := (h.drop o).take n
theorem seg_getD {L : List Nat} {o n i : Nat} (hi : i < n) : (Go.Proofs.seg L o n).getD i 0 = L.getD (o + i) 0 := by
  simp only [Go.Proofs.seg, List.getD_eq_getElem?_getD, List.getElem?_take_of_lt hi, List.getElem?_drop]
theorem seg_all {α : Type} (L : List α) : Go.Proofs.seg L 0 L.length = L := by simp [Go.Proofs.seg]
theorem seg_add {α : Type} (L : List α) (o m n : Nat) : Go.Proofs.seg L o (m + n) = Go.Proofs.seg L o m ++ Go.Proofs.seg L (o + m) n := by
  simp only [Go.Proofs.seg]
  rw [List.take_add, List.drop_drop]

/-- A number's words, the lowest one first; none for 0. -/
def words (n : Nat) : List Nat := if _h : n = 0 then [] else n % W64 :: words (n / W64)
termination_by n
decreasing_by exact Nat.div_lt_self (by omega) (by unfold W64; omega)

theorem words_zero : words 0 = [] := by rw [words]; simp
theorem words_pos {n : Nat} (h : n ≠ 0) : words n = n % W64 :: words (n / W64) := by rw [words]; simp [h]

theorem val_words (n : Nat) : val (words n) = n := by
  induction n using Nat.strongRecOn with
  | _ n ih =>
    by_cases h : n = 0
    · subst h; rw [words_zero]; rfl
    · rw [words_pos h, val_cons, ih _ (Nat.div_lt_self (by omega) (by unfold W64; omega))]
      exact Nat.mod_add_div n W64

theorem words_words (n : Nat) : Words (words n) := by
  induction n using Nat.strongRecOn with
  | _ n ih =>
    by_cases h : n = 0
    · subst h; rw [words_zero]; exact Words.nil
    · rw [words_pos h]
      exact Words.cons (Nat.mod_lt _ W64_pos) (ih _ (Nat.div_lt_self (by omega) (by unfold W64; omega)))

/-- Words without noughts at the end. -/
def trimZ : List Nat → List Nat
  | [] => []
  | x :: xs => let r := trimZ xs; if r = [] ∧ x = 0 then [] else x :: r

theorem val_trimZ (L : List Nat) : val (trimZ L) = val L := by
  induction L with
  | nil => rfl
  | cons x xs ih =>
    simp only [trimZ]
    split
    · rename_i h
      rw [h.1] at ih
      simp [h.2, ← ih]
    · simp [ih]

theorem trimZ_eq_words {L : List Nat} (h : Words L) : trimZ L = words (val L) := by
  induction L with
  | nil => rw [val_nil, words_zero]; rfl
  | cons x xs ih =>
    have ih' := ih h.tail
    have hx := h.head
    simp only [trimZ, val_cons]
    by_cases h0 : val xs = 0
    · rw [h0, words_zero] at ih'
      rw [ih', h0]
      by_cases hx0 : x = 0
      · subst hx0; simp [words_zero]
      · rw [words_pos (by omega)]
        simp only [Nat.mul_zero, Nat.add_zero]
        rw [Nat.mod_eq_of_lt hx, Nat.div_eq_of_lt hx, words_zero]
        simp [hx0]
    · have hne : trimZ xs ≠ [] := by rw [ih', words_pos h0]; simp
      rw [if_neg (by simp [hne])]
      have hv : 0 < val xs := by omega
      have hp : 0 < W64 * val xs := Nat.mul_pos W64_pos hv
      rw [words_pos (n := x + W64 * val xs) (by omega), Nat.add_mul_mod_self_left, Nat.mod_eq_of_lt hx, Nat.add_mul_div_left _ _ W64_pos, Nat.div_eq_of_lt hx, Nat.zero_add, ih']

theorem trimZ_append_zero (L : List Nat) : trimZ (L ++ [0]) = trimZ L := by
  induction L with
  | nil => simp [trimZ]
  | cons x xs ih => simp only [List.cons_append, trimZ, ih]
theorem trimZ_append_pos (L : List Nat) (x : Nat) (h : x ≠ 0) : trimZ (L ++ [x]) = L ++ [x] := by
  induction L with
  | nil => simp [trimZ, h]
  | cons y ys ih => simp only [List.cons_append, trimZ, ih]; simp

theorem words_lt {n k : Nat} (h : n < W64 ^ k) : (words n).length ≤ k := by
  induction k generalizing n with
  | zero => have : n = 0 := by simpa using h
            subst this; rw [words_zero]; simp
  | succ k ih =>
    by_cases h0 : n = 0
    · subst h0; rw [words_zero]; simp
    · rw [words_pos h0, List.length_cons]
      have : n / W64 < W64 ^ k := by
        rw [Nat.div_lt_iff_lt_mul W64_pos, ← Nat.pow_succ]; exact h
      have := ih this
      omega
theorem lt_words (n : Nat) : n < W64 ^ (words n).length := by
  have := val_lt (words_words n)
  rwa [val_words] at this
theorem words_ge {n : Nat} (h : n ≠ 0) : W64 ^ ((words n).length - 1) ≤ n := by
  rcases Nat.lt_or_ge n (W64 ^ ((words n).length - 1)) with h' | h'
  · have := words_lt h'
    have h2 : (words n).length ≠ 0 := by rw [words_pos h]; simp
    omega
  · exact h'
theorem words_ne_nil {n : Nat} (h : n ≠ 0) : words n ≠ [] := by rw [words_pos h]; simp
theorem words_length_pos {n : Nat} (h : n ≠ 0) : 0 < (words n).length := by rw [words_pos h]; simp
theorem words_length_zero {n : Nat} (h : (words n).length = 0) : n = 0 := by
  have := val_words n
  rw [List.length_eq_zero_iff.1 h] at this
  simpa using this.symm
theorem words_inj {m n : Nat} (h : words m = words n) : m = n := by rw [← val_words m, ← val_words n, h]
theorem words_mono {m n : Nat} (h : m ≤ n) : (words m).length ≤ (words n).length := words_lt (Nat.lt_of_le_of_lt h (lt_words n))

/-- Words whose number has as many words: they are its words. -/
theorem eq_words_of_length {L : List Nat} (h : Words L) (hl : (words (val L)).length = L.length) : L = words (val L) := by
  have ht := trimZ_eq_words h
  have key : ∀ M : List Nat, (trimZ M).length = M.length → trimZ M = M := by
    intro M
    induction M with
    | nil => intro _; rfl
    | cons x xs ih =>
      intro hM
      simp only [trimZ] at *
      split at hM
      · simp at hM
      · rename_i hc
        rw [if_neg hc]
        simp only [List.length_cons] at hM
        rw [ih (by omega)]
  rw [← ht]
  exact (key L (by rw [ht]; exact hl)).symm

/-- A number's highest word is not 0. -/
theorem words_last {n : Nat} (h : n ≠ 0) : (words n).getD ((words n).length - 1) 0 ≠ 0 := by
  induction n using Nat.strongRecOn with
  | _ n ih =>
    rw [words_pos h]
    by_cases h1 : n / W64 = 0
    · rw [h1, words_zero]
      have : n < W64 := by
        rcases Nat.lt_or_ge n W64 with h' | h'
        · exact h'
        · have := Nat.div_pos h' W64_pos
          omega
      simp [Nat.mod_eq_of_lt this, h]
    · have h2 := ih _ (Nat.div_lt_self (by omega) (by unfold W64; omega)) h1
      have h3 := words_length_pos h1
      simp only [List.length_cons, Nat.add_sub_cancel]
      obtain ⟨m, hm⟩ : ∃ m, (words (n / W64)).length = m + 1 := ⟨_, (Nat.sub_add_cancel h3).symm⟩
      rw [hm] at h2 ⊢
      simpa using h2

end Go.Proofs
namespace Go.Proofs
open Go.RowKit
set_option maxHeartbeats 400000
set_option linter.unusedVariables false

/-! Words added, subtracted and multiplied with what is carried. -/
def adLo (x y c : Nat) : Nat := (x + y + c) % W64
def adHi (x y c : Nat) : Nat := (x + y + c) / W64
def sbLo (x y c : Nat) : Nat := (x + W64 - y - c) % W64
def sbHi (x y c : Nat) : Nat := if x < y + c then 1 else 0
def muLo (x y : Nat) : Nat := x * y % W64
def muHi (x y : Nat) : Nat := x * y / W64

theorem run_Add64 (x y c : Nat) (hc : c ≤ 1) (w : World) :
    (callFunc 299 #[.int .u64 x, .int .u64 y, .int .u64 c]).run Tryz.prog w =
      .ok (.value (.tuple #[.int .u64 (adLo x y c : Int), .int .u64 (adHi x y c : Int)])) w := by
  rw [run_callFunc_extern Tryz.func299 (by kernel_rfl) (by kernel_rfl) (by kernel_rfl) (e := add64Entry) (by kernel_rfl), run_add64 x y c (by omega) (by omega) (by omega) (by omega)]
  simp only [Result.andThen, adLo, adHi, W64]
  congr 5 <;> omega

/-- The model's entry for math/bits.Sub64. -/
def sub64E : Array Value → Sem Value := fun args => do
  let (x, y, b) ← Extern.MathBitsCarry.three "Sub64" args
  pure (Extern.MathBitsCarry.pair ((x + Extern.MathBitsCarry.m64 - y - b) % Extern.MathBitsCarry.m64) (if x < y + b then 1 else 0))

theorem run_sub64E (x y b : Nat) (hb : b ≤ 1) (w : World) :
    (sub64E #[.int .u64 x, .int .u64 y, .int .u64 b]).run Tryz.prog w =
      .ok (.tuple #[.int .u64 (sbLo x y b : Int), .int .u64 (sbHi x y b : Int)]) w := by
  have : b = 0 ∨ b = 1 := by omega
  rcases this with rfl | rfl <;> rfl

theorem run_Sub64 (x y c : Nat) (hc : c ≤ 1) (w : World) :
    (callFunc 301 #[.int .u64 x, .int .u64 y, .int .u64 c]).run Tryz.prog w =
      .ok (.value (.tuple #[.int .u64 (sbLo x y c : Int), .int .u64 (sbHi x y c : Int)])) w := by
  rw [run_callFunc_extern Tryz.func301 (by kernel_rfl) (by kernel_rfl) (by kernel_rfl) (e := sub64E) (by kernel_rfl), run_sub64E x y c hc]
  rfl

theorem bits_Add (x y c : Nat) (hc : c ≤ 1) (w : World) : Calls Tryz.prog 261 #[.int .u64 x, .int .u64 y, .int .u64 c] w
    fun e w' => e = .returned (.tuple #[.int .u64 (adLo x y c : Int), .int .u64 (adHi x y c : Int)]) ∧ w = w' := by
  have h64 := run_Add64 x y c hc
  clear hc
  go_enter Tryz.func261, Tryz.ntmps261
  go_wp2
  go_ret2
  exact ⟨rfl, rfl⟩

theorem bits_Sub (x y c : Nat) (hc : c ≤ 1) (w : World) : Calls Tryz.prog 263 #[.int .u64 x, .int .u64 y, .int .u64 c] w
    fun e w' => e = .returned (.tuple #[.int .u64 (sbLo x y c : Int), .int .u64 (sbHi x y c : Int)]) ∧ w = w' := by
  have h64 := run_Sub64 x y c hc
  clear hc
  go_enter Tryz.func263, Tryz.ntmps263
  go_wp2
  go_ret2
  exact ⟨rfl, rfl⟩

theorem adHi_le {x y c : Nat} (hx : x < W64) (hy : y < W64) (hc : c ≤ 1) : adHi x y c ≤ 1 := by
  unfold adHi
  have : x + y + c < W64 * 2 := by omega
  have := Nat.div_lt_of_lt_mul this
  omega
theorem ad_eq (x y c : Nat) : adLo x y c + W64 * adHi x y c = x + y + c := Nat.mod_add_div _ _
theorem adLo_lt (x y c : Nat) : adLo x y c < W64 := Nat.mod_lt _ W64_pos
theorem sbLo_lt (x y c : Nat) : sbLo x y c < W64 := Nat.mod_lt _ W64_pos
theorem sbHi_le (x y c : Nat) : sbHi x y c ≤ 1 := by unfold sbHi; split <;> omega
theorem sb_eq {x y c : Nat} (hx : x < W64) (hy : y < W64) (hc : c ≤ 1) : sbLo x y c + y + c = x + W64 * sbHi x y c := by
  unfold sbLo sbHi
  split
  · rename_i h
    rw [Nat.mod_eq_of_lt (by omega)]
    omega
  · rename_i h
    have : x + W64 - y - c = (x - y - c) + W64 := by omega
    rw [this, Nat.add_mod_right, Nat.mod_eq_of_lt (by omega)]
    omega
theorem mu_eq (x y : Nat) : muLo x y + W64 * muHi x y = x * y := Nat.mod_add_div _ _
theorem muLo_lt (x y : Nat) : muLo x y < W64 := Nat.mod_lt _ W64_pos
theorem muHi_lt {x y : Nat} (hx : x < W64) (hy : y < W64) : muHi x y < W64 := by
  unfold muHi
  rw [Nat.div_lt_iff_lt_mul W64_pos]
  exact Nat.mul_lt_mul_of_lt_of_le hx (Nat.le_of_lt hy) (by omega)

/-! A loop's relation. -/
def AddRel (w : World) (zb zo n : Nat) (Z X Y : List Nat) (xo yo : Nat) (c i : Value) (wr : World) : Prop :=
  ∃ (k : Nat) (R : List Nat) (cc : Nat), k ≤ n ∧ R.length = k ∧ Words R ∧ cc ≤ 1 ∧ c = .int .u64 (cc : Int) ∧ i = .int .i64 (k : Int) ∧
    val R + W64 ^ k * cc = val (seg X xo k) + val (seg Y yo k) ∧ Blk wr zb (splice Z zo R) ∧ Keeps (· = zb) w wr

/-- A place that is read while another range of the block is laid over. -/
theorem Blk.read {w wr : World} {zb xb zo xo n k : Nat} {Z X R : List Nat} (hz : Blk w zb Z) (hx : Blk w xb X) (hb : Blk wr zb (splice Z zo R)) (hk : Keeps (· = zb) w wr)
    (hR : R.length = k) (hkn : k < n) (hzn : zo + n ≤ Z.length) (hxn : xo + n ≤ X.length) (ha : xb ≠ zb ∨ zo ≤ xo ∨ xo + n ≤ zo) :
    wr.cell? ⟨xb, xo + k, none⟩ = some (.int .u64 ((X.getD (xo + k) 0 : Nat) : Int)) := by
  by_cases hxz : xb = zb
  · subst hxz
    have := hz.inj hx
    subst this
    have hl : (splice Z zo R).length = Z.length := length_splice (by omega)
    rw [Blk.cell hb (by rw [hl]; omega)]
    have : (splice Z zo R)[xo + k]? = Z[xo + k]? := by
      rcases Nat.lt_or_ge (xo + k) zo with h | h
      · exact splice_get_lt (by omega) h
      · exact splice_get_ge (by omega) (by omega)
    simp only [List.getD_eq_getElem?_getD, this]
  · have := hk.row hx (by simpa using hxz)
    exact Blk.cell this (by omega)

theorem addVV_g_any (zb zo zc xb xo xc yb yo yc n : Nat) (Z X Y : List Nat) (w : World) (hn : n ≤ 1000000) (hz : Blk w zb Z) (hx : Blk w xb X) (hy : Blk w yb Y)
    (hwx : Words X) (hwy : Words Y)
    (hzn : zo + n ≤ Z.length) (hxn : xo + n ≤ X.length) (hyn : yo + n ≤ Y.length) (hax : xb ≠ zb ∨ zo ≤ xo ∨ xo + n ≤ zo) (hay : yb ≠ zb ∨ zo ≤ yo ∨ yo + n ≤ zo) :
    Calls Tryz.prog 260 #[.slice (some ⟨zb, zo, none⟩) n zc, .slice (some ⟨xb, xo, none⟩) n xc, .slice (some ⟨yb, yo, none⟩) n yc] w
      fun e w' => ∃ (R : List Nat) (c : Nat), R.length = n ∧ Words R ∧ c ≤ 1 ∧ val R + W64 ^ n * c = val (seg X xo n) + val (seg Y yo n) ∧ e = .returned (.int .u64 (c : Int)) ∧
        Blk w' zb (splice Z zo R) ∧ Keeps (· = zb) w w' := by
  have Hz := hid hz; have Hx := hid hx; have Hy := hid hy; have Hax := hid hax; have Hay := hid hay; have Hwx := hid hwx; have Hwy := hid hwy
  clear hz hx hy hax hay hwx hwy
  go_enter Tryz.func260, Tryz.ntmps260
  go_wp2
  go_loopw [6, 25] (fun c i wr => AddRel w zb zo n Z X Y xo yo c i wr) (fun _ i _ => n - (intOf i).toNat)
  case atStart => exact ⟨0, [], 0, Nat.zero_le _, rfl, Words.nil, by omega, rfl, rfl, by simp, by simpa using Hz.out, Keeps.refl _ _⟩
  case round =>
    obtain ⟨k, R, cc, hk, hR, hW, hcc, rfl, rfl, hv, hb, hkeep⟩ := hrel
    have HR := hid hR; have HW := hid hW; have Hv := hid hv; have Hb := hid hb; have Hkeep := hid hkeep
    clear hR hW hv hb hkeep
    by_cases hlt : k < n
    · have c1 := Blk.read Hz.out Hx.out Hb.out Hkeep.out HR.out hlt hzn hxn Hax.out
      have c2 := Blk.read Hz.out Hy.out Hb.out Hkeep.out HR.out hlt hzn hyn Hay.out
      have c3 := Blk.read Hz.out Hz.out Hb.out Hkeep.out HR.out hlt hzn hzn (.inr (.inl (Nat.le_refl _)))
      have c4 := Blk.frozen Hb.out (zo + k)
      go_wp2_with fail
      go_quiet ((go_at_call 261; exact quiet_left (bits_Add _ _ _ (by assumption) _)))
      go_wp2_with fail
      refine ⟨⟨k + 1, R ++ [adLo (X.getD (xo + k) 0) (Y.getD (yo + k) 0) cc], adHi (X.getD (xo + k) 0) (Y.getD (yo + k) 0) cc, by omega, by simp [HR.out], HW.out.snoc (adLo_lt _ _ _), adHi_le (Hwx.out.getD _) (Hwy.out.getD _) hcc, by simp, by simp, ?_, ?_, ?_⟩, by simp [intOf]; omega⟩
      · rw [val_snoc, HR.out, val_seg_succ (by omega), val_seg_succ (by omega), Nat.pow_succ]
        have e := ad_eq (X.getD (xo + k) 0) (Y.getD (yo + k) 0) cc
        have e2 : W64 ^ k * (adLo (X.getD (xo + k) 0) (Y.getD (yo + k) 0) cc + W64 * adHi (X.getD (xo + k) 0) (Y.getD (yo + k) 0) cc) = W64 ^ k * (X.getD (xo + k) 0 + Y.getD (yo + k) 0 + cc) := by rw [e]
        simp only [Nat.mul_add, ← Nat.mul_assoc] at e2
        have := Hv.out
        omega
      · have := Blk.set (w := wr.drewN nq) (b := zb) (L := splice Z zo R) Hb.out (zo + k) (adLo (X.getD (xo + k) 0) (Y.getD (yo + k) 0) cc)
        rw [← HR.out, splice_snoc (by rw [HR.out]; omega)] at this
        simpa [HR.out] using this
      · exact (Hkeep.out.drewN _).setCell _ (.inl rfl) _
    · obtain rfl : k = n := by omega
      go_wp2_with fail
      go_ret
      exact ⟨R, cc, HR.out, HW.out, hcc, Hv.out, rfl, Hb.out, Hkeep.out⟩
end Go.Proofs
namespace Go.Proofs
open Go.RowKit
set_option maxHeartbeats 400000
set_option linter.unusedVariables false

namespace Mul64
theorem maskN (a : Nat) (ha : a < 18446744073709551616) : bits .and .u64 (a : Int) 4294967295 = ((a % 4294967296 : Nat) : Int) := by
  have h := bits_and_u64_nat a 4294967295 ha (by omega)
  have e : a &&& 4294967295 = a % 4294967296 := Nat.and_two_pow_sub_one_eq_mod a 32
  rw [e] at h
  exact h
theorem divN (a : Nat) : (a : Int) / 4294967296 = ((a / 4294967296 : Nat) : Int) := by omega
theorem mulN (a b : Nat) : (a : Int) * (b : Int) = ((a * b : Nat) : Int) := (Int.natCast_mul a b).symm
theorem addN (a b : Nat) : (a : Int) + (b : Int) = ((a + b : Nat) : Int) := (Int.natCast_add a b).symm
theorem wrapN (a : Nat) (ha : a < 18446744073709551616) : IntKind.u64.wrap (a : Int) = (a : Int) := by rw [IntKind.wrap_u64]; omega
theorem wrapM (a : Nat) : IntKind.u64.wrap (a : Int) = ((a % 18446744073709551616 : Nat) : Int) := by rw [IntKind.wrap_u64]; omega
end Mul64

set_option maxHeartbeats 1000000 in
theorem bits_Mul64 (x y : Nat) (hx : x < W64) (hy : y < W64) (w : World) :
    Calls Tryz.prog 324 #[.int .u64 x, .int .u64 y] w fun e w' => e = .returned (.tuple #[.int .u64 (muHi x y : Int), .int .u64 (muLo x y : Int)]) ∧ w = w' := by
  unfold W64 at hx hy
  obtain ⟨bd, bt, bw, hhi⟩ := Lib.mul64_hi x y hx hy
  have ba := Lib.half_mul_le (a := x / 4294967296) (b := y / 4294967296) (by omega) (by omega)
  have bb := Lib.half_mul_le (a := x / 4294967296) (b := y % 4294967296) (by omega) (by omega)
  have bc := Lib.half_mul_le (a := x % 4294967296) (b := y / 4294967296) (by omega) (by omega)
  have ba' : x / 4294967296 * (y / 4294967296) < 18446744073709551616 := by omega
  have bb' : x / 4294967296 * (y % 4294967296) < 18446744073709551616 := by omega
  have bc' : x % 4294967296 * (y / 4294967296) < 18446744073709551616 := by omega
  have bh1 : x / 4294967296 * (y / 4294967296) + (x / 4294967296 * (y % 4294967296) + x % 4294967296 * (y % 4294967296) / 4294967296) / 4294967296 < 18446744073709551616 := by omega
  have bh : x / 4294967296 * (y / 4294967296) + (x / 4294967296 * (y % 4294967296) + x % 4294967296 * (y % 4294967296) / 4294967296) / 4294967296 + ((x / 4294967296 * (y % 4294967296) + x % 4294967296 * (y % 4294967296) / 4294967296) % 4294967296 + x % 4294967296 * (y / 4294967296)) / 4294967296 < 18446744073709551616 := by omega
  go_enter Tryz.func324, Tryz.ntmps324
  go_wp2
  simp only [Mul64.maskN x hx, Mul64.maskN y hy, Mul64.divN, Mul64.mulN, Mul64.addN, Mul64.wrapN _ bd, Mul64.wrapN _ bb', Mul64.wrapN _ bt, Mul64.maskN _ bt, Mul64.wrapN _ bc', Mul64.wrapN _ bw, Mul64.wrapN _ ba', Mul64.wrapN _ bh1, Mul64.wrapN _ bh, Mul64.wrapM (x * y)]
  rw [hhi]
  go_ret2
  exact ⟨rfl, rfl⟩

theorem bits_Mul (x y : Nat) (hx : x < W64) (hy : y < W64) (w : World) :
    Calls Tryz.prog 302 #[.int .u64 x, .int .u64 y] w fun e w' => e = .returned (.tuple #[.int .u64 (muHi x y : Int), .int .u64 (muLo x y : Int)]) ∧ w = w' := by
  have Hx := hid hx; have Hy := hid hy
  clear hx hy
  go_enter Tryz.func302, Tryz.ntmps302
  go_wp2_with fail
  refine (bits_Mul64 _ _ Hx.out Hy.out _).mono ?_
  rintro e w' ⟨rfl, rfl⟩
  go_wp2_with fail
  go_ret2
  exact ⟨rfl, rfl⟩

theorem mulWW_any (x y : Nat) (hx : x < W64) (hy : y < W64) (w : World) :
    Calls Tryz.prog 264 #[.int .u64 x, .int .u64 y] w fun e w' => e = .returned (.tuple #[.int .u64 (muHi x y : Int), .int .u64 (muLo x y : Int)]) ∧ w = w' := by
  have Hx := hid hx; have Hy := hid hy
  clear hx hy
  go_enter Tryz.func264, Tryz.ntmps264
  go_wp2_with fail
  refine (bits_Mul _ _ Hx.out Hy.out _).mono ?_
  rintro e w' ⟨rfl, rfl⟩
  go_wp2_with fail
  go_ret2
  exact ⟨rfl, rfl⟩

/-- x times y and c: the high word and the low one. -/
def maHi (x y c : Nat) : Nat := (x * y + c) / W64
def maLo (x y c : Nat) : Nat := (x * y + c) % W64
theorem ma_eq (x y c : Nat) : maLo x y c + W64 * maHi x y c = x * y + c := Nat.mod_add_div _ _
theorem maLo_lt (x y c : Nat) : maLo x y c < W64 := Nat.mod_lt _ W64_pos
theorem ma_bound {x y c d : Nat} (hx : x < W64) (hy : y < W64) (hc : c < W64) (hd : d < W64) : x * y + c + d < W64 * W64 := by
  have h1 : x * y ≤ (W64 - 1) * (W64 - 1) := Nat.mul_le_mul (by omega) (by omega)
  have h2 : (W64 - 1) * (W64 - 1) + (W64 - 1) + (W64 - 1) < W64 * W64 := by decide
  omega
theorem maHi_lt {x y c : Nat} (hx : x < W64) (hy : y < W64) (hc : c < W64) : maHi x y c < W64 := by
  unfold maHi
  rw [Nat.div_lt_iff_lt_mul W64_pos]
  have := ma_bound hx hy hc W64_pos
  omega
theorem div_unique {a b q r : Nat} (h : r < b) (e : r + b * q = a) : a / b = q ∧ a % b = r := by
  subst e
  rw [Nat.add_mul_div_left _ _ (by omega), Nat.div_eq_of_lt h, Nat.add_mul_mod_self_left, Nat.mod_eq_of_lt h]
  omega
theorem ma_of_mu (x y c : Nat) (hx : x < W64) (hy : y < W64) (hc : c < W64) : muHi x y + adHi (muLo x y) c 0 = maHi x y c ∧ adLo (muLo x y) c 0 = maLo x y c := by
  have e1 := mu_eq x y
  have e2 := ad_eq (muLo x y) c 0
  have := div_unique (a := x * y + c) (b := W64) (q := muHi x y + adHi (muLo x y) c 0) (r := adLo (muLo x y) c 0) (adLo_lt _ _ _) (by rw [Nat.mul_add]; omega)
  exact ⟨this.1.symm, this.2.symm⟩
theorem u64_wrap (a : Nat) (h : a < W64) : IntKind.u64.wrap (a : Int) = (a : Int) := by unfold W64 at h; rw [IntKind.wrap_u64]; omega

theorem mulAddWWW_any (x y c : Nat) (hx : x < W64) (hy : y < W64) (hc : c < W64) (w : World) :
    Calls Tryz.prog 332 #[.int .u64 x, .int .u64 y, .int .u64 c] w fun e w' => e = .returned (.tuple #[.int .u64 (maHi x y c : Int), .int .u64 (maLo x y c : Int)]) ∧ w = w' := by
  have Hx := hid hx; have Hy := hid hy; have Hc := hid hc
  clear hx hy hc
  go_enter Tryz.func332, Tryz.ntmps332
  go_wp2_with fail
  refine (bits_Mul _ _ Hx.out Hy.out _).mono ?_
  rintro e w' ⟨rfl, rfl⟩
  go_wp2_with fail
  refine (bits_Add _ _ 0 (by omega) _).mono ?_
  rintro e w' ⟨rfl, rfl⟩
  go_wp2_with fail
  have e := ma_of_mu x y c Hx.out Hy.out Hc.out
  have hh := maHi_lt Hx.out Hy.out Hc.out
  rw [← Int.natCast_add, e.1, e.2, u64_wrap _ hh]
  go_ret2
  exact ⟨rfl, rfl⟩
end Go.Proofs
namespace Go.Proofs
open Go.RowKit
set_option maxHeartbeats 400000
set_option linter.unusedVariables false

def SubRel (w : World) (zb zo n : Nat) (Z X Y : List Nat) (xo yo : Nat) (c i : Value) (wr : World) : Prop :=
  ∃ (k : Nat) (R : List Nat) (cc : Nat), k ≤ n ∧ R.length = k ∧ Words R ∧ cc ≤ 1 ∧ c = .int .u64 (cc : Int) ∧ i = .int .i64 (k : Int) ∧
    val R + val (seg Y yo k) = val (seg X xo k) + W64 ^ k * cc ∧ Blk wr zb (splice Z zo R) ∧ Keeps (· = zb) w wr

/-- One more word laid. -/
theorem Blk.snoc {w wr : World} {zb zo n k : Nat} {Z R : List Nat} {x : Nat} (hb : Blk wr zb (splice Z zo R)) (hR : R.length = k) (hkn : k < n) (hzn : zo + n ≤ Z.length) :
    Blk (wr.setCell ⟨zb, zo + k, none⟩ (.int .u64 (x : Int))) zb (splice Z zo (R ++ [x])) := by
  subst hR
  have := Blk.set hb (zo + R.length) x
  rwa [splice_snoc (by omega)] at this

theorem subVV_g_any (zb zo zc xb xo xc yb yo yc n : Nat) (Z X Y : List Nat) (w : World) (hn : n ≤ 1000000) (hz : Blk w zb Z) (hx : Blk w xb X) (hy : Blk w yb Y)
    (hwx : Words X) (hwy : Words Y)
    (hzn : zo + n ≤ Z.length) (hxn : xo + n ≤ X.length) (hyn : yo + n ≤ Y.length) (hax : xb ≠ zb ∨ zo ≤ xo ∨ xo + n ≤ zo) (hay : yb ≠ zb ∨ zo ≤ yo ∨ yo + n ≤ zo) :
    Calls Tryz.prog 262 #[.slice (some ⟨zb, zo, none⟩) n zc, .slice (some ⟨xb, xo, none⟩) n xc, .slice (some ⟨yb, yo, none⟩) n yc] w
      fun e w' => ∃ (R : List Nat) (c : Nat), R.length = n ∧ Words R ∧ c ≤ 1 ∧ val R + val (seg Y yo n) = val (seg X xo n) + W64 ^ n * c ∧ e = .returned (.int .u64 (c : Int)) ∧
        Blk w' zb (splice Z zo R) ∧ Keeps (· = zb) w w' := by
  have Hz := hid hz; have Hx := hid hx; have Hy := hid hy; have Hax := hid hax; have Hay := hid hay; have Hwx := hid hwx; have Hwy := hid hwy
  clear hz hx hy hax hay hwx hwy
  go_enter Tryz.func262, Tryz.ntmps262
  go_wp2
  go_loopw [6, 25] (fun c i wr => SubRel w zb zo n Z X Y xo yo c i wr) (fun _ i _ => n - (intOf i).toNat)
  case atStart => exact ⟨0, [], 0, Nat.zero_le _, rfl, Words.nil, by omega, rfl, rfl, by simp, by simpa using Hz.out, Keeps.refl _ _⟩
  case round =>
    obtain ⟨k, R, cc, hk, hR, hW, hcc, rfl, rfl, hv, hb, hkeep⟩ := hrel
    have HR := hid hR; have HW := hid hW; have Hv := hid hv; have Hb := hid hb; have Hkeep := hid hkeep
    clear hR hW hv hb hkeep
    by_cases hlt : k < n
    · have c1 := Blk.read Hz.out Hx.out Hb.out Hkeep.out HR.out hlt hzn hxn Hax.out
      have c2 := Blk.read Hz.out Hy.out Hb.out Hkeep.out HR.out hlt hzn hyn Hay.out
      have c3 := Blk.read Hz.out Hz.out Hb.out Hkeep.out HR.out hlt hzn hzn (.inr (.inl (Nat.le_refl _)))
      have c4 := Blk.frozen Hb.out (zo + k)
      go_wp2_with fail
      go_quiet ((go_at_call 263; exact quiet_left (bits_Sub _ _ _ (by assumption) _)))
      go_wp2_with fail
      refine ⟨⟨k + 1, R ++ [sbLo (X.getD (xo + k) 0) (Y.getD (yo + k) 0) cc], sbHi (X.getD (xo + k) 0) (Y.getD (yo + k) 0) cc, by omega, by simp [HR.out], HW.out.snoc (sbLo_lt _ _ _), sbHi_le _ _ _, by simp, by simp, ?_, ?_, ?_⟩, by simp [intOf]; omega⟩
      · rw [val_snoc, HR.out, val_seg_succ (by omega), val_seg_succ (by omega), Nat.pow_succ]
        have e := sb_eq (Hwx.out.getD (xo + k)) (Hwy.out.getD (yo + k)) hcc
        have e2 : W64 ^ k * (sbLo (X.getD (xo + k) 0) (Y.getD (yo + k) 0) cc + Y.getD (yo + k) 0 + cc) = W64 ^ k * (X.getD (xo + k) 0 + W64 * sbHi (X.getD (xo + k) 0) (Y.getD (yo + k) 0) cc) := by rw [e]
        simp only [Nat.mul_add, ← Nat.mul_assoc] at e2
        have := Hv.out
        omega
      · have := Blk.snoc (w := w) (wr := wr.drewN nq) (x := sbLo (X.getD (xo + k) 0) (Y.getD (yo + k) 0) cc) Hb.out HR.out hlt hzn
        simpa [HR.out] using this
      · exact (Hkeep.out.drewN _).setCell _ (.inl rfl) _
    · obtain rfl : k = n := by omega
      go_wp2_with fail
      go_ret
      exact ⟨R, cc, HR.out, HW.out, hcc, Hv.out, rfl, Hb.out, Hkeep.out⟩

def MulRel (w : World) (zb zo n : Nat) (Z X : List Nat) (xo y r : Nat) (c i : Value) (wr : World) : Prop :=
  ∃ (k : Nat) (R : List Nat) (cc : Nat), k ≤ n ∧ R.length = k ∧ Words R ∧ cc < W64 ∧ c = .int .u64 (cc : Int) ∧ i = .int .i64 (k : Int) ∧
    val R + W64 ^ k * cc = val (seg X xo k) * y + r ∧ Blk wr zb (splice Z zo R) ∧ Keeps (· = zb) w wr

theorem mulAddVWW_g_any (zb zo zc xb xo xc n : Nat) (y r : Nat) (Z X : List Nat) (w : World) (hn : n ≤ 1000000) (hz : Blk w zb Z) (hx : Blk w xb X)
    (hwx : Words X) (hy : y < W64) (hr : r < W64)
    (hzn : zo + n ≤ Z.length) (hxn : xo + n ≤ X.length) (hax : xb ≠ zb ∨ zo ≤ xo ∨ xo + n ≤ zo) :
    Calls Tryz.prog 316 #[.slice (some ⟨zb, zo, none⟩) n zc, .slice (some ⟨xb, xo, none⟩) n xc, .int .u64 y, .int .u64 r] w
      fun e w' => ∃ (R : List Nat) (c : Nat), R.length = n ∧ Words R ∧ c < W64 ∧ val R + W64 ^ n * c = val (seg X xo n) * y + r ∧ e = .returned (.int .u64 (c : Int)) ∧
        Blk w' zb (splice Z zo R) ∧ Keeps (· = zb) w w' := by
  have Hz := hid hz; have Hx := hid hx; have Hax := hid hax; have Hwx := hid hwx; have Hy := hid hy; have Hr := hid hr
  clear hz hx hax hwx hy hr
  go_enter Tryz.func316, Tryz.ntmps316
  go_wp2
  go_loopw [8, 19] (fun c i wr => MulRel w zb zo n Z X xo y r c i wr) (fun _ i _ => n - (intOf i).toNat)
  case atStart => exact ⟨0, [], r, Nat.zero_le _, rfl, Words.nil, Hr.out, rfl, rfl, by simp, by simpa using Hz.out, Keeps.refl _ _⟩
  case round =>
    obtain ⟨k, R, cc, hk, hR, hW, hcc, rfl, rfl, hv, hb, hkeep⟩ := hrel
    have HR := hid hR; have HW := hid hW; have Hv := hid hv; have Hb := hid hb; have Hkeep := hid hkeep; have Hcc := hid hcc
    clear hR hW hv hb hkeep hcc
    by_cases hlt : k < n
    · have c1 := Blk.read Hz.out Hx.out Hb.out Hkeep.out HR.out hlt hzn hxn Hax.out
      have c3 := Blk.read Hz.out Hz.out Hb.out Hkeep.out HR.out hlt hzn hzn (.inr (.inl (Nat.le_refl _)))
      have c4 := Blk.frozen Hb.out (zo + k)
      have Hxk := hid (Hwx.out.getD (xo + k))
      go_wp2_with fail
      refine (mulAddWWW_any (X.getD (xo + k) 0) y cc Hxk.out Hy.out Hcc.out _).mono ?_
      rintro e w' ⟨rfl, rfl⟩
      go_wp2_with fail
      refine ⟨⟨k + 1, R ++ [maLo (X.getD (xo + k) 0) y cc], maHi (X.getD (xo + k) 0) y cc, by omega, by simp [HR.out], HW.out.snoc (maLo_lt _ _ _), maHi_lt Hxk.out Hy.out Hcc.out, by simp, by simp, ?_, ?_, ?_⟩, by simp [intOf]; omega⟩
      · rw [val_snoc, HR.out, val_seg_succ (by omega), Nat.pow_succ]
        have e := ma_eq (X.getD (xo + k) 0) y cc
        have e2 : W64 ^ k * (maLo (X.getD (xo + k) 0) y cc + W64 * maHi (X.getD (xo + k) 0) y cc) = W64 ^ k * (X.getD (xo + k) 0 * y + cc) := by rw [e]
        simp only [Nat.mul_add, ← Nat.mul_assoc] at e2
        have := Hv.out
        rw [Nat.add_mul]
        omega
      · have := Blk.snoc (w := w) (wr := wr) (x := maLo (X.getD (xo + k) 0) y cc) Hb.out HR.out hlt hzn
        simpa [HR.out] using this
      · exact Hkeep.out.setCell _ (.inl rfl) _
    · obtain rfl : k = n := by omega
      go_wp2_with fail
      go_ret
      exact ⟨R, cc, HR.out, HW.out, Hcc.out, Hv.out, rfl, Hb.out, Hkeep.out⟩

def AmvRel (w : World) (zb zo n : Nat) (Z X Y : List Nat) (xo yo m a : Nat) (c i : Value) (wr : World) : Prop :=
  ∃ (k : Nat) (R : List Nat) (cc : Nat), k ≤ n ∧ R.length = k ∧ Words R ∧ cc < W64 ∧ c = .int .u64 (cc : Int) ∧ i = .int .i64 (k : Int) ∧
    val R + W64 ^ k * cc = val (seg X xo k) + val (seg Y yo k) * m + a ∧ Blk wr zb (splice Z zo R) ∧ Keeps (· = zb) w wr

/-- y times m and x and c: the high word and the low one. -/
def amHi (y m x c : Nat) : Nat := (y * m + x + c) / W64
def amLo (y m x c : Nat) : Nat := (y * m + x + c) % W64
theorem am_eq (y m x c : Nat) : amLo y m x c + W64 * amHi y m x c = y * m + x + c := Nat.mod_add_div _ _
theorem amLo_lt (y m x c : Nat) : amLo y m x c < W64 := Nat.mod_lt _ W64_pos
theorem amHi_lt {y m x c : Nat} (hy : y < W64) (hm : m < W64) (hx : x < W64) (hc : c < W64) : amHi y m x c < W64 := by
  unfold amHi
  rw [Nat.div_lt_iff_lt_mul W64_pos]
  exact ma_bound hy hm hx hc
theorem am_of_ma (y m x c : Nat) : adHi (maLo y m x) c 0 + maHi y m x = amHi y m x c ∧ adLo (maLo y m x) c 0 = amLo y m x c := by
  have e1 := ma_eq y m x
  have e2 := ad_eq (maLo y m x) c 0
  have := div_unique (a := y * m + x + c) (b := W64) (q := adHi (maLo y m x) c 0 + maHi y m x) (r := adLo (maLo y m x) c 0) (adLo_lt _ _ _) (by rw [Nat.mul_add]; omega)
  exact ⟨this.1.symm, this.2.symm⟩

theorem addMulVVWW_g_any (zb zo zc xb xo xc yb yo yc n : Nat) (m a : Nat) (Z X Y : List Nat) (w : World) (hn : n ≤ 1000000) (hz : Blk w zb Z) (hx : Blk w xb X) (hy : Blk w yb Y)
    (hwx : Words X) (hwy : Words Y) (hm : m < W64) (ha : a < W64)
    (hzn : zo + n ≤ Z.length) (hxn : xo + n ≤ X.length) (hyn : yo + n ≤ Y.length) (hax : xb ≠ zb ∨ zo ≤ xo ∨ xo + n ≤ zo) (hay : yb ≠ zb ∨ zo ≤ yo ∨ yo + n ≤ zo) :
    Calls Tryz.prog 325 #[.slice (some ⟨zb, zo, none⟩) n zc, .slice (some ⟨xb, xo, none⟩) n xc, .slice (some ⟨yb, yo, none⟩) n yc, .int .u64 m, .int .u64 a] w
      fun e w' => ∃ (R : List Nat) (c : Nat), R.length = n ∧ Words R ∧ c < W64 ∧ val R + W64 ^ n * c = val (seg X xo n) + val (seg Y yo n) * m + a ∧ e = .returned (.int .u64 (c : Int)) ∧
        Blk w' zb (splice Z zo R) ∧ Keeps (· = zb) w w' := by
  have Hz := hid hz; have Hx := hid hx; have Hy := hid hy; have Hax := hid hax; have Hay := hid hay; have Hwx := hid hwx; have Hwy := hid hwy; have Hm := hid hm; have Ha := hid ha
  clear hz hx hy hax hay hwx hwy hm ha
  go_enter Tryz.func325, Tryz.ntmps325
  go_wp2
  go_loopw [10, 32] (fun c i wr => AmvRel w zb zo n Z X Y xo yo m a c i wr) (fun _ i _ => n - (intOf i).toNat)
  case atStart => exact ⟨0, [], a, Nat.zero_le _, rfl, Words.nil, Ha.out, rfl, rfl, by simp, by simpa using Hz.out, Keeps.refl _ _⟩
  case round =>
    obtain ⟨k, R, cc, hk, hR, hW, hcc, rfl, rfl, hv, hb, hkeep⟩ := hrel
    have HR := hid hR; have HW := hid hW; have Hv := hid hv; have Hb := hid hb; have Hkeep := hid hkeep; have Hcc := hid hcc
    clear hR hW hv hb hkeep hcc
    by_cases hlt : k < n
    · have c1 := Blk.read Hz.out Hx.out Hb.out Hkeep.out HR.out hlt hzn hxn Hax.out
      have c2 := Blk.read Hz.out Hy.out Hb.out Hkeep.out HR.out hlt hzn hyn Hay.out
      have c3 := Blk.read Hz.out Hz.out Hb.out Hkeep.out HR.out hlt hzn hzn (.inr (.inl (Nat.le_refl _)))
      have c4 := Blk.frozen Hb.out (zo + k)
      have Hxk := hid (Hwx.out.getD (xo + k))
      have Hyk := hid (Hwy.out.getD (yo + k))
      go_wp2_with fail
      go_quiet ((go_at_call 332; exact quiet_left (mulAddWWW_any (Y.getD (yo + k) 0) m (X.getD (xo + k) 0) Hyk.out Hm.out Hxk.out _)))
      go_wp2_with fail
      refine (bits_Add _ _ 0 (by omega) _).mono ?_
      rintro e w' ⟨rfl, rfl⟩
      go_wp2_with fail
      have e := am_of_ma (Y.getD (yo + k) 0) m (X.getD (xo + k) 0) cc
      have hh := amHi_lt Hyk.out Hm.out Hxk.out Hcc.out
      refine ⟨⟨k + 1, R ++ [amLo (Y.getD (yo + k) 0) m (X.getD (xo + k) 0) cc], amHi (Y.getD (yo + k) 0) m (X.getD (xo + k) 0) cc, by omega, by simp [HR.out], HW.out.snoc (amLo_lt _ _ _ _), hh, ?_, by simp, ?_, ?_, ?_⟩, by simp [intOf]; omega⟩
      · rw [← List.getD_eq_getElem?_getD, ← List.getD_eq_getElem?_getD, ← Int.natCast_add, e.1, u64_wrap _ hh]
      · rw [val_snoc, HR.out, val_seg_succ (by omega), val_seg_succ (by omega), Nat.pow_succ]
        have e := am_eq (Y.getD (yo + k) 0) m (X.getD (xo + k) 0) cc
        have e2 : W64 ^ k * (amLo (Y.getD (yo + k) 0) m (X.getD (xo + k) 0) cc + W64 * amHi (Y.getD (yo + k) 0) m (X.getD (xo + k) 0) cc) = W64 ^ k * (Y.getD (yo + k) 0 * m + X.getD (xo + k) 0 + cc) := by rw [e]
        simp only [Nat.mul_add, ← Nat.mul_assoc] at e2
        have := Hv.out
        rw [Nat.add_mul]
        omega
      · have := Blk.snoc (w := w) (wr := wr.drewN nq) (x := amLo (Y.getD (yo + k) 0) m (X.getD (xo + k) 0) cc) Hb.out HR.out hlt hzn
        rw [← e.2] at this ⊢
        simpa [HR.out] using this
      · exact (Hkeep.out.drewN _).setCell _ (.inl rfl) _
    · obtain rfl : k = n := by omega
      go_wp2_with fail
      go_ret
      exact ⟨R, cc, HR.out, HW.out, Hcc.out, Hv.out, rfl, Hb.out, Hkeep.out⟩
end Go.Proofs
namespace Go.Proofs
open Go.RowKit
set_option maxHeartbeats 400000
set_option linter.unusedVariables false

/-! ### The built-in copy, clear and make, as steps of a walk -/

theorem RowAt.setRow {w : World} {g : Nat} {t : TypeId} {cur : List Value} (h : RowAt w g t cur) (vs : List Value) : RowAt (w.setRow g vs.toArray) g t vs :=
  setRow_heap w g _ _ t _ h
theorem Keeps.setRow {S : Nat → Prop} {a b : World} (h : Keeps S a b) {g : Nat} (hg : S g ∨ a.heap.size ≤ g) (cs : Array Value) : Keeps S a (b.setRow g cs) :=
  ⟨h.os, h.tape, h.output, by have := h.size; simpa [World.setRow] using this, fun i hi hn => by
    have hne : i ≠ g := by
      rintro rfl
      rcases hg with hg | hg
      · exact hn hg
      · omega
    rw [setRow_other b g i cs hne]
    exact h.block i hi hn⟩

section
variable {P : Program} {w : World} {ops : Array Oper} {rest : List Oper} {o : Oper} {a : Act} {Q : Exit → Act → World → Prop}

/-- copy into a block that is known whole. -/
theorem wpList_cp (hgd : o.guard = none) (d s : Operand) (dT sT : TypeId)
    (ho : o.op = .call { callee := .builtin .copy, args := #[d, s], argTypes := #[dT, sT] }) (elem : TypeId) (hu : P.underlying dT = some (.slice elem)) (hsz : (P.info? elem).map (·.size) = some 1)
    (dp sp : Option Addr) (dLen dCap sLen sCap : Nat) (hd : a.eval d = .slice dp dLen dCap) (hs : a.eval s = .slice sp sLen sCap)
    (g off : Nat) (cur : List Value) (t : TypeId) (hg : RowAt w g t cur) (cs : List Value) (hn : cs.length = Nat.min sLen dLen)
    (hpos : 0 < cs.length → dp = some ⟨g, off, none⟩ ∧ ∃ b so, sp = some ⟨b, so, none⟩ ∧ ∀ j v, cs[j]? = some v → w.cell? ⟨b, so + j, none⟩ = some v)
    (hfit : off + cs.length ≤ cur.length) (h1 : ∀ v ∈ cs, v.oneCell' = true)
    (h : ∀ w', RowAt w' g t (splice cur off cs) → Keeps (· = g) w w' → wpList P ops Q rest (a.put o.dst (goInt cs.length)) w') :
    wpList P ops Q (o :: rest) a w := by
  by_cases h0 : cs.length = 0
  · obtain rfl : cs = [] := List.eq_nil_of_length_eq_zero h0
    refine wpList_copy_nothing hgd d s dT sT ho elem hu hsz dp sp dLen dCap sLen sCap hd hs (by simpa using hn.symm) ?_
    exact h w (by simpa using hg) (Keeps.refl _ _)
  · obtain ⟨rfl, b, so, rfl, hsrc⟩ := hpos (by omega)
    refine wpList_copy_own hgd d s dT sT ho elem hu hsz g off dLen dCap ⟨b, so, none⟩ sLen sCap hd hs cur.toArray t hg cs hn ?_ (by simpa using hfit) h1 ?_
    · intro j v hv
      have := hsrc j v hv
      have e : (⟨b, so, none⟩ : Addr).add j = ⟨b, so + j, none⟩ := by unfold Addr.add; split <;> simp_all
      rw [e]; exact this
    · have h1 := hg.setRow (splice cur off cs)
      have h2 := (Keeps.refl (· = g) w).setRow (.inl (Eq.refl g)) (splice cur off cs).toArray
      have e : (List.take off cur.toArray.toList ++ (cs ++ List.drop (off + cs.length) cur.toArray.toList)).toArray = (splice cur off cs).toArray := by simp [splice]
      rw [e]
      exact h _ h1 h2

theorem run_storeCells_row {P : Program} {w : World} {g t : Nat} {cur : List Value} (hg : RowAt w g t cur) (off : Nat) (vs : List Value) (hfit : off + vs.length ≤ cur.length) (h1 : ∀ v ∈ vs, v.oneCell' = true) :
    (storeCells ⟨g, off, none⟩ vs).run P w = .ok () (w.setRow g (splice cur off vs).toArray) := by
  have := run_storeCells_at P g off t vs 0 cur.toArray w hg (by simpa using hfit) h1
  simpa [splice] using this

/-- clear of a slice of one-celled elements. -/
theorem wpList_clr (hgd : o.guard = none) (d : Operand) (dT : TypeId)
    (ho : o.op = .call { callee := .builtin .clear, args := #[d], argTypes := #[dT] }) (elem : TypeId) (hu : P.underlying dT = some (.slice elem))
    (z : Value) (hz : ∀ w : World, (zeroValue elem).run P w = .ok z w) (hz1 : z.cells = #[z]) (hz2 : z.oneCell' = true)
    (dp : Option Addr) (dLen dCap : Nat) (hd : a.eval d = .slice dp dLen dCap)
    (g off : Nat) (cur : List Value) (t : TypeId) (hg : RowAt w g t cur) (hpos : 0 < dLen → dp = some ⟨g, off, none⟩) (hfit : off + dLen ≤ cur.length)
    (h : ∀ w', RowAt w' g t (splice cur off (List.replicate dLen z)) → Keeps (· = g) w w' → wpList P ops Q rest (a.put o.dst (.tuple #[])) w') :
    wpList P ops Q (o :: rest) a w := by
  refine wpList_plain hgd fun K hK => ?_
  by_cases h0 : dLen = 0
  · subst h0
    have hrun : (Builtin.clear_ #[dT] o.type #[.slice dp 0 dCap]).run P w = .ok (.tuple #[]) w := by
      simp [Builtin.clear_, run_underlying hu]
      cases dp <;> rfl
    unfold Oper.wp
    simp [execOp, ho, resolve, invoke, builtin, hd, hrun, Result.andThen]
    exact hK _ _ (h w (by simpa using hg) (Keeps.refl _ _))
  · obtain rfl := hpos (by omega)
    have hzc : (Builtin.zeroCells #[z] dLen).toList = List.replicate dLen z := by
      apply List.ext_getElem
      · simp [Builtin.zeroCells]
      · intro i h1 h2; simp [Builtin.zeroCells, Nat.mod_one]
    have hst := run_storeCells_row (P := P) hg off (List.replicate dLen z) (by simpa using hfit) (by intro v hv; rw [List.eq_of_mem_replicate hv]; exact hz2)
    have hrun : (Builtin.clear_ #[dT] o.type #[.slice (some ⟨g, off, none⟩) dLen dCap]).run P w = .ok (.tuple #[]) (w.setRow g (splice cur off (List.replicate dLen z)).toArray) := by
      obtain ⟨n, rfl⟩ : ∃ n, dLen = n + 1 := ⟨dLen - 1, by omega⟩
      simp [Builtin.clear_, run_underlying hu, hz w, hz1, hzc, hst]
    unfold Oper.wp
    simp [execOp, ho, resolve, invoke, builtin, hd, hrun, Result.andThen]
    exact hK _ _ (h _ (hg.setRow _) ((Keeps.refl (· = g) w).setRow (.inl (Eq.refl g)) _))

/-- make of a slice of one-celled elements: the world is written out. -/
theorem wpList_mk (hg : o.guard = none) (l c : Operand) (t : TypeId) (hop : o.op = Op.makeSlice t l c)
    (e : TypeId) (i : TypeInfo) (z : Value) (ht : P.underlying t = some (.slice e)) (hi : P.info? e = some i) (hz : i.zero = some z) (hsz : i.size = 1) (hby : i.bytes ≤ 24) (hz1 : z.cells = #[z])
    (kl kc : IntKind) (L C : Int) (n m : Nat) (hl : a.eval l = .int kl L) (hc : a.eval c = .int kc C) (hL : L = (n : Int)) (hC : C = (m : Int)) (hnm : n ≤ m) (hm : m ≤ 1000000000000)
    (h : wpList P ops Q rest (a.put o.dst (.slice (some ⟨w.heap.size, 0, none⟩) n m)) (w.alloc (.cells (List.replicate m z).toArray e))) :
    wpList P ops Q (o :: rest) a w := by
  refine wpList_plain hg fun K hK' => ?_
  subst hL
  subst hC
  have hb : (i.bytes : Int) * (m : Int) ≤ 281474976710656 := by
    have h1 : i.bytes * m ≤ 24 * 1000000000000 := Nat.mul_le_mul hby hm
    have h2 : ((i.bytes * m : Nat) : Int) ≤ 281474976710656 := by omega
    rwa [Int.natCast_mul] at h2
  have hrun := run_make (P := P) w t e i z ht hi hz kl kc n m (by omega) (by omega) hb (by omega)
  have hcells : madeCells z.cells ((m : Int).toNat * i.size) = (List.replicate m z).toArray := by
    rw [hsz, hz1]
    apply Array.ext
    · simp [madeCells]
    · intro j h1 h2
      simp [madeCells, Nat.mod_one]
  rw [hcells] at hrun
  simp only [Int.toNat_natCast] at hrun
  unfold Oper.wp
  simp [execOp, hop, hl, hc, hrun, Result.andThen]
  exact hK' _ _ h
end
end Go.Proofs
namespace Go.Proofs
open Go.RowKit
set_option linter.unusedVariables false

/-- The greatest length of a block of words that is spoken of. -/
def LIM : Nat := 1000000

/-- The slice '.slice a l c' reads as the words L. -/
def Rd (w : World) (a : Option Addr) (l c : Nat) (L : List Nat) : Prop :=
  (a = none ∧ L = [] ∧ l = 0 ∧ c = 0) ∨
  ∃ b o M, a = some ⟨b, o, none⟩ ∧ Blk w b M ∧ Words M ∧ l ≤ c ∧ o + c ≤ M.length ∧ seg M o l = L ∧ M.length ≤ LIM

/-- The address lies in block k. -/
def InB (a : Option Addr) (k : Nat) : Prop := ∃ o, a = some ⟨k, o, none⟩

/-- Two slices lie in different blocks, or at one place. -/
def Al (a : Option Addr) (c : Nat) (a' : Option Addr) (c' : Nat) : Prop :=
  ∀ b o b' o', a = some ⟨b, o, none⟩ → a' = some ⟨b', o', none⟩ → b ≠ b' ∨ (o = o' ∧ c = c')

/-- The result lies where z lay, or in a new block, or is nil. -/
def Into (w : World) (a : Option Addr) (c : Nat) (ra : Option Addr) (rc : Nat) : Prop :=
  (ra = none ∧ rc = 0) ∨ (ra = a ∧ rc = c) ∨ ∃ b, ra = some ⟨b, 0, none⟩ ∧ w.heap.size ≤ b

theorem Rd.length {w : World} {a : Option Addr} {l c : Nat} {L : List Nat} (h : Rd w a l c L) : L.length = l := by
  rcases h with ⟨_, rfl, rfl, _⟩ | ⟨b, o, M, _, _, _, h1, h2, rfl, _⟩
  · rfl
  · exact length_seg (by omega)
theorem Rd.words {w : World} {a : Option Addr} {l c : Nat} {L : List Nat} (h : Rd w a l c L) : Words L := by
  rcases h with ⟨_, rfl, rfl, _⟩ | ⟨b, o, M, _, _, hw, h1, h2, rfl, _⟩
  · exact Words.nil
  · exact hw.seg _ _
theorem Rd.len_le {w : World} {a : Option Addr} {l c : Nat} {L : List Nat} (h : Rd w a l c L) : l ≤ c ∧ c ≤ LIM := by
  rcases h with ⟨_, _, rfl, rfl⟩ | ⟨b, o, M, _, _, _, h1, h2, _, h3⟩
  · unfold LIM; omega
  · omega
theorem Rd.lt {w : World} {a : Option Addr} {l c : Nat} {L : List Nat} (h : Rd w a l c L) {k : Nat} (hk : InB a k) : k < w.heap.size := by
  obtain ⟨o, ho⟩ := hk
  rcases h with ⟨rfl, _⟩ | ⟨b, o', M, rfl, hb, _⟩
  · cases ho
  · cases ho; exact hb.lt
theorem Rd.keep {w w' : World} {S : Nat → Prop} {a : Option Addr} {l c : Nat} {L : List Nat} (h : Rd w a l c L) (hk : Keeps S w w') (hn : ∀ k, InB a k → ¬ S k) : Rd w' a l c L := by
  rcases h with h | ⟨b, o, M, rfl, hb, hr⟩
  · exact .inl h
  · exact .inr ⟨b, o, M, rfl, hk.row hb (hn b ⟨o, rfl⟩), hr⟩
theorem Rd.nil (w : World) : Rd w none 0 0 [] := .inl ⟨rfl, rfl, rfl, rfl⟩
theorem Rd.drewN {w : World} {a : Option Addr} {l c : Nat} {L : List Nat} (h : Rd w a l c L) (n : Nat) : Rd (w.drewN n) a l c L := h.keep ((Keeps.refl (fun _ => False) w).drewN n) (fun _ _ h => h)
theorem Rd.drew {w : World} {a : Option Addr} {l c : Nat} {L : List Nat} (h : Rd w a l c L) : Rd w.drew a l c L := h.keep ((Keeps.refl (fun _ => False) w).drew) (fun _ _ h => h)
theorem Rd.alloc {w : World} {a : Option Addr} {l c : Nat} {L : List Nat} (h : Rd w a l c L) (x : Obj) : Rd (w.alloc x) a l c L := h.keep ((Keeps.refl (fun _ => False) w).alloc x) (fun _ _ h => h)
theorem Rd.cell {w : World} {a : Option Addr} {l c : Nat} {L : List Nat} (h : Rd w a l c L) (hl : 0 < l) :
    ∃ b o, a = some ⟨b, o, none⟩ ∧ ∀ i, i < l → w.cell? ⟨b, o + i, none⟩ = some (.int .u64 ((L.getD i 0 : Nat) : Int)) := by
  rcases h with ⟨_, _, rfl, _⟩ | ⟨b, o, M, rfl, hb, hw, h1, h2, rfl, h3⟩
  · omega
  · refine ⟨b, o, rfl, fun i hi => ?_⟩
    rw [Blk.cell hb (by omega), seg_getD hi]
/-- An empty beginning of it. -/
theorem Rd.zero {w : World} {a : Option Addr} {l c : Nat} {L : List Nat} (h : Rd w a l c L) : Rd w a 0 c [] := by
  rcases h with ⟨rfl, _, _, rfl⟩ | ⟨b, o, M, rfl, hb, hw, h1, h2, rfl, h3⟩
  · exact .inl ⟨rfl, rfl, rfl, rfl⟩
  · exact .inr ⟨b, o, M, rfl, hb, hw, Nat.zero_le _, h2, by simp, h3⟩
theorem Rd.val_lt {w : World} {a : Option Addr} {l c : Nat} {L : List Nat} (h : Rd w a l c L) : val L < W64 ^ l := by
  have := Go.Proofs.val_lt h.words
  rwa [h.length] at this

theorem Al.of_ne {a a' : Option Addr} {c c' : Nat} (h : ∀ k, InB a k → ¬ InB a' k) : Al a c a' c' := by
  intro b o b' o' h1 h2
  refine .inl ?_
  rintro rfl
  exact h b ⟨o, h1⟩ ⟨o', h2⟩
theorem Al.refl (a : Option Addr) (c : Nat) : Al a c a c := by
  intro b o b' o' h1 h2
  rw [h1] at h2
  injection h2 with h2
  injection h2 with h2 h3
  exact .inr ⟨h3, rfl⟩
theorem Al.symm {a a' : Option Addr} {c c' : Nat} (h : Al a c a' c') : Al a' c' a c := by
  intro b o b' o' h1 h2
  rcases h _ _ _ _ h2 h1 with h | ⟨h, k⟩
  · exact .inl (Ne.symm h)
  · exact .inr ⟨h.symm, k.symm⟩
theorem Al.none (c : Nat) (a' : Option Addr) (c' : Nat) : Al none c a' c' := fun _ _ _ _ h => by cases h
theorem Into.refl (w : World) (a : Option Addr) (c : Nat) : Into w a c a c := .inr (.inl ⟨rfl, rfl⟩)
theorem Into.inB {w : World} {a ra : Option Addr} {c rc : Nat} (h : Into w a c ra rc) {k : Nat} (hk : InB ra k) : InB a k ∨ w.heap.size ≤ k := by
  obtain ⟨o, ho⟩ := hk
  rcases h with ⟨rfl, _⟩ | ⟨rfl, _⟩ | ⟨b, rfl, hb⟩
  · cases ho
  · exact .inl ⟨o, ho⟩
  · cases ho; exact .inr hb
/-- What lay apart from z, or at its place, lies so with the result. -/
theorem Into.al {w : World} {a ra : Option Addr} {c rc : Nat} (h : Into w a c ra rc) {a' : Option Addr} {c' : Nat} (hal : Al a c a' c') (hlt : ∀ k, InB a' k → k < w.heap.size) : Al ra rc a' c' := by
  rcases h with ⟨rfl, _⟩ | ⟨rfl, rfl⟩ | ⟨b, rfl, hb⟩
  · exact Al.none _ _ _
  · exact hal
  · intro b1 o1 b2 o2 h1 h2
    injection h1 with h1
    injection h1 with h1 h3
    have := hlt b2 ⟨o2, h2⟩
    exact .inl (by omega)
theorem Into.trans {w w1 : World} {a ra sa : Option Addr} {c rc sc : Nat} (h : Into w a c ra rc) (k : Into w1 ra rc sa sc) (hs : w.heap.size ≤ w1.heap.size) : Into w a c sa sc := by
  rcases k with ⟨rfl, rfl⟩ | ⟨rfl, rfl⟩ | ⟨b, rfl, hb⟩
  · exact .inl ⟨rfl, rfl⟩
  · exact h
  · exact .inr (.inr ⟨b, rfl, by omega⟩)
theorem Into.mono {w w1 : World} {a ra : Option Addr} {c rc : Nat} (h : Into w1 a c ra rc) (hs : w.heap.size ≤ w1.heap.size) : Into w a c ra rc := by
  rcases h with h | h | ⟨b, rfl, hb⟩
  · exact .inl h
  · exact .inr (.inl h)
  · exact .inr (.inr ⟨b, rfl, by omega⟩)

/-- A block that is turned in a place of its own: what reads it elsewhere. -/
theorem Rd.of_blk {w : World} {b o l c : Nat} {M : List Nat} (hb : Blk w b M) (hw : Words M) (h1 : l ≤ c) (h2 : o + c ≤ M.length) (h3 : M.length ≤ LIM) : Rd w (some ⟨b, o, none⟩) l c (seg M o l) :=
  .inr ⟨b, o, M, rfl, hb, hw, h1, h2, rfl, h3⟩
theorem Rd.take {w : World} {b o l c : Nat} {L : List Nat} (h : Rd w (some ⟨b, o, none⟩) l c L) {n : Nat} (hn : n ≤ l) : Rd w (some ⟨b, o, none⟩) n c (L.take n) := by
  rcases h with ⟨h, _⟩ | ⟨b', o', M, h, hb, hw, h1, h2, rfl, h3⟩
  · cases h
  · cases h
    refine .inr ⟨_, _, M, rfl, hb, hw, by omega, h2, ?_, h3⟩
    simp only [Go.Proofs.seg, List.take_take]
    rw [Nat.min_eq_left hn]
theorem Rd.inj {w : World} {a : Option Addr} {l c c' : Nat} {L M : List Nat} (h : Rd w a l c L) (k : Rd w a l c' M) : L = M := by
  rcases h with ⟨rfl, rfl, rfl, _⟩ | ⟨b, o, N, rfl, hb, hw, h1, h2, rfl, h3⟩
  · rcases k with ⟨_, rfl, _⟩ | ⟨b', o', N', h, _⟩
    · rfl
    · cases h
  · rcases k with ⟨h, _⟩ | ⟨b', o', N', h, hb', _, _, _, rfl, _⟩
    · cases h
    · cases h
      rw [hb.inj hb']
end Go.Proofs
namespace Go.Proofs
open Go.RowKit
set_option maxHeartbeats 400000
set_option linter.unusedVariables false
set_option maxRecDepth 100000

theorem info177 : (Tryz.prog.info? 177).map (fun i => (i.zero, i.size, i.bytes)) = some (some (.int .u64 0), 1, 8) := by kernel_rfl

/-! ### norm -/
theorem trimZ_snoc (L : List Nat) (x : Nat) : trimZ (L ++ [x]) = if x = 0 then trimZ L else L ++ [x] := by
  split
  · rename_i h; subst h; exact trimZ_append_zero L
  · rename_i h; exact trimZ_append_pos L x h
theorem trimZ_length_le (L : List Nat) : (trimZ L).length ≤ L.length := by
  induction L with
  | nil => simp [trimZ]
  | cons x xs ih =>
    simp only [trimZ]
    split
    · simp
    · simp only [List.length_cons]; omega
theorem trimZ_prefix (L : List Nat) : L.take (trimZ L).length = trimZ L := by
  induction L with
  | nil => simp [trimZ]
  | cons x xs ih =>
    simp only [trimZ]
    split
    · simp
    · simp [ih]

theorem norm_any (a : Option Addr) (l c : Nat) (L : List Nat) (w : World) (h : Rd w a l c L) :
    Calls Tryz.prog 232 #[.slice a l c] w fun e w' => ∃ n, e = .returned (.slice a n c) ∧ Rd w a n c (trimZ L) ∧ n ≤ l ∧ w = w' := by
  have hle := h.len_le
  unfold LIM at hle
  rcases h with ⟨rfl, rfl, rfl, rfl⟩ | ⟨b, o, M, rfl, hb, hw, h1, h2, rfl, h3⟩
  · go_enter Tryz.func232, Tryz.ntmps232
    go_wp2
    refine wp_loop_rounds 1 ?_
    rw [rounds_succ]
    go_wp2
    go_ret
    exact ⟨0, rfl, Rd.nil _, by omega, rfl⟩
  · have hgoal : ∀ n, n ≤ l → trimZ (seg M o n) = trimZ (seg M o l) → (n = 0 ∨ (M.getD (o + (n - 1)) 0) ≠ 0) → n ≤ l ∧ Rd w (some ⟨b, o, none⟩) n c (trimZ (seg M o l)) := by
      intro n hn he hz
      refine ⟨hn, ?_⟩
      have : trimZ (seg M o n) = seg M o n := by
        rcases Nat.eq_zero_or_pos n with h0 | h0
        · subst h0; simp [trimZ]
        · obtain ⟨m, rfl⟩ : ∃ m, n = m + 1 := ⟨n - 1, by omega⟩
          rw [seg_succ (by omega)]
          refine trimZ_append_pos _ _ ?_
          simpa using hz
      rw [← he, this]
      exact Rd.of_blk hb hw (by omega) h2 h3
    have hcell : ∀ i, i < l → w.cell? ⟨b, o + i, none⟩ = some (.int .u64 ((M.getD (o + i) 0 : Nat) : Int)) := fun i hi => Blk.cell hb (by omega)
    have Hgoal := hid hgoal; have Hcell := hid hcell; have Hb := hid hb; have Hw := hid hw; have H2 := hid h2
    have Hseg := hid (fun k (hk : k < l) => seg_succ (L := M) (o := o) (k := k) (by omega))
    clear hgoal hcell hb hw
    go_enter Tryz.func232, Tryz.ntmps232
    go_wp2
    go_loop [3] (fun i => ∃ k : Nat, k ≤ l ∧ Hid (trimZ (seg M o k) = trimZ (seg M o l)) ∧ i = .int .i64 (k : Int)) (fun i => (intOf i).toNat)
    case atStart => exact ⟨l, Nat.le_refl _, hid rfl, rfl⟩
    case round =>
      obtain ⟨k, hk, Hn, rfl⟩ := hrel
      by_cases h0 : k = 0
      · subst h0
        go_wp2
        go_ret
        obtain ⟨g1, g2⟩ := Hgoal.out 0 hk Hn.out (.inl rfl)
        exact ⟨0, rfl, g2, g1, rfl⟩
      · obtain ⟨j, rfl⟩ : ∃ j, k = j + 1 := ⟨k - 1, by omega⟩
        have hcc := Hcell.out j (by omega)
        by_cases hz : M.getD (o + j) 0 = 0
        · rw [hz] at hcc
          have Hz := hid hz
          clear hz
          go_wp2
          refine ⟨⟨j, by omega, ?_, rfl⟩, by simp [intOf]⟩
          have e := Hn.out
          rw [Hseg.out j (by omega), Hz.out, trimZ_append_zero] at e
          exact hid e
        · obtain ⟨v, hv⟩ : ∃ v, v = M.getD (o + j) 0 := ⟨_, rfl⟩
          rw [← hv] at hcc hz
          have Hv := hid hv
          clear hv
          have hbb : ((v : Int) == 0) = false := by simp; omega
          go_wp2
          go_ret
          obtain ⟨g1, g2⟩ := Hgoal.out (j + 1) hk Hn.out (.inr (by rw [Nat.add_sub_cancel, ← Hv.out]; exact hz))
          exact ⟨j + 1, rfl, g2, g1, rfl⟩

/-! ### make -/
theorem Words.wv_replicate (n : Nat) : (List.replicate n (0 : Nat)).map wv = List.replicate n (.int .u64 0) := by simp [wv]
theorem Blk.new (w : World) (n : Nat) : Blk (w.alloc (.cells (List.replicate n (.int .u64 0)).toArray 177)) w.heap.size (List.replicate n 0) := by
  unfold Blk
  rw [Words.wv_replicate]
  exact RowAt.new w 177 _

/-- What make hands back: a place of n words and more, z's own or new. -/
def Made (w : World) (a : Option Addr) (c n : Nat) (ra : Option Addr) (rc : Nat) (w' : World) : Prop :=
  ∃ b o M, ra = some ⟨b, o, none⟩ ∧ Blk w' b M ∧ Words M ∧ n ≤ rc ∧ o + rc ≤ M.length ∧ M.length ≤ LIM ∧ Into w a c ra rc ∧ Keeps (fun _ => False) w w' ∧ (a = none ∨ ra ≠ a ∨ w = w')

theorem make_any (a : Option Addr) (l c n : Nat) (L : List Nat) (w : World) (h : Rd w a l c L) (hn : n ≤ 500000) (hn0 : 0 < n) :
    Calls Tryz.prog 229 #[.slice a l c, .int .i64 (n : Int)] w fun e w' => ∃ ra rc, e = .returned (.slice ra n rc) ∧ Made w a c n ra rc w' := by
  have hle := h.len_le
  unfold LIM at hle
  obtain ⟨i0, hi, hz0, hz1, hz2⟩ := info_parts info177
  by_cases hc : n ≤ c
  · have H := hid h
    clear h
    go_enter Tryz.func229, Tryz.ntmps229
    go_wp2
    go_ret
    rcases H.out with ⟨_, _, _, rfl⟩ | ⟨b, o, M, rfl, hb, hw, h1, h2, rfl, h3⟩
    · omega
    · exact ⟨_, _, rfl, b, o, M, rfl, hb, hw, hc, h2, h3, Into.refl _ _ _, Keeps.refl _ _, .inr (.inr rfl)⟩
  · have fresh : ∀ m, n ≤ m → m ≤ 600000 → Made w a c n (some ⟨w.heap.size, 0, none⟩) m (w.alloc (.cells (List.replicate m (.int .u64 0)).toArray 177)) := by
      intro m hm hm2
      refine ⟨w.heap.size, 0, _, rfl, Blk.new w m, Words.replicate_zero _, hm, by simp, by unfold LIM; simp; omega, .inr (.inr ⟨_, rfl, Nat.le_refl _⟩), (Keeps.refl _ _).alloc _, ?_⟩
      rcases a with _ | ⟨b, o, s⟩
      · exact .inl rfl
      · refine .inr (.inl ?_)
        intro he
        rcases h with ⟨h, _⟩ | ⟨b', o', M, h, hb, _⟩
        · cases h
        · cases h
          cases he
          have := hb.lt
          omega
    have Fresh := hid fresh
    clear fresh h
    by_cases h1 : n = 1
    · subst h1
      go_enter Tryz.func229, Tryz.ntmps229
      go_wp2_with (at_make; refine wpList_mk rfl _ _ _ rfl 177 i0 (.int .u64 0) (by kernel_rfl) hi hz0 hz1 (by rw [hz2]; omega) rfl .i64 .i64 _ _ 1 1 rfl rfl rfl rfl (by omega) (by omega) ?_)
      go_ret
      exact ⟨_, _, rfl, Fresh.out 1 (by omega) (by omega)⟩
    · have hb1 : ((n : Int) == 1) = false := by simp; omega
      clear h1
      go_enter Tryz.func229, Tryz.ntmps229
      go_wp2_with (at_make; refine wpList_mk rfl _ _ _ rfl 177 i0 (.int .u64 0) (by kernel_rfl) hi hz0 hz1 (by rw [hz2]; omega) rfl .i64 .i64 _ _ n (n + 4) rfl rfl rfl (by omega) (by omega) (by omega) ?_)
      go_ret
      exact ⟨_, _, rfl, Fresh.out (n + 4) (by omega) (by omega)⟩
end Go.Proofs
namespace Go.Proofs
open Go.RowKit
set_option maxHeartbeats 400000
set_option linter.unusedVariables false
set_option maxRecDepth 100000

/-- What a function hands back that lays a number into z. -/
def NatRes (w : World) (a : Option Addr) (c : Nat) (N : Nat) (e : Ending) (w' : World) : Prop :=
  ∃ ra rl rc, e = .returned (.slice ra rl rc) ∧ Rd w' ra rl rc (words N) ∧ Into w a c ra rc ∧ Keeps (InB a) w w'

theorem Keeps.any {S : Nat → Prop} {w w' : World} (h : Keeps (fun _ => False) w w') : Keeps S w w' := h.mono (fun _ _ h => h.elim)

theorem seg_splice_all {α : Type} {M : List α} {o n : Nat} {R : List α} (hn : R.length = n) (h : o + n ≤ M.length) : seg (splice M o R) o n = R := by
  subst hn
  exact splice_drop_take h
theorem Words.splice {M R : List Nat} (hM : Words M) (hR : Words R) (o : Nat) : Words (Go.Proofs.splice M o R) :=
  ((hM.take _).append hR).append (hM.drop _)

/-- The result that was laid at a made place. -/
theorem Keeps.set1 (w : World) (b o : Nat) (v : Value) : Keeps (· = b) w (w.setCell ⟨b, o, none⟩ v) := (Keeps.refl (· = b) w).setCell ⟨b, o, none⟩ (.inl (Eq.refl b)) v

theorem Made.done {w' : World} {n rc b o : Nat} {M R : List Nat} (hb : Blk w' b (splice M o R)) (hM : Words M) (hR : Words R) (hn : R.length = n) (h1 : n ≤ rc) (h2 : o + rc ≤ M.length) (h3 : M.length ≤ LIM)
    : Rd w' (some ⟨b, o, none⟩) n rc R := by
  have hl : (splice M o R).length = M.length := length_splice (by omega)
  have := Rd.of_blk (o := o) (l := n) (c := rc) hb (hM.splice hR o) h1 (by rw [hl]; exact h2) (by rw [hl]; exact h3)
  rwa [seg_splice_all hn (by omega)] at this

theorem Made.keeps {w w1 w' : World} {a : Option Addr} {c rc b o : Nat} (hi : Into w a c (some ⟨b, o, none⟩) rc) (hk : Keeps (fun _ => False) w w1) (hk2 : Keeps (· = b) w1 w') : Keeps (InB a) w w' :=
  hk.any.trans' hk2 (fun i hi' he => by
    subst he
    rcases hi with ⟨h, _⟩ | ⟨h, _⟩ | ⟨b', h, hb'⟩
    · cases h
    · exact ⟨o, h.symm⟩
    · cases h; omega)

theorem setWord_any (a : Option Addr) (l c : Nat) (L : List Nat) (x : Nat) (w : World) (h : Rd w a l c L) (hx : x < W64) :
    Calls Tryz.prog 238 #[.slice a l c, .int .u64 (x : Int)] w (NatRes w a c x) := by
  have H := hid h; have Hx := hid hx
  clear h hx
  by_cases h0 : x = 0
  · subst h0
    go_enter Tryz.func238, Tryz.ntmps238
    go_wp2_with fail
    go_ret
    exact ⟨_, _, _, rfl, by rw [words_zero]; exact H.out.zero, Into.refl _ _ _, Keeps.refl _ _⟩
  · have hb0 : ((x : Int) == 0) = false := by simp; omega
    have H0 := hid h0
    clear h0
    go_enter Tryz.func238, Tryz.ntmps238
    go_wp2_with fail
    refine (make_any a l c 1 L _ H.out (by omega) (by omega)).mono ?_
    rintro e w1 ⟨ra, rc, rfl, b, o, M, rfl, hb, hw, h1, h2, h3, hi, hk, _⟩
    have c1 := Blk.cell hb (o := o) (by omega)
    have f1 := Blk.frozen hb o
    have Hb := hid hb; have Hw := hid hw; have Hi := hid hi; have Hk := hid hk
    clear hb hw hi hk
    go_wp2_with fail
    go_ret
    have hs := Blk.set Hb.out o x
    have e : M.set o x = splice M o [x] := by
      have := splice_snoc (L := M) (o := o) (R := []) (v := x) (by simp; omega)
      simpa using this
    rw [e] at hs
    have hwx : words x = [x] := by
      rw [words_pos H0.out, Nat.mod_eq_of_lt Hx.out, Nat.div_eq_of_lt Hx.out, words_zero]
    refine ⟨_, _, _, rfl, ?_, Hi.out, ?_⟩
    · rw [hwx]
      exact Made.done hs Hw.out (Words.cons Hx.out Words.nil) rfl h1 h2 h3
    · exact Made.keeps Hi.out Hk.out (Keeps.set1 _ _ _ _)

theorem setUint64_any (a : Option Addr) (l c : Nat) (L : List Nat) (x : Nat) (w : World) (h : Rd w a l c L) (hx : x < W64) :
    Calls Tryz.prog 209 #[.slice a l c, .int .u64 (x : Int)] w (NatRes w a c x) := by
  have H := hid h; have Hx := hid hx
  clear h hx
  go_enter Tryz.func209, Tryz.ntmps209
  go_wp2_with fail
  refine (setWord_any a l c L x _ H.out Hx.out).mono ?_
  rintro e w1 ⟨ra, rl, rc, rfl, hr⟩
  go_wp2_with fail
  go_ret
  exact ⟨ra, rl, rc, rfl, hr⟩

theorem wv_one : ∀ {L : List Nat}, ∀ v ∈ L.map wv, v.oneCell' = true := by
  intro L v hv
  obtain ⟨x, _, rfl⟩ := List.mem_map.1 hv
  rfl

theorem Rd.cells {w : World} {a : Option Addr} {l c : Nat} {L : List Nat} (h : Rd w a l c L) (hl : 0 < l) :
    ∃ b o, a = some ⟨b, o, none⟩ ∧ ∀ j v, (L.map wv)[j]? = some v → w.cell? ⟨b, o + j, none⟩ = some v := by
  obtain ⟨b, o, rfl, hc⟩ := h.cell hl
  refine ⟨b, o, rfl, fun j v hv => ?_⟩
  have hj : j < l := by
    have := (List.getElem?_eq_some_iff.1 hv).1
    simp [h.length] at this
    exact this
  rw [hc j hj]
  simp only [List.getElem?_map] at hv
  have hjl : j < L.length := by rw [h.length]; exact hj
  simp [hjl, wv] at hv
  simp [hjl, ← hv]

theorem u101 : Tryz.prog.underlying 101 = some (.slice 177) := by kernel_rfl
theorem u100 : Tryz.prog.underlying 100 = some (.slice 177) := by kernel_rfl
theorem s177 : (Tryz.prog.info? 177).map (·.size) = some 1 := by kernel_rfl

theorem make_zero (a : Option Addr) (l c : Nat) (L : List Nat) (w : World) (h : Rd w a l c L) :
    Calls Tryz.prog 229 #[.slice a l c, .int .i64 0] w fun e w' => e = .returned (.slice a 0 c) ∧ w = w' := by
  have hle := h.len_le
  unfold LIM at hle
  clear h
  go_enter Tryz.func229, Tryz.ntmps229
  go_wp2
  go_ret
  exact ⟨rfl, rfl⟩

theorem set_any (a : Option Addr) (l c : Nat) (L : List Nat) (x : Option Addr) (xl xc : Nat) (X : List Nat) (w : World) (h : Rd w a l c L) (hx : Rd w x xl xc X) (hxl : xl ≤ 500000) :
    Calls Tryz.prog 208 #[.slice a l c, .slice x xl xc] w fun e w' => ∃ ra rc, e = .returned (.slice ra xl rc) ∧ Rd w' ra xl rc X ∧ Into w a c ra rc ∧ Keeps (InB a) w w' := by
  have H := hid h; have Hx := hid hx
  have HXl := hid hx.length
  clear h hx
  by_cases h0 : xl = 0
  · subst h0
    have hX : X = [] := List.eq_nil_of_length_eq_zero HXl.out
    subst hX
    go_enter Tryz.func208, Tryz.ntmps208
    go_wp2_with fail
    refine (make_zero a l c L _ H.out).mono ?_
    rintro e w1 ⟨rfl, rfl⟩
    go_wp2_with (refine wpList_copy_nothing rfl (.tmp 9) (.tmp 10) 101 101 rfl 177 u101 s177 a x 0 c 0 xc rfl rfl rfl ?_)
    go_ret
    exact ⟨_, _, rfl, H.out.zero, Into.refl _ _ _, Keeps.refl _ _⟩
  · go_enter Tryz.func208, Tryz.ntmps208
    go_wp2_with fail
    refine (make_any a l c xl L _ H.out (by omega) (by omega)).mono ?_
    rintro e w1 ⟨ra, rc, rfl, b, o, M, rfl, hb, hw, h1, h2, h3, hi, hk, hsame⟩
    have Hb := hid hb; have Hw := hid hw; have Hi := hid hi; have Hk := hid hk; have Hsame := hid hsame
    clear hb hw hi hk hsame
    obtain ⟨xb, xo, rfl, hxc⟩ := Rd.cells (Hx.out.keep Hk.out (fun _ _ h => h)) (by omega)
    have Hxc := hid hxc
    clear hxc
    go_wp2_with (refine wpList_cp rfl (.tmp 9) (.tmp 10) 101 101 rfl 177 u101 s177 (some ⟨b, o, none⟩) (some ⟨xb, xo, none⟩) xl rc xl xc rfl rfl b o (M.map wv) 177 Hb.out (X.map wv) (by simp [HXl.out, Nat.min_self]) (fun _ => ⟨rfl, xb, xo, rfl, Hxc.out⟩) (by simp only [List.length_map]; rw [HXl.out]; omega) wv_one ?_; intro w2 hb2 hk2)
    have Hb2 := hid hb2; have Hk2 := hid hk2
    clear hb2 hk2
    go_wp2_with fail
    go_ret
    rw [← splice_map] at Hb2
    exact ⟨_, _, rfl, Made.done Hb2.out Hw.out Hx.out.words HXl.out h1 h2 h3, Hi.out, Made.keeps Hi.out Hk.out Hk2.out⟩
end Go.Proofs
namespace Go.Proofs
open Go.RowKit
set_option maxHeartbeats 400000
set_option linter.unusedVariables false
set_option linter.unusedSimpArgs false
set_option maxRecDepth 100000

theorem quiet_ex {P : Program} {f : FuncId} {args : Array Value} {w : World} {n : Nat} {v : Value}
    (h : Calls P f args (w.drewN n) fun e w' => e = .returned v ∧ ∃ k, w' = (w.drewN n).drewN k) : Calls P f args (w.drewN n) fun e w' => e = .returned v ∧ ∃ m, w' = w.drewN m :=
  h.mono fun _ _ ⟨he, k, hw⟩ => ⟨he, n + k, by rw [hw, World.drewN_drewN]⟩

/-- The sign of a comparison. -/
def cmpI (m n : Nat) : Int := if m < n then -1 else if n < m then 1 else 0

theorem val_cmp_top {X Y : List Nat} {k : Nat} (hX : Words X) (hY : Words Y) (hl : X.length = Y.length) (hk : k < X.length)
    (heq : ∀ j, k < j → j < X.length → X.getD j 0 = Y.getD j 0) : (X.getD k 0 < Y.getD k 0 → val X < val Y) ∧ (X.getD k 0 = Y.getD k 0 → k = 0 → val X = val Y) := by
  have split : ∀ L : List Nat, k < L.length → val L = val (L.take k) + W64 ^ k * (L.getD k 0 + W64 * val (L.drop (k + 1))) := by
    intro L hL
    have e : L = L.take k ++ (L.getD k 0 :: L.drop (k + 1)) := by
      have h1 : L.drop k = L[k] :: L.drop (k + 1) := List.drop_eq_getElem_cons hL
      have h2 : L.getD k 0 = L[k] := by simp [hL]
      rw [h2, ← h1, List.take_append_drop]
    conv => lhs; rw [e, val_append]
    simp only [val_cons, List.length_take]
    rw [Nat.min_eq_left (by omega)]
  have hd : X.drop (k + 1) = Y.drop (k + 1) := by
    apply List.ext_getElem?
    intro j
    simp only [List.getElem?_drop]
    rcases Nat.lt_or_ge (k + 1 + j) X.length with h | h
    · have := heq (k + 1 + j) (by omega) h
      simp only [List.getD_eq_getElem?_getD] at this
      rw [List.getElem?_eq_getElem h, List.getElem?_eq_getElem (by omega)] at *
      simpa using this
    · rw [List.getElem?_eq_none h, List.getElem?_eq_none (by omega)]
  have e1 := split X hk
  have e2 := split Y (by omega)
  rw [hd] at e1
  have b1 := val_lt (hX.take k)
  have b2 := val_lt (hY.take k)
  simp only [List.length_take] at b1 b2
  rw [Nat.min_eq_left (by omega)] at b1 b2
  refine ⟨fun h => ?_, fun h h0 => ?_⟩
  · rw [e1, e2]
    have : W64 ^ k * (X.getD k 0 + W64 * val (Y.drop (k + 1))) + W64 ^ k ≤ W64 ^ k * (Y.getD k 0 + W64 * val (Y.drop (k + 1))) := by
      rw [← Nat.mul_succ]; exact Nat.mul_le_mul_left _ (by omega)
    omega
  · subst h0
    rw [e1, e2, h]
    simp

def CmpRel (w : World) (l : Nat) (X Y : List Nat) (i : Value) (wr : World) : Prop :=
  ∃ k q : Nat, k < l ∧ i = .int .i64 (k : Int) ∧ (∀ j, k < j → j < l → X.getD j 0 = Y.getD j 0) ∧ wr = w.drewN q

theorem cmp_any (x : Option Addr) (xl xc : Nat) (y : Option Addr) (yl yc : Nat) (m n : Nat) (w : World) (hx : Rd w x xl xc (words m)) (hy : Rd w y yl yc (words n)) :
    Calls Tryz.prog 196 #[.slice x xl xc, .slice y yl yc] w fun e w' => e = .returned (.int .i64 (cmpI m n)) ∧ ∃ k, w' = w.drewN k := by
  have hlx := hx.len_le; have hly := hy.len_le
  unfold LIM at hlx hly
  have ex := hx.length; have ey := hy.length
  by_cases hne : xl < yl
  · have : m < n := by
      rcases Nat.lt_or_ge m n with h | h
      · exact h
      · have := words_mono h; omega
    have hfin : cmpI m n = -1 := by simp [cmpI, this]
    clear hx hy ex ey
    have hb : ((xl : Int) != yl) = true := by rw [bne_iff_ne]; omega
    have hbn : (xl != yl) = true := by rw [bne_iff_ne]; omega
    have hbe : (xl == yl) = false := by simp; omega
    have Hf := hid hfin
    clear hfin this
    go_enter Tryz.func196, Tryz.ntmps196
    go_wp2
    go_ret
    exact ⟨by rw [Hf.out]; rfl, 0, rfl⟩
  by_cases hne2 : yl < xl
  · have : n < m := by
      rcases Nat.lt_or_ge n m with h | h
      · exact h
      · have := words_mono h; omega
    have hfin : cmpI m n = 1 := by unfold cmpI; rw [if_neg (by omega), if_pos this]
    clear hx hy ex ey
    have hb : ((xl : Int) != yl) = true := by rw [bne_iff_ne]; omega
    have hbn : (xl != yl) = true := by rw [bne_iff_ne]; omega
    have hbe : (xl == yl) = false := by simp; omega
    have Hf := hid hfin
    clear hfin this
    go_enter Tryz.func196, Tryz.ntmps196
    go_wp2
    go_ret
    exact ⟨by rw [Hf.out]; rfl, 0, rfl⟩
  obtain rfl : xl = yl := by omega
  by_cases h0 : xl = 0
  · subst h0
    have hm : m = 0 := words_length_zero ex
    have hn : n = 0 := words_length_zero ey
    subst hm; subst hn
    clear hx hy ex ey hne hne2
    go_enter Tryz.func196, Tryz.ntmps196
    go_wp2
    go_ret
    exact ⟨rfl, 0, rfl⟩
  · obtain ⟨xb, xo, rfl, hxc⟩ := hx.cell (by omega)
    obtain ⟨yb, yo, rfl, hyc⟩ := hy.cell (by omega)
    have Htop := hid (fun (k : Nat) (hk : k < xl) (heq : ∀ j, k < j → j < xl → (words m).getD j 0 = (words n).getD j 0) => val_cmp_top (words_words m) (words_words n) (by omega) (k := k) (by omega) (by rw [ex]; exact heq))
    have Htop2 := hid (fun (k : Nat) (hk : k < xl) (heq : ∀ j, k < j → j < xl → (words m).getD j 0 = (words n).getD j 0) => val_cmp_top (words_words n) (words_words m) (by omega) (k := k) (by omega) (by rw [ey]; exact fun j h1 h2 => (heq j h1 h2).symm))
    simp only [val_words] at Htop Htop2
    have Hxc := hid hxc; have Hyc := hid hyc
    clear hxc hyc hx hy ex ey hne hne2
    have hb1 : ((xl : Int) != xl) = false := by simp
    have hb1n : (xl == 0) = false := by simp; omega
    have hb2 : ((xl : Int) == 0) = false := by simp; omega
    go_enter Tryz.func196, Tryz.ntmps196
    go_wp2_with fail
    go_loopw [7] (fun i wr => CmpRel w xl (words m) (words n) i wr) (fun i _ => (intOf i).toNat)
    case atStart => exact ⟨xl - 1, 0, by omega, by simp; omega, fun j h1 h2 => by omega, rfl⟩
    case round =>
      obtain ⟨k, q, hk, rfl, heq, rfl⟩ := hrel
      have Heq := hid heq
      clear heq
      have c1 := Hxc.out k hk
      have c2 := Hyc.out k hk
      obtain ⟨u, hu⟩ : ∃ u, u = (words m).getD k 0 := ⟨_, rfl⟩
      obtain ⟨v, hv⟩ : ∃ v, v = (words n).getD k 0 := ⟨_, rfl⟩
      rw [← hu] at c1
      rw [← hv] at c2
      have Hu := hid hu; have Hv := hid hv
      clear hu hv
      have fin : ∀ e : Int, (u < v → e = -1) → (v < u → e = 1) → (u = v → k = 0 → e = 0) → (u = v → k = 0) → e = cmpI m n := by
        intro e h1 h2 h3 h4
        have t1 := Htop.out k hk Heq.out
        have t2 := Htop2.out k hk Heq.out
        rw [← Hu.out, ← Hv.out] at t1 t2
        unfold cmpI
        rcases Nat.lt_trichotomy u v with h | h | h
        · rw [if_pos (t1.1 h)]; exact h1 h
        · have := t1.2 h (h4 h)
          rw [if_neg (by omega), if_neg (by omega)]; exact h3 h (h4 h)
        · have := t2.1 h
          rw [if_neg (by omega), if_pos this]; exact h2 h
      have Fin := hid fin
      clear fin
      by_cases hk0 : k = 0
      · subst hk0
        rw [Nat.add_zero] at c1 c2
        rcases Nat.lt_trichotomy u v with h | h | h
        · have Hf := hid (Fin.out (-1) (fun _ => rfl) (by omega) (by omega) (by omega))
          clear Fin Heq
          go_wp2_with fail
          go_quiet (fail)
          go_wp2_with fail
          go_quiet (fail)
          go_wp2_with fail
          go_ret
          refine ⟨by rw [Hf.out]; rfl, ?_⟩
          simp only [World.drewN_drewN]
          exact ⟨_, rfl⟩
        · subst h
          have Hf := hid (Fin.out 0 (by omega) (by omega) (fun _ _ => rfl) (by omega))
          clear Fin Heq
          have hl : ((u : Int) < u) = False := by simp
          go_wp2_with fail
          go_quiet (fail)
          go_wp2_with fail
          go_quiet (fail)
          go_wp2_with fail
          go_quiet (fail)
          go_wp2_with fail
          go_ret
          refine ⟨by rw [Hf.out]; rfl, ?_⟩
          simp only [World.drewN_drewN]
          exact ⟨_, rfl⟩
        · have Hf := hid (Fin.out 1 (by omega) (fun _ => rfl) (by omega) (by omega))
          clear Fin Heq
          have hl : ¬ (u : Int) < v := by omega
          go_wp2_with fail
          go_quiet (fail)
          go_wp2_with fail
          go_quiet (fail)
          go_wp2_with fail
          go_quiet (fail)
          go_wp2_with fail
          go_ret
          refine ⟨by rw [Hf.out]; rfl, ?_⟩
          simp only [World.drewN_drewN]
          exact ⟨_, rfl⟩
      · rcases Nat.lt_trichotomy u v with h | h | h
        · have Hf := hid (Fin.out (-1) (fun _ => rfl) (by omega) (by omega) (by omega))
          clear Fin Heq
          have hk1 : decide (0 < k) = true := by simp; omega
          have hb : ((u : Int) == v) = false := by simp; omega
          go_wp2_with fail
          go_quiet (fail)
          go_wp2_with fail
          go_quiet (fail)
          go_wp2_with fail
          go_ret
          refine ⟨by rw [Hf.out]; rfl, ?_⟩
          simp only [World.drewN_drewN]
          exact ⟨_, rfl⟩
        · have Hh := hid h
          subst h
          clear Fin
          have hb : ((u : Int) == u) = true := by simp
          have hk1 : decide (0 < k) = true := by simp; omega
          go_wp2_with fail
          go_quiet (fail)
          go_wp2_with fail
          refine ⟨⟨k - 1, _, by omega, by simp; omega, fun j h1 h2 => ?_, rfl⟩, by simp [intOf]; omega⟩
          by_cases hj : j = k
          · subst hj; rw [← Hu.out, ← Hv.out]
          · exact Heq.out j (by omega) h2
        · have Hf := hid (Fin.out 1 (by omega) (fun _ => rfl) (by omega) (by omega))
          clear Fin Heq
          have hk1 : decide (0 < k) = true := by simp; omega
          have hb : ((u : Int) == v) = false := by simp; omega
          have hl : ¬ (u : Int) < v := by omega
          go_wp2_with fail
          go_quiet (fail)
          go_wp2_with fail
          go_quiet (fail)
          go_wp2_with fail
          go_quiet (fail)
          go_wp2_with fail
          go_ret
          refine ⟨by rw [Hf.out]; rfl, ?_⟩
          simp only [World.drewN_drewN]
          exact ⟨_, rfl⟩
end Go.Proofs
namespace Go.Proofs
open Go.RowKit
set_option maxHeartbeats 400000
set_option linter.unusedVariables false
set_option linter.unusedSimpArgs false
set_option maxRecDepth 100000

theorem run_neq_ptr_other {P : Program} (w : World) {tp te : TypeId} {j : TypeInfo} {a b : Addr} {ca cb : Array Value} {ta tb : TypeId} (hp : P.underlying tp = some (.pointer te)) (hte : P.info? te = some j) (hsz : j.size ≠ 0)
    (hne : a ≠ b) (ha : w.heap[a.block]? = some (.cells ca ta (0, 0))) (hb : w.heap[b.block]? = some (.cells cb tb (0, 0))) :
    (binOp .neq tp (.pointer (some a)) (.pointer (some b))).run P w = .ok (.bool true) w := by
  have h : ∀ d : Nat, (Op.equalIn (d + 1) tp (.pointer (some a)) (.pointer (some b))).run P w = .ok false w := fun d => by
    simp [Op.equalIn, run_underlying hp, sizeOf, typeInfo, hte, hsz, run_sameAddr_other w hne ha hb]
  simp only [binOp]
  simp [Op.equal, Op.maxDepth, h 9999]
theorem run_neq_ptr_same' {P : Program} (w : World) {tp te : TypeId} {j : TypeInfo} (a : Addr) (hp : P.underlying tp = some (.pointer te)) (hte : P.info? te = some j) :
    (binOp .neq tp (.pointer (some a)) (.pointer (some a))).run P w = .ok (.bool false) w := by
  have h : ∀ d : Nat, (Op.equalIn (d + 1) tp (.pointer (some a)) (.pointer (some a))).run P w = .ok true w := fun d => by
    simp [Op.equalIn, run_underlying hp, sizeOf, typeInfo, hte, run_sameAddr_same]
  simp only [binOp]
  simp [Op.equal, Op.maxDepth, h 9999]

theorem u195 : Tryz.prog.underlying 195 = some (.pointer 177) := by kernel_rfl

theorem neq195_same (a : Addr) (w : World) : (binOp .neq 195 (.pointer (some a)) (.pointer (some a))).run Tryz.prog w = .ok (.bool false) w := by
  obtain ⟨i0, hi, _⟩ := info_parts info177
  exact run_neq_ptr_same' w a u195 hi
theorem neq195_other {w : World} {b o b' o' : Nat} {M N : List Nat} (h : Blk w b M) (k : Blk w b' N) (hne : b ≠ b') :
    (binOp .neq 195 (.pointer (some ⟨b, o, none⟩)) (.pointer (some ⟨b', o', none⟩))).run Tryz.prog w = .ok (.bool true) w := by
  obtain ⟨i0, hi, hz0, hz1, hz2⟩ := info_parts info177
  exact run_neq_ptr_other w u195 hi (by omega) (by intro he; cases he; exact hne rfl) h k

/-- A word and more is added to the words. -/
def addVWres (w : World) (zb zo n : Nat) (Z S : List Nat) (y : Nat) (e : Ending) (w' : World) : Prop :=
  ∃ (R : List Nat) (c : Nat), R.length = n ∧ Words R ∧ c ≤ 1 ∧ val R + W64 ^ n * c = val S + y ∧ e = .returned (.int .u64 (c : Int)) ∧ Blk w' zb (splice Z zo R) ∧ Keeps (· = zb) w w'

theorem splice_splice {α : Type} {Z R S : List α} {o : Nat} (h : o + R.length + S.length ≤ Z.length) : splice (splice Z o R) (o + R.length) S = splice Z o (R ++ S) := by
  have hl : (Z.take o ++ R).length = o + R.length := by simp; omega
  have e1 : (splice Z o R).take (o + R.length) = Z.take o ++ R := by
    unfold splice
    rw [← hl, List.take_left]
  have e2 : (splice Z o R).drop (o + R.length + S.length) = Z.drop (o + (R ++ S).length) := by
    unfold splice
    rw [List.drop_append, List.drop_of_length_le (by rw [hl]; omega), hl, List.drop_drop]
    simp; congr 1; omega
  show (splice Z o R).take (o + R.length) ++ S ++ (splice Z o R).drop (o + R.length + S.length) = _
  rw [e1, e2]
  simp [splice]
theorem splice_own {α : Type} {Z R : List α} {o m : Nat} (h : o + R.length + m ≤ Z.length) : splice Z o R = splice Z o (R ++ seg Z (o + R.length) m) := by
  unfold splice seg
  simp only [List.length_append, List.length_take, List.length_drop]
  rw [Nat.min_eq_left (by omega)]
  have : Z.drop (o + R.length) = (Z.drop (o + R.length)).take m ++ Z.drop (o + (R.length + m)) := by
    conv => lhs; rw [← List.take_append_drop m (Z.drop (o + R.length))]
    rw [List.drop_drop]
    congr 2
    omega
  rw [← List.append_assoc, List.append_assoc (Z.take o ++ R), ← this]

theorem addVW_fin {R S : List Nat} {n j y : Nat} {X : List Nat} {xo : Nat} (hR : R.length = j) (hjn : j ≤ n) (hxn : xo + n ≤ X.length) (hv : val R = val (seg X xo j) + y) :
    (R ++ seg X (xo + j) (n - j)).length = n ∧ val (R ++ seg X (xo + j) (n - j)) + W64 ^ n * 0 = val (seg X xo n) + y := by
  refine ⟨by simp [length_seg (L := X) (o := xo + j) (n := n - j) (by omega), hR]; omega, ?_⟩
  have e : n = j + (n - j) := by omega
  conv => rhs; rw [e, seg_add, val_append, length_seg (by omega)]
  rw [val_append, hR, hv]
  omega

def VWRel (w : World) (zb zo n : Nat) (Z X : List Nat) (xo y : Nat) (i : Value) (wr : World) : Prop :=
  ∃ (k : Nat) (R : List Nat), 1 ≤ k ∧ k ≤ n ∧ R.length = k ∧ Words R ∧ i = .int .i64 (k : Int) ∧
    val R + W64 ^ k = val (seg X xo k) + y ∧ Blk wr zb (splice Z zo R) ∧ Keeps (· = zb) w wr

theorem addVW_same (zb zo zc xc n y : Nat) (Z : List Nat) (w : World) (hn : n ≤ 1000000) (hn0 : 0 < n) (hz : Blk w zb Z) (hw : Words Z) (hzn : zo + n ≤ Z.length) (hy : y < W64) :
    Calls Tryz.prog 231 #[.slice (some ⟨zb, zo, none⟩) n zc, .slice (some ⟨zb, zo, none⟩) n xc, .int .u64 (y : Int)] w (addVWres w zb zo n Z (seg Z zo n) y) := by
  have c0 := Blk.cell hz (o := zo) (by omega)
  have f0 := Blk.frozen hz zo
  have Hz := hid hz; have Hw := hid hw; have Hy := hid hy
  clear hz hw hy
  obtain ⟨x0, hx0⟩ : ∃ x0, x0 = Z.getD zo 0 := ⟨_, rfl⟩
  rw [← hx0] at c0
  have Hx0 := hid hx0
  have Hx0w := hid (Hw.out.getD zo)
  clear hx0
  have hnn : ((n : Int) == 0) = false := by simp; omega
  have hneq := neq195_same ⟨zb, zo, none⟩
  go_enter Tryz.func231, Tryz.ntmps231
  go_wp2_with fail
  refine (bits_Add x0 y 0 (by omega) _).mono ?_
  rintro e w1 ⟨rfl, rfl⟩
  have e0 := ad_eq x0 y 0
  have h1 : adHi x0 y 0 ≤ 1 := adHi_le (by rw [Hx0.out]; exact Hx0w.out) Hy.out (Nat.zero_le 1)
  have hlo := adLo_lt x0 y 0
  obtain ⟨lo, hlo'⟩ : ∃ lo, lo = adLo x0 y 0 := ⟨_, rfl⟩
  obtain ⟨hi, hhi'⟩ : ∃ hi, hi = adHi x0 y 0 := ⟨_, rfl⟩
  rw [← hlo'] at e0 hlo ⊢
  rw [← hhi'] at e0 h1 ⊢
  clear hlo' hhi'
  have E0 := hid e0; have Hlo := hid hlo
  clear e0 hlo
  have hb0 := Blk.snoc (w := w) (n := n) (x := lo) (R := []) (k := 0) (by simpa using Hz.out) rfl hn0 hzn
  simp only [Nat.add_zero, List.nil_append] at hb0
  have Hb0 := hid hb0
  have hk0 := Keeps.set1 w zb zo (.int .u64 (lo : Int))
  have Hk0 := hid hk0
  clear hb0 hk0
  have hs1 : seg Z zo 1 = [x0] := by rw [seg_succ (by omega)]; simp [Hx0.out]
  have Hs1 := hid hs1
  clear hs1
  by_cases hhi : hi = 0
  · subst hhi
    go_wp2_with fail
    go_quiet (fail)
    go_wp2_with fail
    go_ret
    have hv : val [lo] = val (seg Z zo 1) + y := by rw [Hs1.out]; simp; have := E0.out; omega
    have := addVW_fin (S := []) (R := [lo]) (n := n) (j := 1) (y := y) (X := Z) (xo := zo) rfl hn0 hzn hv
    have hsp := splice_own (Z := Z) (R := [lo]) (o := zo) (m := n - 1) (by simp; omega)
    have hb := Hb0.out
    rw [hsp] at hb
    exact ⟨_, 0, this.1, (Words.cons Hlo.out Words.nil).append (Hw.out.seg _ _), by omega, this.2, rfl, hb, Hk0.out.drewN _⟩
  · obtain rfl : hi = 1 := by omega
    go_wp2_with fail
    go_loopw [9] (fun i wr => VWRel w zb zo n Z Z zo y i wr) (fun i _ => n - (intOf i).toNat)
    case atStart => exact ⟨1, [lo], Nat.le_refl _, hn0, rfl, Words.cons Hlo.out Words.nil, rfl, by rw [Hs1.out]; simp; have := E0.out; omega, Hb0.out, Hk0.out⟩
    case round =>
      obtain ⟨k, R, hk1, hk, hR, hWR, rfl, hv, hb, hkeep⟩ := hrel
      have HR := hid hR; have HW := hid hWR; have Hv := hid hv; have Hb := hid hb; have Hkeep := hid hkeep
      clear hR hWR hv hb hkeep
      by_cases hlt : k < n
      · have c1 := Blk.read Hz.out Hz.out Hb.out Hkeep.out HR.out hlt hzn hzn (.inr (.inl (Nat.le_refl _)))
        have c4 := Blk.frozen Hb.out (zo + k)
        obtain ⟨xk, hxk⟩ : ∃ xk, xk = Z.getD (zo + k) 0 := ⟨_, rfl⟩
        rw [← hxk] at c1
        have Hxk := hid hxk
        have Hxkw := hid (Hw.out.getD (zo + k))
        clear hxk
        have hseg := hid (val_seg_succ (L := Z) (o := zo) (k := k) (by omega))
        have hsn := fun x => hid (Blk.snoc (w := w) (n := n) (x := x) Hb.out HR.out hlt hzn)
        have hkn := fun x => hid (Hkeep.out.trans (Keeps.set1 wr zb (zo + k) (.int .u64 x)))
        by_cases hff : xk = W64 - 1
        · have hb1 : ((xk : Int) != 18446744073709551615) = false := by rw [hff]; decide
          have Hff := hid hff
          clear hff
          go_wp2_with fail
          refine ⟨⟨k + 1, R ++ [0], by omega, by omega, by simp [HR.out], HW.out.snoc W64_pos, by simp, ?_, (hsn 0).out, (hkn 0).out⟩, by simp [intOf]; omega⟩
          rw [val_snoc, HR.out, hseg.out, Nat.pow_succ, ← Hxk.out, Hff.out]
          have := Hv.out
          have hp : W64 ^ k * (W64 - 1) + W64 ^ k = W64 ^ k * W64 := by
            rw [← Nat.mul_succ]; congr 1
          omega
        · have hb1 : ((xk : Int) != 18446744073709551615) = true := by rw [bne_iff_ne]; unfold W64 at hff; omega
          have Hff := hid hff
          clear hff
          have hlt1 : xk + 1 < W64 := by have := Hxkw.out; rw [← Hxk.out] at this; have := Hff.out; omega
          have hu : IntKind.u64.wrap ((xk : Int) + 1) = (xk : Int) + 1 := by have := u64_wrap (xk + 1) hlt1; simpa using this
          have Hlt1 := hid hlt1
          clear hlt1
          go_wp2_with fail
          go_quiet (fail)
          go_wp2_with fail
          go_ret
          have hv : val (R ++ [xk + 1]) = val (seg Z zo (k + 1)) + y := by
            rw [val_snoc, HR.out, hseg.out, ← Hxk.out]
            have := Hv.out
            rw [Nat.mul_add, Nat.mul_one]
            omega
          have := addVW_fin (S := []) (R := R ++ [xk + 1]) (n := n) (j := k + 1) (y := y) (X := Z) (xo := zo) (by simp [HR.out]) hlt hzn hv
          have hsp := splice_own (Z := Z) (R := R ++ [xk + 1]) (o := zo) (m := n - (k + 1)) (by simp [HR.out]; omega)
          have hb := (hsn (xk + 1)).out
          rw [hsp] at hb
          rw [show (R ++ [xk + 1]).length = k + 1 from by simp [HR.out]] at hb
          exact ⟨_, 0, this.1, (HW.out.snoc Hlt1.out).append (Hw.out.seg _ _), by omega, this.2, rfl, hb, (hkn _).out.drewN _⟩
      · obtain rfl : k = n := by omega
        go_wp2_with fail
        go_ret
        exact ⟨R, 1, HR.out, HW.out, Nat.le_refl _, by rw [Nat.mul_one]; exact Hv.out, rfl, Hb.out, Hkeep.out⟩
end Go.Proofs
namespace Go.Proofs
open Go.RowKit
set_option maxHeartbeats 400000
set_option linter.unusedVariables false
set_option linter.unusedSimpArgs false
set_option maxRecDepth 100000

theorem size177 (w : World) : (sizeOf 177).run Tryz.prog w = .ok 1 w := by kernel_rfl
theorem elem100 : Tryz.prog.elem 100 = 177 := by kernel_rfl
theorem elem101 : Tryz.prog.elem 101 = 177 := by kernel_rfl

/-- s[k:], its address under one name. -/
theorem slice_from (T : TypeId) (hT : Tryz.prog.underlying T = some (.slice (Tryz.prog.elem T))) (hE : Tryz.prog.elem T = 177) (b o l c k : Nat) (h1 : k ≤ l) (h2 : l ≤ c) :
    ∃ p, (∀ w : World, (Instr.slice T (.slice (some ⟨b, o, none⟩) l c) (some (.int .i64 (k : Int))) none none).run Tryz.prog w = .ok (.slice p (l - k) (c - k)) w) ∧ (k < c → p = some ⟨b, o + k, none⟩) := by
  refine ⟨if c = k then some ⟨b, o, none⟩ else some ⟨b, o + k, none⟩, fun w => ?_, fun h => by rw [if_neg (by omega)]⟩
  rw [run_slice_l (P := Tryz.prog) w T (some ⟨b, o, none⟩) l c hT .i64 (k : Int) (by omega) (by omega), hE, size177]
  simp only [Result.andThen_ok, sliced, Int.toNat_natCast, Nat.mul_one]
  congr 2
  by_cases h : c = k
  · rw [if_pos h, if_pos h]
  · rw [if_neg h, if_neg h]
    simp only [Option.map_some, Addr.add]
    by_cases hk : k = 0
    · subst hk; simp
    · simp [hk]
theorem slice100_from (b o l c k : Nat) (h1 : k ≤ l) (h2 : l ≤ c) :
    ∃ p, (∀ w : World, (Instr.slice 100 (.slice (some ⟨b, o, none⟩) l c) (some (.int .i64 (k : Int))) none none).run Tryz.prog w = .ok (.slice p (l - k) (c - k)) w) ∧ (k < c → p = some ⟨b, o + k, none⟩) :=
  slice_from 100 (by rw [elem100]; exact u100) elem100 b o l c k h1 h2
theorem slice101_from (b o l c k : Nat) (h1 : k ≤ l) (h2 : l ≤ c) :
    ∃ p, (∀ w : World, (Instr.slice 101 (.slice (some ⟨b, o, none⟩) l c) (some (.int .i64 (k : Int))) none none).run Tryz.prog w = .ok (.slice p (l - k) (c - k)) w) ∧ (k < c → p = some ⟨b, o + k, none⟩) :=
  slice_from 101 (by rw [elem101]; exact u101) elem101 b o l c k h1 h2

theorem slice100_from1 (b o l c : Nat) (h1 : 1 ≤ l) (h2 : l ≤ c) :
    ∃ p, (∀ w : World, (Instr.slice 100 (.slice (some ⟨b, o, none⟩) l c) (some (.int .i64 1)) none none).run Tryz.prog w = .ok (.slice p (l - 1) (c - 1)) w) ∧ (1 < c → p = some ⟨b, o + 1, none⟩) :=
  slice100_from b o l c 1 h1 h2

theorem seg_cells {w : World} {b o j m : Nat} {X : List Nat} (hb : Blk w b X) (h : o + j + m ≤ X.length) :
    ∀ i v, ((seg X (o + j) m).map wv)[i]? = some v → w.cell? ⟨b, o + j + i, none⟩ = some v := by
  intro i v hv
  have hi : i < m := by
    have := (List.getElem?_eq_some_iff.1 hv).1
    rw [List.length_map, length_seg (by omega)] at this
    exact this
  rw [Blk.cell hb (by omega)]
  simp only [List.getElem?_map] at hv
  have := seg_getD (L := X) (o := o + j) (n := m) (i := i) hi
  rw [List.getD_eq_getElem?_getD] at this
  have hl : i < (seg X (o + j) m).length := by rw [length_seg (by omega)]; exact hi
  rw [List.getElem?_eq_getElem hl] at this hv
  simp at this hv
  rw [← hv, this, wv]
  simp

/-- The copy of what is left of x, behind the words that were laid. -/
theorem splice_copy {w' : World} {zb zo j : Nat} {Z R S : List Nat} (hb : RowAt w' zb 177 (Go.Proofs.splice ((Go.Proofs.splice Z zo R).map wv) (zo + j) (S.map wv))) (hR : R.length = j) (hS : zo + j + S.length ≤ Z.length) :
    Blk w' zb (Go.Proofs.splice Z zo (R ++ S)) := by
  subst hR
  rw [← splice_map, splice_splice (by omega)] at hb
  exact hb

theorem addVW_other (zb zo zc xb xo xc n y : Nat) (Z X : List Nat) (w : World) (hn : n ≤ 1000000) (hn0 : 0 < n) (hz : Blk w zb Z) (hx : Blk w xb X) (hw : Words X) (hzn : zo + n ≤ Z.length) (hxn : xo + n ≤ X.length) (hnc : n ≤ zc) (hnx : n ≤ xc) (hy : y < W64) (hne : zb ≠ xb) :
    Calls Tryz.prog 231 #[.slice (some ⟨zb, zo, none⟩) n zc, .slice (some ⟨xb, xo, none⟩) n xc, .int .u64 (y : Int)] w (addVWres w zb zo n Z (seg X xo n) y) := by
  have c0 := Blk.cell hx (o := xo) (by omega)
  have c0z := Blk.cell hz (o := zo) (by omega)
  have f0 := Blk.frozen hz zo
  have Hz := hid hz; have Hx := hid hx; have Hw := hid hw; have Hy := hid hy; have Hne := hid hne
  clear hz hx hw hy hne
  obtain ⟨x0, hx0⟩ : ∃ x0, x0 = X.getD xo 0 := ⟨_, rfl⟩
  rw [← hx0] at c0
  have Hx0 := hid hx0
  have Hx0w := hid (Hw.out.getD xo)
  clear hx0
  have hnn : ((n : Int) == 0) = false := by simp; omega
  go_enter Tryz.func231, Tryz.ntmps231
  go_wp2_with fail
  refine (bits_Add x0 y 0 (by omega) _).mono ?_
  rintro e w1 ⟨rfl, rfl⟩
  have e0 := ad_eq x0 y 0
  have h1 : adHi x0 y 0 ≤ 1 := adHi_le (by rw [Hx0.out]; exact Hx0w.out) Hy.out (Nat.zero_le 1)
  have hlo := adLo_lt x0 y 0
  obtain ⟨lo, hlo'⟩ : ∃ lo, lo = adLo x0 y 0 := ⟨_, rfl⟩
  obtain ⟨hi, hhi'⟩ : ∃ hi, hi = adHi x0 y 0 := ⟨_, rfl⟩
  rw [← hlo'] at e0 hlo ⊢
  rw [← hhi'] at e0 h1 ⊢
  clear hlo' hhi'
  have E0 := hid e0; have Hlo := hid hlo
  clear e0 hlo
  have hb0 := Blk.snoc (w := w) (n := n) (x := lo) (R := []) (k := 0) (by simpa using Hz.out) rfl hn0 hzn
  simp only [Nat.add_zero, List.nil_append] at hb0
  have Hb0 := hid hb0
  have hk0 := Keeps.set1 w zb zo (.int .u64 (lo : Int))
  have Hk0 := hid hk0
  clear hb0 hk0
  have hs1 : seg X xo 1 = [x0] := by rw [seg_succ (by omega)]; simp [Hx0.out]
  have Hs1 := hid hs1
  clear hs1
  -- the end, where j words are laid and nothing is carried
  have fin : ∀ (j : Nat) (R : List Nat) (w2 : World), R.length = j → Words R → j ≤ n → val R = val (seg X xo j) + y → Blk w2 zb (splice Z zo (R ++ seg X (xo + j) (n - j))) → Keeps (· = zb) w w2 →
      addVWres w zb zo n Z (seg X xo n) y (.returned (.int .u64 0)) w2 := by
    intro j R w2 hR hW hj hv hb hk
    have := addVW_fin (S := []) (y := y) hR hj hxn hv
    exact ⟨_, 0, this.1, hW.append (Hw.out.seg _ _), by omega, this.2, rfl, hb, hk⟩
  have Fin := hid fin
  clear fin
  by_cases hhi : hi = 0
  · subst hhi
    have hneq := neq195_other (o := zo) (o' := xo) Hb0.out (Hk0.out.row Hx.out (fun h => Hne.out h.symm)) Hne.out
    have hneq' : ∀ k, (binOp .neq 195 (.pointer (some ⟨zb, zo, none⟩)) (.pointer (some ⟨xb, xo, none⟩))).run Tryz.prog ((w.setCell ⟨zb, zo, none⟩ (.int .u64 (lo : Int))).drewN k) = .ok (.bool true) ((w.setCell ⟨zb, zo, none⟩ (.int .u64 (lo : Int))).drewN k) :=
      fun k => neq195_other (w := (w.setCell ⟨zb, zo, none⟩ (.int .u64 (lo : Int))).drewN k) (o := zo) (o' := xo) Hb0.out (Hk0.out.row Hx.out (fun h => Hne.out h.symm)) Hne.out
    have hv : val [lo] = val (seg X xo 1) + y := by rw [Hs1.out]; simp; have := E0.out; omega
    have Hv := hid hv
    clear hv
    go_wp2_with fail
    go_quiet (fail)
    go_wp2_with fail
    obtain ⟨p1, hs1, hp1⟩ := slice100_from1 zb zo n zc hn0 hnc
    obtain ⟨p2, hs2, hp2⟩ := slice100_from1 xb xo n xc hn0 hnx
    have Hp1 := hid hp1; have Hp2 := hid hp2
    clear hp1 hp2
    go_still_tail 4, (by kernel_rfl)
    refine wpList_cp rfl (.tmp 40) (.tmp 42) 100 100 rfl 177 u100 s177 p1 p2 (n - 1) (zc - 1) (n - 1) (xc - 1) rfl rfl zb (zo + 1) ((splice Z zo [lo]).map wv) 177 Hb0.out ((seg X (xo + 1) (n - 1)).map wv) ?_ ?_ ?_ wv_one ?_
    · rw [List.length_map, length_seg (by omega)]; exact (Nat.min_self _).symm
    · intro h0
      rw [List.length_map, length_seg (by omega)] at h0
      exact ⟨Hp1.out (by omega), xb, xo + 1, Hp2.out (by omega), seg_cells (Hk0.out.row Hx.out (fun h => Hne.out h.symm)) (by omega)⟩
    · rw [List.length_map, List.length_map, length_seg (by omega), length_splice (by simp; omega)]; omega
    intro w2 hb2 hk2
    have Hb2 := hid (splice_copy hb2 rfl (by rw [length_seg (by omega)]; omega))
    have Hk2 := hid ((Hk0.out.trans ((Keeps.refl _ _).drewN nq)).trans (((Keeps.refl _ _).drew).trans hk2))
    clear hb2 hk2
    go_wp2_with fail
    go_ret
    exact Fin.out 1 [lo] _ rfl (Words.cons Hlo.out Words.nil) hn0 Hv.out Hb2.out Hk2.out
  · obtain rfl : hi = 1 := by omega
    go_wp2_with fail
    go_loopw [9] (fun i wr => VWRel w zb zo n Z X xo y i wr) (fun i _ => n - (intOf i).toNat)
    case atStart => exact ⟨1, [lo], Nat.le_refl _, hn0, rfl, Words.cons Hlo.out Words.nil, rfl, by rw [Hs1.out]; simp; have := E0.out; omega, Hb0.out, Hk0.out⟩
    case round =>
      obtain ⟨k, R, hk1, hk, hR, hWR, rfl, hv, hb, hkeep⟩ := hrel
      have HR := hid hR; have HW := hid hWR; have Hv := hid hv; have Hb := hid hb; have Hkeep := hid hkeep
      clear hR hWR hv hb hkeep
      by_cases hlt : k < n
      · have c1 := Blk.read Hz.out Hx.out Hb.out Hkeep.out HR.out hlt hzn hxn (.inl (fun h => Hne.out h.symm))
        have c3 := Blk.read Hz.out Hz.out Hb.out Hkeep.out HR.out hlt hzn hzn (.inr (.inl (Nat.le_refl _)))
        have c4 := Blk.frozen Hb.out (zo + k)
        obtain ⟨xk, hxk⟩ : ∃ xk, xk = X.getD (xo + k) 0 := ⟨_, rfl⟩
        rw [← hxk] at c1
        have Hxk := hid hxk
        have Hxkw := hid (Hw.out.getD (xo + k))
        clear hxk
        have hseg := hid (val_seg_succ (L := X) (o := xo) (k := k) (by omega))
        have hsn := fun x => hid (Blk.snoc (w := w) (n := n) (x := x) Hb.out HR.out hlt hzn)
        have hkn := fun x => hid (Hkeep.out.trans (Keeps.set1 wr zb (zo + k) (.int .u64 x)))
        by_cases hff : xk = W64 - 1
        · have hb1 : ((xk : Int) != 18446744073709551615) = false := by rw [hff]; decide
          have Hff := hid hff
          clear hff
          go_wp2_with fail
          refine ⟨⟨k + 1, R ++ [0], by omega, by omega, by simp [HR.out], HW.out.snoc W64_pos, by simp, ?_, (hsn 0).out, (hkn 0).out⟩, by simp [intOf]; omega⟩
          rw [val_snoc, HR.out, hseg.out, Nat.pow_succ, ← Hxk.out, Hff.out]
          have := Hv.out
          have hp : W64 ^ k * (W64 - 1) + W64 ^ k = W64 ^ k * W64 := by
            rw [← Nat.mul_succ]; congr 1
          omega
        · have hb1 : ((xk : Int) != 18446744073709551615) = true := by rw [bne_iff_ne]; unfold W64 at hff; omega
          have Hff := hid hff
          clear hff
          have hlt1 : xk + 1 < W64 := by have := Hxkw.out; rw [← Hxk.out] at this; have := Hff.out; omega
          have hu : IntKind.u64.wrap ((xk : Int) + 1) = (xk : Int) + 1 := by have := u64_wrap (xk + 1) hlt1; simpa using this
          have Hlt1 := hid hlt1
          clear hlt1
          have hb2 : Blk (wr.setCell ⟨zb, zo + k, none⟩ (.int .u64 ((xk : Int) + 1))) zb (splice Z zo (R ++ [xk + 1])) := (hsn (xk + 1)).out
          have hk2 := (hkn ((xk : Int) + 1)).out
          have hneq := neq195_other (o := zo) (o' := xo) hb2 (hk2.row Hx.out (fun h => Hne.out h.symm)) Hne.out
          have hneq' := fun q => neq195_other (w := (wr.setCell ⟨zb, zo + k, none⟩ (.int .u64 ((xk : Int) + 1))).drewN q) (o := zo) (o' := xo) hb2 (hk2.row Hx.out (fun h => Hne.out h.symm)) Hne.out
          have Hb2 := hid hb2; have Hk2 := hid hk2
          clear hb2 hk2
          obtain ⟨p1, hs1, hp1⟩ := slice100_from zb zo n zc (k + 1) hlt hnc
          obtain ⟨p2, hs2, hp2⟩ := slice100_from xb xo n xc (k + 1) hlt hnx
          simp only [Int.natCast_add, Int.cast_ofNat_Int] at hs1 hs2
          have Hp1 := hid hp1; have Hp2 := hid hp2
          clear hp1 hp2
          go_wp2_with fail
          go_quiet (fail)
          go_wp2_with fail
          have hwr : IntKind.i64.wrap ((k : Int) + 1) = (k : Int) + 1 := IntWalk.i64_in _ (by omega)
          go_still_tail 8, (by kernel_rfl)
          clear hwr
          refine wpList_cp rfl (.tmp 69) (.tmp 73) 100 100 rfl 177 u100 s177 p1 p2 (n - (k + 1)) (zc - (k + 1)) (n - (k + 1)) (xc - (k + 1)) rfl rfl zb (zo + (k + 1)) ((splice Z zo (R ++ [xk + 1])).map wv) 177 Hb2.out ((seg X (xo + (k + 1)) (n - (k + 1))).map wv) ?_ ?_ ?_ wv_one ?_
          · rw [List.length_map, length_seg (by omega)]; exact (Nat.min_self _).symm
          · intro h0
            rw [List.length_map, length_seg (by omega)] at h0
            exact ⟨Hp1.out (by omega), xb, xo + (k + 1), Hp2.out (by omega), seg_cells (Hk2.out.row Hx.out (fun h => Hne.out h.symm)) (by omega)⟩
          · rw [List.length_map, List.length_map, length_seg (by omega), length_splice (by simp [HR.out]; omega)]; omega
          intro w2 hb3 hk3
          have Hb3 := hid (splice_copy hb3 (by simp [HR.out]) (by rw [length_seg (by omega)]; omega))
          have Hk3 := hid ((Hk2.out.trans ((Keeps.refl _ _).drewN nq)).trans (((Keeps.refl _ _).drew).trans hk3))
          clear hb3 hk3
          go_wp2_with fail
          go_ret
          have hv : val (R ++ [xk + 1]) = val (seg X xo (k + 1)) + y := by
            rw [val_snoc, HR.out, hseg.out, ← Hxk.out]
            have := Hv.out
            rw [Nat.mul_add, Nat.mul_one]
            omega
          exact Fin.out (k + 1) (R ++ [xk + 1]) _ (by simp [HR.out]) (HW.out.snoc Hlt1.out) hlt hv Hb3.out Hk3.out
      · obtain rfl : k = n := by omega
        go_wp2_with fail
        go_ret
        exact ⟨R, 1, HR.out, HW.out, Nat.le_refl _, by rw [Nat.mul_one]; exact Hv.out, rfl, Hb.out, Hkeep.out⟩

/-- z = x + y: both in one place, or in different blocks. -/
theorem addVW_any (zb zo zc xb xo xc n y : Nat) (Z X : List Nat) (w : World) (hn : n ≤ 1000000) (hn0 : 0 < n) (hz : Blk w zb Z) (hx : Blk w xb X) (hw : Words X) (hzn : zo + n ≤ Z.length) (hxn : xo + n ≤ X.length) (hnc : n ≤ zc) (hnx : n ≤ xc) (hy : y < W64)
    (hal : zb ≠ xb ∨ zo = xo) :
    Calls Tryz.prog 231 #[.slice (some ⟨zb, zo, none⟩) n zc, .slice (some ⟨xb, xo, none⟩) n xc, .int .u64 (y : Int)] w (addVWres w zb zo n Z (seg X xo n) y) := by
  by_cases hne : zb = xb
  · subst hne
    obtain rfl := hz.inj hx
    rcases hal with h | rfl
    · exact absurd rfl h
    · exact addVW_same zb zo zc xc n y Z w hn hn0 hz hw hzn hy
  · exact addVW_other zb zo zc xb xo xc n y Z X w hn hn0 hz hx hw hzn hxn hnc hnx hy hne
end Go.Proofs
namespace Go.Proofs
open Go.RowKit
set_option maxHeartbeats 400000
set_option linter.unusedVariables false
set_option linter.unusedSimpArgs false
set_option maxRecDepth 100000

/-- A word and more is taken from the words. -/
def subVWres (w : World) (zb zo n : Nat) (Z S : List Nat) (y : Nat) (e : Ending) (w' : World) : Prop :=
  ∃ (R : List Nat) (c : Nat), R.length = n ∧ Words R ∧ c ≤ 1 ∧ val R + y = val S + W64 ^ n * c ∧ e = .returned (.int .u64 (c : Int)) ∧ Blk w' zb (splice Z zo R) ∧ Keeps (· = zb) w w'

theorem subVW_fin {R S : List Nat} {n j y : Nat} {X : List Nat} {xo : Nat} (hR : R.length = j) (hjn : j ≤ n) (hxn : xo + n ≤ X.length) (hv : val R + y = val (seg X xo j)) :
    (R ++ seg X (xo + j) (n - j)).length = n ∧ val (R ++ seg X (xo + j) (n - j)) + y = val (seg X xo n) + W64 ^ n * 0 := by
  refine ⟨by simp [length_seg (L := X) (o := xo + j) (n := n - j) (by omega), hR]; omega, ?_⟩
  have e : n = j + (n - j) := by omega
  have e2 : val (seg X xo n) = val (seg X xo j) + W64 ^ j * val (seg X (xo + j) (n - j)) := by
    conv => lhs; rw [e, seg_add, val_append, length_seg (by omega)]
  rw [val_append, hR, e2]
  omega

def SWRel (w : World) (zb zo n : Nat) (Z X : List Nat) (xo y : Nat) (i : Value) (wr : World) : Prop :=
  ∃ (k : Nat) (R : List Nat), 1 ≤ k ∧ k ≤ n ∧ R.length = k ∧ Words R ∧ i = .int .i64 (k : Int) ∧
    val R + y = val (seg X xo k) + W64 ^ k ∧ Blk wr zb (splice Z zo R) ∧ Keeps (· = zb) w wr

theorem subVW_same (zb zo zc xc n y : Nat) (Z : List Nat) (w : World) (hn : n ≤ 1000000) (hn0 : 0 < n) (hz : Blk w zb Z) (hw : Words Z) (hzn : zo + n ≤ Z.length) (hy : y < W64) :
    Calls Tryz.prog 234 #[.slice (some ⟨zb, zo, none⟩) n zc, .slice (some ⟨zb, zo, none⟩) n xc, .int .u64 (y : Int)] w (subVWres w zb zo n Z (seg Z zo n) y) := by
  have c0 := Blk.cell hz (o := zo) (by omega)
  have f0 := Blk.frozen hz zo
  have Hz := hid hz; have Hw := hid hw; have Hy := hid hy
  clear hz hw hy
  obtain ⟨x0, hx0⟩ : ∃ x0, x0 = Z.getD zo 0 := ⟨_, rfl⟩
  rw [← hx0] at c0
  have Hx0 := hid hx0
  have Hx0w := hid (Hw.out.getD zo)
  clear hx0
  have hnn : ((n : Int) == 0) = false := by simp; omega
  have hneq := neq195_same ⟨zb, zo, none⟩
  go_enter Tryz.func234, Tryz.ntmps234
  go_wp2_with fail
  refine (bits_Sub x0 y 0 (by omega) _).mono ?_
  rintro e w1 ⟨rfl, rfl⟩
  have e0 := sb_eq (x := x0) (y := y) (c := 0) (by rw [Hx0.out]; exact Hx0w.out) Hy.out (Nat.zero_le 1)
  have h1 : sbHi x0 y 0 ≤ 1 := sbHi_le x0 y 0
  have hlo := sbLo_lt x0 y 0
  obtain ⟨lo, hlo'⟩ : ∃ lo, lo = sbLo x0 y 0 := ⟨_, rfl⟩
  obtain ⟨hi, hhi'⟩ : ∃ hi, hi = sbHi x0 y 0 := ⟨_, rfl⟩
  rw [← hlo'] at e0 hlo ⊢
  rw [← hhi'] at e0 h1 ⊢
  clear hlo' hhi'
  have E0 := hid e0; have Hlo := hid hlo
  clear e0 hlo
  have hb0 := Blk.snoc (w := w) (n := n) (x := lo) (R := []) (k := 0) (by simpa using Hz.out) rfl hn0 hzn
  simp only [Nat.add_zero, List.nil_append] at hb0
  have Hb0 := hid hb0
  have hk0 := Keeps.set1 w zb zo (.int .u64 (lo : Int))
  have Hk0 := hid hk0
  clear hb0 hk0
  have hs1 : seg Z zo 1 = [x0] := by rw [seg_succ (by omega)]; simp [Hx0.out]
  have Hs1 := hid hs1
  clear hs1
  by_cases hhi : hi = 0
  · subst hhi
    go_wp2_with fail
    go_quiet (fail)
    go_wp2_with fail
    go_ret
    have hv : val [lo] + y = val (seg Z zo 1) := by rw [Hs1.out]; simp; have := E0.out; omega
    have := subVW_fin (S := []) (R := [lo]) (n := n) (j := 1) (y := y) (X := Z) (xo := zo) rfl hn0 hzn hv
    have hsp := splice_own (Z := Z) (R := [lo]) (o := zo) (m := n - 1) (by simp; omega)
    have hb := Hb0.out
    rw [hsp] at hb
    exact ⟨_, 0, this.1, (Words.cons Hlo.out Words.nil).append (Hw.out.seg _ _), by omega, this.2, rfl, hb, Hk0.out.drewN _⟩
  · obtain rfl : hi = 1 := by omega
    go_wp2_with fail
    go_loopw [9] (fun i wr => SWRel w zb zo n Z Z zo y i wr) (fun i _ => n - (intOf i).toNat)
    case atStart => exact ⟨1, [lo], Nat.le_refl _, hn0, rfl, Words.cons Hlo.out Words.nil, rfl, by rw [Hs1.out]; simp; have := E0.out; omega, Hb0.out, Hk0.out⟩
    case round =>
      obtain ⟨k, R, hk1, hk, hR, hWR, rfl, hv, hb, hkeep⟩ := hrel
      have HR := hid hR; have HW := hid hWR; have Hv := hid hv; have Hb := hid hb; have Hkeep := hid hkeep
      clear hR hWR hv hb hkeep
      by_cases hlt : k < n
      · have c1 := Blk.read Hz.out Hz.out Hb.out Hkeep.out HR.out hlt hzn hzn (.inr (.inl (Nat.le_refl _)))
        have c4 := Blk.frozen Hb.out (zo + k)
        obtain ⟨xk, hxk⟩ : ∃ xk, xk = Z.getD (zo + k) 0 := ⟨_, rfl⟩
        rw [← hxk] at c1
        have Hxk := hid hxk
        have Hxkw := hid (Hw.out.getD (zo + k))
        clear hxk
        have hseg := hid (val_seg_succ (L := Z) (o := zo) (k := k) (by omega))
        have hsn := fun x => hid (Blk.snoc (w := w) (n := n) (x := x) Hb.out HR.out hlt hzn)
        have hkn := fun x => hid (Hkeep.out.trans (Keeps.set1 wr zb (zo + k) (.int .u64 x)))
        by_cases hff : xk = 0
        · have hb1 : ((xk : Int) != 0) = false := by rw [hff]; decide
          have hs2 : Blk (wr.setCell ⟨zb, zo + k, none⟩ (.int .u64 18446744073709551615)) zb (splice Z zo (R ++ [W64 - 1])) := (hsn (W64 - 1)).out
          have Hs2 := hid hs2
          clear hs2
          have Hff := hid hff
          clear hff
          go_wp2_with fail
          refine ⟨⟨k + 1, R ++ [W64 - 1], by omega, by omega, by simp [HR.out], HW.out.snoc (by have := W64_pos; omega), by simp, ?_, Hs2.out, (hkn _).out⟩, by simp [intOf]; omega⟩
          rw [val_snoc, HR.out, hseg.out, Nat.pow_succ, ← Hxk.out, Hff.out]
          have := Hv.out
          have hp : W64 ^ k * (W64 - 1) + W64 ^ k = W64 ^ k * W64 := by
            rw [← Nat.mul_succ]; congr 1
          rw [Nat.mul_zero]
          omega
        · have hb1 : ((xk : Int) != 0) = true := by rw [bne_iff_ne]; omega
          obtain ⟨xm, hxm⟩ : ∃ xm, xk = xm + 1 := ⟨xk - 1, by omega⟩
          have Hff := hid hff
          clear hff
          have hlt1 : xm < W64 := by have := Hxkw.out; rw [← Hxk.out] at this; omega
          have hu : IntKind.u64.wrap ((xk : Int) - 1) = (xm : Int) := by have := u64_wrap xm hlt1; rw [hxm]; rw [show ((xm + 1 : Nat) : Int) - 1 = (xm : Int) from by omega]; exact this
          have Hxm := hid hxm
          clear hxm
          have Hlt1 := hid hlt1
          clear hlt1
          go_wp2_with fail
          go_quiet (fail)
          go_wp2_with fail
          go_ret
          have hv : val (R ++ [xm]) + y = val (seg Z zo (k + 1)) := by
            rw [val_snoc, HR.out, hseg.out, ← Hxk.out, Hxm.out]
            have := Hv.out
            rw [Nat.mul_add, Nat.mul_one]
            omega
          have := subVW_fin (S := []) (R := R ++ [xm]) (n := n) (j := k + 1) (y := y) (X := Z) (xo := zo) (by simp [HR.out]) hlt hzn hv
          have hsp := splice_own (Z := Z) (R := R ++ [xm]) (o := zo) (m := n - (k + 1)) (by simp [HR.out]; omega)
          have hb := (hsn xm).out
          rw [hsp] at hb
          rw [show (R ++ [xm]).length = k + 1 from by simp [HR.out]] at hb
          exact ⟨_, 0, this.1, (HW.out.snoc Hlt1.out).append (Hw.out.seg _ _), by omega, this.2, rfl, hb, (hkn _).out.drewN _⟩
      · obtain rfl : k = n := by omega
        go_wp2_with fail
        go_ret
        exact ⟨R, 1, HR.out, HW.out, Nat.le_refl _, by rw [Nat.mul_one]; exact Hv.out, rfl, Hb.out, Hkeep.out⟩
theorem subVW_other (zb zo zc xb xo xc n y : Nat) (Z X : List Nat) (w : World) (hn : n ≤ 1000000) (hn0 : 0 < n) (hz : Blk w zb Z) (hx : Blk w xb X) (hw : Words X) (hzn : zo + n ≤ Z.length) (hxn : xo + n ≤ X.length) (hnc : n ≤ zc) (hnx : n ≤ xc) (hy : y < W64) (hne : zb ≠ xb) :
    Calls Tryz.prog 234 #[.slice (some ⟨zb, zo, none⟩) n zc, .slice (some ⟨xb, xo, none⟩) n xc, .int .u64 (y : Int)] w (subVWres w zb zo n Z (seg X xo n) y) := by
  have c0 := Blk.cell hx (o := xo) (by omega)
  have c0z := Blk.cell hz (o := zo) (by omega)
  have f0 := Blk.frozen hz zo
  have Hz := hid hz; have Hx := hid hx; have Hw := hid hw; have Hy := hid hy; have Hne := hid hne
  clear hz hx hw hy hne
  obtain ⟨x0, hx0⟩ : ∃ x0, x0 = X.getD xo 0 := ⟨_, rfl⟩
  rw [← hx0] at c0
  have Hx0 := hid hx0
  have Hx0w := hid (Hw.out.getD xo)
  clear hx0
  have hnn : ((n : Int) == 0) = false := by simp; omega
  go_enter Tryz.func234, Tryz.ntmps234
  go_wp2_with fail
  refine (bits_Sub x0 y 0 (by omega) _).mono ?_
  rintro e w1 ⟨rfl, rfl⟩
  have e0 := sb_eq (x := x0) (y := y) (c := 0) (by rw [Hx0.out]; exact Hx0w.out) Hy.out (Nat.zero_le 1)
  have h1 : sbHi x0 y 0 ≤ 1 := sbHi_le x0 y 0
  have hlo := sbLo_lt x0 y 0
  obtain ⟨lo, hlo'⟩ : ∃ lo, lo = sbLo x0 y 0 := ⟨_, rfl⟩
  obtain ⟨hi, hhi'⟩ : ∃ hi, hi = sbHi x0 y 0 := ⟨_, rfl⟩
  rw [← hlo'] at e0 hlo ⊢
  rw [← hhi'] at e0 h1 ⊢
  clear hlo' hhi'
  have E0 := hid e0; have Hlo := hid hlo
  clear e0 hlo
  have hb0 := Blk.snoc (w := w) (n := n) (x := lo) (R := []) (k := 0) (by simpa using Hz.out) rfl hn0 hzn
  simp only [Nat.add_zero, List.nil_append] at hb0
  have Hb0 := hid hb0
  have hk0 := Keeps.set1 w zb zo (.int .u64 (lo : Int))
  have Hk0 := hid hk0
  clear hb0 hk0
  have hs1 : seg X xo 1 = [x0] := by rw [seg_succ (by omega)]; simp [Hx0.out]
  have Hs1 := hid hs1
  clear hs1
  -- the end, where j words are laid and nothing is carried
  have fin : ∀ (j : Nat) (R : List Nat) (w2 : World), R.length = j → Words R → j ≤ n → val R + y = val (seg X xo j) → Blk w2 zb (splice Z zo (R ++ seg X (xo + j) (n - j))) → Keeps (· = zb) w w2 →
      subVWres w zb zo n Z (seg X xo n) y (.returned (.int .u64 0)) w2 := by
    intro j R w2 hR hW hj hv hb hk
    have := subVW_fin (S := []) (y := y) hR hj hxn hv
    exact ⟨_, 0, this.1, hW.append (Hw.out.seg _ _), by omega, this.2, rfl, hb, hk⟩
  have Fin := hid fin
  clear fin
  by_cases hhi : hi = 0
  · subst hhi
    have hneq := neq195_other (o := zo) (o' := xo) Hb0.out (Hk0.out.row Hx.out (fun h => Hne.out h.symm)) Hne.out
    have hneq' : ∀ k, (binOp .neq 195 (.pointer (some ⟨zb, zo, none⟩)) (.pointer (some ⟨xb, xo, none⟩))).run Tryz.prog ((w.setCell ⟨zb, zo, none⟩ (.int .u64 (lo : Int))).drewN k) = .ok (.bool true) ((w.setCell ⟨zb, zo, none⟩ (.int .u64 (lo : Int))).drewN k) :=
      fun k => neq195_other (w := (w.setCell ⟨zb, zo, none⟩ (.int .u64 (lo : Int))).drewN k) (o := zo) (o' := xo) Hb0.out (Hk0.out.row Hx.out (fun h => Hne.out h.symm)) Hne.out
    have hv : val [lo] + y = val (seg X xo 1) := by rw [Hs1.out]; simp; have := E0.out; omega
    have Hv := hid hv
    clear hv
    go_wp2_with fail
    go_quiet (fail)
    go_wp2_with fail
    obtain ⟨p1, hs1, hp1⟩ := slice100_from1 zb zo n zc hn0 hnc
    obtain ⟨p2, hs2, hp2⟩ := slice100_from1 xb xo n xc hn0 hnx
    have Hp1 := hid hp1; have Hp2 := hid hp2
    clear hp1 hp2
    go_still_tail 4, (by kernel_rfl)
    refine wpList_cp rfl (.tmp 40) (.tmp 42) 100 100 rfl 177 u100 s177 p1 p2 (n - 1) (zc - 1) (n - 1) (xc - 1) rfl rfl zb (zo + 1) ((splice Z zo [lo]).map wv) 177 Hb0.out ((seg X (xo + 1) (n - 1)).map wv) ?_ ?_ ?_ wv_one ?_
    · rw [List.length_map, length_seg (by omega)]; exact (Nat.min_self _).symm
    · intro h0
      rw [List.length_map, length_seg (by omega)] at h0
      exact ⟨Hp1.out (by omega), xb, xo + 1, Hp2.out (by omega), seg_cells (Hk0.out.row Hx.out (fun h => Hne.out h.symm)) (by omega)⟩
    · rw [List.length_map, List.length_map, length_seg (by omega), length_splice (by simp; omega)]; omega
    intro w2 hb2 hk2
    have Hb2 := hid (splice_copy hb2 rfl (by rw [length_seg (by omega)]; omega))
    have Hk2 := hid ((Hk0.out.trans ((Keeps.refl _ _).drewN nq)).trans (((Keeps.refl _ _).drew).trans hk2))
    clear hb2 hk2
    go_wp2_with fail
    go_ret
    exact Fin.out 1 [lo] _ rfl (Words.cons Hlo.out Words.nil) hn0 Hv.out Hb2.out Hk2.out
  · obtain rfl : hi = 1 := by omega
    go_wp2_with fail
    go_loopw [9] (fun i wr => SWRel w zb zo n Z X xo y i wr) (fun i _ => n - (intOf i).toNat)
    case atStart => exact ⟨1, [lo], Nat.le_refl _, hn0, rfl, Words.cons Hlo.out Words.nil, rfl, by rw [Hs1.out]; simp; have := E0.out; omega, Hb0.out, Hk0.out⟩
    case round =>
      obtain ⟨k, R, hk1, hk, hR, hWR, rfl, hv, hb, hkeep⟩ := hrel
      have HR := hid hR; have HW := hid hWR; have Hv := hid hv; have Hb := hid hb; have Hkeep := hid hkeep
      clear hR hWR hv hb hkeep
      by_cases hlt : k < n
      · have c1 := Blk.read Hz.out Hx.out Hb.out Hkeep.out HR.out hlt hzn hxn (.inl (fun h => Hne.out h.symm))
        have c3 := Blk.read Hz.out Hz.out Hb.out Hkeep.out HR.out hlt hzn hzn (.inr (.inl (Nat.le_refl _)))
        have c4 := Blk.frozen Hb.out (zo + k)
        obtain ⟨xk, hxk⟩ : ∃ xk, xk = X.getD (xo + k) 0 := ⟨_, rfl⟩
        rw [← hxk] at c1
        have Hxk := hid hxk
        have Hxkw := hid (Hw.out.getD (xo + k))
        clear hxk
        have hseg := hid (val_seg_succ (L := X) (o := xo) (k := k) (by omega))
        have hsn := fun x => hid (Blk.snoc (w := w) (n := n) (x := x) Hb.out HR.out hlt hzn)
        have hkn := fun x => hid (Hkeep.out.trans (Keeps.set1 wr zb (zo + k) (.int .u64 x)))
        by_cases hff : xk = 0
        · have hb1 : ((xk : Int) != 0) = false := by rw [hff]; decide
          have hs2 : Blk (wr.setCell ⟨zb, zo + k, none⟩ (.int .u64 18446744073709551615)) zb (splice Z zo (R ++ [W64 - 1])) := (hsn (W64 - 1)).out
          have Hs2 := hid hs2
          clear hs2
          have Hff := hid hff
          clear hff
          go_wp2_with fail
          refine ⟨⟨k + 1, R ++ [W64 - 1], by omega, by omega, by simp [HR.out], HW.out.snoc (by have := W64_pos; omega), by simp, ?_, Hs2.out, (hkn _).out⟩, by simp [intOf]; omega⟩
          rw [val_snoc, HR.out, hseg.out, Nat.pow_succ, ← Hxk.out, Hff.out]
          have := Hv.out
          have hp : W64 ^ k * (W64 - 1) + W64 ^ k = W64 ^ k * W64 := by
            rw [← Nat.mul_succ]; congr 1
          rw [Nat.mul_zero]
          omega
        · have hb1 : ((xk : Int) != 0) = true := by rw [bne_iff_ne]; omega
          obtain ⟨xm, hxm⟩ : ∃ xm, xk = xm + 1 := ⟨xk - 1, by omega⟩
          have Hff := hid hff
          clear hff
          have hlt1 : xm < W64 := by have := Hxkw.out; rw [← Hxk.out] at this; omega
          have hu : IntKind.u64.wrap ((xk : Int) - 1) = (xm : Int) := by have := u64_wrap xm hlt1; rw [hxm]; rw [show ((xm + 1 : Nat) : Int) - 1 = (xm : Int) from by omega]; exact this
          have Hxm := hid hxm
          clear hxm
          have Hlt1 := hid hlt1
          clear hlt1
          have hb2 : Blk (wr.setCell ⟨zb, zo + k, none⟩ (.int .u64 (xm : Int))) zb (splice Z zo (R ++ [xm])) := (hsn xm).out
          have hk2 := (hkn (xm : Int)).out
          have hneq := neq195_other (o := zo) (o' := xo) hb2 (hk2.row Hx.out (fun h => Hne.out h.symm)) Hne.out
          have hneq' := fun q => neq195_other (w := (wr.setCell ⟨zb, zo + k, none⟩ (.int .u64 (xm : Int))).drewN q) (o := zo) (o' := xo) hb2 (hk2.row Hx.out (fun h => Hne.out h.symm)) Hne.out
          have Hb2 := hid hb2; have Hk2 := hid hk2
          clear hb2 hk2
          obtain ⟨p1, hs1, hp1⟩ := slice100_from zb zo n zc (k + 1) hlt hnc
          obtain ⟨p2, hs2, hp2⟩ := slice100_from xb xo n xc (k + 1) hlt hnx
          simp only [Int.natCast_add, Int.cast_ofNat_Int] at hs1 hs2
          have Hp1 := hid hp1; have Hp2 := hid hp2
          clear hp1 hp2
          go_wp2_with fail
          go_quiet (fail)
          go_wp2_with fail
          have hwr : IntKind.i64.wrap ((k : Int) + 1) = (k : Int) + 1 := IntWalk.i64_in _ (by omega)
          go_still_tail 8, (by kernel_rfl)
          clear hwr
          refine wpList_cp rfl (.tmp 69) (.tmp 73) 100 100 rfl 177 u100 s177 p1 p2 (n - (k + 1)) (zc - (k + 1)) (n - (k + 1)) (xc - (k + 1)) rfl rfl zb (zo + (k + 1)) ((splice Z zo (R ++ [xm])).map wv) 177 Hb2.out ((seg X (xo + (k + 1)) (n - (k + 1))).map wv) ?_ ?_ ?_ wv_one ?_
          · rw [List.length_map, length_seg (by omega)]; exact (Nat.min_self _).symm
          · intro h0
            rw [List.length_map, length_seg (by omega)] at h0
            exact ⟨Hp1.out (by omega), xb, xo + (k + 1), Hp2.out (by omega), seg_cells (Hk2.out.row Hx.out (fun h => Hne.out h.symm)) (by omega)⟩
          · rw [List.length_map, List.length_map, length_seg (by omega), length_splice (by simp [HR.out]; omega)]; omega
          intro w2 hb3 hk3
          have Hb3 := hid (splice_copy hb3 (by simp [HR.out]) (by rw [length_seg (by omega)]; omega))
          have Hk3 := hid ((Hk2.out.trans ((Keeps.refl _ _).drewN nq)).trans (((Keeps.refl _ _).drew).trans hk3))
          clear hb3 hk3
          go_wp2_with fail
          go_ret
          have hv : val (R ++ [xm]) + y = val (seg X xo (k + 1)) := by
            rw [val_snoc, HR.out, hseg.out, ← Hxk.out, Hxm.out]
            have := Hv.out
            rw [Nat.mul_add, Nat.mul_one]
            omega
          exact Fin.out (k + 1) (R ++ [xm]) _ (by simp [HR.out]) (HW.out.snoc Hlt1.out) hlt hv Hb3.out Hk3.out
      · obtain rfl : k = n := by omega
        go_wp2_with fail
        go_ret
        exact ⟨R, 1, HR.out, HW.out, Nat.le_refl _, by rw [Nat.mul_one]; exact Hv.out, rfl, Hb.out, Hkeep.out⟩

/-- z = x + y: both in one place, or in different blocks. -/
theorem subVW_any (zb zo zc xb xo xc n y : Nat) (Z X : List Nat) (w : World) (hn : n ≤ 1000000) (hn0 : 0 < n) (hz : Blk w zb Z) (hx : Blk w xb X) (hw : Words X) (hzn : zo + n ≤ Z.length) (hxn : xo + n ≤ X.length) (hnc : n ≤ zc) (hnx : n ≤ xc) (hy : y < W64)
    (hal : zb ≠ xb ∨ zo = xo) :
    Calls Tryz.prog 234 #[.slice (some ⟨zb, zo, none⟩) n zc, .slice (some ⟨xb, xo, none⟩) n xc, .int .u64 (y : Int)] w (subVWres w zb zo n Z (seg X xo n) y) := by
  by_cases hne : zb = xb
  · subst hne
    obtain rfl := hz.inj hx
    rcases hal with h | rfl
    · exact absurd rfl h
    · exact subVW_same zb zo zc xc n y Z w hn hn0 hz hw hzn hy
  · exact subVW_other zb zo zc xb xo xc n y Z X w hn hn0 hz hx hw hzn hxn hnc hnx hy hne

end Go.Proofs
namespace Go.Proofs
open Go.RowKit
set_option maxHeartbeats 400000
set_option linter.unusedVariables false
set_option linter.unusedSimpArgs false
set_option maxRecDepth 100000

/-! ### The doors of the vectors -/
def AddRes (w : World) (zb zo n : Nat) (Z S T : List Nat) (e : Ending) (w' : World) : Prop :=
  ∃ (R : List Nat) (c : Nat), R.length = n ∧ Words R ∧ c ≤ 1 ∧ val R + W64 ^ n * c = val S + val T ∧ e = .returned (.int .u64 (c : Int)) ∧ Blk w' zb (splice Z zo R) ∧ Keeps (· = zb) w w'
def SubRes (w : World) (zb zo n : Nat) (Z S T : List Nat) (e : Ending) (w' : World) : Prop :=
  ∃ (R : List Nat) (c : Nat), R.length = n ∧ Words R ∧ c ≤ 1 ∧ val R + val T = val S + W64 ^ n * c ∧ e = .returned (.int .u64 (c : Int)) ∧ Blk w' zb (splice Z zo R) ∧ Keeps (· = zb) w w'
def MulRes (w : World) (zb zo n : Nat) (Z : List Nat) (V : Nat) (e : Ending) (w' : World) : Prop :=
  ∃ (R : List Nat) (c : Nat), R.length = n ∧ Words R ∧ c < W64 ∧ val R + W64 ^ n * c = V ∧ e = .returned (.int .u64 (c : Int)) ∧ Blk w' zb (splice Z zo R) ∧ Keeps (· = zb) w w'

theorem addVV_any (zb zo zc xb xo xc yb yo yc n : Nat) (Z X Y : List Nat) (w : World) (hn : n ≤ 1000000) (hz : Blk w zb Z) (hx : Blk w xb X) (hy : Blk w yb Y)
    (hwx : Words X) (hwy : Words Y)
    (hzn : zo + n ≤ Z.length) (hxn : xo + n ≤ X.length) (hyn : yo + n ≤ Y.length) (hax : xb ≠ zb ∨ zo ≤ xo ∨ xo + n ≤ zo) (hay : yb ≠ zb ∨ zo ≤ yo ∨ yo + n ≤ zo) :
    Calls Tryz.prog 230 #[.slice (some ⟨zb, zo, none⟩) n zc, .slice (some ⟨xb, xo, none⟩) n xc, .slice (some ⟨yb, yo, none⟩) n yc] w (AddRes w zb zo n Z (seg X xo n) (seg Y yo n)) := by
  have H := hid (addVV_g_any zb zo zc xb xo xc yb yo yc n Z X Y w hn hz hx hy hwx hwy hzn hxn hyn hax hay)
  clear hz hx hy hax hay hwx hwy
  go_enter Tryz.func230, Tryz.ntmps230
  go_wp2_with fail
  refine H.out.mono ?_
  rintro e w' ⟨R, c, h1, h2, h3, h4, rfl, h5, h6⟩
  go_wp2_with fail
  go_ret
  exact ⟨R, c, h1, h2, h3, h4, rfl, h5, h6⟩

theorem subVV_any (zb zo zc xb xo xc yb yo yc n : Nat) (Z X Y : List Nat) (w : World) (hn : n ≤ 1000000) (hz : Blk w zb Z) (hx : Blk w xb X) (hy : Blk w yb Y)
    (hwx : Words X) (hwy : Words Y)
    (hzn : zo + n ≤ Z.length) (hxn : xo + n ≤ X.length) (hyn : yo + n ≤ Y.length) (hax : xb ≠ zb ∨ zo ≤ xo ∨ xo + n ≤ zo) (hay : yb ≠ zb ∨ zo ≤ yo ∨ yo + n ≤ zo) :
    Calls Tryz.prog 233 #[.slice (some ⟨zb, zo, none⟩) n zc, .slice (some ⟨xb, xo, none⟩) n xc, .slice (some ⟨yb, yo, none⟩) n yc] w (SubRes w zb zo n Z (seg X xo n) (seg Y yo n)) := by
  have H := hid (subVV_g_any zb zo zc xb xo xc yb yo yc n Z X Y w hn hz hx hy hwx hwy hzn hxn hyn hax hay)
  clear hz hx hy hax hay hwx hwy
  go_enter Tryz.func233, Tryz.ntmps233
  go_wp2_with fail
  refine H.out.mono ?_
  rintro e w' ⟨R, c, h1, h2, h3, h4, rfl, h5, h6⟩
  go_wp2_with fail
  go_ret
  exact ⟨R, c, h1, h2, h3, h4, rfl, h5, h6⟩

theorem mulAddVWW_any (zb zo zc xb xo xc n : Nat) (y r : Nat) (Z X : List Nat) (w : World) (hn : n ≤ 1000000) (hz : Blk w zb Z) (hx : Blk w xb X)
    (hwx : Words X) (hy : y < W64) (hr : r < W64)
    (hzn : zo + n ≤ Z.length) (hxn : xo + n ≤ X.length) (hax : xb ≠ zb ∨ zo ≤ xo ∨ xo + n ≤ zo) :
    Calls Tryz.prog 286 #[.slice (some ⟨zb, zo, none⟩) n zc, .slice (some ⟨xb, xo, none⟩) n xc, .int .u64 (y : Int), .int .u64 (r : Int)] w (MulRes w zb zo n Z (val (seg X xo n) * y + r)) := by
  have H := hid (mulAddVWW_g_any zb zo zc xb xo xc n y r Z X w hn hz hx hwx hy hr hzn hxn hax)
  clear hz hx hax hwx hy hr
  go_enter Tryz.func286, Tryz.ntmps286
  go_wp2_with fail
  refine H.out.mono ?_
  rintro e w' ⟨R, c, h1, h2, h3, h4, rfl, h5, h6⟩
  go_wp2_with fail
  go_ret
  exact ⟨R, c, h1, h2, h3, h4, rfl, h5, h6⟩

theorem addMulVVWW_any (zb zo zc xb xo xc yb yo yc n : Nat) (m a : Nat) (Z X Y : List Nat) (w : World) (hn : n ≤ 1000000) (hz : Blk w zb Z) (hx : Blk w xb X) (hy : Blk w yb Y)
    (hwx : Words X) (hwy : Words Y) (hm : m < W64) (ha : a < W64)
    (hzn : zo + n ≤ Z.length) (hxn : xo + n ≤ X.length) (hyn : yo + n ≤ Y.length) (hax : xb ≠ zb ∨ zo ≤ xo ∨ xo + n ≤ zo) (hay : yb ≠ zb ∨ zo ≤ yo ∨ yo + n ≤ zo) :
    Calls Tryz.prog 303 #[.slice (some ⟨zb, zo, none⟩) n zc, .slice (some ⟨xb, xo, none⟩) n xc, .slice (some ⟨yb, yo, none⟩) n yc, .int .u64 (m : Int), .int .u64 (a : Int)] w (MulRes w zb zo n Z (val (seg X xo n) + val (seg Y yo n) * m + a)) := by
  have H := hid (addMulVVWW_g_any zb zo zc xb xo xc yb yo yc n m a Z X Y w hn hz hx hy hwx hwy hm ha hzn hxn hyn hax hay)
  clear hz hx hy hax hay hwx hwy hm ha
  go_enter Tryz.func303, Tryz.ntmps303
  go_wp2_with fail
  refine H.out.mono ?_
  rintro e w' ⟨R, c, h1, h2, h3, h4, rfl, h5, h6⟩
  go_wp2_with fail
  go_ret
  exact ⟨R, c, h1, h2, h3, h4, rfl, h5, h6⟩

/-- s[k:m], its address under one name. -/
theorem slice101_mid (b o l c k m : Nat) (h1 : k ≤ m) (h2 : m ≤ c) :
    ∃ p, (∀ w : World, (Instr.slice 101 (.slice (some ⟨b, o, none⟩) l c) (some (.int .i64 (k : Int))) (some (.int .i64 (m : Int))) none).run Tryz.prog w = .ok (.slice p (m - k) (c - k)) w) ∧ (k < c → p = some ⟨b, o + k, none⟩) := by
  refine ⟨if c = k then some ⟨b, o, none⟩ else some ⟨b, o + k, none⟩, fun w => ?_, fun h => by rw [if_neg (by omega)]⟩
  rw [run_slice_lh (P := Tryz.prog) w 101 (some ⟨b, o, none⟩) l c (by rw [elem101]; exact u101) .i64 .i64 (k : Int) (m : Int) (by omega) (by omega) (by omega), elem101, size177]
  simp only [Result.andThen_ok, sliced, Int.toNat_natCast, Nat.mul_one]
  congr 2
  by_cases h : c = k
  · rw [if_pos h, if_pos h]
  · rw [if_neg h, if_neg h]
    simp only [Option.map_some, Addr.add]
    by_cases hk : k = 0
    · subst hk; simp
    · simp [hk]

/-- s[:m]. -/
theorem slice101_to (a : Option Addr) (l c m : Nat) (ha : ∀ b s, a = some ⟨b, 0, s⟩ → s = none) (hs : ∀ x, a = some x → x.spot = none) (h : m ≤ c) :
    ∀ w : World, (Instr.slice 101 (.slice a l c) none (some (.int .i64 (m : Int))) none).run Tryz.prog w = .ok (.slice a m c) w := by
  intro w
  rw [run_slice_h (P := Tryz.prog) w 101 a l c (by rw [elem101]; exact u101) .i64 (m : Int) (by omega) (by omega), elem101, size177]
  simp only [Result.andThen_ok, sliced, Int.toNat_natCast, Nat.mul_one, Nat.sub_zero]
  congr 2
  split
  · rfl
  · cases a with
    | none => rfl
    | some x => simp [Addr.add]
theorem slice101_pre (b o l c m : Nat) (h : m ≤ c) :
    ∀ w : World, (Instr.slice 101 (.slice (some ⟨b, o, none⟩) l c) none (some (.int .i64 (m : Int))) none).run Tryz.prog w = .ok (.slice (some ⟨b, o, none⟩) m c) w :=
  slice101_to _ l c m (fun _ _ h => by cases h; rfl) (fun _ h => by cases h; rfl) h

/-- The words that a sum was laid into. -/
theorem add_fin {R1 R2 : List Nat} {n m c c2 : Nat} {X : List Nat} {T : Nat} {xo : Nat} (h1 : R1.length = n) (h2 : R2.length = m - n) (hnm : n ≤ m) (hxm : xo + m ≤ X.length)
    (e1 : val R1 + W64 ^ n * c = val (seg X xo n) + T) (e2 : val R2 + W64 ^ (m - n) * c2 = val (seg X (xo + n) (m - n)) + c) :
    val (R1 ++ R2 ++ [c2]) = val (seg X xo m) + T := by
  have e : m = n + (m - n) := by omega
  have e3 : val (seg X xo m) = val (seg X xo n) + W64 ^ n * val (seg X (xo + n) (m - n)) := by
    conv => lhs; rw [e, seg_add, val_append, length_seg (by omega)]
  have e4 : W64 ^ n * (val R2 + W64 ^ (m - n) * c2) = W64 ^ n * (val (seg X (xo + n) (m - n)) + c) := by rw [e2]
  rw [Nat.mul_add, Nat.mul_add, ← Nat.mul_assoc, ← Nat.pow_add, ← e] at e4
  rw [val_snoc, val_append, h1, List.length_append, h1, h2, ← e, e3]
  omega

theorem splice_drop {α : Type} {M R : List α} {o i : Nat} (h : o + R.length ≤ M.length) (hi : o + R.length ≤ i) : (splice M o R).drop i = M.drop i := by
  apply List.ext_getElem?
  intro j
  rw [List.getElem?_drop, List.getElem?_drop, splice_get_ge h (by omega)]

/-- What x's block holds behind a splice into z's. -/
theorem Blk.after {w w2 : World} {b xb o xo n : Nat} {M XB R : List Nat} (hb : Blk w b M) (hx : Blk w xb XB) (hb2 : Blk w2 b (splice M o R)) (hk : Keeps (· = b) w w2) (hR : R.length = n) (hal : b ≠ xb ∨ o = xo) (hfit : o + n ≤ M.length)
    (hM : Words M) (hRw : Words R) (hX : Words XB) : ∃ XB2, Blk w2 xb XB2 ∧ Words XB2 ∧ XB2.length = XB.length ∧ ∀ m, seg XB2 (xo + n) m = seg XB (xo + n) m := by
  by_cases he : b = xb
  · subst he
    obtain rfl := hb.inj hx
    rcases hal with h | rfl
    · exact absurd rfl h
    · exact ⟨_, hb2, hM.splice hRw _, length_splice (by omega), fun m => by unfold seg; rw [splice_drop (by omega) (by omega)]⟩
  · exact ⟨XB, hk.row hx (fun h => he h.symm), hX, rfl, fun _ => rfl⟩

theorem add_ge (a : Option Addr) (l c : Nat) (L : List Nat) (x : Option Addr) (xl xc : Nat) (X : List Nat) (y : Option Addr) (yl yc : Nat) (Y : List Nat) (w : World)
    (h : Rd w a l c L) (hx : Rd w x xl xc X) (hy : Rd w y yl yc Y) (hxl : xl ≤ 400000) (hle : yl ≤ xl) (hax : Al a c x xc) (hay : Al a c y yc) (hnx : X = words (val X)) :
    Calls Tryz.prog 195 #[.slice a l c, .slice x xl xc, .slice y yl yc] w (NatRes w a c (val X + val Y)) := by
  have H := hid h; have Hx := hid hx; have Hy := hid hy; have Hax := hid hax; have Hay := hid hay; have Hnx := hid hnx
  have Hlx := hid hx.length; have Hly := hid hy.length
  have hlex := hx.len_le; have hley := hy.len_le
  unfold LIM at hlex hley
  clear h hx hy hax hay hnx
  have hlt : decide (xl < yl) = false := by simp; omega
  by_cases h0 : xl = 0
  · subst h0
    obtain rfl : yl = 0 := by omega
    go_enter Tryz.func195, Tryz.ntmps195
    go_wp2_with fail
    go_ret
    have e1 : X = [] := List.eq_nil_of_length_eq_zero Hlx.out
    have e2 : Y = [] := List.eq_nil_of_length_eq_zero Hly.out
    subst e1; subst e2
    exact ⟨_, _, _, rfl, by simpa [words_zero] using H.out.zero, Into.refl _ _ _, Keeps.refl _ _⟩
  by_cases hy0 : yl = 0
  · subst hy0
    have hb0 : ((xl : Int) == 0) = false := by simp; omega
    go_enter Tryz.func195, Tryz.ntmps195
    go_wp2_with fail
    refine (set_any a l c L x xl xc X _ H.out Hx.out (by omega)).mono ?_
    rintro e w1 ⟨ra, rc, rfl, hr, hi, hk⟩
    go_wp2_with fail
    go_ret
    have e2 : Y = [] := List.eq_nil_of_length_eq_zero Hly.out
    subst e2
    refine ⟨_, _, _, rfl, ?_, hi, hk⟩
    rw [val_nil, Nat.add_zero, ← Hnx.out]; exact hr
  · have hb0 : ((xl : Int) == 0) = false := by simp; omega
    have hb1 : ((yl : Int) == 0) = false := by simp; omega
    go_enter Tryz.func195, Tryz.ntmps195
    go_wp2_with fail
    refine (make_any a l c (xl + 1) L _ H.out (by omega) (by omega)).mono ?_
    rintro e w1 ⟨ra, rc, rfl, b, o, M, rfl, hb, hw, h1, h2, h3, hi, hk, hsame⟩
    have Hi := hid hi; have Hk := hid hk; have Hb := hid hb; have Hw := hid hw
    clear hi hk hb hw hsame
    have Hx1 := hid (Hx.out.keep Hk.out (fun _ _ h => h))
    have Hy1 := hid (Hy.out.keep Hk.out (fun _ _ h => h))
    have Hax1 := hid (Hi.out.al Hax.out (fun k hk => Hx.out.lt hk))
    have Hay1 := hid (Hi.out.al Hay.out (fun k hk => Hy.out.lt hk))
    rcases Hx1.out with ⟨_, _, hz, _⟩ | ⟨xb, xo, XB, rfl, hxb, hxw, hx1, hx2, hx3, hx4⟩
    · omega
    rcases Hy1.out with ⟨_, _, hz, _⟩ | ⟨yb, yo, YB, rfl, hyb, hyw, hy1, hy2, hy3, hy4⟩
    · omega
    have Hxb := hid hxb; have Hxw := hid hxw; have Hx3 := hid hx3; have Hyb := hid hyb; have Hyw := hid hyw; have Hy3 := hid hy3
    have Aax : b ≠ xb ∨ o = xo := by
      rcases Hax1.out _ _ _ _ rfl rfl with h | h
      · exact .inl h
      · exact .inr h.1
    have Aay : b ≠ yb ∨ o = yo := by
      rcases Hay1.out _ _ _ _ rfl rfl with h | h
      · exact .inl h
      · exact .inr h.1
    have HAax := hid Aax; have HAay := hid Aay
    clear hxb hxw hx3 hyb hyw hy3 Aax Aay
    have hsz := slice101_pre b o (xl + 1) rc yl (by omega)
    have hsx := slice101_pre xb xo xl xc yl (by omega)
    have hsy := slice101_pre yb yo yl yc yl (by omega)
    go_wp2_with fail
    go_still_tail 9, (by kernel_rfl)
    clear hsz hsx hsy
    go_wp2_with fail
    refine (addVV_any b o rc xb xo xc yb yo yc yl M XB YB w1.drew (by omega) Hb.out Hxb.out Hyb.out Hxw.out Hyw.out (by omega) (by omega) (by omega) ?_ ?_).mono ?_
    · rcases HAax.out with h | h
      · exact .inl (Ne.symm h)
      · exact .inr (.inl (by omega))
    · rcases HAay.out with h | h
      · exact .inl (Ne.symm h)
      · exact .inr (.inl (by omega))
    rintro e w2 ⟨R, cc, hR, hRw, hcc, hv, rfl, hb2, hk2⟩
    have HR := hid hR; have HRw := hid hRw; have Hcc := hid hcc; have Hv := hid hv; have Hb2 := hid hb2; have Hk2 := hid ((Keeps.refl (· = b) w1).drew.trans hk2)
    clear hR hRw hcc hv hb2 hk2
    -- the end: c2 is what is carried at last
    have fin : ∀ (R2 : List Nat) (c2 : Nat) (w3 : World), R2.length = xl - yl → Words R2 → c2 ≤ 1 → val R2 + W64 ^ (xl - yl) * c2 = val (seg XB (xo + yl) (xl - yl)) + cc →
        Blk w3 b (splice M o (R ++ R2)) → Keeps (· = b) w1 w3 → Rd (w3.setCell ⟨b, o + xl, none⟩ (.int .u64 (c2 : Int))) (some ⟨b, o, none⟩) (xl + 1) rc (R ++ R2 ++ [c2]) ∧ val (R ++ R2 ++ [c2]) = val X + val Y ∧
          w3.cell? ⟨b, o + xl, none⟩ = some (.int .u64 ((((splice M o (R ++ R2)).getD (o + xl) 0) : Nat) : Int)) ∧ w3.frozen? ⟨b, o + xl, none⟩ = false := by
      intro R2 c2 w3 hl2 hw2 hc2 hv2 hb3 hk3
      have hlen : (R ++ R2).length = xl := by rw [List.length_append, HR.out, hl2]; omega
      have hsn := Blk.snoc (w := w) (n := xl + 1) (x := c2) hb3 hlen (by omega) (by omega)
      refine ⟨Made.done hsn Hw.out ((HRw.out.append hw2).snoc (by unfold W64; omega)) (by rw [List.length_append, hlen]; rfl) h1 h2 h3, ?_, Blk.cell hb3 (by rw [length_splice (by omega)]; omega), Blk.frozen hb3 _⟩
      have := add_fin HR.out hl2 hle (by omega) Hv.out hv2
      rw [this, Hx3.out, Hy3.out]
    have Fin := hid fin
    clear fin
    by_cases hlt2 : yl < xl
    · obtain ⟨p1, hs1, hp1⟩ := slice101_mid b o (xl + 1) rc yl xl (by omega) (by omega)
      obtain ⟨p2, hs2, hp2⟩ := slice101_from xb xo xl xc yl (by omega) (by omega)
      obtain rfl := hp1 (by omega)
      obtain rfl := hp2 (by omega)
      clear hp1 hp2
      go_wp2_with fail
      go_still_tail 8, (by kernel_rfl)
      clear hs1 hs2
      go_wp2_with fail
      obtain ⟨XB2, hxb2, hxw2, hxl2, hxs2⟩ := Blk.after Hb.out Hxb.out Hb2.out Hk2.out HR.out HAax.out (by omega) Hw.out HRw.out Hxw.out
      have hsm := length_splice (L := M) (o := o) (R := R) (by rw [HR.out]; omega)
      refine (addVW_any b (o + yl) (rc - yl) xb (xo + yl) (xc - yl) (xl - yl) cc (splice M o R) XB2 w2.drew (by omega) (by omega) Hb2.out hxb2 hxw2 (by omega) (by omega) (by omega) (by omega) (by have := Hcc.out; unfold W64; omega) ?_).mono ?_
      · rcases HAax.out with h | h
        · exact .inl h
        · exact .inr (by omega)
      rintro e w3 ⟨R2, c2, hR2, hRw2, hc2, hv2, rfl, hb3, hk3⟩
      rw [hxs2] at hv2
      have hb3' : Blk w3 b (splice M o (R ++ R2)) := by
        have e := splice_splice (Z := M) (R := R) (S := R2) (o := o) (by rw [HR.out, hR2]; omega)
        rw [HR.out] at e
        rwa [e] at hb3
      have hk3' := Hk2.out.trans ((Keeps.refl (· = b) w2).drew.trans hk3)
      obtain ⟨f1, f2, f3, f4⟩ := Fin.out R2 c2 w3 hR2 hRw2 hc2 hv2 hb3' hk3'
      have F1 := hid f1; have F2 := hid f2; have Hk3 := hid (hk3'.trans (Keeps.set1 w3 b (o + xl) (.int .u64 (c2 : Int))))
      clear f1 f2 hb3 hb3' hk3 hk3' hR2 hRw2 hc2 hv2 hxb2 hxw2 hxl2 hxs2 hsm
      go_wp2_with fail
      refine (norm_any _ _ _ _ _ F1.out).mono ?_
      rintro e w4 ⟨nn, rfl, hr, hnl, rfl⟩
      have Hr := hid hr
      clear hr
      go_wp2_with fail
      go_ret
      refine ⟨_, _, _, rfl, ?_, Hi.out, Made.keeps Hi.out Hk.out Hk3.out⟩
      rw [← F2.out, ← trimZ_eq_words F1.out.words]
      exact Hr.out
    · obtain rfl : xl = yl := by omega
      obtain ⟨f1, f2, f3, f4⟩ := Fin.out [] cc w2 (by simp) Words.nil Hcc.out (by simp) (by simpa using Hb2.out) Hk2.out
      have F1 := hid f1; have F2 := hid f2; have Hk3 := hid (Hk2.out.trans (Keeps.set1 w2 b (o + xl) (.int .u64 (cc : Int))))
      clear f1 f2
      go_wp2_with fail
      refine (norm_any _ _ _ _ _ F1.out).mono ?_
      rintro e w4 ⟨nn, rfl, hr, hnl, rfl⟩
      have Hr := hid hr
      clear hr
      go_wp2_with fail
      go_ret
      refine ⟨_, _, _, rfl, ?_, Hi.out, Made.keeps Hi.out Hk.out Hk3.out⟩
      rw [← F2.out, ← trimZ_eq_words F1.out.words]
      exact Hr.out

theorem add_any (a : Option Addr) (l c : Nat) (L : List Nat) (x : Option Addr) (xl xc : Nat) (m : Nat) (y : Option Addr) (yl yc : Nat) (n : Nat) (w : World)
    (h : Rd w a l c L) (hx : Rd w x xl xc (words m)) (hy : Rd w y yl yc (words n)) (hxl : xl ≤ 400000) (hyl : yl ≤ 400000) (hax : Al a c x xc) (hay : Al a c y yc) :
    Calls Tryz.prog 195 #[.slice a l c, .slice x xl xc, .slice y yl yc] w (NatRes w a c (m + n)) := by
  by_cases hle : yl ≤ xl
  · have := add_ge a l c L x xl xc (words m) y yl yc (words n) w h hx hy hxl hle hax hay (by rw [val_words])
    rwa [val_words, val_words] at this
  · have H := add_ge a l c L y yl yc (words n) x xl xc (words m) w h hy hx hyl (by omega) hay hax (by rw [val_words])
    rw [val_words, val_words, Nat.add_comm] at H
    have HH := hid H
    have h1 := hx.len_le; have h2 := hy.len_le
    unfold LIM at h1 h2
    clear H h hx hy hax hay
    have hlt : decide (xl < yl) = true := by simp; omega
    go_enter Tryz.func195, Tryz.ntmps195
    go_wp2_with fail
    refine HH.out.mono ?_
    rintro e w1 ⟨ra, rl, rc, rfl, hr⟩
    go_wp2_with fail
    go_ret
    exact ⟨ra, rl, rc, rfl, hr⟩
end Go.Proofs
namespace Go.Proofs
open Go.RowKit
set_option maxHeartbeats 400000
set_option linter.unusedVariables false
set_option linter.unusedSimpArgs false
set_option maxRecDepth 100000

/-- The words that a difference was laid into. -/
theorem sub_fin {R1 R2 : List Nat} {n m c c2 : Nat} {X : List Nat} {T : Nat} {xo : Nat} (h1 : R1.length = n) (h2 : R2.length = m - n) (hnm : n ≤ m) (hxm : xo + m ≤ X.length)
    (e1 : val R1 + T = val (seg X xo n) + W64 ^ n * c) (e2 : val R2 + c = val (seg X (xo + n) (m - n)) + W64 ^ (m - n) * c2) (hw : Words (R1 ++ R2)) (hT : T ≤ val (seg X xo m)) :
    c2 = 0 ∧ val (R1 ++ R2) = val (seg X xo m) - T := by
  have e : m = n + (m - n) := by omega
  have e3 : val (seg X xo m) = val (seg X xo n) + W64 ^ n * val (seg X (xo + n) (m - n)) := by
    conv => lhs; rw [e, seg_add, val_append, length_seg (by omega)]
  have e4 : W64 ^ n * (val R2 + c) = W64 ^ n * (val (seg X (xo + n) (m - n)) + W64 ^ (m - n) * c2) := by rw [e2]
  rw [Nat.mul_add, Nat.mul_add, ← Nat.mul_assoc, ← Nat.pow_add, ← e] at e4
  have hl := val_lt hw
  have hlen : (R1 ++ R2).length = m := by rw [List.length_append, h1, h2]; omega
  rw [hlen] at hl
  rw [val_append, h1] at hl ⊢
  have hc : c2 = 0 := by
    rcases Nat.eq_zero_or_pos c2 with h | h
    · exact h
    · have : W64 ^ m * 1 ≤ W64 ^ m * c2 := Nat.mul_le_mul_left _ h
      omega
  subst hc
  refine ⟨rfl, ?_⟩
  simp only [Nat.mul_zero] at e4
  omega

theorem sub_any' (a : Option Addr) (l c : Nat) (L : List Nat) (x : Option Addr) (xl xc : Nat) (X : List Nat) (y : Option Addr) (yl yc : Nat) (Y : List Nat) (w : World)
    (h : Rd w a l c L) (hx : Rd w x xl xc X) (hy : Rd w y yl yc Y) (hxl : xl ≤ 400000) (hle : yl ≤ xl) (hval : val Y ≤ val X) (hax : Al a c x xc) (hay : Al a c y yc) (hnx : X = words (val X)) :
    Calls Tryz.prog 197 #[.slice a l c, .slice x xl xc, .slice y yl yc] w (NatRes w a c (val X - val Y)) := by
  have H := hid h; have Hx := hid hx; have Hy := hid hy; have Hax := hid hax; have Hay := hid hay; have Hnx := hid hnx; have Hval := hid hval
  have Hlx := hid hx.length; have Hly := hid hy.length
  have hlex := hx.len_le; have hley := hy.len_le
  unfold LIM at hlex hley
  clear h hx hy hax hay hnx hval
  have hlt : decide (xl < yl) = false := by simp; omega
  by_cases h0 : xl = 0
  · subst h0
    obtain rfl : yl = 0 := by omega
    go_enter Tryz.func197, Tryz.ntmps197
    go_wp2_with fail
    go_ret
    have e1 : X = [] := List.eq_nil_of_length_eq_zero Hlx.out
    have e2 : Y = [] := List.eq_nil_of_length_eq_zero Hly.out
    subst e1; subst e2
    exact ⟨_, _, _, rfl, by simpa [words_zero] using H.out.zero, Into.refl _ _ _, Keeps.refl _ _⟩
  by_cases hy0 : yl = 0
  · subst hy0
    have hb0 : ((xl : Int) == 0) = false := by simp; omega
    go_enter Tryz.func197, Tryz.ntmps197
    go_wp2_with fail
    refine (set_any a l c L x xl xc X _ H.out Hx.out (by omega)).mono ?_
    rintro e w1 ⟨ra, rc, rfl, hr, hi, hk⟩
    go_wp2_with fail
    go_ret
    have e2 : Y = [] := List.eq_nil_of_length_eq_zero Hly.out
    subst e2
    refine ⟨_, _, _, rfl, ?_, hi, hk⟩
    rw [val_nil, Nat.sub_zero, ← Hnx.out]; exact hr
  · have hb0 : ((xl : Int) == 0) = false := by simp; omega
    have hb1 : ((yl : Int) == 0) = false := by simp; omega
    go_enter Tryz.func197, Tryz.ntmps197
    go_wp2_with fail
    refine (make_any a l c xl L _ H.out (by omega) (by omega)).mono ?_
    rintro e w1 ⟨ra, rc, rfl, b, o, M, rfl, hb, hw, h1, h2, h3, hi, hk, hsame⟩
    have Hi := hid hi; have Hk := hid hk; have Hb := hid hb; have Hw := hid hw
    clear hi hk hb hw hsame
    have Hx1 := hid (Hx.out.keep Hk.out (fun _ _ h => h))
    have Hy1 := hid (Hy.out.keep Hk.out (fun _ _ h => h))
    have Hax1 := hid (Hi.out.al Hax.out (fun k hk => Hx.out.lt hk))
    have Hay1 := hid (Hi.out.al Hay.out (fun k hk => Hy.out.lt hk))
    rcases Hx1.out with ⟨_, _, hz, _⟩ | ⟨xb, xo, XB, rfl, hxb, hxw, hx1, hx2, hx3, hx4⟩
    · omega
    rcases Hy1.out with ⟨_, _, hz, _⟩ | ⟨yb, yo, YB, rfl, hyb, hyw, hy1, hy2, hy3, hy4⟩
    · omega
    have Hxb := hid hxb; have Hxw := hid hxw; have Hx3 := hid hx3; have Hyb := hid hyb; have Hyw := hid hyw; have Hy3 := hid hy3
    have Aax : b ≠ xb ∨ o = xo := by
      rcases Hax1.out _ _ _ _ rfl rfl with h | h
      · exact .inl h
      · exact .inr h.1
    have Aay : b ≠ yb ∨ o = yo := by
      rcases Hay1.out _ _ _ _ rfl rfl with h | h
      · exact .inl h
      · exact .inr h.1
    have HAax := hid Aax; have HAay := hid Aay
    clear hxb hxw hx3 hyb hyw hy3 Aax Aay
    have hsz := slice101_pre b o xl rc yl (by omega)
    have hsx := slice101_pre xb xo xl xc yl (by omega)
    have hsy := slice101_pre yb yo yl yc yl (by omega)
    go_wp2_with fail
    go_still_tail 9, (by kernel_rfl)
    clear hsz hsx hsy
    go_wp2_with fail
    refine (subVV_any b o rc xb xo xc yb yo yc yl M XB YB w1.drew (by omega) Hb.out Hxb.out Hyb.out Hxw.out Hyw.out (by omega) (by omega) (by omega) ?_ ?_).mono ?_
    · rcases HAax.out with h | h
      · exact .inl (Ne.symm h)
      · exact .inr (.inl (by omega))
    · rcases HAay.out with h | h
      · exact .inl (Ne.symm h)
      · exact .inr (.inl (by omega))
    rintro e w2 ⟨R, cc, hR, hRw, hcc, hv, rfl, hb2, hk2⟩
    have HR := hid hR; have HRw := hid hRw; have Hcc := hid hcc; have Hv := hid hv; have Hb2 := hid hb2; have Hk2 := hid ((Keeps.refl (· = b) w1).drew.trans hk2)
    clear hR hRw hcc hv hb2 hk2
    -- the end
    have fin : ∀ (R2 : List Nat) (c2 : Nat) (w3 : World), R2.length = xl - yl → Words R2 → val R2 + cc = val (seg XB (xo + yl) (xl - yl)) + W64 ^ (xl - yl) * c2 →
        Blk w3 b (splice M o (R ++ R2)) → c2 = 0 ∧ Rd w3 (some ⟨b, o, none⟩) xl rc (R ++ R2) ∧ val (R ++ R2) = val X - val Y := by
      intro R2 c2 w3 hl2 hw2 hv2 hb3
      have hlen : (R ++ R2).length = xl := by rw [List.length_append, HR.out, hl2]; omega
      have := sub_fin HR.out hl2 hle (by omega) Hv.out hv2 (HRw.out.append hw2) (by rw [Hx3.out, Hy3.out]; exact Hval.out)
      rw [Hx3.out, Hy3.out] at this
      exact ⟨this.1, Made.done hb3 Hw.out (HRw.out.append hw2) hlen h1 h2 h3, this.2⟩
    have Fin := hid fin
    clear fin
    by_cases hlt2 : yl < xl
    · obtain ⟨p1, hs1, hp1⟩ := slice101_from b o xl rc yl (by omega) (by omega)
      obtain ⟨p2, hs2, hp2⟩ := slice101_from xb xo xl xc yl (by omega) (by omega)
      obtain rfl := hp1 (by omega)
      obtain rfl := hp2 (by omega)
      clear hp1 hp2
      go_wp2_with fail
      go_still_tail 7, (by kernel_rfl)
      clear hs1 hs2
      go_wp2_with fail
      obtain ⟨XB2, hxb2, hxw2, hxl2, hxs2⟩ := Blk.after Hb.out Hxb.out Hb2.out Hk2.out HR.out HAax.out (by omega) Hw.out HRw.out Hxw.out
      have hsm := length_splice (L := M) (o := o) (R := R) (by rw [HR.out]; omega)
      refine (subVW_any b (o + yl) (rc - yl) xb (xo + yl) (xc - yl) (xl - yl) cc (splice M o R) XB2 w2.drew (by omega) (by omega) Hb2.out hxb2 hxw2 (by omega) (by omega) (by omega) (by omega) (by have := Hcc.out; unfold W64; omega) ?_).mono ?_
      · rcases HAax.out with h | h
        · exact .inl h
        · exact .inr (by omega)
      rintro e w3 ⟨R2, c2, hR2, hRw2, hc2, hv2, rfl, hb3, hk3⟩
      rw [hxs2] at hv2
      have hb3' : Blk w3 b (splice M o (R ++ R2)) := by
        have e := splice_splice (Z := M) (R := R) (S := R2) (o := o) (by rw [HR.out, hR2]; omega)
        rw [HR.out] at e
        rwa [e] at hb3
      have hk3' := Hk2.out.trans ((Keeps.refl (· = b) w2).drew.trans hk3)
      obtain ⟨rfl, f1, f2⟩ := Fin.out R2 c2 w3 hR2 hRw2 hv2 hb3'
      have F1 := hid f1; have F2 := hid f2; have Hk3 := hid hk3'
      clear f1 f2 hb3 hb3' hk3 hk3' hR2 hRw2 hc2 hv2 hxb2 hxw2 hxl2 hxs2 hsm
      go_wp2_with fail
      refine (norm_any _ _ _ _ _ F1.out).mono ?_
      rintro e w4 ⟨nn, rfl, hr, hnl, rfl⟩
      have Hr := hid hr
      clear hr
      go_wp2_with fail
      go_ret
      refine ⟨_, _, _, rfl, ?_, Hi.out, Made.keeps Hi.out Hk.out Hk3.out⟩
      rw [← F2.out, ← trimZ_eq_words F1.out.words]
      exact Hr.out
    · obtain rfl : xl = yl := by omega
      obtain ⟨rfl, f1, f2⟩ := Fin.out [] cc w2 (by simp) Words.nil (by simp) (by simpa using Hb2.out)
      have F1 := hid f1; have F2 := hid f2
      clear f1 f2
      go_wp2_with fail
      refine (norm_any _ _ _ _ _ F1.out).mono ?_
      rintro e w4 ⟨nn, rfl, hr, hnl, rfl⟩
      have Hr := hid hr
      clear hr
      go_wp2_with fail
      go_ret
      refine ⟨_, _, _, rfl, ?_, Hi.out, Made.keeps Hi.out Hk.out Hk2.out⟩
      rw [← F2.out, ← trimZ_eq_words F1.out.words]
      exact Hr.out

theorem sub_any (a : Option Addr) (l c : Nat) (L : List Nat) (x : Option Addr) (xl xc : Nat) (m : Nat) (y : Option Addr) (yl yc : Nat) (n : Nat) (w : World)
    (h : Rd w a l c L) (hx : Rd w x xl xc (words m)) (hy : Rd w y yl yc (words n)) (hxl : xl ≤ 400000) (hle : n ≤ m) (hax : Al a c x xc) (hay : Al a c y yc) :
    Calls Tryz.prog 197 #[.slice a l c, .slice x xl xc, .slice y yl yc] w (NatRes w a c (m - n)) := by
  have h1 := words_mono hle
  rw [hx.length, hy.length] at h1
  have := sub_any' a l c L x xl xc (words m) y yl yc (words n) w h hx hy hxl h1 (by rw [val_words, val_words]; exact hle) hax hay (by rw [val_words])
  rwa [val_words, val_words] at this
end Go.Proofs
