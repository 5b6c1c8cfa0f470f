/- Parts of the proofs over the numbers of any length: NumB, Law13. -/
import Derived.Deep.RegionHeld3
import Derived.Test.YtacbllkmcldniaaGreatDoorShiftD
import Derived.Test.YtacbllkmcldniaaGreatDoorDivdA
import Derived.Test.YtacbllkmcldniaaGreatDoorSpecD
import Derived.Test.YtacbllkmcldniaaGreatDoorSpecB
import Derived.Test.YtacbllkmcldniaaGreatDoorBaseD
import Derived.Test.YtacbllkmcldniaaGreatDoorSpecA
import Derived.Test.YtacbllkmcldniaaGreatDoorBitB
import Derived.Test.YtacbllkmcldniaaGreatDoorBitC
set_option linter.unusedSimpArgs false
set_option linter.unusedVariables false
namespace Go.Proofs
open Go.RowKit
set_option maxHeartbeats 1600000
set_option linter.unusedVariables false
set_option linter.unusedSimpArgs false
set_option maxRecDepth 100000

theorem RowAt.num {w : World} {p : Nat} {x y : Value} (h : RowAt w p 24 [x, y]) : w.cell? ⟨p, 0, none⟩ = some x ∧ w.cell? ⟨p, 1, none⟩ = some y := ⟨h.cell 0, h.cell 1⟩
theorem Txt.lt {s : ByteArray} {z : Int} (h : Txt s z) : z.natAbs < 10 ^ 200 := by
  obtain ⟨n, l, d, ht, rfl, _⟩ := h
  rw [numZ_abs]
  have h1 := dval_lt (fun k hk => (ht.dig.2 k hk).1)
  have h2 := ht.dig.1
  have h3 := ht.size
  exact Nat.lt_of_lt_of_le h1 (Nat.pow_le_pow_right (by omega) (by omega))
/-- A number of the reference in a block of its own, its parts under names. -/
def NumB (w : World) (p : Nat) (n : Bool) (a : Option Addr) (l c : Nat) (z : Int) : Prop := RowAt w p 24 [.bool n, .slice a l c] ∧ ∀ b, (∀ k, InB a k → b ≤ k) → NumV w b (.agg #[.bool n, .slice a l c]) z
theorem NumB.v {w : World} {p : Nat} {n : Bool} {a : Option Addr} {l c : Nat} {z : Int} (h : NumB w p n a l c z) : NumV w 0 (.agg #[.bool n, .slice a l c]) z := h.2 0 (fun _ _ => Nat.zero_le _)
theorem NumB.keep {w w' : World} {p : Nat} {n : Bool} {a : Option Addr} {l c : Nat} {z : Int} (h : NumB w p n a l c z) (hk : Keeps (fun _ => False) w w') : NumB w' p n a l c z :=
  ⟨hk.row h.1 (fun h => h), fun b hb => (h.2 b hb).keep hk (fun _ _ h => h)⟩
theorem NumB.cells {w : World} {p : Nat} {n : Bool} {a : Option Addr} {l c : Nat} {z : Int} (h : NumB w p n a l c z) : w.cell? ⟨p, 0, none⟩ = some (.bool n) ∧ w.cell? ⟨p, 1, none⟩ = some (.slice a l c) := h.1.num
/-- A number that a call gave, its parts under names. -/
theorem NumV.parts {w : World} {b : Nat} {v : Value} {z : Int} (h : NumV w b v z) : ∃ n a l c, v = .agg #[.bool n, .slice a l c] ∧ (∀ w', Keeps (fun _ => False) w w' → ∀ b, (∀ k, InB a k → b ≤ k) → NumV w' b (.agg #[.bool n, .slice a l c]) z) := by
  obtain ⟨a, c, rfl, hr, _⟩ := h
  exact ⟨_, a, _, c, rfl, fun w' hk b hb => ⟨a, c, rfl, hr.keep hk (fun _ _ h => h), hb⟩⟩
theorem NumB.new {w : World} {n : Bool} {a : Option Addr} {l c : Nat} {z : Int} (h : ∀ w', Keeps (fun _ => False) w w' → ∀ b, (∀ k, InB a k → b ≤ k) → NumV w' b (.agg #[.bool n, .slice a l c]) z) : NumB (w.alloc (.cells #[.bool n, .slice a l c] 24)) w.heap.size n a l c z :=
  ⟨RowAt.new w 24 [.bool n, .slice a l c], h _ ((Keeps.refl _ w).alloc _)⟩
theorem digs_lt {z : Int} {k : Nat} (h : z.natAbs < 10 ^ k) (hk : k ≤ 40000) : (digs z.natAbs).length ≤ 40000 := Nat.le_trans (digs_len h) hk

theorem zbit_div (x : Int) (i : Nat) : x / ((2 ^ i : Nat) : Int) % 2 = zbv x i := by
  by_cases h : x < 0
  · rw [zbv_neg h]
    obtain ⟨m, hm⟩ : ∃ m, m = x.natAbs - 1 := ⟨_, rfl⟩
    have hx : x = -(m : Int) - 1 := by omega
    rw [← hm, hx, neg_ediv m (2 ^ i) (Nat.two_pow_pos i)]
    have h1 := Nat.toNat_testBit m i
    generalize m / 2 ^ i = d at *
    cases hb : m.testBit i with
    | true => rw [hb] at h1; simp at h1 ⊢; omega
    | false => rw [hb] at h1; simp at h1 ⊢; omega
  · rw [zbv_pos (by omega)]
    obtain ⟨m, hm⟩ := Int.eq_ofNat_of_zero_le (show 0 ≤ x by omega)
    subst hm
    unfold bitv
    rw [nat_ediv, Int.natAbs_natCast, Nat.toNat_testBit]
    omega
theorem zbv_eq (x : Int) (i : Nat) (b : Bool) (h : b = zbit x i) : zbv x i = (b.toNat : Int) := by unfold zbv; rw [h]
end Go.Proofs
namespace Go.Proofs
open Go.RowKit
set_option maxHeartbeats 4000000
set_option linter.unusedVariables false
set_option linter.unusedSimpArgs false
set_option maxRecDepth 100000

/-- A variable that was just made. -/
def Fr (w : World) (p : Nat) : Prop := RowAt w p 24 [.bool false, .slice none 0 0]
theorem Fr.keep {w w' : World} {p : Nat} (h : Fr w p) (hk : Keeps (fun _ => False) w w') : Fr w' p := hk.row h (fun h => h)
theorem Fr.facts {w : World} {p : Nat} (h : Fr w p) : w.cell? ⟨p, 0, none⟩ = some (.bool false) ∧ w.cell? ⟨p, 1, none⟩ = some (.slice none 0 0) ∧ w.frozen? ⟨p, 0, none⟩ = false ∧ w.frozen? ⟨p, 1, none⟩ = false := ⟨h.cell 0, h.cell 1, h.frozen 0, h.frozen 1⟩
theorem Fr.new (w : World) : Fr (w.alloc (.cells #[.bool false, .slice none 0 0] 24)) w.heap.size := RowAt.new w 24 [.bool false, .slice none 0 0]
theorem Fr.new2 (w : World) : Fr ((w.alloc (.cells #[.bool false, .slice none 0 0] 24)).alloc (.cells #[.bool false, .slice none 0 0] 24)) w.heap.size ∧ Fr ((w.alloc (.cells #[.bool false, .slice none 0 0] 24)).alloc (.cells #[.bool false, .slice none 0 0] 24)) (w.heap.size + 1) := by
  refine ⟨RowAt.alloc (Fr.new w) _, ?_⟩
  have := Fr.new (w.alloc (.cells #[.bool false, .slice none 0 0] 24))
  rwa [show (w.alloc (.cells #[.bool false, .slice none 0 0] 24)).heap.size = w.heap.size + 1 by simp] at this
theorem Keeps.new {w w' : World} (h : Keeps (fun _ => False) w w') (o : Obj) : Keeps (fun _ => False) w (w'.alloc o) := h.alloc o

/-- What the law's last division leaves: the rest, in a variable of its own. -/
def RestC (w : World) (z : Int) (v : Value) (wx : World) : Prop := ∃ p n a l c, v = .pointer (some ⟨p, 0, none⟩) ∧ RowAt wx p 24 [.bool n, .slice a l c] ∧ NumV wx 0 (.agg #[.bool n, .slice a l c]) z ∧ Keeps (fun _ => False) w wx

theorem NumV.setRow {w : World} {b : Nat} {v : Value} {z : Int} (h : NumV w b v z) {p : Nat} {n : Bool} {u : Value} (hr : RowAt w p 24 [.bool n, u]) (o : Nat) (x : Value) : NumV (w.setCell ⟨p, o, none⟩ x) b v z := h.keepRow hr (Keeps.set1 w p o x)
theorem NumV.setRow2 {w : World} {b : Nat} {v : Value} {z : Int} (h : NumV w b v z) {p : Nat} {n m : Bool} {u s : Value} (hr : RowAt w p 24 [.bool n, u]) : NumV ((w.setCell ⟨p, 0, none⟩ (.bool m)).setCell ⟨p, 1, none⟩ s) b v z ∧ RowAt ((w.setCell ⟨p, 0, none⟩ (.bool m)).setCell ⟨p, 1, none⟩ s) p 24 [.bool m, s] := by
  have h1 : RowAt (w.setCell ⟨p, 0, none⟩ (.bool m)) p 24 [.bool m, u] := by simpa using hr.set 0 (.bool m)
  exact ⟨(h.setRow hr 0 _).setRow h1 1 s, by simpa using h1.set 1 s⟩
theorem RowAt.other2 {w : World} {p q : Nat} {t : TypeId} {vs : List Value} {x y : Value} (h : RowAt w q t vs) (hpq : p ≠ q) : RowAt ((w.setCell ⟨p, 0, none⟩ x).setCell ⟨p, 1, none⟩ y) q t vs := (h.other (p := ⟨p, 0, none⟩) hpq x).other (p := ⟨p, 1, none⟩) hpq y
theorem RestC.of {w4 wf : World} {q : Nat} {n : Bool} {a : Option Addr} {l c : Nat} {z : Int} (hr : RowAt wf q 24 [.bool n, .slice a l c]) (hv : NumV wf 0 (.agg #[.bool n, .slice a l c]) z) (hk : Keeps (fun _ => False) w4 wf) : RestC w4 z (.pointer (some ⟨q, 0, none⟩)) wf :=
  ⟨q, n, a, l, c, rfl, hr, hv, hk⟩
theorem rest_00 {w4 w6 : World} {p q : Nat} {n6 n7 : Bool} {a6 a7 : Option Addr} {l6 c6 l7 c7 : Nat} {z : Int} (K6 : Keeps (fun _ => False) w4 w6) (HP : ∀ w', Keeps (fun _ => False) w6 w' → ∀ b, (∀ k, InB a7 k → b ≤ k) → NumV w' b (.agg #[.bool n7, .slice a7 l7 c7]) z) (hp : w4.heap.size ≤ p) (hq : w4.heap.size ≤ q) (h1 : Fr w6 p) (h2 : Fr w6 q) (hpq : p ≠ q) :
    RestC w4 z (.pointer (some ⟨q, 0, none⟩)) ((((w6.setCell ⟨p, 0, none⟩ (.bool n6)).setCell ⟨p, 1, none⟩ (.slice a6 l6 c6)).setCell ⟨q, 0, none⟩ (.bool n7)).setCell ⟨q, 1, none⟩ (.slice a7 l7 c7)) := by
  obtain ⟨v1, r1⟩ := NumV.setRow2 (HP w6 (Keeps.refl _ _) 0 (fun _ _ => Nat.zero_le _)) h1 (m := n6) (s := .slice a6 l6 c6)
  obtain ⟨v2, r2⟩ := NumV.setRow2 v1 (RowAt.other2 h2 hpq) (m := n7) (s := .slice a7 l7 c7)
  exact RestC.of r2 v2 ((((K6.setCell _ (.inr hp) _).setCell _ (.inr hp) _).setCell _ (.inr hq) _).setCell _ (.inr hq) _)
theorem rest_1a {w4 w6 : World} {p : Nat} {n6 n7 : Bool} {a6 a7 : Option Addr} {l6 c6 l7 c7 : Nat} {z : Int} (K6 : Keeps (fun _ => False) w4 w6) (HP : ∀ w', Keeps (fun _ => False) w6 w' → ∀ b, (∀ k, InB a7 k → b ≤ k) → NumV w' b (.agg #[.bool n7, .slice a7 l7 c7]) z) (hp : w4.heap.size ≤ p) (h1 : Fr w6 p) :
    RestC w4 z (.pointer (some ⟨w6.heap.size, 0, none⟩)) (((w6.setCell ⟨p, 0, none⟩ (.bool n6)).setCell ⟨p, 1, none⟩ (.slice a6 l6 c6)).alloc (.cells #[.bool n7, .slice a7 l7 c7] 24)) := by
  obtain ⟨v1, r1⟩ := NumV.setRow2 (HP w6 (Keeps.refl _ _) 0 (fun _ _ => Nat.zero_le _)) h1 (m := n6) (s := .slice a6 l6 c6)
  have hn := RowAt.new ((w6.setCell ⟨p, 0, none⟩ (.bool n6)).setCell ⟨p, 1, none⟩ (.slice a6 l6 c6)) 24 [.bool n7, .slice a7 l7 c7]
  rw [show ((w6.setCell ⟨p, 0, none⟩ (.bool n6)).setCell ⟨p, 1, none⟩ (.slice a6 l6 c6)).heap.size = w6.heap.size by simp] at hn
  exact RestC.of hn (v1.keep ((Keeps.refl (fun _ => False) _).alloc _) (fun _ _ h => h)) (((K6.setCell _ (.inr hp) _).setCell _ (.inr hp) _).alloc _)
theorem rest_1b {w4 w6 : World} {q : Nat} {n6 n7 : Bool} {a6 a7 : Option Addr} {l6 c6 l7 c7 : Nat} {z : Int} (K6 : Keeps (fun _ => False) w4 w6) (HP : ∀ w', Keeps (fun _ => False) w6 w' → ∀ b, (∀ k, InB a7 k → b ≤ k) → NumV w' b (.agg #[.bool n7, .slice a7 l7 c7]) z) (hq : w4.heap.size ≤ q) (h2 : Fr w6 q) :
    RestC w4 z (.pointer (some ⟨q, 0, none⟩)) (((w6.setCell ⟨q, 0, none⟩ (.bool n7)).setCell ⟨q, 1, none⟩ (.slice a7 l7 c7)).alloc (.cells #[.bool n6, .slice a6 l6 c6] 24)) := by
  obtain ⟨v1, r1⟩ := NumV.setRow2 (HP w6 (Keeps.refl _ _) 0 (fun _ _ => Nat.zero_le _)) h2 (m := n7) (s := .slice a7 l7 c7)
  exact RestC.of (r1.alloc _) (v1.keep ((Keeps.refl (fun _ => False) _).alloc _) (fun _ _ h => h)) (((K6.setCell _ (.inr hq) _).setCell _ (.inr hq) _).alloc _)
theorem rest_2a {w4 w6 : World} {n6 n7 : Bool} {a6 a7 : Option Addr} {l6 c6 l7 c7 : Nat} {z : Int} (K6 : Keeps (fun _ => False) w4 w6) (HP : ∀ w', Keeps (fun _ => False) w6 w' → ∀ b, (∀ k, InB a7 k → b ≤ k) → NumV w' b (.agg #[.bool n7, .slice a7 l7 c7]) z) : RestC w4 z (.pointer (some ⟨w6.heap.size + 1, 0, none⟩)) ((w6.alloc (.cells #[.bool n6, .slice a6 l6 c6] 24)).alloc (.cells #[.bool n7, .slice a7 l7 c7] 24)) := by
  have hn := RowAt.new (w6.alloc (.cells #[.bool n6, .slice a6 l6 c6] 24)) 24 [.bool n7, .slice a7 l7 c7]
  rw [show (w6.alloc (.cells #[.bool n6, .slice a6 l6 c6] 24)).heap.size = w6.heap.size + 1 by simp] at hn
  exact RestC.of hn (HP _ (((Keeps.refl _ w6).alloc _).alloc _) 0 (fun _ _ => Nat.zero_le _)) ((K6.alloc _).alloc _)
theorem rest_2b {w4 w6 : World} {n6 n7 : Bool} {a6 a7 : Option Addr} {l6 c6 l7 c7 : Nat} {z : Int} (K6 : Keeps (fun _ => False) w4 w6) (HP : ∀ w', Keeps (fun _ => False) w6 w' → ∀ b, (∀ k, InB a7 k → b ≤ k) → NumV w' b (.agg #[.bool n7, .slice a7 l7 c7]) z) : RestC w4 z (.pointer (some ⟨w6.heap.size, 0, none⟩)) ((w6.alloc (.cells #[.bool n7, .slice a7 l7 c7] 24)).alloc (.cells #[.bool n6, .slice a6 l6 c6] 24)) :=
  RestC.of ((RowAt.new w6 24 [.bool n7, .slice a7 l7 c7]).alloc _) (HP _ (((Keeps.refl _ w6).alloc _).alloc _) 0 (fun _ _ => Nat.zero_le _)) ((K6.alloc _).alloc _)

theorem rest_1c {w4 w6 : World} {p : Nat} {n6 n7 : Bool} {a6 a7 : Option Addr} {l6 c6 l7 c7 : Nat} {z : Int} (K6 : Keeps (fun _ => False) w4 w6) (HP : ∀ w', Keeps (fun _ => False) w6 w' → ∀ b, (∀ k, InB a7 k → b ≤ k) → NumV w' b (.agg #[.bool n7, .slice a7 l7 c7]) z) (hp : w4.heap.size ≤ p) (h1 : Fr w6 p) :
    RestC w4 z (.pointer (some ⟨w6.heap.size, 0, none⟩)) (((w6.alloc (.cells #[.bool n7, .slice a7 l7 c7] 24)).setCell ⟨p, 0, none⟩ (.bool n6)).setCell ⟨p, 1, none⟩ (.slice a6 l6 c6)) := by
  have hlt := RowAt.lt h1
  have v0 := HP _ ((Keeps.refl _ w6).alloc (.cells #[.bool n7, .slice a7 l7 c7] 24)) 0 (fun _ _ => Nat.zero_le _)
  obtain ⟨v1, r1⟩ := NumV.setRow2 v0 (RowAt.alloc h1 (.cells #[.bool n7, .slice a7 l7 c7] 24)) (m := n6) (s := .slice a6 l6 c6)
  exact RestC.of (RowAt.other2 (RowAt.new w6 24 [.bool n7, .slice a7 l7 c7]) (by omega)) v1 (((K6.alloc _).setCell _ (.inr hp) _).setCell _ (.inr hp) _)
theorem rest_1d {w4 w6 : World} {q : Nat} {n6 n7 : Bool} {a6 a7 : Option Addr} {l6 c6 l7 c7 : Nat} {z : Int} (K6 : Keeps (fun _ => False) w4 w6) (HP : ∀ w', Keeps (fun _ => False) w6 w' → ∀ b, (∀ k, InB a7 k → b ≤ k) → NumV w' b (.agg #[.bool n7, .slice a7 l7 c7]) z) (hq : w4.heap.size ≤ q) (h2 : Fr w6 q) :
    RestC w4 z (.pointer (some ⟨q, 0, none⟩)) (((w6.alloc (.cells #[.bool n6, .slice a6 l6 c6] 24)).setCell ⟨q, 0, none⟩ (.bool n7)).setCell ⟨q, 1, none⟩ (.slice a7 l7 c7)) := by
  have v0 := HP _ ((Keeps.refl _ w6).alloc (.cells #[.bool n6, .slice a6 l6 c6] 24)) 0 (fun _ _ => Nat.zero_le _)
  obtain ⟨v1, r1⟩ := NumV.setRow2 v0 (RowAt.alloc h2 (.cells #[.bool n6, .slice a6 l6 c6] 24)) (m := n7) (s := .slice a7 l7 c7)
  exact RestC.of r1 v1 (((K6.alloc _).setCell _ (.inr hq) _).setCell _ (.inr hq) _)
theorem rest_01 {w4 w6 : World} {p q : Nat} {n6 n7 : Bool} {a6 a7 : Option Addr} {l6 c6 l7 c7 : Nat} {z : Int} (K6 : Keeps (fun _ => False) w4 w6) (HP : ∀ w', Keeps (fun _ => False) w6 w' → ∀ b, (∀ k, InB a7 k → b ≤ k) → NumV w' b (.agg #[.bool n7, .slice a7 l7 c7]) z) (hp : w4.heap.size ≤ p) (hq : w4.heap.size ≤ q) (h1 : Fr w6 p) (h2 : Fr w6 q) (hpq : p ≠ q) :
    RestC w4 z (.pointer (some ⟨q, 0, none⟩)) ((((w6.setCell ⟨q, 0, none⟩ (.bool n7)).setCell ⟨q, 1, none⟩ (.slice a7 l7 c7)).setCell ⟨p, 0, none⟩ (.bool n6)).setCell ⟨p, 1, none⟩ (.slice a6 l6 c6)) := by
  obtain ⟨v1, r1⟩ := NumV.setRow2 (HP w6 (Keeps.refl _ _) 0 (fun _ _ => Nat.zero_le _)) h2 (m := n7) (s := .slice a7 l7 c7)
  obtain ⟨v2, r2⟩ := NumV.setRow2 v1 (RowAt.other2 h1 (Ne.symm hpq)) (m := n6) (s := .slice a6 l6 c6)
  exact RestC.of (RowAt.other2 r1 hpq) v2 ((((K6.setCell _ (.inr hq) _).setCell _ (.inr hq) _).setCell _ (.inr hp) _).setCell _ (.inr hp) _)
theorem NumB.set2 {w : World} {p : Nat} {n m : Bool} {a a' : Option Addr} {l c l' c' : Nat} {z z' : Int} (h : NumB w p n a l c z) (h' : NumV w 0 (.agg #[.bool m, .slice a' l' c']) z') : RowAt ((w.setCell ⟨p, 0, none⟩ (.bool m)).setCell ⟨p, 1, none⟩ (.slice a' l' c')) p 24 [.bool m, .slice a' l' c'] ∧ NumV ((w.setCell ⟨p, 0, none⟩ (.bool m)).setCell ⟨p, 1, none⟩ (.slice a' l' c')) 0 (.agg #[.bool m, .slice a' l' c']) z' := ⟨(h'.setRow2 h.1).2, (h'.setRow2 h.1).1⟩
/-- A variable with a number, its parts under names. -/
def NumD (w : World) (p : Nat) (n : Bool) (a : Option Addr) (l c : Nat) (z : Int) : Prop := RowAt w p 24 [.bool n, .slice a l c] ∧ NumV w 0 (.agg #[.bool n, .slice a l c]) z
theorem NumD.keep {w w' : World} {p : Nat} {n : Bool} {a : Option Addr} {l c : Nat} {z : Int} (h : NumD w p n a l c z) (hk : Keeps (fun _ => False) w w') : NumD w' p n a l c z := ⟨hk.row h.1 (fun h => h), h.2.keep hk (fun _ _ h => h)⟩
theorem NumD.set2 {w : World} {p : Nat} {n m : Bool} {a a' : Option Addr} {l c l' c' : Nat} {z z' : Int} (h : NumD w p n a l c z) (h' : NumV w 0 (.agg #[.bool m, .slice a' l' c']) z') : NumD ((w.setCell ⟨p, 0, none⟩ (.bool m)).setCell ⟨p, 1, none⟩ (.slice a' l' c')) p m a' l' c' z' := ⟨(h'.setRow2 h.1).2, (h'.setRow2 h.1).1⟩
theorem NumB.d {w : World} {p : Nat} {n : Bool} {a : Option Addr} {l c : Nat} {z : Int} (h : NumB w p n a l c z) : NumD w p n a l c z := ⟨h.1, h.v⟩
theorem NumD.cells {w : World} {p : Nat} {n : Bool} {a : Option Addr} {l c : Nat} {z : Int} (h : NumD w p n a l c z) : w.cell? ⟨p, 0, none⟩ = some (.bool n) ∧ w.cell? ⟨p, 1, none⟩ = some (.slice a l c) := ⟨h.1.cell 0, h.1.cell 1⟩
theorem NumD.frozen {w : World} {p : Nat} {n : Bool} {a : Option Addr} {l c : Nat} {z : Int} (h : NumD w p n a l c z) : w.frozen? ⟨p, 0, none⟩ = false ∧ w.frozen? ⟨p, 1, none⟩ = false := ⟨h.1.frozen 0, h.1.frozen 1⟩
theorem law13 (a : ByteArray) (i : Nat) (one : Bool) (w : World) (G : Glob w) (hma : a.size ≤ 9223372036854775807) (hn : i ≤ 65535) :
    Calls Tryz.prog 13 #[.string a, .int .u16 (i : Int), .bool one] w fun e w' => e = .returned (.bool true) ∧ Keeps (fun _ => False) w w' := by
  have HG := hid G
  clear G
  by_cases ha : a.size ≤ 2147483647
  · have H1 := hid (bigRight_any a w ha)
    go_enter Tryz.func13, Tryz.ntmps13
    go_wp2_with fail
    refine H1.out.mono ?_
    rintro e w1 ⟨hk1, hcase⟩
    have HK1 := hid hk1
    clear hk1 H1
    rcases hcase with ⟨x, v, htx, rfl, hnv⟩ | ⟨n1, a1, l1, c1, rfl⟩
    · have HTX := hid htx
      obtain ⟨n1, a1, l1, c1, rfl, hp⟩ := hnv.parts
      have HP := hid hp
      clear htx hnv hp
      by_cases hn3 : i ≤ 700
      · have t3 : decide (700 < i) = false := by simp; omega
        have t3' : decide ((700 : Int) < (i : Int)) = false := by simp; omega
        obtain ⟨W1, hW1⟩ : ∃ W, W = w1.alloc (.cells #[.bool n1, .slice a1 l1 c1] 24) := ⟨_, rfl⟩
        obtain ⟨p1, hp1⟩ : ∃ p, p = w1.heap.size := ⟨_, rfl⟩
        have hB1 : NumB W1 p1 n1 a1 l1 c1 x := by rw [hW1, hp1]; exact NumB.new HP.out
        have hK1 : Keeps (fun _ => False) w W1 := by rw [hW1]; exact HK1.out.alloc _
        have HB1 := hid hB1; have HKW := hid hK1
        have HG1 := hid (HG.out.keep hK1 (fun _ _ h => h))
        have HXL := hid (Txt.lt HTX.out)
        have gu : IntKind.u64.wrap (i : Int) = (i : Int) := by rw [IntKind.wrap_u64]; omega
        have gi : IntKind.i64.wrap (i : Int) = (i : Int) := by rw [IntKind.wrap_i64]; omega
        obtain ⟨T2, hT2⟩ : ∃ T, T = strB (txt (decide (sbz x i one < 0)) (sbz x i one).natAbs) := ⟨_, rfl⟩
        have HSh : Hid (∀ W, Keeps (fun _ => False) W1 W → Calls Tryz.prog 51 #[.string a, .int .i64 (i : Int), .int .u64 (one.toNat : Int)] W fun e w' => e = .returned (.tuple #[.int .u64 (zbv x i), .string T2]) ∧ Keeps (fun _ => False) W w') := hid (fun W hk => by
          obtain ⟨na, la, da, hta, hx, _⟩ := HTX.out
          exact bigBit51 a na da la x one i T2 W hta hx HXL.out hn3 (HG1.out.keep hk (fun _ _ h => h)) hT2)
        have HTw := hid (fun W => two42 i W (by omega))
        have hp2 : (0 : Int) < ((2 ^ i : Nat) : Int) := by have := Nat.two_pow_pos i; omega
        obtain ⟨M, hM⟩ : ∃ M, M = 800 := ⟨_, rfl⟩
        have hpl : ((2 ^ i : Nat) : Int).natAbs < 10 ^ M := by
          rw [Int.natAbs_natCast]
          exact Nat.lt_of_le_of_lt (Nat.pow_le_pow_left (show 2 ≤ 10 by omega) i) (Nat.pow_lt_pow_right (by omega) (by omega))
        have hxl : x.natAbs < 10 ^ M := Nat.lt_of_lt_of_le HXL.out (Nat.pow_le_pow_right (by omega) (by omega))
        have HDv : Hid (∀ W vx vy, NumV W 0 vx x → NumV W 0 vy ((2 ^ i : Nat) : Int) → Calls Tryz.prog 36 #[vx, vy] W fun e w' => ∃ v1 v2, e = .returned (.tuple #[v1, v2]) ∧ NumV w' W.heap.size v1 (x / ((2 ^ i : Nat) : Int)) ∧ (∃ z, NumV w' W.heap.size v2 z) ∧ Keeps (fun _ => False) W w') := hid (fun W vx vy h1 h2 => by
          refine (divided36 vx vy x _ 0 0 W h1 h2 (by omega) (digs_lt hxl (by omega)) (digs_lt hpl (by omega))).mono ?_
          rintro e w' ⟨v1, v2, rfl, k1, k2, k3⟩
          rw [(dm_pos hp2).1] at k1
          exact ⟨v1, v2, rfl, k1, ⟨_, k2⟩, k3⟩)
        have hql : (x / ((2 ^ i : Nat) : Int)).natAbs < 10 ^ (M + 1) := by
          refine Nat.lt_of_le_of_lt (m := x.natAbs + 1) ?_ (Nat.lt_of_lt_of_le (Nat.succ_lt_succ hxl) ?_)
          · by_cases h : x < 0
            · rw [(rsh_neg h i).2]
              have := Nat.div_le_self (x.natAbs - 1) (2 ^ i)
              omega
            · rw [(rsh_pos (by omega) i).2]
              have := Nat.div_le_self x.natAbs (2 ^ i)
              omega
          · rw [Nat.pow_succ]
            have h1 : 1 ≤ 10 ^ M := Nat.pow_pos (by omega)
            omega
        have HDv2 : Hid (∀ W vx vy, NumV W 0 vx (x / ((2 ^ i : Nat) : Int)) → NumV W 0 vy 2 → Calls Tryz.prog 36 #[vx, vy] W fun e w' => ∃ v1 v2, e = .returned (.tuple #[v1, v2]) ∧ NumV w' W.heap.size v1 (x / ((2 ^ i : Nat) : Int) / 2) ∧ NumV w' W.heap.size v2 (zbv x i) ∧ Keeps (fun _ => False) W w') := hid (fun W vx vy h1 h2 => by
          refine (divided36 vx vy _ 2 0 0 W h1 h2 (by omega) (digs_lt hql (by omega)) (digs_lt (k := 2) (by decide) (by omega))).mono ?_
          rintro e w' ⟨v1, v2, rfl, k1, k2, k3⟩
          rw [(dm_pos (by omega)).1] at k1
          rw [(dm_pos (by omega)).2, zbit_div] at k2
          exact ⟨v1, v2, rfl, k1, k2, k3⟩)
        have HO2 := hid (fun W => of33 2 W (by omega) (by omega))
        have HAd : Hid (∀ W vx vy, NumV W 0 vx x → NumV W 0 vy ((2 ^ i : Nat) : Int) → Calls Tryz.prog 28 #[vx, vy] W (NRes W (x + ((2 ^ i : Nat) : Int)))) := hid (fun W vx vy h1 h2 => add28 vx vy x _ 0 0 W h1 h2 (Nat.le_trans (digs_lt hxl (by omega)) (by omega)) (Nat.le_trans (digs_lt hpl (by omega)) (by omega)))
        have HSu : Hid (∀ W vx vy, NumV W 0 vx x → NumV W 0 vy ((2 ^ i : Nat) : Int) → Calls Tryz.prog 50 #[vx, vy] W (NRes W (x - ((2 ^ i : Nat) : Int)))) := hid (fun W vx vy h1 h2 => sub50 vx vy x _ 0 0 W h1 h2 (Nat.le_trans (digs_lt hxl (by omega)) (by omega)) (Nat.le_trans (digs_lt hpl (by omega)) (by omega)))
        have HX2 : Hid (∀ W v b, NumV W b v (sbz x i one) → Calls Tryz.prog 22 #[v] W fun e w' => e = .returned (.string T2) ∧ Keeps (fun _ => False) W w') := hid (fun W v b h => by
          rw [hT2]
          exact text22 v _ b W h (Nat.le_trans (digs_len (sbz_lt HXL.out hn3)) (by omega)))
        have HAl := hid (fun W (hk : Keeps (fun _ => False) W1 W) => bigAlive_true W (HG1.out.keep hk (fun _ _ h => h)))
        clear hB1 hK1 hp2 hpl hxl hql hM hT2 HTX HXL HG
        go_upto_region 4 with fail
        rw [← hW1, ← hp1]
        obtain ⟨b0, b1⟩ := HB1.out.cells
        clear hW1 hp1 b0 b1
        go_wp2_with fail
        refine (HTw.out _).mono ?_
        rintro e w3 ⟨v, rfl, hv, hk3⟩
        obtain ⟨n2, a2, l2, c2, rfl, hp⟩ := hv.parts
        have HP2 := hid hp
        have HK3 := hid hk3
        clear hv hp hk3 HTw HP
        go_upto_region 7 with fail
        obtain ⟨W3, hW3⟩ : ∃ W, W = w3.alloc (.cells #[.bool n2, .slice a2 l2 c2] 24) := ⟨_, rfl⟩
        obtain ⟨p2, hp2⟩ : ∃ p, p = w3.heap.size := ⟨_, rfl⟩
        have hB2 : NumB W3 p2 n2 a2 l2 c2 ((2 ^ i : Nat) : Int) := by rw [hW3, hp2]; exact NumB.new HP2.out
        have hK3 : Keeps (fun _ => False) W1 W3 := by rw [hW3]; exact HK3.out.alloc _
        have HB2 := hid hB2; have HKW3 := hid hK3
        have HB13 := hid (HB1.out.keep hK3)
        rw [← hW3, ← hp2]
        obtain ⟨b0, b1⟩ := HB13.out.cells
        obtain ⟨b2, b3⟩ := HB2.out.cells
        clear hB2 hK3 hW3 hp2 HP2
        go_wp2_with fail
        refine (HDv.out _ _ _ HB13.out.v HB2.out.v).mono ?_
        rintro e w40 ⟨v1, v2, rfl, hv1, ⟨z2, hv2⟩, hk4⟩
        obtain ⟨n3, a3, l3, c3, rfl, hp3⟩ := hv1.parts
        obtain ⟨n4, a4, l4, c4, rfl, hp4⟩ := hv2.parts
        have HP3 := hid hp3
        have HK4 := hid hk4
        clear hv1 hv2 hp3 hp4 hk4 b0 b1 b2 b3 HDv
        go_upto_region 8 with fail
        obtain ⟨w4, hW4⟩ : ∃ W, W = (w40.alloc (.cells #[.bool n3, .slice a3 l3 c3] 24)).alloc (.cells #[.bool n4, .slice a4 l4 c4] 24) := ⟨_, rfl⟩
        obtain ⟨p3, hp3⟩ : ∃ p, p = w40.heap.size := ⟨_, rfl⟩
        have hB3 : NumB w4 p3 n3 a3 l3 c3 (x / ((2 ^ i : Nat) : Int)) := by rw [hW4, hp3]; exact (NumB.new HP3.out).keep ((Keeps.refl _ _).alloc _)
        have hK4 : Keeps (fun _ => False) W3 w4 := by rw [hW4]; exact (HK4.out.alloc _).alloc _
        have HB3 := hid hB3; have HKW4 := hid hK4
        have HB14 := hid (HB13.out.keep hK4); have HB24 := hid (HB2.out.keep hK4)
        rw [← hW4, ← hp3]
        have HS8 : Hid (∀ w', Keeps (fun _ => False) w4 w' → w'.cell? ⟨p3, 0, none⟩ = some (.bool n3) ∧ w'.cell? ⟨p3, 1, none⟩ = some (.slice a3 l3 c3)) := hid (fun w' hk => (HB3.out.keep hk).cells)
        have HQ : Hid (∀ w', Keeps (fun _ => False) w4 w' → NumV w' 0 (.agg #[.bool n3, .slice a3 l3 c3]) (x / ((2 ^ i : Nat) : Int))) := hid (fun w' hk => (HB3.out.keep hk).v)
        clear hB3 hK4 hW4 hp3 HP3
        go_cut [12, 13] from 43 to 49 (fun _ v wx => RestC w4 (zbv x i) v wx)
        case first =>
          go_region_held3 (fun w' => w'.cell? ⟨p3, 0, none⟩ = some (.bool n3) ∧ w'.cell? ⟨p3, 1, none⟩ = some (.slice a3 l3 c3))
            (((refine HS8.out _ ?_); repeat (first | (with_reducible exact K6.out) | (with_reducible exact K5.out) | (with_reducible exact Keeps.refl _ _) | (with_reducible refine Keeps.drew ?_) | (with_reducible refine Keeps.new ?_ _) | (refine Keeps.setCell ?_ _ (.inr (by dsimp only; omega)) _))))
            (first
           | (go_at_call 33; (with_reducible refine (HO2.out (w4.drew)).mono ?_); rintro e w5 ⟨v, rfl, hv, hk⟩; obtain ⟨n5, a5, l5, c5, rfl, hp⟩ := hv.parts; have HP5 := hid hp; have K5 := hid ((show Keeps (fun _ => False) w4 (w4.drew) from (Keeps.refl (fun _ => False) w4).drew).trans hk); have tok0 : True := trivial; have z5 := K5.out.size; clear hv hp hk)
           | (go_at_call 33; (with_reducible refine (HO2.out ((w4.alloc (.cells #[.bool false, .slice none 0 0] 24)).drew)).mono ?_); rintro e w5 ⟨v, rfl, hv, hk⟩; obtain ⟨n5, a5, l5, c5, rfl, hp⟩ := hv.parts; have HP5 := hid hp; have K5 := hid ((show Keeps (fun _ => False) w4 ((w4.alloc (.cells #[.bool false, .slice none 0 0] 24)).drew) from ((Keeps.refl (fun _ => False) w4).alloc _).drew).trans hk); have FR0 := hid ((show Fr ((w4.alloc (.cells #[.bool false, .slice none 0 0] 24)).drew) w4.heap.size from (Fr.new w4)).keep hk); have tok1 : True := trivial; have z5 := K5.out.size; clear hv hp hk)
           | (go_at_call 33; (with_reducible refine (HO2.out (((w4.alloc (.cells #[.bool false, .slice none 0 0] 24)).alloc (.cells #[.bool false, .slice none 0 0] 24)).drew)).mono ?_); rintro e w5 ⟨v, rfl, hv, hk⟩; obtain ⟨n5, a5, l5, c5, rfl, hp⟩ := hv.parts; have HP5 := hid hp; have K5 := hid ((show Keeps (fun _ => False) w4 (((w4.alloc (.cells #[.bool false, .slice none 0 0] 24)).alloc (.cells #[.bool false, .slice none 0 0] 24)).drew) from (((Keeps.refl (fun _ => False) w4).alloc _).alloc _).drew).trans hk); have FR0 := hid ((show Fr (((w4.alloc (.cells #[.bool false, .slice none 0 0] 24)).alloc (.cells #[.bool false, .slice none 0 0] 24)).drew) w4.heap.size from (Fr.new2 w4).1).keep hk); have FR1 := hid ((show Fr (((w4.alloc (.cells #[.bool false, .slice none 0 0] 24)).alloc (.cells #[.bool false, .slice none 0 0] 24)).drew) (w4.heap.size + 1) from (Fr.new2 w4).2).keep hk); have tok2 : True := trivial; have z5 := K5.out.size; clear hv hp hk)
           | (go_at_call 36; have _t := tok0; (with_reducible refine (HDv2.out w5 _ _ ((HQ.out _ K5.out).keep (show Keeps (fun _ => False) w5 w5 from (Keeps.refl (fun _ => False) w5)) (fun _ _ h => h)) (HP5.out _ (Keeps.refl (fun _ => False) w5) 0 (fun _ _ => Nat.zero_le _))).mono ?_); rintro e w6 ⟨v1, v2, rfl, hv1, hv2, hk⟩; obtain ⟨n6, a6, l6, c6, rfl, _⟩ := hv1.parts; obtain ⟨n7, a7, l7, c7, rfl, hp⟩ := hv2.parts; have HP7 := hid hp; have k56 := (show Keeps (fun _ => False) w5 w5 from (Keeps.refl (fun _ => False) w5)).trans hk; have z6 := k56.size; have K6 := hid (K5.out.trans k56); clear hv1 hv2 hp hk k56)
           | (go_at_call 36; have _t := tok0; (with_reducible refine (HDv2.out (w5.alloc (.cells #[.bool false, .slice none 0 0] 24)) _ _ ((HQ.out _ K5.out).keep (show Keeps (fun _ => False) w5 (w5.alloc (.cells #[.bool false, .slice none 0 0] 24)) from ((Keeps.refl (fun _ => False) w5).alloc _)) (fun _ _ h => h)) (HP5.out _ ((Keeps.refl (fun _ => False) w5).alloc _) 0 (fun _ _ => Nat.zero_le _))).mono ?_); rintro e w6 ⟨v1, v2, rfl, hv1, hv2, hk⟩; obtain ⟨n6, a6, l6, c6, rfl, _⟩ := hv1.parts; obtain ⟨n7, a7, l7, c7, rfl, hp⟩ := hv2.parts; have HP7 := hid hp; have k56 := (show Keeps (fun _ => False) w5 (w5.alloc (.cells #[.bool false, .slice none 0 0] 24)) from ((Keeps.refl (fun _ => False) w5).alloc _)).trans hk; have z6 := k56.size; have K6 := hid (K5.out.trans k56); have g0 := ((Fr.new w5).keep hk); obtain ⟨x00, x01, x02, x03⟩ := g0.facts; have y00 := fun o => (Fr.facts (RowAt.alloc g0 o)).1; have y01 := fun o => (Fr.facts (RowAt.alloc g0 o)).2.1; have y02 := fun o => (Fr.facts (RowAt.alloc g0 o)).2.2.1; have y03 := fun o => (Fr.facts (RowAt.alloc g0 o)).2.2.2; have lt0 := RowAt.lt g0; have ne0 := Nat.ne_of_lt lt0; have nf0 := Ne.symm ne0; have G0 := hid g0; clear g0; clear hv1 hv2 hp hk k56)
           | (go_at_call 36; have _t := tok0; (with_reducible refine (HDv2.out ((w5.alloc (.cells #[.bool false, .slice none 0 0] 24)).alloc (.cells #[.bool false, .slice none 0 0] 24)) _ _ ((HQ.out _ K5.out).keep (show Keeps (fun _ => False) w5 ((w5.alloc (.cells #[.bool false, .slice none 0 0] 24)).alloc (.cells #[.bool false, .slice none 0 0] 24)) from (((Keeps.refl (fun _ => False) w5).alloc _).alloc _)) (fun _ _ h => h)) (HP5.out _ (((Keeps.refl (fun _ => False) w5).alloc _).alloc _) 0 (fun _ _ => Nat.zero_le _))).mono ?_); rintro e w6 ⟨v1, v2, rfl, hv1, hv2, hk⟩; obtain ⟨n6, a6, l6, c6, rfl, _⟩ := hv1.parts; obtain ⟨n7, a7, l7, c7, rfl, hp⟩ := hv2.parts; have HP7 := hid hp; have k56 := (show Keeps (fun _ => False) w5 ((w5.alloc (.cells #[.bool false, .slice none 0 0] 24)).alloc (.cells #[.bool false, .slice none 0 0] 24)) from (((Keeps.refl (fun _ => False) w5).alloc _).alloc _)).trans hk; have z6 := k56.size; have K6 := hid (K5.out.trans k56); have g0 := ((Fr.new2 w5).1.keep hk); obtain ⟨x00, x01, x02, x03⟩ := g0.facts; have y00 := fun o => (Fr.facts (RowAt.alloc g0 o)).1; have y01 := fun o => (Fr.facts (RowAt.alloc g0 o)).2.1; have y02 := fun o => (Fr.facts (RowAt.alloc g0 o)).2.2.1; have y03 := fun o => (Fr.facts (RowAt.alloc g0 o)).2.2.2; have lt0 := RowAt.lt g0; have ne0 := Nat.ne_of_lt lt0; have nf0 := Ne.symm ne0; have G0 := hid g0; clear g0; have g1 := ((Fr.new2 w5).2.keep hk); obtain ⟨x10, x11, x12, x13⟩ := g1.facts; have y10 := fun o => (Fr.facts (RowAt.alloc g1 o)).1; have y11 := fun o => (Fr.facts (RowAt.alloc g1 o)).2.1; have y12 := fun o => (Fr.facts (RowAt.alloc g1 o)).2.2.1; have y13 := fun o => (Fr.facts (RowAt.alloc g1 o)).2.2.2; have lt1 := RowAt.lt g1; have ne1 := Nat.ne_of_lt lt1; have nf1 := Ne.symm ne1; have G1 := hid g1; clear g1; clear hv1 hv2 hp hk k56)
           | (go_at_call 36; have _t := tok1; (with_reducible refine (HDv2.out w5 _ _ ((HQ.out _ K5.out).keep (show Keeps (fun _ => False) w5 w5 from (Keeps.refl (fun _ => False) w5)) (fun _ _ h => h)) (HP5.out _ (Keeps.refl (fun _ => False) w5) 0 (fun _ _ => Nat.zero_le _))).mono ?_); rintro e w6 ⟨v1, v2, rfl, hv1, hv2, hk⟩; obtain ⟨n6, a6, l6, c6, rfl, _⟩ := hv1.parts; obtain ⟨n7, a7, l7, c7, rfl, hp⟩ := hv2.parts; have HP7 := hid hp; have k56 := (show Keeps (fun _ => False) w5 w5 from (Keeps.refl (fun _ => False) w5)).trans hk; have z6 := k56.size; have K6 := hid (K5.out.trans k56); have ne45 := Nat.ne_of_lt (RowAt.lt FR0.out); have nf45 := Ne.symm ne45; have g0 := (FR0.out.keep k56); obtain ⟨x00, x01, x02, x03⟩ := g0.facts; have y00 := fun o => (Fr.facts (RowAt.alloc g0 o)).1; have y01 := fun o => (Fr.facts (RowAt.alloc g0 o)).2.1; have y02 := fun o => (Fr.facts (RowAt.alloc g0 o)).2.2.1; have y03 := fun o => (Fr.facts (RowAt.alloc g0 o)).2.2.2; have lt0 := RowAt.lt g0; have ne0 := Nat.ne_of_lt lt0; have nf0 := Ne.symm ne0; have G0 := hid g0; clear g0; clear hv1 hv2 hp hk k56)
           | (go_at_call 36; have _t := tok1; (with_reducible refine (HDv2.out (w5.alloc (.cells #[.bool false, .slice none 0 0] 24)) _ _ ((HQ.out _ K5.out).keep (show Keeps (fun _ => False) w5 (w5.alloc (.cells #[.bool false, .slice none 0 0] 24)) from ((Keeps.refl (fun _ => False) w5).alloc _)) (fun _ _ h => h)) (HP5.out _ ((Keeps.refl (fun _ => False) w5).alloc _) 0 (fun _ _ => Nat.zero_le _))).mono ?_); rintro e w6 ⟨v1, v2, rfl, hv1, hv2, hk⟩; obtain ⟨n6, a6, l6, c6, rfl, _⟩ := hv1.parts; obtain ⟨n7, a7, l7, c7, rfl, hp⟩ := hv2.parts; have HP7 := hid hp; have k56 := (show Keeps (fun _ => False) w5 (w5.alloc (.cells #[.bool false, .slice none 0 0] 24)) from ((Keeps.refl (fun _ => False) w5).alloc _)).trans hk; have z6 := k56.size; have K6 := hid (K5.out.trans k56); have ne45 := Nat.ne_of_lt (RowAt.lt FR0.out); have nf45 := Ne.symm ne45; have g0 := (FR0.out.keep k56); obtain ⟨x00, x01, x02, x03⟩ := g0.facts; have y00 := fun o => (Fr.facts (RowAt.alloc g0 o)).1; have y01 := fun o => (Fr.facts (RowAt.alloc g0 o)).2.1; have y02 := fun o => (Fr.facts (RowAt.alloc g0 o)).2.2.1; have y03 := fun o => (Fr.facts (RowAt.alloc g0 o)).2.2.2; have lt0 := RowAt.lt g0; have ne0 := Nat.ne_of_lt lt0; have nf0 := Ne.symm ne0; have G0 := hid g0; clear g0; have g1 := ((Fr.new w5).keep hk); obtain ⟨x10, x11, x12, x13⟩ := g1.facts; have y10 := fun o => (Fr.facts (RowAt.alloc g1 o)).1; have y11 := fun o => (Fr.facts (RowAt.alloc g1 o)).2.1; have y12 := fun o => (Fr.facts (RowAt.alloc g1 o)).2.2.1; have y13 := fun o => (Fr.facts (RowAt.alloc g1 o)).2.2.2; have lt1 := RowAt.lt g1; have ne1 := Nat.ne_of_lt lt1; have nf1 := Ne.symm ne1; have G1 := hid g1; clear g1; clear hv1 hv2 hp hk k56)
           | (go_at_call 36; have _t := tok2; (with_reducible refine (HDv2.out w5 _ _ ((HQ.out _ K5.out).keep (show Keeps (fun _ => False) w5 w5 from (Keeps.refl (fun _ => False) w5)) (fun _ _ h => h)) (HP5.out _ (Keeps.refl (fun _ => False) w5) 0 (fun _ _ => Nat.zero_le _))).mono ?_); rintro e w6 ⟨v1, v2, rfl, hv1, hv2, hk⟩; obtain ⟨n6, a6, l6, c6, rfl, _⟩ := hv1.parts; obtain ⟨n7, a7, l7, c7, rfl, hp⟩ := hv2.parts; have HP7 := hid hp; have k56 := (show Keeps (fun _ => False) w5 w5 from (Keeps.refl (fun _ => False) w5)).trans hk; have z6 := k56.size; have K6 := hid (K5.out.trans k56); have ne45 := Nat.ne_of_lt (RowAt.lt FR0.out); have nf45 := Ne.symm ne45; have g0 := (FR0.out.keep k56); obtain ⟨x00, x01, x02, x03⟩ := g0.facts; have y00 := fun o => (Fr.facts (RowAt.alloc g0 o)).1; have y01 := fun o => (Fr.facts (RowAt.alloc g0 o)).2.1; have y02 := fun o => (Fr.facts (RowAt.alloc g0 o)).2.2.1; have y03 := fun o => (Fr.facts (RowAt.alloc g0 o)).2.2.2; have lt0 := RowAt.lt g0; have ne0 := Nat.ne_of_lt lt0; have nf0 := Ne.symm ne0; have G0 := hid g0; clear g0; have g1 := (FR1.out.keep k56); obtain ⟨x10, x11, x12, x13⟩ := g1.facts; have y10 := fun o => (Fr.facts (RowAt.alloc g1 o)).1; have y11 := fun o => (Fr.facts (RowAt.alloc g1 o)).2.1; have y12 := fun o => (Fr.facts (RowAt.alloc g1 o)).2.2.1; have y13 := fun o => (Fr.facts (RowAt.alloc g1 o)).2.2.2; have lt1 := RowAt.lt g1; have ne1 := Nat.ne_of_lt lt1; have nf1 := Ne.symm ne1; have G1 := hid g1; clear g1; clear hv1 hv2 hp hk k56))
          all_goals
            go_wp2_with fail
            go_meet
          all_goals first | with_reducible exact rest_2a K6.out HP7.out | with_reducible exact rest_2b K6.out HP7.out | with_reducible exact rest_1a K6.out HP7.out (by omega) G0.out | with_reducible exact rest_1b K6.out HP7.out (by omega) G0.out | with_reducible exact rest_1c K6.out HP7.out (by omega) G0.out | with_reducible exact rest_1d K6.out HP7.out (by omega) G0.out | with_reducible exact rest_00 K6.out HP7.out (by omega) (by omega) G0.out G1.out (by omega) | with_reducible exact rest_00 K6.out HP7.out (by omega) (by omega) G1.out G0.out (by omega) | with_reducible exact rest_01 K6.out HP7.out (by omega) (by omega) G0.out G1.out (by omega) | with_reducible exact rest_01 K6.out HP7.out (by omega) (by omega) G1.out G0.out (by omega) | skip
        case rest =>
          obtain ⟨p13, n13, a13, l13, c13, rfl, hr13, nv13, hkc⟩ := hcut
          have HKC := hid hkc; have HV13 := hid nv13
          have HBx := hid (HB14.out.keep hkc); have HBp := hid (HB24.out.keep hkc)
          have y0 := fun o => (HBx.out.keep ((Keeps.refl (fun _ => False) wc).alloc o)).cells.1
          have y1 := fun o => (HBx.out.keep ((Keeps.refl (fun _ => False) wc).alloc o)).cells.2
          obtain ⟨b0, b1⟩ := HBx.out.cells
          clear hkc nv13
          go_upto_region 9 with fail
          go_region
          go_upto_region 10 with fail
          obtain ⟨wd, hwd⟩ : ∃ W, W = (wc.alloc (.cells #[.bool n1, .slice a1 l1 c1] 24)).drew := ⟨_, rfl⟩
          obtain ⟨p15, hp15⟩ : ∃ p, p = wc.heap.size := ⟨_, rfl⟩
          have hkd : Keeps (fun _ => False) wc wd := by rw [hwd]; exact ((Keeps.refl _ wc).alloc _).drew
          have hd15 : NumD wd p15 n1 a1 l1 c1 x := by rw [hwd, hp15]; exact ((NumB.new (fun w' hk b hb => (HBx.out.2 b hb).keep hk (fun _ _ h => h))).d).keep ((Keeps.refl _ _).drew)
          have hge : w4.heap.size ≤ p15 := by rw [hp15]; exact HKC.out.size
          rw [← hwd, ← hp15]
          have HV := hid (HV13.out.keep hkd (fun _ _ h => h))
          have hx : wd.cell? ⟨p13, 0, none⟩ = some (.bool n13) ∧ wd.cell? ⟨p13, 1, none⟩ = some (.slice a13 l13 c13) := (hkd.row hr13 (fun h => h)).num
          obtain ⟨x0, x1⟩ := hx
          have HD := hid hd15; have HKD := hid (HKC.out.trans hkd)
          have HBx1 := hid (HBx.out.keep hkd); have HBp1 := hid (HBp.out.keep hkd)
          clear b0 b1 hr13 y0 y1 hwd hp15 hkd hd15
          go_wp2_with fail
          refine (zero23 _ _ _ _ HV.out).mono ?_
          rintro e we ⟨rfl, hke⟩
          have HD2 := hid (HD.out.keep hke); have HKE := hid (HKD.out.trans hke)
          have HBx2 := hid (HBx1.out.keep hke); have HBp2 := hid (HBp1.out.keep hke)
          obtain ⟨b0, b1⟩ := HBx2.out.cells
          obtain ⟨b2, b3⟩ := HBp2.out.cells
          obtain ⟨b4, b5⟩ := HD2.out.cells
          obtain ⟨b6, b7⟩ := HD2.out.frozen
          clear hke x0 x1
          have hsz := sbz_eq x i one
          have hzz : zbv x i = ((zbit x i).toNat : Int) := rfl
          have hcs : (zbit x i = true ∨ zbit x i = false) := by cases zbit x i <;> simp
          rcases hcs with hz | hz
          · rw [hz] at hsz hzz
            replace hzz : zbv x i = 1 := hzz
            rw [hzz, show decide ((1 : Int) = 0) = false from rfl]
            cases one with
            | true =>
              have HS1 : Hid (∀ W, Keeps (fun _ => False) W1 W → Calls Tryz.prog 51 #[.string a, .int .i64 (i : Int), .int .u64 1] W fun e w' => e = .returned (.tuple #[.int .u64 1, .string T2]) ∧ Keeps (fun _ => False) W w') := hid (by have h := HSh.out; rw [hzz] at h; exact h)
              have hsv : sbz x i true = x := by rw [hsz]; simp
              have HXV := hid (fun W v (h : NumV W 0 v x) => HX2.out W v 0 (by rw [hsv]; exact h))
              clear hsz hzz hz hsv HSh HX2
              have HD8 := hid HD2.out; have HKF := hid HKE.out
              clear b0 b1 b2 b3 b4 b5 b6 b7
              go_wp2_with fail
              refine (HS1.out _ ((HKW3.out.trans HKW4.out).trans HKF.out)).mono ?_
              rintro e wh ⟨rfl, hkh⟩
              have HKH := hid (HKF.out.trans hkh); have HD9 := hid (HD8.out.keep hkh)
              have HA := hid (HAl.out wh ((HKW3.out.trans HKW4.out).trans (HKF.out.trans hkh)))
              clear hkh HS1 HAl
              go_wp2_with fail
              refine HA.out.mono ?_
              rintro e wi ⟨rfl, hki⟩
              have HKI := hid (HKH.out.trans hki); have HD10 := hid (HD9.out.keep hki)
              obtain ⟨q0, q1⟩ := HD10.out.cells
              clear hki HA
              go_wp2_with fail
              refine (HXV.out _ _ HD10.out.2).mono ?_
              rintro e wj ⟨rfl, hkj⟩
              have HKJ := hid (HKI.out.trans hkj)
              clear hkj q0 q1
              go_wp2_with fail
              go_ret
              exact ⟨rfl, ((HKW.out.trans HKW3.out).trans HKW4.out).trans HKJ.out⟩
            | false =>
              have HS1 : Hid (∀ W, Keeps (fun _ => False) W1 W → Calls Tryz.prog 51 #[.string a, .int .i64 (i : Int), .int .u64 0] W fun e w' => e = .returned (.tuple #[.int .u64 1, .string T2]) ∧ Keeps (fun _ => False) W w') := hid (by have h := HSh.out; rw [hzz] at h; exact h)
              have hsv : sbz x i false = (x - ((2 ^ i : Nat) : Int)) := by rw [hsz]; simp
              have HXV := hid (fun W v (h : NumV W 0 v (x - ((2 ^ i : Nat) : Int))) => HX2.out W v 0 (by rw [hsv]; exact h))
              clear hsz hzz hz hsv HSh HX2
              go_wp2_with fail
              refine (HSu.out _ _ _ HBx2.out.v HBp2.out.v).mono ?_
              rintro e wf ⟨v, rfl, hv, hkf⟩
              obtain ⟨n8, a8, l8, c8, rfl, hp⟩ := hv.parts
              have hd8 := HD2.out.keep hkf
              have HD8 := hid (hd8.set2 (hp wf (Keeps.refl _ _) 0 (fun _ _ => Nat.zero_le _)))
              have HKF := hid (((HKE.out.trans hkf).setCell ⟨p15, 0, none⟩ (.inr hge) (.bool n8)).setCell ⟨p15, 1, none⟩ (.inr hge) (.slice a8 l8 c8))
              obtain ⟨q0, q1⟩ := hd8.cells
              obtain ⟨q2, q3⟩ := hd8.frozen
              clear hv hp hkf hd8 b0 b1 b2 b3 b4 b5 b6 b7
              go_upto_region 19 with fail
              obtain ⟨wg, hwg⟩ : ∃ W, W = (wf.setCell ⟨p15, 0, none⟩ (.bool n8)).setCell ⟨p15, 1, none⟩ (.slice a8 l8 c8) := ⟨_, rfl⟩
              rw [← hwg]; rw [← hwg] at HD8 HKF
              clear hwg q0 q1 q2 q3
              go_wp2_with fail
              refine (HS1.out _ ((HKW3.out.trans HKW4.out).trans HKF.out)).mono ?_
              rintro e wh ⟨rfl, hkh⟩
              have HKH := hid (HKF.out.trans hkh); have HD9 := hid (HD8.out.keep hkh)
              have HA := hid (HAl.out wh ((HKW3.out.trans HKW4.out).trans (HKF.out.trans hkh)))
              clear hkh HS1 HAl
              go_wp2_with fail
              refine HA.out.mono ?_
              rintro e wi ⟨rfl, hki⟩
              have HKI := hid (HKH.out.trans hki); have HD10 := hid (HD9.out.keep hki)
              obtain ⟨q0, q1⟩ := HD10.out.cells
              clear hki HA
              go_wp2_with fail
              refine (HXV.out _ _ HD10.out.2).mono ?_
              rintro e wj ⟨rfl, hkj⟩
              have HKJ := hid (HKI.out.trans hkj)
              clear hkj q0 q1
              go_wp2_with fail
              go_ret
              exact ⟨rfl, ((HKW.out.trans HKW3.out).trans HKW4.out).trans HKJ.out⟩
          · rw [hz] at hsz hzz
            replace hzz : zbv x i = 0 := hzz
            rw [hzz, show decide ((0 : Int) = 0) = true from rfl]
            cases one with
            | true =>
              have HS1 : Hid (∀ W, Keeps (fun _ => False) W1 W → Calls Tryz.prog 51 #[.string a, .int .i64 (i : Int), .int .u64 1] W fun e w' => e = .returned (.tuple #[.int .u64 0, .string T2]) ∧ Keeps (fun _ => False) W w') := hid (by have h := HSh.out; rw [hzz] at h; exact h)
              have hsv : sbz x i true = (x + ((2 ^ i : Nat) : Int)) := by rw [hsz]; simp
              have HXV := hid (fun W v (h : NumV W 0 v (x + ((2 ^ i : Nat) : Int))) => HX2.out W v 0 (by rw [hsv]; exact h))
              clear hsz hzz hz hsv HSh HX2
              go_wp2_with fail
              refine (HAd.out _ _ _ HBx2.out.v HBp2.out.v).mono ?_
              rintro e wf ⟨v, rfl, hv, hkf⟩
              obtain ⟨n8, a8, l8, c8, rfl, hp⟩ := hv.parts
              have hd8 := HD2.out.keep hkf
              have HD8 := hid (hd8.set2 (hp wf (Keeps.refl _ _) 0 (fun _ _ => Nat.zero_le _)))
              have HKF := hid (((HKE.out.trans hkf).setCell ⟨p15, 0, none⟩ (.inr hge) (.bool n8)).setCell ⟨p15, 1, none⟩ (.inr hge) (.slice a8 l8 c8))
              obtain ⟨q0, q1⟩ := hd8.cells
              obtain ⟨q2, q3⟩ := hd8.frozen
              clear hv hp hkf hd8 b0 b1 b2 b3 b4 b5 b6 b7
              go_upto_region 19 with fail
              obtain ⟨wg, hwg⟩ : ∃ W, W = (wf.setCell ⟨p15, 0, none⟩ (.bool n8)).setCell ⟨p15, 1, none⟩ (.slice a8 l8 c8) := ⟨_, rfl⟩
              rw [← hwg]; rw [← hwg] at HD8 HKF
              clear hwg q0 q1 q2 q3
              go_wp2_with fail
              refine (HS1.out _ ((HKW3.out.trans HKW4.out).trans HKF.out)).mono ?_
              rintro e wh ⟨rfl, hkh⟩
              have HKH := hid (HKF.out.trans hkh); have HD9 := hid (HD8.out.keep hkh)
              have HA := hid (HAl.out wh ((HKW3.out.trans HKW4.out).trans (HKF.out.trans hkh)))
              clear hkh HS1 HAl
              go_wp2_with fail
              refine HA.out.mono ?_
              rintro e wi ⟨rfl, hki⟩
              have HKI := hid (HKH.out.trans hki); have HD10 := hid (HD9.out.keep hki)
              obtain ⟨q0, q1⟩ := HD10.out.cells
              clear hki HA
              go_wp2_with fail
              refine (HXV.out _ _ HD10.out.2).mono ?_
              rintro e wj ⟨rfl, hkj⟩
              have HKJ := hid (HKI.out.trans hkj)
              clear hkj q0 q1
              go_wp2_with fail
              go_ret
              exact ⟨rfl, ((HKW.out.trans HKW3.out).trans HKW4.out).trans HKJ.out⟩
            | false =>
              have HS1 : Hid (∀ W, Keeps (fun _ => False) W1 W → Calls Tryz.prog 51 #[.string a, .int .i64 (i : Int), .int .u64 0] W fun e w' => e = .returned (.tuple #[.int .u64 0, .string T2]) ∧ Keeps (fun _ => False) W w') := hid (by have h := HSh.out; rw [hzz] at h; exact h)
              have hsv : sbz x i false = x := by rw [hsz]; simp
              have HXV := hid (fun W v (h : NumV W 0 v x) => HX2.out W v 0 (by rw [hsv]; exact h))
              clear hsz hzz hz hsv HSh HX2
              have HD8 := hid HD2.out; have HKF := hid HKE.out
              clear b0 b1 b2 b3 b4 b5 b6 b7
              go_wp2_with fail
              refine (HS1.out _ ((HKW3.out.trans HKW4.out).trans HKF.out)).mono ?_
              rintro e wh ⟨rfl, hkh⟩
              have HKH := hid (HKF.out.trans hkh); have HD9 := hid (HD8.out.keep hkh)
              have HA := hid (HAl.out wh ((HKW3.out.trans HKW4.out).trans (HKF.out.trans hkh)))
              clear hkh HS1 HAl
              go_wp2_with fail
              refine HA.out.mono ?_
              rintro e wi ⟨rfl, hki⟩
              have HKI := hid (HKH.out.trans hki); have HD10 := hid (HD9.out.keep hki)
              obtain ⟨q0, q1⟩ := HD10.out.cells
              clear hki HA
              go_wp2_with fail
              refine (HXV.out _ _ HD10.out.2).mono ?_
              rintro e wj ⟨rfl, hkj⟩
              have HKJ := hid (HKI.out.trans hkj)
              clear hkj q0 q1
              go_wp2_with fail
              go_ret
              exact ⟨rfl, ((HKW.out.trans HKW3.out).trans HKW4.out).trans HKJ.out⟩
      · have t3 : decide (700 < i) = true := by simp; omega
        have t3' : decide ((700 : Int) < (i : Int)) = true := by simp; omega
        clear hn3
        go_wp2_with fail
        have hk : Keeps (fun _ => False) w (w1.alloc (.cells #[.bool n1, .slice a1 l1 c1] 24)) := HK1.out.alloc _
        have HKK := hid hk
        have HG2 := hid (HG.out.keep hk (fun _ _ h => h))
        clear hk
        refine (bigAlive_true _ HG2.out).mono ?_
        rintro e w3 ⟨rfl, hk3⟩
        have HK3 := hid hk3
        clear hk3
        go_wp2_with fail
        go_ret
        exact ⟨rfl, HKK.out.trans HK3.out⟩
    · go_wp2_with fail
      have hk : Keeps (fun _ => False) w (w1.alloc (.cells #[.bool n1, .slice a1 l1 c1] 24)) := HK1.out.alloc _
      have HKK := hid hk
      have HG2 := hid (HG.out.keep hk (fun _ _ h => h))
      clear hk
      refine (bigAlive_true _ HG2.out).mono ?_
      rintro e w3 ⟨rfl, hk3⟩
      have HK3 := hid hk3
      clear hk3
      go_wp2_with fail
      go_ret
      exact ⟨rfl, HKK.out.trans HK3.out⟩
  · go_enter Tryz.func13, Tryz.ntmps13
    go_wp2_with fail
    go_ret
    exact ⟨rfl, Keeps.refl _ _⟩
end Go.Proofs
