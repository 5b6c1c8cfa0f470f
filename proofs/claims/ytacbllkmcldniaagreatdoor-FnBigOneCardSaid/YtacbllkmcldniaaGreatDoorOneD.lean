/- Parts of the proofs over the numbers of any length: NumB0, Fr, RootP, TenN, Power48, Root. -/
import Derived.Deep.RegionHeld3
import Derived.Test.YtacbllkmcldniaaGreatDoorShiftD
import Derived.Test.YtacbllkmcldniaaGreatDoorSpecD
import Derived.Test.YtacbllkmcldniaaGreatDoorSpecB
import Derived.Test.YtacbllkmcldniaaGreatDoorBaseD
import Derived.Test.YtacbllkmcldniaaGreatDoorSpecA
import Derived.Test.YtacbllkmcldniaaGreatDoorOneB
set_option linter.unusedSimpArgs false
set_option linter.unusedVariables false
namespace Go.Proofs
open Go.RowKit
set_option maxHeartbeats 1600000
set_option linter.unusedVariables false
set_option linter.unusedSimpArgs false
set_option maxRecDepth 100000

theorem RowAt.num {w : World} {p : Nat} {x y : Value} (h : RowAt w p 24 [x, y]) : w.cell? ⟨p, 0, none⟩ = some x ∧ w.cell? ⟨p, 1, none⟩ = some y := ⟨h.cell 0, h.cell 1⟩
theorem Txt.lt {s : ByteArray} {z : Int} (h : Txt s z) : z.natAbs < 10 ^ 200 := by
  obtain ⟨n, l, d, ht, rfl, _⟩ := h
  rw [numZ_abs]
  have h1 := dval_lt (fun k hk => (ht.dig.2 k hk).1)
  have h2 := ht.dig.1
  have h3 := ht.size
  exact Nat.lt_of_lt_of_le h1 (Nat.pow_le_pow_right (by omega) (by omega))
/-- A number of the reference in a block of its own, its parts under names. -/
def NumB (w : World) (p : Nat) (n : Bool) (a : Option Addr) (l c : Nat) (z : Int) : Prop := RowAt w p 24 [.bool n, .slice a l c] ∧ ∀ b, (∀ k, InB a k → b ≤ k) → NumV w b (.agg #[.bool n, .slice a l c]) z
theorem NumB.v {w : World} {p : Nat} {n : Bool} {a : Option Addr} {l c : Nat} {z : Int} (h : NumB w p n a l c z) : NumV w 0 (.agg #[.bool n, .slice a l c]) z := h.2 0 (fun _ _ => Nat.zero_le _)
theorem NumB.keep {w w' : World} {p : Nat} {n : Bool} {a : Option Addr} {l c : Nat} {z : Int} (h : NumB w p n a l c z) (hk : Keeps (fun _ => False) w w') : NumB w' p n a l c z :=
  ⟨hk.row h.1 (fun h => h), fun b hb => (h.2 b hb).keep hk (fun _ _ h => h)⟩
theorem NumB.cells {w : World} {p : Nat} {n : Bool} {a : Option Addr} {l c : Nat} {z : Int} (h : NumB w p n a l c z) : w.cell? ⟨p, 0, none⟩ = some (.bool n) ∧ w.cell? ⟨p, 1, none⟩ = some (.slice a l c) := h.1.num
/-- A number that a call gave, its parts under names. -/
theorem NumV.parts {w : World} {b : Nat} {v : Value} {z : Int} (h : NumV w b v z) : ∃ n a l c, v = .agg #[.bool n, .slice a l c] ∧ (∀ w', Keeps (fun _ => False) w w' → ∀ b, (∀ k, InB a k → b ≤ k) → NumV w' b (.agg #[.bool n, .slice a l c]) z) := by
  obtain ⟨a, c, rfl, hr, _⟩ := h
  exact ⟨_, a, _, c, rfl, fun w' hk b hb => ⟨a, c, rfl, hr.keep hk (fun _ _ h => h), hb⟩⟩
theorem NumB.new {w : World} {n : Bool} {a : Option Addr} {l c : Nat} {z : Int} (h : ∀ w', Keeps (fun _ => False) w w' → ∀ b, (∀ k, InB a k → b ≤ k) → NumV w' b (.agg #[.bool n, .slice a l c]) z) : NumB (w.alloc (.cells #[.bool n, .slice a l c] 24)) w.heap.size n a l c z :=
  ⟨RowAt.new w 24 [.bool n, .slice a l c], h _ ((Keeps.refl _ w).alloc _)⟩
theorem digs_lt {z : Int} {k : Nat} (h : z.natAbs < 10 ^ k) (hk : k ≤ 40000) : (digs z.natAbs).length ≤ 40000 := Nat.le_trans (digs_len h) hk

theorem RdV.keepR {w w' : World} {a : Option Addr} {c : Nat} {L : List Nat} {p : Nat} {n : Bool} {v : Value} (h : RdV w a c L) (hr : RowAt w p 24 [.bool n, v]) (hk : Keeps (fun k => k = p) w w') : RdV w' a c L := by
  obtain ⟨h1, h2, h3⟩ := h
  refine ⟨h1, h2, ?_⟩
  rcases h3 with h3 | ⟨b, h3, h4⟩
  · exact .inl h3
  · refine .inr ⟨b, h3, fun i hi => ?_⟩
    have h0 := h4 0 (by omega)
    have hne : b ≠ p := by
      rintro rfl
      have h5 := hr.cell 0
      simp only [List.getElem?_cons_zero] at h5
      rw [h0] at h5
      cases h5
    have hlt := World.block_lt_of_cell? w ⟨b, 0, none⟩ h0
    exact (cell_of_block (p := ⟨b, i, none⟩) (hk.block b hlt hne)).trans (h4 i hi)
theorem NumV.keepR {w w' : World} {base p : Nat} {vz v : Value} {z : Int} {n : Bool} (h : NumV w base vz z) (hr : RowAt w p 24 [.bool n, v]) (hk : Keeps (fun k => k = p) w w') : NumV w' base vz z := by
  obtain ⟨a, c, h1, h2, h3⟩ := h
  exact ⟨a, c, h1, h2.keepR hr hk, h3⟩


end Go.Proofs
namespace Go.Proofs
open Go.RowKit
set_option maxHeartbeats 1600000
set_option linter.unusedVariables false
set_option linter.unusedSimpArgs false
set_option maxRecDepth 100000

/-- A variable that was just made. -/
def Fr (w : World) (p : Nat) : Prop := RowAt w p 24 [.bool false, .slice none 0 0]
theorem Fr.keep {w w' : World} {p : Nat} (h : Fr w p) (hk : Keeps (fun _ => False) w w') : Fr w' p := hk.row h (fun h => h)
theorem Fr.facts {w : World} {p : Nat} (h : Fr w p) : w.cell? ⟨p, 0, none⟩ = some (.bool false) ∧ w.cell? ⟨p, 1, none⟩ = some (.slice none 0 0) ∧ w.frozen? ⟨p, 0, none⟩ = false ∧ w.frozen? ⟨p, 1, none⟩ = false := ⟨h.cell 0, h.cell 1, h.frozen 0, h.frozen 1⟩
theorem Fr.new (w : World) : Fr (w.alloc (.cells #[.bool false, .slice none 0 0] 24)) w.heap.size := RowAt.new w 24 [.bool false, .slice none 0 0]
theorem Fr.new2 (w : World) : Fr ((w.alloc (.cells #[.bool false, .slice none 0 0] 24)).alloc (.cells #[.bool false, .slice none 0 0] 24)) w.heap.size ∧ Fr ((w.alloc (.cells #[.bool false, .slice none 0 0] 24)).alloc (.cells #[.bool false, .slice none 0 0] 24)) (w.heap.size + 1) := by
  refine ⟨RowAt.alloc (Fr.new w) _, ?_⟩
  have := Fr.new (w.alloc (.cells #[.bool false, .slice none 0 0] 24))
  rwa [show (w.alloc (.cells #[.bool false, .slice none 0 0] 24)).heap.size = w.heap.size + 1 by simp] at this
theorem Keeps.new {w w' : World} (h : Keeps (fun _ => False) w w') (o : Obj) : Keeps (fun _ => False) w (w'.alloc o) := h.alloc o

theorem NumV.setRow {w : World} {b : Nat} {v : Value} {z : Int} (h : NumV w b v z) {p : Nat} {n : Bool} {u : Value} (hr : RowAt w p 24 [.bool n, u]) (o : Nat) (x : Value) : NumV (w.setCell ⟨p, o, none⟩ x) b v z := h.keepR hr (Keeps.set1 w p o x)
theorem NumV.setRow2 {w : World} {b : Nat} {v : Value} {z : Int} (h : NumV w b v z) {p : Nat} {n m : Bool} {u s : Value} (hr : RowAt w p 24 [.bool n, u]) : NumV ((w.setCell ⟨p, 0, none⟩ (.bool m)).setCell ⟨p, 1, none⟩ s) b v z ∧ RowAt ((w.setCell ⟨p, 0, none⟩ (.bool m)).setCell ⟨p, 1, none⟩ s) p 24 [.bool m, s] := by
  have h1 : RowAt (w.setCell ⟨p, 0, none⟩ (.bool m)) p 24 [.bool m, u] := by simpa using hr.set 0 (.bool m)
  exact ⟨(h.setRow hr 0 _).setRow h1 1 s, by simpa using h1.set 1 s⟩
theorem RowAt.other2 {w : World} {p q : Nat} {t : TypeId} {vs : List Value} {x y : Value} (h : RowAt w q t vs) (hpq : p ≠ q) : RowAt ((w.setCell ⟨p, 0, none⟩ x).setCell ⟨p, 1, none⟩ y) q t vs := (h.other (p := ⟨p, 0, none⟩) hpq x).other (p := ⟨p, 1, none⟩) hpq y
/-- A variable with a number, its parts under names. -/
def NumD (w : World) (p : Nat) (n : Bool) (a : Option Addr) (l c : Nat) (z : Int) : Prop := RowAt w p 24 [.bool n, .slice a l c] ∧ NumV w 0 (.agg #[.bool n, .slice a l c]) z
theorem NumD.keep {w w' : World} {p : Nat} {n : Bool} {a : Option Addr} {l c : Nat} {z : Int} (h : NumD w p n a l c z) (hk : Keeps (fun _ => False) w w') : NumD w' p n a l c z := ⟨hk.row h.1 (fun h => h), h.2.keep hk (fun _ _ h => h)⟩
theorem NumD.set2 {w : World} {p : Nat} {n m : Bool} {a a' : Option Addr} {l c l' c' : Nat} {z z' : Int} (h : NumD w p n a l c z) (h' : NumV w 0 (.agg #[.bool m, .slice a' l' c']) z') : NumD ((w.setCell ⟨p, 0, none⟩ (.bool m)).setCell ⟨p, 1, none⟩ (.slice a' l' c')) p m a' l' c' z' := ⟨(h'.setRow2 h.1).2, (h'.setRow2 h.1).1⟩
theorem NumB.d {w : World} {p : Nat} {n : Bool} {a : Option Addr} {l c : Nat} {z : Int} (h : NumB w p n a l c z) : NumD w p n a l c z := ⟨h.1, h.v⟩
theorem NumD.cells {w : World} {p : Nat} {n : Bool} {a : Option Addr} {l c : Nat} {z : Int} (h : NumD w p n a l c z) : w.cell? ⟨p, 0, none⟩ = some (.bool n) ∧ w.cell? ⟨p, 1, none⟩ = some (.slice a l c) := ⟨h.1.cell 0, h.1.cell 1⟩
theorem NumD.frozen {w : World} {p : Nat} {n : Bool} {a : Option Addr} {l c : Nat} {z : Int} (h : NumD w p n a l c z) : w.frozen? ⟨p, 0, none⟩ = false ∧ w.frozen? ⟨p, 1, none⟩ = false := ⟨h.1.frozen 0, h.1.frozen 1⟩
theorem NumB.new2 {w : World} {n m : Bool} {a a' : Option Addr} {l c l' c' : Nat} {z z' : Int} (h : ∀ w', Keeps (fun _ => False) w w' → ∀ b, (∀ k, InB a k → b ≤ k) → NumV w' b (.agg #[.bool n, .slice a l c]) z)
    (h' : ∀ w', Keeps (fun _ => False) w w' → ∀ b, (∀ k, InB a' k → b ≤ k) → NumV w' b (.agg #[.bool m, .slice a' l' c']) z') :
    NumB ((w.alloc (.cells #[.bool n, .slice a l c] 24)).alloc (.cells #[.bool m, .slice a' l' c'] 24)) w.heap.size n a l c z ∧ NumB ((w.alloc (.cells #[.bool n, .slice a l c] 24)).alloc (.cells #[.bool m, .slice a' l' c'] 24)) (w.heap.size + 1) m a' l' c' z' := by
  refine ⟨(NumB.new h).keep ((Keeps.refl _ _).alloc _), ?_⟩
  have := NumB.new (w := w.alloc (.cells #[.bool n, .slice a l c] 24)) (fun w' hk b hb => h' w' (((Keeps.refl _ w).alloc _).trans hk) b hb)
  rwa [show (w.alloc (.cells #[.bool n, .slice a l c] 24)).heap.size = w.heap.size + 1 by simp] at this


/-- A variable with a number whose digits lie from a block on. -/
def NumE (w : World) (b p : Nat) (z : Int) : Prop := ∃ n a l c, RowAt w p 24 [.bool n, .slice a l c] ∧ NumV w b (.agg #[.bool n, .slice a l c]) z
theorem NumE.keep {w w' : World} {b p : Nat} {z : Int} (h : NumE w b p z) (hk : Keeps (fun _ => False) w w') : NumE w' b p z := by
  obtain ⟨n, a, l, c, h1, h2⟩ := h
  exact ⟨n, a, l, c, hk.row h1 (fun h => h), h2.keep hk (fun _ _ h => h)⟩
theorem NumE.other {w : World} {b p q : Nat} {z : Int} (h : NumE w b p z) (hpq : q ≠ p) {n m : Bool} {u s : Value} (hr : RowAt w q 24 [.bool n, u]) : NumE ((w.setCell ⟨q, 0, none⟩ (.bool m)).setCell ⟨q, 1, none⟩ s) b p z := by
  obtain ⟨n, a, l, c, h1, h2⟩ := h
  exact ⟨n, a, l, c, RowAt.other2 h1 hpq, (h2.setRow2 hr).1⟩
theorem NumE.made {w : World} {b p : Nat} {n m : Bool} {u : Value} {a : Option Addr} {l c : Nat} {z : Int} (hr : RowAt w p 24 [.bool n, u]) (hv : NumV w b (.agg #[.bool m, .slice a l c]) z) : NumE ((w.setCell ⟨p, 0, none⟩ (.bool m)).setCell ⟨p, 1, none⟩ (.slice a l c)) b p z :=
  ⟨m, a, l, c, (hv.setRow2 hr).2, (hv.setRow2 hr).1⟩
theorem NumE.new {w : World} {b : Nat} {m : Bool} {a : Option Addr} {l c : Nat} {z : Int} (hv : NumV w b (.agg #[.bool m, .slice a l c]) z) : NumE (w.alloc (.cells #[.bool m, .slice a l c] 24)) b w.heap.size z :=
  ⟨m, a, l, c, RowAt.new w 24 [.bool m, .slice a l c], hv.keep ((Keeps.refl _ w).alloc _) (fun _ _ h => h)⟩
theorem NumE.lt {w : World} {b p : Nat} {z : Int} (h : NumE w b p z) : p < w.heap.size := by
  obtain ⟨n, a, l, c, h1, h2⟩ := h
  exact h1.lt
/-- Two variables of their own, a number in each. -/
def TwoC (w4 : World) (b : Nat) (z1 z2 : Int) (u v : Value) (wx : World) : Prop := ∃ p q, u = .pointer (some ⟨p, 0, none⟩) ∧ v = .pointer (some ⟨q, 0, none⟩) ∧ p ≠ q ∧ w4.heap.size ≤ p ∧ w4.heap.size ≤ q ∧ NumE wx b p z1 ∧ NumE wx b q z2 ∧ Keeps (fun _ => False) w4 wx
theorem TwoC.symm {w4 : World} {b : Nat} {z1 z2 : Int} {u v : Value} {wx : World} (h : TwoC w4 b z1 z2 u v wx) : TwoC w4 b z2 z1 v u wx := by
  obtain ⟨p, q, h1, h2, h3, h4, h5, h6, h7, h8⟩ := h
  exact ⟨q, p, h2, h1, Ne.symm h3, h5, h4, h7, h6, h8⟩
theorem two_A {w4 w6 : World} {b p q : Nat} {n6 n7 : Bool} {a6 a7 : Option Addr} {l6 c6 l7 c7 : Nat} {z1 z2 : Int} (K6 : Keeps (fun _ => False) w4 w6) (V6 : NumV w6 b (.agg #[.bool n6, .slice a6 l6 c6]) z1) (V7 : NumV w6 b (.agg #[.bool n7, .slice a7 l7 c7]) z2)
    (hp : w4.heap.size ≤ p) (hq : w4.heap.size ≤ q) (h1 : Fr w6 p) (h2 : Fr w6 q) (hpq : p ≠ q) :
    TwoC w4 b z1 z2 (.pointer (some ⟨p, 0, none⟩)) (.pointer (some ⟨q, 0, none⟩)) ((((w6.setCell ⟨p, 0, none⟩ (.bool n6)).setCell ⟨p, 1, none⟩ (.slice a6 l6 c6)).setCell ⟨q, 0, none⟩ (.bool n7)).setCell ⟨q, 1, none⟩ (.slice a7 l7 c7)) := by
  have e1 := NumE.made h1 V6
  have f2 := RowAt.other2 (x := .bool n6) (y := .slice a6 l6 c6) h2 hpq
  have v7 := (V7.setRow2 h1 (m := n6) (s := .slice a6 l6 c6)).1
  exact ⟨p, q, rfl, rfl, hpq, hp, hq, e1.other (Ne.symm hpq) f2, NumE.made f2 v7, (((K6.setCell _ (.inr hp) _).setCell _ (.inr hp) _).setCell _ (.inr hq) _).setCell _ (.inr hq) _⟩
theorem two_B {w4 w6 : World} {b p : Nat} {n6 n7 : Bool} {a6 a7 : Option Addr} {l6 c6 l7 c7 : Nat} {z1 z2 : Int} (K6 : Keeps (fun _ => False) w4 w6) (V6 : NumV w6 b (.agg #[.bool n6, .slice a6 l6 c6]) z1) (V7 : NumV w6 b (.agg #[.bool n7, .slice a7 l7 c7]) z2)
    (hp : w4.heap.size ≤ p) (h1 : Fr w6 p) :
    TwoC w4 b z1 z2 (.pointer (some ⟨p, 0, none⟩)) (.pointer (some ⟨w6.heap.size, 0, none⟩)) (((w6.setCell ⟨p, 0, none⟩ (.bool n6)).setCell ⟨p, 1, none⟩ (.slice a6 l6 c6)).alloc (.cells #[.bool n7, .slice a7 l7 c7] 24)) := by
  have e1 := NumE.made h1 V6
  have v7 := (V7.setRow2 h1 (m := n6) (s := .slice a6 l6 c6)).1
  have hs : ((w6.setCell ⟨p, 0, none⟩ (.bool n6)).setCell ⟨p, 1, none⟩ (.slice a6 l6 c6)).heap.size = w6.heap.size := by simp
  have e2 := NumE.new v7
  rw [hs] at e2
  exact ⟨p, w6.heap.size, rfl, rfl, Nat.ne_of_lt (RowAt.lt h1), hp, K6.size, e1.keep ((Keeps.refl _ _).alloc _), e2, ((K6.setCell _ (.inr hp) _).setCell _ (.inr hp) _).alloc _⟩
theorem two_C {w4 w6 : World} {b q : Nat} {n6 n7 : Bool} {a6 a7 : Option Addr} {l6 c6 l7 c7 : Nat} {z1 z2 : Int} (K6 : Keeps (fun _ => False) w4 w6) (V6 : NumV w6 b (.agg #[.bool n6, .slice a6 l6 c6]) z1) (V7 : NumV w6 b (.agg #[.bool n7, .slice a7 l7 c7]) z2)
    (hq : w4.heap.size ≤ q) (h2 : Fr w6 q) :
    TwoC w4 b z1 z2 (.pointer (some ⟨w6.heap.size, 0, none⟩)) (.pointer (some ⟨q, 0, none⟩)) (((w6.alloc (.cells #[.bool n6, .slice a6 l6 c6] 24)).setCell ⟨q, 0, none⟩ (.bool n7)).setCell ⟨q, 1, none⟩ (.slice a7 l7 c7)) := by
  have e1 := NumE.new V6
  have hlt := RowAt.lt h2
  have f2 := RowAt.alloc h2 (.cells #[.bool n6, .slice a6 l6 c6] 24)
  have v7 := V7.keep ((Keeps.refl (fun _ => False) w6).alloc (.cells #[.bool n6, .slice a6 l6 c6] 24)) (fun _ _ h => h)
  exact ⟨w6.heap.size, q, rfl, rfl, by omega, K6.size, hq, e1.other (by omega) f2, NumE.made f2 v7, ((K6.alloc _).setCell _ (.inr hq) _).setCell _ (.inr hq) _⟩
theorem two_D {w4 w6 : World} {b : Nat} {n6 n7 : Bool} {a6 a7 : Option Addr} {l6 c6 l7 c7 : Nat} {z1 z2 : Int} (K6 : Keeps (fun _ => False) w4 w6) (V6 : NumV w6 b (.agg #[.bool n6, .slice a6 l6 c6]) z1) (V7 : NumV w6 b (.agg #[.bool n7, .slice a7 l7 c7]) z2) :
    TwoC w4 b z1 z2 (.pointer (some ⟨w6.heap.size, 0, none⟩)) (.pointer (some ⟨w6.heap.size + 1, 0, none⟩)) ((w6.alloc (.cells #[.bool n6, .slice a6 l6 c6] 24)).alloc (.cells #[.bool n7, .slice a7 l7 c7] 24)) := by
  have e1 := NumE.new V6
  have v7 := V7.keep ((Keeps.refl (fun _ => False) w6).alloc (.cells #[.bool n6, .slice a6 l6 c6] 24)) (fun _ _ h => h)
  have e2 := NumE.new v7
  have hs : (w6.alloc (.cells #[.bool n6, .slice a6 l6 c6] 24)).heap.size = w6.heap.size + 1 := by simp
  rw [hs] at e2
  exact ⟨w6.heap.size, w6.heap.size + 1, rfl, rfl, by omega, K6.size, by have := K6.size; omega, e1.keep ((Keeps.refl _ _).alloc _), e2, (K6.alloc _).alloc _⟩
/-- What every call of the reference gives. -/
theorem NumV.agg {w : World} {b : Nat} {v : Value} {z : Int} (h : NumV w b v z) : ∃ n a l c, v = .agg #[.bool n, .slice a l c] := by
  obtain ⟨a, c, rfl, _⟩ := h
  exact ⟨_, a, _, c, rfl⟩
theorem NumE.facts {w : World} {b p : Nat} {z : Int} (h : NumE w b p z) : ∃ n a l c, w.cell? ⟨p, 0, none⟩ = some (.bool n) ∧ w.cell? ⟨p, 1, none⟩ = some (.slice a l c) ∧ w.frozen? ⟨p, 0, none⟩ = false ∧ w.frozen? ⟨p, 1, none⟩ = false ∧ RowAt w p 24 [.bool n, .slice a l c] ∧ NumV w b (.agg #[.bool n, .slice a l c]) z := by
  obtain ⟨n, a, l, c, h1, h2⟩ := h
  exact ⟨n, a, l, c, h1.cell 0, h1.cell 1, h1.frozen 0, h1.frozen 1, h1, h2⟩
end Go.Proofs
namespace Go.Proofs
open Go.RowKit
set_option maxHeartbeats 400000
set_option linter.unusedVariables false
set_option linter.unusedSimpArgs false
set_option maxRecDepth 100000

theorem bis_lt {lo hi x : Nat} (h1 : lo * lo ≤ x) (h2 : x < hi * hi) : lo < hi := by
  rcases Nat.lt_or_ge lo hi with h | h
  · exact h
  · have := Nat.mul_le_mul h h
    omega
theorem bis_done {lo hi x : Nat} (h1 : lo * lo ≤ x) (h2 : x < hi * hi) (hm : (lo + hi) / 2 = lo) : lo = rootN x := by
  have hlt := bis_lt h1 h2
  have : hi = lo + 1 := by omega
  subst this
  exact IsRoot.unique ⟨h1, h2⟩ (rootN_is x)
theorem bis_mid {lo hi x : Nat} (h1 : lo * lo ≤ x) (h2 : x < hi * hi) (hm : (lo + hi) / 2 ≠ lo) : lo < (lo + hi) / 2 ∧ (lo + hi) / 2 < hi := by
  have hlt := bis_lt h1 h2
  omega
theorem bis_start (x : Nat) : x < 10 ^ ((digs x).length / 2 + 1) * 10 ^ ((digs x).length / 2 + 1) := by
  rw [← Nat.pow_add]
  exact Nat.lt_of_lt_of_le (lt_digs x) (Nat.pow_le_pow_right (by omega) (by omega))

theorem RdV.inj {w : World} {a : Option Addr} {c : Nat} {L M : List Nat} (h : RdV w a c L) (k : RdV w a c M) (hl : L.length = M.length) : L = M := by
  rcases h.2.2 with rfl | ⟨b, rfl, hc⟩
  · exact (List.length_eq_zero_iff.1 hl.symm).symm
  · rcases k.2.2 with rfl | ⟨b', he, kc⟩
    · exact List.length_eq_zero_iff.1 hl
    · cases he
      apply List.ext_getElem hl
      intro i h1 h2
      have := (hc i h1).symm.trans (kc i h2)
      simp only [Option.some.injEq, Value.int.injEq, true_and] at this
      simp only [List.getD_eq_getElem?_getD, List.getElem?_eq_getElem h1, List.getElem?_eq_getElem h2, Option.getD_some] at this
      omega
theorem NumV.inj {w : World} {b b' : Nat} {v : Value} {z z' : Int} (h : NumV w b v z) (k : NumV w b' v z') : z = z' := by
  obtain ⟨a, c, rfl, h2, _⟩ := h
  obtain ⟨a', c', he, k2, _⟩ := k
  simp only [Value.agg.injEq, Array.mk.injEq, List.cons.injEq, Value.bool.injEq, Value.slice.injEq, and_true] at he
  obtain ⟨e1, rfl, e3, rfl⟩ := he
  have e4 := digs_inj (RdV.inj h2 k2 e3)
  have e5 : (z < 0) ↔ (z' < 0) := by simpa using e1
  omega
/-- The number that a variable holds. -/
def NumP (w : World) (p : Nat) (z : Int) : Prop := ∃ b, NumE w b p z
theorem NumP.inj {w : World} {p : Nat} {z z' : Int} (h : NumP w p z) (k : NumP w p z') : z = z' := by
  obtain ⟨b, n, a, l, c, h1, h2⟩ := h
  obtain ⟨b', n', a', l', c', k1, k2⟩ := k
  have e0 := (h1.cell 0).symm.trans (k1.cell 0)
  have e1 := (h1.cell 1).symm.trans (k1.cell 1)
  simp only [List.getElem?_cons_zero, List.getElem?_cons_succ, Option.some.injEq, Value.bool.injEq, Value.slice.injEq] at e0 e1
  subst e0
  obtain ⟨rfl, rfl, rfl⟩ := e1
  exact h2.inj k2
noncomputable def zOf (w : World) (p : Nat) : Int := by
  classical exact if h : ∃ z, NumP w p z then Classical.choose h else 0
theorem zOf_eq {w : World} {b p : Nat} {z : Int} (h : NumE w b p z) : zOf w p = z := by
  unfold zOf
  have hx : ∃ z, NumP w p z := ⟨z, b, h⟩
  rw [dif_pos hx]
  exact (Classical.choose_spec hx).inj ⟨b, h⟩
theorem cmp30_z (vx vy : Value) (x y : Int) (bx b' : Nat) (w : World) (hx : NumV w bx vx x) (hy : NumV w b' vy y) (hlx : (digs x.natAbs).length ≤ 40000) (hly : (digs y.natAbs).length ≤ 40000) :
    Calls Tryz.prog 30 #[vx, vy] w fun e w' => e = .returned (.int .i64 (cmpZ x y)) ∧ Keeps (fun _ => False) w w' := by
  obtain ⟨a, c, rfl, hr, _⟩ := hx
  obtain ⟨a', c', rfl, hr', _⟩ := hy
  have := cmp30_any (decide (x < 0)) (decide (y < 0)) a a' c c' _ _ w hr hr' (by omega) (by omega)
  rwa [cmpN_z] at this
theorem cmp_eq0 (x y : Nat) : ((cmpZ (x : Int) (y : Int)) == 0) = decide (x = y) := by
  unfold cmpZ
  by_cases h : x = y
  · subst h; simp
  · rcases Nat.lt_or_ge x y with h1 | h1
    · rw [if_pos (by omega)]; simp [h]
    · rw [if_neg (by omega), if_pos (by omega)]; simp [h]
theorem cmp_le0 (x y : Nat) : decide ((cmpZ (x : Int) (y : Int)) ≤ 0) = decide (x ≤ y) := by
  unfold cmpZ
  by_cases h : x < y
  · rw [if_pos (by omega)]
    have : x ≤ y := by omega
    simp [this]
  · by_cases h2 : y < x
    · rw [if_neg (by omega), if_pos (by omega)]
      have : ¬ x ≤ y := by omega
      simp [this]
    · rw [if_neg (by omega), if_neg (by omega)]
      have : x ≤ y := by omega
      simp [this]
end Go.Proofs
namespace Go.Proofs
open Go.RowKit
set_option maxHeartbeats 1600000
set_option linter.unusedVariables false
set_option linter.unusedSimpArgs false
set_option maxRecDepth 100000

theorem digs_pow10 (n : Nat) : digs (10 ^ n) = List.replicate n 0 ++ [1] := by
  induction n with
  | zero => rw [digs_pos (by decide)]; simp [digs_zero]
  | succ n ih =>
    have h0 : 10 ^ (n + 1) ≠ 0 := Nat.ne_of_gt (Nat.pow_pos (by omega))
    rw [digs_pos h0, show 10 ^ (n + 1) % 10 = 0 by rw [Nat.pow_succ]; omega, show 10 ^ (n + 1) / 10 = 10 ^ n by rw [Nat.pow_succ]; omega, ih]
    rfl
theorem set_last (n : Nat) : (List.replicate (n + 1) 0).set n 1 = List.replicate n 0 ++ [1] := by
  apply List.ext_getElem
  · simp
  · intro i h1 h2
    rw [List.getElem_set]
    by_cases h : n = i
    · subst h; simp
    · rw [if_neg h]
      simp at h1
      rw [List.getElem_append_left (by simp; omega)]
      simp

theorem ten_arr (n : Nat) : (Array.replicate (n + 1) (Value.int .u8 0)).setIfInBounds n (.int .u8 1) = ((List.replicate n 0 ++ [1]).map bv).toArray := by
  apply Array.ext'
  rw [← set_last, List.map_set, List.map_replicate]
  simp [bv]
theorem ten182 (n : Nat) (w : World) (hn : n ≤ 10000) : Calls Tryz.prog 182 #[.int .i64 (n : Int)] w (NRes w ((10 ^ n : Nat) : Int)) := by
  obtain ⟨i5, hi5, hz0, hz1, hz2⟩ := info_parts info5
  have gw : wrap64 ((n : Int) + 1) = ((n + 1 : Nat) : Int) := by unfold wrap64; omega
  have gw2 : IntKind.i64.wrap ((n : Int) + 1) = ((n + 1 : Nat) : Int) := by rw [IntKind.wrap_i64]; omega
  obtain ⟨S, hS⟩ : ∃ S, S = Value.slice (some ⟨w.heap.size + 1, 0, none⟩) (n + 1) (n + 1) := ⟨_, rfl⟩
  obtain ⟨wf, hwf⟩ : ∃ W, W = (w.alloc (.cells #[.bool false, S] 24)).alloc (.cells ((Array.replicate (n + 1) (Value.int .u8 0)).setIfInBounds n (.int .u8 1)) 5) := ⟨_, rfl⟩
  have hkf : Keeps (fun _ => False) w wf := by rw [hwf]; exact ((Keeps.refl _ w).alloc _).alloc _
  have hr : RowAt wf w.heap.size 24 [.bool false, S] := by rw [hwf]; exact RowAt.alloc (RowAt.new w 24 _) _
  have hrow : RowAt wf (w.heap.size + 1) 5 ((List.replicate n 0 ++ [1]).map bv) := by
    have h := RowAt.new (w.alloc (.cells #[.bool false, S] 24)) 5 ((List.replicate n 0 ++ [1]).map bv)
    rw [show (w.alloc (.cells #[.bool false, S] 24)).heap.size = w.heap.size + 1 by simp] at h
    rw [hwf, ten_arr]
    exact h
  have hneg : decide ((((10 ^ n : Nat) : Int)) < 0) = false := by
    obtain ⟨N, hN⟩ : ∃ N, N = 10 ^ n := ⟨_, rfl⟩
    rw [← hN]
    simp
  have hnv : NumV wf w.heap.size (.agg #[.bool false, S]) ((10 ^ n : Nat) : Int) := by
    refine ⟨some ⟨w.heap.size + 1, 0, none⟩, n + 1, ?_, ?_, fun k ⟨o, ho⟩ => by cases ho; omega⟩
    · rw [hneg, Int.natAbs_natCast, digs_pow10, hS]; simp
    · rw [Int.natAbs_natCast, digs_pow10]
      refine ⟨by simp, .inr ⟨_, rfl⟩, .inr ⟨_, rfl, fun i hi => ?_⟩⟩
      rw [hrow.cell, List.getElem?_map, List.getElem?_eq_getElem hi]
      simp [bv, List.getElem?_eq_getElem hi]
  have HNV := hid hnv; have HKF := hid hkf; have HR := hid hr; have HWF := hid hwf; have HS := hid hS
  clear hr hrow hneg hnv hkf hwf hS
  go_enter Tryz.func182, Tryz.ntmps182
  go_wp2_with (at_make; refine wpList_mk rfl _ _ _ rfl 5 i5 (.int .u8 0) (by kernel_rfl) hi5 hz0 hz1 (by rw [hz2]; omega) rfl .i64 .i64 _ _ (n + 1) (n + 1) rfl rfl (by push_cast; rfl) (by push_cast; rfl) (Nat.le_refl _) (by omega) ?_)
  rw [← HS.out, ← HWF.out]
  obtain ⟨e0, e1, _, _⟩ := RowAt.facts2 HR.out
  refine bodyPost_ret (v := .agg #[.bool false, S]) ?_ rfl ⟨_, rfl, HNV.out, HKF.out⟩
  simp [results, Tryz.results182, go_sem, e0, e1]
end Go.Proofs
namespace Go.Proofs
open Go.RowKit
set_option maxHeartbeats 1600000
set_option linter.unusedVariables false
set_option linter.unusedSimpArgs false
set_option maxRecDepth 100000

theorem NumV.get {w : World} {b : Nat} {n : Bool} {a : Option Addr} {l c : Nat} {z : Int} (h : NumV w b (.agg #[.bool n, .slice a l c]) z) : RdV w a c (digs z.natAbs) ∧ (∀ k, InB a k → b ≤ k) ∧ l = (digs z.natAbs).length ∧ n = decide (z < 0) := by
  obtain ⟨a', c', he, g1, g2⟩ := h
  simp only [Value.agg.injEq, Array.mk.injEq, List.cons.injEq, Value.bool.injEq, Value.slice.injEq, and_true] at he
  obtain ⟨e1, e2, e3, e4⟩ := he
  subst e2; subst e4
  exact ⟨g1, g2, e3, e1⟩
theorem power48 (vx : Value) (x : Int) (bx n : Nat) (w : World) (hx : NumV w bx vx x) (hB : ∀ k, k ≤ n → (digs (x ^ k).natAbs).length ≤ 40000) (hlx : (digs x.natAbs).length ≤ 40000) (hn : n ≤ 1000000) :
    Calls Tryz.prog 48 #[vx, .int .i64 (n : Int)] w (NRes w (x ^ n)) := by
  obtain ⟨n1, a1, l1, c1, rfl, hpx⟩ := hx.parts
  obtain ⟨w0, hw0⟩ : ∃ W, W = (w.alloc (.cells #[.bool n1, .slice a1 l1 c1] 24)).alloc (.cells #[.bool false, .slice none 0 0] 24) := ⟨_, rfl⟩
  obtain ⟨p, hp⟩ : ∃ p, p = w.heap.size := ⟨_, rfl⟩
  have hk0 : Keeps (fun _ => False) w w0 := by rw [hw0]; exact ((Keeps.refl _ w).alloc _).alloc _
  have hrx : RowAt w0 p 24 [.bool n1, .slice a1 l1 c1] := by rw [hw0, hp]; exact RowAt.alloc (RowAt.new w 24 _) _
  have hrr : RowAt w0 (p + 1) 24 [.bool false, .slice none 0 0] := by
    have h := RowAt.new (w.alloc (.cells #[.bool n1, .slice a1 l1 c1] 24)) 24 [.bool false, .slice none 0 0]
    rw [show (w.alloc (.cells #[.bool n1, .slice a1 l1 c1] 24)).heap.size = p + 1 by rw [hp]; simp] at h
    rw [hw0]; exact h
  have hs0 : w0.heap.size = p + 2 := by rw [hw0, hp]; simp
  have HS0 := hid hs0
  clear hs0
  have HO := hid (of33 1 w0 (by omega) (by omega))
  have HK0 := hid hk0; have HRX := hid hrx; have HRR := hid hrr; have HP := hid hp; have HPX := hid hpx; have HB := hid hB; have HLX := hid hlx
  clear hk0 hrx hrr hpx hB hlx hx
  go_enter Tryz.func48, Tryz.ntmps48
  go_wp2_with fail
  rw [← hw0, ← hp]
  clear hw0 hp
  refine HO.out.mono ?_
  rintro e w1 ⟨v, rfl, hv, hk⟩
  obtain ⟨av, cv, rfl, hv1, hv2⟩ := hv
  obtain ⟨m1, hm1⟩ : ∃ n1, n1 = decide ((1 : Int) < 0) := ⟨_, rfl⟩
  obtain ⟨k1, hk1⟩ : ∃ l1, l1 = (digs (1 : Int).natAbs).length := ⟨_, rfl⟩
  rw [← hm1, ← hk1]
  have HV := hid hv1; have HV2 := hid hv2; have HK := hid (HK0.out.trans hk); have Hm1 := hid hm1; have Hk1 := hid hk1
  have HRX1 := hid (hk.row HRX.out (fun h => h)); have HRR1 := hid (hk.row HRR.out (fun h => h))
  clear hv1 hv2 hk hm1 hk1 HO
  go_wp2_with fail
  obtain ⟨q, hq⟩ : ∃ p, p = w1.heap.size := ⟨_, rfl⟩
  obtain ⟨W, hW⟩ : ∃ W, W = w1.alloc (.cells #[.bool m1, .slice av k1 cv] 24) := ⟨_, rfl⟩
  have hkW : Keeps (fun _ => False) w1 W := by rw [hW]; exact (Keeps.refl _ w1).alloc _
  have hN : NumC W (p + 2) q 1 := by
    refine ⟨av, cv, ?_, ?_⟩
    · rw [← Hm1.out, ← Hk1.out, hW, hq]; exact RowAt.new w1 24 _
    · exact ⟨av, cv, rfl, HV.out.keep hkW (fun _ _ h => h), fun k hk => by have := HV2.out k hk; have := HS0.out; omega⟩
  have hKW : Keeps (fun _ => False) w W := HK.out.trans hkW
  have hpq : p + 1 < q := by rw [hq]; exact HRR1.out.lt
  have hRX := hkW.row HRX1.out (fun h => h); have hRR := hkW.row HRR1.out (fun h => h)
  rw [← hq, ← hW]
  have HN := hid hN; have HKW := hid hKW; have Hpq := hid hpq; have HRXW := hid hRX; have HRRW := hid hRR
  clear hq hW hkW hN hKW hpq hRX hRR HV HV2 Hm1 Hk1 HK HRX HRR HRX1 HRR1
  go_loopw [1] (fun iv wr => ∃ m k : Nat, iv = .int .i64 (m : Int) ∧ k + m = n ∧ NumC wr (p + 2) q (x ^ k) ∧ RowAt wr p 24 [.bool n1, .slice a1 l1 c1] ∧ RowAt wr (p + 1) 24 [.bool false, .slice none 0 0] ∧ Keeps (fun _ => False) w wr) (fun iv _ => (intOf iv).toNat)
  case atStart => exact ⟨n, 0, rfl, by omega, by rw [Int.pow_zero]; exact HN.out, HRXW.out, HRRW.out, HKW.out⟩
  case round =>
    obtain ⟨m, k, rfl, hmk, hnum, hrx, hrr, hkr⟩ := hrel
    have HNr := hid hnum; have HKr := hid hkr; have HRXr := hid hrx; have HRRr := hid hrr; have HMK := hid hmk
    obtain ⟨ac, cc, hrow, hnv⟩ := HNr.out
    obtain ⟨c0, c1', f0, f1⟩ := NumC.facts (base := 0) (z := 0) hrow
    obtain ⟨x0, x1, _, _⟩ := NumC.facts (base := 0) (z := 0) hrx
    obtain ⟨_, _, r2, r3⟩ := NumC.facts (base := 0) (z := 0) hrr
    clear hnum hkr hrx hrr hmk
    by_cases h0 : m = 0
    · subst h0
      obtain ⟨z, hz⟩ : ∃ z, z = x ^ n := ⟨_, rfl⟩
      have hkn : k = n := by have := HMK.out; omega
      rw [hkn, ← hz] at hrow hnv c0 c1'
      obtain ⟨ng, hng⟩ : ∃ nz, nz = decide (z < 0) := ⟨_, rfl⟩
      obtain ⟨lz, hlz⟩ : ∃ lz, lz = (digs z.natAbs).length := ⟨_, rfl⟩
      rw [← hng, ← hlz] at hrow hnv
      rw [← hng] at c0
      rw [← hlz] at c1'
      have g1 := hnv.get.1
      have g2 := hnv.get.2.1
      have hne : ∀ k, InB ac k → w.heap.size ≤ k ∧ k ≠ p + 1 := fun k hk => by have := g2 k hk; have := HP.out; omega
      obtain ⟨hrf, hnv, hkf⟩ := num_done (w := w) (wr := wr) (p := p + 1) (z := z) (ng := ng) (a := ac) (l := lz) (c := cc) HRRr.out (by have := HP.out; omega) HKr.out g1 hne hlz hng
      have HRF := hid hrf; have HNV := hid hnv; have HKF := hid hkf; have HZ := hid hz
      clear hrow hng hlz hz g1 g2 hne hrf hnv hkf
      go_wp2_with fail
      obtain ⟨e0, e1, _, _⟩ := RowAt.facts2 HRF.out
      generalize ((wr.setCell ⟨p + 1, 0, none⟩ (.bool ng)).setCell ⟨p + 1, 1, none⟩ (.slice ac lz cc)) = wf at *
      refine bodyPost_ret (v := .agg #[.bool ng, .slice ac lz cc]) ?_ rfl ⟨_, rfl, (by rw [← HZ.out]; exact HNV.out), HKF.out⟩
      simp [results, Tryz.results48, go_sem, e0, e1]
    · have hmn : m ≤ n := by have := HMK.out; omega
      have t1 : decide ((0 : Int) < (m : Int)) = true := by simp; omega
      have t1' : decide (0 < m) = true := by simp; omega
      have gw : wrap64 ((m : Int) - 1) = ((m - 1 : Nat) : Int) := by unfold wrap64; omega
      have gw2 : IntKind.i64.wrap ((m : Int) - 1) = ((m - 1 : Nat) : Int) := by rw [IntKind.wrap_i64]; omega
      have HMl : Hid (Calls Tryz.prog 27 #[.agg #[.bool (decide (x ^ k < 0)), .slice ac (digs (x ^ k).natAbs).length cc], .agg #[.bool n1, .slice a1 l1 c1]] wr (NRes wr (x ^ (k + 1)))) :=
        hid (by
          have := mul27 _ _ _ _ (p + 2) 0 wr hnv (HPX.out wr HKr.out 0 (fun _ _ => Nat.zero_le _)) (HB.out k (by have := HMK.out; omega)) HLX.out
          rwa [← Int.pow_succ] at this)
      obtain ⟨ng, hng⟩ : ∃ ng, ng = decide (x ^ k < 0) := ⟨_, rfl⟩
      obtain ⟨ln, hln⟩ : ∃ ln, ln = (digs (x ^ k).natAbs).length := ⟨_, rfl⟩
      rw [← hng, ← hln] at HMl hrow
      rw [← hng] at c0
      rw [← hln] at c1'
      have Hrow := hid hrow
      obtain ⟨zz, hzz⟩ : ∃ zz, zz = x ^ (k + 1) := ⟨_, rfl⟩
      rw [← hzz] at HMl
      have HZZ := hid hzz
      clear hnv hng hln hrow hzz
      go_wp2_with fail
      refine HMl.out.mono ?_
      rintro e w3 ⟨v3, rfl, hv3, hk3⟩
      obtain ⟨a3, c3, rfl, g1, g2⟩ := hv3
      have hrow3 := hk3.row Hrow.out (fun h => h)
      obtain ⟨i0, i1, i2, i3⟩ := NumC.facts (base := 0) (z := 0) hrow3
      have Hrow3 := hid hrow3; have G1 := hid g1; have G2 := hid g2; have HK3 := hid hk3
      clear g1 g2 hk3 hrow3 HMl
      go_wp2_with fail
      have hqw : q < wr.heap.size := Hrow.out.lt
      have hqb : w.heap.size ≤ q := by have := Hpq.out; have := HP.out; omega
      refine ⟨⟨m - 1, k + 1, rfl, by have := HMK.out; omega, ?_, ?_, ?_, ((HKr.out.trans HK3.out).setCell _ (.inr (show w.heap.size ≤ q from hqb)) _).setCell _ (.inr (show w.heap.size ≤ q from hqb)) _⟩, by simp only [intOf]; omega⟩
      · rw [← HZZ.out]
        exact NumC.store Hrow3.out hqw (by have := Hpq.out; omega) G1.out G2.out
      · exact ((HK3.out.row HRXr.out (fun h => h)).other (show (⟨q, 0, none⟩ : Addr).block ≠ p by have := Hpq.out; show q ≠ p; omega) _).other (show (⟨q, 1, none⟩ : Addr).block ≠ p by have := Hpq.out; show q ≠ p; omega) _
      · exact ((HK3.out.row HRRr.out (fun h => h)).other (show (⟨q, 0, none⟩ : Addr).block ≠ p + 1 by have := Hpq.out; show q ≠ p + 1; omega) _).other (show (⟨q, 1, none⟩ : Addr).block ≠ p + 1 by have := Hpq.out; show q ≠ p + 1; omega) _
end Go.Proofs
namespace Go.Proofs
open Go.RowKit
set_option maxHeartbeats 4000000
set_option linter.unusedVariables false
set_option linter.unusedSimpArgs false
set_option maxRecDepth 100000

def RootRel (w : World) (P Q p X : Nat) (n1 : Bool) (a1 : Option Addr) (l1 c1 : Nat) (u v : Value) (wr : World) : Prop :=
  ∃ lo hi : Nat, u = .pointer (some ⟨P, 0, none⟩) ∧ v = .pointer (some ⟨Q, 0, none⟩) ∧ lo * lo ≤ X ∧ X < hi * hi ∧ hi ≤ 10 ^ 101 ∧ NumE wr (p + 2) P lo ∧ NumE wr (p + 2) Q hi ∧ RowAt wr p 24 [.bool n1, .slice a1 l1 c1] ∧ RowAt wr (p + 1) 24 [.bool false, .slice none 0 0] ∧ Keeps (fun _ => False) w wr

theorem digs_of_le {n : Nat} (h : n ≤ 10 ^ 205) : (digs n).length ≤ 206 := digs_len (Nat.lt_of_le_of_lt h (Nat.pow_lt_pow_right (by omega) (by omega)))

theorem half_wrap (l K : Nat) (h : l ≤ 200) (hK : K = l / 2 + 1) : IntKind.i64.wrap (IntKind.i64.wrap ((l : Int) / 2) + 1) = (K : Int) := by
  have h1 : IntKind.i64.wrap ((l : Int) / 2) = ((l / 2 : Nat) : Int) := by rw [IntKind.wrap_i64]; omega
  rw [h1, IntKind.wrap_i64]; omega
theorem half_le2 (l K : Nat) (h : l ≤ 200) (hK : K = l / 2 + 1) : K ≤ 101 := by omega
theorem half_le (l K : Nat) (h : l ≤ 200) (hK : K = l / 2 + 1) : K ≤ 10000 := by omega
theorem rt_len {n : Nat} (h : n ≤ 10 ^ 101) : (digs (n : Int).natAbs).length ≤ 50000 := by
  rw [Int.natAbs_natCast]
  exact Nat.le_trans (digs_len (k := 102) (Nat.lt_of_le_of_lt h (Nat.pow_lt_pow_right (by omega) (by omega)))) (by omega)
theorem rt_len4 {n : Nat} (h : n ≤ 10 ^ 101) : (digs (n : Int).natAbs).length ≤ 40000 := by
  rw [Int.natAbs_natCast]
  exact Nat.le_trans (digs_len (k := 102) (Nat.lt_of_le_of_lt h (Nat.pow_lt_pow_right (by omega) (by omega)))) (by omega)
theorem rt_len2 {lo hi : Nat} (h : hi ≤ 10 ^ 101) (hl : lo < hi) : (digs ((lo + hi : Nat) : Int).natAbs).length ≤ 40000 := by
  rw [Int.natAbs_natCast]
  refine Nat.le_trans (digs_len (k := 102) ?_) (by omega)
  have : lo + hi < 2 * 10 ^ 101 := by omega
  have h2 : 2 * 10 ^ 101 ≤ 10 ^ 102 := by decide +kernel
  exact Nat.lt_of_lt_of_le this h2
theorem rt_mid {lo hi mid : Nat} (h : hi ≤ 10 ^ 101) (hl : lo < hi) (hm : mid = (lo + hi) / 2) : (digs (mid : Int).natAbs).length ≤ 40000 := rt_len4 (by omega)
theorem rt_len3 {n : Nat} (h : n ≤ 10 ^ 202) : (digs (n : Int).natAbs).length ≤ 40000 := by
  rw [Int.natAbs_natCast]
  exact Nat.le_trans (digs_len (k := 203) (Nat.lt_of_le_of_lt h (Nat.pow_lt_pow_right (by omega) (by omega)))) (by omega)
theorem rt_sq {m : Nat} (h : m ≤ 10 ^ 101) : (digs ((m * m : Nat) : Int).natAbs).length ≤ 40000 := rt_len3 (Nat.le_trans (Nat.mul_le_mul h h) (by rw [← Nat.pow_add]; exact Nat.le_refl _))
theorem rt_x {m : Nat} (h : m < 10 ^ 200) : (digs (m : Int).natAbs).length ≤ 40000 := rt_len3 (Nat.le_trans (Nat.le_of_lt h) (Nat.pow_le_pow_right (by omega) (by omega)))
theorem rt_pow {m k : Nat} (h : m ≤ 10 ^ 101) (hk : k ≤ 2) : (digs ((m : Int) ^ k).natAbs).length ≤ 40000 := by
  rcases (by omega : k = 0 ∨ k = 1 ∨ k = 2) with rfl | rfl | rfl
  · rw [Int.pow_zero]; exact Nat.le_trans (digs_len (k := 1) (by decide)) (by omega)
  · rw [Int.pow_succ, Int.pow_zero, Int.one_mul]; exact rt_len4 h
  · rw [Int.pow_succ, Int.pow_succ, Int.pow_zero, Int.one_mul, ← Int.natCast_mul]; exact rt_sq h
theorem root129 (vx : Value) (x : Int) (bx : Nat) (w : World) (hx : NumV w bx vx x) (hx0 : 0 ≤ x) (hxb : x.natAbs < 10 ^ 200) :
    Calls Tryz.prog 129 #[vx, .int .i64 2] w (NRes w (rootN x.natAbs : Int)) := by
  obtain ⟨ax, cx, rfl, hrx, hbx⟩ := hx
  obtain ⟨n1, hn1⟩ : ∃ n, n = decide (x < 0) := ⟨_, rfl⟩
  obtain ⟨l1, hl1⟩ : ∃ n, n = (digs x.natAbs).length := ⟨_, rfl⟩
  obtain ⟨X, hX⟩ : ∃ n, n = x.natAbs := ⟨_, rfl⟩
  have hxX : x = (X : Int) := by omega
  have hll : l1 ≤ 200 := by rw [hl1]; exact digs_len hxb
  obtain ⟨K, hK⟩ : ∃ n, n = l1 / 2 + 1 := ⟨_, rfl⟩
  have hst : X < 10 ^ K * 10 ^ K := by rw [hK, hl1, hX]; exact bis_start _
  have hpx : ∀ W, Keeps (fun _ => False) w W → NumV W 0 (.agg #[.bool n1, .slice ax l1 cx]) (X : Int) := fun W hk => by
    rw [hn1, hl1, ← hxX]
    exact ⟨ax, cx, rfl, hrx.keep hk (fun _ _ h => h), fun _ _ => Nat.zero_le _⟩
  rw [← hn1, ← hl1, ← hX]
  obtain ⟨w0, hw0⟩ : ∃ W, W = (w.alloc (.cells #[.bool n1, .slice ax l1 cx] 24)).alloc (.cells #[.bool false, .slice none 0 0] 24) := ⟨_, rfl⟩
  obtain ⟨p, hp⟩ : ∃ p, p = w.heap.size := ⟨_, rfl⟩
  have hk0 : Keeps (fun _ => False) w w0 := by rw [hw0]; exact ((Keeps.refl _ w).alloc _).alloc _
  have hrx : RowAt w0 p 24 [.bool n1, .slice ax l1 cx] := by rw [hw0, hp]; exact RowAt.alloc (RowAt.new w 24 _) _
  have hrr : RowAt w0 (p + 1) 24 [.bool false, .slice none 0 0] := by
    have h := RowAt.new (w.alloc (.cells #[.bool n1, .slice ax l1 cx] 24)) 24 [.bool false, .slice none 0 0]
    rw [show (w.alloc (.cells #[.bool n1, .slice ax l1 cx] 24)).heap.size = p + 1 by rw [hp]; simp] at h
    rw [hw0]; exact h
  have hs0 : w0.heap.size = p + 2 := by rw [hw0, hp]; simp
  have HO := hid (fun W => of33 0 W (by omega) (by omega))
  have HXB : Hid (X < 10 ^ 200) := hid (by rw [hX]; exact hxb)
  have HST := hid hst
  clear hst hxb
  have g3 : IntKind.i64.wrap (IntKind.i64.wrap ((l1 : Int) / 2) + 1) = (K : Int) := by
    exact half_wrap l1 K hll hK
  have hK200 : K ≤ 10000 := half_le l1 K hll hK
  have HTen := hid (fun W => ten182 K W hK200)
  simp only [← g3] at HTen
  clear g3
  have HS8 : Hid (∀ w', Keeps (fun _ => False) w0 w' → w'.cell? ⟨p, 1, none⟩ = some (.slice ax l1 cx)) := hid (fun w' hk => (hk.row hrx (fun h => h)).cell 1)
  have HK0 := hid hk0; have HRX := hid hrx; have HRR := hid hrr; have HS0 := hid hs0; have HPX := hid hpx; have HP := hid hp; have HLL := hid hll; have HKK := hid hK; have HKP : Hid (10 ^ K ≤ 10 ^ 101) := hid (Nat.pow_le_pow_right (by omega) (half_le2 l1 K hll hK))
  clear hk0 hrx hrr hs0 hpx hx0 hxX hX hn1 hl1 hK hbx
  go_enter Tryz.func129, Tryz.ntmps129
  go_upto_region 1 with fail
  rw [← hw0, ← hp]
  clear hw0 hp
  go_cut [5, 6] from 9 to 17 (fun u v wx => TwoC w0 w0.heap.size 0 ((10 ^ K : Nat) : Int) u v wx)
  case first =>
    go_region_held3 (fun w' => w'.cell? ⟨p, 1, none⟩ = some (.slice ax l1 cx))
      (((refine HS8.out _ ?_); repeat (first | (with_reducible exact K6.out) | (with_reducible exact K5.out) | (with_reducible exact Keeps.refl _ _) | (with_reducible refine Keeps.drew ?_) | (with_reducible refine Keeps.new ?_ _) | (refine Keeps.setCell ?_ _ (.inr (by dsimp only; omega)) _))))
      (first
       | (go_at_call 33; (with_reducible refine (HO.out (w0.drew)).mono ?_); rintro e w5 ⟨v, rfl, hv, hk⟩; obtain ⟨n5, a5, l5, c5, rfl⟩ := hv.agg; have k5 := (show Keeps (fun _ => False) w0 (w0.drew) from (Keeps.refl (fun _ => False) w0).drew); have HV5 := hid (hv.lower k5.size); have K5 := hid (k5.trans hk); have tok0 : True := trivial; have z5 := K5.out.size; clear hv hk k5)
       | (go_at_call 33; (with_reducible refine (HO.out ((w0.alloc (.cells #[.bool false, .slice none 0 0] 24)).drew)).mono ?_); rintro e w5 ⟨v, rfl, hv, hk⟩; obtain ⟨n5, a5, l5, c5, rfl⟩ := hv.agg; have k5 := (show Keeps (fun _ => False) w0 ((w0.alloc (.cells #[.bool false, .slice none 0 0] 24)).drew) from ((Keeps.refl (fun _ => False) w0).alloc _).drew); have HV5 := hid (hv.lower k5.size); have K5 := hid (k5.trans hk); have FR0 := hid ((show Fr ((w0.alloc (.cells #[.bool false, .slice none 0 0] 24)).drew) w0.heap.size from (Fr.new w0)).keep hk); have tok1 : True := trivial; have z5 := K5.out.size; clear hv hk k5)
       | (go_at_call 33; (with_reducible refine (HO.out (((w0.alloc (.cells #[.bool false, .slice none 0 0] 24)).alloc (.cells #[.bool false, .slice none 0 0] 24)).drew)).mono ?_); rintro e w5 ⟨v, rfl, hv, hk⟩; obtain ⟨n5, a5, l5, c5, rfl⟩ := hv.agg; have k5 := (show Keeps (fun _ => False) w0 (((w0.alloc (.cells #[.bool false, .slice none 0 0] 24)).alloc (.cells #[.bool false, .slice none 0 0] 24)).drew) from (((Keeps.refl (fun _ => False) w0).alloc _).alloc _).drew); have HV5 := hid (hv.lower k5.size); have K5 := hid (k5.trans hk); have FR0 := hid ((show Fr (((w0.alloc (.cells #[.bool false, .slice none 0 0] 24)).alloc (.cells #[.bool false, .slice none 0 0] 24)).drew) w0.heap.size from (Fr.new2 w0).1).keep hk); have FR1 := hid ((show Fr (((w0.alloc (.cells #[.bool false, .slice none 0 0] 24)).alloc (.cells #[.bool false, .slice none 0 0] 24)).drew) (w0.heap.size + 1) from (Fr.new2 w0).2).keep hk); have tok2 : True := trivial; have z5 := K5.out.size; clear hv hk k5)
       | (go_at_call 182; have _t := tok0; (with_reducible refine (HTen.out w5).mono ?_); rintro e w6 ⟨v, rfl, hv, hk⟩; obtain ⟨n6, a6, l6, c6, rfl⟩ := hv.agg; have k56 := (show Keeps (fun _ => False) w5 w5 from (Keeps.refl (fun _ => False) w5)).trans hk; have z6 := k56.size; have HV6 := hid (hv.lower (Nat.le_trans K5.out.size (show Keeps (fun _ => False) w5 w5 from (Keeps.refl (fun _ => False) w5)).size)); have K6 := hid (K5.out.trans k56); have HV56 := hid (HV5.out.keep k56 (fun _ _ h => h)); clear hv hk k56)
       | (go_at_call 182; have _t := tok0; (with_reducible refine (HTen.out (w5.alloc (.cells #[.bool false, .slice none 0 0] 24))).mono ?_); rintro e w6 ⟨v, rfl, hv, hk⟩; obtain ⟨n6, a6, l6, c6, rfl⟩ := hv.agg; have k56 := (show Keeps (fun _ => False) w5 (w5.alloc (.cells #[.bool false, .slice none 0 0] 24)) from ((Keeps.refl (fun _ => False) w5).alloc _)).trans hk; have z6 := k56.size; have HV6 := hid (hv.lower (Nat.le_trans K5.out.size (show Keeps (fun _ => False) w5 (w5.alloc (.cells #[.bool false, .slice none 0 0] 24)) from ((Keeps.refl (fun _ => False) w5).alloc _)).size)); have K6 := hid (K5.out.trans k56); have HV56 := hid (HV5.out.keep k56 (fun _ _ h => h)); have g0 := ((Fr.new w5).keep hk); obtain ⟨x00, x01, x02, x03⟩ := g0.facts; have y00 := fun o => (Fr.facts (RowAt.alloc g0 o)).1; have y01 := fun o => (Fr.facts (RowAt.alloc g0 o)).2.1; have y02 := fun o => (Fr.facts (RowAt.alloc g0 o)).2.2.1; have y03 := fun o => (Fr.facts (RowAt.alloc g0 o)).2.2.2; have lt0 := RowAt.lt g0; have ne0 := Nat.ne_of_lt lt0; have nf0 := Ne.symm ne0; have G0 := hid g0; clear g0; clear hv hk k56)
       | (go_at_call 182; have _t := tok0; (with_reducible refine (HTen.out ((w5.alloc (.cells #[.bool false, .slice none 0 0] 24)).alloc (.cells #[.bool false, .slice none 0 0] 24))).mono ?_); rintro e w6 ⟨v, rfl, hv, hk⟩; obtain ⟨n6, a6, l6, c6, rfl⟩ := hv.agg; have k56 := (show Keeps (fun _ => False) w5 ((w5.alloc (.cells #[.bool false, .slice none 0 0] 24)).alloc (.cells #[.bool false, .slice none 0 0] 24)) from (((Keeps.refl (fun _ => False) w5).alloc _).alloc _)).trans hk; have z6 := k56.size; have HV6 := hid (hv.lower (Nat.le_trans K5.out.size (show Keeps (fun _ => False) w5 ((w5.alloc (.cells #[.bool false, .slice none 0 0] 24)).alloc (.cells #[.bool false, .slice none 0 0] 24)) from (((Keeps.refl (fun _ => False) w5).alloc _).alloc _)).size)); have K6 := hid (K5.out.trans k56); have HV56 := hid (HV5.out.keep k56 (fun _ _ h => h)); have g0 := ((Fr.new2 w5).1.keep hk); obtain ⟨x00, x01, x02, x03⟩ := g0.facts; have y00 := fun o => (Fr.facts (RowAt.alloc g0 o)).1; have y01 := fun o => (Fr.facts (RowAt.alloc g0 o)).2.1; have y02 := fun o => (Fr.facts (RowAt.alloc g0 o)).2.2.1; have y03 := fun o => (Fr.facts (RowAt.alloc g0 o)).2.2.2; have lt0 := RowAt.lt g0; have ne0 := Nat.ne_of_lt lt0; have nf0 := Ne.symm ne0; have G0 := hid g0; clear g0; have g1 := ((Fr.new2 w5).2.keep hk); obtain ⟨x10, x11, x12, x13⟩ := g1.facts; have y10 := fun o => (Fr.facts (RowAt.alloc g1 o)).1; have y11 := fun o => (Fr.facts (RowAt.alloc g1 o)).2.1; have y12 := fun o => (Fr.facts (RowAt.alloc g1 o)).2.2.1; have y13 := fun o => (Fr.facts (RowAt.alloc g1 o)).2.2.2; have lt1 := RowAt.lt g1; have ne1 := Nat.ne_of_lt lt1; have nf1 := Ne.symm ne1; have G1 := hid g1; clear g1; clear hv hk k56)
       | (go_at_call 182; have _t := tok1; (with_reducible refine (HTen.out w5).mono ?_); rintro e w6 ⟨v, rfl, hv, hk⟩; obtain ⟨n6, a6, l6, c6, rfl⟩ := hv.agg; have k56 := (show Keeps (fun _ => False) w5 w5 from (Keeps.refl (fun _ => False) w5)).trans hk; have z6 := k56.size; have HV6 := hid (hv.lower (Nat.le_trans K5.out.size (show Keeps (fun _ => False) w5 w5 from (Keeps.refl (fun _ => False) w5)).size)); have K6 := hid (K5.out.trans k56); have HV56 := hid (HV5.out.keep k56 (fun _ _ h => h)); have ne45 := Nat.ne_of_lt (RowAt.lt FR0.out); have nf45 := Ne.symm ne45; have g0 := (FR0.out.keep k56); obtain ⟨x00, x01, x02, x03⟩ := g0.facts; have y00 := fun o => (Fr.facts (RowAt.alloc g0 o)).1; have y01 := fun o => (Fr.facts (RowAt.alloc g0 o)).2.1; have y02 := fun o => (Fr.facts (RowAt.alloc g0 o)).2.2.1; have y03 := fun o => (Fr.facts (RowAt.alloc g0 o)).2.2.2; have lt0 := RowAt.lt g0; have ne0 := Nat.ne_of_lt lt0; have nf0 := Ne.symm ne0; have G0 := hid g0; clear g0; clear hv hk k56)
       | (go_at_call 182; have _t := tok1; (with_reducible refine (HTen.out (w5.alloc (.cells #[.bool false, .slice none 0 0] 24))).mono ?_); rintro e w6 ⟨v, rfl, hv, hk⟩; obtain ⟨n6, a6, l6, c6, rfl⟩ := hv.agg; have k56 := (show Keeps (fun _ => False) w5 (w5.alloc (.cells #[.bool false, .slice none 0 0] 24)) from ((Keeps.refl (fun _ => False) w5).alloc _)).trans hk; have z6 := k56.size; have HV6 := hid (hv.lower (Nat.le_trans K5.out.size (show Keeps (fun _ => False) w5 (w5.alloc (.cells #[.bool false, .slice none 0 0] 24)) from ((Keeps.refl (fun _ => False) w5).alloc _)).size)); have K6 := hid (K5.out.trans k56); have HV56 := hid (HV5.out.keep k56 (fun _ _ h => h)); have ne45 := Nat.ne_of_lt (RowAt.lt FR0.out); have nf45 := Ne.symm ne45; have g0 := (FR0.out.keep k56); obtain ⟨x00, x01, x02, x03⟩ := g0.facts; have y00 := fun o => (Fr.facts (RowAt.alloc g0 o)).1; have y01 := fun o => (Fr.facts (RowAt.alloc g0 o)).2.1; have y02 := fun o => (Fr.facts (RowAt.alloc g0 o)).2.2.1; have y03 := fun o => (Fr.facts (RowAt.alloc g0 o)).2.2.2; have lt0 := RowAt.lt g0; have ne0 := Nat.ne_of_lt lt0; have nf0 := Ne.symm ne0; have G0 := hid g0; clear g0; have g1 := ((Fr.new w5).keep hk); obtain ⟨x10, x11, x12, x13⟩ := g1.facts; have y10 := fun o => (Fr.facts (RowAt.alloc g1 o)).1; have y11 := fun o => (Fr.facts (RowAt.alloc g1 o)).2.1; have y12 := fun o => (Fr.facts (RowAt.alloc g1 o)).2.2.1; have y13 := fun o => (Fr.facts (RowAt.alloc g1 o)).2.2.2; have lt1 := RowAt.lt g1; have ne1 := Nat.ne_of_lt lt1; have nf1 := Ne.symm ne1; have G1 := hid g1; clear g1; clear hv hk k56)
       | (go_at_call 182; have _t := tok2; (with_reducible refine (HTen.out w5).mono ?_); rintro e w6 ⟨v, rfl, hv, hk⟩; obtain ⟨n6, a6, l6, c6, rfl⟩ := hv.agg; have k56 := (show Keeps (fun _ => False) w5 w5 from (Keeps.refl (fun _ => False) w5)).trans hk; have z6 := k56.size; have HV6 := hid (hv.lower (Nat.le_trans K5.out.size (show Keeps (fun _ => False) w5 w5 from (Keeps.refl (fun _ => False) w5)).size)); have K6 := hid (K5.out.trans k56); have HV56 := hid (HV5.out.keep k56 (fun _ _ h => h)); have ne45 := Nat.ne_of_lt (RowAt.lt FR0.out); have nf45 := Ne.symm ne45; have g0 := (FR0.out.keep k56); obtain ⟨x00, x01, x02, x03⟩ := g0.facts; have y00 := fun o => (Fr.facts (RowAt.alloc g0 o)).1; have y01 := fun o => (Fr.facts (RowAt.alloc g0 o)).2.1; have y02 := fun o => (Fr.facts (RowAt.alloc g0 o)).2.2.1; have y03 := fun o => (Fr.facts (RowAt.alloc g0 o)).2.2.2; have lt0 := RowAt.lt g0; have ne0 := Nat.ne_of_lt lt0; have nf0 := Ne.symm ne0; have G0 := hid g0; clear g0; have g1 := (FR1.out.keep k56); obtain ⟨x10, x11, x12, x13⟩ := g1.facts; have y10 := fun o => (Fr.facts (RowAt.alloc g1 o)).1; have y11 := fun o => (Fr.facts (RowAt.alloc g1 o)).2.1; have y12 := fun o => (Fr.facts (RowAt.alloc g1 o)).2.2.1; have y13 := fun o => (Fr.facts (RowAt.alloc g1 o)).2.2.2; have lt1 := RowAt.lt g1; have ne1 := Nat.ne_of_lt lt1; have nf1 := Ne.symm ne1; have G1 := hid g1; clear g1; clear hv hk k56))
    all_goals
      go_wp2_with fail
      go_meet
    all_goals first | (with_reducible exact two_D K6.out HV56.out HV6.out) | (with_reducible exact two_B K6.out HV56.out HV6.out (by omega) G0.out) | (with_reducible exact two_C K6.out HV56.out HV6.out (by omega) G0.out) | (with_reducible exact two_A K6.out HV56.out HV6.out (by omega) (by omega) G0.out G1.out (by omega)) | (with_reducible exact two_A K6.out HV56.out HV6.out (by omega) (by omega) G1.out G0.out (by omega)) | (refine TwoC.symm ?_; with_reducible exact two_D K6.out HV6.out HV56.out) | (refine TwoC.symm ?_; with_reducible exact two_B K6.out HV6.out HV56.out (by omega) G0.out) | (refine TwoC.symm ?_; with_reducible exact two_C K6.out HV6.out HV56.out (by omega) G0.out) | (refine TwoC.symm ?_; with_reducible exact two_A K6.out HV6.out HV56.out (by omega) (by omega) G0.out G1.out (by omega)) | (refine TwoC.symm ?_; with_reducible exact two_A K6.out HV6.out HV56.out (by omega) (by omega) G1.out G0.out (by omega))
  case rest =>
    obtain ⟨P, Q, rfl, rfl, hPQ, hP0, hQ0, e1, e2, hkc⟩ := hcut
    rw [HS0.out] at e1 e2 hP0 hQ0
    have R0 : RootRel w P Q p X n1 ax l1 cx (.pointer (some ⟨P, 0, none⟩)) (.pointer (some ⟨Q, 0, none⟩)) wc :=
      ⟨0, 10 ^ K, rfl, rfl, Nat.zero_le _, HST.out, HKP.out, e1, e2, hkc.row HRX.out (fun h => h), hkc.row HRR.out (fun h => h), HK0.out.trans hkc⟩
    have HR0 := hid R0; have HPQ := hid hPQ; have HP0 := hid hP0; have HQ0 := hid hQ0
    clear e1 e2 hkc R0 hPQ hP0 hQ0 HTen HO
    go_wp2_with fail
    go_loopw [] (fun wr => RootRel w P Q p X n1 ax l1 cx (.pointer (some ⟨P, 0, none⟩)) (.pointer (some ⟨Q, 0, none⟩)) wr) (fun wr => (zOf wr Q - zOf wr P).toNat)
    case atStart => exact HR0.out
    case round =>
      obtain ⟨lo, hi, _, _, h1, h2, h3, e1, e2, hrx, hrr, hk⟩ := hrel
      obtain ⟨n2, a2, l2, c2, b0, b1, f0, f1, rP, vP⟩ := e1.facts
      obtain ⟨n3, a3, l3, c3, b2, b3, f2, f3, rQ, vQ⟩ := e2.facts
      have hlh := bis_lt h1 h2
      obtain ⟨mid, hmid⟩ : ∃ m, m = (lo + hi) / 2 := ⟨_, rfl⟩
      have HE1 := hid e1; have HE2 := hid e2; have HRXr := hid hrx; have HRRr := hid hrr; have HKr := hid hk; have H1 := hid h1; have H2 := hid h2; have H3 := hid h3; have HLH := hid hlh; have HM := hid hmid
      have HAdd : Hid (Calls Tryz.prog 28 #[.agg #[.bool n2, .slice a2 l2 c2], .agg #[.bool n3, .slice a3 l3 c3]] wr (NRes wr (((lo + hi : Nat)) : Int))) := hid (by
        have := add28 _ _ _ _ _ _ wr vP vQ (rt_len (Nat.le_trans (Nat.le_of_lt hlh) h3)) (rt_len h3)
        rwa [← Int.natCast_add] at this)
      have HOf := hid (fun W => of33 2 W (by omega) (by omega))
      have HQR : Hid (∀ W vx vy b b', NumV W b vx ((lo + hi : Nat) : Int) → NumV W b' vy 2 → Calls Tryz.prog 40 #[vx, vy] W fun e w' => ∃ v1 v2, e = .returned (.tuple #[v1, v2]) ∧ NumV w' W.heap.size v1 (mid : Int) ∧ (∃ z, NumV w' W.heap.size v2 z) ∧ Keeps (fun _ => False) W w') := hid (fun W vx vy b b' g1 g2 => by
        refine (quoRem40 vx vy _ 2 b b' W g1 g2 (by omega) (rt_len2 h3 hlh) (digs_lt (k := 2) (by decide) (by omega))).mono ?_
        rintro e w' ⟨v1, v2, he, k1, k2, k3⟩
        refine ⟨v1, v2, he, ?_, ⟨_, k2⟩, k3⟩
        have hq : ((lo + hi : Nat) : Int).tdiv 2 = (mid : Int) := by rw [hmid]; rfl
        rwa [hq] at k1)
      have HE1r := hid e1; have HE2r := hid e2
      clear e1 e2 hrx hrr hk h1 h2 h3 hlh hmid rP rQ vP vQ HR0
      go_wp2_with fail
      refine HAdd.out.mono ?_
      rintro e w1 ⟨v, rfl, hv, hk1⟩
      obtain ⟨n4, a4, l4, c4, rfl⟩ := hv.agg
      have HV1 := hid hv; have HK1 := hid hk1
      clear hv hk1 HAdd
      go_wp2_with fail
      refine (HOf.out _).mono ?_
      rintro e w2 ⟨v, rfl, hv, hk2⟩
      obtain ⟨n5, a5, l5, c5, rfl⟩ := hv.agg
      have HV2 := hid hv; have HK2 := hid (HK1.out.trans hk2); have HV12 := hid (HV1.out.keep hk2 (fun _ _ h => h))
      clear hv hk2 HOf b0 b1 b2 b3
      go_wp2_with fail
      refine (HQR.out _ _ _ _ _ HV12.out HV2.out).mono ?_
      rintro e w3 ⟨v1, v2, rfl, hv1, ⟨z2, hv2⟩, hk3⟩
      obtain ⟨n6, a6, l6, c6, rfl⟩ := hv1.agg
      obtain ⟨n7, a7, l7, c7, rfl⟩ := hv2.agg
      have HK3 := hid (HK2.out.trans hk3)
      have HV3 := hid (hv1.lower (Nat.le_trans (Nat.le_trans HP0.out (Nat.le_of_lt HE1.out.lt)) HK2.out.size))
      clear hv1 hv2 hk3 HQR f0 f1 f2 f3
      go_upto_region 3 with fail
      obtain ⟨W4, hW4⟩ : ∃ W, W = (w3.alloc (.cells #[.bool n6, .slice a6 l6 c6] 24)).alloc (.cells #[.bool n7, .slice a7 l7 c7] 24) := ⟨_, rfl⟩
      obtain ⟨M, hM⟩ : ∃ p, p = w3.heap.size := ⟨_, rfl⟩
      have hEM : NumE W4 (p + 2) M (mid : Int) := by rw [hW4, hM]; exact (NumE.new HV3.out).keep ((Keeps.refl _ _).alloc _)
      have hK4 : Keeps (fun _ => False) wr W4 := by rw [hW4]; exact (HK3.out.alloc _).alloc _
      have hMw : wr.heap.size ≤ M := by rw [hM]; exact HK3.out.size
      rw [← hW4, ← hM]
      have HEM := hid hEM; have HK4 := hid hK4; have HMw := hid hMw
      have HE14 := hid (HE1.out.keep hK4); have HE24 := hid (HE2.out.keep hK4)
      clear hW4 hM hEM hK4 hMw HE1 HE2
      obtain ⟨n2', a2', l2', c2', b0, b1, f0, f1, rP, vP⟩ := HE14.out.facts
      obtain ⟨n6', a6', l6', c6', b2, b3, f2, f3, rM, vM⟩ := HEM.out.facts
      obtain ⟨cz, hcz⟩ : ∃ c, c = cmpZ (mid : Int) (lo : Int) := ⟨_, rfl⟩
      have HC := hid (cmp30_z _ _ _ _ _ _ W4 vM vP (rt_mid H3.out HLH.out HM.out) (rt_len4 (Nat.le_trans (Nat.le_of_lt HLH.out) H3.out)))
      rw [← hcz] at HC
      have HCZ := hid hcz
      clear hcz
      by_cases hml : mid = lo
      · have t0 : (cz == 0) = true := by rw [HCZ.out, cmp_eq0]; simp [hml]
        have HML := hid hml
        clear hml f0 f1 f2 f3 rP rM vP vM
        go_wp2_with fail
        refine HC.out.mono ?_
        rintro e w5 ⟨rfl, hk5⟩
        have HK5 := hid (HK4.out.trans hk5)
        have hr5 := HK5.out.row HRRr.out (fun h => h)
        obtain ⟨_, _, f2, f3⟩ := RowAt.facts2 hr5
        clear b0 b1 b2 b3
        obtain ⟨n8, a8, l8, c8, b0, b1, _, _, rP, vP⟩ := (HE14.out.keep hk5).facts
        obtain ⟨g1, g2, g3, g4⟩ := vP.get
        obtain ⟨hrf, hnv, hkf⟩ := num_done (w := w) (wr := w5) (p := p + 1) (z := (lo : Int)) (ng := n8) (a := a8) (l := l8) (c := c8) hr5 (by have := HP.out; omega) (HKr.out.trans HK5.out) g1 (fun k hk => by have := g2 k hk; have := HP.out; omega) g3 g4
        have HRF := hid hrf; have HNV := hid hnv; have HKF := hid hkf
        clear hk5 hr5 rP vP g1 g2 g3 g4 hrf hnv hkf HC
        go_wp2_with fail
        obtain ⟨e0, e1, _, _⟩ := RowAt.facts2 HRF.out
        have hroot : lo = rootN X := bis_done H1.out H2.out (by rw [← HM.out]; exact HML.out)
        generalize ((w5.setCell ⟨p + 1, 0, none⟩ (.bool n8)).setCell ⟨p + 1, 1, none⟩ (.slice a8 l8 c8)) = wf at *
        refine bodyPost_ret (v := .agg #[.bool n8, .slice a8 l8 c8]) ?_ rfl ⟨_, rfl, (by rw [← hroot]; exact HNV.out), HKF.out⟩
        simp [results, Tryz.results129, go_sem, e0, e1]
      · have t0 : (cz == 0) = false := by rw [HCZ.out, cmp_eq0]; simp [hml]
        have HML := hid hml
        clear hml f0 f1 f2 f3 rP rM vP vM
        go_wp2_with fail
        refine HC.out.mono ?_
        rintro e w5 ⟨rfl, hk5⟩
        have HK5 := hid (HK4.out.trans hk5)
        have HEM5 := hid (HEM.out.keep hk5); have HE15 := hid (HE14.out.keep hk5); have HE25 := hid (HE24.out.keep hk5); have HRX5 := hid (HK5.out.row HRXr.out (fun h => h)); have HRR5 := hid (HK5.out.row HRRr.out (fun h => h))
        clear b0 b1 b2 b3 hk5 HC
        go_upto_region 5 with fail
        clear t0
        obtain ⟨n8, a8, l8, c8, b0, b1, _, _, rM, vM⟩ := HEM5.out.facts
        obtain ⟨nP, aP, lP, cP, _, _, _, _, rP, _⟩ := HE15.out.facts
        obtain ⟨nQ, aQ, lQ, cQ, _, _, _, _, rQ, _⟩ := HE25.out.facts
        have RM := hid rM; have RP := hid rP; have RQ := hid rQ; have VM := hid vM
        have HSS : Hid (∀ w', Keeps (fun _ => False) w5 w' → w'.cell? ⟨M, 0, none⟩ = some (.bool n8) ∧ w'.cell? ⟨M, 1, none⟩ = some (.slice a8 l8 c8) ∧ w'.cell? ⟨p, 0, none⟩ = some (.bool n1) ∧ w'.cell? ⟨p, 1, none⟩ = some (.slice ax l1 cx)) := hid (fun w' hk =>
          ⟨(hk.row RM.out (fun h => h)).cell 0, (hk.row RM.out (fun h => h)).cell 1, (hk.row HRX5.out (fun h => h)).cell 0, (hk.row HRX5.out (fun h => h)).cell 1⟩)
        have hmb : mid ≤ 10 ^ 101 := by have := H3.out; have := HLH.out; have := HM.out; omega
        have HPw : Hid (∀ W, Keeps (fun _ => False) w5 W → Calls Tryz.prog 48 #[.agg #[.bool n8, .slice a8 l8 c8], .int .i64 2] W (NRes W ((mid * mid : Nat) : Int))) := hid (fun W hk => by
          have := power48 _ _ _ 2 W (VM.out.keep hk (fun _ _ h => h)) (fun k hk2 => rt_pow hmb hk2) (rt_len4 hmb) (by omega)
          rwa [show ((mid : Int)) ^ 2 = ((mid * mid : Nat) : Int) by rw [Int.pow_succ, Int.pow_succ, Int.pow_zero, Int.one_mul, Int.natCast_mul]] at this)
        obtain ⟨cz2, hcz2⟩ : ∃ c, c = cmpZ ((mid * mid : Nat) : Int) (X : Int) := ⟨_, rfl⟩
        have HCm : Hid (∀ W v b, NumV W b v ((mid * mid : Nat) : Int) → Keeps (fun _ => False) w5 W → Calls Tryz.prog 30 #[v, .agg #[.bool n1, .slice ax l1 cx]] W fun e w' => e = .returned (.int .i64 cz2) ∧ Keeps (fun _ => False) W w') := hid (fun W v b h1 hk => by
          rw [hcz2]
          exact cmp30_z _ _ _ _ _ _ W h1 (HPX.out W ((HKr.out.trans HK5.out).trans hk)) (rt_sq hmb) (rt_x HXB.out))
        have HCZ2 := hid hcz2
        have HE1z := hid HE1r.out; have HE2z := hid HE2r.out
        clear rM rP rQ vM hmb hcz2
        by_cases hle : mid * mid ≤ X
        · have t1 : decide (cz2 ≤ 0) = true := by rw [HCZ2.out, cmp_le0]; simp; exact hle
          have HLE := hid hle
          clear hle
          go_region_held3 (fun w' => w'.cell? ⟨M, 0, none⟩ = some (.bool n8) ∧ w'.cell? ⟨M, 1, none⟩ = some (.slice a8 l8 c8) ∧ w'.cell? ⟨p, 0, none⟩ = some (.bool n1) ∧ w'.cell? ⟨p, 1, none⟩ = some (.slice ax l1 cx))
            (((refine HSS.out _ ?_); repeat (first | (with_reducible exact K7.out) | (with_reducible exact K6.out) | (with_reducible exact Keeps.refl _ _) | (with_reducible refine Keeps.drew ?_))))
            (first
             | (go_at_call 48; (with_reducible refine (HPw.out w5.drew ((Keeps.refl _ w5).drew)).mono ?_); rintro e w6 ⟨v, rfl, hv, hk⟩; obtain ⟨n9, a9, l9, c9, rfl⟩ := hv.agg; have HV6 := hid hv; have K6 := hid (((Keeps.refl (fun _ => False) w5).drew).trans hk); clear hv hk)
             | (go_at_call 30; (with_reducible refine (HCm.out w6 _ _ HV6.out K6.out).mono ?_); rintro e w7 ⟨rfl, hk⟩; have K7 := hid (K6.out.trans hk); have q0 := K7.out.row RM.out (fun h => h); have q1 := K7.out.row RP.out (fun h => h); obtain ⟨y0, y1, _, _⟩ := RowAt.facts2 q0; obtain ⟨_, _, y2, y3⟩ := RowAt.facts2 q1; clear hk q0 q1))
          all_goals
            go_wp2_with fail
            have hv := VM.out.keep K7.out (fun _ _ h => h)
            have hr := K7.out.row RP.out (fun h => h)
            have hn := NumE.made hr hv
            have ho := (HE25.out.keep K7.out).other (HPQ.out) (m := n8) (s := .slice a8 l8 c8) hr
            have htw : w.heap.size ≤ P := by have := HP0.out; have := HP.out; omega
            have hb := bis_mid H1.out H2.out (by rw [← HM.out]; exact HML.out)
            rw [← HM.out] at hb
            refine ⟨⟨mid, hi, rfl, rfl, HLE.out, H2.out, H3.out, hn, ho, (K7.out.row HRX5.out (fun h => h)).other2 (by have := HP0.out; omega), (K7.out.row HRR5.out (fun h => h)).other2 (by have := HP0.out; omega), (((HKr.out.trans HK5.out).trans K7.out).setCell _ (.inr htw) _).setCell _ (.inr htw) _⟩, ?_⟩
            rw [zOf_eq ho, zOf_eq hn, zOf_eq HE1z.out, zOf_eq HE2z.out]
            omega
        · have t1 : decide (cz2 ≤ 0) = false := by rw [HCZ2.out, cmp_le0]; simp; omega
          have HLE := hid hle
          clear hle
          go_region_held3 (fun w' => w'.cell? ⟨M, 0, none⟩ = some (.bool n8) ∧ w'.cell? ⟨M, 1, none⟩ = some (.slice a8 l8 c8) ∧ w'.cell? ⟨p, 0, none⟩ = some (.bool n1) ∧ w'.cell? ⟨p, 1, none⟩ = some (.slice ax l1 cx))
            (((refine HSS.out _ ?_); repeat (first | (with_reducible exact K7.out) | (with_reducible exact K6.out) | (with_reducible exact Keeps.refl _ _) | (with_reducible refine Keeps.drew ?_))))
            (first
             | (go_at_call 48; (with_reducible refine (HPw.out w5.drew ((Keeps.refl _ w5).drew)).mono ?_); rintro e w6 ⟨v, rfl, hv, hk⟩; obtain ⟨n9, a9, l9, c9, rfl⟩ := hv.agg; have HV6 := hid hv; have K6 := hid (((Keeps.refl (fun _ => False) w5).drew).trans hk); clear hv hk)
             | (go_at_call 30; (with_reducible refine (HCm.out w6 _ _ HV6.out K6.out).mono ?_); rintro e w7 ⟨rfl, hk⟩; have K7 := hid (K6.out.trans hk); have q0 := K7.out.row RM.out (fun h => h); have q1 := K7.out.row RQ.out (fun h => h); obtain ⟨y0, y1, _, _⟩ := RowAt.facts2 q0; obtain ⟨_, _, y2, y3⟩ := RowAt.facts2 q1; clear hk q0 q1))
          all_goals
            go_wp2_with fail
            have hv := VM.out.keep K7.out (fun _ _ h => h)
            have hr := K7.out.row RQ.out (fun h => h)
            have hn := NumE.made hr hv
            have ho := (HE15.out.keep K7.out).other (Ne.symm HPQ.out) (m := n8) (s := .slice a8 l8 c8) hr
            have htw : w.heap.size ≤ Q := by have := HQ0.out; have := HP.out; omega
            have hb := bis_mid H1.out H2.out (by rw [← HM.out]; exact HML.out)
            rw [← HM.out] at hb
            refine ⟨⟨lo, mid, rfl, rfl, H1.out, Nat.lt_of_not_le HLE.out, Nat.le_trans (Nat.le_of_lt hb.2) H3.out, ho, hn, (K7.out.row HRX5.out (fun h => h)).other2 (by have := HQ0.out; omega), (K7.out.row HRR5.out (fun h => h)).other2 (by have := HQ0.out; omega), (((HKr.out.trans HK5.out).trans K7.out).setCell _ (.inr htw) _).setCell _ (.inr htw) _⟩, ?_⟩
            rw [zOf_eq hn, zOf_eq ho, zOf_eq HE1z.out, zOf_eq HE2z.out]
            omega
end Go.Proofs
