/- Parts of the proofs over the numbers of any length: NumB0, Fr. -/
import Derived.Test.YtacbllkmcldniaaGreatDoorSpecB
import Derived.Test.YtacbllkmcldniaaGreatDoorBaseD
import Derived.Test.YtacbllkmcldniaaGreatDoorSpecA
set_option linter.unusedSimpArgs false
set_option linter.unusedVariables false
namespace Go.Proofs
open Go.RowKit
set_option maxHeartbeats 1600000
set_option linter.unusedVariables false
set_option linter.unusedSimpArgs false
set_option maxRecDepth 100000

theorem RowAt.num {w : World} {p : Nat} {x y : Value} (h : RowAt w p 24 [x, y]) : w.cell? ⟨p, 0, none⟩ = some x ∧ w.cell? ⟨p, 1, none⟩ = some y := ⟨h.cell 0, h.cell 1⟩
theorem Txt.lt {s : ByteArray} {z : Int} (h : Txt s z) : z.natAbs < 10 ^ 200 := by
  obtain ⟨n, l, d, ht, rfl, _⟩ := h
  rw [numZ_abs]
  have h1 := dval_lt (fun k hk => (ht.dig.2 k hk).1)
  have h2 := ht.dig.1
  have h3 := ht.size
  exact Nat.lt_of_lt_of_le h1 (Nat.pow_le_pow_right (by omega) (by omega))
/-- A number of the reference in a block of its own, its parts under names. -/
def NumB (w : World) (p : Nat) (n : Bool) (a : Option Addr) (l c : Nat) (z : Int) : Prop := RowAt w p 24 [.bool n, .slice a l c] ∧ ∀ b, (∀ k, InB a k → b ≤ k) → NumV w b (.agg #[.bool n, .slice a l c]) z
theorem NumB.v {w : World} {p : Nat} {n : Bool} {a : Option Addr} {l c : Nat} {z : Int} (h : NumB w p n a l c z) : NumV w 0 (.agg #[.bool n, .slice a l c]) z := h.2 0 (fun _ _ => Nat.zero_le _)
theorem NumB.keep {w w' : World} {p : Nat} {n : Bool} {a : Option Addr} {l c : Nat} {z : Int} (h : NumB w p n a l c z) (hk : Keeps (fun _ => False) w w') : NumB w' p n a l c z :=
  ⟨hk.row h.1 (fun h => h), fun b hb => (h.2 b hb).keep hk (fun _ _ h => h)⟩
theorem NumB.cells {w : World} {p : Nat} {n : Bool} {a : Option Addr} {l c : Nat} {z : Int} (h : NumB w p n a l c z) : w.cell? ⟨p, 0, none⟩ = some (.bool n) ∧ w.cell? ⟨p, 1, none⟩ = some (.slice a l c) := h.1.num
/-- A number that a call gave, its parts under names. -/
theorem NumV.parts {w : World} {b : Nat} {v : Value} {z : Int} (h : NumV w b v z) : ∃ n a l c, v = .agg #[.bool n, .slice a l c] ∧ (∀ w', Keeps (fun _ => False) w w' → ∀ b, (∀ k, InB a k → b ≤ k) → NumV w' b (.agg #[.bool n, .slice a l c]) z) := by
  obtain ⟨a, c, rfl, hr, _⟩ := h
  exact ⟨_, a, _, c, rfl, fun w' hk b hb => ⟨a, c, rfl, hr.keep hk (fun _ _ h => h), hb⟩⟩
theorem NumB.new {w : World} {n : Bool} {a : Option Addr} {l c : Nat} {z : Int} (h : ∀ w', Keeps (fun _ => False) w w' → ∀ b, (∀ k, InB a k → b ≤ k) → NumV w' b (.agg #[.bool n, .slice a l c]) z) : NumB (w.alloc (.cells #[.bool n, .slice a l c] 24)) w.heap.size n a l c z :=
  ⟨RowAt.new w 24 [.bool n, .slice a l c], h _ ((Keeps.refl _ w).alloc _)⟩
theorem digs_lt {z : Int} {k : Nat} (h : z.natAbs < 10 ^ k) (hk : k ≤ 40000) : (digs z.natAbs).length ≤ 40000 := Nat.le_trans (digs_len h) hk

theorem RdV.keepR {w w' : World} {a : Option Addr} {c : Nat} {L : List Nat} {p : Nat} {n : Bool} {v : Value} (h : RdV w a c L) (hr : RowAt w p 24 [.bool n, v]) (hk : Keeps (fun k => k = p) w w') : RdV w' a c L := by
  obtain ⟨h1, h2, h3⟩ := h
  refine ⟨h1, h2, ?_⟩
  rcases h3 with h3 | ⟨b, h3, h4⟩
  · exact .inl h3
  · refine .inr ⟨b, h3, fun i hi => ?_⟩
    have h0 := h4 0 (by omega)
    have hne : b ≠ p := by
      rintro rfl
      have h5 := hr.cell 0
      simp only [List.getElem?_cons_zero] at h5
      rw [h0] at h5
      cases h5
    have hlt := World.block_lt_of_cell? w ⟨b, 0, none⟩ h0
    exact (cell_of_block (p := ⟨b, i, none⟩) (hk.block b hlt hne)).trans (h4 i hi)
theorem NumV.keepR {w w' : World} {base p : Nat} {vz v : Value} {z : Int} {n : Bool} (h : NumV w base vz z) (hr : RowAt w p 24 [.bool n, v]) (hk : Keeps (fun k => k = p) w w') : NumV w' base vz z := by
  obtain ⟨a, c, h1, h2, h3⟩ := h
  exact ⟨a, c, h1, h2.keepR hr hk, h3⟩


end Go.Proofs
namespace Go.Proofs
open Go.RowKit
set_option maxHeartbeats 1600000
set_option linter.unusedVariables false
set_option linter.unusedSimpArgs false
set_option maxRecDepth 100000

/-- A variable that was just made. -/
def Fr (w : World) (p : Nat) : Prop := RowAt w p 24 [.bool false, .slice none 0 0]
theorem Fr.keep {w w' : World} {p : Nat} (h : Fr w p) (hk : Keeps (fun _ => False) w w') : Fr w' p := hk.row h (fun h => h)
theorem Fr.facts {w : World} {p : Nat} (h : Fr w p) : w.cell? ⟨p, 0, none⟩ = some (.bool false) ∧ w.cell? ⟨p, 1, none⟩ = some (.slice none 0 0) ∧ w.frozen? ⟨p, 0, none⟩ = false ∧ w.frozen? ⟨p, 1, none⟩ = false := ⟨h.cell 0, h.cell 1, h.frozen 0, h.frozen 1⟩
theorem Fr.new (w : World) : Fr (w.alloc (.cells #[.bool false, .slice none 0 0] 24)) w.heap.size := RowAt.new w 24 [.bool false, .slice none 0 0]
theorem Fr.new2 (w : World) : Fr ((w.alloc (.cells #[.bool false, .slice none 0 0] 24)).alloc (.cells #[.bool false, .slice none 0 0] 24)) w.heap.size ∧ Fr ((w.alloc (.cells #[.bool false, .slice none 0 0] 24)).alloc (.cells #[.bool false, .slice none 0 0] 24)) (w.heap.size + 1) := by
  refine ⟨RowAt.alloc (Fr.new w) _, ?_⟩
  have := Fr.new (w.alloc (.cells #[.bool false, .slice none 0 0] 24))
  rwa [show (w.alloc (.cells #[.bool false, .slice none 0 0] 24)).heap.size = w.heap.size + 1 by simp] at this
theorem Keeps.new {w w' : World} (h : Keeps (fun _ => False) w w') (o : Obj) : Keeps (fun _ => False) w (w'.alloc o) := h.alloc o

theorem NumV.setRow {w : World} {b : Nat} {v : Value} {z : Int} (h : NumV w b v z) {p : Nat} {n : Bool} {u : Value} (hr : RowAt w p 24 [.bool n, u]) (o : Nat) (x : Value) : NumV (w.setCell ⟨p, o, none⟩ x) b v z := h.keepR hr (Keeps.set1 w p o x)
theorem NumV.setRow2 {w : World} {b : Nat} {v : Value} {z : Int} (h : NumV w b v z) {p : Nat} {n m : Bool} {u s : Value} (hr : RowAt w p 24 [.bool n, u]) : NumV ((w.setCell ⟨p, 0, none⟩ (.bool m)).setCell ⟨p, 1, none⟩ s) b v z ∧ RowAt ((w.setCell ⟨p, 0, none⟩ (.bool m)).setCell ⟨p, 1, none⟩ s) p 24 [.bool m, s] := by
  have h1 : RowAt (w.setCell ⟨p, 0, none⟩ (.bool m)) p 24 [.bool m, u] := by simpa using hr.set 0 (.bool m)
  exact ⟨(h.setRow hr 0 _).setRow h1 1 s, by simpa using h1.set 1 s⟩
theorem RowAt.other2 {w : World} {p q : Nat} {t : TypeId} {vs : List Value} {x y : Value} (h : RowAt w q t vs) (hpq : p ≠ q) : RowAt ((w.setCell ⟨p, 0, none⟩ x).setCell ⟨p, 1, none⟩ y) q t vs := (h.other (p := ⟨p, 0, none⟩) hpq x).other (p := ⟨p, 1, none⟩) hpq y
/-- A variable with a number, its parts under names. -/
def NumD (w : World) (p : Nat) (n : Bool) (a : Option Addr) (l c : Nat) (z : Int) : Prop := RowAt w p 24 [.bool n, .slice a l c] ∧ NumV w 0 (.agg #[.bool n, .slice a l c]) z
theorem NumD.keep {w w' : World} {p : Nat} {n : Bool} {a : Option Addr} {l c : Nat} {z : Int} (h : NumD w p n a l c z) (hk : Keeps (fun _ => False) w w') : NumD w' p n a l c z := ⟨hk.row h.1 (fun h => h), h.2.keep hk (fun _ _ h => h)⟩
theorem NumD.set2 {w : World} {p : Nat} {n m : Bool} {a a' : Option Addr} {l c l' c' : Nat} {z z' : Int} (h : NumD w p n a l c z) (h' : NumV w 0 (.agg #[.bool m, .slice a' l' c']) z') : NumD ((w.setCell ⟨p, 0, none⟩ (.bool m)).setCell ⟨p, 1, none⟩ (.slice a' l' c')) p m a' l' c' z' := ⟨(h'.setRow2 h.1).2, (h'.setRow2 h.1).1⟩
theorem NumB.d {w : World} {p : Nat} {n : Bool} {a : Option Addr} {l c : Nat} {z : Int} (h : NumB w p n a l c z) : NumD w p n a l c z := ⟨h.1, h.v⟩
theorem NumD.cells {w : World} {p : Nat} {n : Bool} {a : Option Addr} {l c : Nat} {z : Int} (h : NumD w p n a l c z) : w.cell? ⟨p, 0, none⟩ = some (.bool n) ∧ w.cell? ⟨p, 1, none⟩ = some (.slice a l c) := ⟨h.1.cell 0, h.1.cell 1⟩
theorem NumD.frozen {w : World} {p : Nat} {n : Bool} {a : Option Addr} {l c : Nat} {z : Int} (h : NumD w p n a l c z) : w.frozen? ⟨p, 0, none⟩ = false ∧ w.frozen? ⟨p, 1, none⟩ = false := ⟨h.1.frozen 0, h.1.frozen 1⟩
theorem NumB.new2 {w : World} {n m : Bool} {a a' : Option Addr} {l c l' c' : Nat} {z z' : Int} (h : ∀ w', Keeps (fun _ => False) w w' → ∀ b, (∀ k, InB a k → b ≤ k) → NumV w' b (.agg #[.bool n, .slice a l c]) z)
    (h' : ∀ w', Keeps (fun _ => False) w w' → ∀ b, (∀ k, InB a' k → b ≤ k) → NumV w' b (.agg #[.bool m, .slice a' l' c']) z') :
    NumB ((w.alloc (.cells #[.bool n, .slice a l c] 24)).alloc (.cells #[.bool m, .slice a' l' c'] 24)) w.heap.size n a l c z ∧ NumB ((w.alloc (.cells #[.bool n, .slice a l c] 24)).alloc (.cells #[.bool m, .slice a' l' c'] 24)) (w.heap.size + 1) m a' l' c' z' := by
  refine ⟨(NumB.new h).keep ((Keeps.refl _ _).alloc _), ?_⟩
  have := NumB.new (w := w.alloc (.cells #[.bool n, .slice a l c] 24)) (fun w' hk b hb => h' w' (((Keeps.refl _ w).alloc _).trans hk) b hb)
  rwa [show (w.alloc (.cells #[.bool n, .slice a l c] 24)).heap.size = w.heap.size + 1 by simp] at this


/-- A variable with a number whose digits lie from a block on. -/
def NumE (w : World) (b p : Nat) (z : Int) : Prop := ∃ n a l c, RowAt w p 24 [.bool n, .slice a l c] ∧ NumV w b (.agg #[.bool n, .slice a l c]) z
theorem NumE.keep {w w' : World} {b p : Nat} {z : Int} (h : NumE w b p z) (hk : Keeps (fun _ => False) w w') : NumE w' b p z := by
  obtain ⟨n, a, l, c, h1, h2⟩ := h
  exact ⟨n, a, l, c, hk.row h1 (fun h => h), h2.keep hk (fun _ _ h => h)⟩
theorem NumE.other {w : World} {b p q : Nat} {z : Int} (h : NumE w b p z) (hpq : q ≠ p) {n m : Bool} {u s : Value} (hr : RowAt w q 24 [.bool n, u]) : NumE ((w.setCell ⟨q, 0, none⟩ (.bool m)).setCell ⟨q, 1, none⟩ s) b p z := by
  obtain ⟨n, a, l, c, h1, h2⟩ := h
  exact ⟨n, a, l, c, RowAt.other2 h1 hpq, (h2.setRow2 hr).1⟩
theorem NumE.made {w : World} {b p : Nat} {n m : Bool} {u : Value} {a : Option Addr} {l c : Nat} {z : Int} (hr : RowAt w p 24 [.bool n, u]) (hv : NumV w b (.agg #[.bool m, .slice a l c]) z) : NumE ((w.setCell ⟨p, 0, none⟩ (.bool m)).setCell ⟨p, 1, none⟩ (.slice a l c)) b p z :=
  ⟨m, a, l, c, (hv.setRow2 hr).2, (hv.setRow2 hr).1⟩
theorem NumE.new {w : World} {b : Nat} {m : Bool} {a : Option Addr} {l c : Nat} {z : Int} (hv : NumV w b (.agg #[.bool m, .slice a l c]) z) : NumE (w.alloc (.cells #[.bool m, .slice a l c] 24)) b w.heap.size z :=
  ⟨m, a, l, c, RowAt.new w 24 [.bool m, .slice a l c], hv.keep ((Keeps.refl _ w).alloc _) (fun _ _ h => h)⟩
theorem NumE.lt {w : World} {b p : Nat} {z : Int} (h : NumE w b p z) : p < w.heap.size := by
  obtain ⟨n, a, l, c, h1, h2⟩ := h
  exact h1.lt
/-- Two variables of their own, a number in each. -/
def TwoC (w4 : World) (b : Nat) (z1 z2 : Int) (u v : Value) (wx : World) : Prop := ∃ p q, u = .pointer (some ⟨p, 0, none⟩) ∧ v = .pointer (some ⟨q, 0, none⟩) ∧ p ≠ q ∧ w4.heap.size ≤ p ∧ w4.heap.size ≤ q ∧ NumE wx b p z1 ∧ NumE wx b q z2 ∧ Keeps (fun _ => False) w4 wx
theorem TwoC.symm {w4 : World} {b : Nat} {z1 z2 : Int} {u v : Value} {wx : World} (h : TwoC w4 b z1 z2 u v wx) : TwoC w4 b z2 z1 v u wx := by
  obtain ⟨p, q, h1, h2, h3, h4, h5, h6, h7, h8⟩ := h
  exact ⟨q, p, h2, h1, Ne.symm h3, h5, h4, h7, h6, h8⟩
theorem two_A {w4 w6 : World} {b p q : Nat} {n6 n7 : Bool} {a6 a7 : Option Addr} {l6 c6 l7 c7 : Nat} {z1 z2 : Int} (K6 : Keeps (fun _ => False) w4 w6) (V6 : NumV w6 b (.agg #[.bool n6, .slice a6 l6 c6]) z1) (V7 : NumV w6 b (.agg #[.bool n7, .slice a7 l7 c7]) z2)
    (hp : w4.heap.size ≤ p) (hq : w4.heap.size ≤ q) (h1 : Fr w6 p) (h2 : Fr w6 q) (hpq : p ≠ q) :
    TwoC w4 b z1 z2 (.pointer (some ⟨p, 0, none⟩)) (.pointer (some ⟨q, 0, none⟩)) ((((w6.setCell ⟨p, 0, none⟩ (.bool n6)).setCell ⟨p, 1, none⟩ (.slice a6 l6 c6)).setCell ⟨q, 0, none⟩ (.bool n7)).setCell ⟨q, 1, none⟩ (.slice a7 l7 c7)) := by
  have e1 := NumE.made h1 V6
  have f2 := RowAt.other2 (x := .bool n6) (y := .slice a6 l6 c6) h2 hpq
  have v7 := (V7.setRow2 h1 (m := n6) (s := .slice a6 l6 c6)).1
  exact ⟨p, q, rfl, rfl, hpq, hp, hq, e1.other (Ne.symm hpq) f2, NumE.made f2 v7, (((K6.setCell _ (.inr hp) _).setCell _ (.inr hp) _).setCell _ (.inr hq) _).setCell _ (.inr hq) _⟩
theorem two_B {w4 w6 : World} {b p : Nat} {n6 n7 : Bool} {a6 a7 : Option Addr} {l6 c6 l7 c7 : Nat} {z1 z2 : Int} (K6 : Keeps (fun _ => False) w4 w6) (V6 : NumV w6 b (.agg #[.bool n6, .slice a6 l6 c6]) z1) (V7 : NumV w6 b (.agg #[.bool n7, .slice a7 l7 c7]) z2)
    (hp : w4.heap.size ≤ p) (h1 : Fr w6 p) :
    TwoC w4 b z1 z2 (.pointer (some ⟨p, 0, none⟩)) (.pointer (some ⟨w6.heap.size, 0, none⟩)) (((w6.setCell ⟨p, 0, none⟩ (.bool n6)).setCell ⟨p, 1, none⟩ (.slice a6 l6 c6)).alloc (.cells #[.bool n7, .slice a7 l7 c7] 24)) := by
  have e1 := NumE.made h1 V6
  have v7 := (V7.setRow2 h1 (m := n6) (s := .slice a6 l6 c6)).1
  have hs : ((w6.setCell ⟨p, 0, none⟩ (.bool n6)).setCell ⟨p, 1, none⟩ (.slice a6 l6 c6)).heap.size = w6.heap.size := by simp
  have e2 := NumE.new v7
  rw [hs] at e2
  exact ⟨p, w6.heap.size, rfl, rfl, Nat.ne_of_lt (RowAt.lt h1), hp, K6.size, e1.keep ((Keeps.refl _ _).alloc _), e2, ((K6.setCell _ (.inr hp) _).setCell _ (.inr hp) _).alloc _⟩
theorem two_C {w4 w6 : World} {b q : Nat} {n6 n7 : Bool} {a6 a7 : Option Addr} {l6 c6 l7 c7 : Nat} {z1 z2 : Int} (K6 : Keeps (fun _ => False) w4 w6) (V6 : NumV w6 b (.agg #[.bool n6, .slice a6 l6 c6]) z1) (V7 : NumV w6 b (.agg #[.bool n7, .slice a7 l7 c7]) z2)
    (hq : w4.heap.size ≤ q) (h2 : Fr w6 q) :
    TwoC w4 b z1 z2 (.pointer (some ⟨w6.heap.size, 0, none⟩)) (.pointer (some ⟨q, 0, none⟩)) (((w6.alloc (.cells #[.bool n6, .slice a6 l6 c6] 24)).setCell ⟨q, 0, none⟩ (.bool n7)).setCell ⟨q, 1, none⟩ (.slice a7 l7 c7)) := by
  have e1 := NumE.new V6
  have hlt := RowAt.lt h2
  have f2 := RowAt.alloc h2 (.cells #[.bool n6, .slice a6 l6 c6] 24)
  have v7 := V7.keep ((Keeps.refl (fun _ => False) w6).alloc (.cells #[.bool n6, .slice a6 l6 c6] 24)) (fun _ _ h => h)
  exact ⟨w6.heap.size, q, rfl, rfl, by omega, K6.size, hq, e1.other (by omega) f2, NumE.made f2 v7, ((K6.alloc _).setCell _ (.inr hq) _).setCell _ (.inr hq) _⟩
theorem two_D {w4 w6 : World} {b : Nat} {n6 n7 : Bool} {a6 a7 : Option Addr} {l6 c6 l7 c7 : Nat} {z1 z2 : Int} (K6 : Keeps (fun _ => False) w4 w6) (V6 : NumV w6 b (.agg #[.bool n6, .slice a6 l6 c6]) z1) (V7 : NumV w6 b (.agg #[.bool n7, .slice a7 l7 c7]) z2) :
    TwoC w4 b z1 z2 (.pointer (some ⟨w6.heap.size, 0, none⟩)) (.pointer (some ⟨w6.heap.size + 1, 0, none⟩)) ((w6.alloc (.cells #[.bool n6, .slice a6 l6 c6] 24)).alloc (.cells #[.bool n7, .slice a7 l7 c7] 24)) := by
  have e1 := NumE.new V6
  have v7 := V7.keep ((Keeps.refl (fun _ => False) w6).alloc (.cells #[.bool n6, .slice a6 l6 c6] 24)) (fun _ _ h => h)
  have e2 := NumE.new v7
  have hs : (w6.alloc (.cells #[.bool n6, .slice a6 l6 c6] 24)).heap.size = w6.heap.size + 1 := by simp
  rw [hs] at e2
  exact ⟨w6.heap.size, w6.heap.size + 1, rfl, rfl, by omega, K6.size, by have := K6.size; omega, e1.keep ((Keeps.refl _ _).alloc _), e2, (K6.alloc _).alloc _⟩
/-- What every call of the reference gives. -/
theorem NumV.agg {w : World} {b : Nat} {v : Value} {z : Int} (h : NumV w b v z) : ∃ n a l c, v = .agg #[.bool n, .slice a l c] := by
  obtain ⟨a, c, rfl, _⟩ := h
  exact ⟨_, a, _, c, rfl⟩
theorem NumE.facts {w : World} {b p : Nat} {z : Int} (h : NumE w b p z) : ∃ n a l c, w.cell? ⟨p, 0, none⟩ = some (.bool n) ∧ w.cell? ⟨p, 1, none⟩ = some (.slice a l c) ∧ w.frozen? ⟨p, 0, none⟩ = false ∧ w.frozen? ⟨p, 1, none⟩ = false ∧ RowAt w p 24 [.bool n, .slice a l c] ∧ NumV w b (.agg #[.bool n, .slice a l c]) z := by
  obtain ⟨n, a, l, c, h1, h2⟩ := h
  exact ⟨n, a, l, c, h1.cell 0, h1.cell 1, h1.frozen 0, h1.frozen 1, h1, h2⟩
end Go.Proofs
