/- Parts of the proofs over the numbers of any length: NumB. -/
import Derived.Test.YtacbllkmcldniaaGreatDoorShiftD
import Derived.Test.YtacbllkmcldniaaGreatDoorDivdA
import Derived.Test.YtacbllkmcldniaaGreatDoorSpecD
import Derived.Test.YtacbllkmcldniaaGreatDoorSpecB
import Derived.Test.YtacbllkmcldniaaGreatDoorBaseD
import Derived.Test.YtacbllkmcldniaaGreatDoorSpecA
import Derived.Test.YtacbllkmcldniaaGreatDoorBitB
set_option linter.unusedSimpArgs false
set_option linter.unusedVariables false
namespace Go.Proofs
open Go.RowKit
set_option maxHeartbeats 1600000
set_option linter.unusedVariables false
set_option linter.unusedSimpArgs false
set_option maxRecDepth 100000

theorem RowAt.num {w : World} {p : Nat} {x y : Value} (h : RowAt w p 24 [x, y]) : w.cell? ⟨p, 0, none⟩ = some x ∧ w.cell? ⟨p, 1, none⟩ = some y := ⟨h.cell 0, h.cell 1⟩
theorem Txt.lt {s : ByteArray} {z : Int} (h : Txt s z) : z.natAbs < 10 ^ 200 := by
  obtain ⟨n, l, d, ht, rfl, _⟩ := h
  rw [numZ_abs]
  have h1 := dval_lt (fun k hk => (ht.dig.2 k hk).1)
  have h2 := ht.dig.1
  have h3 := ht.size
  exact Nat.lt_of_lt_of_le h1 (Nat.pow_le_pow_right (by omega) (by omega))
/-- A number of the reference in a block of its own, its parts under names. -/
def NumB (w : World) (p : Nat) (n : Bool) (a : Option Addr) (l c : Nat) (z : Int) : Prop := RowAt w p 24 [.bool n, .slice a l c] ∧ ∀ b, (∀ k, InB a k → b ≤ k) → NumV w b (.agg #[.bool n, .slice a l c]) z
theorem NumB.v {w : World} {p : Nat} {n : Bool} {a : Option Addr} {l c : Nat} {z : Int} (h : NumB w p n a l c z) : NumV w 0 (.agg #[.bool n, .slice a l c]) z := h.2 0 (fun _ _ => Nat.zero_le _)
theorem NumB.keep {w w' : World} {p : Nat} {n : Bool} {a : Option Addr} {l c : Nat} {z : Int} (h : NumB w p n a l c z) (hk : Keeps (fun _ => False) w w') : NumB w' p n a l c z :=
  ⟨hk.row h.1 (fun h => h), fun b hb => (h.2 b hb).keep hk (fun _ _ h => h)⟩
theorem NumB.cells {w : World} {p : Nat} {n : Bool} {a : Option Addr} {l c : Nat} {z : Int} (h : NumB w p n a l c z) : w.cell? ⟨p, 0, none⟩ = some (.bool n) ∧ w.cell? ⟨p, 1, none⟩ = some (.slice a l c) := h.1.num
/-- A number that a call gave, its parts under names. -/
theorem NumV.parts {w : World} {b : Nat} {v : Value} {z : Int} (h : NumV w b v z) : ∃ n a l c, v = .agg #[.bool n, .slice a l c] ∧ (∀ w', Keeps (fun _ => False) w w' → ∀ b, (∀ k, InB a k → b ≤ k) → NumV w' b (.agg #[.bool n, .slice a l c]) z) := by
  obtain ⟨a, c, rfl, hr, _⟩ := h
  exact ⟨_, a, _, c, rfl, fun w' hk b hb => ⟨a, c, rfl, hr.keep hk (fun _ _ h => h), hb⟩⟩
theorem NumB.new {w : World} {n : Bool} {a : Option Addr} {l c : Nat} {z : Int} (h : ∀ w', Keeps (fun _ => False) w w' → ∀ b, (∀ k, InB a k → b ≤ k) → NumV w' b (.agg #[.bool n, .slice a l c]) z) : NumB (w.alloc (.cells #[.bool n, .slice a l c] 24)) w.heap.size n a l c z :=
  ⟨RowAt.new w 24 [.bool n, .slice a l c], h _ ((Keeps.refl _ w).alloc _)⟩
theorem digs_lt {z : Int} {k : Nat} (h : z.natAbs < 10 ^ k) (hk : k ≤ 40000) : (digs z.natAbs).length ≤ 40000 := Nat.le_trans (digs_len h) hk

theorem zbit_div (x : Int) (i : Nat) : x / ((2 ^ i : Nat) : Int) % 2 = zbv x i := by
  by_cases h : x < 0
  · rw [zbv_neg h]
    obtain ⟨m, hm⟩ : ∃ m, m = x.natAbs - 1 := ⟨_, rfl⟩
    have hx : x = -(m : Int) - 1 := by omega
    rw [← hm, hx, neg_ediv m (2 ^ i) (Nat.two_pow_pos i)]
    have h1 := Nat.toNat_testBit m i
    generalize m / 2 ^ i = d at *
    cases hb : m.testBit i with
    | true => rw [hb] at h1; simp at h1 ⊢; omega
    | false => rw [hb] at h1; simp at h1 ⊢; omega
  · rw [zbv_pos (by omega)]
    obtain ⟨m, hm⟩ := Int.eq_ofNat_of_zero_le (show 0 ≤ x by omega)
    subst hm
    unfold bitv
    rw [nat_ediv, Int.natAbs_natCast, Nat.toNat_testBit]
    omega
theorem zbv_eq (x : Int) (i : Nat) (b : Bool) (h : b = zbit x i) : zbv x i = (b.toNat : Int) := by unfold zbv; rw [h]
end Go.Proofs
