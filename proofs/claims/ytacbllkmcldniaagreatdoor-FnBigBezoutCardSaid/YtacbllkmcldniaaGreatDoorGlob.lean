/- Parts of the proofs over the numbers of any length: Glob. -/
import Derived.Test.YtacbllkmcldniaaGreatDoorRows
import Derived.ProofKit
import Derived.LaidMore
import Derived.LaidLaws
import Derived.LaidHandle
import Derived.MakeChecks
import Derived.OpenShut
import Derived.Stop.Joined
import Derived.Stop.ErrReads
import Derived.Test.YtacbllkmcldniaaGreatDoorBaseB
set_option linter.unusedSimpArgs false
set_option linter.unusedVariables false
namespace Go.Proofs
open Go.ChangeShapes Go.WideShapes Go.ChangeAt Go.WideElems Go.RowKit
set_option maxHeartbeats 400000
set_option linter.unusedVariables false
set_option linter.unusedSimpArgs false
set_option maxRecDepth 100000

theorem laidVars_at {P : Program} {w : World} {l : List (String × DataW Unit)} {ps : List MemPlace} (h : DataW.LaidVars P w l ps) {n : String} {d : DataW Unit} (hm : (n, d) ∈ l) :
    ∃ g t cs fuel p, P.globalNamed n = some g ∧ (P.globals[g]?).map (·.type) = some t ∧ w.var? P n = some cs ∧ DataW.trod (fun _ => ()) P w 0 (fun _ => true) false fuel t cs.toList = some (d, p) ∧
      ∀ x ∈ MemPlace.row ⟨g, 0, none⟩ cs.size, x ∈ ps := by
  induction l generalizing ps with
  | nil => cases hm
  | cons a r ih =>
    obtain ⟨n', d'⟩ := a
    obtain ⟨g, t, cs, fuel, p, q, h1, h2, h3, h4, h5, rfl⟩ := h
    rcases List.mem_cons.1 hm with hm | hm
    · cases hm
      exact ⟨g, t, cs, fuel, p, h1, h2, h3, h4, fun x hx => List.mem_append_left _ (List.mem_append_left _ hx)⟩
    · obtain ⟨g, t, cs, fuel, p, k1, k2, k3, k4, k5⟩ := ih h5 hm
      exact ⟨g, t, cs, fuel, p, k1, k2, k3, k4, fun x hx => List.mem_append_right _ (k5 x hx)⟩

theorem laid_int {w : World} {l : List (String × DataW Unit)} {ps : List MemPlace} (h : DataW.LaidVars Tryz.prog w l ps) {n : String} {z : Int} (hm : (n, (DataW.lit (.int .i64 z) : DataW Unit)) ∈ l)
    (g0 : Nat) (hg : Tryz.prog.globalNamed n = some g0) (ht : (Tryz.prog.globals[g0]?).map (·.type) = some 3) : w.cell? ⟨g0, 0, none⟩ = some (.int .i64 z) := by
  obtain ⟨g, t, cs, fuel, p, h1, h2, h3, h4, _⟩ := laidVars_at h hm
  obtain rfl := Option.some.inj (hg.symm.trans h1)
  obtain rfl := Option.some.inj (ht.symm.trans h2)
  obtain ⟨k, e1, e2, _⟩ := DataW.trod_int Tryz.underlying3 h4
  have : k = z := by simpa using (congrArg Prod.fst e2).symm
  subst this
  rw [World.var?_cell h1 h3 0]
  obtain ⟨c⟩ := cs
  simp only at e1
  subst e1
  rfl
theorem row221 (u : TypeId) (h : Tryz.prog.typeName? 3 u = some "*errors.errorString") : u = 221 :=
  typeName_ptr_named (nm := "errors.errorString") (by rw [show "*" ++ "errors.errorString" = "*errors.errorString" from by decide]; kernel_rfl) (by kernel_rfl) (by decide) u (by rw [show "*" ++ "errors.errorString" = "*errors.errorString" from by decide]; exact h)

theorem c223 : Tryz.prog.cellsOf 223 = 1 := by kernel_rfl
theorem c9 : Tryz.prog.cellsOf 9 = 1 := by kernel_rfl
theorem c5 : Tryz.prog.cellsOf 5 = 1 := by kernel_rfl
open YtacbllkmcldniaaGreatDoor in
/-- What the condition of the rows gives a walk. -/
theorem glob_of_laid {W : World} (h : laidMetH Tryz.prog Rows.fnBigCompareRow.laid W) : Glob W := by
  rw [MakeChecks.laidMetH_plain _ _ _ (by kernel_rfl)] at h
  obtain ⟨ps, hv, hnd, hrows⟩ := h
  refine ⟨?_, ?_, ?_, ?_, ?_, ?_, ?_⟩
  · obtain ⟨g, t, cs, fuel, p, h1, h2, h3, h4, h5⟩ := laidVars_at (n := "io.EOF") (d := Rows.laid_io_EOF) hv (.tail _ (.tail _ (.head _)))
    obtain rfl := Option.some.inj ((show Tryz.prog.globalNamed "io.EOF" = some 0 by kernel_rfl).symm.trans h1)
    obtain rfl := Option.some.inj ((show (Tryz.prog.globals[0]?).map (·.type) = some 124 by kernel_rfl).symm.trans h2)
    obtain ⟨l0⟩ := cs
    have ok0 : ∀ u v, l0 = [.iface u v] → Value.okWide Tryz.prog W .any 0 u v := fun u v e => by
      subst e
      exact (hrows 0 0 (h5 _ (by simp [MemPlace.row]))).2 u v (by simpa using World.var?_cell h1 h3 0)
    obtain ⟨a0, s0, rfl, _⟩ := errorString_of_trod Tryz.underlying124 row221 Tryz.underlying221 Tryz.underlying223 rfl rfl Tryz.underlying9 c223 c9 h4 ok0
    exact ⟨a0, by rw [World.var?_cell h1 h3 0]; rfl⟩
  · exact laid_int hv (n := "pub-gyrfalcon/pub/bigall.basicSqrThreshold") (.tail _ (.tail _ (.tail _ (.tail _ (.tail _ (.tail _ (.tail _ (.tail _ (.head _))))))))) 1 (by kernel_rfl) (by kernel_rfl)
  · exact laid_int hv (n := "pub-gyrfalcon/pub/bigall.karatsubaSqrThreshold") (.tail _ (.tail _ (.tail _ (.tail _ (.tail _ (.tail _ (.tail _ (.tail _ (.tail _ (.head _)))))))))) 2 (by kernel_rfl) (by kernel_rfl)
  · exact laid_int hv (n := "pub-gyrfalcon/pub/bigall.karatsubaThreshold") (.tail _ (.tail _ (.tail _ (.tail _ (.tail _ (.tail _ (.tail _ (.head _)))))))) 3 (by kernel_rfl) (by kernel_rfl)
  · exact laid_int hv (n := "pub-gyrfalcon/pub/bigall.divRecursiveThreshold") (.tail _ (.tail _ (.tail _ (.tail _ (.tail _ (.tail _ (.head _))))))) 4 (by kernel_rfl) (by kernel_rfl)
  · exact laid_int hv (n := "pub-gyrfalcon/pub/bigall.leafSize") (.tail _ (.tail _ (.tail _ (.tail _ (.tail _ (.head _)))))) 6 (by kernel_rfl) (by kernel_rfl)
  · obtain ⟨g, t, cs, fuel, p, h1, h2, h3, h4, h5⟩ := laidVars_at (n := "math/bits.deBruijn64tab") (d := Rows.laid_math_bits_deBruijn64tab) hv (.tail _ (.head _))
    obtain rfl := Option.some.inj ((show Tryz.prog.globalNamed "math/bits.deBruijn64tab" = some 8 by kernel_rfl).symm.trans h1)
    obtain rfl := Option.some.inj ((show (Tryz.prog.globals[8]?).map (·.type) = some 274 by kernel_rfl).symm.trans h2)
    obtain ⟨xs, m1, rfl, hx1, hlen, hn3, hel⟩ := DataW.trod_array Tryz.underlying274 h4
    intro i hi
    have hi' := hel i hi
    rw [c5, Nat.mul_one] at hi'
    have hxi : xs[i]? = some xs[i] := List.getElem?_eq_getElem (by omega)
    rw [hxi] at hi'
    obtain ⟨k, e1, e2, _⟩ := DataW.trod_int Tryz.underlying5 hi'
    have hm : (xs.map (·.1))[i]? = some (.lit (.int .u8 k)) := by
      rw [List.getElem?_map, hxi, e2]; rfl
    have hd := congrArg Prod.fst hx1
    unfold Rows.laid_math_bits_deBruijn64tab at hd
    injection hd with hd
    rw [← hd] at hm
    have hc : W.cell? ⟨8, i, none⟩ = some (.int .u8 k) := by
      rw [World.var?_cell h1 h3 i]
      obtain ⟨c⟩ := cs
      simp only at e1 ⊢
      have : (c.drop i)[0]? = some (.int .u8 k) := by
        have h6 := congrArg (fun l : List Value => l[0]?) e1
        simpa using h6
      rw [List.getElem?_drop, Nat.add_zero] at this
      simpa using this
    rw [hc]
    congr 2
    have key : ∀ j : Fin 64, ∀ k : Int, (([0, 1, 56, 2, 57, 49, 28, 3, 61, 58, 42, 50, 38, 29, 17, 4, 62, 47, 59, 36, 45, 43, 51, 22, 53, 39, 33, 30, 24, 18, 12, 5, 63, 55, 48, 27, 60, 41, 37, 16, 46, 35, 44, 21, 52, 32, 23, 11, 54, 26, 40, 15, 34, 20, 31, 10, 25, 14, 19, 9, 13, 8, 7, 6] : List Int).map fun z => (DataW.lit (.int .u8 z) : DataW Unit))[j.1]? = some (.lit (.int .u8 k)) → k = ([0, 1, 56, 2, 57, 49, 28, 3, 61, 58, 42, 50, 38, 29, 17, 4, 62, 47, 59, 36, 45, 43, 51, 22, 53, 39, 33, 30, 24, 18, 12, 5, 63, 55, 48, 27, 60, 41, 37, 16, 46, 35, 44, 21, 52, 32, 23, 11, 54, 26, 40, 15, 34, 20, 31, 10, 25, 14, 19, 9, 13, 8, 7, 6] : List Int).getD j.1 0 := by
      intro j k hj
      rw [List.getElem?_map] at hj
      rw [List.getD_eq_getElem?_getD]
      cases hq : ([0, 1, 56, 2, 57, 49, 28, 3, 61, 58, 42, 50, 38, 29, 17, 4, 62, 47, 59, 36, 45, 43, 51, 22, 53, 39, 33, 30, 24, 18, 12, 5, 63, 55, 48, 27, 60, 41, 37, 16, 46, 35, 44, 21, 52, 32, 23, 11, 54, 26, 40, 15, 34, 20, 31, 10, 25, 14, 19, 9, 13, 8, 7, 6] : List Int)[j.1]? with
      | none => rw [hq] at hj; cases hj
      | some v =>
        rw [hq] at hj
        simp only [Option.map_some, Option.some.injEq, DataW.lit.injEq, Lit.int.injEq, true_and] at hj
        rw [hj]; rfl
    exact key ⟨i, hi⟩ k hm
end Go.Proofs
