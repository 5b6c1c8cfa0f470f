/- Parts of the proofs over the numbers of any length: Panic. -/
import Derived.Test.YtacbllkmcldniaaGreatDoorBaseD
import Derived.Test.YtacbllkmcldniaaGreatDoorDivD
set_option linter.unusedSimpArgs false
set_option linter.unusedVariables false
namespace Go.Proofs
open Go.RowKit
set_option maxHeartbeats 400000
set_option linter.unusedVariables false
set_option linter.unusedSimpArgs false
set_option maxRecDepth 100000

/-- It ends in a panic with a value that is told. -/
def Pan (e : Ending) : Prop := ∃ T x, e = .panicked [{ v := .iface T x, recovered := false }]

theorem catch144_panic (p : Addr) (b : Bool) (T : TypeId) (x : Value) (w : World) (hc : w.cell? p = some (.bool b)) (hz : w.frozen? p = false) :
    CallsD Tryz.prog 144 #[.pointer (some p)] (.panicking [{ v := .iface T x, recovered := false }]) w fun e u' w' => e = .returned (.tuple #[]) ∧ u' = .panicking [{ v := .iface T x, recovered := true }] ∧ w' = w.setCell p (.bool false) := by
  have hnn : ∀ w, (binOp .eql 20 (.iface T x) .nilIface).run Tryz.prog w = .ok (.bool false) w := fun w => by simp [go_sem]
  refine callsD_of_wpS Tryz.func144 rfl fun c₀ cs hu => ?_
  apply wpS_region
  simp [wpOpsS, go_sem, recoverD, hu, Tryz.ntmps144, Exit.thenS, hc, hz, hnn, bodyPostS, results, Tryz.results144]

theorem safe_panics (F : FuncId) (cap : Array Value) (w : World) (R : World → Prop)
    (hcf : ∀ w, (callFunc F cap).run Tryz.prog w = .ok (.enter F cap) w) (h : Calls Tryz.prog F cap (w.alloc (.cells #[.bool false] 4)) fun e w' => Pan e ∧ R w' ∧ RowAt w' w.heap.size 4 [.bool false]) :
    Calls Tryz.prog 65 #[.func (.func F) #[] cap] w fun e w' => e = .returned (.bool false) ∧ ∃ w1, R w1 ∧ w' = w1.setCell ⟨w.heap.size, 0, none⟩ (.bool false) := by
  have hmf : ∀ (fn : Fn) (first cap : Array Value) (w : World), (Instr.makeFunc fn first cap).run Tryz.prog w = .ok (.func fn first cap) w := fun _ _ _ _ => rfl
  have H := hid h
  clear h
  go_enter_defers Tryz.func65, Tryz.ntmps65
  go_wp2_with fail
  refine H.out.mono ?_
  rintro e w1 ⟨⟨T, x, rfl⟩, hR, hr⟩
  have c1 : w1.cell? ⟨w.heap.size, 0, none⟩ = some (.bool false) := hr.cell 0
  have f1 := hr.frozen 0
  have HR := hid hR
  have c2 : (w1.setCell ⟨w.heap.size, 0, none⟩ (.bool false)).cell? ⟨w.heap.size, 0, none⟩ = some (.bool false) := (hr.set 0 (.bool false)).cell 0
  clear hR hr
  refine leaves_cons (f := 144) (args := #[.pointer (some ⟨w.heap.size, 0, none⟩)]) (by simp) (by simp [go_sem]) ?_
  refine (catch144_panic ⟨w.heap.size, 0, none⟩ false T x _ c1 f1).mono ?_
  rintro e u' w'' ⟨rfl, rfl, rfl⟩
  refine ⟨.bool false, ?_, rfl, w1, HR.out, rfl⟩
  simp [results, Tryz.results65, go_sem, c2]

theorem div199_zero (s : Option Addr) (a : Option Addr) (l c : Nat) (a2 : Option Addr) (l2 c2 : Nat) (x : Option Addr) (xl xc : Nat) (y : Option Addr) (yc : Nat) (w : World) :
    Calls Tryz.prog 199 #[.slice a l c, .pointer s, .slice a2 l2 c2, .slice x xl xc, .slice y 0 yc] w fun e w' => Pan e ∧ w' = w := by
  go_enter_defers Tryz.func199, Tryz.ntmps199
  go_wp2_with fail
  exact ⟨⟨9, _, rfl⟩, rfl⟩
end Go.Proofs
