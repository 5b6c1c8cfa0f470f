/- Parts of the proofs over the numbers of any length: Int1, Wrap, Outer. -/
import Derived.StillTailTactics
import Derived.Test.YtacbllkmcldniaaGreatDoorSpecB
import Derived.Test.YtacbllkmcldniaaGreatDoorBaseD
import Derived.Test.YtacbllkmcldniaaGreatDoorBigCmp
set_option linter.unusedSimpArgs false
set_option linter.unusedVariables false
namespace Go.Proofs
open Go.RowKit
set_option maxHeartbeats 400000
set_option linter.unusedVariables false
set_option linter.unusedSimpArgs false
set_option maxRecDepth 100000

/-- A number's array lies apart from another's, where they are two. -/
def Apart (pz px : Nat) (az ax : Option Addr) : Prop := pz ≠ px → ∀ k, InB az k → ¬ InB ax k

theorem setUint64_162 (pz tz : Nat) (z : Int) (az : Option Addr) (lz cz : Nat) (x : Nat) (w : World) (hz : IntS w pz tz z az lz cz) (hx : x < W64) :
    Calls Tryz.prog 162 #[.pointer (some ⟨pz, 0, none⟩), .int .u64 (x : Int)] w fun e w' => e = .returned (.pointer (some ⟨pz, 0, none⟩)) ∧ IntRes w pz tz az cz (x : Int) w' := by
  have Hz := hid hz
  obtain ⟨z1, z2, z3, z4⟩ := hz.row.facts
  have HC := hid (setUint64_any az lz cz _ x w hz.rd hx)
  clear hz
  go_enter Tryz.func162, Tryz.ntmps162
  go_wp2_with fail
  refine HC.out.mono ?_
  rintro e w1 ⟨ra, rl, rc, rfl, h1, h2, h3⟩
  obtain ⟨d0, d1, d2, d3⟩ := Hz.out.row.after h3 (Hz.out.rd.not_row Hz.out.row)
  have H1 := hid h1; have H2 := hid h2; have H3 := hid h3
  clear h1 h2 h3 HC
  go_wp2_with fail
  go_ret
  refine ⟨rfl, IntRes.both (H3.out.row Hz.out.row (Hz.out.rd.not_row Hz.out.row)) H1.out (H2.out) (H3.out.mono (fun i _ h => .inr h)) ?_ ?_⟩
  · exact (decide_eq_false (by omega)).symm
  · omega

theorem setInt64_163 (pz tz : Nat) (z : Int) (az : Option Addr) (lz cz : Nat) (x : Int) (w : World) (hz : IntS w pz tz z az lz cz) (h1 : -9223372036854775808 ≤ x) (h2 : x < 9223372036854775808) :
    Calls Tryz.prog 163 #[.pointer (some ⟨pz, 0, none⟩), .int .i64 x] w fun e w' => e = .returned (.pointer (some ⟨pz, 0, none⟩)) ∧ IntRes w pz tz az cz x w' := by
  have Hz := hid hz
  obtain ⟨z1, z2, z3, z4⟩ := hz.row.facts
  have HC := hid (setUint64_any az lz cz _ x.natAbs w hz.rd (by unfold W64; omega))
  clear hz
  by_cases hneg : x < 0
  · by_cases hmin : x = -9223372036854775808
    · subst hmin
      rw [show (((-9223372036854775808 : Int).natAbs : Nat) : Int) = 9223372036854775808 from rfl] at HC
      go_enter Tryz.func163, Tryz.ntmps163
      go_wp2_with fail
      rw [show IntKind.u64.wrap (wrap64 9223372036854775808) = 9223372036854775808 from by decide +kernel]
      refine HC.out.mono ?_
      rintro e w1 ⟨ra, rl, rc, rfl, h1, h2, h3⟩
      obtain ⟨d0, d1, d2, d3⟩ := Hz.out.row.after h3 (Hz.out.rd.not_row Hz.out.row)
      have H1 := hid h1; have H2 := hid h2; have H3 := hid h3
      clear h1 h2 h3 HC
      go_wp2_with fail
      go_ret
      exact ⟨rfl, IntRes.both (H3.out.row Hz.out.row (Hz.out.rd.not_row Hz.out.row)) H1.out (H2.out) (H3.out.mono (fun i _ h => .inr h)) (by decide) rfl⟩
    · rw [show ((x.natAbs : Nat) : Int) = -x by omega] at HC
      have hb1 : 0 ≤ -x := by omega
      have hb2 : -x < 9223372036854775808 := by omega
      go_enter Tryz.func163, Tryz.ntmps163
      go_wp2_with fail
      refine HC.out.mono ?_
      rintro e w1 ⟨ra, rl, rc, rfl, h1, h2, h3⟩
      obtain ⟨d0, d1, d2, d3⟩ := Hz.out.row.after h3 (Hz.out.rd.not_row Hz.out.row)
      have H1 := hid h1; have H2 := hid h2; have H3 := hid h3
      clear h1 h2 h3 HC
      go_wp2_with fail
      go_ret
      exact ⟨rfl, IntRes.both (H3.out.row Hz.out.row (Hz.out.rd.not_row Hz.out.row)) H1.out (H2.out) (H3.out.mono (fun i _ h => .inr h)) (decide_eq_true hneg).symm rfl⟩
  · rw [show ((x.natAbs : Nat) : Int) = x by omega] at HC
    go_enter Tryz.func163, Tryz.ntmps163
    go_wp2_with fail
    refine HC.out.mono ?_
    rintro e w1 ⟨ra, rl, rc, rfl, h1, h2, h3⟩
    obtain ⟨d0, d1, d2, d3⟩ := Hz.out.row.after h3 (Hz.out.rd.not_row Hz.out.row)
    have H1 := hid h1; have H2 := hid h2; have H3 := hid h3
    clear h1 h2 h3 HC
    go_wp2_with fail
    go_ret
    exact ⟨rfl, IntRes.both (H3.out.row Hz.out.row (Hz.out.rd.not_row Hz.out.row)) H1.out (H2.out) (H3.out.mono (fun i _ h => .inr h)) (decide_eq_false (by omega)).symm rfl⟩

/-- Pointers that are held against each other. -/
theorem neq_ptr117_same (p : Addr) (w : World) : (binOp .neq 117 (.pointer (some p)) (.pointer (some p))).run Tryz.prog w = .ok (.bool false) w := by
  obtain ⟨j, hj, hjs⟩ := Option.map_eq_some_iff.1 size103
  have h : ∀ d : Nat, (Op.equalIn (d + 1) 117 (.pointer (some p)) (.pointer (some p))).run Tryz.prog w = .ok true w := fun d => by
    simp [Op.equalIn, run_underlying Tryz.underlying117, sizeOf, typeInfo, hj, run_sameAddr_same]
  simp only [binOp]
  simp [Op.equal, Op.maxDepth, h 9999]
theorem neq_ptr117_other (p q tp tq : Nat) (np nq : Bool) (ap aq : Option Addr) (lp cp lq cq : Nat) (w : World) (hp : IntRow w p tp np ap lp cp) (hq : IntRow w q tq nq aq lq cq) (hne : p ≠ q) :
    (binOp .neq 117 (.pointer (some ⟨p, 0, none⟩)) (.pointer (some ⟨q, 0, none⟩))).run Tryz.prog w = .ok (.bool true) w := by
  obtain ⟨j, hj, hjs⟩ := Option.map_eq_some_iff.1 size103
  have h : ∀ d : Nat, (Op.equalIn (d + 1) 117 (.pointer (some ⟨p, 0, none⟩)) (.pointer (some ⟨q, 0, none⟩))).run Tryz.prog w = .ok false w := fun d => by
    simp [Op.equalIn, run_underlying Tryz.underlying117, sizeOf, typeInfo, hj, hjs, run_sameAddr_other w (show (⟨p, 0, none⟩ : Addr) ≠ ⟨q, 0, none⟩ from fun h => hne (by injection h)) hp hq]
  simp only [binOp]
  simp [Op.equal, Op.maxDepth, h 9999]

theorem set160_other (pz px tz tx : Nat) (z x : Int) (az ax : Option Addr) (lz cz lx cx : Nat) (w : World) (hz : IntS w pz tz z az lz cz) (hx : IntS w px tx x ax lx cx)
    (hzx : pz ≠ px) (hax : ∀ k, InB az k → ¬ InB ax k) (hlx : lx ≤ 400000) :
    Calls Tryz.prog 160 #[.pointer (some ⟨pz, 0, none⟩), .pointer (some ⟨px, 0, none⟩)] w fun e w' => e = .returned (.pointer (some ⟨pz, 0, none⟩)) ∧ IntRes w pz tz az cz x w' := by
  have Hz := hid hz; have Hx := hid hx
  obtain ⟨z1, z2, z3, z4⟩ := hz.row.facts
  obtain ⟨x1, x2, _, _⟩ := hx.row.facts
  have qE := neq_ptr117_other _ _ _ _ _ _ _ _ _ _ _ _ _ hz.row hx.row hzx
  have HC := hid (set_any az lz cz _ ax lx cx _ w.drew Hz.out.rd.drew Hx.out.rd.drew (by omega))
  have hxz := Ne.symm hzx
  clear hz hx hax
  go_enter Tryz.func160, Tryz.ntmps160
  go_wp2_with fail
  go_region_law (first | (go_simp; go_at_call 208; with_reducible refine HC.out.mono ?_; rintro e w1 ⟨ra, rc, rfl, h1, h2, h3⟩; obtain ⟨d0, d1, d2, d3⟩ := Hz.out.row.after (((Keeps.refl _ w).drew).trans h3) (Hz.out.rd.not_row Hz.out.row); obtain ⟨g0, g1, g2, g3⟩ := Hx.out.row.after (((Keeps.refl _ w).drew).trans h3) (Hz.out.rd.not_row Hx.out.row); have H1 := hid h1; have H2 := hid h2; have H3 := hid h3; clear h1 h2 h3))
  all_goals go_wp2_with fail
  all_goals go_ret
  all_goals exact ⟨rfl, IntRes.both (((Keeps.refl _ w).drew.trans H3.out).row Hz.out.row (Hz.out.rd.not_row Hz.out.row)) H1.out (H2.out.mono (Nat.le_refl _)) (((Keeps.refl _ w).drew.trans H3.out).mono (fun i _ h => .inr h)) rfl rfl⟩

theorem set160_same (pz tz : Nat) (z : Int) (az : Option Addr) (lz cz : Nat) (w : World) (hz : IntS w pz tz z az lz cz) :
    Calls Tryz.prog 160 #[.pointer (some ⟨pz, 0, none⟩), .pointer (some ⟨pz, 0, none⟩)] w fun e w' => e = .returned (.pointer (some ⟨pz, 0, none⟩)) ∧ w' = w := by
  have qE := neq_ptr117_same ⟨pz, 0, none⟩ w
  clear hz
  go_enter Tryz.func160, Tryz.ntmps160
  go_wp2_with fail
  go_ret
  exact ⟨rfl, rfl⟩
end Go.Proofs
namespace Go.Proofs
open Go.RowKit
set_option maxHeartbeats 400000
set_option linter.unusedVariables false
set_option linter.unusedSimpArgs false
set_option maxRecDepth 100000

theorem intS_new (w : World) (t : TypeId) : IntS (w.alloc (.cells #[.bool false, .slice none 0 0] t)) w.heap.size t 0 none 0 0 :=
  ⟨RowAt.new w t [.bool false, .slice none 0 0], by rw [show (0 : Int).natAbs = 0 from rfl, words_zero]; exact Rd.nil _⟩

/-! Each method of the turned package calls the one of the same name. -/
theorem w95 (p : Addr) (x : Int) (w : World) (R : World → Prop) (h : Calls Tryz.prog 162 #[.pointer (some p), .int .u64 x] w fun e w' => (∃ v, e = .returned v) ∧ R w') :
    Calls Tryz.prog 95 #[.pointer (some p), .int .u64 x] w fun e w' => e = .returned (.pointer (some p)) ∧ R w' := by
  have H := hid h
  clear h
  obtain ⟨b0, o0, s0⟩ := p
  go_enter Tryz.func95, Tryz.ntmps95
  go_wp2_with fail
  refine H.out.mono ?_
  rintro e w1 ⟨⟨v, rfl⟩, hR⟩
  have HR := hid hR
  clear hR
  go_wp2_with fail
  go_ret
  exact ⟨rfl, HR.out⟩
theorem w96 (p : Addr) (x : Int) (w : World) (R : World → Prop) (h : Calls Tryz.prog 163 #[.pointer (some p), .int .i64 x] w fun e w' => (∃ v, e = .returned v) ∧ R w') :
    Calls Tryz.prog 96 #[.pointer (some p), .int .i64 x] w fun e w' => e = .returned (.pointer (some p)) ∧ R w' := by
  have H := hid h
  clear h
  obtain ⟨b0, o0, s0⟩ := p
  go_enter Tryz.func96, Tryz.ntmps96
  go_wp2_with fail
  refine H.out.mono ?_
  rintro e w1 ⟨⟨v, rfl⟩, hR⟩
  have HR := hid hR
  clear hR
  go_wp2_with fail
  go_ret
  exact ⟨rfl, HR.out⟩
theorem w98 (p : Addr) (q : Addr) (w : World) (R : World → Prop) (h : Calls Tryz.prog 160 #[.pointer (some p), .pointer (some q)] w fun e w' => (∃ v, e = .returned v) ∧ R w') :
    Calls Tryz.prog 98 #[.pointer (some p), .pointer (some q)] w fun e w' => e = .returned (.pointer (some p)) ∧ R w' := by
  have H := hid h
  clear h
  obtain ⟨b0, o0, s0⟩ := p
  obtain ⟨b1, o1, s1⟩ := q
  go_enter Tryz.func98, Tryz.ntmps98
  go_wp2_with fail
  refine H.out.mono ?_
  rintro e w1 ⟨⟨v, rfl⟩, hR⟩
  have HR := hid hR
  clear hR
  go_wp2_with fail
  go_ret
  exact ⟨rfl, HR.out⟩
theorem w68 (p : Addr) (q : Addr) (r : Addr) (w : World) (R : World → Prop) (h : Calls Tryz.prog 145 #[.pointer (some p), .pointer (some q), .pointer (some r)] w.drew fun e w' => (∃ v, e = .returned v) ∧ R w') :
    Calls Tryz.prog 68 #[.pointer (some p), .pointer (some q), .pointer (some r)] w fun e w' => e = .returned (.pointer (some p)) ∧ R w' := by
  have H := hid h
  clear h
  obtain ⟨b0, o0, s0⟩ := p
  obtain ⟨b1, o1, s1⟩ := q
  obtain ⟨b2, o2, s2⟩ := r
  go_enter Tryz.func68, Tryz.ntmps68
  go_wp2_with fail
  go_still_tail 9, (by kernel_rfl)
  go_wp2_with fail
  refine H.out.mono ?_
  rintro e w1 ⟨⟨v, rfl⟩, hR⟩
  have HR := hid hR
  clear hR
  go_wp2_with fail
  go_ret
  exact ⟨rfl, HR.out⟩
theorem w69 (p : Addr) (q : Addr) (r : Addr) (w : World) (R : World → Prop) (h : Calls Tryz.prog 146 #[.pointer (some p), .pointer (some q), .pointer (some r)] w.drew fun e w' => (∃ v, e = .returned v) ∧ R w') :
    Calls Tryz.prog 69 #[.pointer (some p), .pointer (some q), .pointer (some r)] w fun e w' => e = .returned (.pointer (some p)) ∧ R w' := by
  have H := hid h
  clear h
  obtain ⟨b0, o0, s0⟩ := p
  obtain ⟨b1, o1, s1⟩ := q
  obtain ⟨b2, o2, s2⟩ := r
  go_enter Tryz.func69, Tryz.ntmps69
  go_wp2_with fail
  go_still_tail 9, (by kernel_rfl)
  go_wp2_with fail
  refine H.out.mono ?_
  rintro e w1 ⟨⟨v, rfl⟩, hR⟩
  have HR := hid hR
  clear hR
  go_wp2_with fail
  go_ret
  exact ⟨rfl, HR.out⟩
theorem w70 (p : Addr) (q : Addr) (r : Addr) (w : World) (R : World → Prop) (h : Calls Tryz.prog 147 #[.pointer (some p), .pointer (some q), .pointer (some r)] w.drew fun e w' => (∃ v, e = .returned v) ∧ R w') :
    Calls Tryz.prog 70 #[.pointer (some p), .pointer (some q), .pointer (some r)] w fun e w' => e = .returned (.pointer (some p)) ∧ R w' := by
  have H := hid h
  clear h
  obtain ⟨b0, o0, s0⟩ := p
  obtain ⟨b1, o1, s1⟩ := q
  obtain ⟨b2, o2, s2⟩ := r
  go_enter Tryz.func70, Tryz.ntmps70
  go_wp2_with fail
  go_still_tail 9, (by kernel_rfl)
  go_wp2_with fail
  refine H.out.mono ?_
  rintro e w1 ⟨⟨v, rfl⟩, hR⟩
  have HR := hid hR
  clear hR
  go_wp2_with fail
  go_ret
  exact ⟨rfl, HR.out⟩
theorem w71 (p : Addr) (q : Addr) (r : Addr) (w : World) (R : World → Prop) (h : Calls Tryz.prog 148 #[.pointer (some p), .pointer (some q), .pointer (some r)] w.drew fun e w' => (∃ v, e = .returned v) ∧ R w') :
    Calls Tryz.prog 71 #[.pointer (some p), .pointer (some q), .pointer (some r)] w fun e w' => e = .returned (.pointer (some p)) ∧ R w' := by
  have H := hid h
  clear h
  obtain ⟨b0, o0, s0⟩ := p
  obtain ⟨b1, o1, s1⟩ := q
  obtain ⟨b2, o2, s2⟩ := r
  go_enter Tryz.func71, Tryz.ntmps71
  go_wp2_with fail
  go_still_tail 9, (by kernel_rfl)
  go_wp2_with fail
  refine H.out.mono ?_
  rintro e w1 ⟨⟨v, rfl⟩, hR⟩
  have HR := hid hR
  clear hR
  go_wp2_with fail
  go_ret
  exact ⟨rfl, HR.out⟩
theorem w72 (p : Addr) (q : Addr) (r : Addr) (w : World) (R : World → Prop) (h : Calls Tryz.prog 149 #[.pointer (some p), .pointer (some q), .pointer (some r)] w.drew fun e w' => (∃ v, e = .returned v) ∧ R w') :
    Calls Tryz.prog 72 #[.pointer (some p), .pointer (some q), .pointer (some r)] w fun e w' => e = .returned (.pointer (some p)) ∧ R w' := by
  have H := hid h
  clear h
  obtain ⟨b0, o0, s0⟩ := p
  obtain ⟨b1, o1, s1⟩ := q
  obtain ⟨b2, o2, s2⟩ := r
  go_enter Tryz.func72, Tryz.ntmps72
  go_wp2_with fail
  go_still_tail 9, (by kernel_rfl)
  go_wp2_with fail
  refine H.out.mono ?_
  rintro e w1 ⟨⟨v, rfl⟩, hR⟩
  have HR := hid hR
  clear hR
  go_wp2_with fail
  go_ret
  exact ⟨rfl, HR.out⟩
theorem w73 (p : Addr) (q : Addr) (r : Addr) (w : World) (R : World → Prop) (h : Calls Tryz.prog 150 #[.pointer (some p), .pointer (some q), .pointer (some r)] w.drew fun e w' => (∃ v, e = .returned v) ∧ R w') :
    Calls Tryz.prog 73 #[.pointer (some p), .pointer (some q), .pointer (some r)] w fun e w' => e = .returned (.pointer (some p)) ∧ R w' := by
  have H := hid h
  clear h
  obtain ⟨b0, o0, s0⟩ := p
  obtain ⟨b1, o1, s1⟩ := q
  obtain ⟨b2, o2, s2⟩ := r
  go_enter Tryz.func73, Tryz.ntmps73
  go_wp2_with fail
  go_still_tail 9, (by kernel_rfl)
  go_wp2_with fail
  refine H.out.mono ?_
  rintro e w1 ⟨⟨v, rfl⟩, hR⟩
  have HR := hid hR
  clear hR
  go_wp2_with fail
  go_ret
  exact ⟨rfl, HR.out⟩
theorem w74 (p : Addr) (q : Addr) (r : Addr) (w : World) (R : World → Prop) (h : Calls Tryz.prog 151 #[.pointer (some p), .pointer (some q), .pointer (some r)] w.drew fun e w' => (∃ v, e = .returned v) ∧ R w') :
    Calls Tryz.prog 74 #[.pointer (some p), .pointer (some q), .pointer (some r)] w fun e w' => e = .returned (.pointer (some p)) ∧ R w' := by
  have H := hid h
  clear h
  obtain ⟨b0, o0, s0⟩ := p
  obtain ⟨b1, o1, s1⟩ := q
  obtain ⟨b2, o2, s2⟩ := r
  go_enter Tryz.func74, Tryz.ntmps74
  go_wp2_with fail
  go_still_tail 9, (by kernel_rfl)
  go_wp2_with fail
  refine H.out.mono ?_
  rintro e w1 ⟨⟨v, rfl⟩, hR⟩
  have HR := hid hR
  clear hR
  go_wp2_with fail
  go_ret
  exact ⟨rfl, HR.out⟩
theorem w75 (p : Addr) (q : Addr) (r : Addr) (w : World) (R : World → Prop) (h : Calls Tryz.prog 152 #[.pointer (some p), .pointer (some q), .pointer (some r)] w.drew fun e w' => (∃ v, e = .returned v) ∧ R w') :
    Calls Tryz.prog 75 #[.pointer (some p), .pointer (some q), .pointer (some r)] w fun e w' => e = .returned (.pointer (some p)) ∧ R w' := by
  have H := hid h
  clear h
  obtain ⟨b0, o0, s0⟩ := p
  obtain ⟨b1, o1, s1⟩ := q
  obtain ⟨b2, o2, s2⟩ := r
  go_enter Tryz.func75, Tryz.ntmps75
  go_wp2_with fail
  go_still_tail 9, (by kernel_rfl)
  go_wp2_with fail
  refine H.out.mono ?_
  rintro e w1 ⟨⟨v, rfl⟩, hR⟩
  have HR := hid hR
  clear hR
  go_wp2_with fail
  go_ret
  exact ⟨rfl, HR.out⟩
theorem w76 (p : Addr) (q : Addr) (r : Addr) (w : World) (R : World → Prop) (h : Calls Tryz.prog 153 #[.pointer (some p), .pointer (some q), .pointer (some r)] w.drew fun e w' => (∃ v, e = .returned v) ∧ R w') :
    Calls Tryz.prog 76 #[.pointer (some p), .pointer (some q), .pointer (some r)] w fun e w' => e = .returned (.pointer (some p)) ∧ R w' := by
  have H := hid h
  clear h
  obtain ⟨b0, o0, s0⟩ := p
  obtain ⟨b1, o1, s1⟩ := q
  obtain ⟨b2, o2, s2⟩ := r
  go_enter Tryz.func76, Tryz.ntmps76
  go_wp2_with fail
  go_still_tail 9, (by kernel_rfl)
  go_wp2_with fail
  refine H.out.mono ?_
  rintro e w1 ⟨⟨v, rfl⟩, hR⟩
  have HR := hid hR
  clear hR
  go_wp2_with fail
  go_ret
  exact ⟨rfl, HR.out⟩
theorem w77 (p : Addr) (q : Addr) (r : Addr) (w : World) (R : World → Prop) (h : Calls Tryz.prog 154 #[.pointer (some p), .pointer (some q), .pointer (some r)] w.drew fun e w' => (∃ v, e = .returned v) ∧ R w') :
    Calls Tryz.prog 77 #[.pointer (some p), .pointer (some q), .pointer (some r)] w fun e w' => e = .returned (.pointer (some p)) ∧ R w' := by
  have H := hid h
  clear h
  obtain ⟨b0, o0, s0⟩ := p
  obtain ⟨b1, o1, s1⟩ := q
  obtain ⟨b2, o2, s2⟩ := r
  go_enter Tryz.func77, Tryz.ntmps77
  go_wp2_with fail
  go_still_tail 9, (by kernel_rfl)
  go_wp2_with fail
  refine H.out.mono ?_
  rintro e w1 ⟨⟨v, rfl⟩, hR⟩
  have HR := hid hR
  clear hR
  go_wp2_with fail
  go_ret
  exact ⟨rfl, HR.out⟩
theorem w78 (p : Addr) (q : Addr) (r : Addr) (w : World) (R : World → Prop) (h : Calls Tryz.prog 155 #[.pointer (some p), .pointer (some q), .pointer (some r)] w.drew fun e w' => (∃ v, e = .returned v) ∧ R w') :
    Calls Tryz.prog 78 #[.pointer (some p), .pointer (some q), .pointer (some r)] w fun e w' => e = .returned (.pointer (some p)) ∧ R w' := by
  have H := hid h
  clear h
  obtain ⟨b0, o0, s0⟩ := p
  obtain ⟨b1, o1, s1⟩ := q
  obtain ⟨b2, o2, s2⟩ := r
  go_enter Tryz.func78, Tryz.ntmps78
  go_wp2_with fail
  go_still_tail 9, (by kernel_rfl)
  go_wp2_with fail
  refine H.out.mono ?_
  rintro e w1 ⟨⟨v, rfl⟩, hR⟩
  have HR := hid hR
  clear hR
  go_wp2_with fail
  go_ret
  exact ⟨rfl, HR.out⟩
theorem w91 (p : Addr) (q : Addr) (w : World) (R : World → Prop) (h : Calls Tryz.prog 160 #[.pointer (some p), .pointer (some q)] w.drew fun e w' => (∃ v, e = .returned v) ∧ R w') :
    Calls Tryz.prog 91 #[.pointer (some p), .pointer (some q)] w fun e w' => e = .returned (.pointer (some p)) ∧ R w' := by
  have H := hid h
  clear h
  obtain ⟨b0, o0, s0⟩ := p
  obtain ⟨b1, o1, s1⟩ := q
  go_enter Tryz.func91, Tryz.ntmps91
  go_wp2_with fail
  go_still_tail 6, (by kernel_rfl)
  go_wp2_with fail
  refine H.out.mono ?_
  rintro e w1 ⟨⟨v, rfl⟩, hR⟩
  have HR := hid hR
  clear hR
  go_wp2_with fail
  go_ret
  exact ⟨rfl, HR.out⟩
theorem w131 (p : Addr) (q : Addr) (w : World) (R : World → Prop) (h : Calls Tryz.prog 183 #[.pointer (some p), .pointer (some q)] w.drew fun e w' => (∃ v, e = .returned v) ∧ R w') :
    Calls Tryz.prog 131 #[.pointer (some p), .pointer (some q)] w fun e w' => e = .returned (.pointer (some p)) ∧ R w' := by
  have H := hid h
  clear h
  obtain ⟨b0, o0, s0⟩ := p
  obtain ⟨b1, o1, s1⟩ := q
  go_enter Tryz.func131, Tryz.ntmps131
  go_wp2_with fail
  go_still_tail 6, (by kernel_rfl)
  go_wp2_with fail
  refine H.out.mono ?_
  rintro e w1 ⟨⟨v, rfl⟩, hR⟩
  have HR := hid hR
  clear hR
  go_wp2_with fail
  go_ret
  exact ⟨rfl, HR.out⟩
theorem w132 (p : Addr) (q : Addr) (w : World) (R : World → Prop) (h : Calls Tryz.prog 184 #[.pointer (some p), .pointer (some q)] w.drew fun e w' => (∃ v, e = .returned v) ∧ R w') :
    Calls Tryz.prog 132 #[.pointer (some p), .pointer (some q)] w fun e w' => e = .returned (.pointer (some p)) ∧ R w' := by
  have H := hid h
  clear h
  obtain ⟨b0, o0, s0⟩ := p
  obtain ⟨b1, o1, s1⟩ := q
  go_enter Tryz.func132, Tryz.ntmps132
  go_wp2_with fail
  go_still_tail 6, (by kernel_rfl)
  go_wp2_with fail
  refine H.out.mono ?_
  rintro e w1 ⟨⟨v, rfl⟩, hR⟩
  have HR := hid hR
  clear hR
  go_wp2_with fail
  go_ret
  exact ⟨rfl, HR.out⟩
theorem w133 (p : Addr) (q : Addr) (w : World) (R : World → Prop) (h : Calls Tryz.prog 185 #[.pointer (some p), .pointer (some q)] w.drew fun e w' => (∃ v, e = .returned v) ∧ R w') :
    Calls Tryz.prog 133 #[.pointer (some p), .pointer (some q)] w fun e w' => e = .returned (.pointer (some p)) ∧ R w' := by
  have H := hid h
  clear h
  obtain ⟨b0, o0, s0⟩ := p
  obtain ⟨b1, o1, s1⟩ := q
  go_enter Tryz.func133, Tryz.ntmps133
  go_wp2_with fail
  go_still_tail 6, (by kernel_rfl)
  go_wp2_with fail
  refine H.out.mono ?_
  rintro e w1 ⟨⟨v, rfl⟩, hR⟩
  have HR := hid hR
  clear hR
  go_wp2_with fail
  go_ret
  exact ⟨rfl, HR.out⟩
theorem w134 (p : Addr) (q : Addr) (w : World) (R : World → Prop) (h : Calls Tryz.prog 186 #[.pointer (some p), .pointer (some q)] w.drew fun e w' => (∃ v, e = .returned v) ∧ R w') :
    Calls Tryz.prog 134 #[.pointer (some p), .pointer (some q)] w fun e w' => e = .returned (.pointer (some p)) ∧ R w' := by
  have H := hid h
  clear h
  obtain ⟨b0, o0, s0⟩ := p
  obtain ⟨b1, o1, s1⟩ := q
  go_enter Tryz.func134, Tryz.ntmps134
  go_wp2_with fail
  go_still_tail 6, (by kernel_rfl)
  go_wp2_with fail
  refine H.out.mono ?_
  rintro e w1 ⟨⟨v, rfl⟩, hR⟩
  have HR := hid hR
  clear hR
  go_wp2_with fail
  go_ret
  exact ⟨rfl, HR.out⟩
theorem w105 (p : Addr) (q : Addr) (x : Int) (w : World) (R : World → Prop) (h : Calls Tryz.prog 166 #[.pointer (some p), .pointer (some q), .int .u64 x] w.drew fun e w' => (∃ v, e = .returned v) ∧ R w') :
    Calls Tryz.prog 105 #[.pointer (some p), .pointer (some q), .int .u64 x] w fun e w' => e = .returned (.pointer (some p)) ∧ R w' := by
  have H := hid h
  clear h
  obtain ⟨b0, o0, s0⟩ := p
  obtain ⟨b1, o1, s1⟩ := q
  go_enter Tryz.func105, Tryz.ntmps105
  go_wp2_with fail
  go_still_tail 7, (by kernel_rfl)
  go_wp2_with fail
  refine H.out.mono ?_
  rintro e w1 ⟨⟨v, rfl⟩, hR⟩
  have HR := hid hR
  clear hR
  go_wp2_with fail
  go_ret
  exact ⟨rfl, HR.out⟩
theorem w106 (p : Addr) (q : Addr) (x : Int) (w : World) (R : World → Prop) (h : Calls Tryz.prog 167 #[.pointer (some p), .pointer (some q), .int .u64 x] w.drew fun e w' => (∃ v, e = .returned v) ∧ R w') :
    Calls Tryz.prog 106 #[.pointer (some p), .pointer (some q), .int .u64 x] w fun e w' => e = .returned (.pointer (some p)) ∧ R w' := by
  have H := hid h
  clear h
  obtain ⟨b0, o0, s0⟩ := p
  obtain ⟨b1, o1, s1⟩ := q
  go_enter Tryz.func106, Tryz.ntmps106
  go_wp2_with fail
  go_still_tail 7, (by kernel_rfl)
  go_wp2_with fail
  refine H.out.mono ?_
  rintro e w1 ⟨⟨v, rfl⟩, hR⟩
  have HR := hid hR
  clear hR
  go_wp2_with fail
  go_ret
  exact ⟨rfl, HR.out⟩
end Go.Proofs
namespace Go.Proofs
open Go.RowKit
set_option maxHeartbeats 400000
set_option linter.unusedVariables false
set_option linter.unusedSimpArgs false
set_option maxRecDepth 100000

/-- Blocks of one cell each, made one after the other. -/
def boxed (w : World) : List (TypeId × Value) → World
  | [] => w
  | x :: r => boxed (w.alloc (.cells #[x.2] x.1)) r
theorem boxed_size (w : World) (L : List (TypeId × Value)) : (boxed w L).heap.size = w.heap.size + L.length := by
  induction L generalizing w with
  | nil => rfl
  | cons x r ih => rw [boxed, ih]; simp; omega
theorem boxed_keeps (w : World) (L : List (TypeId × Value)) : Keeps (fun _ => False) w (boxed w L) := by
  induction L generalizing w with
  | nil => exact Keeps.refl _ w
  | cons x r ih => exact ((Keeps.refl _ w).alloc _).trans (ih _)
theorem boxed_row (w : World) (L : List (TypeId × Value)) (i : Nat) (x : TypeId × Value) (h : L[i]? = some x) : RowAt (boxed w L) (w.heap.size + i) x.1 [x.2] := by
  induction L generalizing w i with
  | nil => simp at h
  | cons y r ih =>
    cases i with
    | zero =>
      simp only [List.getElem?_cons_zero, Option.some.injEq] at h
      subst h
      exact (boxed_keeps _ r).row (RowAt.new w y.1 [y.2]) (fun h => h)
    | succ i =>
      have := ih (w.alloc (.cells #[y.2] y.1)) i (by simpa using h)
      rw [show (w.alloc (.cells #[y.2] y.1)).heap.size + i = w.heap.size + (i + 1) by simp; omega] at this
      exact this

/-- What the results' cells hold. -/
def OutL (w : World) (L : List (Nat × TypeId × Value)) : Prop := ∀ x ∈ L, RowAt w x.1 x.2.1 [x.2.2]
theorem OutL.drew {w : World} {L : List (Nat × TypeId × Value)} (h : OutL w L) : OutL w.drew L := h
theorem OutL.again {w : World} {L : List (Nat × TypeId × Value)} (h : OutL w L) {p : Nat} {v : Value} (hp : ∃ t, (p, t, v) ∈ L) : OutL (w.setCell ⟨p, 0, none⟩ v) L := by
  obtain ⟨t, hp⟩ := hp
  intro x hx
  by_cases he : p = x.1
  · subst he
    have h1 := h x hx
    have h2 := h _ hp
    have := RowAt.inj h1 h2
    injection this with this
    have h3 := h1.set 0 v
    simp only [List.set_cons_zero] at h3
    rw [this]; exact h3
  · exact (h x hx).other (show (⟨p, 0, none⟩ : Addr).block ≠ x.1 from he) v
theorem OutL.keep {w w' : World} {S : Nat → Prop} {L : List (Nat × TypeId × Value)} (h : OutL w L) (hk : Keeps S w w') (hS : ∀ x ∈ L, ¬ S x.1) : OutL w' L := fun x hx => hk.row (h x hx) (hS x hx)
theorem OutL.cell {w : World} {L : List (Nat × TypeId × Value)} (h : OutL w L) {p : Nat} {t : TypeId} {v : Value} (hp : (p, t, v) ∈ L) : w.cell? ⟨p, 0, none⟩ = some v := (h _ hp).cell 0
theorem OutL.frozen {w : World} {L : List (Nat × TypeId × Value)} (h : OutL w L) {p : Nat} {t : TypeId} {v : Value} (hp : (p, t, v) ∈ L) : w.frozen? ⟨p, 0, none⟩ = false := (h _ hp).frozen 0

/-- One of the results' blocks. -/
def OutK (L : List (Nat × TypeId × Value)) (k : Nat) : Prop := ∃ x ∈ L, k = x.1

/-- A function that is run safely and does not panic. -/
theorem safe_outs (F : FuncId) (cap : Array Value) (W : World) (L : List (Nat × TypeId × Value)) (hcf : ∀ w, (callFunc F cap).run Tryz.prog w = .ok (.enter F cap) w) (hL : ∀ x ∈ L, x.1 < W.heap.size)
    (h : ∀ w1, w1.heap.size = W.heap.size + 1 → Keeps (fun _ => False) W w1 → Calls Tryz.prog F cap w1 fun e w' => e = .returned (.tuple #[]) ∧ OutL w' L ∧ Keeps (OutK L) w1 w') :
    Calls Tryz.prog 65 #[.func (.func F) #[] cap] W fun e w' => e = .returned (.bool true) ∧ OutL w' L ∧ Keeps (OutK L) W w' := by
  have hk8 : Keeps (fun _ => False) W (W.alloc (.cells #[.bool false] 4)) := (Keeps.refl _ W).alloc _
  have hnk : ¬ OutK L W.heap.size := by
    rintro ⟨x, hx, he⟩
    have := hL x hx
    omega
  refine (safe_any F cap W (fun w1 => OutL w1 L ∧ Keeps (OutK L) W w1) hcf ?_).mono ?_
  · refine (h _ (by simp) hk8).mono ?_
    rintro e w' ⟨rfl, h1, h2⟩
    refine ⟨rfl, ⟨h1, hk8.any.trans h2⟩, h2.row (RowAt.new W 4 [.bool false]) hnk⟩
  · rintro e w' ⟨rfl, w1, ⟨h1, h2⟩, rfl⟩
    refine ⟨rfl, fun x hx => ?_, (h2.setCell _ (.inr (Nat.le_refl _)) _).setCell _ (.inr (Nat.le_refl _)) _⟩
    have hne : W.heap.size ≠ x.1 := by have := hL x hx; omega
    exact ((h1 x hx).other (show (⟨W.heap.size, 0, none⟩ : Addr).block ≠ x.1 from hne) _).other (show (⟨W.heap.size, 0, none⟩ : Addr).block ≠ x.1 from hne) _
/-- Only new blocks have turned. -/
theorem Keeps.fresh {S : Nat → Prop} {w w1 w2 : World} (h : Keeps (fun _ => False) w w1) (k : Keeps S w1 w2) (hS : ∀ i, S i → w.heap.size ≤ i) : Keeps (fun _ => False) w w2 :=
  h.trans' k (fun i hi hs => by have := hS i hs; omega)
end Go.Proofs
