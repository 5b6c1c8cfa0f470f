/- Parts of the proofs over the numbers of any length: OneP, OneEnv, ISqrt, ISqrtN, One132. -/
import Derived.Test.YtacbllkmcldniaaGreatDoorOneA
import Derived.Test.YtacbllkmcldniaaGreatDoorShiftB
import Derived.Test.YtacbllkmcldniaaGreatDoorQRA
import Derived.Test.YtacbllkmcldniaaGreatDoorIntA
set_option linter.unusedSimpArgs false
set_option linter.unusedVariables false
namespace Go.Proofs
set_option maxHeartbeats 400000
set_option linter.unusedVariables false

/-- The root of a natural number. -/
noncomputable def rootN (x : Nat) : Nat := Classical.choose (exists_root x)
theorem rootN_is (x : Nat) : IsRoot x (rootN x) := Classical.choose_spec (exists_root x)
theorem rootN_le (x : Nat) : rootN x ≤ x := by
  have h := (rootN_is x).1
  rcases Nat.eq_zero_or_pos (rootN x) with h0 | h0
  · omega
  · have := Nat.mul_le_mul_left (rootN x) h0
    omega
/-- The operation number k of FnBigOne. -/
noncomputable def oneZ (k : Nat) (x : Int) : Int := if k = 0 then -x else if k = 1 then (x.natAbs : Int) else if k = 2 then -x - 1 else if k = 3 then (rootN x.natAbs : Int) else x
theorem oneZ_le (k : Nat) (x : Int) : (oneZ k x).natAbs ≤ x.natAbs + 1 := by
  have := rootN_le x.natAbs
  unfold oneZ
  split
  · omega
  · split
    · omega
    · split
      · omega
      · split <;> omega
end Go.Proofs
namespace Go.Proofs
open Go.RowKit
set_option maxHeartbeats 1000000
set_option linter.unusedVariables false
set_option linter.unusedSimpArgs false
set_option maxRecDepth 100000

theorem Env.neg183 {S : Nat → Prop} {w0 w : World} {V : Nat → Option (TypeId × Int)} (h : Env S w0 w V) {pz px : Nat} {tz tx : TypeId} {z x : Int} (hz : V pz = some (tz, z)) (hx : V px = some (tx, x)) (h1 : x.natAbs < W64 ^ 200) :
    Calls Tryz.prog 183 #[.pointer (some ⟨pz, 0, none⟩), .pointer (some ⟨px, 0, none⟩)] w fun e w' => e = .returned (.pointer (some ⟨pz, 0, none⟩)) ∧ Env S w0 w' (upd V pz tz (-x)) := by
  by_cases hp : pz = px
  · subst hp
    rw [hz] at hx
    cases hx
    exact h.op1 hz fun az lz cz g => neg183_of pz pz tz z az cz w ((set160_same pz tz z az lz cz w g).mono (by rintro e w' ⟨rfl, rfl⟩; exact ⟨rfl, az, lz, cz, g, Into.refl _ _ _, Keeps.refl _ _⟩))
  · exact h.op2 hz hx fun az ax lz cz lx cx g1 g2 a1 _ => neg183_of pz px tz x az cz w (set160_other pz px tz tx z x az ax lz cz lx cx w g1 g2 hp (a1 hp) (Nat.le_trans (g2.len h1) (by omega)))
theorem Env.abs184 {S : Nat → Prop} {w0 w : World} {V : Nat → Option (TypeId × Int)} (h : Env S w0 w V) {pz px : Nat} {tz tx : TypeId} {z x : Int} (hz : V pz = some (tz, z)) (hx : V px = some (tx, x)) (h1 : x.natAbs < W64 ^ 200) :
    Calls Tryz.prog 184 #[.pointer (some ⟨pz, 0, none⟩), .pointer (some ⟨px, 0, none⟩)] w fun e w' => e = .returned (.pointer (some ⟨pz, 0, none⟩)) ∧ Env S w0 w' (upd V pz tz (x.natAbs : Int)) := by
  by_cases hp : pz = px
  · subst hp
    rw [hz] at hx
    cases hx
    exact h.op1 hz fun az lz cz g => abs184_of pz pz tz z az cz w ((set160_same pz tz z az lz cz w g).mono (by rintro e w' ⟨rfl, rfl⟩; exact ⟨rfl, az, lz, cz, g, Into.refl _ _ _, Keeps.refl _ _⟩))
  · exact h.op2 hz hx fun az ax lz cz lx cx g1 g2 a1 _ => abs184_of pz px tz x az cz w (set160_other pz px tz tx z x az ax lz cz lx cx w g1 g2 hp (a1 hp) (Nat.le_trans (g2.len h1) (by omega)))
theorem Env.set160 {S : Nat → Prop} {w0 w : World} {V : Nat → Option (TypeId × Int)} (h : Env S w0 w V) {pz px : Nat} {tz tx : TypeId} {z x : Int} (hz : V pz = some (tz, z)) (hx : V px = some (tx, x)) (h1 : x.natAbs < W64 ^ 200) :
    Calls Tryz.prog 160 #[.pointer (some ⟨pz, 0, none⟩), .pointer (some ⟨px, 0, none⟩)] w fun e w' => e = .returned (.pointer (some ⟨pz, 0, none⟩)) ∧ Env S w0 w' (upd V pz tz x) := by
  by_cases hp : pz = px
  · subst hp
    rw [hz] at hx
    cases hx
    exact h.op1 hz fun az lz cz g => ((set160_same pz tz z az lz cz w g).mono (by rintro e w' ⟨rfl, rfl⟩; exact ⟨rfl, az, lz, cz, g, Into.refl _ _ _, Keeps.refl _ _⟩))
  · exact h.op2 hz hx fun az ax lz cz lx cx g1 g2 a1 _ => set160_other pz px tz tx z x az ax lz cz lx cx w g1 g2 hp (a1 hp) (Nat.le_trans (g2.len h1) (by omega))
theorem Env.not185 {S : Nat → Prop} {w0 w : World} {V : Nat → Option (TypeId × Int)} (h : Env S w0 w V) {pz px : Nat} {tz tx : TypeId} {z x : Int} (hz : V pz = some (tz, z)) (hx : V px = some (tx, x)) (h1 : x.natAbs < W64 ^ 200) :
    Calls Tryz.prog 185 #[.pointer (some ⟨pz, 0, none⟩), .pointer (some ⟨px, 0, none⟩)] w fun e w' => e = .returned (.pointer (some ⟨pz, 0, none⟩)) ∧ Env S w0 w' (upd V pz tz (-x - 1)) := by
  refine h.op2 hz hx fun az ax lz cz lx cx g1 g2 a1 a2 => Go.Proofs.not185 pz px tz tx z x az ax lz cz lx cx w g1 g2 ?_ (Nat.le_trans (g2.len h1) (by omega))
  by_cases hp : pz = px
  · subst hp
    obtain ⟨_, h2, h3, h4⟩ := IntS.same g1 g2
    exact .inl ⟨h2, h3, h4⟩
  · exact .inr (a1 hp)
end Go.Proofs
namespace Go.Proofs
open Go.RowKit
set_option maxHeartbeats 1000000
set_option linter.unusedVariables false
set_option linter.unusedSimpArgs false
set_option maxRecDepth 100000

theorem sqrt186_same (pz tz s : Nat) (z : Int) (az : Option Addr) (lz cz : Nat) (w : World) (hz : IntS w pz tz z az lz cz) (hz0 : 0 ≤ z) (hs : IsRoot z.natAbs s) (hN : z.natAbs < W64 ^ 38) (G : Glob w) (hpG : ¬ GB pz) :
    Calls Tryz.prog 186 #[.pointer (some ⟨pz, 0, none⟩), .pointer (some ⟨pz, 0, none⟩)] w fun e w' => e = .returned (.pointer (some ⟨pz, 0, none⟩)) ∧ IntRes w pz tz az cz (s : Int) w' := by
  obtain ⟨W, hW⟩ : ∃ W, W = w.setCell ⟨pz, 0, none⟩ (.bool false) := ⟨_, rfl⟩
  have hk : Keeps (fun k => k = pz) w W := by rw [hW]; exact Keeps.set1 w pz 0 _
  have hr : IntRow W pz tz false az lz cz := by rw [hW]; exact hz.row.set0
  have hd : Rd W az lz cz (words z.natAbs) := by rw [hW]; exact hz.rd.set_row hz.row _ _
  have HG : Hid (Glob W.drew) := hid ((G.keep hk (fun k hk h => hpG (by rw [← h]; exact hk))).keep (Keeps.refl _ W).drew (fun _ _ h => h))
  obtain ⟨z1, z2, z3, z4⟩ := hz.row.facts
  rw [decide_eq_false (show ¬ z < 0 by omega)] at z1
  obtain ⟨y1, y2, y3, y4⟩ := hr.facts
  have HC := hid (sqrt_any az lz cz az lz cz z.natAbs s W.drew (.inr ⟨rfl, rfl, rfl⟩) hd.drew hs hN HG.out)
  have Hz := hid hz; have HR := hid hr; have HD := hid hd; have HK := hid hk
  clear hz hr hd hk hs hN G hz0
  go_enter Tryz.func186, Tryz.ntmps186
  go_upto_region 4 with fail
  rw [← hW]
  clear hW
  go_region_law (first | (go_simp; go_at_call 224; (with_reducible refine HC.out.mono ?_); rintro e w1 ⟨ra, rl, rc, rfl, h1, h2, h3⟩; obtain ⟨d0, d1, d2, d3⟩ := HR.out.after (((Keeps.refl _ W).drew).trans h3) (HD.out.not_row HR.out); have H1 := hid h1; have H2 := hid h2; have H3 := hid h3; clear h1 h2 h3))
  all_goals go_wp2_with fail
  all_goals go_ret
  all_goals
    have hrow := (((Keeps.refl _ W).drew).trans H3.out).row HR.out (HD.out.not_row HR.out)
    have hkk : Keeps (fun k => k = pz ∨ InB az k) w _ := (HK.out.mono (fun _ _ h => .inl h)).trans ((((Keeps.refl _ W).drew).trans H3.out).mono (fun i _ h => .inr h))
    exact ⟨rfl, _, _, _, ⟨by rw [decide_eq_false (show ¬ ((s : Int) < 0) by omega)]; exact IntRow.set1 hrow, by rw [Int.natAbs_natCast]; exact H1.out.set_row hrow _ _⟩, H2.out.mono HK.out.size, hkk.setCell _ (.inl (.inl rfl)) _⟩
theorem sqrt186_new (pz px tz tx s : Nat) (x : Int) (ax : Option Addr) (lx cx : Nat) (w : World) (hz : IntS w pz tz 0 none 0 0) (hx : IntS w px tx x ax lx cx) (hzx : pz ≠ px) (hx0 : 0 ≤ x) (hs : IsRoot x.natAbs s) (hN : x.natAbs < W64 ^ 38) (G : Glob w) (hpG : ¬ GB pz) :
    Calls Tryz.prog 186 #[.pointer (some ⟨pz, 0, none⟩), .pointer (some ⟨px, 0, none⟩)] w fun e w' => e = .returned (.pointer (some ⟨pz, 0, none⟩)) ∧ IntRes w pz tz none 0 (s : Int) w' := by
  obtain ⟨W, hW⟩ : ∃ W, W = w.setCell ⟨pz, 0, none⟩ (.bool false) := ⟨_, rfl⟩
  have hk : Keeps (fun k => k = pz) w W := by rw [hW]; exact Keeps.set1 w pz 0 _
  have hr : IntRow W pz tz false none 0 0 := by rw [hW]; exact hz.row.set0
  have hd : Rd W none 0 0 [] := Rd.nil W
  have hx' : IntS W px tx x ax lx cx := ⟨hk.row hx.row (fun h => hzx h.symm), by rw [hW]; exact hx.rd.set_row hz.row _ _⟩
  have HG : Hid (Glob W.drew) := hid ((G.keep hk (fun k hk h => hpG (by rw [← h]; exact hk))).keep (Keeps.refl _ W).drew (fun _ _ h => h))
  obtain ⟨z1, z2, z3, z4⟩ := hz.row.facts
  obtain ⟨x1, x2, _, _⟩ := hx.row.facts
  rw [decide_eq_false (show ¬ x < 0 by omega)] at x1
  obtain ⟨u1, u2, _, _⟩ := hx'.row.facts
  obtain ⟨y1, y2, y3, y4⟩ := hr.facts
  have HC := hid (sqrt_any none 0 0 ax lx cx x.natAbs s W.drew (.inl ⟨rfl, rfl, rfl⟩) hx'.rd.drew hs hN HG.out)
  have hxz := Ne.symm hzx
  have Hz := hid hz; have Hx := hid hx; have HX := hid hx'; have HR := hid hr; have HD := hid hd; have HK := hid hk
  clear hz hx hx' hr hd hk hs hN G hx0
  go_enter Tryz.func186, Tryz.ntmps186
  go_upto_region 4 with fail
  rw [← hW]
  clear hW
  go_region_law (first | (go_simp; go_at_call 224; (with_reducible refine HC.out.mono ?_); rintro e w1 ⟨ra, rl, rc, rfl, h1, h2, h3⟩; obtain ⟨d0, d1, d2, d3⟩ := HR.out.after (((Keeps.refl _ W).drew).trans h3) (HD.out.not_row HR.out); have H1 := hid h1; have H2 := hid h2; have H3 := hid h3; clear h1 h2 h3))
  all_goals go_wp2_with fail
  all_goals go_ret
  all_goals
    have hrow := (((Keeps.refl _ W).drew).trans H3.out).row HR.out (HD.out.not_row HR.out)
    have hkk : Keeps (fun k => k = pz ∨ InB none k) w _ := (HK.out.mono (fun _ _ h => .inl h)).trans ((((Keeps.refl _ W).drew).trans H3.out).mono (fun i _ h => .inr h))
    exact ⟨rfl, _, _, _, ⟨by rw [decide_eq_false (show ¬ ((s : Int) < 0) by omega)]; exact IntRow.set1 hrow, by rw [Int.natAbs_natCast]; exact H1.out.set_row hrow _ _⟩, H2.out.mono HK.out.size, hkk.setCell _ (.inl (.inl rfl)) _⟩
end Go.Proofs
namespace Go.Proofs
open Go.RowKit
set_option maxHeartbeats 1000000
set_option linter.unusedVariables false
set_option linter.unusedSimpArgs false
set_option maxRecDepth 100000

theorem sqrt186_neg (pz px tx : Nat) (x : Int) (ax : Option Addr) (lx cx : Nat) (w : World) (hx : IntS w px tx x ax lx cx) (hx0 : x < 0) :
    Calls Tryz.prog 186 #[.pointer (some ⟨pz, 0, none⟩), .pointer (some ⟨px, 0, none⟩)] w fun e w' => Pan e ∧ Keeps (fun _ => False) w w' := by
  obtain ⟨x1, x2, _, _⟩ := hx.row.facts
  rw [decide_eq_true hx0] at x1
  clear hx hx0
  go_enter Tryz.func186, Tryz.ntmps186
  go_wp2_with fail
  exact ⟨rfl, ⟨_, _, rfl⟩, Keeps.refl _ _⟩
end Go.Proofs
namespace Go.Proofs
open Go.RowKit
set_option maxHeartbeats 1000000
set_option linter.unusedVariables false
set_option linter.unusedSimpArgs false
set_option maxRecDepth 100000

theorem w134_panics (p q : Addr) (w : World) (R : World → Prop) (h : Calls Tryz.prog 186 #[.pointer (some p), .pointer (some q)] w.drew fun e w' => Pan e ∧ R w') :
    Calls Tryz.prog 134 #[.pointer (some p), .pointer (some q)] w fun e w' => Pan e ∧ R w' := by
  have H := hid h
  clear h
  obtain ⟨b0, o0, s0⟩ := p
  obtain ⟨b1, o1, s1⟩ := q
  go_enter Tryz.func134, Tryz.ntmps134
  go_wp2_with fail
  go_still_tail 6, (by kernel_rfl)
  go_wp2_with fail
  refine H.out.mono ?_
  rintro e w1 ⟨⟨T, v, rfl⟩, hR⟩
  exact ⟨rfl, ⟨T, v, rfl⟩, hR⟩
end Go.Proofs
