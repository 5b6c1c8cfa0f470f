/- Parts of the proofs over the numbers of any length: QRZ, BothZ. -/
import Derived.RegionDies
import Derived.Deep.RegionHeld2
import Derived.Test.YtacbllkmcldniaaGreatDoorQRA
import Derived.Test.YtacbllkmcldniaaGreatDoorShiftB
set_option linter.unusedSimpArgs false
set_option linter.unusedVariables false
namespace Go.Proofs
open Go.RowKit
set_option maxHeartbeats 16000000
set_option linter.unusedVariables false
set_option linter.unusedSimpArgs false
set_option maxRecDepth 100000

/-- A division by 0 panics. -/
theorem quoRem164_zero (pz px py pr tz tx ty tr : Nat) (z x r : Int) (az ax ay ar : Option Addr) (lz cz lx cx ly cy lr cr : Nat) (w : World)
    (hz : IntS w pz tz z az lz cz) (hx : IntS w px tx x ax lx cx) (hy : IntS w py ty 0 ay ly cy) (hr : IntS w pr tr r ar lr cr) :
    Calls Tryz.prog 164 #[.pointer (some ⟨pz, 0, none⟩), .pointer (some ⟨px, 0, none⟩), .pointer (some ⟨py, 0, none⟩), .pointer (some ⟨pr, 0, none⟩)] w fun e w' => Pan e ∧ Keeps (fun _ => False) w w' := by
  have hly : ly = 0 := by rw [← hy.rd.length, show (0 : Int).natAbs = 0 from rfl, words_zero]; rfl
  subst hly
  obtain ⟨_, z2, _, _⟩ := hz.row.facts
  obtain ⟨_, x2, _, _⟩ := hx.row.facts
  obtain ⟨_, y2, _, _⟩ := hy.row.facts
  obtain ⟨_, r2, _, _⟩ := hr.row.facts
  have Hcall := hid (div199_zero none az lz cz ar lr cr ax lx cx ay cy w.drew)
  clear hz hx hy hr
  go_enter Tryz.func164, Tryz.ntmps164
  go_wp2_with fail
  go_region_dies
  all_goals
    refine Hcall.out.mono ?_
    rintro e w1 ⟨⟨T, v, rfl⟩, rfl⟩
    exact ⟨rfl, ⟨T, v, rfl⟩, (Keeps.refl _ w).drew⟩
theorem w101_panics (p q s t : Addr) (w : World) (R : World → Prop) (h : Calls Tryz.prog 164 #[.pointer (some p), .pointer (some q), .pointer (some s), .pointer (some t)] w.drew fun e w' => Pan e ∧ R w') :
    Calls Tryz.prog 101 #[.pointer (some p), .pointer (some q), .pointer (some s), .pointer (some t)] w fun e w' => Pan e ∧ R w' := by
  have H := hid h
  clear h
  obtain ⟨b0, o0, s0⟩ := p
  obtain ⟨b1, o1, s1⟩ := q
  obtain ⟨b2, o2, s2⟩ := s
  obtain ⟨b3, o3, s3⟩ := t
  go_enter Tryz.func101, Tryz.ntmps101
  go_wp2_with fail
  go_still_tail 12, (by kernel_rfl)
  go_wp2_with fail
  refine H.out.mono ?_
  rintro e w1 ⟨⟨T, v, rfl⟩, hR⟩
  exact ⟨rfl, ⟨T, v, rfl⟩, hR⟩
end Go.Proofs
namespace Go.Proofs
open Go.RowKit
set_option maxHeartbeats 16000000
set_option linter.unusedVariables false
set_option linter.unusedSimpArgs false
set_option maxRecDepth 100000

/-- In a drawn region a call that panics leaves nothing to follow: the walk is given what would follow, under a premise that is false. -/
theorem held_dummy {S : World → Prop} {W : Act → World → Prop} {K : Act → World → Prop} {G : Prop} (hK : Shut (∀ (a : Act) (w : World), S w → (S w → W a w) → K a w)) (a : Act) (w : World) (hG : G) (h : Hid False → K a w) : G := hG

theorem both100_zero (A B O2 O3 O4 O5 : Nat) (sa sb : ByteArray) (na nb : Bool) (da db : Nat → Nat) (la lb : Nat) (x : Int) (w : World)
    (hA : w.cell? ⟨A, 0, none⟩ = some (.string sa)) (hB : w.cell? ⟨B, 0, none⟩ = some (.string sb)) (ta : NumText sa na la da) (tb : NumText sb nb lb db)
    (hx : x = numZ na (dval da la)) (hy : 0 = numZ nb (dval db lb)) (G : Glob w) :
    Calls Tryz.prog 100 #[.pointer (some ⟨A, 0, none⟩), .pointer (some ⟨B, 0, none⟩), .pointer (some ⟨O2, 0, none⟩), .pointer (some ⟨O3, 0, none⟩), .pointer (some ⟨O4, 0, none⟩), .pointer (some ⟨O5, 0, none⟩)] w fun e w' => Pan e ∧ Keeps (fun _ => False) w w' := by
  have HG := hid G
  have HG' : Hid (∀ W V, Env (fun _ => False) w W V → Glob W) := hid (fun W V h => G.keep h.keeps (fun _ _ h => h))
  have HN1 : Hid (∀ W V n, Env (fun _ => False) w W V → n ≤ W.heap.size → Calls Tryz.prog 67 #[.string sa] W fun e w' => ∃ p, e = .returned (.pointer (some ⟨p, 0, none⟩)) ∧ n ≤ p ∧ p < w'.heap.size ∧ Env (fun _ => False) w w' (upd V p 105 x)) :=
    hid (fun W V n h hn => number_env h sa na la da x n hn ta hx (HG'.out _ _ h))
  have HN2 : Hid (∀ W V n, Env (fun _ => False) w W V → n ≤ W.heap.size → Calls Tryz.prog 67 #[.string sb] W fun e w' => ∃ p, e = .returned (.pointer (some ⟨p, 0, none⟩)) ∧ n ≤ p ∧ p < w'.heap.size ∧ Env (fun _ => False) w w' (upd V p 105 0)) :=
    hid (fun W V n h hn => number_env h sb nb lb db 0 n hn tb hy (HG'.out _ _ h))
  have HQ : Hid (∀ W V pz px py pr, Env (fun _ => False) w W V → V pz = some (105, 0) → V px = some (105, x) → V py = some (105, 0) → V pr = some (105, 0) →
      Calls Tryz.prog 101 #[.pointer (some ⟨pz, 0, none⟩), .pointer (some ⟨px, 0, none⟩), .pointer (some ⟨py, 0, none⟩), .pointer (some ⟨pr, 0, none⟩)] W fun e w' => Pan e ∧ Keeps (fun _ => False) w w') := hid (by
    intro W V pz px py pr hE vz vx vy vr
    obtain ⟨hk0, ho, f, g1, g2⟩ := hE.drew
    refine w101_panics _ _ _ _ _ _ ((quoRem164_zero pz px py pr 105 105 105 105 0 x 0 _ _ _ _ _ _ _ _ _ _ _ _ W.drew (g1 _ _ _ vz).2.1 (g1 _ _ _ vx).2.1 (g1 _ _ _ vy).2.1 (g1 _ _ _ vr).2.1).mono ?_)
    rintro e w' ⟨h1, h2⟩
    exact ⟨h1, hk0.trans h2⟩)
  have hAl : A < w.heap.size := World.block_lt_of_cell? w ⟨A, 0, none⟩ hA
  have hBl : B < w.heap.size := World.block_lt_of_cell? w ⟨B, 0, none⟩ hB
  have HA := hid hA; have HB := hid hB
  have HSA : Hid (∀ w', Keeps (fun _ => False) w w' → w'.cell? ⟨A, 0, none⟩ = some (.string sa) ∧ w'.cell? ⟨B, 0, none⟩ = some (.string sb)) := hid (fun w' hk =>
    ⟨(cell_of_block (p := ⟨A, 0, none⟩) (hk.block A hAl (fun h => h))).trans HA.out, (cell_of_block (p := ⟨B, 0, none⟩) (hk.block B hBl (fun h => h))).trans HB.out⟩)
  have HE0 := hid (Env.start (fun _ => False) w (fun _ h => h.elim))
  have HE0a := hid HE0.out.drew
  have HE0b : Hid (Env (fun _ => False) w (w.alloc (.cells #[.bool false, .slice none 0 0] 105)).drew _) := hid (HE0.out.new 105).drew
  have HE0c : Hid (Env (fun _ => False) w ((w.alloc (.cells #[.bool false, .slice none 0 0] 105)).alloc (.cells #[.bool false, .slice none 0 0] 105)).drew _) := hid (HE0.out.new2 105).drew
  have HS0 : Hid (w.heap.size ≤ w.drew.heap.size ∧ w.heap.size + 1 ≤ (w.alloc (.cells #[.bool false, .slice none 0 0] 105)).drew.heap.size ∧ w.heap.size + 2 ≤ ((w.alloc (.cells #[.bool false, .slice none 0 0] 105)).alloc (.cells #[.bool false, .slice none 0 0] 105)).drew.heap.size) := hid ⟨Nat.le_refl _, by simp, by simp⟩
  have HSZ : Hid (∀ W : World, W.heap.size ≤ W.heap.size ∧ W.heap.size + 1 ≤ (W.alloc (.cells #[.bool false, .slice none 0 0] 105)).heap.size ∧ W.heap.size + 2 ≤ ((W.alloc (.cells #[.bool false, .slice none 0 0] 105)).alloc (.cells #[.bool false, .slice none 0 0] 105)).heap.size) := hid (fun W => ⟨Nat.le_refl _, by simp, by simp⟩)
  clear ta tb hx hy G hAl hBl hA hB
  go_enter Tryz.func100, Tryz.ntmps100
  go_upto_region 0 with fail
  go_region_held2 (fun w' => w'.cell? ⟨A, 0, none⟩ = some (.string sa) ∧ w'.cell? ⟨B, 0, none⟩ = some (.string sb))
    (first | with_reducible exact HSA.out _ HE0a.out.keeps | with_reducible exact HSA.out _ HE0b.out.keeps | with_reducible exact HSA.out _ HE0c.out.keeps | with_reducible exact HSA.out _ HE1.out.keeps | with_reducible exact HSA.out _ (HE1.out.new 105).keeps | with_reducible exact HSA.out _ (HE1.out.new2 105).keeps | with_reducible exact HSA.out _ HE2.out.keeps | with_reducible exact HSA.out _ (HE2.out.new 105).keeps | with_reducible exact HSA.out _ (HE2.out.new2 105).keeps | with_reducible exact HSA.out _ HE0.out.keeps)
      (first
     | (go_at_call 67; ((with_reducible refine (HN1.out _ _ w.heap.size HE0a.out HS0.out.1).mono ?_)); rintro e w1 ⟨p1, rfl, o1, o2, h⟩; have HE1 := hid h; clear h)
     | (go_at_call 67; ((with_reducible refine (HN1.out _ _ (w.heap.size + 1) HE0b.out HS0.out.2.1).mono ?_)); rintro e w1 ⟨p1, rfl, o1, o2, h⟩; have HE1 := hid h; clear h)
     | (go_at_call 67; ((with_reducible refine (HN1.out _ _ (w.heap.size + 2) HE0c.out HS0.out.2.2).mono ?_)); rintro e w1 ⟨p1, rfl, o1, o2, h⟩; have HE1 := hid h; clear h)
     | (go_at_call 67; ((with_reducible refine (HN2.out _ _ w1.heap.size HE1.out (HSZ.out w1).1).mono ?_)); rintro e w2 ⟨p2, rfl, o3, o4, h⟩; have HE2 := hid h; clear h)
     | (go_at_call 67; ((with_reducible refine (HN2.out _ _ (w1.heap.size + 1) (HE1.out.new 105) (HSZ.out w1).2.1).mono ?_)); rintro e w2 ⟨p2, rfl, o3, o4, h⟩; have HE2 := hid h; clear h)
     | (go_at_call 67; ((with_reducible refine (HN2.out _ _ (w1.heap.size + 2) (HE1.out.new2 105) (HSZ.out w1).2.2).mono ?_)); rintro e w2 ⟨p2, rfl, o3, o4, h⟩; have HE2 := hid h; clear h)
     | (go_at_call 101; ((with_reducible refine (HQ.out _ _ _ _ _ _ HE2.out (by repeat (first | exact upd_eq _ _ _ _ | (refine (upd_ne _ _ _ ?_).trans ?_; omega))) (by repeat (first | exact upd_eq _ _ _ _ | (refine (upd_ne _ _ _ ?_).trans ?_; omega))) (by repeat (first | exact upd_eq _ _ _ _ | (refine (upd_ne _ _ _ ?_).trans ?_; omega))) (by repeat (first | exact upd_eq _ _ _ _ | (refine (upd_ne _ _ _ ?_).trans ?_; omega)))).mono ?_)); rintro e w3 ⟨⟨T, v, rfl⟩, h⟩; refine held_dummy (by assumption) { tmps := #[.pointer none, .pointer none, .pointer (some ⟨O2, 0, none⟩), .pointer (some ⟨O3, 0, none⟩), .pointer (some ⟨O4, 0, none⟩), .pointer (some ⟨O5, 0, none⟩), undef, undef, undef, undef, undef, undef, undef, undef, undef, undef, undef, .tuple #[.pointer none, .pointer none], undef, undef, undef, undef, undef, undef, undef, undef, undef, undef, undef, undef, undef, undef, undef, undef, undef, undef, undef, undef], defers := [] } w ⟨rfl, ⟨T, v, rfl⟩, h⟩ ?_; clear h; intro HF)
     | (go_at_call 101; ((with_reducible refine (HQ.out _ _ _ _ _ _ (HE2.out.new 105) (by repeat (first | exact upd_eq _ _ _ _ | (refine (upd_ne _ _ _ ?_).trans ?_; omega))) (by repeat (first | exact upd_eq _ _ _ _ | (refine (upd_ne _ _ _ ?_).trans ?_; omega))) (by repeat (first | exact upd_eq _ _ _ _ | (refine (upd_ne _ _ _ ?_).trans ?_; omega))) (by repeat (first | exact upd_eq _ _ _ _ | (refine (upd_ne _ _ _ ?_).trans ?_; omega)))).mono ?_)); rintro e w3 ⟨⟨T, v, rfl⟩, h⟩; refine held_dummy (by assumption) { tmps := #[.pointer none, .pointer none, .pointer (some ⟨O2, 0, none⟩), .pointer (some ⟨O3, 0, none⟩), .pointer (some ⟨O4, 0, none⟩), .pointer (some ⟨O5, 0, none⟩), undef, undef, undef, undef, undef, undef, undef, undef, undef, undef, undef, .tuple #[.pointer none, .pointer none], undef, undef, undef, undef, undef, undef, undef, undef, undef, undef, undef, undef, undef, undef, undef, undef, undef, undef, undef, undef], defers := [] } w ⟨rfl, ⟨T, v, rfl⟩, h⟩ ?_; clear h; intro HF)
     | (go_at_call 101; ((with_reducible refine (HQ.out _ _ _ _ _ _ (HE2.out.new2 105) (by repeat (first | exact upd_eq _ _ _ _ | (refine (upd_ne _ _ _ ?_).trans ?_; omega))) (by repeat (first | exact upd_eq _ _ _ _ | (refine (upd_ne _ _ _ ?_).trans ?_; omega))) (by repeat (first | exact upd_eq _ _ _ _ | (refine (upd_ne _ _ _ ?_).trans ?_; omega))) (by repeat (first | exact upd_eq _ _ _ _ | (refine (upd_ne _ _ _ ?_).trans ?_; omega)))).mono ?_)); rintro e w3 ⟨⟨T, v, rfl⟩, h⟩; refine held_dummy (by assumption) { tmps := #[.pointer none, .pointer none, .pointer (some ⟨O2, 0, none⟩), .pointer (some ⟨O3, 0, none⟩), .pointer (some ⟨O4, 0, none⟩), .pointer (some ⟨O5, 0, none⟩), undef, undef, undef, undef, undef, undef, undef, undef, undef, undef, undef, .tuple #[.pointer none, .pointer none], undef, undef, undef, undef, undef, undef, undef, undef, undef, undef, undef, undef, undef, undef, undef, undef, undef, undef, undef, undef], defers := [] } w ⟨rfl, ⟨T, v, rfl⟩, h⟩ ?_; clear h; intro HF))
  all_goals exact HF.out.elim
end Go.Proofs
