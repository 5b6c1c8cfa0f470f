/- Parts of the proofs over the numbers of any length: IAdd, One. -/
import Derived.Test.YtacbllkmcldniaaGreatDoorRangeA
import Derived.Test.YtacbllkmcldniaaGreatDoorQSA
set_option linter.unusedSimpArgs false
set_option linter.unusedVariables false
namespace Go.Proofs
open Go.RowKit
set_option maxHeartbeats 800000
set_option linter.unusedVariables false
set_option linter.unusedSimpArgs false
set_option maxRecDepth 100000

/-- A number in memory whose sign may be any. -/
structure IntG (w : World) (p : Nat) (t : TypeId) (neg : Bool) (N : Nat) (a : Option Addr) (l c : Nat) : Prop where
  row : IntRow w p t neg a l c
  rd : Rd w a l c (words N)
def sgnv (b : Bool) (N : Nat) : Int := if b then -(N : Int) else N
theorem IntS.g {w : World} {p : Nat} {t : TypeId} {z : Int} {a : Option Addr} {l c : Nat} (h : IntS w p t z a l c) : IntG w p t (decide (z < 0)) z.natAbs a l c := ⟨h.row, h.rd⟩
theorem sgnv_of (z : Int) : sgnv (decide (z < 0)) z.natAbs = z := by
  unfold sgnv
  by_cases h : z < 0 <;> simp [h] <;> omega
theorem NatRes.back {w W : World} {a : Option Addr} {c N : Nat} (hk : Keeps (fun _ => False) w W) {K : FuncId} {A : Array Value} (h : Calls Tryz.prog K A W (NatRes W a c N)) : Calls Tryz.prog K A W (NatRes w a c N) := by
  refine h.mono ?_
  rintro e w' ⟨ra, rl, rc, rfl, h1, h2, h3⟩
  exact ⟨ra, rl, rc, rfl, h1, h2.mono hk.size, hk.any.trans h3⟩
theorem cmpI_ge (M N : Nat) : decide (0 ≤ cmpI M N) = decide (N ≤ M) := by
  unfold cmpI
  by_cases h1 : M < N
  · rw [if_pos h1]; simp; omega
  · rw [if_neg h1]
    by_cases h2 : N < M <;> simp [h2] <;> omega
theorem IntRes.tail2 {w w1 : World} {p : Nat} {t : TypeId} {neg s : Bool} {a ra : Option Addr} {l c rl rc N : Nat} {r : Int} (hz : IntRow w p t neg a l c) (hd : Rd w1 ra rl rc (words N)) (hi : Into w a c ra rc)
    (hk : Keeps (InB a) w w1) (hn : ¬ InB a p) (hs : s = decide (r < 0)) (hN : N = r.natAbs) : IntRes w p t a c r ((w1.setCell ⟨p, 1, none⟩ (.slice ra rl rc)).setCell ⟨p, 0, none⟩ (.bool s)).drew := by
  have h0 := hk.row hz hn
  exact IntRes.tail (IntRow.set1 h0) (hd.set_row h0 _ _) hi ((hk.mono (fun i _ h => .inr h)).setCell _ (.inl (.inl rfl)) _) hs hN

theorem add145 (pz px py tz tx ty : Nat) (bz bx bY : Bool) (Z M N : Nat) (az ax ay : Option Addr) (lz cz lx cx ly cy : Nat) (w : World)
    (hz : IntG w pz tz bz Z az lz cz) (hx : IntG w px tx bx M ax lx cx) (hy : IntG w py ty bY N ay ly cy)
    (hax : Al az cz ax cx) (hay : Al az cz ay cy) (hlx : lx ≤ 400000) (hly : ly ≤ 400000) :
    Calls Tryz.prog 145 #[.pointer (some ⟨pz, 0, none⟩), .pointer (some ⟨px, 0, none⟩), .pointer (some ⟨py, 0, none⟩)] w fun e w' =>
      e = .returned (.pointer (some ⟨pz, 0, none⟩)) ∧ IntRes w pz tz az cz (sgnv bx M + sgnv bY N) w' := by
  have Hz := hid hz; have Hx := hid hx; have Hy := hid hy; have Hax := hid hax; have Hay := hid hay
  obtain ⟨z1, z2, z3, z4⟩ := hz.row.facts
  obtain ⟨x1, x2, _, _⟩ := hx.row.facts
  obtain ⟨y1, y2, _, _⟩ := hy.row.facts
  clear hz hx hy hax hay
  have hb : bx = bY ∨ bY = (!bx) := by cases bx <;> cases bY <;> simp
  have q1 : (bx == !bx) = false := by cases bx <;> rfl
  have q2 : (bx != !bx) = true := by cases bx <;> rfl
  have q3 : (bx == bx) = true := by cases bx <;> rfl
  have q4 : (bx != bx) = false := by cases bx <;> rfl
  rcases hb with rfl | rfl
  · have Hcall := hid (fun (W : World) (hk : Keeps (fun _ => False) w W) => NatRes.back hk (add_any az lz cz _ ax lx cx M ay ly cy N W (Hz.out.rd.keep hk (fun _ _ h => h)) (Hx.out.rd.keep hk (fun _ _ h => h)) (Hy.out.rd.keep hk (fun _ _ h => h)) hlx hly Hax.out Hay.out))
    go_enter Tryz.func145, Tryz.ntmps145
    go_wp2_with fail
    go_quiet (fail)
    go_wp2_with fail
    generalize hW : w.drewN nq = wA
    have KwA : Hid (Keeps (fun _ => False) w wA) := hid (by rw [← hW]; exact (Keeps.refl _ w).drewN _)
    clear hW
    obtain ⟨z1, z2, z3, z4⟩ := IntRow.facts (KwA.out.row Hz.out.row (fun h => h))
    obtain ⟨x1, x2, _, _⟩ := IntRow.facts (KwA.out.row Hx.out.row (fun h => h))
    obtain ⟨y1, y2, _, _⟩ := IntRow.facts (KwA.out.row Hy.out.row (fun h => h))
    go_upto_region 3 with fail
    go_cut [21] from 22 to 36 (fun _ wx => ∃ ra rl rc, IntRow wx pz tz bz ra rl rc ∧ Rd wx ra rl rc (words (M + N)) ∧ Into w az cz ra rc ∧ Keeps (fun k => k = pz ∨ InB az k) w wx)
    case first =>
      go_region_law (first | (go_simp; go_at_call 195; refine (Hcall.out _ KwA.out.drew).mono ?_; rintro e w1 ⟨ra, rl, rc, rfl, h1, h2, h3⟩; obtain ⟨d0, d1, d2, d3⟩ := Hz.out.row.after h3 (Hz.out.rd.not_row Hz.out.row); have H1 := hid h1; have H2 := hid h2; have H3 := hid h3; clear h1 h2 h3))
      all_goals (go_wp2_with fail; go_meet)
      all_goals exact ⟨ra, rl, rc, IntRow.set1 (H3.out.row Hz.out.row (Hz.out.rd.not_row Hz.out.row)), H1.out.set_row (H3.out.row Hz.out.row (Hz.out.rd.not_row Hz.out.row)) _ _, H2.out, (H3.out.mono (fun i _ h => .inr h)).setCell _ (.inl (.inl rfl)) _⟩
    case rest =>
      obtain ⟨ra, rl, rc, h1, h2, h3, h4⟩ := hcut
      obtain ⟨d0, d1, d2, d3⟩ := h1.facts
      have hso : ∀ v, (wc.setCell ⟨pz, 0, none⟩ v).cell? ⟨pz, 1, none⟩ = some (.slice ra rl rc) := fun v => RowAt.cell (RowAt.set h1 0 v) 1
      have hlen := h2.length
      have H1 := hid h1; have H2 := hid h2; have H3 := hid h3; have H4 := hid h4
      clear h1 h2 h3 h4
      by_cases hN : M + N = 0
      · have hrl : rl = 0 := by rw [← hlen, hN, words_zero]; rfl
        subst hrl
        clear hlen
        have hN := hid hN
        go_wp2_with fail
        go_ret
        exact ⟨rfl, IntRes.sign H1.out H2.out H3.out H4.out (by have := hN.out; cases bx <;> simp [sgnv] <;> omega) (by have := hN.out; cases bx <;> simp [sgnv] <;> omega)⟩
      · have hrl : 0 < rl := by rw [← hlen]; exact words_length_pos hN
        have hrl' : decide ((0:Int) < (rl:Int)) = true := by simp; omega
        clear hlen
        have hN := hid hN
        go_wp2_with fail
        go_ret
        exact ⟨rfl, IntRes.sign H1.out H2.out H3.out H4.out (by have := hN.out; cases bx <;> simp [sgnv] <;> omega) (by have := hN.out; cases bx <;> simp [sgnv] <;> omega)⟩
  · by_cases hMN : N ≤ M
    · have Hcall := hid (fun (W : World) (hk : Keeps (fun _ => False) w W) => NatRes.back hk (sub_any az lz cz _ ax lx cx M ay ly cy N W (Hz.out.rd.keep hk (fun _ _ h => h)) (Hx.out.rd.keep hk (fun _ _ h => h)) (Hy.out.rd.keep hk (fun _ _ h => h)) (by omega) (by omega) Hax.out Hay.out))
      have hci : (decide (0 ≤ cmpI M N)) = true := by
        have := cmpI_ge M N
        rw [this]; simp; omega
      have HMN := hid hMN
      clear hMN
      go_enter Tryz.func145, Tryz.ntmps145
      go_wp2_with fail
      go_quiet (fail)
      go_wp2_with fail
      generalize hW : w.drewN nq = wA
      have KwA : Hid (Keeps (fun _ => False) w wA) := hid (by rw [← hW]; exact (Keeps.refl _ w).drewN _)
      clear hW
      obtain ⟨z1, z2, z3, z4⟩ := IntRow.facts (KwA.out.row Hz.out.row (fun h => h))
      obtain ⟨x1, x2, _, _⟩ := IntRow.facts (KwA.out.row Hx.out.row (fun h => h))
      obtain ⟨y1, y2, _, _⟩ := IntRow.facts (KwA.out.row Hy.out.row (fun h => h))
      have HxA := hid (Hx.out.rd.keep KwA.out (fun _ _ h => h)); have HyA := hid (Hy.out.rd.keep KwA.out (fun _ _ h => h))
      go_quiet ((go_at_call 196; exact quiet_ex (cmp_any ax lx cx ay ly cy M N _ (HxA.out.drewN _) (HyA.out.drewN _))))
      go_wp2_with fail
      generalize hW : wA.drewN nq = wB
      have KwB : Hid (Keeps (fun _ => False) w wB) := hid (by rw [← hW]; exact KwA.out.drewN _)
      clear hW
      obtain ⟨z1, z2, z3, z4⟩ := IntRow.facts (KwB.out.row Hz.out.row (fun h => h))
      obtain ⟨x1, x2, _, _⟩ := IntRow.facts (KwB.out.row Hx.out.row (fun h => h))
      obtain ⟨y1, y2, _, _⟩ := IntRow.facts (KwB.out.row Hy.out.row (fun h => h))
      go_upto_region 5 with fail
      go_cut [47] from 48 to 62 (fun _ wx => ∃ ra rl rc, IntRow wx pz tz bz ra rl rc ∧ Rd wx ra rl rc (words (M - N)) ∧ Into w az cz ra rc ∧ Keeps (fun k => k = pz ∨ InB az k) w wx)
      case first =>
        go_region_law (first | (go_simp; go_at_call 197; refine (Hcall.out _ KwB.out.drew).mono ?_; rintro e w1 ⟨ra, rl, rc, rfl, h1, h2, h3⟩; obtain ⟨d0, d1, d2, d3⟩ := Hz.out.row.after h3 (Hz.out.rd.not_row Hz.out.row); have H1 := hid h1; have H2 := hid h2; have H3 := hid h3; clear h1 h2 h3))
        all_goals (go_wp2_with fail; go_meet)
        all_goals exact ⟨ra, rl, rc, IntRow.set1 (H3.out.row Hz.out.row (Hz.out.rd.not_row Hz.out.row)), H1.out.set_row (H3.out.row Hz.out.row (Hz.out.rd.not_row Hz.out.row)) _ _, H2.out, (H3.out.mono (fun i _ h => .inr h)).setCell _ (.inl (.inl rfl)) _⟩
      case rest =>
        obtain ⟨ra, rl, rc, h1, h2, h3, h4⟩ := hcut
        obtain ⟨d0, d1, d2, d3⟩ := h1.facts
        have hso : ∀ v, (wc.setCell ⟨pz, 0, none⟩ v).cell? ⟨pz, 1, none⟩ = some (.slice ra rl rc) := fun v => RowAt.cell (RowAt.set h1 0 v) 1
        have hlen := h2.length
        have H1 := hid h1; have H2 := hid h2; have H3 := hid h3; have H4 := hid h4
        clear h1 h2 h3 h4
        by_cases hN : M - N = 0
        · have hrl : rl = 0 := by rw [← hlen, hN, words_zero]; rfl
          subst hrl
          clear hlen
          have hN := hid hN
          go_wp2_with fail
          go_ret
          exact ⟨rfl, IntRes.sign H1.out H2.out H3.out H4.out (by have := hN.out; have := HMN.out; cases bx <;> simp [sgnv] <;> omega) (by have := hN.out; have := HMN.out; cases bx <;> simp [sgnv] <;> omega)⟩
        · have hrl : 0 < rl := by rw [← hlen]; exact words_length_pos hN
          have hrl' : decide ((0:Int) < (rl:Int)) = true := by simp; omega
          clear hlen
          have hN := hid hN
          go_wp2_with fail
          go_ret
          exact ⟨rfl, IntRes.sign H1.out H2.out H3.out H4.out (by have := hN.out; have := HMN.out; cases bx <;> simp [sgnv] <;> omega) (by have := hN.out; have := HMN.out; cases bx <;> simp [sgnv] <;> omega)⟩
    · have Hcall := hid (fun (W : World) (hk : Keeps (fun _ => False) w W) => NatRes.back hk (sub_any az lz cz _ ay ly cy N ax lx cx M W (Hz.out.rd.keep hk (fun _ _ h => h)) (Hy.out.rd.keep hk (fun _ _ h => h)) (Hx.out.rd.keep hk (fun _ _ h => h)) (by omega) (by omega) Hay.out Hax.out))
      have hci : (decide (0 ≤ cmpI M N)) = false := by
        have := cmpI_ge M N
        rw [this]; simp; omega
      have HMN := hid hMN
      clear hMN
      go_enter Tryz.func145, Tryz.ntmps145
      go_wp2_with fail
      go_quiet (fail)
      go_wp2_with fail
      generalize hW : w.drewN nq = wA
      have KwA : Hid (Keeps (fun _ => False) w wA) := hid (by rw [← hW]; exact (Keeps.refl _ w).drewN _)
      clear hW
      obtain ⟨z1, z2, z3, z4⟩ := IntRow.facts (KwA.out.row Hz.out.row (fun h => h))
      obtain ⟨x1, x2, _, _⟩ := IntRow.facts (KwA.out.row Hx.out.row (fun h => h))
      obtain ⟨y1, y2, _, _⟩ := IntRow.facts (KwA.out.row Hy.out.row (fun h => h))
      have HxA := hid (Hx.out.rd.keep KwA.out (fun _ _ h => h)); have HyA := hid (Hy.out.rd.keep KwA.out (fun _ _ h => h))
      go_quiet ((go_at_call 196; exact quiet_ex (cmp_any ax lx cx ay ly cy M N _ (HxA.out.drewN _) (HyA.out.drewN _))))
      go_wp2_with fail
      generalize hW : wA.drewN nq = wB
      have KwB : Hid (Keeps (fun _ => False) w wB) := hid (by rw [← hW]; exact KwA.out.drewN _)
      clear hW
      obtain ⟨z1, z2, z3, z4⟩ := IntRow.facts (KwB.out.row Hz.out.row (fun h => h))
      obtain ⟨x1, x2, _, _⟩ := IntRow.facts (KwB.out.row Hx.out.row (fun h => h))
      obtain ⟨y1, y2, _, _⟩ := IntRow.facts (KwB.out.row Hy.out.row (fun h => h))
      go_upto_region 7 with fail
      go_cut [65] from 66 to 80 (fun _ wx => ∃ ra rl rc, IntRow wx pz tz bz ra rl rc ∧ Rd wx ra rl rc (words (N - M)) ∧ Into w az cz ra rc ∧ Keeps (fun k => k = pz ∨ InB az k) w wx)
      case first =>
        go_region_law (first | (go_simp; go_at_call 197; refine (Hcall.out _ KwB.out.drew).mono ?_; rintro e w1 ⟨ra, rl, rc, rfl, h1, h2, h3⟩; obtain ⟨d0, d1, d2, d3⟩ := Hz.out.row.after h3 (Hz.out.rd.not_row Hz.out.row); have H1 := hid h1; have H2 := hid h2; have H3 := hid h3; clear h1 h2 h3))
        all_goals (go_wp2_with fail; go_meet)
        all_goals exact ⟨ra, rl, rc, IntRow.set1 (H3.out.row Hz.out.row (Hz.out.rd.not_row Hz.out.row)), H1.out.set_row (H3.out.row Hz.out.row (Hz.out.rd.not_row Hz.out.row)) _ _, H2.out, (H3.out.mono (fun i _ h => .inr h)).setCell _ (.inl (.inl rfl)) _⟩
      case rest =>
        obtain ⟨ra, rl, rc, h1, h2, h3, h4⟩ := hcut
        obtain ⟨d0, d1, d2, d3⟩ := h1.facts
        have hso : ∀ v, (wc.setCell ⟨pz, 0, none⟩ v).cell? ⟨pz, 1, none⟩ = some (.slice ra rl rc) := fun v => RowAt.cell (RowAt.set h1 0 v) 1
        have hlen := h2.length
        have H1 := hid h1; have H2 := hid h2; have H3 := hid h3; have H4 := hid h4
        clear h1 h2 h3 h4
        by_cases hN : N - M = 0
        · have hrl : rl = 0 := by rw [← hlen, hN, words_zero]; rfl
          subst hrl
          clear hlen
          have hN := hid hN
          go_wp2_with fail
          go_ret
          exact ⟨rfl, IntRes.sign H1.out H2.out H3.out H4.out (by have := hN.out; have := HMN.out; cases bx <;> simp [sgnv] <;> omega) (by have := hN.out; have := HMN.out; cases bx <;> simp [sgnv] <;> omega)⟩
        · have hrl : 0 < rl := by rw [← hlen]; exact words_length_pos hN
          have hrl' : decide ((0:Int) < (rl:Int)) = true := by simp; omega
          clear hlen
          have hN := hid hN
          go_wp2_with fail
          go_ret
          exact ⟨rfl, IntRes.sign H1.out H2.out H3.out H4.out (by have := hN.out; have := HMN.out; cases bx <;> simp [sgnv] <;> omega) (by have := hN.out; have := HMN.out; cases bx <;> simp [sgnv] <;> omega)⟩

theorem sub146 (pz px py tz tx ty : Nat) (bz bx bY : Bool) (Z M N : Nat) (az ax ay : Option Addr) (lz cz lx cx ly cy : Nat) (w : World)
    (hz : IntG w pz tz bz Z az lz cz) (hx : IntG w px tx bx M ax lx cx) (hy : IntG w py ty bY N ay ly cy)
    (hax : Al az cz ax cx) (hay : Al az cz ay cy) (hlx : lx ≤ 400000) (hly : ly ≤ 400000) :
    Calls Tryz.prog 146 #[.pointer (some ⟨pz, 0, none⟩), .pointer (some ⟨px, 0, none⟩), .pointer (some ⟨py, 0, none⟩)] w fun e w' =>
      e = .returned (.pointer (some ⟨pz, 0, none⟩)) ∧ IntRes w pz tz az cz (sgnv bx M - sgnv bY N) w' := by
  have Hz := hid hz; have Hx := hid hx; have Hy := hid hy; have Hax := hid hax; have Hay := hid hay
  obtain ⟨z1, z2, z3, z4⟩ := hz.row.facts
  obtain ⟨x1, x2, _, _⟩ := hx.row.facts
  obtain ⟨y1, y2, _, _⟩ := hy.row.facts
  clear hz hx hy hax hay
  have hb : bY = (!bx) ∨ bx = bY := by cases bx <;> cases bY <;> simp
  have q1 : (bx == !bx) = false := by cases bx <;> rfl
  have q2 : (bx != !bx) = true := by cases bx <;> rfl
  have q3 : (bx == bx) = true := by cases bx <;> rfl
  have q4 : (bx != bx) = false := by cases bx <;> rfl
  rcases hb with rfl | rfl
  · have Hcall := hid (fun (W : World) (hk : Keeps (fun _ => False) w W) => NatRes.back hk (add_any az lz cz _ ax lx cx M ay ly cy N W (Hz.out.rd.keep hk (fun _ _ h => h)) (Hx.out.rd.keep hk (fun _ _ h => h)) (Hy.out.rd.keep hk (fun _ _ h => h)) hlx hly Hax.out Hay.out))
    go_enter Tryz.func146, Tryz.ntmps146
    go_wp2_with fail
    go_quiet (fail)
    go_wp2_with fail
    generalize hW : w.drewN nq = wA
    have KwA : Hid (Keeps (fun _ => False) w wA) := hid (by rw [← hW]; exact (Keeps.refl _ w).drewN _)
    clear hW
    obtain ⟨z1, z2, z3, z4⟩ := IntRow.facts (KwA.out.row Hz.out.row (fun h => h))
    obtain ⟨x1, x2, _, _⟩ := IntRow.facts (KwA.out.row Hx.out.row (fun h => h))
    obtain ⟨y1, y2, _, _⟩ := IntRow.facts (KwA.out.row Hy.out.row (fun h => h))
    go_upto_region 3 with fail
    go_cut [21] from 22 to 36 (fun _ wx => ∃ ra rl rc, IntRow wx pz tz bz ra rl rc ∧ Rd wx ra rl rc (words (M + N)) ∧ Into w az cz ra rc ∧ Keeps (fun k => k = pz ∨ InB az k) w wx)
    case first =>
      go_region_law (first | (go_simp; go_at_call 195; refine (Hcall.out _ KwA.out.drew).mono ?_; rintro e w1 ⟨ra, rl, rc, rfl, h1, h2, h3⟩; obtain ⟨d0, d1, d2, d3⟩ := Hz.out.row.after h3 (Hz.out.rd.not_row Hz.out.row); have H1 := hid h1; have H2 := hid h2; have H3 := hid h3; clear h1 h2 h3))
      all_goals (go_wp2_with fail; go_meet)
      all_goals exact ⟨ra, rl, rc, IntRow.set1 (H3.out.row Hz.out.row (Hz.out.rd.not_row Hz.out.row)), H1.out.set_row (H3.out.row Hz.out.row (Hz.out.rd.not_row Hz.out.row)) _ _, H2.out, (H3.out.mono (fun i _ h => .inr h)).setCell _ (.inl (.inl rfl)) _⟩
    case rest =>
      obtain ⟨ra, rl, rc, h1, h2, h3, h4⟩ := hcut
      obtain ⟨d0, d1, d2, d3⟩ := h1.facts
      have hso : ∀ v, (wc.setCell ⟨pz, 0, none⟩ v).cell? ⟨pz, 1, none⟩ = some (.slice ra rl rc) := fun v => RowAt.cell (RowAt.set h1 0 v) 1
      have hlen := h2.length
      have H1 := hid h1; have H2 := hid h2; have H3 := hid h3; have H4 := hid h4
      clear h1 h2 h3 h4
      by_cases hN : M + N = 0
      · have hrl : rl = 0 := by rw [← hlen, hN, words_zero]; rfl
        subst hrl
        clear hlen
        have hN := hid hN
        go_wp2_with fail
        go_ret
        exact ⟨rfl, IntRes.sign H1.out H2.out H3.out H4.out (by have := hN.out; cases bx <;> simp [sgnv] <;> omega) (by have := hN.out; cases bx <;> simp [sgnv] <;> omega)⟩
      · have hrl : 0 < rl := by rw [← hlen]; exact words_length_pos hN
        have hrl' : decide ((0:Int) < (rl:Int)) = true := by simp; omega
        clear hlen
        have hN := hid hN
        go_wp2_with fail
        go_ret
        exact ⟨rfl, IntRes.sign H1.out H2.out H3.out H4.out (by have := hN.out; cases bx <;> simp [sgnv] <;> omega) (by have := hN.out; cases bx <;> simp [sgnv] <;> omega)⟩
  · by_cases hMN : N ≤ M
    · have Hcall := hid (fun (W : World) (hk : Keeps (fun _ => False) w W) => NatRes.back hk (sub_any az lz cz _ ax lx cx M ay ly cy N W (Hz.out.rd.keep hk (fun _ _ h => h)) (Hx.out.rd.keep hk (fun _ _ h => h)) (Hy.out.rd.keep hk (fun _ _ h => h)) (by omega) (by omega) Hax.out Hay.out))
      have hci : (decide (0 ≤ cmpI M N)) = true := by
        have := cmpI_ge M N
        rw [this]; simp; omega
      have HMN := hid hMN
      clear hMN
      go_enter Tryz.func146, Tryz.ntmps146
      go_wp2_with fail
      go_quiet (fail)
      go_wp2_with fail
      generalize hW : w.drewN nq = wA
      have KwA : Hid (Keeps (fun _ => False) w wA) := hid (by rw [← hW]; exact (Keeps.refl _ w).drewN _)
      clear hW
      obtain ⟨z1, z2, z3, z4⟩ := IntRow.facts (KwA.out.row Hz.out.row (fun h => h))
      obtain ⟨x1, x2, _, _⟩ := IntRow.facts (KwA.out.row Hx.out.row (fun h => h))
      obtain ⟨y1, y2, _, _⟩ := IntRow.facts (KwA.out.row Hy.out.row (fun h => h))
      have HxA := hid (Hx.out.rd.keep KwA.out (fun _ _ h => h)); have HyA := hid (Hy.out.rd.keep KwA.out (fun _ _ h => h))
      go_quiet ((go_at_call 196; exact quiet_ex (cmp_any ax lx cx ay ly cy M N _ (HxA.out.drewN _) (HyA.out.drewN _))))
      go_wp2_with fail
      generalize hW : wA.drewN nq = wB
      have KwB : Hid (Keeps (fun _ => False) w wB) := hid (by rw [← hW]; exact KwA.out.drewN _)
      clear hW
      obtain ⟨z1, z2, z3, z4⟩ := IntRow.facts (KwB.out.row Hz.out.row (fun h => h))
      obtain ⟨x1, x2, _, _⟩ := IntRow.facts (KwB.out.row Hx.out.row (fun h => h))
      obtain ⟨y1, y2, _, _⟩ := IntRow.facts (KwB.out.row Hy.out.row (fun h => h))
      go_upto_region 5 with fail
      go_cut [47] from 48 to 62 (fun _ wx => ∃ ra rl rc, IntRow wx pz tz bz ra rl rc ∧ Rd wx ra rl rc (words (M - N)) ∧ Into w az cz ra rc ∧ Keeps (fun k => k = pz ∨ InB az k) w wx)
      case first =>
        go_region_law (first | (go_simp; go_at_call 197; refine (Hcall.out _ KwB.out.drew).mono ?_; rintro e w1 ⟨ra, rl, rc, rfl, h1, h2, h3⟩; obtain ⟨d0, d1, d2, d3⟩ := Hz.out.row.after h3 (Hz.out.rd.not_row Hz.out.row); have H1 := hid h1; have H2 := hid h2; have H3 := hid h3; clear h1 h2 h3))
        all_goals (go_wp2_with fail; go_meet)
        all_goals exact ⟨ra, rl, rc, IntRow.set1 (H3.out.row Hz.out.row (Hz.out.rd.not_row Hz.out.row)), H1.out.set_row (H3.out.row Hz.out.row (Hz.out.rd.not_row Hz.out.row)) _ _, H2.out, (H3.out.mono (fun i _ h => .inr h)).setCell _ (.inl (.inl rfl)) _⟩
      case rest =>
        obtain ⟨ra, rl, rc, h1, h2, h3, h4⟩ := hcut
        obtain ⟨d0, d1, d2, d3⟩ := h1.facts
        have hso : ∀ v, (wc.setCell ⟨pz, 0, none⟩ v).cell? ⟨pz, 1, none⟩ = some (.slice ra rl rc) := fun v => RowAt.cell (RowAt.set h1 0 v) 1
        have hlen := h2.length
        have H1 := hid h1; have H2 := hid h2; have H3 := hid h3; have H4 := hid h4
        clear h1 h2 h3 h4
        by_cases hN : M - N = 0
        · have hrl : rl = 0 := by rw [← hlen, hN, words_zero]; rfl
          subst hrl
          clear hlen
          have hN := hid hN
          go_wp2_with fail
          go_ret
          exact ⟨rfl, IntRes.sign H1.out H2.out H3.out H4.out (by have := hN.out; have := HMN.out; cases bx <;> simp [sgnv] <;> omega) (by have := hN.out; have := HMN.out; cases bx <;> simp [sgnv] <;> omega)⟩
        · have hrl : 0 < rl := by rw [← hlen]; exact words_length_pos hN
          have hrl' : decide ((0:Int) < (rl:Int)) = true := by simp; omega
          clear hlen
          have hN := hid hN
          go_wp2_with fail
          go_ret
          exact ⟨rfl, IntRes.sign H1.out H2.out H3.out H4.out (by have := hN.out; have := HMN.out; cases bx <;> simp [sgnv] <;> omega) (by have := hN.out; have := HMN.out; cases bx <;> simp [sgnv] <;> omega)⟩
    · have Hcall := hid (fun (W : World) (hk : Keeps (fun _ => False) w W) => NatRes.back hk (sub_any az lz cz _ ay ly cy N ax lx cx M W (Hz.out.rd.keep hk (fun _ _ h => h)) (Hy.out.rd.keep hk (fun _ _ h => h)) (Hx.out.rd.keep hk (fun _ _ h => h)) (by omega) (by omega) Hay.out Hax.out))
      have hci : (decide (0 ≤ cmpI M N)) = false := by
        have := cmpI_ge M N
        rw [this]; simp; omega
      have HMN := hid hMN
      clear hMN
      go_enter Tryz.func146, Tryz.ntmps146
      go_wp2_with fail
      go_quiet (fail)
      go_wp2_with fail
      generalize hW : w.drewN nq = wA
      have KwA : Hid (Keeps (fun _ => False) w wA) := hid (by rw [← hW]; exact (Keeps.refl _ w).drewN _)
      clear hW
      obtain ⟨z1, z2, z3, z4⟩ := IntRow.facts (KwA.out.row Hz.out.row (fun h => h))
      obtain ⟨x1, x2, _, _⟩ := IntRow.facts (KwA.out.row Hx.out.row (fun h => h))
      obtain ⟨y1, y2, _, _⟩ := IntRow.facts (KwA.out.row Hy.out.row (fun h => h))
      have HxA := hid (Hx.out.rd.keep KwA.out (fun _ _ h => h)); have HyA := hid (Hy.out.rd.keep KwA.out (fun _ _ h => h))
      go_quiet ((go_at_call 196; exact quiet_ex (cmp_any ax lx cx ay ly cy M N _ (HxA.out.drewN _) (HyA.out.drewN _))))
      go_wp2_with fail
      generalize hW : wA.drewN nq = wB
      have KwB : Hid (Keeps (fun _ => False) w wB) := hid (by rw [← hW]; exact KwA.out.drewN _)
      clear hW
      obtain ⟨z1, z2, z3, z4⟩ := IntRow.facts (KwB.out.row Hz.out.row (fun h => h))
      obtain ⟨x1, x2, _, _⟩ := IntRow.facts (KwB.out.row Hx.out.row (fun h => h))
      obtain ⟨y1, y2, _, _⟩ := IntRow.facts (KwB.out.row Hy.out.row (fun h => h))
      go_upto_region 7 with fail
      go_cut [65] from 66 to 80 (fun _ wx => ∃ ra rl rc, IntRow wx pz tz bz ra rl rc ∧ Rd wx ra rl rc (words (N - M)) ∧ Into w az cz ra rc ∧ Keeps (fun k => k = pz ∨ InB az k) w wx)
      case first =>
        go_region_law (first | (go_simp; go_at_call 197; refine (Hcall.out _ KwB.out.drew).mono ?_; rintro e w1 ⟨ra, rl, rc, rfl, h1, h2, h3⟩; obtain ⟨d0, d1, d2, d3⟩ := Hz.out.row.after h3 (Hz.out.rd.not_row Hz.out.row); have H1 := hid h1; have H2 := hid h2; have H3 := hid h3; clear h1 h2 h3))
        all_goals (go_wp2_with fail; go_meet)
        all_goals exact ⟨ra, rl, rc, IntRow.set1 (H3.out.row Hz.out.row (Hz.out.rd.not_row Hz.out.row)), H1.out.set_row (H3.out.row Hz.out.row (Hz.out.rd.not_row Hz.out.row)) _ _, H2.out, (H3.out.mono (fun i _ h => .inr h)).setCell _ (.inl (.inl rfl)) _⟩
      case rest =>
        obtain ⟨ra, rl, rc, h1, h2, h3, h4⟩ := hcut
        obtain ⟨d0, d1, d2, d3⟩ := h1.facts
        have hso : ∀ v, (wc.setCell ⟨pz, 0, none⟩ v).cell? ⟨pz, 1, none⟩ = some (.slice ra rl rc) := fun v => RowAt.cell (RowAt.set h1 0 v) 1
        have hlen := h2.length
        have H1 := hid h1; have H2 := hid h2; have H3 := hid h3; have H4 := hid h4
        clear h1 h2 h3 h4
        by_cases hN : N - M = 0
        · have hrl : rl = 0 := by rw [← hlen, hN, words_zero]; rfl
          subst hrl
          clear hlen
          have hN := hid hN
          go_wp2_with fail
          go_ret
          exact ⟨rfl, IntRes.sign H1.out H2.out H3.out H4.out (by have := hN.out; have := HMN.out; cases bx <;> simp [sgnv] <;> omega) (by have := hN.out; have := HMN.out; cases bx <;> simp [sgnv] <;> omega)⟩
        · have hrl : 0 < rl := by rw [← hlen]; exact words_length_pos hN
          have hrl' : decide ((0:Int) < (rl:Int)) = true := by simp; omega
          clear hlen
          have hN := hid hN
          go_wp2_with fail
          go_ret
          exact ⟨rfl, IntRes.sign H1.out H2.out H3.out H4.out (by have := hN.out; have := HMN.out; cases bx <;> simp [sgnv] <;> omega) (by have := hN.out; have := HMN.out; cases bx <;> simp [sgnv] <;> omega)⟩
end Go.Proofs
namespace Go.Proofs
open Go.RowKit
set_option maxHeartbeats 400000
set_option linter.unusedVariables false
set_option linter.unusedSimpArgs false
set_option maxRecDepth 100000

theorem words_one : words 1 = [1] := by
  have h : (words 1).length ≤ 1 := words_lt (n := 1) (k := 1) (by unfold W64; omega)
  have hp : 0 < (words 1).length := words_length_pos (by omega)
  have h1 := val_words 1
  match hw : words 1, h, hp with
  | [x], _, _ => rw [hw] at h1; simp at h1; rw [h1]

theorem natOne202 (w : World) : Calls Tryz.prog 202 #[] w fun e w' => e = .returned (.slice (some ⟨w.heap.size, 0, none⟩) 1 1) ∧ w' = w.alloc (.cells #[.int .u64 1] 177) := by
  go_enter Tryz.func202, Tryz.ntmps202
  go_wp2_with fail
  go_ret
  exact ⟨rfl, rfl⟩

theorem one_rd (w : World) : Rd (w.alloc (.cells #[.int .u64 1] 177)) (some ⟨w.heap.size, 0, none⟩) 1 1 (words 1) := by
  rw [words_one]
  exact .inr ⟨w.heap.size, 0, [1], rfl, RowAt.new w 177 [.int .u64 1], fun x hx => by simp at hx; subst hx; unfold W64; omega, Nat.le_refl _, by simp, rfl, by unfold LIM; simp⟩

/-- The number one, in two new blocks. -/
theorem intOne200 (w : World) : Calls Tryz.prog 200 #[] w fun e w' => ∃ p a, e = .returned (.pointer (some ⟨p, 0, none⟩)) ∧ w.heap.size ≤ p ∧ (∀ k, InB a k → w.heap.size ≤ k) ∧ IntS w' p 103 1 a 1 1 ∧ Keeps (fun _ => False) w w' := by
  have H := hid (natOne202 w)
  go_enter Tryz.func200, Tryz.ntmps200
  go_wp2_with fail
  refine H.out.mono ?_
  rintro e w1 ⟨rfl, rfl⟩
  go_wp2_with fail
  go_ret
  refine ⟨w.heap.size + 1, some ⟨w.heap.size, 0, none⟩, by simp, by omega, ?_, ⟨?_, ?_⟩, ?_⟩
  · rintro k ⟨o, ho⟩
    simp at ho
    omega
  · have := RowAt.new (w.alloc (.cells #[.int .u64 1] 177)) 103 [.bool false, .slice (some ⟨w.heap.size, 0, none⟩) 1 1]
    have hs : (w.alloc (.cells #[.int .u64 1] 177)).heap.size = w.heap.size + 1 := by simp
    rw [hs] at this
    exact this
  · exact (one_rd w).keep ((Keeps.refl (fun _ => False) _).alloc _) (fun _ _ h => h)
  · exact ((Keeps.refl _ w).alloc _).alloc _
end Go.Proofs
