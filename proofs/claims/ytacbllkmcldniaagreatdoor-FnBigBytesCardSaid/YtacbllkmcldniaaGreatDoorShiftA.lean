/- Parts of the proofs over the numbers of any length: IShift, Pl, IRsh. -/
import Derived.Deep.RegionHeld3
import Derived.Test.YtacbllkmcldniaaGreatDoorBitA
import Derived.Test.YtacbllkmcldniaaGreatDoorRangeD
import Derived.Test.YtacbllkmcldniaaGreatDoorBaseA
import Derived.Test.YtacbllkmcldniaaGreatDoorRangeB
set_option linter.unusedSimpArgs false
set_option linter.unusedVariables false
namespace Go.Proofs
open Go.RowKit
set_option maxHeartbeats 1000000
set_option linter.unusedVariables false
set_option linter.unusedSimpArgs false
set_option maxRecDepth 100000

theorem mul_pow_neg (x : Int) (s : Nat) : decide (x * ((2 ^ s : Nat) : Int) < 0) = decide (x < 0) := by
  have hp : (0 : Int) < ((2 ^ s : Nat) : Int) := by have := Nat.two_pow_pos s; omega
  refine decide_eq_decide.2 ⟨fun h => ?_, fun h => Int.mul_neg_of_neg_of_pos h hp⟩
  by_cases hx : 0 ≤ x
  · have := Int.mul_nonneg hx (Int.le_of_lt hp); omega
  · omega

theorem lsh166_other (pz px tz tx : Nat) (z x : Int) (az ax : Option Addr) (lz cz lx cx s : Nat) (w : World) (hz : IntS w pz tz z az lz cz) (hx : IntS w px tx x ax lx cx)
    (hzx : pz ≠ px) (hax : ∀ k, InB az k → ¬ InB ax k) (hlx : lx ≤ 100000) (hs : s ≤ 1000000) :
    Calls Tryz.prog 166 #[.pointer (some ⟨pz, 0, none⟩), .pointer (some ⟨px, 0, none⟩), .int .u64 (s : Int)] w fun e w' => e = .returned (.pointer (some ⟨pz, 0, none⟩)) ∧ IntRes w pz tz az cz (x * ((2 ^ s : Nat) : Int)) w' := by
  have Hz := hid hz; have Hx := hid hx
  obtain ⟨z1, z2, z3, z4⟩ := hz.row.facts
  obtain ⟨x1, x2, _, _⟩ := hx.row.facts
  have HC := hid (lsh_any az lz cz _ ax lx cx x.natAbs s w.drew Hz.out.rd.drew Hx.out.rd.drew (.inr hax) hlx hs)
  have HSg := hid (mul_pow_neg x s)
  have HAb : Hid (x.natAbs * 2 ^ s = (x * ((2 ^ s : Nat) : Int)).natAbs) := hid (by rw [Int.natAbs_mul, Int.natAbs_natCast])
  have hxz := Ne.symm hzx
  clear hz hx hax
  go_enter Tryz.func166, Tryz.ntmps166
  go_wp2_with fail
  go_region_law (first | (go_simp; go_at_call 210; (with_reducible refine HC.out.mono ?_); rintro e w1 ⟨ra, rl, rc, rfl, h1, h2, h3⟩; obtain ⟨d0, d1, d2, d3⟩ := Hz.out.row.after (((Keeps.refl _ w).drew).trans h3) (Hz.out.rd.not_row Hz.out.row); obtain ⟨g0, g1, g2, g3⟩ := Hx.out.row.after (((Keeps.refl _ w).drew).trans h3) (Hz.out.rd.not_row Hx.out.row); have H1 := hid h1; have H2 := hid h2; have H3 := hid h3; clear h1 h2 h3))
  all_goals go_wp2_with fail
  all_goals go_ret
  all_goals exact ⟨rfl, IntRes.both (((Keeps.refl _ w).drew.trans H3.out).row Hz.out.row (Hz.out.rd.not_row Hz.out.row)) H1.out (H2.out.mono (Nat.le_refl _)) (((Keeps.refl _ w).drew.trans H3.out).mono (fun i _ h => .inr h)) HSg.out.symm HAb.out⟩
theorem lsh166_same (pz tz : Nat) (z : Int) (az : Option Addr) (lz cz s : Nat) (w : World) (hz : IntS w pz tz z az lz cz) (hlx : lz ≤ 100000) (hs : s ≤ 1000000) :
    Calls Tryz.prog 166 #[.pointer (some ⟨pz, 0, none⟩), .pointer (some ⟨pz, 0, none⟩), .int .u64 (s : Int)] w fun e w' => e = .returned (.pointer (some ⟨pz, 0, none⟩)) ∧ IntRes w pz tz az cz (z * ((2 ^ s : Nat) : Int)) w' := by
  have Hz := hid hz
  obtain ⟨z1, z2, z3, z4⟩ := hz.row.facts
  have HC := hid (lsh_any az lz cz _ az lz cz z.natAbs s w.drew Hz.out.rd.drew Hz.out.rd.drew (SoA.refl _ _ _) hlx hs)
  have HSg := hid (mul_pow_neg z s)
  have HAb : Hid (z.natAbs * 2 ^ s = (z * ((2 ^ s : Nat) : Int)).natAbs) := hid (by rw [Int.natAbs_mul, Int.natAbs_natCast])
  clear hz
  go_enter Tryz.func166, Tryz.ntmps166
  go_wp2_with fail
  go_region_law (first | (go_simp; go_at_call 210; (with_reducible refine HC.out.mono ?_); rintro e w1 ⟨ra, rl, rc, rfl, h1, h2, h3⟩; obtain ⟨d0, d1, d2, d3⟩ := Hz.out.row.after (((Keeps.refl _ w).drew).trans h3) (Hz.out.rd.not_row Hz.out.row); have H1 := hid h1; have H2 := hid h2; have H3 := hid h3; clear h1 h2 h3))
  all_goals go_wp2_with fail
  all_goals go_ret
  all_goals exact ⟨rfl, IntRes.both (((Keeps.refl _ w).drew.trans H3.out).row Hz.out.row (Hz.out.rd.not_row Hz.out.row)) H1.out (H2.out.mono (Nat.le_refl _)) (((Keeps.refl _ w).drew.trans H3.out).mono (fun i _ h => .inr h)) HSg.out.symm HAb.out⟩
end Go.Proofs
namespace Go.Proofs
set_option linter.unusedVariables false

/-! Division cut off downwards. -/
theorem neg_ediv (m p : Nat) (hp : 0 < p) : (-(m : Int) - 1) / (p : Int) = -((m / p : Nat) : Int) - 1 := by
  have h := Nat.div_add_mod m p
  have hl := Nat.mod_lt m hp
  refine ((Int.ediv_emod_unique (r := (p : Int) - 1 - ((m % p : Nat) : Int)) (by omega)).2 ⟨?_, by omega, by omega⟩).1
  have h' : (p : Int) * ((m / p : Nat) : Int) + ((m % p : Nat) : Int) = (m : Int) := by exact_mod_cast h
  rw [Int.mul_sub, Int.mul_neg]
  omega
theorem nat_ediv (m p : Nat) : (m : Int) / (p : Int) = ((m / p : Nat) : Int) := by omega
end Go.Proofs
namespace Go.Proofs
open Go.RowKit
set_option maxHeartbeats 1000000
set_option linter.unusedVariables false
set_option linter.unusedSimpArgs false
set_option maxRecDepth 100000

theorem NatRes.chain {w w1 w2 : World} {a ra : Option Addr} {c rc N : Nat} {e : Ending} (h1 : Into w a c ra rc) (hk : Keeps (InB a) w w1) (h : NatRes w1 ra rc N e w2) : NatRes w a c N e w2 := by
  obtain ⟨sa, sl, sc, rfl, g1, g2, g3⟩ := h
  exact ⟨sa, sl, sc, rfl, g1, h1.trans g2 hk.size, hk.trans' g3 (fun i hi hb => (h1.inB hb).elim id (fun h => by omega))⟩
theorem natOne_any (w : World) : Calls Tryz.prog 202 #[] w fun e w' => ∃ b, e = .returned (.slice (some ⟨b, 0, none⟩) 1 1) ∧ Rd w' (some ⟨b, 0, none⟩) 1 1 (words 1) ∧ w.heap.size ≤ b ∧ Keeps (fun _ => False) w w' := by
  refine (natOne202 w).mono ?_
  rintro e w' ⟨rfl, rfl⟩
  refine ⟨_, rfl, ?_, Nat.le_refl _, (Keeps.refl _ w).alloc _⟩
  have hb : Blk (w.alloc (.cells #[.int .u64 1] 177)) w.heap.size [1] := RowAt.new w 177 [.int .u64 1]
  have := Rd.of_blk (o := 0) (l := 1) (c := 1) hb (Words.cons (by unfold W64; omega) Words.nil) (Nat.le_refl _) (by simp) (by simp [LIM])
  rwa [show Go.Proofs.seg [1] 0 1 = words 1 by rw [words_one]; rfl] at this
theorem al_new {a : Option Addr} {c : Nat} {b c' W : Nat} (hb : W ≤ b) (ha : ∀ k, InB a k → k < W) : Al a c (some ⟨b, 0, none⟩) c' := by
  refine Al.of_ne fun k hk hk' => ?_
  obtain ⟨o, ho⟩ := hk'
  cases ho
  have := ha _ hk
  omega

/-- z.abs.sub(x.abs, natOne()) and z.abs.add(x.abs, natOne()), each loaded cell and call in whatever order. -/
theorem sub_one {w w1 : World} {a x : Option Addr} {l c xl xc N b : Nat} {L : List Nat} (hz : Rd w a l c L) (hx : Rd w x xl xc (words N)) (hal : Al a c x xc) (hxl : xl ≤ 400000) (hN : 1 ≤ N) (h1 : Rd w1 (some ⟨b, 0, none⟩) 1 1 (words 1)) (hb : w.heap.size ≤ b) (hk : Keeps (fun _ => False) w w1) :
    Calls Tryz.prog 197 #[.slice a l c, .slice x xl xc, .slice (some ⟨b, 0, none⟩) 1 1] w1 (NatRes w a c (N - 1)) :=
  NatRes.back hk (sub_any a l c L x xl xc N _ 1 1 1 w1 (hz.keep hk (fun _ _ h => h)) (hx.keep hk (fun _ _ h => h)) h1 hxl hN hal (al_new hb (fun k hk => hz.lt hk)))
theorem add_one {w w1 : World} {a x : Option Addr} {l c xl xc N b : Nat} {L : List Nat} (hz : Rd w a l c L) (hx : Rd w x xl xc (words N)) (hal : Al a c x xc) (hxl : xl ≤ 400000) (h1 : Rd w1 (some ⟨b, 0, none⟩) 1 1 (words 1)) (hb : w.heap.size ≤ b) (hk : Keeps (fun _ => False) w w1) :
    Calls Tryz.prog 195 #[.slice a l c, .slice x xl xc, .slice (some ⟨b, 0, none⟩) 1 1] w1 (NatRes w a c (N + 1)) :=
  NatRes.back hk (add_any a l c L x xl xc N _ 1 1 1 w1 (hz.keep hk (fun _ _ h => h)) (hx.keep hk (fun _ _ h => h)) h1 hxl (by omega) hal (al_new hb (fun k hk => hz.lt hk)))

theorem rsh_neg {x : Int} (hx : x < 0) (s : Nat) : decide (x / ((2 ^ s : Nat) : Int) < 0) = true ∧ (x / ((2 ^ s : Nat) : Int)).natAbs = (x.natAbs - 1) / 2 ^ s + 1 := by
  obtain ⟨m, rfl⟩ : ∃ m : Nat, x = -(m : Int) - 1 := ⟨(-x - 1).toNat, by omega⟩
  have h := neg_ediv m (2 ^ s) (Nat.two_pow_pos s)
  rw [h, show (-(m : Int) - 1).natAbs - 1 = m by omega]
  generalize m / 2 ^ s = d
  exact ⟨by simp; omega, by omega⟩
theorem rsh_pos {x : Int} (hx : 0 ≤ x) (s : Nat) : decide (x / ((2 ^ s : Nat) : Int) < 0) = false ∧ (x / ((2 ^ s : Nat) : Int)).natAbs = x.natAbs / 2 ^ s := by
  obtain ⟨m, rfl⟩ := Int.eq_ofNat_of_zero_le hx
  rw [nat_ediv, Int.natAbs_natCast, Int.natAbs_natCast]
  exact ⟨decide_eq_false (Int.not_lt.mpr (Int.natCast_nonneg _)), rfl⟩

theorem rsh167 (pz px tz tx : Nat) (z x : Int) (az ax : Option Addr) (lz cz lx cx s : Nat) (w : World) (hz : IntS w pz tz z az lz cz) (hx : IntS w px tx x ax lx cx)
    (hax : SoA az lz cz ax lx cx) (hlx : lx ≤ 100000) (hs : s ≤ 1000000) :
    Calls Tryz.prog 167 #[.pointer (some ⟨pz, 0, none⟩), .pointer (some ⟨px, 0, none⟩), .int .u64 (s : Int)] w fun e w' => e = .returned (.pointer (some ⟨pz, 0, none⟩)) ∧ IntRes w pz tz az cz (x / ((2 ^ s : Nat) : Int)) w' := by
  have Hz := hid hz; have Hx := hid hx
  obtain ⟨z1, z2, z3, z4⟩ := hz.row.facts
  obtain ⟨x1, x2, _, _⟩ := hx.row.facts
  by_cases hneg : x < 0
  · rw [decide_eq_true hneg] at x1
    have hlz := hz.rd.len_le
    have Hr := hid (rsh_neg hneg s)
    have HOne := hid (natOne_any w.drew)
    have HSub : Hid (∀ w1 b, Rd w1 (some ⟨b, 0, none⟩) 1 1 (words 1) → w.heap.size ≤ b → Keeps (fun _ => False) w w1 → Calls Tryz.prog 197 #[.slice az lz cz, .slice ax lx cx, .slice (some ⟨b, 0, none⟩) 1 1] w1 (NatRes w az cz (x.natAbs - 1))) :=
      hid (fun w1 b h1 h2 h3 => sub_one hz.rd hx.rd hax.al (by omega) (by omega) h1 h2 h3)
    have hS : Hid (∀ w', Keeps (InB az) w w' → w'.cell? ⟨pz, 1, none⟩ = some (.slice az lz cz) ∧ w'.cell? ⟨px, 1, none⟩ = some (.slice ax lx cx)) := hid (fun w' hk => ⟨(hz.row.after hk (hz.rd.not_row hz.row)).2.1, (hx.row.after hk (hz.rd.not_row hx.row)).2.1⟩)
    have HK0 : Hid (Keeps (fun _ => False) w w.drew) := hid (Keeps.refl _ w).drew
    have Hneg := hid hneg; have Hlx := hid hlx
    clear hz hx hax hneg hlz z1 z2 z3 z4 x2
    go_enter Tryz.func167, Tryz.ntmps167
    go_upto_region 2 with fail
    go_cut [7] from 12 to 22 (fun tv wx => NatRes w az cz (x.natAbs - 1) (.returned tv) wx)
    case first =>
      go_region_held3 (fun w' => w'.cell? ⟨pz, 1, none⟩ = some (.slice az lz cz) ∧ w'.cell? ⟨px, 1, none⟩ = some (.slice ax lx cx))
        (first | with_reducible exact hS.out _ HK0.out.any | with_reducible exact hS.out _ HK1.out.any | with_reducible exact hS.out _ HK.out)
        (first
         | (go_at_call 202; (with_reducible refine HOne.out.mono ?_); rintro e w1 ⟨b, rfl, h1, h2, h3⟩; have H1 := hid h1; have H2 := hid (show w.heap.size ≤ b from h2); have HK1 := hid (HK0.out.trans h3); clear h1 h2 h3)
         | (go_at_call 197; (with_reducible refine (HSub.out _ _ H1.out H2.out HK1.out).mono ?_); rintro e w2 ⟨ra, rl, rc, rfl, h1, h2, h3⟩; have HR := hid h1; have HI := hid h2; have HK := hid h3; clear h1 h2 h3))
      all_goals
        go_wp2_with fail
        go_meet
      all_goals exact ⟨_, _, _, rfl, HR.out, HI.out, HK.out⟩
    case rest =>
      obtain ⟨ra, rl, rc, htv, h1, h2, h3⟩ := hcut
      cases htv
      have HI := hid h2; have HK := hid h3; have HR := hid h1
      have HC3 := hid (rsh_any ra rl rc _ ra rl rc (x.natAbs - 1) s wc h1 h1 (SoA.refl _ _ _) (by
        have h5 := words_mono (show x.natAbs - 1 ≤ x.natAbs by omega)
        rw [h1.length, Hx.out.rd.length] at h5
        have := Hlx.out
        omega) hs)
      clear h1 h2 h3
      go_wp2_with fail
      refine HC3.out.mono ?_
      intro e w3 hn3
      obtain ⟨sa, sl, sc, rfl, h1, h2, h3⟩ := NatRes.chain HI.out HK.out hn3
      have HR3 := hid h1; have HI3 := hid h2; have HK3 := hid h3
      have HOne3 := hid (natOne_any w3)
      clear h1 h2 h3 hn3 HC3 HI HK HR
      go_wp2_with fail
      refine HOne3.out.mono ?_
      rintro e w4 ⟨b, rfl, h1, h2, h3⟩
      have HAdd := hid (add_one HR3.out HR3.out (Al.refl _ _) (by
        have h5 := words_mono (show (x.natAbs - 1) / 2 ^ s ≤ x.natAbs from Nat.le_trans (Nat.div_le_self _ _) (by omega))
        rw [HR3.out.length, Hx.out.rd.length] at h5
        have := Hlx.out
        omega) h1 h2 h3)
      clear h1 h2 h3 HOne3
      go_wp2_with fail
      refine HAdd.out.mono ?_
      intro e w5 hn5
      obtain ⟨ta, tl, tc, rfl, h1, h2, h3⟩ := NatRes.chain HI3.out HK3.out hn5
      have HR5 := hid h1; have HI5 := hid h2; have HK5 := hid h3
      have hrow5 := h3.row Hz.out.row (Hz.out.rd.not_row Hz.out.row)
      obtain ⟨d0, d1, d2, d3⟩ := IntRow.facts hrow5
      have Hrow5 := hid hrow5
      clear h1 h2 h3 hn5 HAdd HI3 HK3 HR3 hrow5
      go_wp2_with fail
      go_ret
      exact ⟨rfl, IntRes.both Hrow5.out HR5.out HI5.out (HK5.out.mono (fun i _ h => .inr h)) Hr.out.1.symm Hr.out.2.symm⟩
  · have hpos : 0 ≤ x := by omega
    rw [decide_eq_false hneg] at x1
    have HC := hid (rsh_any az lz cz _ ax lx cx x.natAbs s w.drew Hz.out.rd.drew Hx.out.rd.drew hax hlx hs)
    have Hr := hid (rsh_pos hpos s)
    clear hz hx hax hneg hpos
    go_enter Tryz.func167, Tryz.ntmps167
    go_wp2_with fail
    go_region_law (first | (go_simp; go_at_call 211; (with_reducible refine HC.out.mono ?_); rintro e w1 ⟨ra, rl, rc, rfl, h1, h2, h3⟩; obtain ⟨d0, d1, d2, d3⟩ := Hz.out.row.after (((Keeps.refl _ w).drew).trans h3) (Hz.out.rd.not_row Hz.out.row); have H1 := hid h1; have H2 := hid h2; have H3 := hid h3; clear h1 h2 h3))
    all_goals go_wp2_with fail
    all_goals go_ret
    all_goals exact ⟨rfl, IntRes.both (((Keeps.refl _ w).drew.trans H3.out).row Hz.out.row (Hz.out.rd.not_row Hz.out.row)) H1.out (H2.out.mono (Nat.le_refl _)) (((Keeps.refl _ w).drew.trans H3.out).mono (fun i _ h => .inr h)) Hr.out.1.symm Hr.out.2.symm⟩
end Go.Proofs
