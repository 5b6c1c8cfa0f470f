/- Parts of the proofs over the numbers of any length: IMul, Do, Safe, BigDo, BigText, BigText2, Alive. -/
import Derived.Tactics
import Derived.Tactics2
import Derived.WalkKit
import Derived.Defers
import Derived.Recover
import Derived.Laws.Pointers
import Derived.Laws.ResultCell
import Derived.Test.YtacbllkmcldniaaGreatDoorBaseC
import Derived.Test.YtacbllkmcldniaaGreatDoorBaseB
import Derived.Test.YtacbllkmcldniaaGreatDoorBaseA
set_option linter.unusedSimpArgs false
set_option linter.unusedVariables false
namespace Go.Proofs
open Go.RowKit
set_option maxHeartbeats 400000
set_option linter.unusedVariables false
set_option linter.unusedSimpArgs false
set_option maxRecDepth 100000

/-- A number in memory, its slice named. -/
structure IntS (w : World) (p : Nat) (t : TypeId) (z : Int) (a : Option Addr) (l c : Nat) : Prop where
  row : IntRow w p t (decide (z < 0)) a l c
  rd : Rd w a l c (words z.natAbs)

/-- What an operation on numbers leaves. -/
def IntRes (w : World) (p : Nat) (t : TypeId) (a : Option Addr) (c : Nat) (r : Int) (w' : World) : Prop :=
  ∃ a' l' c', IntS w' p t r a' l' c' ∧ Into w a c a' c' ∧ Keeps (fun k => k = p ∨ InB a k) w w'

/-- No block of words is a number's own. -/
theorem Rd.not_row {w : World} {a : Option Addr} {l c : Nat} {L : List Nat} (h : Rd w a l c L) {p : Nat} {t : TypeId} {neg : Bool} {a' : Option Addr} {l' c' : Nat} (hr : IntRow w p t neg a' l' c') : ¬ InB a p := by
  rintro ⟨o, rfl⟩
  rcases h with ⟨h, _⟩ | ⟨b, o', M, h, hb, _⟩
  · cases h
  · cases h
    have := RowAt.inj hb hr
    cases M with
    | nil => simp at this
    | cons x xs => simp [wv] at this

theorem IntS.same {w : World} {p : Nat} {t t' : TypeId} {z z' : Int} {a a' : Option Addr} {l c l' c' : Nat} (h : IntS w p t z a l c) (k : IntS w p t' z' a' l' c') : z = z' ∧ a = a' ∧ l = l' ∧ c = c' := by
  have h1 := RowAt.inj h.row k.row
  simp only [List.cons.injEq, Value.bool.injEq, Value.slice.injEq, and_true] at h1
  obtain ⟨h1, rfl, rfl, rfl⟩ := h1
  have h2 := words_inj (Rd.inj h.rd k.rd)
  have h3 : (z < 0) ↔ (z' < 0) := by simpa using h1
  exact ⟨by omega, rfl, rfl, rfl⟩

/-- What stays of a number's own block. -/
theorem IntRow.after {w w' : World} {S : Nat → Prop} {p : Nat} {t : TypeId} {neg : Bool} {a : Option Addr} {l c : Nat} (h : IntRow w p t neg a l c) (hk : Keeps S w w') (hn : ¬ S p) :
    w'.cell? ⟨p, 0, none⟩ = some (.bool neg) ∧ w'.cell? ⟨p, 1, none⟩ = some (.slice a l c) ∧ w'.frozen? ⟨p, 0, none⟩ = false ∧ w'.frozen? ⟨p, 1, none⟩ = false :=
  IntRow.facts (hk.row h hn)

theorem IntRow.set1 {w : World} {p : Nat} {t : TypeId} {neg : Bool} {a ra : Option Addr} {l c rl rc : Nat} (h : IntRow w p t neg a l c) : IntRow (w.setCell ⟨p, 1, none⟩ (.slice ra rl rc)) p t neg ra rl rc :=
  RowAt.set h 1 (.slice ra rl rc)
theorem IntRow.set0 {w : World} {p : Nat} {t : TypeId} {neg s : Bool} {a : Option Addr} {l c : Nat} (h : IntRow w p t neg a l c) : IntRow (w.setCell ⟨p, 0, none⟩ (.bool s)) p t s a l c :=
  RowAt.set h 0 (.bool s)
theorem Rd.set_row {w : World} {a : Option Addr} {l c : Nat} {L : List Nat} (h : Rd w a l c L) {p : Nat} {t : TypeId} {neg : Bool} {a' : Option Addr} {l' c' : Nat} (hr : IntRow w p t neg a' l' c') (o : Nat) (v : Value) : Rd (w.setCell ⟨p, o, none⟩ v) a l c L :=
  h.keep (Keeps.set1 w p o v) (fun k hk => by rintro rfl; exact h.not_row hr hk)

/-- The sign is set last. -/
theorem IntRes.sign {w wx : World} {p : Nat} {t : TypeId} {neg s : Bool} {a ra : Option Addr} {c rl rc N : Nat} {r : Int} (hr : IntRow wx p t neg ra rl rc) (hd : Rd wx ra rl rc (words N)) (hi : Into w a c ra rc)
    (hk : Keeps (fun k => k = p ∨ InB a k) w wx) (hs : s = decide (r < 0)) (hN : N = r.natAbs) : IntRes w p t a c r (wx.setCell ⟨p, 0, none⟩ (.bool s)) := by
  subst hs
  subst hN
  exact ⟨ra, rl, rc, ⟨hr.set0, hd.set_row hr _ _⟩, hi, hk.setCell _ (.inl (.inl rfl)) _⟩
theorem IntRes.both {w wx : World} {p : Nat} {t : TypeId} {neg s : Bool} {a a0 ra : Option Addr} {c l0 c0 rl rc N : Nat} {r : Int} (hr : IntRow wx p t neg a0 l0 c0) (hd : Rd wx ra rl rc (words N)) (hi : Into w a c ra rc)
    (hk : Keeps (fun k => k = p ∨ InB a k) w wx) (hs : s = decide (r < 0)) (hN : N = r.natAbs) : IntRes w p t a c r ((wx.setCell ⟨p, 1, none⟩ (.slice ra rl rc)).setCell ⟨p, 0, none⟩ (.bool s)) :=
  IntRes.sign (hr.set1 (ra := ra) (rl := rl) (rc := rc)) (hd.set_row hr _ _) hi (hk.setCell _ (.inl (.inl rfl)) _) hs hN

theorem mul_sign (x y : Int) : decide (x * y < 0) = (decide (x.natAbs * y.natAbs ≠ 0) && (decide (x < 0) != decide (y < 0))) := by
  have key : ∀ p q r : Bool, p = q → (q = r) → p = r := fun _ _ _ h k => h.trans k
  rcases Int.lt_trichotomy x 0 with hx | hx | hx <;> rcases Int.lt_trichotomy y 0 with hy | hy | hy
  · have h1 : 0 < x * y := Int.mul_pos_of_neg_of_neg hx hy
    rw [decide_eq_false (show ¬ x * y < 0 by omega), decide_eq_true hx, decide_eq_true hy]; simp
  · subst hy; simp
  · have h1 : x * y < 0 := Int.mul_neg_of_neg_of_pos hx hy
    have h2 : x.natAbs * y.natAbs ≠ 0 := Nat.mul_ne_zero (by omega) (by omega)
    rw [decide_eq_true h1, decide_eq_true h2, decide_eq_true hx, decide_eq_false (show ¬ y < 0 by omega)]; rfl
  · subst hx; simp
  · subst hx; simp
  · subst hx; simp
  · have h1 : x * y < 0 := Int.mul_neg_of_pos_of_neg hx hy
    have h2 : x.natAbs * y.natAbs ≠ 0 := Nat.mul_ne_zero (by omega) (by omega)
    rw [decide_eq_true h1, decide_eq_true h2, decide_eq_true hy, decide_eq_false (show ¬ x < 0 by omega)]; rfl
  · subst hy; simp
  · have h1 : 0 < x * y := Int.mul_pos hx hy
    rw [decide_eq_false (show ¬ x * y < 0 by omega), decide_eq_false (show ¬ x < 0 by omega), decide_eq_false (show ¬ y < 0 by omega)]; simp

theorem mul198_new (pz px py tz tx ty : Nat) (z x y : Int) (az ax ay : Option Addr) (lz cz lx cx ly cy : Nat) (w : World)
    (hz : IntS w pz tz z az lz cz) (hx : IntS w px tx x ax lx cx) (hy : IntS w py ty y ay ly cy) (G : Glob w)
    (hzx : pz ≠ px) (hzy : pz ≠ py) (hax : pz ≠ px → ∀ k, InB az k → ¬ InB ax k) (hay : pz ≠ py → ∀ k, InB az k → ¬ InB ay k) (hlx : lx < 12) (hly : ly < 12) (hN : x.natAbs * y.natAbs ≠ 0) :
    Calls Tryz.prog 198 #[.pointer (some ⟨pz, 0, none⟩), .pointer none, .pointer (some ⟨px, 0, none⟩), .pointer (some ⟨py, 0, none⟩)] w fun e w' =>
      e = .returned (.tuple #[]) ∧ IntRes w pz tz az cz (x * y) w' := by
  have Hz := hid hz; have Hx := hid hx; have Hy := hid hy; have HG := hid G
  obtain ⟨z1, z2, z3, z4⟩ := hz.row.facts
  obtain ⟨x1, x2, _, _⟩ := hx.row.facts
  obtain ⟨y1, y2, _, _⟩ := hy.row.facts
  have HGd := hid (show Glob w.drew from HG.out.drewN 1)
  have Haxx : Hid (Al az cz ax cx) := hid (by
    by_cases h : pz = px
    · subst h
      obtain ⟨_, rfl, rfl, rfl⟩ := hz.same hx
      exact Al.refl _ _
    · exact Al.of_ne (hax h))
  have Hayy : Hid (Al az cz ay cy) := hid (by
    by_cases h : pz = py
    · subst h
      obtain ⟨_, rfl, rfl, rfl⟩ := hz.same hy
      exact Al.refl _ _
    · exact Al.of_ne (hay h))
  by_cases hxy : px = py
  · subst hxy
    obtain ⟨rfl, rfl, rfl, rfl⟩ := hx.same hy
    have qE := eql_ptr117_same ⟨px, 0, none⟩ w
    have Hcall := hid (sqr_any az lz cz _ none ax lx cx x.natAbs w.drew HGd.out Hz.out.rd.drew Hx.out.rd.drew hlx Haxx.out)
    clear hz hx hy G hax hay
    go_enter Tryz.func198, Tryz.ntmps198
    go_wp2_with fail
    go_region_law (first | (go_simp; go_at_call 235; refine Hcall.out.mono ?_; rintro e w1 ⟨ra, rl, rc, rfl, h1, h2, h3⟩; obtain ⟨d0, d1, d2, d3⟩ := Hz.out.row.after (((Keeps.refl _ w).drew).trans h3) (Hz.out.rd.not_row Hz.out.row); obtain ⟨g0, g1, g2, g3⟩ := Hx.out.row.after (((Keeps.refl _ w).drew).trans h3) (Hz.out.rd.not_row Hx.out.row); have H1 := hid h1; have H2 := hid h2; have H3 := hid h3; clear h1 h2 h3))
    all_goals go_wp2_with fail
    all_goals (refine bodyPost_ret (results_none rfl _ _ _) rfl ?_)
    all_goals exact ⟨rfl, IntRes.both (((Keeps.refl _ w).drew.trans H3.out).row Hz.out.row (Hz.out.rd.not_row Hz.out.row)) H1.out (H2.out.mono (Nat.le_refl _)) (((Keeps.refl _ w).drew.trans H3.out).mono (fun i _ h => .inr h)) (by rw [mul_sign]; simp) (by rw [Int.natAbs_mul])⟩
  · have qE := eql_ptr117_other _ _ _ _ _ _ _ _ _ _ _ _ _ hx.row hy.row hxy
    have Hcall := hid (mul_any az lz cz _ none ax lx cx x.natAbs ay ly cy y.natAbs w.drew HGd.out Hz.out.rd.drew Hx.out.rd.drew Hy.out.rd.drew (by omega) (by omega) Haxx.out Hayy.out)
    clear hz hx hy G hax hay
    have hzx' := hid hzx; have hzy' := hid hzy
    go_enter Tryz.func198, Tryz.ntmps198
    go_upto_region 3 with fail
    go_cut [27] from 28 to 43 (fun _ wx => ∃ ra rl rc, IntRow wx pz tz (decide (z < 0)) ra rl rc ∧ Rd wx ra rl rc (words (x.natAbs * y.natAbs)) ∧ Into w az cz ra rc ∧ Keeps (fun k => k = pz ∨ InB az k) w wx)
    case first =>
      go_region_law (first | (go_simp; go_at_call 236; refine Hcall.out.mono ?_; rintro e w1 ⟨ra, rl, rc, rfl, h1, h2, h3⟩; obtain ⟨d0, d1, d2, d3⟩ := Hz.out.row.after (((Keeps.refl _ w).drew).trans h3) (Hz.out.rd.not_row Hz.out.row); have H1 := hid h1; have H2 := hid h2; have H3 := hid h3; clear h1 h2 h3))
      all_goals (go_wp2_with fail; go_meet)
      all_goals exact ⟨ra, rl, rc, IntRow.set1 (neg := decide (z < 0)) (a := az) (l := lz) (c := cz) (((Keeps.refl _ w).drew.trans H3.out).row Hz.out.row (Hz.out.rd.not_row Hz.out.row)), H1.out.set_row (neg := decide (z < 0)) (a' := az) (l' := lz) (c' := cz) (((Keeps.refl _ w).drew.trans H3.out).row Hz.out.row (Hz.out.rd.not_row Hz.out.row)) _ _, H2.out.mono (Nat.le_refl _), (((Keeps.refl _ w).drew.trans H3.out).mono (fun i _ h => .inr h)).setCell _ (.inl (.inl rfl)) _⟩
    case rest =>
      obtain ⟨ra, rl, rc, h1, h2, h3, h4⟩ := hcut
      have sgn : ∀ (p : Nat) (t : TypeId) (v : Int) (a : Option Addr) (l c : Nat), IntS w p t v a l c → wc.cell? ⟨p, 0, none⟩ = some (.bool (decide (v < 0))) := by
        intro p t v a l c hs
        by_cases hp : p = pz
        · subst hp
          obtain ⟨rfl, _⟩ := Hz.out.same hs
          exact h1.facts.1
        · exact (IntRow.facts (h4.row hs.row (fun h => by
            rcases h with h | h
            · exact hp h
            · exact Hz.out.rd.not_row hs.row h))).1
      have hso : ∀ v, (wc.setCell ⟨pz, 0, none⟩ v).cell? ⟨pz, 1, none⟩ = some (.slice ra rl rc) := fun v => RowAt.cell (RowAt.set h1 0 v) 1
      have hso' : ∀ v, (wc.setCell ⟨pz, 0, none⟩ v).drew.cell? ⟨pz, 1, none⟩ = some (.slice ra rl rc) := fun v => RowAt.cell (RowAt.set h1 0 v) 1
      have hxz : px ≠ pz := Ne.symm hzx
      have hyz : py ≠ pz := Ne.symm hzy
      obtain ⟨d0, d1, d2, d3⟩ := h1.facts
      have g1 := sgn _ _ _ _ _ _ Hx.out
      have g2 := sgn _ _ _ _ _ _ Hy.out
      obtain ⟨bx, hbx⟩ : ∃ b, b = decide (x < 0) := ⟨_, rfl⟩
      obtain ⟨bY, hby⟩ : ∃ b, b = decide (y < 0) := ⟨_, rfl⟩
      rw [← hbx] at g1
      rw [← hby] at g2
      have hlen := h2.length
      have hms := mul_sign x y
      rw [← hbx, ← hby] at hms
      have H1 := hid h1; have H2 := hid h2; have H3 := hid h3; have H4 := hid h4; have HMS := hid hms
      clear h1 h2 h3 h4 sgn hbx hby hms
      have hrl : 0 < rl := by rw [← hlen]; exact words_length_pos hN
      have HN := hid hN
      clear hN hlen
      go_wp2_with fail
      go_region_held3 (fun w' => w'.cell? ⟨pz, 1, none⟩ = some (.slice ra rl rc) ∧ w'.cell? ⟨px, 0, none⟩ = some (.bool bx) ∧ w'.cell? ⟨py, 0, none⟩ = some (.bool bY) ∧ w'.frozen? ⟨pz, 0, none⟩ = false) (go_keep) (fail)
      go_wp2_with fail
      first | go_end0 | refine bodyPost_ret (results_none rfl _ _ _) rfl ?_
      refine ⟨rfl, ?_⟩
      have hk := (Keeps.refl (fun k => k = pz ∨ InB az k) wc).drew
      refine IntRes.sign (wx := wc.drew) (RowAt.drew H1.out) (H2.out.drew) H3.out (H4.out.drew) ?_ (by rw [Int.natAbs_mul])
      rw [HMS.out, decide_eq_true HN.out]
      cases bx <;> cases bY <;> rfl

theorem mul147_new (pz px py tz tx ty : Nat) (z x y : Int) (az ax ay : Option Addr) (lz cz lx cx ly cy : Nat) (w : World)
    (hz : IntS w pz tz z az lz cz) (hx : IntS w px tx x ax lx cx) (hy : IntS w py ty y ay ly cy) (G : Glob w)
    (hzx : pz ≠ px) (hzy : pz ≠ py) (hxy : px ≠ py) (hax : pz ≠ px → ∀ k, InB az k → ¬ InB ax k) (hay : pz ≠ py → ∀ k, InB az k → ¬ InB ay k) (hlx : lx < 12) (hly : ly < 12) (hN : x.natAbs * y.natAbs ≠ 0) :
    Calls Tryz.prog 147 #[.pointer (some ⟨pz, 0, none⟩), .pointer (some ⟨px, 0, none⟩), .pointer (some ⟨py, 0, none⟩)] w fun e w' =>
      e = .returned (.pointer (some ⟨pz, 0, none⟩)) ∧ IntRes w pz tz az cz (x * y) w' := by
  have H := hid (mul198_new pz px py tz tx ty z x y az ax ay lz cz lx cx ly cy w hz hx hy G hzx hzy hax hay hlx hly hN)
  clear hz hx hy G hzx hzy hxy hax hay hlx hly hN
  go_enter Tryz.func147, Tryz.ntmps147
  go_wp2_with fail
  refine H.out.mono ?_
  rintro e w1 ⟨rfl, hk⟩
  have hk := hid hk
  go_wp2_with fail
  go_ret
  exact ⟨rfl, hk.out⟩
end Go.Proofs
namespace Go.Proofs
open Go.RowKit
set_option maxHeartbeats 400000
set_option linter.unusedVariables false
set_option linter.unusedSimpArgs false
set_option maxRecDepth 100000

theorem mul70_new (pz px py tz tx ty : Nat) (z x y : Int) (az ax ay : Option Addr) (lz cz lx cx ly cy : Nat) (w : World)
    (hz : IntS w pz tz z az lz cz) (hx : IntS w px tx x ax lx cx) (hy : IntS w py ty y ay ly cy) (G : Glob w)
    (hzx : pz ≠ px) (hzy : pz ≠ py) (hxy : px ≠ py) (hax : ∀ k, InB az k → ¬ InB ax k) (hay : ∀ k, InB az k → ¬ InB ay k) (hlx : lx < 12) (hly : ly < 12) (hN : x.natAbs * y.natAbs ≠ 0) :
    Calls Tryz.prog 70 #[.pointer (some ⟨pz, 0, none⟩), .pointer (some ⟨px, 0, none⟩), .pointer (some ⟨py, 0, none⟩)] w fun e w' =>
      e = .returned (.pointer (some ⟨pz, 0, none⟩)) ∧ IntRes w pz tz az cz (x * y) w' := by
  have H := hid (mul147_new pz px py tz tx ty z x y az ax ay lz cz lx cx ly cy w.drew ⟨hz.row.drew, hz.rd.drew⟩ ⟨hx.row.drew, hx.rd.drew⟩ ⟨hy.row.drew, hy.rd.drew⟩ (G.drewN 1) hzx hzy hxy (fun _ => hax) (fun _ => hay) hlx hly hN)
  clear hz hx hy G hzx hzy hxy hax hay hlx hly hN
  go_enter Tryz.func70, Tryz.ntmps70
  go_wp2_with fail
  go_still_tail 9, (by kernel_rfl)
  go_wp2_with fail
  refine H.out.mono ?_
  rintro e w1 ⟨rfl, hk⟩
  have hk := hid hk
  go_wp2_with fail
  go_ret
  obtain ⟨a, l, c, h1, h2, h3⟩ := hk.out
  exact ⟨rfl, a, l, c, h1, h2.mono (Nat.le_refl _), (((Keeps.refl _ w).drew).trans h3)⟩

theorem IntS.keep {w w' : World} {S : Nat → Prop} {p : Nat} {t : TypeId} {z : Int} {a : Option Addr} {l c : Nat} (h : IntS w p t z a l c) (hk : Keeps S w w') (hp : ¬ S p) (ha : ∀ k, InB a k → ¬ S k) : IntS w' p t z a l c :=
  ⟨hk.row h.row hp, h.rd.keep hk ha⟩
theorem IntS.at {w : World} {p : Nat} {t : TypeId} {z : Int} {a : Option Addr} {l c : Nat} (h : IntS w p t z a l c) : IntAt w p t z := ⟨a, l, c, h.row, h.rd⟩

/-- The number of a text. -/
def numZ (neg : Bool) (N : Nat) : Int := if neg then -(N : Int) else N
theorem numZ_neg (neg : Bool) (N : Nat) : decide (numZ neg N < 0) = (neg && decide (N ≠ 0)) := by
  unfold numZ
  cases neg with
  | true =>
    by_cases h : N = 0
    · subst h; rfl
    · rw [decide_eq_true (show (if true = true then -(N : Int) else (N : Int)) < 0 by simp; omega), decide_eq_true h]; rfl
  | false => rw [decide_eq_false (show ¬ (if false = true then -(N : Int) else (N : Int)) < 0 by simp)]; rfl
theorem numZ_abs (neg : Bool) (N : Nat) : (numZ neg N).natAbs = N := by unfold numZ; split <;> omega

theorem number_int (s : ByteArray) (neg : Bool) (n : Nat) (d : Nat → Nat) (w : World) (hs : NumText s neg n d) (G : Glob w) :
    Calls Tryz.prog 67 #[.string s] w fun e w' => ∃ p a l c, e = .returned (.pointer (some ⟨p, 0, none⟩)) ∧ w.heap.size ≤ p ∧ IntS w' p 105 (numZ neg (dval d n)) a l c ∧ Into w none 0 a c ∧ Keeps (fun _ => False) w w' := by
  refine (number_any s neg n d w hs G).mono ?_
  rintro e w' ⟨p, ra, rl, rc, rfl, h1, h2, h3, h4, h5⟩
  refine ⟨p, ra, rl, rc, rfl, h1, ⟨?_, ?_⟩, h4, h5⟩
  · rw [numZ_neg]; exact h2
  · rw [numZ_abs]; exact h3
theorem numtext_len {w : World} {p : Nat} {t : TypeId} {neg : Bool} {n : Nat} {d : Nat → Nat} {s : ByteArray} {a : Option Addr} {l c : Nat} (hs : NumText s neg n d) (h : IntS w p t (numZ neg (dval d n)) a l c) : l ≤ 11 := by
  rw [← h.rd.length, numZ_abs]
  refine words_len11 (k := n) (dval_lt (fun j hj => (hs.dig.2 j hj).1)) ?_
  have := hs.dig.1
  have := hs.size
  omega

set_option maxHeartbeats 4000000 in
theorem bigDoMul66 (A B C D O : Nat) (sa sb so : ByteArray) (na nb : Bool) (da db : Nat → Nat) (la lb : Nat) (w : World)
    (hA : w.cell? ⟨A, 0, none⟩ = some (.string sa)) (hB : w.cell? ⟨B, 0, none⟩ = some (.string sb)) (hC : w.cell? ⟨C, 0, none⟩ = some (.int .i64 0)) (hD : w.cell? ⟨D, 0, none⟩ = some (.int .i64 2))
    (hO : RowAt w O 9 [.string so]) (ta : NumText sa na la da) (tb : NumText sb nb lb db) (G : Glob w) (hN : dval da la * dval db lb ≠ 0) (hN8 : dval da la * dval db lb < W64 ^ 8) :
    Calls Tryz.prog 66 #[.pointer (some ⟨A, 0, none⟩), .pointer (some ⟨B, 0, none⟩), .pointer (some ⟨C, 0, none⟩), .pointer (some ⟨D, 0, none⟩), .pointer (some ⟨O, 0, none⟩)] w fun e w' =>
      e = .returned (.tuple #[]) ∧ RowAt w' O 9 [.string (strB (txt (decide (numZ na (dval da la) * numZ nb (dval db lb) < 0)) (dval da la * dval db lb)))] ∧ Keeps (· = O) w w' := by
  have HO := hid hO; have TA := hid ta; have TB := hid tb; have HG := hid G; have HN := hid hN; have HN8 := hid hN8
  have hAl : A < w.heap.size := World.block_lt_of_cell? w ⟨A, 0, none⟩ hA
  have hBl : B < w.heap.size := World.block_lt_of_cell? w ⟨B, 0, none⟩ hB
  have hCl : C < w.heap.size := World.block_lt_of_cell? w ⟨C, 0, none⟩ hC
  have hDl : D < w.heap.size := World.block_lt_of_cell? w ⟨D, 0, none⟩ hD
  have HGd := hid (show Glob w.drew from G.drewN 1)
  have HC := hid hC; have HD := hid hD
  clear hO ta tb G hN hN8 hC hD
  go_enter Tryz.func66, Tryz.ntmps66
  go_upto_region 0 with fail
  go_region_held3 (fun w' => w'.cell? ⟨A, 0, none⟩ = some (.string sa) ∧ w'.cell? ⟨B, 0, none⟩ = some (.string sb)) (go_keep) (first
    | (go_at_call 67; refine (number_int sa na la da _ TA.out HGd.out).mono ?_; rintro e w1 ⟨p, a, l, c, rfl, h1, h2, h3, h4⟩; have i1 := (cell_of_block (p := ⟨A, 0, none⟩) (h4.block A hAl (fun h => h))).trans hA; have i2 := (cell_of_block (p := ⟨B, 0, none⟩) (h4.block B hBl (fun h => h))).trans hB; have HG1 := hid (HGd.out.keep h4 (fun _ _ h => h)); have hsz := h4.size; have J1 := hid h1; have J2 := hid h2; have J3 := hid h3; have J4 := hid h4; clear h1 h2 h3 h4)
    | (go_at_call 67; refine (number_int sb nb lb db _ TB.out HG1.out).mono ?_; rintro e w2 ⟨q, a', l', c', rfl, h1, h2, h3, h4⟩; have i3 := (cell_of_block (p := ⟨A, 0, none⟩) (h4.block A (Nat.lt_of_lt_of_le hAl hsz) (fun h => h))).trans i1; have i4 := (cell_of_block (p := ⟨B, 0, none⟩) (h4.block B (Nat.lt_of_lt_of_le hBl hsz) (fun h => h))).trans i2; have HG2 := hid (HG1.out.keep h4 (fun _ _ h => h)); have hsz2 := h4.size; have K1 := hid h1; have K2 := hid h2; have K3 := hid h3; have K4 := hid h4; clear h1 h2 h3 h4))
  have hk2 : Keeps (fun _ => False) w w2 := ((Keeps.refl (fun _ => False) w).drew.trans J4.out).trans K4.out
  obtain ⟨pz, hpz⟩ : ∃ pz, pz = w2.heap.size := ⟨_, rfl⟩
  obtain ⟨w3, hw3⟩ : ∃ w3, w3 = w2.alloc (.cells #[.bool false, .slice none 0 0] 105) := ⟨_, rfl⟩
  have hk23 : Keeps (fun _ => False) w2 w3 := by rw [hw3]; exact (Keeps.refl _ w2).alloc _
  have hk3 := hk2.trans hk23
  have hzr : IntRow w3 pz 105 false none 0 0 := by rw [hw3, hpz]; exact RowAt.new w2 105 [.bool false, .slice none 0 0]
  have hz3 : IntS w3 pz 105 0 none 0 0 := ⟨hzr, by rw [show (0 : Int).natAbs = 0 from rfl, words_zero]; exact Rd.nil _⟩
  have hx3 := (J2.out.keep K4.out (fun h => h) (fun _ _ h => h)).keep hk23 (fun h => h) (fun _ _ h => h)
  have hy3 := K2.out.keep hk23 (fun h => h) (fun _ _ h => h)
  have c3 : w3.cell? ⟨C, 0, none⟩ = some (.int .i64 0) := (cell_of_block (p := ⟨C, 0, none⟩) (hk3.block C hCl (fun h => h))).trans HC.out
  have d3 : w3.cell? ⟨D, 0, none⟩ = some (.int .i64 2) := (cell_of_block (p := ⟨D, 0, none⟩) (hk3.block D hDl (fun h => h))).trans HD.out
  have hO3 : RowAt w3 O 9 [.string so] := hk3.row HO.out (fun h => h)
  have hpl : p < w1.heap.size := J2.out.row.lt
  have hql : q < w2.heap.size := K2.out.row.lt
  have hsz1 := K4.out.size
  have hqp : w1.heap.size ≤ q := K1.out
  have e1 : pz ≠ p := by omega
  have e2 : pz ≠ q := by omega
  have e3 : p ≠ q := by omega
  have hnn : (numZ na (dval da la)).natAbs * (numZ nb (dval db lb)).natAbs ≠ 0 := by rw [numZ_abs, numZ_abs]; exact HN.out
  have hlx := numtext_len TA.out hx3
  have hly := numtext_len TB.out hy3
  have HM := hid (mul70_new pz p q 105 105 105 _ _ _ none a a' 0 0 l c l' c' w3 hz3 hx3 hy3 (HG2.out.keep hk23 (fun _ _ h => h)) e1 e2 e3 (fun k hk => by obtain ⟨o, ho⟩ := hk; cases ho) (fun k hk => by obtain ⟨o, ho⟩ := hk; cases ho) (by omega) (by omega) hnn)
  have HK3 := hid hk3; have HO3 := hid hO3; have HG3 := hid (HG2.out.keep hk23 (fun _ _ h => h))
  have hOl := HO.out.lt
  have hpzw : w.heap.size ≤ pz := by rw [hpz]; exact hk2.size
  clear i1 i2 i3 i4 hk2 hk23 hk3 hzr hz3 hx3 hy3 hO3 e1 e2 e3 hnn
  go_upto_region 2 with fail
  rw [← hpz, ← hw3]
  clear hpz hw3
  go_wp2_with fail
  refine HM.out.mono ?_
  rintro e w4 ⟨rfl, a4, l4, c4, h1, h2, h3⟩
  have habs : (numZ na (dval da la) * numZ nb (dval db lb)).natAbs = dval da la * dval db lb := by rw [Int.natAbs_mul, numZ_abs, numZ_abs]
  have hkz : Keeps (fun _ => False) w w4 := HK3.out.trans' h3 (fun i hi hh => by
    rcases hh with rfl | ⟨o, ho⟩
    · omega
    · cases ho)
  have HS := hid (string80_leaf pz 105 _ w4 h1.at (by rw [habs]; exact HN8.out) (HG.out.keep hkz (fun _ _ h => h)))
  rw [habs] at HS
  have HO4 := hid (hkz.row HO.out (fun h => h)); have HKZ := hid hkz
  clear h1 h2 h3 hkz habs HM
  go_wp2_with fail
  refine HS.out.mono ?_
  rintro e w5 ⟨rfl, hk5⟩
  have HO5 := hid (hk5.row HO4.out (fun h => h))
  have o1 : w5.cell? ⟨O, 0, none⟩ = some (.string so) := RowAt.cell HO5.out 0
  have o2 := RowAt.frozen HO5.out 0
  have HK5 := hid hk5
  clear hk5 HS
  go_wp2_with fail
  go_end0
  exact ⟨rfl, RowAt.set HO5.out 0 _, ((HKZ.out.trans HK5.out).any).own 0 _⟩
end Go.Proofs
namespace Go.Proofs
open Go.RowKit
set_option maxHeartbeats 400000
set_option linter.unusedVariables false
set_option linter.unusedSimpArgs false
set_option maxRecDepth 100000

theorem catch144 (p : Addr) (b : Bool) (w : World) (hc : w.cell? p = some (.bool b)) (hz : w.frozen? p = false) :
    CallsD Tryz.prog 144 #[.pointer (some p)] .returning w fun e u' w' => e = .returned (.tuple #[]) ∧ u' = .returning ∧ w' = w.setCell p (.bool true) := by
  have hnn : ∀ w, (binOp .eql 20 .nilIface .nilIface).run Tryz.prog w = .ok (.bool true) w := fun w => by kernel_rfl
  refine callsD_of_wpS Tryz.func144 rfl fun c₀ cs hu => ?_
  apply wpS_region
  simp [wpOpsS, go_sem, recoverD, hu, Tryz.ntmps144, Exit.thenS, hc, hz, hnn, bodyPostS, results, Tryz.results144]
  cases c₀
  simp_all

theorem safe_any (F : FuncId) (cap : Array Value) (w : World) (R : World → Prop)
    (hcf : ∀ w, (callFunc F cap).run Tryz.prog w = .ok (.enter F cap) w) (h : Calls Tryz.prog F cap (w.alloc (.cells #[.bool false] 4)) fun e w' => e = .returned (.tuple #[]) ∧ R w' ∧ RowAt w' w.heap.size 4 [.bool false]) :
    Calls Tryz.prog 65 #[.func (.func F) #[] cap] w fun e w' => e = .returned (.bool true) ∧ ∃ w1, R w1 ∧ w' = (w1.setCell ⟨w.heap.size, 0, none⟩ (.bool true)).setCell ⟨w.heap.size, 0, none⟩ (.bool true) := by
  have hmf : ∀ (fn : Fn) (first cap : Array Value) (w : World), (Instr.makeFunc fn first cap).run Tryz.prog w = .ok (.func fn first cap) w := fun _ _ _ _ => rfl
  have H := hid h
  clear h
  go_enter_defers Tryz.func65, Tryz.ntmps65
  go_wp2_with fail
  refine H.out.mono ?_
  rintro e w1 ⟨rfl, hR, hr⟩
  have c1 : w1.cell? ⟨w.heap.size, 0, none⟩ = some (.bool false) := hr.cell 0
  have f1 := hr.frozen 0
  have HR := hid hR
  have hr2 := hr.set 0 (.bool true)
  have c2 : (w1.setCell ⟨w.heap.size, 0, none⟩ (.bool true)).cell? ⟨w.heap.size, 0, none⟩ = some (.bool true) := hr2.cell 0
  have f2 := hr2.frozen 0
  have c3 : ((w1.setCell ⟨w.heap.size, 0, none⟩ (.bool true)).setCell ⟨w.heap.size, 0, none⟩ (.bool true)).cell? ⟨w.heap.size, 0, none⟩ = some (.bool true) := (hr2.set 0 (.bool true)).cell 0
  clear hR hr hr2
  go_wp2_with fail
  refine leaves_cons (f := 144) (args := #[.pointer (some ⟨w.heap.size, 0, none⟩)]) (by simp) (by simp [go_sem]) ?_
  refine (catch144 ⟨w.heap.size, 0, none⟩ true _ c2 f2).mono ?_
  rintro e u' w'' ⟨rfl, rfl, rfl⟩
  refine ⟨.bool true, ?_, rfl, w1, HR.out, rfl⟩
  simp [results, Tryz.results65, go_sem, c3]
end Go.Proofs
namespace Go.Proofs
open Go.RowKit
set_option maxHeartbeats 1000000
set_option linter.unusedVariables false
set_option linter.unusedSimpArgs false
set_option maxRecDepth 100000

theorem call66 (cap : Array Value) (w : World) : (callFunc 66 cap).run Tryz.prog w = .ok (.enter 66 cap) w := by simp [go_sem, callFunc, Tryz.func66]; rfl

theorem bigDo21_mul (sa sb : ByteArray) (na nb : Bool) (da db : Nat → Nat) (la lb : Nat) (w : World)
    (ta : NumText sa na la da) (tb : NumText sb nb lb db) (G : Glob w) (hN : dval da la * dval db lb ≠ 0) (hN8 : dval da la * dval db lb < W64 ^ 8) :
    Calls Tryz.prog 21 #[.int .i64 2, .string sa, .string sb, .int .i64 0] w fun e w' =>
      e = .returned (.tuple #[.string (strB (txt (decide (numZ na (dval da la) * numZ nb (dval db lb) < 0)) (dval da la * dval db lb))), .bool true]) ∧ Keeps (fun _ => False) w w' := by
  have hmf : ∀ (fn : Fn) (first cap : Array Value) (w : World), (Instr.makeFunc fn first cap).run Tryz.prog w = .ok (.func fn first cap) w := fun _ _ _ _ => rfl
  obtain ⟨T, hT⟩ : ∃ T, T = strB (txt (decide (numZ na (dval da la) * numZ nb (dval db lb) < 0)) (dval da la * dval db lb)) := ⟨_, rfl⟩
  rw [← hT]
  have HT := hid hT
  clear hT
  go_enter Tryz.func21, Tryz.ntmps21
  go_wp2_with fail
  obtain ⟨W1, e1⟩ : ∃ W, W = w.alloc (.cells #[.int .i64 2] 3) := ⟨_, rfl⟩
  obtain ⟨W2, e2⟩ : ∃ W, W = W1.alloc (.cells #[.string sa] 9) := ⟨_, rfl⟩
  obtain ⟨W3, e3⟩ : ∃ W, W = W2.alloc (.cells #[.string sb] 9) := ⟨_, rfl⟩
  obtain ⟨W4, e4⟩ : ∃ W, W = W3.alloc (.cells #[.int .i64 0] 3) := ⟨_, rfl⟩
  obtain ⟨W5, e5⟩ : ∃ W, W = W4.alloc (.cells #[.string { data := #[] }] 9) := ⟨_, rfl⟩
  rw [← e1, ← e2, ← e3, ← e4, ← e5]
  obtain ⟨n, hn⟩ : ∃ n, n = w.heap.size := ⟨_, rfl⟩
  have s1 : W1.heap.size = n + 1 := by rw [e1, hn]; simp
  have s2 : W2.heap.size = n + 1 + 1 := by rw [e2, ← s1]; simp
  have s3 : W3.heap.size = n + 1 + 1 + 1 := by rw [e3, ← s2]; simp
  have s4 : W4.heap.size = n + 1 + 1 + 1 + 1 := by rw [e4, ← s3]; simp
  have s5 : W5.heap.size = n + 1 + 1 + 1 + 1 + 1 := by rw [e5, ← s4]; simp
  have r1 : RowAt W5 n 3 [.int .i64 2] := by
    have h : RowAt W1 n 3 [.int .i64 2] := by rw [e1, hn]; exact RowAt.new w 3 [.int .i64 2]
    rw [e5, e4, e3, e2]; exact (((h.alloc _).alloc _).alloc _).alloc _
  have r2 : RowAt W5 (n + 1) 9 [.string sa] := by
    have h : RowAt W2 (n + 1) 9 [.string sa] := by rw [e2, ← s1]; exact RowAt.new W1 9 [.string sa]
    rw [e5, e4, e3]; exact ((h.alloc _).alloc _).alloc _
  have r3 : RowAt W5 (n + 1 + 1) 9 [.string sb] := by
    have h : RowAt W3 (n + 1 + 1) 9 [.string sb] := by rw [e3, ← s2]; exact RowAt.new W2 9 [.string sb]
    rw [e5, e4]; exact (h.alloc _).alloc _
  have r4 : RowAt W5 (n + 1 + 1 + 1) 3 [.int .i64 0] := by
    have h : RowAt W4 (n + 1 + 1 + 1) 3 [.int .i64 0] := by rw [e4, ← s3]; exact RowAt.new W3 3 [.int .i64 0]
    rw [e5]; exact h.alloc _
  have r5 : RowAt W5 (n + 1 + 1 + 1 + 1) 9 [.string { data := #[] }] := by rw [e5, ← s4]; exact RowAt.new W4 9 [.string { data := #[] }]
  have hk : Keeps (fun _ => False) w W5 := by
    rw [e5, e4, e3, e2, e1]
    exact (((((Keeps.refl _ w).alloc _).alloc _).alloc _).alloc _).alloc _
  rw [← hn]
  clear e1 e2 e3 e4 e5 s1 s2 s3 s4
  -- the safe call: one block more
  obtain ⟨W6, e6⟩ : ∃ W, W = W5.alloc (.cells #[.bool false] 4) := ⟨_, rfl⟩
  have hk6 : Keeps (fun _ => False) W5 W6 := by rw [e6]; exact (Keeps.refl _ W5).alloc _
  have r6 : RowAt W6 W5.heap.size 4 [.bool false] := by rw [e6]; exact RowAt.new W5 4 [.bool false]
  have q1 := hk6.row r1 (fun h => h)
  have q2 := hk6.row r2 (fun h => h)
  have q3 := hk6.row r3 (fun h => h)
  have q4 := hk6.row r4 (fun h => h)
  have q5 := hk6.row r5 (fun h => h)
  have hc := bigDoMul66 (n + 1) (n + 1 + 1) (n + 1 + 1 + 1) n (n + 1 + 1 + 1 + 1) sa sb _ na nb da db la lb W6 (q2.cell 0) (q3.cell 0) (q4.cell 0) (q1.cell 0) q5 ta tb (G.keep (hk.trans hk6) (fun _ _ h => h)) hN hN8
  rw [← HT.out] at hc
  have hsafe := safe_any 66 _ W5 (fun w' => RowAt w' (n + 1 + 1 + 1 + 1) 9 [.string T] ∧ Keeps (· = n + 1 + 1 + 1 + 1) W6 w') (call66 _) (by
    rw [← e6]
    refine hc.mono ?_
    rintro e w' ⟨rfl, h1, h2⟩
    exact ⟨rfl, ⟨h1, h2⟩, h2.row r6 (by omega)⟩)
  have HS := hid hsafe; have HK := hid hk; have HK6 := hid hk6
  clear hc hsafe hk hk6 q1 q2 q3 q4 q5 r1 r2 r3 r4 r5 r6 e6
  refine HS.out.mono ?_
  rintro e w7 ⟨rfl, w8, ⟨h1, h2⟩, rfl⟩
  have r7 : RowAt ((w8.setCell ⟨W5.heap.size, 0, none⟩ (.bool true)).setCell ⟨W5.heap.size, 0, none⟩ (.bool true)) (n + 1 + 1 + 1 + 1) 9 [.string T] :=
    (h1.other (show W5.heap.size ≠ n + 1 + 1 + 1 + 1 by omega) _).other (show W5.heap.size ≠ n + 1 + 1 + 1 + 1 by omega) _
  have hk7 : Keeps (fun _ => False) w ((w8.setCell ⟨W5.heap.size, 0, none⟩ (.bool true)).setCell ⟨W5.heap.size, 0, none⟩ (.bool true)) := by
    have h3 : Keeps (fun _ => False) w w8 := (HK.out.trans HK6.out).trans' h2 (fun i hi hh => by omega)
    exact (h3.setCell _ (.inr (by show w.heap.size ≤ W5.heap.size; omega)) _).setCell _ (.inr (by show w.heap.size ≤ W5.heap.size; omega)) _
  generalize ((w8.setCell ⟨W5.heap.size, 0, none⟩ (.bool true)).setCell ⟨W5.heap.size, 0, none⟩ (.bool true)) = w9 at *
  have c1 : w9.cell? ⟨n + 1 + 1 + 1 + 1, 0, none⟩ = some (.string T) := r7.cell 0
  have f1 := r7.frozen 0
  have r8 := r7.set 0 (.string T)
  have c2 : (w9.setCell ⟨n + 1 + 1 + 1 + 1, 0, none⟩ (.string T)).cell? ⟨n + 1 + 1 + 1 + 1, 0, none⟩ = some (.string T) := r8.cell 0
  have HK7 := hid hk7
  have HNn := hid hn; have hs5' := hid s5
  clear h1 h2 r7 r8 hk7 HS hn s5
  go_wp2_with fail
  refine bodyPost_ret (v := .tuple #[.string T, .bool true]) ?_ rfl ?_
  · rw [results_cell_tmp Tryz.results21]
    simp [go_sem, c2]
  · exact ⟨rfl, HK7.out.setCell _ (.inr (by show w.heap.size ≤ n + 1 + 1 + 1 + 1; have := HNn.out; omega)) _⟩
end Go.Proofs
namespace Go.Proofs
open Go.RowKit
set_option maxHeartbeats 1000000
set_option linter.unusedVariables false
set_option linter.unusedSimpArgs false
set_option maxRecDepth 100000

theorem RdB.keep {w w' : World} {S : Nat → Prop} {n : Nat} {v : Value} {B : List Nat} (h : RdB w n v B) (hk : Keeps S w w') (hS : ∀ k, n ≤ k → ¬ S k) : RdB w' n v B := by
  obtain ⟨b, o, c, e1, e2, e3, e4⟩ := h
  refine ⟨b, o, c, e1, e2, Nat.lt_of_lt_of_le e3 hk.size, fun i hi => ?_⟩
  rw [cell_of_block (p := ⟨b, o + i, none⟩) (hk.block b e3 (hS b e2))]
  exact e4 i hi

theorem IntAt.keep {w w' : World} {p : Nat} {t : TypeId} {z : Int} (h : IntAt w p t z) (hk : Keeps (fun _ => False) w w') : IntAt w' p t z := by
  obtain ⟨a, l, c, h1, h2⟩ := h
  exact ⟨a, l, c, hk.row h1 (fun h => h), h2.keep hk (fun _ _ h => h)⟩

def OutB (O2 O3 O4 O5 O6 : Nat) (k : Nat) : Prop := k = O2 ∨ k = O3 ∨ k = O4 ∨ k = O5 ∨ k = O6

theorem bigText107 (A B O2 O3 O4 O5 O6 : Nat) (sa s2 s3 s4 s5 : ByteArray) (b6 : Bool) (na : Bool) (da : Nat → Nat) (la : Nat) (w : World)
    (hA : w.cell? ⟨A, 0, none⟩ = some (.string sa)) (hB : w.cell? ⟨B, 0, none⟩ = some (.int .i64 10))
    (r2 : RowAt w O2 9 [.string s2]) (r3 : RowAt w O3 9 [.string s3]) (r4 : RowAt w O4 9 [.string s4]) (r5 : RowAt w O5 9 [.string s5]) (r6 : RowAt w O6 4 [.bool b6])
    (d23 : O2 ≠ O3) (d24 : O2 ≠ O4) (d25 : O2 ≠ O5) (d26 : O2 ≠ O6) (d34 : O3 ≠ O4) (d35 : O3 ≠ O5) (d36 : O3 ≠ O6) (d45 : O4 ≠ O5) (d46 : O4 ≠ O6) (d56 : O5 ≠ O6)
    (hBo : ¬ OutB O2 O3 O4 O5 O6 B)
    (ta : NumText sa na la da) (G : Glob w) (hN8 : dval da la < W64 ^ 8) (T : ByteArray) (hT : T = strB (txt (decide (numZ na (dval da la) < 0)) (dval da la))) :
    Calls Tryz.prog 107 #[.pointer (some ⟨A, 0, none⟩), .pointer (some ⟨B, 0, none⟩), .pointer (some ⟨O2, 0, none⟩), .pointer (some ⟨O3, 0, none⟩), .pointer (some ⟨O4, 0, none⟩), .pointer (some ⟨O5, 0, none⟩), .pointer (some ⟨O6, 0, none⟩)] w fun e w' =>
      e = .returned (.tuple #[]) ∧ ∃ wb, Keeps (fun _ => False) w wb ∧ w' = ((((wb.setCell ⟨O2, 0, none⟩ (.string T)).setCell ⟨O3, 0, none⟩ (.string T)).setCell ⟨O4, 0, none⟩ (.string T)).setCell ⟨O5, 0, none⟩ (.string T)).setCell ⟨O6, 0, none⟩ (.bool true) := by
  have d32 := Ne.symm d23; have d42 := Ne.symm d24; have d52 := Ne.symm d25; have d62 := Ne.symm d26; have d43 := Ne.symm d34; have d53 := Ne.symm d35; have d63 := Ne.symm d36; have d54 := Ne.symm d45; have d64 := Ne.symm d46; have d65 := Ne.symm d56
  have TA := hid ta; have HG := hid G; have HN8 := hid hN8; have HT := hid hT
  have hBl : B < w.heap.size := World.block_lt_of_cell? w ⟨B, 0, none⟩ hB
  have HB := hid hB; have R2 := hid r2; have R3 := hid r3; have R4 := hid r4; have R5 := hid r5; have R6 := hid r6; have HBo := hid hBo
  clear ta G hN8 hT r2 r3 r4 r5 r6 hBo hB
  go_enter Tryz.func107, Tryz.ntmps107
  go_wp2_with fail
  refine (number_int sa na la da _ TA.out HG.out).mono ?_
  rintro e w1 ⟨p, a, l, c, rfl, h1, h2, h3, h4⟩
  have J2 := hid h2.at; have J4 := hid h4
  have HG1 := hid (HG.out.keep h4 (fun _ _ h => h))
  clear h1 h2 h3 h4
  have hab : Hid ((numZ na (dval da la)).natAbs < W64 ^ 8) := hid (by rw [numZ_abs]; exact HN8.out)
  go_wp2_with fail
  refine (marshalText108_leaf p 105 _ w1 J2.out hab.out HG1.out).mono ?_
  rintro e w2 ⟨vm, rfl, h1, h2⟩
  rw [numZ_abs] at h1
  have KM := hid h1; have J5 := hid h2
  have J6 := hid (J2.out.keep h2)
  have HG2 := hid (HG1.out.keep h2 (fun _ _ h => h))
  clear h1 h2
  go_wp2_with fail
  refine (json109_leaf p 105 _ w2 J6.out hab.out HG2.out).mono ?_
  rintro e w3 ⟨vj, rfl, h1, h2⟩
  rw [numZ_abs] at h1
  have KJ := hid h1; have J7 := hid h2
  have J8 := hid (J6.out.keep h2)
  have HG3 := hid (HG2.out.keep h2 (fun _ _ h => h))
  clear h1 h2
  have hk3 := (J4.out.trans J5.out).trans J7.out
  have HK3 := hid hk3
  have hS : ∀ w', Keeps (OutB O2 O3 O4 O5 O6) w3 w' → w'.cell? ⟨B, 0, none⟩ = some (.int .i64 10) ∧ (convert 22 9 vm).run Tryz.prog w' = .ok (.string T) w' ∧ (convert 22 9 vj).run Tryz.prog w' = .ok (.string T) w' := by
    intro w' hk
    have hrd : ∀ v, RdB w3 w1.heap.size v (txt (decide (numZ na (dval da la) < 0)) (dval da la)) → (convert 22 9 v).run Tryz.prog w' = .ok (.string T) w' := by
      intro v hv
      rw [HT.out]
      exact (hv.keep hk (fun k hk' ho => by
        have h1 := J4.out.size
        have : k < w.heap.size := by
          rcases ho with rfl | rfl | rfl | rfl | rfl
          · exact R2.out.lt
          · exact R3.out.lt
          · exact R4.out.lt
          · exact R5.out.lt
          · exact R6.out.lt
        omega)).string
    refine ⟨(cell_of_block (p := ⟨B, 0, none⟩) (hk.block B (Nat.lt_of_lt_of_le hBl hk3.size) HBo.out)).trans ((cell_of_block (p := ⟨B, 0, none⟩) (hk3.block B hBl (fun h => h))).trans HB.out), hrd vm ?_, hrd vj ?_⟩
    · refine (KM.out.keep J7.out (fun _ _ h => h))
    · obtain ⟨b, o, cc, e1, e2, e3, e4⟩ := KJ.out
      exact ⟨b, o, cc, e1, Nat.le_trans J5.out.size e2, e3, e4⟩
  have HS := hid hS
  clear hS hk3
  have st2 := hid (show ∀ W v, Keeps (OutB O2 O3 O4 O5 O6) w3 W → Keeps (OutB O2 O3 O4 O5 O6) w3 (W.setCell ⟨O2, 0, none⟩ v) from fun W v h => h.setCell _ (.inl (.inl rfl)) v)
  have st3 := hid (show ∀ W v, Keeps (OutB O2 O3 O4 O5 O6) w3 W → Keeps (OutB O2 O3 O4 O5 O6) w3 (W.setCell ⟨O3, 0, none⟩ v) from fun W v h => h.setCell _ (.inl (.inr (.inl rfl))) v)
  have st4 := hid (show ∀ W v, Keeps (OutB O2 O3 O4 O5 O6) w3 W → Keeps (OutB O2 O3 O4 O5 O6) w3 (W.setCell ⟨O4, 0, none⟩ v) from fun W v h => h.setCell _ (.inl (.inr (.inr (.inl rfl)))) v)
  have st5 := hid (show ∀ W v, Keeps (OutB O2 O3 O4 O5 O6) w3 W → Keeps (OutB O2 O3 O4 O5 O6) w3 (W.setCell ⟨O5, 0, none⟩ v) from fun W v h => h.setCell _ (.inl (.inr (.inr (.inr (.inl rfl))))) v)
  have st6 := hid (show ∀ W v, Keeps (OutB O2 O3 O4 O5 O6) w3 W → Keeps (OutB O2 O3 O4 O5 O6) w3 (W.setCell ⟨O6, 0, none⟩ v) from fun W v h => h.setCell _ (.inl (.inr (.inr (.inr (.inr rfl))))) v)
  have HT0 := hid (show Keeps (OutB O2 O3 O4 O5 O6) w3 w3.drew from (Keeps.refl _ w3).drew)
  go_upto_region 3 with fail
  go_region_held3 (fun w' => w'.cell? ⟨B, 0, none⟩ = some (.int .i64 10) ∧ (convert 22 9 vm).run Tryz.prog w' = .ok (.string T) w' ∧ (convert 22 9 vj).run Tryz.prog w' = .ok (.string T) w')
    (first | with_reducible exact HS.out _ HT0.out | with_reducible exact HS.out _ HT1.out | with_reducible exact HS.out _ HT2.out | with_reducible exact HS.out _ (st2.out _ _ HT2.out) | with_reducible exact HS.out _ (st3.out _ _ (st2.out _ _ HT2.out)) | with_reducible exact HS.out _ (st4.out _ _ (st3.out _ _ (st2.out _ _ HT2.out))) | with_reducible exact HS.out _ (st5.out _ _ (st4.out _ _ (st3.out _ _ (st2.out _ _ HT2.out)))) | with_reducible exact HS.out _ (st6.out _ _ (st5.out _ _ (st4.out _ _ (st3.out _ _ (st2.out _ _ HT2.out))))))
    (first
     | (go_at_call 110; refine (text110_leaf p 105 _ w3.drew (J8.out.drewN 1) hab.out (HG3.out.drewN 1)).mono ?_; rintro e w4 ⟨rfl, h1⟩; have HT1 := hid (HT0.out.trans h1.any); have J9 := hid (show IntAt w4 p 105 _ from (J8.out.drewN 1).keep h1); have HG4 := hid (show Glob w4 from (HG3.out.drewN 1).keep h1 (fun _ _ h => h)); have J10 := hid ((Keeps.refl (fun _ => False) w3).drew.trans h1); obtain ⟨_, kd1, kd2⟩ := HS.out _ HT1.out; clear h1)
     | (go_at_call 80; refine (string80_leaf p 105 _ w4 J9.out hab.out HG4.out).mono ?_; rintro e w5 ⟨rfl, h1⟩; have HT2 := hid (HT1.out.trans h1.any); have J11 := hid (J10.out.trans h1); obtain ⟨_, kc1, kc2⟩ := HS.out _ HT2.out; have hkw5 := HK3.out.trans J11.out; have v2 := RowAt.cell (hkw5.row R2.out (fun h => h)) 0; have v3 := RowAt.cell (hkw5.row R3.out (fun h => h)) 0; have v4 := RowAt.cell (hkw5.row R4.out (fun h => h)) 0; have v5 := RowAt.cell (hkw5.row R5.out (fun h => h)) 0; have v6 := RowAt.cell (hkw5.row R6.out (fun h => h)) 0; have f2 := RowAt.frozen (hkw5.row R2.out (fun h => h)) 0; have f3 := RowAt.frozen (hkw5.row R3.out (fun h => h)) 0; have f4 := RowAt.frozen (hkw5.row R4.out (fun h => h)) 0; have f5 := RowAt.frozen (hkw5.row R5.out (fun h => h)) 0; have f6 := RowAt.frozen (hkw5.row R6.out (fun h => h)) 0; simp only [List.getElem?_cons_zero] at v2 v3 v4 v5 v6; have HKW5 := hid hkw5; clear h1 hkw5))
  go_end0
  refine ⟨rfl, w5, HKW5.out, ?_⟩
  rw [numZ_abs, ← HT.out]

theorem call107 (cap : Array Value) (w : World) : (callFunc 107 cap).run Tryz.prog w = .ok (.enter 107 cap) w := by simp [go_sem, callFunc, Tryz.func107]; rfl
end Go.Proofs
namespace Go.Proofs
open Go.RowKit
set_option maxHeartbeats 1000000
set_option linter.unusedVariables false
set_option linter.unusedSimpArgs false
set_option maxRecDepth 100000

/-- The five results of BigText, written. -/
def Outs (n : Nat) (T : ByteArray) (w : World) : Prop := RowAt w (n + 1 + 1) 9 [.string T] ∧ RowAt w (n + 1 + 1 + 1) 9 [.string T] ∧ RowAt w (n + 1 + 1 + 1 + 1) 9 [.string T] ∧ RowAt w (n + 1 + 1 + 1 + 1 + 1) 9 [.string T] ∧ RowAt w (n + 1 + 1 + 1 + 1 + 1 + 1) 4 [.bool true]
theorem Outs.drew {n : Nat} {T : ByteArray} {w : World} (h : Outs n T w) : Outs n T w.drew := h
theorem Outs.s2 {n : Nat} {T : ByteArray} {w : World} (h : Outs n T w) : Outs n T (w.setCell ⟨n + 1 + 1, 0, none⟩ (.string T)) := ⟨RowAt.set h.1 0 (.string T), RowAt.other h.2.1 (show n + 1 + 1 ≠ n + 1 + 1 + 1 by omega) _, RowAt.other h.2.2.1 (show n + 1 + 1 ≠ n + 1 + 1 + 1 + 1 by omega) _, RowAt.other h.2.2.2.1 (show n + 1 + 1 ≠ n + 1 + 1 + 1 + 1 + 1 by omega) _, RowAt.other h.2.2.2.2 (show n + 1 + 1 ≠ n + 1 + 1 + 1 + 1 + 1 + 1 by omega) _⟩
theorem Outs.s3 {n : Nat} {T : ByteArray} {w : World} (h : Outs n T w) : Outs n T (w.setCell ⟨n + 1 + 1 + 1, 0, none⟩ (.string T)) := ⟨RowAt.other h.1 (show n + 1 + 1 + 1 ≠ n + 1 + 1 by omega) _, RowAt.set h.2.1 0 (.string T), RowAt.other h.2.2.1 (show n + 1 + 1 + 1 ≠ n + 1 + 1 + 1 + 1 by omega) _, RowAt.other h.2.2.2.1 (show n + 1 + 1 + 1 ≠ n + 1 + 1 + 1 + 1 + 1 by omega) _, RowAt.other h.2.2.2.2 (show n + 1 + 1 + 1 ≠ n + 1 + 1 + 1 + 1 + 1 + 1 by omega) _⟩
theorem Outs.s4 {n : Nat} {T : ByteArray} {w : World} (h : Outs n T w) : Outs n T (w.setCell ⟨n + 1 + 1 + 1 + 1, 0, none⟩ (.string T)) := ⟨RowAt.other h.1 (show n + 1 + 1 + 1 + 1 ≠ n + 1 + 1 by omega) _, RowAt.other h.2.1 (show n + 1 + 1 + 1 + 1 ≠ n + 1 + 1 + 1 by omega) _, RowAt.set h.2.2.1 0 (.string T), RowAt.other h.2.2.2.1 (show n + 1 + 1 + 1 + 1 ≠ n + 1 + 1 + 1 + 1 + 1 by omega) _, RowAt.other h.2.2.2.2 (show n + 1 + 1 + 1 + 1 ≠ n + 1 + 1 + 1 + 1 + 1 + 1 by omega) _⟩
theorem Outs.s5 {n : Nat} {T : ByteArray} {w : World} (h : Outs n T w) : Outs n T (w.setCell ⟨n + 1 + 1 + 1 + 1 + 1, 0, none⟩ (.string T)) := ⟨RowAt.other h.1 (show n + 1 + 1 + 1 + 1 + 1 ≠ n + 1 + 1 by omega) _, RowAt.other h.2.1 (show n + 1 + 1 + 1 + 1 + 1 ≠ n + 1 + 1 + 1 by omega) _, RowAt.other h.2.2.1 (show n + 1 + 1 + 1 + 1 + 1 ≠ n + 1 + 1 + 1 + 1 by omega) _, RowAt.set h.2.2.2.1 0 (.string T), RowAt.other h.2.2.2.2 (show n + 1 + 1 + 1 + 1 + 1 ≠ n + 1 + 1 + 1 + 1 + 1 + 1 by omega) _⟩
theorem Outs.s6 {n : Nat} {T : ByteArray} {w : World} (h : Outs n T w) : Outs n T (w.setCell ⟨n + 1 + 1 + 1 + 1 + 1 + 1, 0, none⟩ (.bool true)) := ⟨RowAt.other h.1 (show n + 1 + 1 + 1 + 1 + 1 + 1 ≠ n + 1 + 1 by omega) _, RowAt.other h.2.1 (show n + 1 + 1 + 1 + 1 + 1 + 1 ≠ n + 1 + 1 + 1 by omega) _, RowAt.other h.2.2.1 (show n + 1 + 1 + 1 + 1 + 1 + 1 ≠ n + 1 + 1 + 1 + 1 by omega) _, RowAt.other h.2.2.2.1 (show n + 1 + 1 + 1 + 1 + 1 + 1 ≠ n + 1 + 1 + 1 + 1 + 1 by omega) _, RowAt.set h.2.2.2.2 0 (.bool true)⟩
theorem Outs.cells {n : Nat} {T : ByteArray} {w : World} (h : Outs n T w) : w.cell? ⟨n + 1 + 1, 0, none⟩ = some (.string T) ∧ w.cell? ⟨n + 1 + 1 + 1, 0, none⟩ = some (.string T) ∧ w.cell? ⟨n + 1 + 1 + 1 + 1, 0, none⟩ = some (.string T) ∧ w.cell? ⟨n + 1 + 1 + 1 + 1 + 1, 0, none⟩ = some (.string T) := ⟨h.1.cell 0, h.2.1.cell 0, h.2.2.1.cell 0, h.2.2.2.1.cell 0⟩

theorem bigText43 (sa : ByteArray) (na : Bool) (da : Nat → Nat) (la : Nat) (w : World) (ta : NumText sa na la da) (G : Glob w) (hN8 : dval da la < W64 ^ 8) (T : ByteArray) (hT : T = strB (txt (decide (numZ na (dval da la) < 0)) (dval da la))) :
    Calls Tryz.prog 43 #[.string sa, .int .i64 10] w fun e w' =>
      e = .returned (.tuple #[.string T, .string T, .string T, .string T, .bool true]) ∧ Keeps (fun _ => False) w w' := by
  have hmf : ∀ (fn : Fn) (first cap : Array Value) (w : World), (Instr.makeFunc fn first cap).run Tryz.prog w = .ok (.func fn first cap) w := fun _ _ _ _ => rfl
  have HT := hid hT
  clear hT
  go_enter Tryz.func43, Tryz.ntmps43
  go_wp2_with fail
  obtain ⟨W1, e1⟩ : ∃ W, W = w.alloc (.cells #[.string sa] 9) := ⟨_, rfl⟩
  obtain ⟨W2, e2⟩ : ∃ W, W = W1.alloc (.cells #[.int .i64 10] 3) := ⟨_, rfl⟩
  obtain ⟨W3, e3⟩ : ∃ W, W = W2.alloc (.cells #[.string { data := #[] }] 9) := ⟨_, rfl⟩
  obtain ⟨W4, e4⟩ : ∃ W, W = W3.alloc (.cells #[.string { data := #[] }] 9) := ⟨_, rfl⟩
  obtain ⟨W5, e5⟩ : ∃ W, W = W4.alloc (.cells #[.string { data := #[] }] 9) := ⟨_, rfl⟩
  obtain ⟨W6, e6⟩ : ∃ W, W = W5.alloc (.cells #[.string { data := #[] }] 9) := ⟨_, rfl⟩
  obtain ⟨W7, e7⟩ : ∃ W, W = W6.alloc (.cells #[.bool false] 4) := ⟨_, rfl⟩
  rw [← e1, ← e2, ← e3, ← e4, ← e5, ← e6, ← e7]
  obtain ⟨n, hn⟩ : ∃ n, n = w.heap.size := ⟨_, rfl⟩
  have s1 : W1.heap.size = n + 1 := by rw [e1, hn]; simp
  have s2 : W2.heap.size = n + 1 + 1 := by rw [e2, ← s1]; simp
  have s3 : W3.heap.size = n + 1 + 1 + 1 := by rw [e3, ← s2]; simp
  have s4 : W4.heap.size = n + 1 + 1 + 1 + 1 := by rw [e4, ← s3]; simp
  have s5 : W5.heap.size = n + 1 + 1 + 1 + 1 + 1 := by rw [e5, ← s4]; simp
  have s6 : W6.heap.size = n + 1 + 1 + 1 + 1 + 1 + 1 := by rw [e6, ← s5]; simp
  have s7 : W7.heap.size = n + 1 + 1 + 1 + 1 + 1 + 1 + 1 := by rw [e7, ← s6]; simp
  have r1 : RowAt W7 (n) 9 [.string sa] := by
    have h : RowAt W1 (n) 9 [.string sa] := by rw [e1, hn]; exact RowAt.new w 9 [.string sa]
    rw [e7, e6, e5, e4, e3, e2]; exact ((((((h).alloc _).alloc _).alloc _).alloc _).alloc _).alloc _
  have r2 : RowAt W7 (n + 1) 3 [.int .i64 10] := by
    have h : RowAt W2 (n + 1) 3 [.int .i64 10] := by rw [e2, ← s1]; exact RowAt.new W1 3 [.int .i64 10]
    rw [e7, e6, e5, e4, e3]; exact (((((h).alloc _).alloc _).alloc _).alloc _).alloc _
  have r3 : RowAt W7 (n + 1 + 1) 9 [.string { data := #[] }] := by
    have h : RowAt W3 (n + 1 + 1) 9 [.string { data := #[] }] := by rw [e3, ← s2]; exact RowAt.new W2 9 [.string { data := #[] }]
    rw [e7, e6, e5, e4]; exact ((((h).alloc _).alloc _).alloc _).alloc _
  have r4 : RowAt W7 (n + 1 + 1 + 1) 9 [.string { data := #[] }] := by
    have h : RowAt W4 (n + 1 + 1 + 1) 9 [.string { data := #[] }] := by rw [e4, ← s3]; exact RowAt.new W3 9 [.string { data := #[] }]
    rw [e7, e6, e5]; exact (((h).alloc _).alloc _).alloc _
  have r5 : RowAt W7 (n + 1 + 1 + 1 + 1) 9 [.string { data := #[] }] := by
    have h : RowAt W5 (n + 1 + 1 + 1 + 1) 9 [.string { data := #[] }] := by rw [e5, ← s4]; exact RowAt.new W4 9 [.string { data := #[] }]
    rw [e7, e6]; exact ((h).alloc _).alloc _
  have r6 : RowAt W7 (n + 1 + 1 + 1 + 1 + 1) 9 [.string { data := #[] }] := by
    have h : RowAt W6 (n + 1 + 1 + 1 + 1 + 1) 9 [.string { data := #[] }] := by rw [e6, ← s5]; exact RowAt.new W5 9 [.string { data := #[] }]
    rw [e7]; exact (h).alloc _
  have r7 : RowAt W7 (n + 1 + 1 + 1 + 1 + 1 + 1) 4 [.bool false] := by
    have h : RowAt W7 (n + 1 + 1 + 1 + 1 + 1 + 1) 4 [.bool false] := by rw [e7, ← s6]; exact RowAt.new W6 4 [.bool false]
    exact h
  have hk : Keeps (fun _ => False) w W7 := by
    rw [e7, e6, e5, e4, e3, e2, e1]
    exact ((((((((Keeps.refl (fun _ => False) w)).alloc _).alloc _).alloc _).alloc _).alloc _).alloc _).alloc _
  rw [← hn]
  clear e1 e2 e3 e4 e5 e6 e7 s1 s2 s3 s4 s5 s6
  obtain ⟨W8, e8⟩ : ∃ W, W = W7.alloc (.cells #[.bool false] 4) := ⟨_, rfl⟩
  have hk8 : Keeps (fun _ => False) W7 W8 := by rw [e8]; exact (Keeps.refl _ W7).alloc _
  have r8 : RowAt W8 W7.heap.size 4 [.bool false] := by rw [e8]; exact RowAt.new W7 4 [.bool false]
  have q1 := hk8.row r1 (fun h => h)
  have q2 := hk8.row r2 (fun h => h)
  have q3 := hk8.row r3 (fun h => h)
  have q4 := hk8.row r4 (fun h => h)
  have q5 := hk8.row r5 (fun h => h)
  have q6 := hk8.row r6 (fun h => h)
  have q7 := hk8.row r7 (fun h => h)
  have hBo : ¬ OutB (n + 1 + 1) (n + 1 + 1 + 1) (n + 1 + 1 + 1 + 1) (n + 1 + 1 + 1 + 1 + 1) (n + 1 + 1 + 1 + 1 + 1 + 1) (n + 1) := by unfold OutB; omega
  have hc := bigText107 n (n + 1) (n + 1 + 1) (n + 1 + 1 + 1) (n + 1 + 1 + 1 + 1) (n + 1 + 1 + 1 + 1 + 1) (n + 1 + 1 + 1 + 1 + 1 + 1) sa _ _ _ _ _ na da la W8 (q1.cell 0) (q2.cell 0) q3 q4 q5 q6 q7 (by omega) (by omega) (by omega) (by omega) (by omega) (by omega) (by omega) (by omega) (by omega) (by omega) hBo ta (G.keep (hk.trans hk8) (fun _ _ h => h)) hN8 T HT.out
  have hsafe := safe_any 107 _ W7 (fun w' => ∃ wb, Keeps (fun _ => False) W8 wb ∧ w' = (((((wb).setCell ⟨n + 1 + 1, 0, none⟩ (.string T)).setCell ⟨n + 1 + 1 + 1, 0, none⟩ (.string T)).setCell ⟨n + 1 + 1 + 1 + 1, 0, none⟩ (.string T)).setCell ⟨n + 1 + 1 + 1 + 1 + 1, 0, none⟩ (.string T)).setCell ⟨n + 1 + 1 + 1 + 1 + 1 + 1, 0, none⟩ (.bool true)) (call107 _) (by
    rw [← e8]
    refine hc.mono ?_
    rintro e w' ⟨rfl, wb, h1, rfl⟩
    refine ⟨rfl, ⟨wb, h1, rfl⟩, ?_⟩
    have h2 := h1.row r8 (fun h => h)
    exact (((((h2.other (show n + 1 + 1 ≠ W7.heap.size by omega) _).other (show n + 1 + 1 + 1 ≠ W7.heap.size by omega) _).other (show n + 1 + 1 + 1 + 1 ≠ W7.heap.size by omega) _).other (show n + 1 + 1 + 1 + 1 + 1 ≠ W7.heap.size by omega) _).other (show n + 1 + 1 + 1 + 1 + 1 + 1 ≠ W7.heap.size by omega) _))
  have HS := hid hsafe; have HK := hid hk; have HK8 := hid hk8
  have Q3 := hid q3; have Q4 := hid q4; have Q5 := hid q5; have Q6 := hid q6; have Q7 := hid q7
  clear hc hsafe hk hk8 q1 q2 q3 q4 q5 q6 q7 r1 r2 r3 r4 r5 r6 r7 r8 e8
  refine HS.out.mono ?_
  rintro e w9 ⟨rfl, w10, ⟨wb, h1, rfl⟩, rfl⟩
  have z2 : RowAt ((((((((wb).setCell ⟨n + 1 + 1, 0, none⟩ (.string T)).setCell ⟨n + 1 + 1 + 1, 0, none⟩ (.string T)).setCell ⟨n + 1 + 1 + 1 + 1, 0, none⟩ (.string T)).setCell ⟨n + 1 + 1 + 1 + 1 + 1, 0, none⟩ (.string T)).setCell ⟨n + 1 + 1 + 1 + 1 + 1 + 1, 0, none⟩ (.bool true)).setCell ⟨W7.heap.size, 0, none⟩ (.bool true)).setCell ⟨W7.heap.size, 0, none⟩ (.bool true)) (n + 1 + 1) 9 [.string T] := ((((((((h1.row Q3.out (fun h => h)).set 0 (.string T)).other (show n + 1 + 1 + 1 ≠ n + 1 + 1 by omega) _).other (show n + 1 + 1 + 1 + 1 ≠ n + 1 + 1 by omega) _).other (show n + 1 + 1 + 1 + 1 + 1 ≠ n + 1 + 1 by omega) _).other (show n + 1 + 1 + 1 + 1 + 1 + 1 ≠ n + 1 + 1 by omega) _).other (show W7.heap.size ≠ n + 1 + 1 by omega) _).other (show W7.heap.size ≠ n + 1 + 1 by omega) _)
  have z3 : RowAt ((((((((wb).setCell ⟨n + 1 + 1, 0, none⟩ (.string T)).setCell ⟨n + 1 + 1 + 1, 0, none⟩ (.string T)).setCell ⟨n + 1 + 1 + 1 + 1, 0, none⟩ (.string T)).setCell ⟨n + 1 + 1 + 1 + 1 + 1, 0, none⟩ (.string T)).setCell ⟨n + 1 + 1 + 1 + 1 + 1 + 1, 0, none⟩ (.bool true)).setCell ⟨W7.heap.size, 0, none⟩ (.bool true)).setCell ⟨W7.heap.size, 0, none⟩ (.bool true)) (n + 1 + 1 + 1) 9 [.string T] := ((((((((h1.row Q4.out (fun h => h)).other (show n + 1 + 1 ≠ n + 1 + 1 + 1 by omega) _).set 0 (.string T)).other (show n + 1 + 1 + 1 + 1 ≠ n + 1 + 1 + 1 by omega) _).other (show n + 1 + 1 + 1 + 1 + 1 ≠ n + 1 + 1 + 1 by omega) _).other (show n + 1 + 1 + 1 + 1 + 1 + 1 ≠ n + 1 + 1 + 1 by omega) _).other (show W7.heap.size ≠ n + 1 + 1 + 1 by omega) _).other (show W7.heap.size ≠ n + 1 + 1 + 1 by omega) _)
  have z4 : RowAt ((((((((wb).setCell ⟨n + 1 + 1, 0, none⟩ (.string T)).setCell ⟨n + 1 + 1 + 1, 0, none⟩ (.string T)).setCell ⟨n + 1 + 1 + 1 + 1, 0, none⟩ (.string T)).setCell ⟨n + 1 + 1 + 1 + 1 + 1, 0, none⟩ (.string T)).setCell ⟨n + 1 + 1 + 1 + 1 + 1 + 1, 0, none⟩ (.bool true)).setCell ⟨W7.heap.size, 0, none⟩ (.bool true)).setCell ⟨W7.heap.size, 0, none⟩ (.bool true)) (n + 1 + 1 + 1 + 1) 9 [.string T] := ((((((((h1.row Q5.out (fun h => h)).other (show n + 1 + 1 ≠ n + 1 + 1 + 1 + 1 by omega) _).other (show n + 1 + 1 + 1 ≠ n + 1 + 1 + 1 + 1 by omega) _).set 0 (.string T)).other (show n + 1 + 1 + 1 + 1 + 1 ≠ n + 1 + 1 + 1 + 1 by omega) _).other (show n + 1 + 1 + 1 + 1 + 1 + 1 ≠ n + 1 + 1 + 1 + 1 by omega) _).other (show W7.heap.size ≠ n + 1 + 1 + 1 + 1 by omega) _).other (show W7.heap.size ≠ n + 1 + 1 + 1 + 1 by omega) _)
  have z5 : RowAt ((((((((wb).setCell ⟨n + 1 + 1, 0, none⟩ (.string T)).setCell ⟨n + 1 + 1 + 1, 0, none⟩ (.string T)).setCell ⟨n + 1 + 1 + 1 + 1, 0, none⟩ (.string T)).setCell ⟨n + 1 + 1 + 1 + 1 + 1, 0, none⟩ (.string T)).setCell ⟨n + 1 + 1 + 1 + 1 + 1 + 1, 0, none⟩ (.bool true)).setCell ⟨W7.heap.size, 0, none⟩ (.bool true)).setCell ⟨W7.heap.size, 0, none⟩ (.bool true)) (n + 1 + 1 + 1 + 1 + 1) 9 [.string T] := ((((((((h1.row Q6.out (fun h => h)).other (show n + 1 + 1 ≠ n + 1 + 1 + 1 + 1 + 1 by omega) _).other (show n + 1 + 1 + 1 ≠ n + 1 + 1 + 1 + 1 + 1 by omega) _).other (show n + 1 + 1 + 1 + 1 ≠ n + 1 + 1 + 1 + 1 + 1 by omega) _).set 0 (.string T)).other (show n + 1 + 1 + 1 + 1 + 1 + 1 ≠ n + 1 + 1 + 1 + 1 + 1 by omega) _).other (show W7.heap.size ≠ n + 1 + 1 + 1 + 1 + 1 by omega) _).other (show W7.heap.size ≠ n + 1 + 1 + 1 + 1 + 1 by omega) _)
  have z6 : RowAt ((((((((wb).setCell ⟨n + 1 + 1, 0, none⟩ (.string T)).setCell ⟨n + 1 + 1 + 1, 0, none⟩ (.string T)).setCell ⟨n + 1 + 1 + 1 + 1, 0, none⟩ (.string T)).setCell ⟨n + 1 + 1 + 1 + 1 + 1, 0, none⟩ (.string T)).setCell ⟨n + 1 + 1 + 1 + 1 + 1 + 1, 0, none⟩ (.bool true)).setCell ⟨W7.heap.size, 0, none⟩ (.bool true)).setCell ⟨W7.heap.size, 0, none⟩ (.bool true)) (n + 1 + 1 + 1 + 1 + 1 + 1) 4 [.bool true] := ((((((((h1.row Q7.out (fun h => h)).other (show n + 1 + 1 ≠ n + 1 + 1 + 1 + 1 + 1 + 1 by omega) _).other (show n + 1 + 1 + 1 ≠ n + 1 + 1 + 1 + 1 + 1 + 1 by omega) _).other (show n + 1 + 1 + 1 + 1 ≠ n + 1 + 1 + 1 + 1 + 1 + 1 by omega) _).other (show n + 1 + 1 + 1 + 1 + 1 ≠ n + 1 + 1 + 1 + 1 + 1 + 1 by omega) _).set 0 (.bool true)).other (show W7.heap.size ≠ n + 1 + 1 + 1 + 1 + 1 + 1 by omega) _).other (show W7.heap.size ≠ n + 1 + 1 + 1 + 1 + 1 + 1 by omega) _)
  have hk9 : Keeps (fun _ => False) w ((((((((wb).setCell ⟨n + 1 + 1, 0, none⟩ (.string T)).setCell ⟨n + 1 + 1 + 1, 0, none⟩ (.string T)).setCell ⟨n + 1 + 1 + 1 + 1, 0, none⟩ (.string T)).setCell ⟨n + 1 + 1 + 1 + 1 + 1, 0, none⟩ (.string T)).setCell ⟨n + 1 + 1 + 1 + 1 + 1 + 1, 0, none⟩ (.bool true)).setCell ⟨W7.heap.size, 0, none⟩ (.bool true)).setCell ⟨W7.heap.size, 0, none⟩ (.bool true)) := ((((((((HK.out.trans (HK8.out.trans h1)).setCell _ (.inr (by show w.heap.size ≤ n + 1 + 1; omega)) _).setCell _ (.inr (by show w.heap.size ≤ n + 1 + 1 + 1; omega)) _).setCell _ (.inr (by show w.heap.size ≤ n + 1 + 1 + 1 + 1; omega)) _).setCell _ (.inr (by show w.heap.size ≤ n + 1 + 1 + 1 + 1 + 1; omega)) _).setCell _ (.inr (by show w.heap.size ≤ n + 1 + 1 + 1 + 1 + 1 + 1; omega)) _).setCell _ (.inr (by show w.heap.size ≤ W7.heap.size; omega)) _).setCell _ (.inr (by show w.heap.size ≤ W7.heap.size; omega)) _)
  generalize ((((((((wb).setCell ⟨n + 1 + 1, 0, none⟩ (.string T)).setCell ⟨n + 1 + 1 + 1, 0, none⟩ (.string T)).setCell ⟨n + 1 + 1 + 1 + 1, 0, none⟩ (.string T)).setCell ⟨n + 1 + 1 + 1 + 1 + 1, 0, none⟩ (.string T)).setCell ⟨n + 1 + 1 + 1 + 1 + 1 + 1, 0, none⟩ (.bool true)).setCell ⟨W7.heap.size, 0, none⟩ (.bool true)).setCell ⟨W7.heap.size, 0, none⟩ (.bool true)) = w11 at *
  have c2 : w11.cell? ⟨n + 1 + 1, 0, none⟩ = some (.string T) := z2.cell 0
  have f2 := z2.frozen 0
  have c3 : w11.cell? ⟨n + 1 + 1 + 1, 0, none⟩ = some (.string T) := z3.cell 0
  have f3 := z3.frozen 0
  have c4 : w11.cell? ⟨n + 1 + 1 + 1 + 1, 0, none⟩ = some (.string T) := z4.cell 0
  have f4 := z4.frozen 0
  have c5 : w11.cell? ⟨n + 1 + 1 + 1 + 1 + 1, 0, none⟩ = some (.string T) := z5.cell 0
  have f5 := z5.frozen 0
  have c6 : w11.cell? ⟨n + 1 + 1 + 1 + 1 + 1 + 1, 0, none⟩ = some (.bool true) := z6.cell 0
  have f6 := z6.frozen 0
  have d23 : n + 1 + 1 ≠ n + 1 + 1 + 1 := by omega
  have d24 : n + 1 + 1 ≠ n + 1 + 1 + 1 + 1 := by omega
  have d25 : n + 1 + 1 ≠ n + 1 + 1 + 1 + 1 + 1 := by omega
  have d26 : n + 1 + 1 ≠ n + 1 + 1 + 1 + 1 + 1 + 1 := by omega
  have d32 : n + 1 + 1 + 1 ≠ n + 1 + 1 := by omega
  have d34 : n + 1 + 1 + 1 ≠ n + 1 + 1 + 1 + 1 := by omega
  have d35 : n + 1 + 1 + 1 ≠ n + 1 + 1 + 1 + 1 + 1 := by omega
  have d36 : n + 1 + 1 + 1 ≠ n + 1 + 1 + 1 + 1 + 1 + 1 := by omega
  have d42 : n + 1 + 1 + 1 + 1 ≠ n + 1 + 1 := by omega
  have d43 : n + 1 + 1 + 1 + 1 ≠ n + 1 + 1 + 1 := by omega
  have d45 : n + 1 + 1 + 1 + 1 ≠ n + 1 + 1 + 1 + 1 + 1 := by omega
  have d46 : n + 1 + 1 + 1 + 1 ≠ n + 1 + 1 + 1 + 1 + 1 + 1 := by omega
  have d52 : n + 1 + 1 + 1 + 1 + 1 ≠ n + 1 + 1 := by omega
  have d53 : n + 1 + 1 + 1 + 1 + 1 ≠ n + 1 + 1 + 1 := by omega
  have d54 : n + 1 + 1 + 1 + 1 + 1 ≠ n + 1 + 1 + 1 + 1 := by omega
  have d56 : n + 1 + 1 + 1 + 1 + 1 ≠ n + 1 + 1 + 1 + 1 + 1 + 1 := by omega
  have d62 : n + 1 + 1 + 1 + 1 + 1 + 1 ≠ n + 1 + 1 := by omega
  have d63 : n + 1 + 1 + 1 + 1 + 1 + 1 ≠ n + 1 + 1 + 1 := by omega
  have d64 : n + 1 + 1 + 1 + 1 + 1 + 1 ≠ n + 1 + 1 + 1 + 1 := by omega
  have d65 : n + 1 + 1 + 1 + 1 + 1 + 1 ≠ n + 1 + 1 + 1 + 1 + 1 := by omega
  have HO : Hid (Outs n T w11) := hid ⟨z2, z3, z4, z5, z6⟩
  have Z2 := hid z2; have Z3 := hid z3; have Z4 := hid z4; have Z5 := hid z5; have Z6 := hid z6; have HK9 := hid hk9; have HNn := hid hn
  clear h1 z2 z3 z4 z5 z6 hk9 HS hn s7 Q3 Q4 Q5 Q6 Q7
  go_upto_region 4 with fail
  go_region_held3 (fun w' => w'.cell? ⟨n + 1 + 1, 0, none⟩ = some (.string T) ∧ w'.cell? ⟨n + 1 + 1 + 1, 0, none⟩ = some (.string T) ∧ w'.cell? ⟨n + 1 + 1 + 1 + 1, 0, none⟩ = some (.string T) ∧ w'.cell? ⟨n + 1 + 1 + 1 + 1 + 1, 0, none⟩ = some (.string T)) (first | with_reducible exact Outs.cells HO.out | with_reducible exact Outs.cells (Outs.drew HO.out) | with_reducible exact Outs.cells (Outs.s2 HO.out) | with_reducible exact Outs.cells (Outs.drew (Outs.s2 HO.out)) | with_reducible exact Outs.cells (Outs.s3 (Outs.s2 HO.out)) | with_reducible exact Outs.cells (Outs.drew (Outs.s3 (Outs.s2 HO.out))) | with_reducible exact Outs.cells (Outs.s4 (Outs.s3 (Outs.s2 HO.out))) | with_reducible exact Outs.cells (Outs.drew (Outs.s4 (Outs.s3 (Outs.s2 HO.out)))) | with_reducible exact Outs.cells (Outs.s5 (Outs.s4 (Outs.s3 (Outs.s2 HO.out)))) | with_reducible exact Outs.cells (Outs.drew (Outs.s5 (Outs.s4 (Outs.s3 (Outs.s2 HO.out))))) | with_reducible exact Outs.cells (Outs.s6 (Outs.s5 (Outs.s4 (Outs.s3 (Outs.s2 HO.out))))) | with_reducible exact Outs.cells (Outs.drew (Outs.s6 (Outs.s5 (Outs.s4 (Outs.s3 (Outs.s2 HO.out))))))) (fail)
  go_wp2_with fail
  have HF : Outs n T (((((((w11).setCell ⟨n + 1 + 1, 0, none⟩ (.string T)).setCell ⟨n + 1 + 1 + 1, 0, none⟩ (.string T)).setCell ⟨n + 1 + 1 + 1 + 1, 0, none⟩ (.string T)).setCell ⟨n + 1 + 1 + 1 + 1 + 1, 0, none⟩ (.string T)).setCell ⟨n + 1 + 1 + 1 + 1 + 1 + 1, 0, none⟩ (.bool true)).drew) := Outs.drew (Outs.s6 (Outs.s5 (Outs.s4 (Outs.s3 (Outs.s2 HO.out)))))
  have hkf : Keeps (fun _ => False) w (((((((w11).setCell ⟨n + 1 + 1, 0, none⟩ (.string T)).setCell ⟨n + 1 + 1 + 1, 0, none⟩ (.string T)).setCell ⟨n + 1 + 1 + 1 + 1, 0, none⟩ (.string T)).setCell ⟨n + 1 + 1 + 1 + 1 + 1, 0, none⟩ (.string T)).setCell ⟨n + 1 + 1 + 1 + 1 + 1 + 1, 0, none⟩ (.bool true)).drew) := (((((HK9.out.setCell _ (.inr (by show w.heap.size ≤ n + 1 + 1; have := HNn.out; omega)) _).setCell _ (.inr (by show w.heap.size ≤ n + 1 + 1 + 1; have := HNn.out; omega)) _).setCell _ (.inr (by show w.heap.size ≤ n + 1 + 1 + 1 + 1; have := HNn.out; omega)) _).setCell _ (.inr (by show w.heap.size ≤ n + 1 + 1 + 1 + 1 + 1; have := HNn.out; omega)) _).setCell _ (.inr (by show w.heap.size ≤ n + 1 + 1 + 1 + 1 + 1 + 1; have := HNn.out; omega)) _).drew
  generalize (((((((w11).setCell ⟨n + 1 + 1, 0, none⟩ (.string T)).setCell ⟨n + 1 + 1 + 1, 0, none⟩ (.string T)).setCell ⟨n + 1 + 1 + 1 + 1, 0, none⟩ (.string T)).setCell ⟨n + 1 + 1 + 1 + 1 + 1, 0, none⟩ (.string T)).setCell ⟨n + 1 + 1 + 1 + 1 + 1 + 1, 0, none⟩ (.bool true)).drew) = wf at *
  obtain ⟨g2, g3, g4, g5, g6⟩ := HF
  have a2 : wf.cell? ⟨n + 1 + 1, 0, none⟩ = some (.string T) := g2.cell 0
  have a3 : wf.cell? ⟨n + 1 + 1 + 1, 0, none⟩ = some (.string T) := g3.cell 0
  have a4 : wf.cell? ⟨n + 1 + 1 + 1 + 1, 0, none⟩ = some (.string T) := g4.cell 0
  have a5 : wf.cell? ⟨n + 1 + 1 + 1 + 1 + 1, 0, none⟩ = some (.string T) := g5.cell 0
  have a6 : wf.cell? ⟨n + 1 + 1 + 1 + 1 + 1 + 1, 0, none⟩ = some (.bool true) := g6.cell 0
  refine bodyPost_ret (v := .tuple #[.string T, .string T, .string T, .string T, .bool true]) ?_ rfl ⟨rfl, hkf⟩
  simp [results, Tryz.results43, go_sem, a2, a3, a4, a5, a6]
end Go.Proofs
namespace Go.Proofs
open Go.RowKit
set_option maxHeartbeats 1000000
set_option linter.unusedVariables false
set_option linter.unusedSimpArgs false
set_option maxRecDepth 100000

/-- The digit at a place of a text. -/
def digAt (s : ByteArray) (i0 k : Nat) : Nat := (s.data.getD (i0 + k) 0).toNat - 48
/-- From place i0 on there are digits, at least one. -/
def okDigs (s : ByteArray) (i0 : Nat) : Bool := decide (i0 < s.size) && (List.range s.size).all (fun i => decide (i < i0) || (decide (48 ≤ (s.data.getD i 0).toNat) && decide ((s.data.getD i 0).toNat ≤ 57)))

theorem okDigs_text {s : ByteArray} {neg : Bool} (h : okDigs s (if neg then 1 else 0) = true) (hs : s.size ≤ 200) (hm : neg = true → (s.data.getD 0 0).toNat = 45) :
    NumText s neg (s.size - (if neg then 1 else 0)) (digAt s (if neg then 1 else 0)) := by
  unfold okDigs at h
  rw [Bool.and_eq_true, decide_eq_true_eq, List.all_eq_true] at h
  obtain ⟨h1, h2⟩ := h
  have gd : ∀ i (hi : i < s.size), s.data.getD i 0 = s[i]'hi := by
    intro i hi
    rw [Array.getD_eq_getD_getElem?, Array.getElem?_eq_getElem hi]
    rfl
  refine ⟨hs, by omega, ⟨by omega, fun k hk => ?_⟩, fun hn => ?_⟩
  · have hi : (if neg then 1 else 0) + k < s.size := by omega
    have h3 := h2 ((if neg then 1 else 0) + k) (List.mem_range.mpr hi)
    simp only [Bool.or_eq_true, Bool.and_eq_true, decide_eq_true_eq] at h3
    have h4 : 48 ≤ (s.data.getD ((if neg then 1 else 0) + k) 0).toNat ∧ (s.data.getD ((if neg then 1 else 0) + k) 0).toNat ≤ 57 := by
      rcases h3 with h3 | h3
      · exfalso; omega
      · exact h3
    refine ⟨by unfold digAt; omega, hi, ?_⟩
    rw [← gd _ hi]
    unfold digAt
    omega
  · subst hn
    have h0 : 0 < s.size := by simp at h1; omega
    refine ⟨h0, ?_⟩
    rw [← gd 0 h0, hm rfl]
    rfl

theorem nd_eq {N d : Nat} (h1 : 10 ^ d ≤ N) (h2 : N < 10 ^ (d + 1)) : nd N = d + 1 := by
  have h3 := nd_le h2 (by omega)
  rcases Nat.lt_or_ge (nd N) (d + 1) with h | h
  · exfalso
    have h4 := nd_lt N
    have h5 := Nat.pow_le_pow_right (show 0 < 10 by omega) (show nd N ≤ d by omega)
    omega
  · omega

def cA : ByteArray := { data := #[49, 56, 52, 52, 54, 55, 52, 52, 48, 55, 51, 55, 48, 57, 53, 53, 49, 54, 49, 54] }
def cB : ByteArray := { data := #[45, 49, 56, 52, 52, 54, 55, 52, 52, 48, 55, 51, 55, 48, 57, 53, 53, 49, 54, 49, 55] }
def cC : ByteArray := { data := #[45, 55] }
theorem tA : NumText cA false 20 (digAt cA 0) := okDigs_text (neg := false) (by decide +kernel) (by decide +kernel) (fun h => by cases h)
theorem tB : NumText cB true 20 (digAt cB 1) := okDigs_text (neg := true) (by decide +kernel) (by decide +kernel) (fun h => by decide +kernel)
theorem tC : NumText cC true 1 (digAt cC 1) := okDigs_text (neg := true) (by decide +kernel) (by decide +kernel) (fun h => by decide +kernel)
theorem vA : dval (digAt cA 0) 20 = 18446744073709551616 := by decide +kernel
theorem vB : dval (digAt cB 1) 20 = 18446744073709551617 := by decide +kernel
theorem vC : dval (digAt cC 1) 1 = 7 := by decide +kernel
def cP : ByteArray := { data := #[45, 51, 52, 48, 50, 56, 50, 51, 54, 54, 57, 50, 48, 57, 51, 56, 52, 54, 51, 52, 56, 49, 56, 50, 49, 51, 53, 49, 53, 48, 53, 52, 55, 55, 55, 54, 51, 48, 55, 50] }
theorem sP : strB (txt true 340282366920938463481821351505477763072) = cP := by
  have h : nd 340282366920938463481821351505477763072 = 39 := nd_eq (d := 38) (by decide +kernel) (by decide +kernel)
  unfold txt decs
  rw [h]
  decide +kernel
theorem sC : strB (txt true 7) = cC := by
  have h : nd 7 = 1 := nd_eq (d := 0) (by decide) (by decide)
  unfold txt decs
  rw [h]
  decide +kernel

theorem bigAlive_true (w : World) (G : Glob w) : Calls Tryz.prog 19 #[] w fun e w' => e = .returned (.bool true) ∧ Keeps (fun _ => False) w w' := by
  have HG := hid G
  clear G
  have hD : Hid (∀ w, Glob w → Calls Tryz.prog 21 #[.int .i64 2, .string { data := #[49, 56, 52, 52, 54, 55, 52, 52, 48, 55, 51, 55, 48, 57, 53, 53, 49, 54, 49, 54] }, .string { data := #[45, 49, 56, 52, 52, 54, 55, 52, 52, 48, 55, 51, 55, 48, 57, 53, 53, 49, 54, 49, 55] }, .int .i64 0] w fun e w' =>
      e = .returned (.tuple #[.string { data := #[45, 51, 52, 48, 50, 56, 50, 51, 54, 54, 57, 50, 48, 57, 51, 56, 52, 54, 51, 52, 56, 49, 56, 50, 49, 51, 53, 49, 53, 48, 53, 52, 55, 55, 55, 54, 51, 48, 55, 50] }, .bool true]) ∧ Keeps (fun _ => False) w w') := hid (fun w G => by
    have h := bigDo21_mul cA cB false true (digAt cA 0) (digAt cB 1) 20 20 w tA tB G (by rw [vA, vB]; decide) (by rw [vA, vB]; unfold W64; decide)
    rw [vA, vB, show decide (numZ false 18446744073709551616 * numZ true 18446744073709551617 < 0) = true from by decide, show 18446744073709551616 * 18446744073709551617 = 340282366920938463481821351505477763072 from by decide, sP] at h
    exact h)
  have hX : Hid (∀ w, Glob w → Calls Tryz.prog 43 #[.string { data := #[45, 55] }, .int .i64 10] w fun e w' =>
      e = .returned (.tuple #[.string { data := #[45, 55] }, .string { data := #[45, 55] }, .string { data := #[45, 55] }, .string { data := #[45, 55] }, .bool true]) ∧ Keeps (fun _ => False) w w') := hid (fun w G => by
    have h := bigText43 cC true (digAt cC 1) 1 w tC G (by rw [vC]; unfold W64; decide) cC (by rw [vC, show decide (numZ true 7 < 0) = true from by decide, sC])
    exact h)
  go_enter Tryz.func19, Tryz.ntmps19
  go_wp2_with fail
  refine (hD.out _ HG.out).mono ?_
  rintro e w1 ⟨rfl, h1⟩
  have K1 := hid h1
  have HG1 := hid (HG.out.keep h1 (fun _ _ h => h))
  clear h1
  go_wp2_with fail
  refine (hX.out _ HG1.out).mono ?_
  rintro e w2 ⟨rfl, h1⟩
  have K2 := hid h1
  clear h1
  go_wp2_with fail
  go_ret
  exact ⟨rfl, K1.out.trans K2.out⟩
end Go.Proofs
