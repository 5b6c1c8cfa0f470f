/- Parts of the proofs over the numbers of any length: Trim, Digits, Dig2, SpecCmp, NumCmp, Read, Read2, Right, BRight, Txt. -/
import Derived.Test.YtacbllkmcldniaaGreatDoorBigCmp
import Derived.Test.YtacbllkmcldniaaGreatDoorDigit
set_option linter.unusedSimpArgs false
set_option linter.unusedVariables false
namespace Go.Proofs
open Go.RowKit
set_option maxHeartbeats 400000
set_option linter.unusedVariables false
set_option linter.unusedSimpArgs false
set_option maxRecDepth 100000

/-- The digits of a slice, from place 0 of a block on. -/
def RdV (w : World) (a : Option Addr) (c : Nat) (L : List Nat) : Prop :=
  L.length ≤ c ∧ (a = none ∨ ∃ b, a = some ⟨b, 0, none⟩) ∧ (L = [] ∨ ∃ b, a = some ⟨b, 0, none⟩ ∧ ∀ i, i < L.length → w.cell? ⟨b, i, none⟩ = some (.int .u8 ((L.getD i 0 : Nat) : Int)))

theorem slice22_to (a : Option Addr) (l c m : Nat) (ha : a = none ∨ ∃ b, a = some ⟨b, 0, none⟩) (h : m ≤ c) :
    ∀ w : World, (Instr.slice 22 (.slice a l c) none (some (.int .i64 (m : Int))) none).run Tryz.prog w = .ok (.slice a m c) w := by
  intro w
  rw [run_slice_h (P := Tryz.prog) w 22 a l c u22 .i64 (m : Int) (by omega) (by omega), elem22, size5]
  simp only [Result.andThen_ok, sliced, Int.toNat_natCast, Nat.mul_one, Nat.sub_zero]
  congr 2
  split
  · rfl
  · rcases ha with rfl | ⟨b, rfl⟩
    · rfl
    · simp [Addr.add]

/-- Digits without noughts at the end. -/
def trimD : List Nat → List Nat := trimZ

theorem RdV.take {w : World} {a : Option Addr} {c : Nat} {L : List Nat} (h : RdV w a c L) (n : Nat) (hn : n ≤ L.length) : RdV w a c (L.take n) := by
  obtain ⟨h1, h2, h3⟩ := h
  refine ⟨by rw [List.length_take]; omega, h2, ?_⟩
  rcases h3 with rfl | ⟨b, rfl, h4⟩
  · left; simp
  · right
    refine ⟨b, rfl, fun i hi => ?_⟩
    rw [List.length_take] at hi
    rw [h4 i (by omega)]
    congr 3
    rw [List.getD_eq_getElem?_getD, List.getD_eq_getElem?_getD, List.getElem?_take_of_lt (by omega)]

/-- trim's loop. -/
def TrRel (w0 : World) (a : Option Addr) (c : Nat) (L : List Nat) (w : World) (v : Value) (n : Nat) : Prop :=
  n ≤ L.length ∧ v = .slice a n c ∧ trimZ (L.take n) = trimZ L ∧ w = w0

theorem trim103_any (a : Option Addr) (c : Nat) (L : List Nat) (w : World) (h : RdV w a c L) (hl : L.length ≤ 4294967296) :
    Calls Tryz.prog 103 #[.slice a L.length c] w fun e w' => e = .returned (.slice a (trimZ L).length c) ∧ RdV w a c (trimZ L) ∧ w' = w := by
  have H := hid h
  have hc := h.1
  have ha := h.2.1
  clear h
  have qs := fun m (hm : m ≤ c) => slice22_to a L.length c m ha hm
  go_enter Tryz.func103, Tryz.ntmps103
  go_wp2_with fail
  go_loopw [0] (fun v wr => ∃ n, TrRel w a c L wr v n) (fun v _ => match v with | .slice _ n _ => n | _ => 0)
  case atStart => exact ⟨L.length, Nat.le_refl _, rfl, by rw [List.take_length], rfl⟩
  case round =>
    obtain ⟨n, hn, rfl, ht, rfl⟩ := hrel
    have HT := hid ht
    clear ht
    by_cases h0 : n = 0
    · subst h0
      go_wp2_with fail
      go_ret
      have : trimZ L = [] := by rw [← HT.out]; simp [trimZ]
      rw [this]
      exact ⟨rfl, H.out.take 0 (Nat.zero_le _), rfl⟩
    · obtain ⟨p, rfl⟩ : ∃ p, n = p + 1 := ⟨n - 1, by omega⟩
      obtain ⟨x, hx⟩ : ∃ x, x = L.getD p 0 := ⟨_, rfl⟩
      have hLn : L ≠ [] := by intro hh; subst hh; simp at hn
      obtain ⟨b, rfl, hcell⟩ : ∃ b, a = some ⟨b, 0, none⟩ ∧ ∀ i, i < L.length → wr.cell? ⟨b, i, none⟩ = some (.int .u8 ((L.getD i 0 : Nat) : Int)) := by
        rcases H.out.2.2 with hh | hh
        · exact absurd hh hLn
        · exact hh
      have c1 := hcell p (by omega)
      rw [← hx] at c1
      have htk : L.take (p + 1) = L.take p ++ [x] := by
        rw [List.take_succ_eq_append_getElem (by omega), hx]
        congr 2
        rw [List.getD_eq_getElem?_getD, List.getElem?_eq_getElem (by omega), Option.getD_some]
      have HTK := hid htk
      have hsl := slice22_to (some ⟨b, 0, none⟩) (p + 1) c p (.inr ⟨b, rfl⟩) (by omega)
      clear hcell hx htk qs ha hLn
      by_cases hx0 : x = 0
      · subst hx0
        go_wp2_with fail
        exact ⟨⟨p, by omega, rfl, by rw [← HT.out, HTK.out, trimZ_append_zero], rfl⟩, by simp⟩
      · have tx : ((x : Int) == 0) = false := by simp; omega
        go_wp2_with fail
        go_ret
        have hfin : trimZ L = L.take (p + 1) := by rw [← HT.out, HTK.out]; exact trimZ_append_pos _ _ hx0
        rw [hfin]
        refine ⟨?_, H.out.take _ hn, rfl⟩
        rw [List.length_take, Nat.min_eq_left hn]
        rfl
end Go.Proofs
namespace Go.Proofs
open Go.RowKit
set_option maxHeartbeats 400000
set_option linter.unusedVariables false
set_option linter.unusedSimpArgs false
set_option maxRecDepth 100000

theorem RdV.keep {w w' : World} {a : Option Addr} {c : Nat} {L : List Nat} {S : Nat → Prop} (h : RdV w a c L) (hk : Keeps S w w') (hS : ∀ k, InB a k → ¬ S k) : RdV w' a c L := by
  obtain ⟨h1, h2, h3⟩ := h
  refine ⟨h1, h2, ?_⟩
  by_cases hL : L = []
  · exact .inl hL
  · rcases h3 with h3 | ⟨b, rfl, h4⟩
    · exact .inl h3
    · refine .inr ⟨b, rfl, fun i hi => ?_⟩
      have hb : b < w.heap.size := World.block_lt_of_cell? w ⟨b, i, none⟩ (h4 i hi)
      rw [cell_of_block (p := ⟨b, i, none⟩) (hk.block b hb (hS b ⟨0, rfl⟩))]
      exact h4 i hi

theorem signed83_any (neg : Bool) (a : Option Addr) (c : Nat) (L : List Nat) (w : World) (h : RdV w a c L) (hl : L.length ≤ 4294967296) :
    Calls Tryz.prog 83 #[.bool neg, .slice a L.length c] w fun e w' => e = .returned (.agg #[.bool (neg && decide (trimZ L ≠ [])), .slice a (trimZ L).length c]) ∧ RdV w a c (trimZ L) ∧ Keeps (fun _ => False) w w' := by
  have H := hid h
  clear h
  have hka := hid ((Keeps.refl (fun _ => False) w).alloc (.cells #[.bool false, .slice none 0 0] 24))
  have Ht := hid (trim103_any a c L (w.alloc (.cells #[.bool false, .slice none 0 0] 24)) (H.out.keep hka.out (fun _ _ h => h)) hl)
  have hrow : RowAt (w.alloc (.cells #[.bool false, .slice none 0 0] 24)) w.heap.size 24 [.bool false, .slice none 0 0] := RowAt.new w 24 [.bool false, .slice none 0 0]
  go_enter Tryz.func83, Tryz.ntmps83
  go_wp2_with fail
  refine Ht.out.mono ?_
  rintro e w1 ⟨rfl, h1, rfl⟩
  have hr0 : RdV w a c (trimZ L) := by
    have h2 := H.out.take (trimZ L).length (trimZ_length_le L)
    rwa [trimZ_prefix] at h2
  have HR := hid hr0
  clear h1 hr0
  have c0 := RowAt.cell hrow 0
  have c1 := RowAt.cell hrow 1
  have f0 := RowAt.frozen hrow 0
  have f1 := RowAt.frozen hrow 1
  simp only [List.getElem?_cons_zero, List.getElem?_cons_succ] at c0 c1
  have HROW := hid hrow
  clear hrow
  generalize (w.alloc (.cells #[.bool false, .slice none 0 0] 24)) = W1 at *
  obtain ⟨p, hp⟩ : ∃ p, p = w.heap.size := ⟨_, rfl⟩
  rw [← hp] at c0 c1 f0 f1 HROW ⊢
  have HP := hid hp
  clear hp
  obtain ⟨m, hm⟩ : ∃ m, m = (trimZ L).length := ⟨_, rfl⟩
  rw [← hm]
  have HM := hid hm
  clear hm
  have Fin : ∀ s : Bool, ∀ wf, wf = (W1.setCell ⟨p, 0, none⟩ (.bool s)).setCell ⟨p, 1, none⟩ (.slice a m c) → (wf.cell? ⟨p, 0, none⟩ = some (.bool s) ∧ wf.cell? ⟨p, 1, none⟩ = some (.slice a m c) ∧ wf.frozen? ⟨p, 0, none⟩ = false ∧ wf.frozen? ⟨p, 1, none⟩ = false) ∧ Keeps (fun _ => False) w wf := by
    rintro s wf rfl
    have h2 := (HROW.out.set 0 (.bool s)).set 1 (.slice a m c)
    refine ⟨⟨h2.cell 0, h2.cell 1, h2.frozen 0, h2.frozen 1⟩, (hka.out.setCell _ (.inr ?_) _).setCell _ (.inr ?_) _⟩
    · show w.heap.size ≤ p; rw [HP.out]; omega
    · show w.heap.size ≤ p; rw [HP.out]; omega
  have HF := hid Fin
  clear Fin
  cases neg with
  | false =>
    go_wp2_with fail
    obtain ⟨⟨g0, g1, g2, g3⟩, hk⟩ := HF.out false _ rfl
    generalize ((W1.setCell ⟨p, 0, none⟩ (.bool false)).setCell ⟨p, 1, none⟩ (.slice a m c)) = wf at *
    refine bodyPost_ret (v := .agg #[.bool false, .slice a m c]) ?_ rfl ⟨by rw [HM.out]; rfl, HR.out, hk⟩
    simp [results, Tryz.results83, go_sem, g0, g1]
  | true =>
    by_cases h0 : m = 0
    · subst h0
      go_wp2_with fail
      obtain ⟨⟨g0, g1, g2, g3⟩, hk⟩ := HF.out false _ rfl
      generalize ((W1.setCell ⟨p, 0, none⟩ (.bool false)).setCell ⟨p, 1, none⟩ (.slice a 0 c)) = wf at *
      have hnil : trimZ L = [] := List.eq_nil_of_length_eq_zero HM.out.symm
      refine bodyPost_ret (v := .agg #[.bool false, .slice a 0 c]) ?_ rfl ⟨by rw [hnil]; rfl, HR.out, hk⟩
      simp [results, Tryz.results83, go_sem, g0, g1]
    · have h0' : 0 < m := by omega
      go_wp2_with fail
      obtain ⟨⟨g0, g1, g2, g3⟩, hk⟩ := HF.out true _ rfl
      generalize ((W1.setCell ⟨p, 0, none⟩ (.bool true)).setCell ⟨p, 1, none⟩ (.slice a m c)) = wf at *
      have hnil : trimZ L ≠ [] := fun hh => by rw [hh] at HM; exact h0 HM.out
      refine bodyPost_ret (v := .agg #[.bool true, .slice a m c]) ?_ rfl ⟨by rw [decide_eq_true hnil, HM.out]; rfl, HR.out, hk⟩
      simp [results, Tryz.results83, go_sem, g0, g1]
end Go.Proofs
namespace Go.Proofs
open Go.RowKit
set_option maxHeartbeats 2000000
set_option linter.unusedVariables false
set_option linter.unusedSimpArgs false
set_option maxRecDepth 100000

/-- A byte's digit. -/
def dg (s : ByteArray) (j : Nat) : Nat := (s.data.getD j 0).toNat - 48
/-- The last t digits, the last one first. -/
def rdig (s : ByteArray) : Nat → List Nat
  | 0 => []
  | t + 1 => rdig s t ++ [dg s (s.size - 1 - t)]
theorem rdig_length (s : ByteArray) (t : Nat) : (rdig s t).length = t := by
  induction t with
  | zero => rfl
  | succ t ih => simp [rdig, ih]

theorem RdV.of_own {w : World} {base : Nat} {v : Value} {n : Nat} {L : List Nat} (h : w.ownsRow base 5 1 v n (L.map bv)) : ∃ a c, v = .slice a L.length c ∧ RdV w a c L ∧ (∀ k, InB a k → base ≤ k) := by
  obtain ⟨h1, h2⟩ := h
  have hl : L.length = n := by simpa using h1
  rcases h2 with ⟨rfl, h0⟩ | ⟨g, cap, cur, rfl, hb, hg, hc, _, hsz, hcur⟩
  · have hL : L = [] := List.eq_nil_of_length_eq_zero (by omega)
    subst hL
    exact ⟨none, 0, rfl, ⟨Nat.le_refl _, .inl rfl, .inl rfl⟩, fun k hk => by obtain ⟨o, ho⟩ := hk; cases ho⟩
  · refine ⟨some ⟨g, 0, none⟩, cap, by rw [hl], ⟨by omega, .inr ⟨g, rfl⟩, .inr ⟨g, rfl, fun i hi => ?_⟩⟩, fun k hk => by obtain ⟨o, ho⟩ := hk; cases ho; exact hb⟩
    have h3 : cur[i]? = some (bv (L.getD i 0)) := by
      have h4 : (cur.toList.take (n * 1))[i]? = some (bv (L.getD i 0)) := by
        rw [hcur]
        simp [List.getElem?_eq_getElem hi]
      rw [List.getElem?_take_of_lt (by omega)] at h4
      simpa using h4
    have h5 := cell_of_row w g i cur 5 (0, 0) hg
    rw [h5, h3]
    rfl

theorem own_keeps {w w1 w2 : World} {base n : Nat} {v : Value} {xs : List Value} {e : TypeId} {size : Nat} (hb : base = w.heap.size) (hk : Keeps (fun _ => False) w w1) (ho : w1.ownsRow base e size v n xs) (hg : w1.grownBy w2 v.ownBlock) : Keeps (fun _ => False) w w2 := by
  subst hb
  have h : ∀ g, v.ownBlock = some g → w.heap.size ≤ g := by
    intro g hg'
    rcases ho.2 with ⟨rfl, _⟩ | ⟨g', cap, cur, rfl, hb, _⟩
    · cases hg'
    · cases hg'; exact hb
  refine ⟨hg.os.trans hk.os, hg.tape.trans hk.tape, hg.output.trans hk.output, Nat.le_trans hk.size hg.size, fun i hi hn => ?_⟩
  rw [hg.block i (Nat.lt_of_lt_of_le hi hk.size) (fun hh => by have := h i hh.symm; omega)]
  exact hk.block i hi hn

/-- All bytes from place i on are digits. -/
def DgOk (s : ByteArray) (i : Nat) : Prop := ∀ j, i ≤ j → j < s.size → 48 ≤ (s.data.getD j 0).toNat ∧ (s.data.getD j 0).toNat ≤ 57

/-- The loop of Digits: m bytes are left. -/
def DgRel (w0 : World) (s : ByteArray) (w : World) (v iv : Value) (m : Nat) : Prop :=
  m ≤ s.size ∧ iv = .int .i64 ((m : Int) - 1) ∧ DgOk s m ∧ w.ownsRow w0.heap.size 5 1 v (s.size - m) ((rdig s (s.size - m)).map bv) ∧ Keeps (fun _ => False) w0 w

theorem RowAt.facts2 {w : World} {p : Nat} {t : TypeId} {u v : Value} (h : RowAt w p t [u, v]) : w.cell? ⟨p, 0, none⟩ = some u ∧ w.cell? ⟨p, 1, none⟩ = some v ∧ w.frozen? ⟨p, 0, none⟩ = false ∧ w.frozen? ⟨p, 1, none⟩ = false :=
  ⟨h.cell 0, h.cell 1, h.frozen 0, h.frozen 1⟩

theorem digits82_any (s : ByteArray) (w : World) (hs : s.size ≤ 2147483647) :
    Calls Tryz.prog 82 #[.string s] w fun e w' => Keeps (fun _ => False) w w' ∧
      ((DgOk s 0 ∧ ∃ a c, e = .returned (.tuple #[.agg #[.bool false, .slice a (trimZ (rdig s s.size)).length c], .bool (!s.toList.isEmpty)]) ∧ RdV w' a c (trimZ (rdig s s.size)) ∧ (∀ k, InB a k → w.heap.size ≤ k)) ∨
       (¬ DgOk s 0 ∧ e = .returned (.tuple #[.agg #[.bool false, .slice none 0 0], .bool false]))) := by
  obtain ⟨i5, hi5, hz0, hz1, hz2⟩ := info_parts info5
  obtain ⟨w0, hw0⟩ : ∃ w0, w0 = w.alloc (.cells #[.bool false, .slice none 0 0] 24) := ⟨_, rfl⟩
  have hk0 : Keeps (fun _ => False) w w0 := by rw [hw0]; exact (Keeps.refl _ w).alloc _
  have hr0 : RowAt w0 w.heap.size 24 [.bool false, .slice none 0 0] := by rw [hw0]; exact RowAt.new w 24 [.bool false, .slice none 0 0]
  obtain ⟨p, hp⟩ : ∃ p, p = w.heap.size := ⟨_, rfl⟩
  rw [← hp] at hr0
  have HK0 := hid hk0; have HR0 := hid hr0; have HP := hid hp
  clear hk0 hr0
  go_enter Tryz.func82, Tryz.ntmps82
  go_wp2_with fail
  rw [← hw0, ← hp]
  clear hw0 hp
  go_loopw [4, 5] (fun v iv wr => ∃ m, DgRel w0 s wr v iv m) (fun _ iv _ => (intOf iv + 1).toNat)
  case atStart =>
    refine ⟨s.size, Nat.le_refl _, rfl, fun j h1 h2 => by omega, ?_, Keeps.refl _ _⟩
    rw [Nat.sub_self]
    exact ⟨rfl, .inl ⟨rfl, rfl⟩⟩
  case round =>
    obtain ⟨m, hm, rfl, hok, hown, hkeep⟩ := hrel
    have HOK := hid hok; have HOWN := hid hown; have HKEEP := hid hkeep
    clear hok hown hkeep
    by_cases h0 : m = 0
    · subst h0
      rw [Nat.sub_zero] at HOWN
      obtain ⟨a, c, rfl, hrd, hge⟩ := RdV.of_own HOWN.out
      have HC := hid (signed83_any false a c (rdig s s.size) wr hrd (by rw [rdig_length]; omega))
      have HGE := hid hge
      have HR := hid (HKEEP.out.row HR0.out (fun h => h))
      have HOWN' := hid HOWN.out
      obtain ⟨n, hn⟩ : ∃ n, n = (rdig s s.size).length := ⟨_, rfl⟩
      rw [← hn] at HC ⊢
      clear hrd hge HOWN HOWN' hn
      go_wp2_with fail
      refine HC.out.mono ?_
      rintro e w1 ⟨rfl, h1, h2⟩
      obtain ⟨z0, z1, z2, z3⟩ := RowAt.facts2 (h2.row HR.out (fun h => h))
      have HR1 := hid (h2.row HR.out (fun h => h))
      have H1 := hid (h1.keep h2 (fun _ _ h => h)); have H2 := hid h2
      obtain ⟨m, hm⟩ : ∃ m, m = (trimZ (rdig s s.size)).length := ⟨_, rfl⟩
      rw [← hm]
      have HM := hid hm
      clear h1 h2 hm HC
      go_wp2_with fail
      have h2 := (HR1.out.set 0 (.bool false)).set 1 (.slice a m c)
      have g0 : ((w1.setCell ⟨p, 0, none⟩ (.bool false)).setCell ⟨p, 1, none⟩ (.slice a m c)).cell? ⟨p, 0, none⟩ = some (.bool false) := RowAt.cell h2 0
      have g1 : ((w1.setCell ⟨p, 0, none⟩ (.bool false)).setCell ⟨p, 1, none⟩ (.slice a m c)).cell? ⟨p, 1, none⟩ = some (.slice a m c) := RowAt.cell h2 1
      have hkf : Keeps (fun _ => False) w ((w1.setCell ⟨p, 0, none⟩ (.bool false)).setCell ⟨p, 1, none⟩ (.slice a m c)) := ((((HK0.out.trans HKEEP.out).trans H2.out).setCell _ (.inr (by show w.heap.size ≤ p; rw [HP.out]; omega)) _).setCell _ (.inr (by show w.heap.size ≤ p; rw [HP.out]; omega)) _)
      have hsz0 : p < w0.heap.size := HR0.out.lt
      have hk1 : Keeps (· = p) w1 ((w1.setCell ⟨p, 0, none⟩ (.bool false)).setCell ⟨p, 1, none⟩ (.slice a m c)) := ((Keeps.refl _ w1).own 0 _).own 1 _
      have hrv := H1.out.keep hk1 (fun k hk hkp => by
        subst hkp
        have := HGE.out k hk
        omega)
      have hge2 : ∀ k, InB a k → w.heap.size ≤ k := fun k hk => by
        have h3 := HGE.out k hk
        have h4 := HK0.out.size
        omega
      generalize ((w1.setCell ⟨p, 0, none⟩ (.bool false)).setCell ⟨p, 1, none⟩ (.slice a m c)) = wf at *
      refine bodyPost_ret (v := .tuple #[.agg #[.bool false, .slice a m c], .bool (!s.toList.isEmpty)]) ?_ rfl ⟨hkf, .inl ⟨?_, a, c, by rw [HM.out], hrv, hge2⟩⟩
      · rw [results_cell_tmp Tryz.results82]
        simp [go_sem, g0, g1]
      · intro i _ h2
        exact HOK.out i (Nat.zero_le _) h2
    · obtain ⟨j, rfl⟩ : ∃ j, m = j + 1 := ⟨m - 1, by omega⟩
      have hj : j < s.size := by omega
      have hx255 : (s[j]'hj).toNat < 256 := UInt8.toNat_lt _
      have GD := hid (show (s.data.getD j 0).toNat = (s[j]'hj).toNat from by rw [Array.getD_eq_getD_getElem?, Array.getElem?_eq_getElem hj]; rfl)
      have hjm : ((j + 1 : Nat) : Int) - 1 = (j : Int) := by omega
      have hz := RowAt.facts2 (HKEEP.out.row HR0.out (fun h => h))
      obtain ⟨z0, z1, z2, z3⟩ := hz
      by_cases hlo : (s[j]'hj).toNat < 48
      · go_wp2_with fail
        refine bodyPost_ret (v := .tuple #[.agg #[.bool false, .slice none 0 0], .bool false]) ?_ rfl ?_
        · have h2 := ((HKEEP.out.row HR0.out (fun h => h)).set 0 (.bool false)).set 1 (.slice none 0 0)
          have g0 : ((wr.setCell ⟨p, 0, none⟩ (.bool false)).setCell ⟨p, 1, none⟩ (.slice none 0 0)).cell? ⟨p, 0, none⟩ = some (.bool false) := RowAt.cell h2 0
          have g1 : ((wr.setCell ⟨p, 0, none⟩ (.bool false)).setCell ⟨p, 1, none⟩ (.slice none 0 0)).cell? ⟨p, 1, none⟩ = some (.slice none 0 0) := RowAt.cell h2 1
          generalize ((wr.setCell ⟨p, 0, none⟩ (.bool false)).setCell ⟨p, 1, none⟩ (.slice none 0 0)) = wf at *
          rw [results_cell_tmp Tryz.results82]
          simp [go_sem, g0, g1]
        · refine ⟨((HK0.out.trans HKEEP.out).setCell _ (.inr (by show w.heap.size ≤ p; rw [HP.out]; omega)) _).setCell _ (.inr (by show w.heap.size ≤ p; rw [HP.out]; omega)) _, .inr ⟨fun hh => ?_, rfl⟩⟩
          have := hh j (Nat.zero_le _) hj
          rw [GD.out] at this
          omega
      · by_cases hhi : 57 < (s[j]'hj).toNat
        · go_wp2_with fail
          refine bodyPost_ret (v := .tuple #[.agg #[.bool false, .slice none 0 0], .bool false]) ?_ rfl ?_
          · have h2 := ((HKEEP.out.row HR0.out (fun h => h)).set 0 (.bool false)).set 1 (.slice none 0 0)
            have g0 : ((wr.setCell ⟨p, 0, none⟩ (.bool false)).setCell ⟨p, 1, none⟩ (.slice none 0 0)).cell? ⟨p, 0, none⟩ = some (.bool false) := RowAt.cell h2 0
            have g1 : ((wr.setCell ⟨p, 0, none⟩ (.bool false)).setCell ⟨p, 1, none⟩ (.slice none 0 0)).cell? ⟨p, 1, none⟩ = some (.slice none 0 0) := RowAt.cell h2 1
            generalize ((wr.setCell ⟨p, 0, none⟩ (.bool false)).setCell ⟨p, 1, none⟩ (.slice none 0 0)) = wf at *
            rw [results_cell_tmp Tryz.results82]
            simp [go_sem, g0, g1]
          · refine ⟨((HK0.out.trans HKEEP.out).setCell _ (.inr (by show w.heap.size ≤ p; rw [HP.out]; omega)) _).setCell _ (.inr (by show w.heap.size ≤ p; rw [HP.out]; omega)) _, .inr ⟨fun hh => ?_, rfl⟩⟩
            have := hh j (Nat.zero_le _) hj
            rw [GD.out] at this
            omega
        · go_wp2_with (at_builtin; refine wpList_append_own _ rfl (.tmp 24) (.tmp 29) 22 rfl w0.heap.size 5 i5 (.int .u8 0) 1 1 Tryz.underlying22 hi5 hz0 hz1 hz2 rfl (by decide) _ _ _ rfl (HOWN.out.alloc _) ⟨wr.heap.size, 0, none⟩ 1 1 [.int .u8 (((s[j]'hj).toNat : Int) - 48)] rfl rfl (cell_one_new _ _ _) (by intro u hu; simp at hu; subst hu; rfl) (by unfold maxLen; omega) (by omega) (by have := HKEEP.out.size; simp; omega) ?_; intro v1 w1 hown1 hgrow1 hnil1)
          refine ⟨⟨j, by omega, rfl, ?_, ?_, own_keeps rfl (HKEEP.out.alloc _) (HOWN.out.alloc _) hgrow1⟩, by simp [intOf]⟩
          · intro i h1 h2
            by_cases hij : i = j
            · subst hij
              rw [GD.out]
              omega
            · exact HOK.out i (by omega) h2
          · have e1 : s.size - j = s.size - (j + 1) + 1 := by omega
            have e2 : (rdig s (s.size - j)).map bv = (rdig s (s.size - (j + 1))).map bv ++ [.int .u8 (((s[j]'hj).toNat : Int) - 48)] := by
              rw [e1, rdig, List.map_append, show s.size - 1 - (s.size - (j + 1)) = j from by omega]
              simp only [List.map_cons, List.map_nil, dg, GD.out, bv]
              congr 3
              omega
            rw [e2, e1]
            exact hown1
end Go.Proofs
namespace Go.Proofs
open Go.RowKit
set_option maxHeartbeats 400000
set_option linter.unusedVariables false
set_option linter.unusedSimpArgs false
set_option maxRecDepth 100000

/-- The comparison of digits from the top down. -/
def cmpD (X Y : List Nat) : Nat → Int
  | 0 => 0
  | n + 1 => if X.getD n 0 = Y.getD n 0 then cmpD X Y n else if X.getD n 0 < Y.getD n 0 then -1 else 1

/-- What compare gives. -/
def cmpL (X Y : List Nat) : Int := if X.length = Y.length then cmpD X Y X.length else if X.length < Y.length then -1 else 1

theorem compare85_any (a a' : Option Addr) (c c' : Nat) (X Y : List Nat) (w : World) (hx : RdV w a c X) (hy : RdV w a' c' Y) (hlx : X.length ≤ 4294967296) (hly : Y.length ≤ 4294967296) :
    Calls Tryz.prog 85 #[.slice a X.length c, .slice a' Y.length c'] w fun e w' => e = .returned (.int .i64 (cmpL X Y)) ∧ ∃ k, w' = w.drewN k := by
  have HX := hid hx; have HY := hid hy
  clear hx hy
  obtain ⟨m, hm⟩ : ∃ m, m = X.length := ⟨_, rfl⟩
  obtain ⟨n, hn⟩ : ∃ n, n = Y.length := ⟨_, rfl⟩
  rw [← hm, ← hn]
  rw [← hm] at hlx
  rw [← hn] at hly
  have HM := hid hm; have HN := hid hn
  clear hm hn
  by_cases hmn : m = n
  · subst hmn
    have HC : Hid (cmpL X Y = cmpD X Y m) := hid (by unfold cmpL; rw [← HM.out, ← HN.out, if_pos rfl])
    rw [HC.out]
    go_enter Tryz.func85, Tryz.ntmps85
    go_wp2_with fail
    go_loopw [5] (fun iv wr => ∃ k q, k ≤ m ∧ iv = .int .i64 ((k : Int) - 1) ∧ cmpD X Y m = cmpD X Y k ∧ wr = w.drewN q) (fun iv _ => (intOf iv + 1).toNat)
    case atStart => exact ⟨m, 0, Nat.le_refl _, rfl, rfl, rfl⟩
    case round =>
      obtain ⟨k, q, hk, rfl, hc, hw⟩ := hrel
      have HC2 := hid hc; have HW := hid hw
      clear hc
      by_cases h0 : k = 0
      · subst h0
        clear hw
        go_wp2_with fail
        go_ret
        exact ⟨by rw [HC2.out]; rfl, q, HW.out⟩
      · obtain ⟨j, rfl⟩ : ∃ j, k = j + 1 := ⟨k - 1, by omega⟩
        have hX0 : X ≠ [] := by intro h; rw [h] at HM; have := HM.out; simp at this; omega
        have hY0 : Y ≠ [] := by intro h; rw [h] at HN; have := HN.out; simp at this; omega
        obtain ⟨b, rfl, hcx⟩ : ∃ b, a = some ⟨b, 0, none⟩ ∧ ∀ i, i < X.length → w.cell? ⟨b, i, none⟩ = some (.int .u8 ((X.getD i 0 : Nat) : Int)) := by
          rcases HX.out.2.2 with hh | hh
          · exact absurd hh hX0
          · exact hh
        obtain ⟨b', rfl, hcy⟩ : ∃ b, a' = some ⟨b, 0, none⟩ ∧ ∀ i, i < Y.length → w.cell? ⟨b, i, none⟩ = some (.int .u8 ((Y.getD i 0 : Nat) : Int)) := by
          rcases HY.out.2.2 with hh | hh
          · exact absurd hh hY0
          · exact hh
        have c1 : wr.cell? ⟨b, j, none⟩ = some (.int .u8 ((X.getD j 0 : Nat) : Int)) := by rw [hw]; exact hcx j (by rw [← HM.out]; omega)
        have c2 : wr.cell? ⟨b', j, none⟩ = some (.int .u8 ((Y.getD j 0 : Nat) : Int)) := by rw [hw]; exact hcy j (by rw [← HN.out]; omega)
        obtain ⟨x, hx⟩ : ∃ x, x = X.getD j 0 := ⟨_, rfl⟩
        obtain ⟨y, hy⟩ : ∃ y, y = Y.getD j 0 := ⟨_, rfl⟩
        rw [← hx] at c1
        rw [← hy] at c2
        have HXX := hid hx; have HYY := hid hy
        have hjm : ((j + 1 : Nat) : Int) - 1 = (j : Int) := by omega
        have hcd : cmpD X Y (j + 1) = if x = y then cmpD X Y j else if x < y then -1 else 1 := by rw [cmpD, ← hx, ← hy]
        have HCD := hid hcd
        clear hx hy hcx hcy hX0 hY0 hcd hw
        by_cases hxy : x = y
        · subst hxy
          go_wp2_with fail
          go_quiet (fail)
          go_wp2_with fail
          refine ⟨⟨j, q + nq, by omega, rfl, by rw [HC2.out, HCD.out]; simp, by rw [HW.out, World.drewN_drewN]⟩, by simp [intOf]⟩
        · have t1 : ((x : Int) != (y : Int)) = true := by simp; omega
          by_cases hlt : x < y
          · go_wp2_with fail
            go_quiet (fail)
            go_wp2_with fail
            go_quiet (fail)
            go_wp2_with fail
            go_ret
            refine ⟨by rw [HC2.out, HCD.out, if_neg hxy, if_pos hlt]; rfl, ?_⟩
            rw [HW.out, World.drewN_drewN, World.drewN_drewN]
            exact ⟨_, rfl⟩
          · go_wp2_with fail
            go_quiet (fail)
            go_wp2_with fail
            go_quiet (fail)
            go_wp2_with fail
            go_ret
            refine ⟨by rw [HC2.out, HCD.out, if_neg hxy, if_neg hlt]; rfl, ?_⟩
            rw [HW.out, World.drewN_drewN, World.drewN_drewN]
            exact ⟨_, rfl⟩
  · by_cases hlt : m < n
    · have HC : Hid (cmpL X Y = -1) := hid (by unfold cmpL; rw [← HM.out, ← HN.out, if_neg hmn, if_pos hlt])
      rw [HC.out]
      have t1 : ((m : Int) != (n : Int)) = true := by simp; omega
      have t2 : decide ((m : Int) < (n : Int)) = true := by simp; exact hlt
      go_enter Tryz.func85, Tryz.ntmps85
      go_wp2_with fail
      go_ret
      exact ⟨rfl, 0, rfl⟩
    · have HC : Hid (cmpL X Y = 1) := hid (by unfold cmpL; rw [← HM.out, ← HN.out, if_neg hmn, if_neg hlt])
      rw [HC.out]
      have t1 : ((m : Int) != (n : Int)) = true := by simp; omega
      have t2 : decide ((m : Int) < (n : Int)) = false := by simp; omega
      go_enter Tryz.func85, Tryz.ntmps85
      go_wp2_with fail
      go_ret
      exact ⟨rfl, 0, rfl⟩
end Go.Proofs
namespace Go.Proofs
open Go.RowKit
set_option maxHeartbeats 400000
set_option linter.unusedVariables false
set_option linter.unusedSimpArgs false
set_option maxRecDepth 100000

/-- What Num's Cmp gives. -/
def cmpN (nx ny : Bool) (X Y : List Nat) : Int := if nx && !ny then -1 else if !nx && ny then 1 else if nx then cmpL Y X else cmpL X Y

theorem cmp30_any (nx ny : Bool) (a a' : Option Addr) (c c' : Nat) (X Y : List Nat) (w : World) (hx : RdV w a c X) (hy : RdV w a' c' Y) (hlx : X.length ≤ 4294967296) (hly : Y.length ≤ 4294967296) :
    Calls Tryz.prog 30 #[.agg #[.bool nx, .slice a X.length c], .agg #[.bool ny, .slice a' Y.length c']] w fun e w' => e = .returned (.int .i64 (cmpN nx ny X Y)) ∧ Keeps (fun _ => False) w w' := by
  obtain ⟨W1, e1⟩ : ∃ W, W = w.alloc (.cells #[.bool nx, .slice a X.length c] 24) := ⟨_, rfl⟩
  obtain ⟨W2, e2⟩ : ∃ W, W = W1.alloc (.cells #[.bool ny, .slice a' Y.length c'] 24) := ⟨_, rfl⟩
  have hk : Keeps (fun _ => False) w W2 := by rw [e2, e1]; exact ((Keeps.refl _ w).alloc _).alloc _
  obtain ⟨p, hp⟩ : ∃ p, p = w.heap.size := ⟨_, rfl⟩
  have s1 : W1.heap.size = p + 1 := by rw [e1, hp]; simp
  have r1 : RowAt W2 p 24 [.bool nx, .slice a X.length c] := by
    have h : RowAt W1 p 24 [.bool nx, .slice a X.length c] := by rw [e1, hp]; exact RowAt.new w 24 [.bool nx, .slice a X.length c]
    rw [e2]; exact h.alloc _
  have r2 : RowAt W2 (p + 1) 24 [.bool ny, .slice a' Y.length c'] := by rw [e2, ← s1]; exact RowAt.new W1 24 [.bool ny, .slice a' Y.length c']
  obtain ⟨z0, z1, _, _⟩ := r1.facts2
  obtain ⟨y0, y1, _, _⟩ := r2.facts2
  have HX := hid (hx.keep hk (fun _ _ h => h)); have HY := hid (hy.keep hk (fun _ _ h => h))
  have HXY := hid (compare85_any a a' c c' X Y W2 HX.out HY.out hlx hly)
  have HYX := hid (compare85_any a' a c' c Y X W2 HY.out HX.out hly hlx)
  have HK := hid hk
  clear hx hy r1 r2 hk
  obtain ⟨m, hm⟩ : ∃ m, m = X.length := ⟨_, rfl⟩
  obtain ⟨n, hn⟩ : ∃ n, n = Y.length := ⟨_, rfl⟩
  rw [← hm, ← hn] at HXY HYX
  rw [← hm] at e1 z1
  rw [← hn] at e2 y1
  rw [← hm, ← hn]
  clear hm hn hlx hly
  have E1 := hid e1; have E2 := hid e2
  clear e1 e2 z0 z1 y0 y1 s1 hp
  cases nx <;> cases ny
  · have hv : cmpN false false X Y = cmpL X Y := by unfold cmpN; simp
    rw [hv]
    have HC := HXY
    clear HXY HYX hv
    go_enter Tryz.func30, Tryz.ntmps30
    go_wp2_with fail
    rw [← E1.out, ← E2.out]
    refine HC.out.mono ?_
    rintro e w3 ⟨rfl, hq⟩
    have hq := hid hq
    go_wp2_with fail
    go_ret
    exact ⟨rfl, HK.out.trans (by obtain ⟨k, hk⟩ := hq.out; rw [hk]; exact (Keeps.refl _ W2).drewN k)⟩
  · have hv : cmpN false true X Y = 1 := by unfold cmpN; simp
    rw [hv]
    clear hv
    go_enter Tryz.func30, Tryz.ntmps30
    go_wp2_with fail
    go_ret
    exact ⟨rfl, ((Keeps.refl _ w).alloc _).alloc _⟩
  · have hv : cmpN true false X Y = -1 := by unfold cmpN; simp
    rw [hv]
    clear hv
    go_enter Tryz.func30, Tryz.ntmps30
    go_wp2_with fail
    go_ret
    exact ⟨rfl, ((Keeps.refl _ w).alloc _).alloc _⟩
  · have hv : cmpN true true X Y = cmpL Y X := by unfold cmpN; simp
    rw [hv]
    have HC := HYX
    clear HXY HYX hv
    go_enter Tryz.func30, Tryz.ntmps30
    go_wp2_with fail
    rw [← E1.out, ← E2.out]
    refine HC.out.mono ?_
    rintro e w3 ⟨rfl, hq⟩
    have hq := hid hq
    go_wp2_with fail
    go_ret
    exact ⟨rfl, HK.out.trans (by obtain ⟨k, hk⟩ := hq.out; rw [hk]; exact (Keeps.refl _ W2).drewN k)⟩

theorem abs31_any (nx : Bool) (a : Option Addr) (l c : Nat) (w : World) :
    Calls Tryz.prog 31 #[.agg #[.bool nx, .slice a l c]] w fun e w' => e = .returned (.agg #[.bool false, .slice a l c]) ∧ Keeps (fun _ => False) w w' := by
  go_enter Tryz.func31, Tryz.ntmps31
  go_wp2_with fail
  have hr : RowAt ((w.alloc (.cells #[.bool nx, .slice a l c] 24)).alloc (.cells #[.bool false, .slice a l c] 24)) (w.heap.size + 1) 24 [.bool false, .slice a l c] := by
    have h := RowAt.new (w.alloc (.cells #[.bool nx, .slice a l c] 24)) 24 [.bool false, .slice a l c]
    simpa using h
  have hk : Keeps (fun _ => False) w ((w.alloc (.cells #[.bool nx, .slice a l c] 24)).alloc (.cells #[.bool false, .slice a l c] 24)) := ((Keeps.refl _ w).alloc _).alloc _
  obtain ⟨g0, g1, _, _⟩ := hr.facts2
  generalize ((w.alloc (.cells #[.bool nx, .slice a l c] 24)).alloc (.cells #[.bool false, .slice a l c] 24)) = wf at *
  refine bodyPost_ret (v := .agg #[.bool false, .slice a l c]) ?_ rfl ⟨rfl, hk⟩
  simp [results, Tryz.results31, go_sem, g0, g1]
end Go.Proofs
namespace Go.Proofs
open Go.RowKit
set_option maxHeartbeats 400000
set_option linter.unusedVariables false
set_option linter.unusedSimpArgs false
set_option maxRecDepth 100000

/-- What Read answers of a text whose minus has been cut off. -/
def readOk (neg : Bool) (s : ByteArray) : Prop := DgOk s 0 ∧ s.size ≠ 0 ∧ (s.size ≤ 1 ∨ (s.data.getD 0 0).toNat ≠ 48) ∧ (neg = true → s ≠ ⟨#[48]⟩)

theorem isEmpty_false {s : ByteArray} (h : s.size ≠ 0) : s.toList.isEmpty = false := by
  rw [ByteArray.toList_eq]
  cases hs : s.data.toList with
  | nil => exfalso; apply h; show s.data.size = 0; rw [← Array.length_toList, hs]; rfl
  | cons x xs => rfl

theorem isEmpty_true {s : ByteArray} (h : s.size = 0) : s.toList.isEmpty = true := by
  rw [ByteArray.toList_eq]
  cases hs : s.data.toList with
  | nil => rfl
  | cons x xs => exfalso; have h1 : s.data.toList.length = 0 := by rw [Array.length_toList]; exact h
                 rw [hs] at h1; cases h1

theorem read25_plain (s : ByteArray) (w : World) (hs : s.size ≤ 2147483647) (hneg : ¬ (1 < s.size ∧ (s.data.getD 0 0).toNat = 45)) :
    Calls Tryz.prog 25 #[.string s] w fun e w' => Keeps (fun _ => False) w w' ∧
      ((readOk false s ∧ ∃ a c, e = .returned (.tuple #[.agg #[.bool false, .slice a (trimZ (rdig s s.size)).length c], .bool true]) ∧ RdV w' a c (trimZ (rdig s s.size)) ∧ (∀ k, InB a k → w.heap.size ≤ k)) ∨
       (¬ readOk false s ∧ e = .returned (.tuple #[.agg #[.bool false, .slice none 0 0], .bool false]))) := by
  have gd : ∀ j (hj : j < s.size), (s.data.getD j 0).toNat = (s[j]'hj).toNat := by
    intro j hj
    rw [Array.getD_eq_getD_getElem?, Array.getElem?_eq_getElem hj]; rfl
  by_cases h1 : 1 < s.size
  · have hb : (((s[0]'(by omega)).toNat : Int) == 45) = false := by
      simp only [beq_eq_false_iff_ne, ne_eq]
      intro h
      exact hneg ⟨h1, by rw [gd 0 (by omega)]; omega⟩
    obtain ⟨W1, e1⟩ : ∃ W, W = w.alloc (.cells #[.bool false, .slice none 0 0] 24) := ⟨_, rfl⟩
    have hk1 : Keeps (fun _ => False) w W1 := by rw [e1]; exact (Keeps.refl _ w).alloc _
    have hr1 : RowAt W1 w.heap.size 24 [.bool false, .slice none 0 0] := by rw [e1]; exact RowAt.new w 24 [.bool false, .slice none 0 0]
    have E1 := hid e1; have HK1 := hid hk1; have HR1 := hid hr1
    have HD := hid (digits82_any s W1 hs)
    clear e1 hk1 hr1
    go_enter Tryz.func25, Tryz.ntmps25
    go_wp2_with fail
    rw [← E1.out]
    refine HD.out.mono ?_
    rintro e w2 ⟨hk2, hcase⟩
    rcases hcase with ⟨hok, a, c, rfl, hrv, hge⟩ | ⟨hno, rfl⟩
    · rw [isEmpty_false (show s.size ≠ 0 by omega)]
      have hr2 := hk2.row HR1.out (fun h => h)
      obtain ⟨z0, z1, z2, z3⟩ := hr2.facts2
      have hlt2 : w.heap.size < w2.heap.size := hr2.lt
      have hne2 : w.heap.size ≠ w2.heap.size := by omega
      have hne3 : w2.heap.size ≠ w.heap.size := by omega
      have HK2 := hid hk2; have HR2 := hid hr2; have HRV := hid hrv; have HGE := hid hge
      obtain ⟨m, hm⟩ : ∃ m, m = (trimZ (rdig s s.size)).length := ⟨_, rfl⟩
      rw [← hm]
      have HM := hid hm
      clear hk2 hr2 hrv hge hm
      by_cases h48 : (((s[0]'(by omega)).toNat : Int) == 48) = true
      · go_wp2_with fail
        have hr3 := RowAt.alloc ((HR2.out.set 0 (.bool false)).set 1 (.slice none 0 0)) (.cells #[.bool false, .slice a m c] 24)
        have hk3 : Keeps (fun _ => False) w (((w2.setCell ⟨w.heap.size, 0, none⟩ (.bool false)).setCell ⟨w.heap.size, 1, none⟩ (.slice none 0 0)).alloc (.cells #[.bool false, .slice a m c] 24)) := (((HK1.out.trans HK2.out).setCell _ (.inr (Nat.le_refl _)) _).setCell _ (.inr (Nat.le_refl _)) _).alloc _
        have hrv3 : RdV (((w2.setCell ⟨w.heap.size, 0, none⟩ (.bool false)).setCell ⟨w.heap.size, 1, none⟩ (.slice none 0 0)).alloc (.cells #[.bool false, .slice a m c] 24)) a c (trimZ (rdig s s.size)) := HRV.out.keep (S := fun k => k = w.heap.size) ((((Keeps.refl _ w2).own 0 _).own 1 _).alloc _) (fun k hk hkp => by have h1 := HGE.out k hk; have h2 := HR1.out.lt; omega)
        obtain ⟨g0, g1, _, _⟩ := RowAt.facts2 (u := .bool false) (v := (.slice none 0 0)) hr3
        generalize (((w2.setCell ⟨w.heap.size, 0, none⟩ (.bool false)).setCell ⟨w.heap.size, 1, none⟩ (.slice none 0 0)).alloc (.cells #[.bool false, .slice a m c] 24)) = wf at *
        refine bodyPost_ret (v := .tuple #[.agg #[.bool false, (.slice none 0 0)], .bool false]) ?_ rfl ⟨hk3, .inr ⟨?_, rfl⟩⟩
        · rw [results_cell_tmp Tryz.results25]
          simp [go_sem, g0, g1]
        · rintro ⟨_, _, h3, _⟩
          rcases h3 with h3 | h3
          · omega
          · apply h3
            rw [gd 0 (by omega)]
            have := eq_of_beq h48
            omega
      · have h48' : (((s[0]'(by omega)).toNat : Int) == 48) = false := by simpa using h48
        clear h48
        go_wp2_with fail
        have hr3 := RowAt.alloc ((HR2.out.set 0 (.bool false)).set 1 (.slice a m c)) (.cells #[.bool false, .slice a m c] 24)
        have hk3 : Keeps (fun _ => False) w (((w2.setCell ⟨w.heap.size, 0, none⟩ (.bool false)).setCell ⟨w.heap.size, 1, none⟩ (.slice a m c)).alloc (.cells #[.bool false, .slice a m c] 24)) := (((HK1.out.trans HK2.out).setCell _ (.inr (Nat.le_refl _)) _).setCell _ (.inr (Nat.le_refl _)) _).alloc _
        have hrv3 : RdV (((w2.setCell ⟨w.heap.size, 0, none⟩ (.bool false)).setCell ⟨w.heap.size, 1, none⟩ (.slice a m c)).alloc (.cells #[.bool false, .slice a m c] 24)) a c (trimZ (rdig s s.size)) := HRV.out.keep (S := fun k => k = w.heap.size) ((((Keeps.refl _ w2).own 0 _).own 1 _).alloc _) (fun k hk hkp => by have h1 := HGE.out k hk; have h2 := HR1.out.lt; omega)
        obtain ⟨g0, g1, _, _⟩ := RowAt.facts2 (u := .bool false) (v := (.slice a m c)) hr3
        generalize (((w2.setCell ⟨w.heap.size, 0, none⟩ (.bool false)).setCell ⟨w.heap.size, 1, none⟩ (.slice a m c)).alloc (.cells #[.bool false, .slice a m c] 24)) = wf at *
        refine bodyPost_ret (v := .tuple #[.agg #[.bool false, (.slice a m c)], .bool true]) ?_ rfl ⟨hk3, .inl ⟨⟨hok, by omega, .inr ?_, fun h => by cases h⟩, a, c, by rw [HM.out], hrv3, ?_⟩⟩
        · rw [results_cell_tmp Tryz.results25]
          simp [go_sem, g0, g1]
        · rw [gd 0 (by omega)]
          intro h
          rw [h] at h48'
          cases h48'
        · intro k hk
          have h1 := HGE.out k hk
          have h2 := HK1.out.size
          omega
    · have hr2 := hk2.row HR1.out (fun h => h)
      obtain ⟨z0, z1, z2, z3⟩ := hr2.facts2
      have hlt2 : w.heap.size < w2.heap.size := hr2.lt
      have hne2 : w.heap.size ≠ w2.heap.size := by omega
      have hne3 : w2.heap.size ≠ w.heap.size := by omega
      have HK2 := hid hk2; have HR2 := hid hr2
      clear hk2 hr2
      go_wp2_with fail
      have hr3 := RowAt.alloc ((HR2.out.set 0 (.bool false)).set 1 (.slice none 0 0)) (.cells #[.bool false, .slice none 0 0] 24)
      have hk3 : Keeps (fun _ => False) w (((w2.setCell ⟨w.heap.size, 0, none⟩ (.bool false)).setCell ⟨w.heap.size, 1, none⟩ (.slice none 0 0)).alloc (.cells #[.bool false, .slice none 0 0] 24)) := (((HK1.out.trans HK2.out).setCell _ (.inr (Nat.le_refl _)) _).setCell _ (.inr (Nat.le_refl _)) _).alloc _
      obtain ⟨g0, g1, _, _⟩ := RowAt.facts2 (u := .bool false) (v := .slice none 0 0) hr3
      generalize (((w2.setCell ⟨w.heap.size, 0, none⟩ (.bool false)).setCell ⟨w.heap.size, 1, none⟩ (.slice none 0 0)).alloc (.cells #[.bool false, .slice none 0 0] 24)) = wf at *
      refine bodyPost_ret (v := .tuple #[.agg #[.bool false, .slice none 0 0], .bool false]) ?_ rfl ⟨hk3, .inr ⟨fun h => hno h.1, rfl⟩⟩
      rw [results_cell_tmp Tryz.results25]
      simp [go_sem, g0, g1]
  · obtain ⟨W1, e1⟩ : ∃ W, W = w.alloc (.cells #[.bool false, .slice none 0 0] 24) := ⟨_, rfl⟩
    have hk1 : Keeps (fun _ => False) w W1 := by rw [e1]; exact (Keeps.refl _ w).alloc _
    have hr1 : RowAt W1 w.heap.size 24 [.bool false, .slice none 0 0] := by rw [e1]; exact RowAt.new w 24 [.bool false, .slice none 0 0]
    have E1 := hid e1; have HK1 := hid hk1; have HR1 := hid hr1
    have HD := hid (digits82_any s W1 hs)
    have hd1 : decide ((1 : Int) < (s.size : Int)) = false := by simp; omega
    clear e1 hk1 hr1
    go_enter Tryz.func25, Tryz.ntmps25
    go_wp2_with fail
    rw [← E1.out]
    refine HD.out.mono ?_
    rintro e w2 ⟨hk2, hcase⟩
    rcases hcase with ⟨hok, a, c, rfl, hrv, hge⟩ | ⟨hno, rfl⟩
    · have HK2 := hid hk2; have HRV := hid hrv; have HGE := hid hge
      have hr2 := hk2.row HR1.out (fun h => h)
      obtain ⟨z0, z1, z2, z3⟩ := hr2.facts2
      have hlt2 : w.heap.size < w2.heap.size := hr2.lt
      have hne2 : w.heap.size ≠ w2.heap.size := by omega
      have hne3 : w2.heap.size ≠ w.heap.size := by omega
      have HR2 := hid hr2
      obtain ⟨m, hm⟩ : ∃ m, m = (trimZ (rdig s s.size)).length := ⟨_, rfl⟩
      rw [← hm]
      have HM := hid hm
      clear hk2 hr2 hrv hge hm
      by_cases h0 : s.size = 0
      · rw [isEmpty_true h0]
        go_wp2_with fail
        have hr3 := RowAt.alloc ((HR2.out.set 0 (.bool false)).set 1 (.slice none 0 0)) (.cells #[.bool false, .slice a m c] 24)
        have hk3 : Keeps (fun _ => False) w (((w2.setCell ⟨w.heap.size, 0, none⟩ (.bool false)).setCell ⟨w.heap.size, 1, none⟩ (.slice none 0 0)).alloc (.cells #[.bool false, .slice a m c] 24)) := (((HK1.out.trans HK2.out).setCell _ (.inr (Nat.le_refl _)) _).setCell _ (.inr (Nat.le_refl _)) _).alloc _
        have hrv3 : RdV (((w2.setCell ⟨w.heap.size, 0, none⟩ (.bool false)).setCell ⟨w.heap.size, 1, none⟩ (.slice none 0 0)).alloc (.cells #[.bool false, .slice a m c] 24)) a c (trimZ (rdig s s.size)) := HRV.out.keep (S := fun k => k = w.heap.size) ((((Keeps.refl _ w2).own 0 _).own 1 _).alloc _) (fun k hk hkp => by have h1 := HGE.out k hk; have h2 := HR1.out.lt; omega)
        obtain ⟨g0, g1, _, _⟩ := RowAt.facts2 (u := .bool false) (v := (.slice none 0 0)) hr3
        generalize (((w2.setCell ⟨w.heap.size, 0, none⟩ (.bool false)).setCell ⟨w.heap.size, 1, none⟩ (.slice none 0 0)).alloc (.cells #[.bool false, .slice a m c] 24)) = wf at *
        refine bodyPost_ret (v := .tuple #[.agg #[.bool false, (.slice none 0 0)], .bool false]) ?_ rfl ⟨hk3, .inr ⟨fun h => h.2.1 h0, rfl⟩⟩
        · rw [results_cell_tmp Tryz.results25]
          simp [go_sem, g0, g1]
      · rw [isEmpty_false h0]
        go_wp2_with fail
        have hr3 := RowAt.alloc ((HR2.out.set 0 (.bool false)).set 1 (.slice a m c)) (.cells #[.bool false, .slice a m c] 24)
        have hk3 : Keeps (fun _ => False) w (((w2.setCell ⟨w.heap.size, 0, none⟩ (.bool false)).setCell ⟨w.heap.size, 1, none⟩ (.slice a m c)).alloc (.cells #[.bool false, .slice a m c] 24)) := (((HK1.out.trans HK2.out).setCell _ (.inr (Nat.le_refl _)) _).setCell _ (.inr (Nat.le_refl _)) _).alloc _
        have hrv3 : RdV (((w2.setCell ⟨w.heap.size, 0, none⟩ (.bool false)).setCell ⟨w.heap.size, 1, none⟩ (.slice a m c)).alloc (.cells #[.bool false, .slice a m c] 24)) a c (trimZ (rdig s s.size)) := HRV.out.keep (S := fun k => k = w.heap.size) ((((Keeps.refl _ w2).own 0 _).own 1 _).alloc _) (fun k hk hkp => by have h1 := HGE.out k hk; have h2 := HR1.out.lt; omega)
        obtain ⟨g0, g1, _, _⟩ := RowAt.facts2 (u := .bool false) (v := (.slice a m c)) hr3
        generalize (((w2.setCell ⟨w.heap.size, 0, none⟩ (.bool false)).setCell ⟨w.heap.size, 1, none⟩ (.slice a m c)).alloc (.cells #[.bool false, .slice a m c] 24)) = wf at *
        refine bodyPost_ret (v := .tuple #[.agg #[.bool false, (.slice a m c)], .bool true]) ?_ rfl ⟨hk3, .inl ⟨⟨hok, h0, .inl (by omega), fun h => by cases h⟩, a, c, by rw [HM.out], hrv3, ?_⟩⟩
        · rw [results_cell_tmp Tryz.results25]
          simp [go_sem, g0, g1]
        · intro k hk
          have h1 := HGE.out k hk
          have h2 := HK1.out.size
          omega
    · have HK2 := hid hk2
      have hr2 := hk2.row HR1.out (fun h => h)
      obtain ⟨z0, z1, z2, z3⟩ := hr2.facts2
      have hlt2 : w.heap.size < w2.heap.size := hr2.lt
      have hne2 : w.heap.size ≠ w2.heap.size := by omega
      have hne3 : w2.heap.size ≠ w.heap.size := by omega
      have HR2 := hid hr2
      clear hk2 hr2
      go_wp2_with fail
      have hr3 := RowAt.alloc ((HR2.out.set 0 (.bool false)).set 1 (.slice none 0 0)) (.cells #[.bool false, .slice none 0 0] 24)
      have hk3 : Keeps (fun _ => False) w (((w2.setCell ⟨w.heap.size, 0, none⟩ (.bool false)).setCell ⟨w.heap.size, 1, none⟩ (.slice none 0 0)).alloc (.cells #[.bool false, .slice none 0 0] 24)) := (((HK1.out.trans HK2.out).setCell _ (.inr (Nat.le_refl _)) _).setCell _ (.inr (Nat.le_refl _)) _).alloc _
      obtain ⟨g0, g1, _, _⟩ := RowAt.facts2 (u := .bool false) (v := (.slice none 0 0)) hr3
      generalize (((w2.setCell ⟨w.heap.size, 0, none⟩ (.bool false)).setCell ⟨w.heap.size, 1, none⟩ (.slice none 0 0)).alloc (.cells #[.bool false, .slice none 0 0] 24)) = wf at *
      refine bodyPost_ret (v := .tuple #[.agg #[.bool false, (.slice none 0 0)], .bool false]) ?_ rfl ⟨hk3, .inr ⟨fun h => hno h.1, rfl⟩⟩
      · rw [results_cell_tmp Tryz.results25]
        simp [go_sem, g0, g1]
end Go.Proofs
namespace Go.Proofs
open Go.RowKit
set_option maxHeartbeats 400000
set_option linter.unusedVariables false
set_option linter.unusedSimpArgs false
set_option maxRecDepth 100000

theorem toList_48 {r : ByteArray} (h : (r.toList == [48]) = true) : r = ⟨#[48]⟩ := by
  have h1 := eq_of_beq h
  rw [ByteArray.toList_eq] at h1
  cases r with
  | mk d =>
    have h2 : d = #[48] := by
      apply Array.ext'
      exact h1
    rw [h2]
theorem toList_48' {r : ByteArray} (h : (r.toList == [48]) = false) : r ≠ ⟨#[48]⟩ := by
  rintro rfl
  rw [ByteArray.toList_eq] at h
  cases h

theorem read25_minus (s : ByteArray) (w : World) (hs : s.size ≤ 2147483647) (h1 : 1 < s.size) (h45 : (s.data.getD 0 0).toNat = 45) (r : ByteArray) (hr : r = s.extract 1 s.size) :
    Calls Tryz.prog 25 #[.string s] w fun e w' => Keeps (fun _ => False) w w' ∧
      ((readOk true r ∧ ∃ a c, e = .returned (.tuple #[.agg #[.bool true, .slice a (trimZ (rdig r r.size)).length c], .bool true]) ∧ RdV w' a c (trimZ (rdig r r.size)) ∧ (∀ k, InB a k → w.heap.size ≤ k)) ∨
       (¬ readOk true r ∧ e = .returned (.tuple #[.agg #[.bool false, .slice none 0 0], .bool false]))) := by
  have gd : ∀ j (hj : j < s.size), (s.data.getD j 0).toNat = (s[j]'hj).toNat := by
    intro j hj
    rw [Array.getD_eq_getD_getElem?, Array.getElem?_eq_getElem hj]; rfl
  have hb : (((s[0]'(by omega)).toNat : Int) == 45) = true := by
    rw [← gd 0 (by omega), h45]; rfl
  have hrs : r.size = s.size - 1 := by rw [hr, ByteArray.size_extract]; omega
  obtain ⟨W1, e1⟩ : ∃ W, W = w.alloc (.cells #[.bool false, .slice none 0 0] 24) := ⟨_, rfl⟩
  have hk1 : Keeps (fun _ => False) w W1 := by rw [e1]; exact (Keeps.refl _ w).alloc _
  have hr1 : RowAt W1 w.heap.size 24 [.bool false, .slice none 0 0] := by rw [e1]; exact RowAt.new w 24 [.bool false, .slice none 0 0]
  have E1 := hid e1; have HK1 := hid hk1; have HR1 := hid hr1
  have HD := hid (digits82_any r W1 (by omega))
  have HRr := hid hr
  clear e1 hk1 hr1 hr
  go_enter Tryz.func25, Tryz.ntmps25
  go_wp2_with fail
  rw [← E1.out, ← HRr.out]
  refine HD.out.mono ?_
  rintro e w2 ⟨hk2, hcase⟩
  rcases hcase with ⟨hok, a, c, rfl, hrv, hge⟩ | ⟨hno, rfl⟩
  · rw [isEmpty_false (show r.size ≠ 0 by omega)]
    have hr2 := hk2.row HR1.out (fun h => h)
    obtain ⟨z0, z1, z2, z3⟩ := hr2.facts2
    have hlt2 : w.heap.size < w2.heap.size := hr2.lt
    have hne2 : w.heap.size ≠ w2.heap.size := by omega
    have hne3 : w2.heap.size ≠ w.heap.size := by omega
    have HK2 := hid hk2; have HR2 := hid hr2; have HRV := hid hrv; have HGE := hid hge
    obtain ⟨m, hm⟩ : ∃ m, m = (trimZ (rdig r r.size)).length := ⟨_, rfl⟩
    rw [← hm]
    have HM := hid hm
    clear hk2 hr2 hrv hge hm
    have gdr : ∀ j (hj : j < r.size), (r.data.getD j 0).toNat = (r[j]'hj).toNat := by
      intro j hj
      rw [Array.getD_eq_getD_getElem?, Array.getElem?_eq_getElem hj]; rfl
    cases hq : (r.toList == [48]) with
    | true =>
      have hr0 := toList_48 hq
      have hr1 : ¬ 1 < r.size := by rw [hr0]; decide
      have hd1 : decide ((1 : Int) < (r.size : Int)) = false := by simp; omega
      have HQ := hid hr0
      clear hr0
      go_wp2_with fail
      have hr3 := RowAt.alloc ((HR2.out.set 0 (.bool false)).set 1 (.slice none 0 0)) (.cells #[.bool false, .slice a m c] 24)
      have hk3 : Keeps (fun _ => False) w (((w2.setCell ⟨w.heap.size, 0, none⟩ (.bool false)).setCell ⟨w.heap.size, 1, none⟩ (.slice none 0 0)).alloc (.cells #[.bool false, .slice a m c] 24)) := (((HK1.out.trans HK2.out).setCell _ (.inr (Nat.le_refl _)) _).setCell _ (.inr (Nat.le_refl _)) _).alloc _
      have hrv3 : RdV (((w2.setCell ⟨w.heap.size, 0, none⟩ (.bool false)).setCell ⟨w.heap.size, 1, none⟩ (.slice none 0 0)).alloc (.cells #[.bool false, .slice a m c] 24)) a c (trimZ (rdig r r.size)) := HRV.out.keep (S := fun k => k = w.heap.size) ((((Keeps.refl _ w2).own 0 _).own 1 _).alloc _) (fun k hk hkp => by have h1 := HGE.out k hk; have h2 := HR1.out.lt; omega)
      obtain ⟨g0, g1, _, _⟩ := RowAt.facts2 (u := .bool false) (v := (.slice none 0 0)) hr3
      generalize (((w2.setCell ⟨w.heap.size, 0, none⟩ (.bool false)).setCell ⟨w.heap.size, 1, none⟩ (.slice none 0 0)).alloc (.cells #[.bool false, .slice a m c] 24)) = wf at *
      refine bodyPost_ret (v := .tuple #[.agg #[.bool false, (.slice none 0 0)], .bool false]) ?_ rfl ⟨hk3, .inr ⟨fun h => h.2.2.2 rfl HQ.out, rfl⟩⟩
      · rw [results_cell_tmp Tryz.results25]
        simp [go_sem, g0, g1]
    | false =>
      have hr0 := hid (toList_48' hq)
      by_cases hr1 : 1 < r.size
      · by_cases h48 : (((r[0]'(by omega)).toNat : Int) == 48) = true
        · go_wp2_with fail
          have hr3 := RowAt.alloc ((HR2.out.set 0 (.bool false)).set 1 (.slice none 0 0)) (.cells #[.bool false, .slice a m c] 24)
          have hk3 : Keeps (fun _ => False) w (((w2.setCell ⟨w.heap.size, 0, none⟩ (.bool false)).setCell ⟨w.heap.size, 1, none⟩ (.slice none 0 0)).alloc (.cells #[.bool false, .slice a m c] 24)) := (((HK1.out.trans HK2.out).setCell _ (.inr (Nat.le_refl _)) _).setCell _ (.inr (Nat.le_refl _)) _).alloc _
          have hrv3 : RdV (((w2.setCell ⟨w.heap.size, 0, none⟩ (.bool false)).setCell ⟨w.heap.size, 1, none⟩ (.slice none 0 0)).alloc (.cells #[.bool false, .slice a m c] 24)) a c (trimZ (rdig r r.size)) := HRV.out.keep (S := fun k => k = w.heap.size) ((((Keeps.refl _ w2).own 0 _).own 1 _).alloc _) (fun k hk hkp => by have h1 := HGE.out k hk; have h2 := HR1.out.lt; omega)
          obtain ⟨g0, g1, _, _⟩ := RowAt.facts2 (u := .bool false) (v := (.slice none 0 0)) hr3
          generalize (((w2.setCell ⟨w.heap.size, 0, none⟩ (.bool false)).setCell ⟨w.heap.size, 1, none⟩ (.slice none 0 0)).alloc (.cells #[.bool false, .slice a m c] 24)) = wf at *
          refine bodyPost_ret (v := .tuple #[.agg #[.bool false, (.slice none 0 0)], .bool false]) ?_ rfl ⟨hk3, .inr ⟨?_, rfl⟩⟩
          · rw [results_cell_tmp Tryz.results25]
            simp [go_sem, g0, g1]
          · rintro ⟨_, _, h3, _⟩
            rcases h3 with h3 | h3
            · omega
            · apply h3
              rw [gdr 0 (by omega)]
              have := eq_of_beq h48
              omega
        · have h48' : (((r[0]'(by omega)).toNat : Int) == 48) = false := by simpa using h48
          clear h48
          go_wp2_with fail
          have hr3 := RowAt.alloc ((HR2.out.set 0 (.bool true)).set 1 (.slice a m c)) (.cells #[.bool true, .slice a m c] 24)
          have hk3 : Keeps (fun _ => False) w (((w2.setCell ⟨w.heap.size, 0, none⟩ (.bool true)).setCell ⟨w.heap.size, 1, none⟩ (.slice a m c)).alloc (.cells #[.bool true, .slice a m c] 24)) := (((HK1.out.trans HK2.out).setCell _ (.inr (Nat.le_refl _)) _).setCell _ (.inr (Nat.le_refl _)) _).alloc _
          have hrv3 : RdV (((w2.setCell ⟨w.heap.size, 0, none⟩ (.bool true)).setCell ⟨w.heap.size, 1, none⟩ (.slice a m c)).alloc (.cells #[.bool true, .slice a m c] 24)) a c (trimZ (rdig r r.size)) := HRV.out.keep (S := fun k => k = w.heap.size) ((((Keeps.refl _ w2).own 0 _).own 1 _).alloc _) (fun k hk hkp => by have h1 := HGE.out k hk; have h2 := HR1.out.lt; omega)
          obtain ⟨g0, g1, _, _⟩ := RowAt.facts2 (u := .bool true) (v := (.slice a m c)) hr3
          generalize (((w2.setCell ⟨w.heap.size, 0, none⟩ (.bool true)).setCell ⟨w.heap.size, 1, none⟩ (.slice a m c)).alloc (.cells #[.bool true, .slice a m c] 24)) = wf at *
          refine bodyPost_ret (v := .tuple #[.agg #[.bool true, (.slice a m c)], .bool true]) ?_ rfl ⟨hk3, .inl ⟨⟨hok, by omega, .inr ?_, fun _ => hr0.out⟩, a, c, by first | (rw [HM.out]; done) | (rw [← hrs, HM.out]), by first | exact hrv3 | (rw [← hrs]; exact hrv3), ?_⟩⟩
          · rw [results_cell_tmp Tryz.results25]
            simp [go_sem, g0, g1]
          · rw [gdr 0 (by omega)]
            intro h
            rw [h] at h48'
            cases h48'
          · intro k hk
            have h1 := HGE.out k hk
            have h2 := HK1.out.size
            omega
      · go_wp2_with fail
        have hr3 := RowAt.alloc ((HR2.out.set 0 (.bool true)).set 1 (.slice a m c)) (.cells #[.bool true, .slice a m c] 24)
        have hk3 : Keeps (fun _ => False) w (((w2.setCell ⟨w.heap.size, 0, none⟩ (.bool true)).setCell ⟨w.heap.size, 1, none⟩ (.slice a m c)).alloc (.cells #[.bool true, .slice a m c] 24)) := (((HK1.out.trans HK2.out).setCell _ (.inr (Nat.le_refl _)) _).setCell _ (.inr (Nat.le_refl _)) _).alloc _
        have hrv3 : RdV (((w2.setCell ⟨w.heap.size, 0, none⟩ (.bool true)).setCell ⟨w.heap.size, 1, none⟩ (.slice a m c)).alloc (.cells #[.bool true, .slice a m c] 24)) a c (trimZ (rdig r r.size)) := HRV.out.keep (S := fun k => k = w.heap.size) ((((Keeps.refl _ w2).own 0 _).own 1 _).alloc _) (fun k hk hkp => by have h1 := HGE.out k hk; have h2 := HR1.out.lt; omega)
        obtain ⟨g0, g1, _, _⟩ := RowAt.facts2 (u := .bool true) (v := (.slice a m c)) hr3
        generalize (((w2.setCell ⟨w.heap.size, 0, none⟩ (.bool true)).setCell ⟨w.heap.size, 1, none⟩ (.slice a m c)).alloc (.cells #[.bool true, .slice a m c] 24)) = wf at *
        refine bodyPost_ret (v := .tuple #[.agg #[.bool true, (.slice a m c)], .bool true]) ?_ rfl ⟨hk3, .inl ⟨⟨hok, by omega, .inl (by omega), fun _ => hr0.out⟩, a, c, by first | (rw [HM.out]; done) | (rw [← hrs, HM.out]), by first | exact hrv3 | (rw [← hrs]; exact hrv3), ?_⟩⟩
        · rw [results_cell_tmp Tryz.results25]
          simp [go_sem, g0, g1]
        · intro k hk
          have h1 := HGE.out k hk
          have h2 := HK1.out.size
          omega
  · have HK2 := hid hk2
    have hr2 := hk2.row HR1.out (fun h => h)
    obtain ⟨z0, z1, z2, z3⟩ := hr2.facts2
    have hlt2 : w.heap.size < w2.heap.size := hr2.lt
    have hne2 : w.heap.size ≠ w2.heap.size := by omega
    have hne3 : w2.heap.size ≠ w.heap.size := by omega
    have HR2 := hid hr2
    clear hk2 hr2
    go_wp2_with fail
    have hr3 := RowAt.alloc ((HR2.out.set 0 (.bool false)).set 1 (.slice none 0 0)) (.cells #[.bool false, .slice none 0 0] 24)
    have hk3 : Keeps (fun _ => False) w (((w2.setCell ⟨w.heap.size, 0, none⟩ (.bool false)).setCell ⟨w.heap.size, 1, none⟩ (.slice none 0 0)).alloc (.cells #[.bool false, .slice none 0 0] 24)) := (((HK1.out.trans HK2.out).setCell _ (.inr (Nat.le_refl _)) _).setCell _ (.inr (Nat.le_refl _)) _).alloc _
    obtain ⟨g0, g1, _, _⟩ := RowAt.facts2 (u := .bool false) (v := .slice none 0 0) hr3
    generalize (((w2.setCell ⟨w.heap.size, 0, none⟩ (.bool false)).setCell ⟨w.heap.size, 1, none⟩ (.slice none 0 0)).alloc (.cells #[.bool false, .slice none 0 0] 24)) = wf at *
    refine bodyPost_ret (v := .tuple #[.agg #[.bool false, .slice none 0 0], .bool false]) ?_ rfl ⟨hk3, .inr ⟨fun h => hno h.1, rfl⟩⟩
    rw [results_cell_tmp Tryz.results25]
    simp [go_sem, g0, g1]
end Go.Proofs
namespace Go.Proofs
open Go.RowKit
set_option maxHeartbeats 400000
set_option linter.unusedVariables false
set_option linter.unusedSimpArgs false
set_option maxRecDepth 100000

/-- Does a minus lead? -/
def ledBy (s : ByteArray) : Bool := decide (1 < s.size ∧ (s.data.getD 0 0).toNat = 45)
/-- The text behind the minus. -/
def restOf (s : ByteArray) : ByteArray := if ledBy s then s.extract 1 s.size else s

theorem read25_any (s : ByteArray) (w : World) (hs : s.size ≤ 2147483647) :
    Calls Tryz.prog 25 #[.string s] w fun e w' => Keeps (fun _ => False) w w' ∧
      ((readOk (ledBy s) (restOf s) ∧ ∃ a c, e = .returned (.tuple #[.agg #[.bool (ledBy s), .slice a (trimZ (rdig (restOf s) (restOf s).size)).length c], .bool true]) ∧ RdV w' a c (trimZ (rdig (restOf s) (restOf s).size)) ∧ (∀ k, InB a k → w.heap.size ≤ k)) ∨
       (¬ readOk (ledBy s) (restOf s) ∧ e = .returned (.tuple #[.agg #[.bool false, .slice none 0 0], .bool false]))) := by
  by_cases h : 1 < s.size ∧ (s.data.getD 0 0).toNat = 45
  · have h1 : ledBy s = true := decide_eq_true h
    have h2 : restOf s = s.extract 1 s.size := by unfold restOf; rw [h1]; rfl
    rw [h1]
    exact read25_minus s w hs h.1 h.2 _ h2
  · have h1 : ledBy s = false := decide_eq_false h
    have h2 : restOf s = s := by unfold restOf; rw [h1]; rfl
    rw [h1, h2]
    exact read25_plain s w hs h
end Go.Proofs
namespace Go.Proofs
open Go.RowKit
set_option maxHeartbeats 400000
set_option linter.unusedVariables false
set_option linter.unusedSimpArgs false
set_option maxRecDepth 100000

/-- What BigRight answers: the number, and whether it is one of at most 200 digits. -/
theorem bigRight18 (s : ByteArray) (w : World) (hs : s.size ≤ 2147483647) :
    Calls Tryz.prog 18 #[.string s] w fun e w' => Keeps (fun _ => False) w w' ∧
      ((readOk (ledBy s) (restOf s) ∧ ∃ a c, e = .returned (.tuple #[.agg #[.bool (ledBy s), .slice a (trimZ (rdig (restOf s) (restOf s).size)).length c], .bool (decide (s.size ≤ 200))]) ∧ RdV w' a c (trimZ (rdig (restOf s) (restOf s).size)) ∧ (∀ k, InB a k → w.heap.size ≤ k)) ∨
       (¬ readOk (ledBy s) (restOf s) ∧ e = .returned (.tuple #[.agg #[.bool false, .slice none 0 0], .bool false]))) := by
  obtain ⟨W1, e1⟩ : ∃ W, W = w.alloc (.cells #[.bool false, .slice none 0 0] 24) := ⟨_, rfl⟩
  have hk1 : Keeps (fun _ => False) w W1 := by rw [e1]; exact (Keeps.refl _ w).alloc _
  have hr1 : RowAt W1 w.heap.size 24 [.bool false, .slice none 0 0] := by rw [e1]; exact RowAt.new w 24 [.bool false, .slice none 0 0]
  have E1 := hid e1; have HK1 := hid hk1; have HR1 := hid hr1
  have HD := hid (read25_any s W1 hs)
  have HS := hid hs
  clear e1 hk1 hr1 hs
  go_enter Tryz.func18, Tryz.ntmps18
  go_wp2_with fail
  rw [← E1.out]
  refine HD.out.mono ?_
  rintro e w2 ⟨hk2, hcase⟩
  rcases hcase with ⟨hok, a, c, rfl, hrv, hge⟩ | ⟨hno, rfl⟩
  · have hr2 := hk2.row HR1.out (fun h => h)
    obtain ⟨z0, z1, z2, z3⟩ := hr2.facts2
    have hlt2 : w.heap.size < w2.heap.size := hr2.lt
    have hne2 : w.heap.size ≠ w2.heap.size := by omega
    have hne3 : w2.heap.size ≠ w.heap.size := by omega
    have HK2 := hid hk2; have HR2 := hid hr2; have HRV := hid hrv; have HGE := hid hge
    obtain ⟨m, hm⟩ : ∃ m, m = (trimZ (rdig (restOf s) (restOf s).size)).length := ⟨_, rfl⟩
    rw [← hm]
    have HM := hid hm
    obtain ⟨n, hn⟩ : ∃ n, n = ledBy s := ⟨_, rfl⟩
    rw [← hn]
    have HN := hid hn
    clear hk2 hr2 hrv hge hm hn
    go_wp2_with fail
    have hr3 := RowAt.alloc ((HR2.out.set 0 (.bool n)).set 1 (.slice a m c)) (.cells #[.bool n, .slice a m c] 24)
    have hk3 : Keeps (fun _ => False) w (((w2.setCell ⟨w.heap.size, 0, none⟩ (.bool n)).setCell ⟨w.heap.size, 1, none⟩ (.slice a m c)).alloc (.cells #[.bool n, .slice a m c] 24)) := (((HK1.out.trans HK2.out).setCell _ (.inr (Nat.le_refl _)) _).setCell _ (.inr (Nat.le_refl _)) _).alloc _
    have hrv3 : RdV (((w2.setCell ⟨w.heap.size, 0, none⟩ (.bool n)).setCell ⟨w.heap.size, 1, none⟩ (.slice a m c)).alloc (.cells #[.bool n, .slice a m c] 24)) a c (trimZ (rdig (restOf s) (restOf s).size)) := HRV.out.keep (S := fun k => k = w.heap.size) ((((Keeps.refl _ w2).own 0 _).own 1 _).alloc _) (fun k hk hkp => by have h1 := HGE.out k hk; have h2 := HR1.out.lt; omega)
    obtain ⟨g0, g1, _, _⟩ := RowAt.facts2 (u := .bool n) (v := (.slice a m c)) hr3
    generalize (((w2.setCell ⟨w.heap.size, 0, none⟩ (.bool n)).setCell ⟨w.heap.size, 1, none⟩ (.slice a m c)).alloc (.cells #[.bool n, .slice a m c] 24)) = wf at *
    refine bodyPost_ret (v := .tuple #[.agg #[.bool n, (.slice a m c)], .bool (decide (s.size ≤ 200))]) ?_ rfl ⟨hk3, .inl ⟨hok, a, c, by rw [HM.out, HN.out], hrv3, ?_⟩⟩
    · rw [results_cell_tmp Tryz.results18]
      simp [go_sem, g0, g1]
      omega
    · intro k hk
      have h1 := HGE.out k hk
      have h2 := HK1.out.size
      omega
  · have hr2 := hk2.row HR1.out (fun h => h)
    obtain ⟨z0, z1, z2, z3⟩ := hr2.facts2
    have hlt2 : w.heap.size < w2.heap.size := hr2.lt
    have hne2 : w.heap.size ≠ w2.heap.size := by omega
    have hne3 : w2.heap.size ≠ w.heap.size := by omega
    have HK2 := hid hk2; have HR2 := hid hr2
    clear hk2 hr2
    go_wp2_with fail
    have hr3 := RowAt.alloc ((HR2.out.set 0 (.bool false)).set 1 (.slice none 0 0)) (.cells #[.bool false, .slice none 0 0] 24)
    have hk3 : Keeps (fun _ => False) w (((w2.setCell ⟨w.heap.size, 0, none⟩ (.bool false)).setCell ⟨w.heap.size, 1, none⟩ (.slice none 0 0)).alloc (.cells #[.bool false, .slice none 0 0] 24)) := (((HK1.out.trans HK2.out).setCell _ (.inr (Nat.le_refl _)) _).setCell _ (.inr (Nat.le_refl _)) _).alloc _
    obtain ⟨g0, g1, _, _⟩ := RowAt.facts2 (u := .bool false) (v := .slice none 0 0) hr3
    generalize (((w2.setCell ⟨w.heap.size, 0, none⟩ (.bool false)).setCell ⟨w.heap.size, 1, none⟩ (.slice none 0 0)).alloc (.cells #[.bool false, .slice none 0 0] 24)) = wf at *
    refine bodyPost_ret (v := .tuple #[.agg #[.bool false, .slice none 0 0], .bool false]) ?_ rfl ⟨hk3, .inr ⟨hno, rfl⟩⟩
    rw [results_cell_tmp Tryz.results18]
    simp [go_sem, g0, g1]
end Go.Proofs
namespace Go.Proofs
open Go.RowKit
set_option maxHeartbeats 400000
set_option linter.unusedVariables false
set_option linter.unusedSimpArgs false
set_option maxRecDepth 100000

theorem cmpD_ten {X Y : List Nat} (hX : Dig X) (hY : Dig Y) : ∀ n, n ≤ X.length → n ≤ Y.length → cmpD X Y n = cmpI (ten (X.take n)) (ten (Y.take n))
  | 0, _, _ => by simp [cmpD, cmpI]
  | n + 1, h1, h2 => by
    have ih := cmpD_ten hX hY n (by omega) (by omega)
    have e1 : ∀ L : List Nat, n + 1 ≤ L.length → ten (L.take (n + 1)) = ten (L.take n) + 10 ^ n * L.getD n 0 := by
      intro L hL
      rw [List.take_succ_eq_append_getElem (by omega), ten_snoc, List.length_take, Nat.min_eq_left (by omega)]
      simp [List.getElem?_eq_getElem (show n < L.length by omega)]
    have l1 := ten_lt (hX.take n)
    have l2 := ten_lt (hY.take n)
    rw [List.length_take, Nat.min_eq_left (by omega)] at l1 l2
    rw [cmpD, e1 X h1, e1 Y h2, ih]
    generalize X.getD n 0 = x at *
    generalize Y.getD n 0 = y at *
    generalize ten (X.take n) = a at *
    generalize ten (Y.take n) = b at *
    generalize 10 ^ n = p at *
    by_cases hxy : x = y
    · subst hxy
      rw [if_pos rfl]
      unfold cmpI
      generalize p * x = q
      (repeat' split) <;> first | rfl | omega
    · rw [if_neg hxy]
      unfold cmpI
      by_cases h : x < y
      · rw [if_pos h, if_pos]
        have : p * (x + 1) ≤ p * y := Nat.mul_le_mul_left _ h
        rw [Nat.mul_add] at this
        omega
      · have : p * (y + 1) ≤ p * x := Nat.mul_le_mul_left _ (by omega)
        rw [Nat.mul_add] at this
        rw [if_neg h, if_neg (by omega), if_pos (by omega)]
theorem cmpL_digs (m n : Nat) : cmpL (digs m) (digs n) = cmpI m n := by
  unfold cmpL
  by_cases h : (digs m).length = (digs n).length
  · rw [if_pos h, cmpD_ten (dig_digs m) (dig_digs n) _ (Nat.le_refl _) (by omega), List.take_length, h, List.take_length, ten_digs, ten_digs]
  · rw [if_neg h]
    unfold cmpI
    by_cases h' : (digs m).length < (digs n).length
    · rw [if_pos h', if_pos (digs_len_lt h')]
    · have := digs_len_lt (show (digs n).length < (digs m).length by omega)
      rw [if_neg h', if_neg (by omega), if_pos this]
theorem cmpN_z (x y : Int) : cmpN (decide (x < 0)) (decide (y < 0)) (digs x.natAbs) (digs y.natAbs) = cmpZ x y := by
  unfold cmpN
  rw [cmpL_digs, cmpL_digs]
  unfold cmpI cmpZ
  by_cases hx : x < 0 <;> by_cases hy : y < 0 <;> simp [hx, hy]
  all_goals (repeat' split) <;> first | rfl | omega
/-- The digits of a text as a list, the lowest one first. -/
theorem rdig_eq (s : ByteArray) (t : Nat) : rdig s t = (List.range t).map fun j => dg s (s.size - 1 - j) := by
  induction t with
  | zero => rfl
  | succ t ih => rw [rdig, ih, List.range_succ, List.map_append]; rfl
theorem dval_ten (d : Nat → Nat) (n : Nat) : dval d n = ten ((List.range n).map fun j => d (n - 1 - j)) := by
  have key : ∀ n, dval d n = ten ((List.range n).map d).reverse := by
    intro n
    induction n with
    | zero => rfl
    | succ n ih =>
      rw [dval, ih, List.range_succ, List.map_append, List.reverse_append]
      simp only [List.map_cons, List.map_nil, List.reverse_cons, List.reverse_nil, List.nil_append, List.singleton_append, ten_cons]
      omega
  rw [key]
  congr 1
  apply List.ext_getElem
  · simp
  · intro i h1 h2
    simp

theorem dg_lt {s : ByteArray} (h : DgOk s 0) (hs : s.size ≠ 0) (j : Nat) : j < s.size → dg s j < 10 := by
  intro hj
  have := h j (Nat.zero_le _) hj
  unfold dg
  omega
theorem rdig_dig {s : ByteArray} (h : DgOk s 0) (t : Nat) (ht : t ≤ s.size) : Dig (rdig s t) := by
  rw [rdig_eq]
  intro x hx
  obtain ⟨j, hj, rfl⟩ := List.mem_map.1 hx
  have := List.mem_range.1 hj
  exact dg_lt h (by omega) _ (by omega)

theorem size_extract1 (s : ByteArray) : (s.extract 1 s.size).size = s.size - 1 := by
  simp [ByteArray.size_extract]
theorem getD_extract1 (s : ByteArray) (j : Nat) : (s.extract 1 s.size).data.getD j 0 = s.data.getD (1 + j) 0 := by
  rw [ByteArray.data_extract]
  have hs : s.size = s.data.size := rfl
  rw [Array.getD_eq_getD_getElem?, Array.getD_eq_getD_getElem?]
  by_cases h : 1 + j < s.data.size
  · rw [Array.getElem?_extract_of_lt (by omega), Array.getElem?_eq_getElem h]
  · rw [Array.getElem?_eq_none (by simp; omega), Array.getElem?_eq_none (by omega)]

/-- The number of a text that Read takes. -/
theorem right_num {s : ByteArray} (hs : s.size ≤ 200) (h : readOk (ledBy s) (restOf s)) :
    NumText s (ledBy s) (restOf s).size (dg (restOf s)) ∧ trimZ (rdig (restOf s) (restOf s).size) = digs (dval (dg (restOf s)) (restOf s).size) ∧
      (ledBy s = true → dval (dg (restOf s)) (restOf s).size ≠ 0) := by
  have gd : ∀ (s : ByteArray) i (hi : i < s.size), s.data.getD i 0 = s[i]'hi := by
    intro s i hi
    rw [Array.getD_eq_getD_getElem?, Array.getElem?_eq_getElem hi]
    rfl
  obtain ⟨h1, h2, h3, h4⟩ := h
  have hd : ∀ j, j < (restOf s).size → dg (restOf s) j < 10 := fun j hj => dg_lt h1 h2 j hj
  have hrd := rdig_dig h1 (restOf s).size (Nat.le_refl _)
  have htr : trimZ (rdig (restOf s) (restOf s).size) = digs (dval (dg (restOf s)) (restOf s).size) := by
    rw [trimZ_eq_digs hrd, dval_ten, rdig_eq]
  refine ⟨?_, htr, ?_⟩
  · cases hl : ledBy s with
    | false =>
      have hr : restOf s = s := by unfold restOf; rw [hl]; rfl
      rw [hr] at h1 h2 hd ⊢
      refine ⟨hs, by omega, ⟨by simp, fun k hk => ⟨hd k hk, by simp; omega, ?_⟩⟩, fun h => by cases h⟩
      have := h1 k (Nat.zero_le _) hk
      rw [gd s k hk] at this
      unfold dg
      rw [gd s k hk]
      simp only [Bool.false_eq_true, if_false, Nat.zero_add]
      omega
    | true =>
      have hl' := hl
      unfold ledBy at hl'
      obtain ⟨hl1, hl2⟩ := of_decide_eq_true hl'
      have hr : restOf s = s.extract 1 s.size := by unfold restOf; rw [hl]; rfl
      rw [hr] at h1 h2 hd ⊢
      rw [size_extract1] at hd h2 ⊢
      refine ⟨hs, by omega, ⟨by simp; omega, fun k hk => ⟨hd k hk, by simp; omega, ?_⟩⟩, fun _ => ⟨by omega, ?_⟩⟩
      · have h5 := h1 k (Nat.zero_le _) (by rw [size_extract1]; exact hk)
        rw [getD_extract1, gd s (1 + k) (by omega)] at h5
        unfold dg
        rw [getD_extract1, gd s (1 + k) (by omega)]
        simp only [if_true]
        omega
      · rw [gd s 0 (by omega)] at hl2
        omega
  · intro hl h0
    -- the text behind the minus is no nought
    have hz : ∀ x ∈ rdig (restOf s) (restOf s).size, x = 0 := by
      have key : ∀ L : List Nat, trimZ L = [] → ∀ x ∈ L, x = 0 := by
        intro L
        induction L with
        | nil => intro _ x hx; cases hx
        | cons y ys ih =>
          intro hh x hx
          simp only [trimZ] at hh
          split at hh
          · rename_i hc
            cases hx with
            | head => exact hc.2
            | tail _ hx => exact ih hc.1 x hx
          · cases hh
      exact key _ (by rw [htr, h0, digs_zero])
    have h0' : dg (restOf s) 0 = 0 := hz _ (by
      rw [rdig_eq]
      exact List.mem_map.2 ⟨(restOf s).size - 1, List.mem_range.2 (by omega), by congr 1; omega⟩)
    have h5 := h1 0 (Nat.le_refl _) (by omega)
    unfold dg at h0'
    have h6 : ((restOf s).data.getD 0 0).toNat = 48 := by omega
    rcases h3 with h3 | h3
    · refine h4 hl ?_
      have hsz : (restOf s).data.size = 1 := by have : (restOf s).size = (restOf s).data.size := rfl; omega
      have : (restOf s).data = #[48] := by
        apply Array.ext
        · simpa using hsz
        · intro i hi1 hi2
          have hi : i = 0 := by omega
          subst hi
          rw [Array.getD_eq_getD_getElem?, Array.getElem?_eq_getElem hi1] at h6
          simp only [Option.getD_some] at h6
          apply UInt8.toNat_inj.1
          rw [h6]; rfl
      cases hrs : restOf s with
      | mk data => rw [hrs] at this; simp only at this; rw [this]
    · exact h3 h6
theorem lowDigs_map (N n : Nat) : lowDigs N n = ((List.range n).map fun i => 48 + N / 10 ^ i % 10).reverse := by
  induction n with
  | zero => rfl
  | succ n ih => rw [lowDigs, ih, List.range_succ, List.map_append, List.reverse_append]; rfl
theorem digs_map (N : Nat) : digs N = (List.range (digs N).length).map fun i => N / 10 ^ i % 10 := by
  apply List.ext_getElem
  · simp
  · intro i h1 h2
    have := digs_get N i
    rw [List.getD_eq_getElem?_getD, List.getElem?_eq_getElem h1, Option.getD_some] at this
    simp [this]
theorem nd_digs {N : Nat} (h : N ≠ 0) : nd N = (digs N).length := by
  induction N using Nat.strongRecOn with
  | _ N ih =>
    rw [nd, digs_pos h, List.length_cons]
    by_cases h1 : N < 10
    · rw [dif_pos h1, Nat.div_eq_of_lt h1, digs_zero]; rfl
    · rw [dif_neg h1, ih (N / 10) (by omega) (by omega)]; omega
/-- A number's text out of its digits. -/
theorem decs_digs {N : Nat} (h : N ≠ 0) : decs N = ((digs N).map (48 + ·)).reverse := by
  unfold decs
  rw [lowDigs_map, nd_digs h]
  congr 1
  conv => rhs; rw [digs_map, List.map_map]
  rfl
theorem decs_zero : decs 0 = [48] := by
  unfold decs
  have : nd 0 = 1 := by rw [nd]; simp
  rw [this]; rfl

/-- A number of the reference: its sign and its digits. -/
def NumV (w : World) (base : Nat) (v : Value) (z : Int) : Prop :=
  ∃ a c, v = .agg #[.bool (decide (z < 0)), .slice a (digs z.natAbs).length c] ∧ RdV w a c (digs z.natAbs) ∧ ∀ k, InB a k → base ≤ k
theorem NumV.keep {w w' : World} {S : Nat → Prop} {base : Nat} {v : Value} {z : Int} (h : NumV w base v z) (hk : Keeps S w w') (hS : ∀ k, base ≤ k → ¬ S k) : NumV w' base v z := by
  obtain ⟨a, c, h1, h2, h3⟩ := h
  exact ⟨a, c, h1, h2.keep hk (fun k hh => hS k (h3 k hh)), h3⟩
theorem NumV.lower {w : World} {base base' : Nat} {v : Value} {z : Int} (h : NumV w base v z) (hb : base' ≤ base) : NumV w base' v z := by
  obtain ⟨a, c, h1, h2, h3⟩ := h
  exact ⟨a, c, h1, h2, fun k hh => Nat.le_trans hb (h3 k hh)⟩

/-- The text of a number of at most 200 digits. -/
def Txt (s : ByteArray) (z : Int) : Prop := ∃ neg n d, NumText s neg n d ∧ z = numZ neg (dval d n) ∧ s.size ≤ 200

/-- What BigRight answers. -/
theorem bigRight_any (s : ByteArray) (w : World) (hs : s.size ≤ 2147483647) :
    Calls Tryz.prog 18 #[.string s] w fun e w' => Keeps (fun _ => False) w w' ∧
      ((∃ z v, Txt s z ∧ e = .returned (.tuple #[v, .bool true]) ∧ NumV w' w.heap.size v z) ∨ (∃ n a l c, e = .returned (.tuple #[.agg #[.bool n, .slice a l c], .bool false]))) := by
  refine (bigRight18 s w hs).mono ?_
  rintro e w' ⟨hk, h⟩
  refine ⟨hk, ?_⟩
  rcases h with ⟨hok, a, c, he, hr, hge⟩ | ⟨_, he⟩
  · by_cases h200 : s.size ≤ 200
    · left
      obtain ⟨h1, h2, h3⟩ := right_num h200 hok
      have hz : decide (numZ (ledBy s) (dval (dg (restOf s)) (restOf s).size) < 0) = ledBy s := by
        rw [numZ_neg]
        cases hl : ledBy s with
        | false => rfl
        | true => rw [decide_eq_true (h3 hl)]; rfl
      refine ⟨numZ (ledBy s) (dval (dg (restOf s)) (restOf s).size), _, ⟨_, _, _, h1, rfl, h200⟩, by rw [he, decide_eq_true h200], a, c, ?_, ?_, hge⟩
      · rw [hz, numZ_abs, ← h2]
      · rw [numZ_abs, ← h2]; exact hr
    · right
      exact ⟨_, _, _, _, by rw [he, decide_eq_false h200]⟩
  · exact .inr ⟨_, _, _, _, he⟩
end Go.Proofs
