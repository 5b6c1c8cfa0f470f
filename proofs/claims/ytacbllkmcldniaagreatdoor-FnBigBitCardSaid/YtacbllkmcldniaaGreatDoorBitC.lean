/- Parts of the proofs over the numbers of any length: BitC, Bit2. -/
import Derived.Deep.RegionHeld3
import Derived.Test.YtacbllkmcldniaaGreatDoorBitB
import Derived.Test.YtacbllkmcldniaaGreatDoorShiftB
set_option linter.unusedSimpArgs false
set_option linter.unusedVariables false
namespace Go.Proofs
open Go.RowKit
set_option maxHeartbeats 2000000
set_option linter.unusedVariables false
set_option linter.unusedSimpArgs false
set_option maxRecDepth 100000

theorem Env.setBit176 {S : Nat → Prop} {w0 w : World} {V : Nat → Option (TypeId × Int)} (h : Env S w0 w V) {pz px : Nat} {tz tx : TypeId} {z x : Int} (i : Nat) (b : Bool) (hz : V pz = some (tz, z)) (hx : V px = some (tx, x)) (h1 : x.natAbs < W64 ^ 200) (hs : i ≤ 1000000) :
    Calls Tryz.prog 176 #[.pointer (some ⟨pz, 0, none⟩), .pointer (some ⟨px, 0, none⟩), .int .i64 (i : Int), .int .u64 (b.toNat : Int)] w fun e w' => e = .returned (.pointer (some ⟨pz, 0, none⟩)) ∧ Env S w0 w' (upd V pz tz (sbz x i b)) := by
  refine h.op2 hz hx fun az ax lz cz lx cx g1 g2 a1 a2 => Go.Proofs.setBit176 pz px tz tx z x az ax lz cz lx cx i b w g1 g2 ?_ (Nat.le_trans (g2.len h1) (by omega)) hs
  by_cases hp : pz = px
  · subst hp
    obtain ⟨_, h2, h3, h4⟩ := IntS.same g1 g2
    exact .inl ⟨h2, h3, h4⟩
  · exact .inr (a1 hp)
theorem Env.bit175 {S : Nat → Prop} {w0 w : World} {V : Nat → Option (TypeId × Int)} (h : Env S w0 w V) {px : Nat} {tx : TypeId} {x : Int} (i : Nat) (hx : V px = some (tx, x)) (h1 : x.natAbs < W64 ^ 200) (hs : i ≤ 1000000) :
    Calls Tryz.prog 175 #[.pointer (some ⟨px, 0, none⟩), .int .i64 (i : Int)] w fun e w' => e = .returned (.int .u64 (zbv x i)) ∧ Env S w0 w' V := by
  obtain ⟨a, l, c, k1, k2⟩ := h.get hx
  have hI : IntS w px tx x a l c := ⟨k1, k2⟩
  refine (Go.Proofs.bit175 px tx x a l c i w hI (Nat.le_trans (hI.len h1) (by omega)) hs).mono ?_
  rintro e w' ⟨rfl, hk⟩
  exact ⟨rfl, h.same hk⟩
theorem w120 (p : Addr) (x v : Int) (w : World) (R : World → Prop) (h : Calls Tryz.prog 175 #[.pointer (some p), .int .i64 x] w fun e w' => e = .returned (.int .u64 v) ∧ R w') :
    Calls Tryz.prog 120 #[.pointer (some p), .int .i64 x] w fun e w' => e = .returned (.int .u64 v) ∧ R w' := by
  have H := hid h
  clear h
  obtain ⟨b0, o0, s0⟩ := p
  go_enter Tryz.func120, Tryz.ntmps120
  go_wp2_with fail
  refine H.out.mono ?_
  rintro e w1 ⟨rfl, hR⟩
  have HR := hid hR
  clear hR
  go_wp2_with fail
  go_ret
  exact ⟨rfl, HR.out⟩
theorem w121 (p q : Addr) (x y : Int) (w : World) (R : World → Prop) (h : Calls Tryz.prog 176 #[.pointer (some p), .pointer (some q), .int .i64 x, .int .u64 y] w.drew fun e w' => (∃ v, e = .returned v) ∧ R w') :
    Calls Tryz.prog 121 #[.pointer (some p), .pointer (some q), .int .i64 x, .int .u64 y] w fun e w' => e = .returned (.pointer (some p)) ∧ R w' := by
  have H := hid h
  clear h
  obtain ⟨b0, o0, s0⟩ := p
  obtain ⟨b1, o1, s1⟩ := q
  go_enter Tryz.func121, Tryz.ntmps121
  go_wp2_with fail
  go_still_tail 8, (by kernel_rfl)
  go_wp2_with fail
  refine H.out.mono ?_
  rintro e w1 ⟨⟨v, rfl⟩, hR⟩
  have HR := hid hR
  clear hR
  go_wp2_with fail
  go_ret
  exact ⟨rfl, HR.out⟩

theorem Glob.ne_str {w : World} (h : Glob w) {p : Nat} {t : TypeId} {s : ByteArray} (hr : RowAt w p t [.string s]) : ¬ GB p := by
  intro hk
  have c0 : w.cell? ⟨p, 0, none⟩ = some (.string s) := hr.cell 0
  obtain ⟨q, hq⟩ := h.eof
  rcases hk with rfl | rfl | rfl | rfl | rfl | rfl | rfl
  · rw [hq] at c0; cases c0
  · rw [h.bs] at c0; cases c0
  · rw [h.ks] at c0; cases c0
  · rw [h.kt] at c0; cases c0
  · rw [h.dr] at c0; cases c0
  · rw [h.lf] at c0; cases c0
  · rw [h.tz 0 (by omega)] at c0; cases c0
theorem Glob.ne_u64 {w : World} (h : Glob w) {p : Nat} {t : TypeId} {n : Int} (hr : RowAt w p t [.int .u64 n]) : ¬ GB p := by
  intro hk
  have c0 : w.cell? ⟨p, 0, none⟩ = some (.int .u64 n) := hr.cell 0
  obtain ⟨q, hq⟩ := h.eof
  rcases hk with rfl | rfl | rfl | rfl | rfl | rfl | rfl
  · rw [hq] at c0; cases c0
  · rw [h.bs] at c0; cases c0
  · rw [h.ks] at c0; cases c0
  · rw [h.kt] at c0; cases c0
  · rw [h.dr] at c0; cases c0
  · rw [h.lf] at c0; cases c0
  · rw [h.tz 0 (by omega)] at c0; cases c0

theorem sbz_lt {x : Int} {i : Nat} {b : Bool} (hx : x.natAbs < 10 ^ 200) (hi : i ≤ 700) : (sbz x i b).natAbs < 10 ^ 251 := by
  have h1 : 2 ^ i ≤ 10 ^ 234 := by
    obtain ⟨k, hk⟩ : ∃ k, k = 234 := ⟨_, rfl⟩
    rw [← hk]
    have : 2 ^ i ≤ 2 ^ (3 * k) := Nat.pow_le_pow_right (by omega) (by omega)
    rw [Nat.pow_mul] at this
    exact Nat.le_trans this (Nat.pow_le_pow_left (by omega) _)
  have h2 : (10 : Nat) ^ 200 + 10 ^ 234 ≤ 10 ^ 251 := by decide +kernel
  have h3 : (sbz x i b).natAbs ≤ x.natAbs + 2 ^ i := by
    rw [sbz_eq]
    have h4 : 0 ≤ ((2 ^ i : Nat) : Int) := Int.natCast_nonneg _
    generalize 2 ^ i = q at *
    split
    · omega
    · split <;> omega
  generalize (10 : Nat) ^ 200 = P at *
  generalize (10 : Nat) ^ 234 = Q at *
  generalize (10 : Nat) ^ 251 = U at *
  generalize 2 ^ i = q at *
  omega

theorem bit119 (A I D O1 O2 : Nat) (sa : ByteArray) (na : Bool) (da : Nat → Nat) (la : Nat) (x : Int) (b : Bool) (i : Nat) (T2 s4 : ByteArray) (w : World)
    (hA : w.cell? ⟨A, 0, none⟩ = some (.string sa)) (hI : w.cell? ⟨I, 0, none⟩ = some (.int .i64 (i : Int))) (hD : w.cell? ⟨D, 0, none⟩ = some (.int .u64 (b.toNat : Int))) (ta : NumText sa na la da)
    (r3 : RowAt w O1 59 [.int .u64 0]) (r4 : RowAt w O2 9 [.string s4]) (d34 : O1 ≠ O2) (nA : A ≠ O1) (nI : I ≠ O1) (nD : D ≠ O1) (mA : A ≠ O2) (mI : I ≠ O2) (mD : D ≠ O2)
    (hx : x = numZ na (dval da la)) (hxb : x.natAbs < 10 ^ 200) (hn : i ≤ 700)
    (G : Glob w) (hT2 : T2 = strB (txt (decide (sbz x i b < 0)) (sbz x i b).natAbs)) :
    Calls Tryz.prog 119 #[.pointer (some ⟨A, 0, none⟩), .pointer (some ⟨I, 0, none⟩), .pointer (some ⟨O1, 0, none⟩), .pointer (some ⟨D, 0, none⟩), .pointer (some ⟨O2, 0, none⟩)] w fun e w' =>
      e = .returned (.tuple #[]) ∧ OutL w' [(O1, 59, .int .u64 (zbv x i)), (O2, 9, .string T2)] ∧ Keeps (OutK [(O1, 59, .int .u64 (zbv x i)), (O2, 9, .string T2)]) w w' := by
  have HG := hid G
  have HX : Hid (x.natAbs < W64 ^ 200) := hid (Nat.lt_of_lt_of_le hxb (Nat.le_trans (show 10 ^ 200 ≤ W64 ^ 11 by unfold W64; decide +kernel) (Nat.pow_le_pow_right W64_pos (by omega))))
  have HB2 : Hid ((sbz x i b).natAbs < TXB) := hid (lt_TXB (sbz_lt hxb hn))
  have HGk : Hid (∀ w', Keeps (fun k => k = O1 ∨ k = O2) w w' → Glob w') := hid (fun w' hk => G.keep hk (fun k hg hk => by
    rcases hk with rfl | rfl
    · exact G.ne_u64 r3 hg
    · exact G.ne_str r4 hg))
  have HN1 : Hid (∀ w0 W V m, Keeps (fun k => k = O1 ∨ k = O2) w w0 → Env (fun _ => False) w0 W V → m ≤ W.heap.size → Calls Tryz.prog 67 #[.string sa] W fun e w' => ∃ p, e = .returned (.pointer (some ⟨p, 0, none⟩)) ∧ m ≤ p ∧ p < w'.heap.size ∧ Env (fun _ => False) w0 w' (upd V p 105 x)) :=
    hid (fun w0 W V m h0 h hm => number_env h sa na la da x m hm ta hx (HGk.out _ (h0.trans h.keeps.any)))
  have HSt : Hid (∀ p W V, Keeps (fun k => k = O1 ∨ k = O2) w W → V p = some (105, sbz x i b) → Env (fun _ => False) W W V ∨ True → IntAt W p 105 (sbz x i b) → Calls Tryz.prog 80 #[.pointer (some ⟨p, 0, none⟩)] W fun e w' => e = .returned (.string T2) ∧ Keeps (fun _ => False) W w') := hid (fun p W V h0 _ _ h => by
    rw [hT2]; exact string80_big p 105 _ W h HB2.out (HGk.out _ h0))
  have HBt : Hid (∀ w0 W V p, Env (fun _ => False) w0 W V → V p = some (105, x) → Calls Tryz.prog 120 #[.pointer (some ⟨p, 0, none⟩), .int .i64 (i : Int)] W fun e w' => e = .returned (.int .u64 (zbv x i)) ∧ Env (fun _ => False) w0 w' V) := hid (fun w0 W V p h1 h2 =>
    w120 _ _ _ _ _ (h1.bit175 i h2 HX.out (by omega)))
  have HSB : Hid (∀ w0 W V pz px z, Env (fun _ => False) w0 W V → V pz = some (105, z) → V px = some (105, x) → Calls Tryz.prog 121 #[.pointer (some ⟨pz, 0, none⟩), .pointer (some ⟨px, 0, none⟩), .int .i64 (i : Int), .int .u64 (b.toNat : Int)] W fun e w' => e = .returned (.pointer (some ⟨pz, 0, none⟩)) ∧ Env (fun _ => False) w0 w' (upd V pz 105 (sbz x i b))) := hid (fun w0 W V pz px z h1 h2 h3 =>
    w121 _ _ _ _ _ _ ((h1.drew.setBit176 i b h2 h3 HX.out (by omega)).mono (fun e w' ⟨he, h⟩ => ⟨⟨_, he⟩, h⟩)))
  have hAl : A < w.heap.size := World.block_lt_of_cell? w ⟨A, 0, none⟩ hA
  have hIl : I < w.heap.size := World.block_lt_of_cell? w ⟨I, 0, none⟩ hI
  have hDl : D < w.heap.size := World.block_lt_of_cell? w ⟨D, 0, none⟩ hD
  have HA := hid hA; have HI := hid hI; have HD := hid hD
  have HS : Hid (∀ w', Keeps (fun k => k = O1 ∨ k = O2) w w' → w'.cell? ⟨A, 0, none⟩ = some (.string sa) ∧ w'.cell? ⟨I, 0, none⟩ = some (.int .i64 (i : Int)) ∧ w'.cell? ⟨D, 0, none⟩ = some (.int .u64 (b.toNat : Int))) := hid (fun w' hk =>
    ⟨(cell_of_block (p := ⟨A, 0, none⟩) (hk.block A hAl (fun h => h.elim nA mA))).trans HA.out, (cell_of_block (p := ⟨I, 0, none⟩) (hk.block I hIl (fun h => h.elim nI mI))).trans HI.out, (cell_of_block (p := ⟨D, 0, none⟩) (hk.block D hDl (fun h => h.elim nD mD))).trans HD.out⟩)
  have HS2 : Hid (∀ w', Keeps (fun k => k = O1 ∨ k = O2) w w' → w'.cell? ⟨A, 0, none⟩ = some (.string sa) ∧ w'.cell? ⟨I, 0, none⟩ = some (.int .i64 (i : Int))) := hid (fun w' hk => ⟨(HS.out w' hk).1, (HS.out w' hk).2.1⟩)
  have R3 := hid r3; have R4 := hid r4
  have HE0 := hid (Env.start (fun _ => False) w (fun _ h => h.elim)).drew
  have HT2 := hid hT2
  have st1 : Hid (∀ W v, Keeps (fun k => k = O1 ∨ k = O2) w W → Keeps (fun k => k = O1 ∨ k = O2) w (W.setCell ⟨O1, 0, none⟩ v)) := hid (fun W v h => h.setCell _ (.inl (.inl rfl)) v)
  have st2 : Hid (∀ W v, Keeps (fun k => k = O1 ∨ k = O2) w W → Keeps (fun k => k = O1 ∨ k = O2) w (W.setCell ⟨O2, 0, none⟩ v)) := hid (fun W v h => h.setCell _ (.inl (.inr rfl)) v)
  obtain ⟨zv, hzv⟩ : ∃ zv, zv = zbv x i := ⟨_, rfl⟩
  rw [← hzv] at HBt
  have HZ := hid hzv
  have d43 := Ne.symm d34
  clear hA hI hD ta hx hxb G hT2 hAl hIl hDl r3 r4 hn hzv
  go_enter Tryz.func119, Tryz.ntmps119
  go_upto_region 0 with fail
  go_cut [] from 5 to 9 (fun wx => RowAt wx O1 59 [.int .u64 zv] ∧ RowAt wx O2 9 [.string s4] ∧ Keeps (fun k => k = O1 ∨ k = O2) w wx)
  case first =>
    go_region_held3 (fun w' => w'.cell? ⟨A, 0, none⟩ = some (.string sa) ∧ w'.cell? ⟨I, 0, none⟩ = some (.int .i64 (i : Int)))
      (first | with_reducible exact HS2.out _ HE0.out.keeps.any | with_reducible exact HS2.out _ HE1.out.keeps.any | with_reducible exact HS2.out _ HE2.out.keeps.any | with_reducible exact HS2.out _ (st1.out _ _ HE2.out.keeps.any))
      (first
       | (go_at_call 67; (with_reducible refine (HN1.out w _ _ w.heap.size (Keeps.refl _ w) HE0.out (Nat.le_refl _)).mono ?_); rintro e w1 ⟨p1, rfl, o1, o2, h⟩; have HE1 := hid h; clear h)
       | (go_at_call 120; (with_reducible refine (HBt.out _ _ _ _ HE1.out (upd_eq _ _ _ _)).mono ?_); rintro e w2 ⟨rfl, h⟩; have hq3 := h.keeps.row R3.out (fun h => h); obtain ⟨k1, k2⟩ := hq3.st; have HQ3 := hid hq3; have HE2 := hid h; clear h hq3))
    all_goals
      go_wp2_with fail
      go_meet
    all_goals exact ⟨by simpa using HQ3.out.set 0 (.int .u64 zv), (HE2.out.keeps.row R4.out (fun h => h)).other (show (⟨O1, 0, none⟩ : Addr).block ≠ O2 from d34) _, st1.out _ _ HE2.out.keeps.any⟩
  case rest =>
    obtain ⟨q1, q2, q3⟩ := hcut
    have Q1 := hid q1; have Q2 := hid q2; have Q3 := hid q3
    have HF0 := hid (Env.start (fun _ => False) wc (fun _ h => h.elim))
    have HFa := hid HF0.out.drew
    have HFb : Hid (Env (fun _ => False) wc (wc.alloc (.cells #[.bool false, .slice none 0 0] 105)).drew _) := hid (HF0.out.new 105).drew
    have HSZ : Hid (wc.heap.size ≤ wc.drew.heap.size ∧ wc.heap.size + 1 ≤ (wc.alloc (.cells #[.bool false, .slice none 0 0] 105)).drew.heap.size) := hid ⟨Nat.le_refl _, by simp⟩
    clear q1 q2 q3 HE0
    go_upto_region 1 with fail
    go_region_held3 (fun w' => w'.cell? ⟨A, 0, none⟩ = some (.string sa) ∧ w'.cell? ⟨I, 0, none⟩ = some (.int .i64 (i : Int)) ∧ w'.cell? ⟨D, 0, none⟩ = some (.int .u64 (b.toNat : Int)))
      (first | with_reducible exact HS.out _ (Q3.out.trans HFa.out.keeps.any) | with_reducible exact HS.out _ (Q3.out.trans HFb.out.keeps.any) | with_reducible exact HS.out _ (Q3.out.trans HE1.out.keeps.any) | with_reducible exact HS.out _ (Q3.out.trans (HE1.out.new 105).keeps.any) | with_reducible exact HS.out _ (Q3.out.trans HE2.out.keeps.any) | with_reducible exact HS.out _ (Q3.out.trans HK3.out.any) | with_reducible exact HS.out _ (st2.out _ _ (Q3.out.trans HK3.out.any)))
      (first
       | (go_at_call 67; (with_reducible refine (HN1.out wc _ _ wc.heap.size Q3.out HFa.out HSZ.out.1).mono ?_); rintro e w1 ⟨p1, rfl, o1, o2, h⟩; have HE1 := hid h; clear h)
       | (go_at_call 67; (with_reducible refine (HN1.out wc _ _ (wc.heap.size + 1) Q3.out HFb.out HSZ.out.2).mono ?_); rintro e w1 ⟨p1, rfl, o1, o2, h⟩; have HE1 := hid h; clear h)
       | (go_at_call 121; (with_reducible refine (HSB.out _ _ _ _ _ 0 HE1.out (by repeat (first | exact upd_eq _ _ _ _ | (refine (upd_ne _ _ _ ?_).trans ?_; omega))) (by repeat (first | exact upd_eq _ _ _ _ | (refine (upd_ne _ _ _ ?_).trans ?_; omega)))).mono ?_); rintro e w2 ⟨rfl, h⟩; have HE2 := hid h; have HI2 := hid (h.get (upd_eq _ _ _ _)); clear h)
       | (go_at_call 121; (with_reducible refine (HSB.out _ _ _ _ _ 0 (HE1.out.new 105) (by repeat (first | exact upd_eq _ _ _ _ | (refine (upd_ne _ _ _ ?_).trans ?_; omega))) (by repeat (first | exact upd_eq _ _ _ _ | (refine (upd_ne _ _ _ ?_).trans ?_; omega)))).mono ?_); rintro e w2 ⟨rfl, h⟩; have HE2 := hid h; have HI2 := hid (h.get (upd_eq _ _ _ _)); clear h)
       | (go_at_call 80; (with_reducible refine (HSt.out _ _ _ (Q3.out.trans HE2.out.keeps.any) (upd_eq noInts _ 105 _) (.inr trivial) HI2.out).mono ?_); rintro e w3 ⟨rfl, h⟩; have hk3 := HE2.out.keeps.trans h; have hq2 := hk3.row Q2.out (fun h => h); obtain ⟨k1, k2⟩ := hq2.st; have HQ2 := hid hq2; have HK3 := hid hk3; clear h hk3 hq2))
    all_goals
      go_wp2_with fail
      go_end0
      refine ⟨rfl, ?_, ?_⟩
      · intro z hz
        simp only [List.mem_cons, List.not_mem_nil, or_false] at hz
        rcases hz with rfl | rfl
        · rw [← HZ.out]
          exact (HK3.out.row Q1.out (fun h => h)).other (show (⟨O2, 0, none⟩ : Addr).block ≠ O1 from d43) _
        · simpa using HQ2.out.set 0 (.string T2)
      · refine (st2.out _ _ (Q3.out.trans HK3.out.any)).mono (fun k _ hk => ?_)
        rcases hk with rfl | rfl
        · exact ⟨_, .head _, rfl⟩
        · exact ⟨_, .tail _ (.head _), rfl⟩
end Go.Proofs
namespace Go.Proofs
open Go.RowKit
set_option maxHeartbeats 1600000
set_option linter.unusedVariables false
set_option linter.unusedSimpArgs false
set_option maxRecDepth 100000

theorem call119 (cap : Array Value) (w : World) : (callFunc 119 cap).run Tryz.prog w = .ok (.enter 119 cap) w := by simp [go_sem, callFunc, Tryz.func119]; rfl

theorem bigBit51 (sa : ByteArray) (na : Bool) (da : Nat → Nat) (la : Nat) (x : Int) (b : Bool) (i : Nat) (T2 : ByteArray) (w : World) (ta : NumText sa na la da)
    (hx : x = numZ na (dval da la)) (hxb : x.natAbs < 10 ^ 200) (hn : i ≤ 700) (G : Glob w) (hT2 : T2 = strB (txt (decide (sbz x i b < 0)) (sbz x i b).natAbs)) :
    Calls Tryz.prog 51 #[.string sa, .int .i64 (i : Int), .int .u64 (b.toNat : Int)] w fun e w' => e = .returned (.tuple #[.int .u64 (zbv x i), .string T2]) ∧ Keeps (fun _ => False) w w' := by
  have hmf : ∀ (fn : Fn) (first cap : Array Value) (w : World), (Instr.makeFunc fn first cap).run Tryz.prog w = .ok (.func fn first cap) w := fun _ _ _ _ => rfl
  obtain ⟨B, hB⟩ : ∃ B : List (TypeId × Value), B = [(9, .string sa), (3, .int .i64 (i : Int)), (59, .int .u64 (b.toNat : Int)), (59, .int .u64 0), (9, .string { data := #[] })] := ⟨_, rfl⟩
  obtain ⟨W, hW⟩ : ∃ W, W = boxed w B := ⟨_, rfl⟩
  obtain ⟨m, hm⟩ : ∃ m, m = w.heap.size := ⟨_, rfl⟩
  have hnest : (((((w.alloc (.cells #[.string sa] 9)).alloc (.cells #[.int .i64 (i : Int)] 3)).alloc (.cells #[.int .u64 (b.toNat : Int)] 59)).alloc (.cells #[.int .u64 0] 59)).alloc (.cells #[.string { data := #[] }] 9)) = W := by rw [hW, hB]; rfl
  have hk : Keeps (fun _ => False) w W := by rw [hW]; exact boxed_keeps w B
  have hs : W.heap.size = m + 5 := by rw [hW, boxed_size, hB, hm]; rfl
  have hr : ∀ (i : Nat) (x : TypeId × Value), B[i]? = some x → RowAt W (m + i) x.1 [x.2] := fun i x h => by rw [hW, hm]; exact boxed_row w B i x h
  rw [hB] at hr
  have q0 : RowAt W (m) 9 [.string sa] := hr 0 _ rfl
  have q1 : RowAt W (m + 1) 3 [.int .i64 (i : Int)] := hr 1 _ rfl
  have q2 : RowAt W (m + 1 + 1) 59 [.int .u64 (b.toNat : Int)] := hr 2 _ rfl
  have q3 : RowAt W (m + 1 + 1 + 1) 59 [.int .u64 0] := hr 3 _ rfl
  have q4 : RowAt W (m + 1 + 1 + 1 + 1) 9 [.string { data := #[] }] := hr 4 _ rfl
  obtain ⟨L, hL⟩ : ∃ L : List (Nat × TypeId × Value), L = [(m + 1 + 1 + 1, 59, .int .u64 (zbv x i)), (m + 1 + 1 + 1 + 1, 9, .string T2)] := ⟨_, rfl⟩
  have hsafe := safe_outs 119 #[.pointer (some ⟨m, 0, none⟩), .pointer (some ⟨m + 1, 0, none⟩), .pointer (some ⟨m + 1 + 1 + 1, 0, none⟩), .pointer (some ⟨m + 1 + 1, 0, none⟩), .pointer (some ⟨m + 1 + 1 + 1 + 1, 0, none⟩)] W L (call119 _)
    (by rw [hL]; intro x hx; simp only [List.mem_cons, List.not_mem_nil, or_false] at hx; rcases hx with rfl | rfl <;> simp <;> omega)
    (fun w1 hs1 hk1 => by
      rw [hL]
      exact bit119 m (m + 1) (m + 1 + 1) (m + 1 + 1 + 1) (m + 1 + 1 + 1 + 1) sa na da la x b i T2 _ w1 ((hk1.row q0 (fun h => h)).cell 0) ((hk1.row q1 (fun h => h)).cell 0) ((hk1.row q2 (fun h => h)).cell 0) ta
        (hk1.row q3 (fun h => h)) (hk1.row q4 (fun h => h)) (by omega) (by omega) (by omega) (by omega) (by omega) (by omega) (by omega) hx hxb hn (G.keep (hk.trans hk1) (fun _ _ h => h)) hT2)
  have HS := hid hsafe; have HK := hid hk; have HL := hid hL; have HM := hid hm
  clear hsafe hk hL q0 q1 q2 q3 q4 hr hs hB hW hT2 G ta hx hxb hn
  go_enter Tryz.func51, Tryz.ntmps51
  go_wp2_with fail
  rw [← hm]
  clear hnest hm
  refine HS.out.mono ?_
  rintro e w2 ⟨rfl, ho, hk2⟩
  have hkf : Keeps (fun _ => False) w w2 := HK.out.fresh hk2 (fun i ⟨x, hx, he⟩ => by
    rw [HL.out] at hx
    simp only [List.mem_cons, List.not_mem_nil, or_false] at hx
    have := HM.out
    rcases hx with rfl | rfl <;> simp at he <;> omega)
  have HO := hid ho; have HKF := hid hkf
  have m0 : (m + 1 + 1 + 1, 59, (.int .u64 (zbv x i) : Value)) ∈ L := by rw [HL.out]; exact .head _
  have m1 : (m + 1 + 1 + 1 + 1, 9, (.string T2 : Value)) ∈ L := by rw [HL.out]; exact .tail _ (.head _)
  have hS : ∀ w', OutL w' L → w'.cell? ⟨m + 1 + 1 + 1, 0, none⟩ = some (.int .u64 (zbv x i)) ∧ w'.cell? ⟨m + 1 + 1 + 1 + 1, 0, none⟩ = some (.string T2) := fun w' h => ⟨h.cell m0, h.cell m1⟩
  have HSS := hid hS
  have f0 := ho.frozen m0; have f1 := ho.frozen m1
  obtain ⟨c0, c1⟩ := hS w2 ho
  have e0 := hid (show ∃ t, (m + 1 + 1 + 1, t, (.int .u64 (zbv x i) : Value)) ∈ L from ⟨_, m0⟩)
  have e1 := hid (show ∃ t, (m + 1 + 1 + 1 + 1, t, (.string T2 : Value)) ∈ L from ⟨_, m1⟩)
  clear ho hk2 hkf m0 m1 hS
  go_upto_region 2 with fail
  go_region_held3 (fun w' => w'.cell? ⟨m + 1 + 1 + 1, 0, none⟩ = some (.int .u64 (zbv x i)) ∧ w'.cell? ⟨m + 1 + 1 + 1 + 1, 0, none⟩ = some (.string T2))
    (((with_reducible refine HSS.out _ ?_); repeat (first | (with_reducible exact HO.out) | (with_reducible refine OutL.again ?_ e0.out) | (with_reducible refine OutL.again ?_ e1.out) | (with_reducible refine OutL.drew ?_)))) (fail)
  go_wp2_with fail
  have hof := OutL.drew ((HO.out.again e0.out).again e1.out)
  have hge : ∀ i, m ≤ i → w.heap.size ≤ i := fun i hi => by rw [← HM.out]; exact hi
  have hkf := ((HKF.out.setCell ⟨m + 1 + 1 + 1, 0, none⟩ (.inr (hge _ (by show m ≤ m + 1 + 1 + 1; omega))) (.int .u64 (zbv x i))).setCell ⟨m + 1 + 1 + 1 + 1, 0, none⟩ (.inr (hge _ (by show m ≤ m + 1 + 1 + 1 + 1; omega))) (.string T2)).drew
  obtain ⟨a0, a1⟩ := HSS.out _ hof
  generalize ((w2.setCell ⟨m + 1 + 1 + 1, 0, none⟩ (.int .u64 (zbv x i))).setCell ⟨m + 1 + 1 + 1 + 1, 0, none⟩ (.string T2)).drew = wf at *
  refine bodyPost_ret (v := (.tuple #[.int .u64 (zbv x i), .string T2])) ?_ rfl ⟨rfl, hkf⟩
  simp [results, Tryz.results51, go_sem, a0, a1]
end Go.Proofs
