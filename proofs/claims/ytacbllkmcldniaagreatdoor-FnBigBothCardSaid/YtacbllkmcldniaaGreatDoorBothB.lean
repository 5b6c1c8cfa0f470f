/- Parts of the proofs over the numbers of any length: Both1. -/
import Derived.Deep.RegionHeld3
import Derived.Test.YtacbllkmcldniaaGreatDoorQRA
import Derived.Test.YtacbllkmcldniaaGreatDoorShiftB
set_option linter.unusedSimpArgs false
set_option linter.unusedVariables false
namespace Go.Proofs
open Go.RowKit
set_option maxHeartbeats 4000000
set_option linter.unusedVariables false
set_option linter.unusedSimpArgs false
set_option maxRecDepth 100000

/-- The closure's state behind its first lines: two numbers. -/
def QRst (w : World) (q r : Int) (qv rv : Value) (wx : World) : Prop := ∃ pq pr, qv = .pointer (some ⟨pq, 0, none⟩) ∧ rv = .pointer (some ⟨pr, 0, none⟩) ∧ Env (fun _ => False) w wx (upd (upd noInts pq 105 q) pr 105 r) ∧ pq ≠ pr
theorem QRst.keeps {w : World} {q r : Int} {qv rv : Value} {wx : World} (h : QRst w q r qv rv wx) : Keeps (fun _ => False) w wx := by
  obtain ⟨_, _, _, _, h, _⟩ := h
  exact h.keeps
theorem dm_bounds (x y : Int) (hx : x.natAbs < 10 ^ 250) (hy : y.natAbs < 10 ^ 250) : (x.tdiv y).natAbs < 10 ^ 251 ∧ (x.tmod y).natAbs < 10 ^ 251 ∧ (dmQ x y).natAbs < 10 ^ 251 ∧ (dmM x y).natAbs < 10 ^ 251 := by
  have h1 : (x.tdiv y).natAbs ≤ x.natAbs := by rw [Int.natAbs_tdiv]; exact Nat.div_le_self _ _
  have h2 : (x.tmod y).natAbs ≤ x.natAbs := by rw [Int.natAbs_tmod]; exact Nat.mod_le _ _
  have h4 : (10 : Nat) ^ 250 + 10 ^ 250 ≤ 10 ^ 251 := by decide +kernel
  have h5 : 1 ≤ (10 : Nat) ^ 250 := Nat.pow_pos (by omega)
  generalize (10 : Nat) ^ 250 = P at *
  generalize (10 : Nat) ^ 251 = Q at *
  unfold dmQ dmM
  refine ⟨by omega, by omega, ?_, ?_⟩
  · split
    · split <;> omega
    · omega
  · split
    · split <;> omega
    · omega

theorem both100 (A B O2 O3 O4 O5 : Nat) (sa sb : ByteArray) (na nb : Bool) (da db : Nat → Nat) (la lb : Nat) (x y : Int) (T1 T2 T3 T4 s2 s3 s4 s5 : ByteArray) (w : World)
    (hA : w.cell? ⟨A, 0, none⟩ = some (.string sa)) (hB : w.cell? ⟨B, 0, none⟩ = some (.string sb)) (ta : NumText sa na la da) (tb : NumText sb nb lb db)
    (r2 : RowAt w O2 9 [.string s2]) (r3 : RowAt w O3 9 [.string s3]) (r4 : RowAt w O4 9 [.string s4]) (r5 : RowAt w O5 9 [.string s5]) (hnd : [O2, O3, O4, O5].Nodup)
    (hx : x = numZ na (dval da la)) (hy : y = numZ nb (dval db lb)) (hxb : x.natAbs < 10 ^ 250) (hyb : y.natAbs < 10 ^ 250) (hy0 : y ≠ 0)
    (G : Glob w) (hT1 : T1 = strB (txt (decide (x.tdiv y < 0)) (x.tdiv y).natAbs)) (hT2 : T2 = strB (txt (decide (x.tmod y < 0)) (x.tmod y).natAbs))
    (hT3 : T3 = strB (txt (decide (dmQ x y < 0)) (dmQ x y).natAbs)) (hT4 : T4 = strB (txt (decide (dmM x y < 0)) (dmM x y).natAbs)) :
    Calls Tryz.prog 100 #[.pointer (some ⟨A, 0, none⟩), .pointer (some ⟨B, 0, none⟩), .pointer (some ⟨O2, 0, none⟩), .pointer (some ⟨O3, 0, none⟩), .pointer (some ⟨O4, 0, none⟩), .pointer (some ⟨O5, 0, none⟩)] w fun e w' =>
      e = .returned (.tuple #[]) ∧ OutL w' [(O2, 9, .string T1), (O3, 9, .string T2), (O4, 9, .string T3), (O5, 9, .string T4)] ∧ Keeps (OutK [(O2, 9, .string T1), (O3, 9, .string T2), (O4, 9, .string T3), (O5, 9, .string T4)]) w w' := by
  have HG := hid G
  have HX : Hid (x.natAbs < W64 ^ 38) := hid (Nat.lt_of_lt_of_le hxb (by unfold W64; decide +kernel))
  have HY : Hid (y.natAbs < W64 ^ 38) := hid (Nat.lt_of_lt_of_le hyb (by unfold W64; decide +kernel))
  obtain ⟨b1, b2, b3, b4⟩ := dm_bounds x y hxb hyb
  have HB1 := hid (lt_TXB b1); have HB2 := hid (lt_TXB b2); have HB3 := hid (lt_TXB b3); have HB4 := hid (lt_TXB b4)
  clear b1 b2 b3 b4
  have HG' : Hid (∀ w0 W V, Keeps (fun _ => False) w w0 → Env (fun _ => False) w0 W V → Glob W) := hid (fun w0 W V h0 h => G.keep (h0.trans h.keeps) (fun _ _ h => h))
  have HN1 : Hid (∀ w0 W V n, Keeps (fun _ => False) w w0 → Env (fun _ => False) w0 W V → n ≤ W.heap.size → Calls Tryz.prog 67 #[.string sa] W fun e w' => ∃ p, e = .returned (.pointer (some ⟨p, 0, none⟩)) ∧ n ≤ p ∧ p < w'.heap.size ∧ Env (fun _ => False) w0 w' (upd V p 105 x)) :=
    hid (fun w0 W V n h0 h hn => number_env h sa na la da x n hn ta hx (HG'.out _ _ _ h0 h))
  have HN2 : Hid (∀ w0 W V n, Keeps (fun _ => False) w w0 → Env (fun _ => False) w0 W V → n ≤ W.heap.size → Calls Tryz.prog 67 #[.string sb] W fun e w' => ∃ p, e = .returned (.pointer (some ⟨p, 0, none⟩)) ∧ n ≤ p ∧ p < w'.heap.size ∧ Env (fun _ => False) w0 w' (upd V p 105 y)) :=
    hid (fun w0 W V n h0 h hn => number_env h sb nb lb db y n hn tb hy (HG'.out _ _ _ h0 h))
  have HY0 := hid hy0
  have HQ : Hid (∀ w0 W V pz px py pr, Keeps (fun _ => False) w w0 → Env (fun _ => False) w0 W V → V pz = some (105, 0) → V px = some (105, x) → V py = some (105, y) → V pr = some (105, 0) → pz ≠ px → pz ≠ py → pz ≠ pr → pr ≠ px → pr ≠ py →
      Calls Tryz.prog 101 #[.pointer (some ⟨pz, 0, none⟩), .pointer (some ⟨px, 0, none⟩), .pointer (some ⟨py, 0, none⟩), .pointer (some ⟨pr, 0, none⟩)] W fun e w' => e = .returned (.tuple #[.pointer (some ⟨pz, 0, none⟩), .pointer (some ⟨pr, 0, none⟩)]) ∧ QRst w0 (x.tdiv y) (x.tmod y) (.pointer (some ⟨pz, 0, none⟩)) (.pointer (some ⟨pr, 0, none⟩)) w') := hid (by
    intro w0 W V pz px py pr h0 hE vz vx vy vr d1 d2 d3 d4 d5
    refine w101 _ _ _ _ _ _ ((hE.drew.quoRem164 vz vx vy vr d1 d2 d3 d4 d5 (HG'.out _ _ _ h0 hE.drew) HY0.out (Nat.lt_of_lt_of_le HX.out (Nat.pow_le_pow_right W64_pos (by omega))) (Nat.lt_of_lt_of_le HY.out (Nat.pow_le_pow_right W64_pos (by omega)))).mono ?_)
    rintro e w' ⟨rfl, hE'⟩
    exact ⟨⟨_, rfl⟩, pz, pr, rfl, rfl, hE'.two (by rw [upd_ne _ _ _ d3, upd_eq]) (upd_eq _ _ _ _), d3⟩)
  have HD : Hid (∀ w0 W V pz px py pr, Keeps (fun _ => False) w w0 → Env (fun _ => False) w0 W V → V pz = some (105, 0) → V px = some (105, x) → V py = some (105, y) → V pr = some (105, 0) → pz ≠ px → pz ≠ py → pz ≠ pr → pr ≠ px → pr ≠ py →
      Calls Tryz.prog 102 #[.pointer (some ⟨pz, 0, none⟩), .pointer (some ⟨px, 0, none⟩), .pointer (some ⟨py, 0, none⟩), .pointer (some ⟨pr, 0, none⟩)] W fun e w' => e = .returned (.tuple #[.pointer (some ⟨pz, 0, none⟩), .pointer (some ⟨pr, 0, none⟩)]) ∧ QRst w0 (dmQ x y) (dmM x y) (.pointer (some ⟨pz, 0, none⟩)) (.pointer (some ⟨pr, 0, none⟩)) w') := hid (by
    intro w0 W V pz px py pr h0 hE vz vx vy vr d1 d2 d3 d4 d5
    refine w102 _ _ _ _ _ (fun w' => QRst w0 (dmQ x y) (dmM x y) (.pointer (some ⟨pz, 0, none⟩)) (.pointer (some ⟨pr, 0, none⟩)) w') ((hE.drew.divMod165 vz vx vy vr d1 d2 d3 d4 d5 (HG'.out _ _ _ h0 hE.drew) (fun _ _ h => h) (HG.out.keep h0 (fun _ _ h => h)) HY0.out HX.out HY.out).mono ?_)
    rintro e w' ⟨rfl, V', hE', v1, v2, _⟩
    exact ⟨⟨_, rfl⟩, pz, pr, rfl, rfl, hE'.two v1 v2, d3⟩)
  have HSt : Hid (∀ p z T W, IntAt W p 105 z → z.natAbs < TXB → T = strB (txt (decide (z < 0)) z.natAbs) → Keeps (fun _ => False) w W → Calls Tryz.prog 80 #[.pointer (some ⟨p, 0, none⟩)] W fun e w' => e = .returned (.string T) ∧ Keeps (fun _ => False) W w') := hid (fun p z T W h1 h2 h3 h4 => by
    rw [h3]; exact string80_big p 105 z W h1 h2 (HG.out.keep h4 (fun _ _ h => h)))
  have hAl : A < w.heap.size := World.block_lt_of_cell? w ⟨A, 0, none⟩ hA
  have hBl : B < w.heap.size := World.block_lt_of_cell? w ⟨B, 0, none⟩ hB
  have HA := hid hA; have HB := hid hB
  have HS : Hid (∀ w', Keeps (fun _ => False) w w' → w'.cell? ⟨A, 0, none⟩ = some (.string sa) ∧ w'.cell? ⟨B, 0, none⟩ = some (.string sb)) := hid (fun w' hk =>
    ⟨(cell_of_block (p := ⟨A, 0, none⟩) (hk.block A hAl (fun h => h))).trans HA.out, (cell_of_block (p := ⟨B, 0, none⟩) (hk.block B hBl (fun h => h))).trans HB.out⟩)
  have R2 := hid r2; have R3 := hid r3; have R4 := hid r4; have R5 := hid r5
  simp only [List.nodup_cons, List.mem_cons, List.not_mem_nil, or_false, not_or, List.nodup_nil, not_false_eq_true, and_true] at hnd
  obtain ⟨⟨d23, d24, d25⟩, ⟨d34, d35⟩, d45⟩ := hnd
  have HST : Hid (∀ w7, Keeps (fun _ => False) w w7 → w7.cell? ⟨O2, 0, none⟩ = some (.string s2) ∧ (w7.setCell ⟨O2, 0, none⟩ (.string T1)).cell? ⟨O3, 0, none⟩ = some (.string s3) ∧ ((w7.setCell ⟨O2, 0, none⟩ (.string T1)).setCell ⟨O3, 0, none⟩ (.string T2)).cell? ⟨O4, 0, none⟩ = some (.string s4) ∧ (((w7.setCell ⟨O2, 0, none⟩ (.string T1)).setCell ⟨O3, 0, none⟩ (.string T2)).setCell ⟨O4, 0, none⟩ (.string T3)).cell? ⟨O5, 0, none⟩ = some (.string s5) ∧
      w7.frozen? ⟨O2, 0, none⟩ = false ∧ (w7.setCell ⟨O2, 0, none⟩ (.string T1)).frozen? ⟨O3, 0, none⟩ = false ∧ ((w7.setCell ⟨O2, 0, none⟩ (.string T1)).setCell ⟨O3, 0, none⟩ (.string T2)).frozen? ⟨O4, 0, none⟩ = false ∧ (((w7.setCell ⟨O2, 0, none⟩ (.string T1)).setCell ⟨O3, 0, none⟩ (.string T2)).setCell ⟨O4, 0, none⟩ (.string T3)).frozen? ⟨O5, 0, none⟩ = false) := hid (fun w7 hk => by
    have q2 := hk.row R2.out (fun h => h)
    have q3 := (hk.row R3.out (fun h => h)).other (show (⟨O2, 0, none⟩ : Addr).block ≠ O3 from d23) (.string T1)
    have q4 := ((hk.row R4.out (fun h => h)).other (show (⟨O2, 0, none⟩ : Addr).block ≠ O4 from d24) (.string T1)).other (show (⟨O3, 0, none⟩ : Addr).block ≠ O4 from d34) (.string T2)
    have q5 := (((hk.row R5.out (fun h => h)).other (show (⟨O2, 0, none⟩ : Addr).block ≠ O5 from d25) (.string T1)).other (show (⟨O3, 0, none⟩ : Addr).block ≠ O5 from d35) (.string T2)).other (show (⟨O4, 0, none⟩ : Addr).block ≠ O5 from d45) (.string T3)
    exact ⟨q2.st.1, q3.st.1, q4.st.1, q5.st.1, q2.st.2, q3.st.2, q4.st.2, q5.st.2⟩)
  have HFin : Hid (∀ w7, Keeps (fun _ => False) w w7 → OutL ((((w7.setCell ⟨O2, 0, none⟩ (.string T1)).setCell ⟨O3, 0, none⟩ (.string T2)).setCell ⟨O4, 0, none⟩ (.string T3)).setCell ⟨O5, 0, none⟩ (.string T4)) [(O2, 9, .string T1), (O3, 9, .string T2), (O4, 9, .string T3), (O5, 9, .string T4)] ∧ Keeps (OutK [(O2, 9, .string T1), (O3, 9, .string T2), (O4, 9, .string T3), (O5, 9, .string T4)]) w ((((w7.setCell ⟨O2, 0, none⟩ (.string T1)).setCell ⟨O3, 0, none⟩ (.string T2)).setCell ⟨O4, 0, none⟩ (.string T3)).setCell ⟨O5, 0, none⟩ (.string T4))) := hid (fun w7 hk => by
    refine ⟨stores_outL (L := [(O2, 9, .string T1), (O3, 9, .string T2), (O4, 9, .string T3), (O5, 9, .string T4)]) (w := w7) (by simp [d23, d24, d25, d34, d35, d45]) (fun x hx => ?_), (hk.any).trans (stores_keeps [(O2, 9, .string T1), (O3, 9, .string T2), (O4, 9, .string T3), (O5, 9, .string T4)] w7)⟩
    simp only [List.mem_cons, List.not_mem_nil, or_false] at hx
    rcases hx with rfl | rfl | rfl | rfl
    · exact ⟨_, hk.row R2.out (fun h => h)⟩
    · exact ⟨_, hk.row R3.out (fun h => h)⟩
    · exact ⟨_, hk.row R4.out (fun h => h)⟩
    · exact ⟨_, hk.row R5.out (fun h => h)⟩)
  have HT1 := hid hT1; have HT2 := hid hT2; have HT3 := hid hT3; have HT4 := hid hT4
  have HSZ : Hid (∀ W : World, W.heap.size ≤ W.heap.size ∧ W.heap.size + 1 ≤ (W.alloc (.cells #[.bool false, .slice none 0 0] 105)).heap.size ∧ W.heap.size + 2 ≤ ((W.alloc (.cells #[.bool false, .slice none 0 0] 105)).alloc (.cells #[.bool false, .slice none 0 0] 105)).heap.size) := hid (fun W => ⟨Nat.le_refl _, by simp, by simp⟩)
  have HE0_w := hid (Env.start (fun _ => False) w (fun _ h => h.elim))
  have HE0a_w := hid HE0_w.out.drew
  have HE0b_w : Hid (Env (fun _ => False) w (w.alloc (.cells #[.bool false, .slice none 0 0] 105)).drew _) := hid (HE0_w.out.new 105).drew
  have HE0c_w : Hid (Env (fun _ => False) w ((w.alloc (.cells #[.bool false, .slice none 0 0] 105)).alloc (.cells #[.bool false, .slice none 0 0] 105)).drew _) := hid (HE0_w.out.new2 105).drew
  have HS0_w : Hid (w.heap.size ≤ w.drew.heap.size ∧ w.heap.size + 1 ≤ (w.alloc (.cells #[.bool false, .slice none 0 0] 105)).drew.heap.size ∧ w.heap.size + 2 ≤ ((w.alloc (.cells #[.bool false, .slice none 0 0] 105)).alloc (.cells #[.bool false, .slice none 0 0] 105)).drew.heap.size) := hid ⟨Nat.le_refl _, by simp, by simp⟩
  have HKB_w : Hid (Keeps (fun _ => False) w w) := hid (Keeps.refl _ w)
  clear hA hB ta tb hx hy hxb hyb hy0 G hT1 hT2 hT3 hT4 hAl hBl r2 r3 r4 r5
  go_enter Tryz.func100, Tryz.ntmps100
  go_upto_region 0 with fail
  go_cut [6, 7] from 10 to 20 (fun qv rv wx => QRst w (x.tdiv y) (x.tmod y) qv rv wx)
  case first =>
    go_region_held3 (fun w' => w'.cell? ⟨A, 0, none⟩ = some (.string sa) ∧ w'.cell? ⟨B, 0, none⟩ = some (.string sb))
      (first | with_reducible exact HS.out _ (HKB_w.out.trans HE0a_w.out.keeps) | with_reducible exact HS.out _ (HKB_w.out.trans HE0b_w.out.keeps) | with_reducible exact HS.out _ (HKB_w.out.trans HE0c_w.out.keeps) | with_reducible exact HS.out _ (HKB_w.out.trans HE1.out.keeps) | with_reducible exact HS.out _ (HKB_w.out.trans (HE1.out.new 105).keeps) | with_reducible exact HS.out _ (HKB_w.out.trans (HE1.out.new2 105).keeps) | with_reducible exact HS.out _ (HKB_w.out.trans HE2.out.keeps) | with_reducible exact HS.out _ (HKB_w.out.trans (HE2.out.new 105).keeps) | with_reducible exact HS.out _ (HKB_w.out.trans (HE2.out.new2 105).keeps) | with_reducible exact HS.out _ (HKB_w.out.trans HK3.out))
      (first
       | (go_at_call 67; (with_reducible refine (HN1.out _ _ _ w.heap.size HKB_w.out HE0a_w.out HS0_w.out.1).mono ?_); rintro e w1 ⟨p1, rfl, o1, o2, h⟩; have HE1 := hid h; clear h)
       | (go_at_call 67; (with_reducible refine (HN1.out _ _ _ (w.heap.size + 1) HKB_w.out HE0b_w.out HS0_w.out.2.1).mono ?_); rintro e w1 ⟨p1, rfl, o1, o2, h⟩; have HE1 := hid h; clear h)
       | (go_at_call 67; (with_reducible refine (HN1.out _ _ _ (w.heap.size + 2) HKB_w.out HE0c_w.out HS0_w.out.2.2).mono ?_); rintro e w1 ⟨p1, rfl, o1, o2, h⟩; have HE1 := hid h; clear h)
       | (go_at_call 67; (with_reducible refine (HN2.out _ _ _ w1.heap.size HKB_w.out HE1.out (HSZ.out w1).1).mono ?_); rintro e w2 ⟨p2, rfl, o3, o4, h⟩; have HE2 := hid h; clear h)
       | (go_at_call 67; (with_reducible refine (HN2.out _ _ _ (w1.heap.size + 1) HKB_w.out (HE1.out.new 105) (HSZ.out w1).2.1).mono ?_); rintro e w2 ⟨p2, rfl, o3, o4, h⟩; have HE2 := hid h; clear h)
       | (go_at_call 67; (with_reducible refine (HN2.out _ _ _ (w1.heap.size + 2) HKB_w.out (HE1.out.new2 105) (HSZ.out w1).2.2).mono ?_); rintro e w2 ⟨p2, rfl, o3, o4, h⟩; have HE2 := hid h; clear h)
       | (go_at_call 101; (with_reducible refine (HQ.out _ _ _ _ _ _ _ HKB_w.out HE2.out (by repeat (first | exact upd_eq _ _ _ _ | (refine (upd_ne _ _ _ ?_).trans ?_; omega))) (by repeat (first | exact upd_eq _ _ _ _ | (refine (upd_ne _ _ _ ?_).trans ?_; omega))) (by repeat (first | exact upd_eq _ _ _ _ | (refine (upd_ne _ _ _ ?_).trans ?_; omega))) (by repeat (first | exact upd_eq _ _ _ _ | (refine (upd_ne _ _ _ ?_).trans ?_; omega))) (by omega) (by omega) (by omega) (by omega) (by omega)).mono ?_); rintro e w3 ⟨rfl, h⟩; have HE3 := hid h; have HK3 := hid (QRst.keeps h); clear h)
       | (go_at_call 101; (with_reducible refine (HQ.out _ _ _ _ _ _ _ HKB_w.out (HE2.out.new 105) (by repeat (first | exact upd_eq _ _ _ _ | (refine (upd_ne _ _ _ ?_).trans ?_; omega))) (by repeat (first | exact upd_eq _ _ _ _ | (refine (upd_ne _ _ _ ?_).trans ?_; omega))) (by repeat (first | exact upd_eq _ _ _ _ | (refine (upd_ne _ _ _ ?_).trans ?_; omega))) (by repeat (first | exact upd_eq _ _ _ _ | (refine (upd_ne _ _ _ ?_).trans ?_; omega))) (by omega) (by omega) (by omega) (by omega) (by omega)).mono ?_); rintro e w3 ⟨rfl, h⟩; have HE3 := hid h; have HK3 := hid (QRst.keeps h); clear h)
       | (go_at_call 101; (with_reducible refine (HQ.out _ _ _ _ _ _ _ HKB_w.out (HE2.out.new2 105) (by repeat (first | exact upd_eq _ _ _ _ | (refine (upd_ne _ _ _ ?_).trans ?_; omega))) (by repeat (first | exact upd_eq _ _ _ _ | (refine (upd_ne _ _ _ ?_).trans ?_; omega))) (by repeat (first | exact upd_eq _ _ _ _ | (refine (upd_ne _ _ _ ?_).trans ?_; omega))) (by repeat (first | exact upd_eq _ _ _ _ | (refine (upd_ne _ _ _ ?_).trans ?_; omega))) (by omega) (by omega) (by omega) (by omega) (by omega)).mono ?_); rintro e w3 ⟨rfl, h⟩; have HE3 := hid h; have HK3 := hid (QRst.keeps h); clear h))
    all_goals
      go_wp2_with fail
      go_meet
    all_goals exact HE3.out
  case rest =>
    have hk0 := QRst.keeps hcut
    obtain ⟨pq, pr, hqv, hrv, hE9, hpqr⟩ := hcut
    subst hqv; subst hrv
    have I1 := hid (hE9.get (p := pq) (t := 105) (z := x.tdiv y) (by rw [upd_ne _ _ _ hpqr, upd_eq]))
    have I2 := hid (hE9.get (p := pr) (t := 105) (z := x.tmod y) (upd_eq _ _ _ _))
    have HKB_wc := hid hk0
    have HE0_wc := hid (Env.start (fun _ => False) wc (fun _ h => h.elim))
    have HE0a_wc := hid HE0_wc.out.drew
    have HE0b_wc : Hid (Env (fun _ => False) wc (wc.alloc (.cells #[.bool false, .slice none 0 0] 105)).drew _) := hid (HE0_wc.out.new 105).drew
    have HE0c_wc : Hid (Env (fun _ => False) wc ((wc.alloc (.cells #[.bool false, .slice none 0 0] 105)).alloc (.cells #[.bool false, .slice none 0 0] 105)).drew _) := hid (HE0_wc.out.new2 105).drew
    have HS0_wc : Hid (wc.heap.size ≤ wc.drew.heap.size ∧ wc.heap.size + 1 ≤ (wc.alloc (.cells #[.bool false, .slice none 0 0] 105)).drew.heap.size ∧ wc.heap.size + 2 ≤ ((wc.alloc (.cells #[.bool false, .slice none 0 0] 105)).alloc (.cells #[.bool false, .slice none 0 0] 105)).drew.heap.size) := hid ⟨Nat.le_refl _, by simp, by simp⟩
    clear hE9 hk0 hpqr
    go_upto_region 1 with fail
    go_cut [8, 9] from 20 to 30 (fun dv mv wx => QRst wc (dmQ x y) (dmM x y) dv mv wx)
    case first =>
      go_region_held3 (fun w' => w'.cell? ⟨A, 0, none⟩ = some (.string sa) ∧ w'.cell? ⟨B, 0, none⟩ = some (.string sb))
        (first | with_reducible exact HS.out _ (HKB_wc.out.trans HE0a_wc.out.keeps) | with_reducible exact HS.out _ (HKB_wc.out.trans HE0b_wc.out.keeps) | with_reducible exact HS.out _ (HKB_wc.out.trans HE0c_wc.out.keeps) | with_reducible exact HS.out _ (HKB_wc.out.trans HE1.out.keeps) | with_reducible exact HS.out _ (HKB_wc.out.trans (HE1.out.new 105).keeps) | with_reducible exact HS.out _ (HKB_wc.out.trans (HE1.out.new2 105).keeps) | with_reducible exact HS.out _ (HKB_wc.out.trans HE2.out.keeps) | with_reducible exact HS.out _ (HKB_wc.out.trans (HE2.out.new 105).keeps) | with_reducible exact HS.out _ (HKB_wc.out.trans (HE2.out.new2 105).keeps) | with_reducible exact HS.out _ (HKB_wc.out.trans HK3.out))
        (first
         | (go_at_call 67; (with_reducible refine (HN1.out _ _ _ wc.heap.size HKB_wc.out HE0a_wc.out HS0_wc.out.1).mono ?_); rintro e w1 ⟨p1, rfl, o1, o2, h⟩; have HE1 := hid h; clear h)
         | (go_at_call 67; (with_reducible refine (HN1.out _ _ _ (wc.heap.size + 1) HKB_wc.out HE0b_wc.out HS0_wc.out.2.1).mono ?_); rintro e w1 ⟨p1, rfl, o1, o2, h⟩; have HE1 := hid h; clear h)
         | (go_at_call 67; (with_reducible refine (HN1.out _ _ _ (wc.heap.size + 2) HKB_wc.out HE0c_wc.out HS0_wc.out.2.2).mono ?_); rintro e w1 ⟨p1, rfl, o1, o2, h⟩; have HE1 := hid h; clear h)
         | (go_at_call 67; (with_reducible refine (HN2.out _ _ _ w1.heap.size HKB_wc.out HE1.out (HSZ.out w1).1).mono ?_); rintro e w2 ⟨p2, rfl, o3, o4, h⟩; have HE2 := hid h; clear h)
         | (go_at_call 67; (with_reducible refine (HN2.out _ _ _ (w1.heap.size + 1) HKB_wc.out (HE1.out.new 105) (HSZ.out w1).2.1).mono ?_); rintro e w2 ⟨p2, rfl, o3, o4, h⟩; have HE2 := hid h; clear h)
         | (go_at_call 67; (with_reducible refine (HN2.out _ _ _ (w1.heap.size + 2) HKB_wc.out (HE1.out.new2 105) (HSZ.out w1).2.2).mono ?_); rintro e w2 ⟨p2, rfl, o3, o4, h⟩; have HE2 := hid h; clear h)
         | (go_at_call 102; (with_reducible refine (HD.out _ _ _ _ _ _ _ HKB_wc.out HE2.out (by repeat (first | exact upd_eq _ _ _ _ | (refine (upd_ne _ _ _ ?_).trans ?_; omega))) (by repeat (first | exact upd_eq _ _ _ _ | (refine (upd_ne _ _ _ ?_).trans ?_; omega))) (by repeat (first | exact upd_eq _ _ _ _ | (refine (upd_ne _ _ _ ?_).trans ?_; omega))) (by repeat (first | exact upd_eq _ _ _ _ | (refine (upd_ne _ _ _ ?_).trans ?_; omega))) (by omega) (by omega) (by omega) (by omega) (by omega)).mono ?_); rintro e w3 ⟨rfl, h⟩; have HE3 := hid h; have HK3 := hid (QRst.keeps h); clear h)
         | (go_at_call 102; (with_reducible refine (HD.out _ _ _ _ _ _ _ HKB_wc.out (HE2.out.new 105) (by repeat (first | exact upd_eq _ _ _ _ | (refine (upd_ne _ _ _ ?_).trans ?_; omega))) (by repeat (first | exact upd_eq _ _ _ _ | (refine (upd_ne _ _ _ ?_).trans ?_; omega))) (by repeat (first | exact upd_eq _ _ _ _ | (refine (upd_ne _ _ _ ?_).trans ?_; omega))) (by repeat (first | exact upd_eq _ _ _ _ | (refine (upd_ne _ _ _ ?_).trans ?_; omega))) (by omega) (by omega) (by omega) (by omega) (by omega)).mono ?_); rintro e w3 ⟨rfl, h⟩; have HE3 := hid h; have HK3 := hid (QRst.keeps h); clear h)
         | (go_at_call 102; (with_reducible refine (HD.out _ _ _ _ _ _ _ HKB_wc.out (HE2.out.new2 105) (by repeat (first | exact upd_eq _ _ _ _ | (refine (upd_ne _ _ _ ?_).trans ?_; omega))) (by repeat (first | exact upd_eq _ _ _ _ | (refine (upd_ne _ _ _ ?_).trans ?_; omega))) (by repeat (first | exact upd_eq _ _ _ _ | (refine (upd_ne _ _ _ ?_).trans ?_; omega))) (by repeat (first | exact upd_eq _ _ _ _ | (refine (upd_ne _ _ _ ?_).trans ?_; omega))) (by omega) (by omega) (by omega) (by omega) (by omega)).mono ?_); rintro e w3 ⟨rfl, h⟩; have HE3 := hid h; have HK3 := hid (QRst.keeps h); clear h))
      all_goals
        go_wp2_with fail
        go_meet
      all_goals exact HE3.out
    case rest =>
      have hk1 := QRst.keeps hcut
      obtain ⟨pd, pm, hdv, hmv, hE9, hpdm⟩ := hcut
      subst hdv; subst hmv
      have I3 := hid (hE9.get (p := pd) (t := 105) (z := dmQ x y) (by rw [upd_ne _ _ _ hpdm, upd_eq]))
      have I4 := hid (hE9.get (p := pm) (t := 105) (z := dmM x y) (upd_eq _ _ _ _))
      have I1' := hid (I1.out.keep hk1)
      have I2' := hid (I2.out.keep hk1)
      have HK1 := hid (HKB_wc.out.trans hk1)
      clear hE9 hk1 hpdm HE0_wc HE0a_wc HE0b_wc HE0c_wc HE0_w HE0a_w HE0b_w HE0c_w I1 I2
      rename_i wd
      have HS1 := hid (HSt.out pq (x.tdiv y) T1 _ I1'.out HB1.out HT1.out HK1.out)
      go_wp2_with fail
      refine HS1.out.mono ?_
      rintro e w4 ⟨rfl, hk4⟩
      have HK4 := hid hk4
      have HS2 := hid (HSt.out pr (x.tmod y) T2 _ (I2'.out.keep hk4) HB2.out HT2.out (HK1.out.trans hk4))
      clear hk4 HS1
      go_wp2_with fail
      refine HS2.out.mono ?_
      rintro e w5 ⟨rfl, hk5⟩
      have HK5 := hid (HK4.out.trans hk5)
      have HS3 := hid (HSt.out pd (dmQ x y) T3 _ (I3.out.keep HK5.out) HB3.out HT3.out (HK1.out.trans HK5.out))
      clear hk5 HS2
      go_wp2_with fail
      refine HS3.out.mono ?_
      rintro e w6 ⟨rfl, hk6⟩
      have HK6 := hid (HK5.out.trans hk6)
      have HS4 := hid (HSt.out pm (dmM x y) T4 _ (I4.out.keep HK6.out) HB4.out HT4.out (HK1.out.trans HK6.out))
      clear hk6 HS3
      go_wp2_with fail
      refine HS4.out.mono ?_
      rintro e w7 ⟨rfl, hk7⟩
      have HK7 := hid ((HK1.out.trans HK6.out).trans hk7)
      obtain ⟨v2, v3, v4, v5, f2, f3, f4, f5⟩ := HST.out w7 HK7.out
      clear hk7 HS4 I1' I2' I3 I4
      go_wp2_with fail
      go_end0
      exact ⟨rfl, HFin.out w7 HK7.out⟩
end Go.Proofs
