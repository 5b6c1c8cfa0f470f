/- Parts of the proofs over the numbers of any length: Bez81, Bez24. -/
import Derived.Deep.RegionHeld3
import Derived.Test.YtacbllkmcldniaaGreatDoorGcdD
import Derived.Test.YtacbllkmcldniaaGreatDoorEnvN
import Derived.Test.YtacbllkmcldniaaGreatDoorShiftB
import Derived.Test.YtacbllkmcldniaaGreatDoorIntA
import Derived.Test.YtacbllkmcldniaaGreatDoorBaseD
set_option linter.unusedSimpArgs false
set_option linter.unusedVariables false
namespace Go.Proofs
open Go.RowKit
set_option maxHeartbeats 4000000
set_option linter.unusedVariables false
set_option linter.unusedSimpArgs false
set_option maxRecDepth 100000

/-- Three numbers in memory, of which the first is the divisor of a and b, the others its factors. -/
def BezSt (w : World) (a b : Int) (pz px py : Nat) (w' : World) : Prop :=
  ∃ V X sX Y, EnvG (fun _ => False) w w' V ∧ V pz = some (105, sv (Int.gcd a b : Int)) ∧ V px = some (105, (sX, X.natAbs)) ∧ V py = some (105, sv Y) ∧ (X ≠ 0 → sX = decide (X < 0)) ∧ a * X + b * Y = (Int.gcd a b : Int) ∧ X.natAbs ≤ b.natAbs + 1 ∧ Y.natAbs ≤ a.natAbs + 1
theorem BezSt.keeps {w w' : World} {a b : Int} {pz px py : Nat} (h : BezSt w a b pz px py w') : Keeps (fun _ => False) w w' := by
  obtain ⟨V, _, _, _, hE, _⟩ := h
  exact hE.keeps
theorem w79_both (p q r s t : Addr) (w : World) (R : World → Prop) (h : Calls Tryz.prog 156 #[.pointer (some p), .pointer (some q), .pointer (some r), .pointer (some s), .pointer (some t)] w.drew fun e w' => e = .returned (.pointer (some p)) ∧ R w') :
    Calls Tryz.prog 79 #[.pointer (some p), .pointer (some q), .pointer (some r), .pointer (some s), .pointer (some t)] w fun e w' => e = .returned (.pointer (some p)) ∧ R w' := by
  have H := hid h
  clear h
  obtain ⟨b0, o0, s0⟩ := p
  obtain ⟨b1, o1, s1⟩ := q
  obtain ⟨b2, o2, s2⟩ := r
  obtain ⟨b3, o3, s3⟩ := s
  obtain ⟨b4, o4, s4⟩ := t
  go_enter Tryz.func79, Tryz.ntmps79
  go_wp2_with fail
  go_still_tail 11, (by kernel_rfl)
  go_wp2_with fail
  refine H.out.mono ?_
  rintro e w1 ⟨rfl, hR⟩
  have HR := hid hR
  clear hR
  go_wp2_with fail
  go_ret
  exact ⟨rfl, HR.out⟩
theorem bez79 {w W : World} {V : Nat → Option (TypeId × Int)} (h : Env (fun _ => False) w W V) {pz px py pa pb : Nat} {a b : Int} (hz : V pz = some (105, 0)) (hx : V px = some (105, 0)) (hy : V py = some (105, 0)) (ha : V pa = some (105, a)) (hb : V pb = some (105, b))
    (hzx : pz ≠ px) (hzy : pz ≠ py) (hxy : px ≠ py) (hza : pz ≠ pa) (hzb : pz ≠ pb) (hya : py ≠ pa) (hyb : py ≠ pb) (G0 : Glob w) (hab : ¬ (a = 0 ∧ b = 0)) (hal : a.natAbs < 10 ^ 200) (hbl : b.natAbs < 10 ^ 200) :
    Calls Tryz.prog 79 #[.pointer (some ⟨pz, 0, none⟩), .pointer (some ⟨px, 0, none⟩), .pointer (some ⟨py, 0, none⟩), .pointer (some ⟨pa, 0, none⟩), .pointer (some ⟨pb, 0, none⟩)] W fun e w' => e = .returned (.pointer (some ⟨pz, 0, none⟩)) ∧ BezSt w a b pz px py w' := by
  have hlt : ∀ y : Int, y.natAbs < 10 ^ 200 → y.natAbs < W64 ^ 11 := fun y hy => Nat.lt_of_lt_of_le hy (by unfold W64; decide +kernel)
  refine w79_both ⟨pz, 0, none⟩ ⟨px, 0, none⟩ ⟨py, 0, none⟩ ⟨pa, 0, none⟩ ⟨pb, 0, none⟩ W (BezSt w a b pz px py) ((h.drew.h.gcd156_both (z := 0) (x := 0) (y := 0) (svV_some hz) (svV_some hx) (svV_some hy) (svV_some ha) (svV_some hb) hzx hzy hxy hza hzb hya hyb G0 (fun _ _ h => h) hab (hlt a hal) (hlt b hbl)).mono ?_)
  rintro e w' ⟨rfl, V', X, sX, Y, k1, k2, k3, k4, k5, _, k7, k8, k9⟩
  exact ⟨rfl, V', X, sX, Y, k1, k2, k3, k4, k5, k7, k8, k9⟩
/-- The text of a number. -/
def tx (z : Int) : ByteArray := strB (txt (decide (z < 0)) z.natAbs)
/-- The results of BigBezout. -/
def BezL (O2 O3 O4 : Nat) (g : Int) (xy : Int × Int) : List (Nat × TypeId × Value) := [(O2, 9, .string (tx g)), (O3, 9, .string (tx xy.1)), (O4, 9, .string (tx xy.2))]
def BezP (a b : Int) (xy : Int × Int) : Prop := a * xy.1 + b * xy.2 = (Int.gcd a b : Int) ∧ xy.1.natAbs ≤ b.natAbs + 1 ∧ xy.2.natAbs ≤ a.natAbs + 1
theorem bez81 (A B O2 O3 O4 : Nat) (sa sb : ByteArray) (na nb : Bool) (da db : Nat → Nat) (la lb : Nat) (a b : Int) (s2 s3 s4 : ByteArray) (w : World)
    (hA : w.cell? ⟨A, 0, none⟩ = some (.string sa)) (hB : w.cell? ⟨B, 0, none⟩ = some (.string sb)) (ta : NumText sa na la da) (tb : NumText sb nb lb db) (r2 : RowAt w O2 9 [.string s2]) (r3 : RowAt w O3 9 [.string s3]) (r4 : RowAt w O4 9 [.string s4]) (hnd : [O2, O3, O4].Nodup)
    (ha : a = numZ na (dval da la)) (hb : b = numZ nb (dval db lb)) (G : Glob w) (hab : ¬ (a = 0 ∧ b = 0)) (hal : a.natAbs < 10 ^ 200) (hbl : b.natAbs < 10 ^ 200) :
    Calls Tryz.prog 81 #[.pointer (some ⟨A, 0, none⟩), .pointer (some ⟨B, 0, none⟩), .pointer (some ⟨O2, 0, none⟩), .pointer (some ⟨O3, 0, none⟩), .pointer (some ⟨O4, 0, none⟩)] w fun e w' =>
      e = .returned (.tuple #[]) ∧ ∃ xy, BezP a b xy ∧ OutL w' (BezL O2 O3 O4 (Int.gcd a b : Int) xy) ∧ Keeps (OutK (BezL O2 O3 O4 0 (0, 0))) w w' := by
  have HG := hid G
  have hAl : A < w.heap.size := World.block_lt_of_cell? w ⟨A, 0, none⟩ hA
  have hBl : B < w.heap.size := World.block_lt_of_cell? w ⟨B, 0, none⟩ hB
  have HN1 : Hid (∀ W V k, Env (fun _ => False) w W V → k ≤ W.heap.size → Calls Tryz.prog 67 #[.string sa] W fun e w' => ∃ p, e = .returned (.pointer (some ⟨p, 0, none⟩)) ∧ k ≤ p ∧ p < w'.heap.size ∧ Env (fun _ => False) w w' (upd V p 105 a)) :=
    hid (fun W V k h hn => number_env h sa na la da a k hn ta ha (G.keep h.keeps (fun _ _ h => h)))
  have HN2 : Hid (∀ W V k, Env (fun _ => False) w W V → k ≤ W.heap.size → Calls Tryz.prog 67 #[.string sb] W fun e w' => ∃ p, e = .returned (.pointer (some ⟨p, 0, none⟩)) ∧ k ≤ p ∧ p < w'.heap.size ∧ Env (fun _ => False) w w' (upd V p 105 b)) :=
    hid (fun W V k h hk => number_env h sb nb lb db b k hk tb hb (G.keep h.keeps (fun _ _ h => h)))
  have HMI : Hid (∀ W V pz px py pa pb, Env (fun _ => False) w W V → V pz = some (105, 0) → V px = some (105, 0) → V py = some (105, 0) → V pa = some (105, a) → V pb = some (105, b) → pz ≠ px → pz ≠ py → px ≠ py → pz ≠ pa → pz ≠ pb → py ≠ pa → py ≠ pb →
      Calls Tryz.prog 79 #[.pointer (some ⟨pz, 0, none⟩), .pointer (some ⟨px, 0, none⟩), .pointer (some ⟨py, 0, none⟩), .pointer (some ⟨pa, 0, none⟩), .pointer (some ⟨pb, 0, none⟩)] W fun e w' => e = .returned (.pointer (some ⟨pz, 0, none⟩)) ∧ BezSt w a b pz px py w') := hid (fun W V pz px py pa pb h h1 h2 h3 h4 h5 d1 d2 d3 d4 d5 d6 d7 =>
    bez79 h h1 h2 h3 h4 h5 d1 d2 d3 d4 d5 d6 d7 G hab hal hbl)
  have HA := hid hA; have HB := hid hB
  have HS : Hid (∀ w', Keeps (fun _ => False) w w' → w'.cell? ⟨A, 0, none⟩ = some (.string sa) ∧ w'.cell? ⟨B, 0, none⟩ = some (.string sb)) := hid (fun w' hk =>
    ⟨(cell_of_block (p := ⟨A, 0, none⟩) (hk.block A hAl (fun h => h))).trans HA.out, (cell_of_block (p := ⟨B, 0, none⟩) (hk.block B hBl (fun h => h))).trans HB.out⟩)
  have R2 := hid r2; have R3 := hid r3; have R4 := hid r4
  have hgl : (Int.gcd a b : Int).natAbs < 10 ^ 200 := by
    rw [Int.natAbs_natCast]
    by_cases h : a = 0
    · have : Int.gcd a b ≤ b.natAbs := Nat.le_of_dvd (by have : b ≠ 0 := fun hb => hab ⟨h, hb⟩; omega) (Nat.gcd_dvd_right _ _)
      omega
    · have : Int.gcd a b ≤ a.natAbs := Nat.le_of_dvd (by omega) (Nat.gcd_dvd_left _ _)
      omega
  have h251 : (10 : Nat) ^ 200 + 1 ≤ 10 ^ 251 := by decide +kernel
  have HSTR : Hid (∀ W V p s z, EnvG (fun _ => False) w W V → V p = some (105, (s, z.natAbs)) → (z ≠ 0 → s = decide (z < 0)) → z.natAbs < 10 ^ 251 → Calls Tryz.prog 80 #[.pointer (some ⟨p, 0, none⟩)] W fun e w' => e = .returned (.string (tx z)) ∧ Keeps (fun _ => False) W w') := hid (fun W V p s z h h1 h2 h3 =>
    h.string80 h1 h2 (lt_TXB h3) (G.keep h.keeps (fun _ _ h => h)))
  simp only [List.nodup_cons, List.mem_cons, List.not_mem_nil, or_false, not_or, List.nodup_nil, not_false_eq_true, and_true] at hnd
  obtain ⟨⟨d23, d24⟩, d34⟩ := hnd
  have HST : Hid (∀ w7 T1 T2, Keeps (fun _ => False) w w7 → w7.cell? ⟨O2, 0, none⟩ = some (.string s2) ∧ w7.frozen? ⟨O2, 0, none⟩ = false ∧ (w7.setCell ⟨O2, 0, none⟩ (.string T1)).cell? ⟨O3, 0, none⟩ = some (.string s3) ∧ (w7.setCell ⟨O2, 0, none⟩ (.string T1)).frozen? ⟨O3, 0, none⟩ = false ∧
      ((w7.setCell ⟨O2, 0, none⟩ (.string T1)).setCell ⟨O3, 0, none⟩ (.string T2)).cell? ⟨O4, 0, none⟩ = some (.string s4) ∧ ((w7.setCell ⟨O2, 0, none⟩ (.string T1)).setCell ⟨O3, 0, none⟩ (.string T2)).frozen? ⟨O4, 0, none⟩ = false) := hid (fun w7 T1 T2 hk => by
    have q2 := hk.row R2.out (fun h => h)
    have q3 := (hk.row R3.out (fun h => h)).other (show (⟨O2, 0, none⟩ : Addr).block ≠ O3 from d23) (.string T1)
    have q4 := ((hk.row R4.out (fun h => h)).other (show (⟨O2, 0, none⟩ : Addr).block ≠ O4 from d24) (.string T1)).other (show (⟨O3, 0, none⟩ : Addr).block ≠ O4 from d34) (.string T2)
    exact ⟨q2.st.1, q2.st.2, q3.st.1, q3.st.2, q4.st.1, q4.st.2⟩)
  have HFin : Hid (∀ w7 g xy, Keeps (fun _ => False) w w7 → OutL (((w7.setCell ⟨O2, 0, none⟩ (.string (tx g))).setCell ⟨O3, 0, none⟩ (.string (tx xy.1))).setCell ⟨O4, 0, none⟩ (.string (tx xy.2))) (BezL O2 O3 O4 g xy) ∧
      Keeps (OutK (BezL O2 O3 O4 0 (0, 0))) w (((w7.setCell ⟨O2, 0, none⟩ (.string (tx g))).setCell ⟨O3, 0, none⟩ (.string (tx xy.1))).setCell ⟨O4, 0, none⟩ (.string (tx xy.2)))) := hid (fun w7 g xy hk => by
    refine ⟨stores_outL (L := BezL O2 O3 O4 g xy) (w := w7) (by simp [BezL, d23, d24, d34]) (fun x hx => ?_), ((hk.any).trans (stores_keeps (BezL O2 O3 O4 g xy) w7)).mono (fun i _ hi => ?_)⟩
    · simp only [BezL, List.mem_cons, List.not_mem_nil, or_false] at hx
      rcases hx with rfl | rfl | rfl
      · exact ⟨_, hk.row R2.out (fun h => h)⟩
      · exact ⟨_, hk.row R3.out (fun h => h)⟩
      · exact ⟨_, hk.row R4.out (fun h => h)⟩
    · obtain ⟨x, hx, he⟩ := hi
      simp only [BezL, List.mem_cons, List.not_mem_nil, or_false] at hx
      rcases hx with rfl | rfl | rfl
      · exact ⟨_, .head _, he⟩
      · exact ⟨_, .tail _ (.head _), he⟩
      · exact ⟨_, .tail _ (.tail _ (.head _)), he⟩)
  obtain ⟨P, hP⟩ : ∃ p, p = w.heap.size := ⟨_, rfl⟩
  obtain ⟨W2, hW2⟩ : ∃ W, W = (w.alloc (.cells #[.bool false, .slice none 0 0] 105)).alloc (.cells #[.bool false, .slice none 0 0] 105) := ⟨_, rfl⟩
  have hE0 := (Env.start (fun _ => False) w (fun _ h => h.elim)).new2 105
  rw [← hW2, ← hP] at hE0
  have hsz : P + 1 < W2.heap.size := by rw [hW2, hP]; simp
  have HE0 := hid hE0
  have HSZ : Hid (∀ W : World, W.heap.size ≤ W.heap.size ∧ W.heap.size + 1 ≤ (W.alloc (.cells #[.bool false, .slice none 0 0] 105)).heap.size) := hid (fun W => ⟨Nat.le_refl _, by simp⟩)
  have HE0a := hid HE0.out.drew
  have HE0b : Hid (Env (fun _ => False) w (W2.alloc (.cells #[.bool false, .slice none 0 0] 105)).drew _) := hid (HE0.out.new 105).drew
  have HS0 : Hid (W2.heap.size ≤ W2.drew.heap.size ∧ W2.heap.size + 1 ≤ (W2.alloc (.cells #[.bool false, .slice none 0 0] 105)).drew.heap.size) := hid ⟨Nat.le_refl _, by simp⟩
  obtain ⟨sA, sB⟩ := HS.out W2 hE0.keeps
  have HGL := hid hgl; have HAL := hid hal; have HBL := hid hbl; have H251 := hid h251
  clear hA hB ta tb ha hb G hab hal hbl hAl hBl r2 r3 r4 hgl h251 hE0
  go_enter Tryz.func81, Tryz.ntmps81
  go_upto_region 1 with fail
  rw [← hW2, ← hP]
  clear hW2 hP
  go_cut [7] from 10 to 18 (fun v wx => ∃ pz, v = .pointer (some ⟨pz, 0, none⟩) ∧ BezSt w a b pz P (P + 1) wx)
  case first =>
    go_region_held3 (fun w' => w'.cell? ⟨A, 0, none⟩ = some (.string sa) ∧ w'.cell? ⟨B, 0, none⟩ = some (.string sb))
      (first | with_reducible exact HS.out _ HE0a.out.keeps | with_reducible exact HS.out _ HE0b.out.keeps | with_reducible exact HS.out _ HE0.out.keeps | with_reducible exact HS.out _ (HE0.out.new 105).keeps | with_reducible exact HS.out _ HE1.out.keeps | with_reducible exact HS.out _ (HE1.out.new 105).keeps | with_reducible exact HS.out _ HE2.out.keeps | with_reducible exact HS.out _ (HE2.out.new 105).keeps | with_reducible exact HS.out _ HK3.out)
      (first
       | (go_at_call 67; (with_reducible refine (HN1.out _ _ W2.heap.size HE0a.out HS0.out.1).mono ?_); rintro e w1 ⟨p1, rfl, o1, o2, h⟩; have HE1 := hid h; clear h)
       | (go_at_call 67; (with_reducible refine (HN1.out _ _ (W2.heap.size + 1) HE0b.out HS0.out.2).mono ?_); rintro e w1 ⟨p1, rfl, o1, o2, h⟩; have HE1 := hid h; clear h)
       | (go_at_call 67; (with_reducible refine (HN2.out _ _ w1.heap.size HE1.out (HSZ.out w1).1).mono ?_); rintro e w2 ⟨p2, rfl, o3, o4, h⟩; have HE2 := hid h; clear h)
       | (go_at_call 67; (with_reducible refine (HN2.out _ _ (w1.heap.size + 1) (HE1.out.new 105) (HSZ.out w1).2).mono ?_); rintro e w2 ⟨p2, rfl, o3, o4, h⟩; have HE2 := hid h; clear h)
       | (go_at_call 79; (with_reducible refine (HMI.out _ _ _ _ _ _ _ HE2.out (by repeat (first | exact upd_eq _ _ _ _ | (refine (upd_ne _ _ _ ?_).trans ?_; omega))) (by repeat (first | exact upd_eq _ _ _ _ | (refine (upd_ne _ _ _ ?_).trans ?_; omega))) (by repeat (first | exact upd_eq _ _ _ _ | (refine (upd_ne _ _ _ ?_).trans ?_; omega))) (by repeat (first | exact upd_eq _ _ _ _ | (refine (upd_ne _ _ _ ?_).trans ?_; omega))) (by repeat (first | exact upd_eq _ _ _ _ | (refine (upd_ne _ _ _ ?_).trans ?_; omega))) (by omega) (by omega) (by omega) (by omega) (by omega) (by omega) (by omega)).mono ?_); rintro e w3 ⟨rfl, hb⟩; have HB3 := hid hb; have HK3 := hid (BezSt.keeps hb); clear hb)
       | (go_at_call 79; (with_reducible refine (HMI.out _ _ _ _ _ _ _ (HE2.out.new 105) (by repeat (first | exact upd_eq _ _ _ _ | (refine (upd_ne _ _ _ ?_).trans ?_; omega))) (by repeat (first | exact upd_eq _ _ _ _ | (refine (upd_ne _ _ _ ?_).trans ?_; omega))) (by repeat (first | exact upd_eq _ _ _ _ | (refine (upd_ne _ _ _ ?_).trans ?_; omega))) (by repeat (first | exact upd_eq _ _ _ _ | (refine (upd_ne _ _ _ ?_).trans ?_; omega))) (by repeat (first | exact upd_eq _ _ _ _ | (refine (upd_ne _ _ _ ?_).trans ?_; omega))) (by omega) (by omega) (by omega) (by omega) (by omega) (by omega) (by omega)).mono ?_); rintro e w3 ⟨rfl, hb⟩; have HB3 := hid hb; have HK3 := hid (BezSt.keeps hb); clear hb))
    all_goals
      go_wp2_with fail
      go_meet
    all_goals exact ⟨_, rfl, HB3.out⟩
  case rest =>
    obtain ⟨pz, rfl, V, X, sX, Y, hE, vz, vx, vy, hsX, hlaw, hX, hY⟩ := hcut
    have h1 := HAL.out; have h2 := HBL.out; have h3 := H251.out; have h4 := HGL.out
    have HT1 := hid (HSTR.out wc V pz _ _ hE vz (fun _ => rfl) (by omega))
    have HT2 := hid (fun W (hk : Keeps (fun _ => False) wc W) => HSTR.out W V P sX X (hE.same hk) vx hsX (by omega))
    have HT3 := hid (fun W (hk : Keeps (fun _ => False) wc W) => HSTR.out W V (P + 1) _ Y (hE.same hk) vy (fun _ => rfl) (by omega))
    have HK := hid hE.keeps
    have HP := hid (show BezP a b (X, Y) from ⟨hlaw, hX, hY⟩)
    clear hE vz vx vy hsX hlaw hX hY h1 h2 h3 h4 hsz sA sB
    go_wp2_with fail
    refine HT1.out.mono ?_
    rintro e w4 ⟨rfl, hk⟩
    have HK4 := hid hk
    clear hk
    go_wp2_with fail
    refine (HT2.out _ HK4.out).mono ?_
    rintro e w5 ⟨rfl, hk⟩
    have HK5 := hid (HK4.out.trans hk)
    clear hk
    go_wp2_with fail
    refine (HT3.out _ HK5.out).mono ?_
    rintro e w6 ⟨rfl, hk⟩
    have HK6 := hid (HK.out.trans (HK5.out.trans hk))
    clear hk
    obtain ⟨q0, q1, q2, q3, q4, q5⟩ := HST.out w6 (tx (Int.gcd a b : Int)) (tx X) HK6.out
    go_wp2_with fail
    go_end0
    exact ⟨rfl, (X, Y), HP.out, (HFin.out w6 _ (X, Y) HK6.out).1, (HFin.out w6 _ (X, Y) HK6.out).2⟩
end Go.Proofs
namespace Go.Proofs
open Go.RowKit
set_option maxHeartbeats 1600000
set_option linter.unusedVariables false
set_option linter.unusedSimpArgs false
set_option maxRecDepth 100000

theorem call81 (cap : Array Value) (w : World) : (callFunc 81 cap).run Tryz.prog w = .ok (.enter 81 cap) w := by simp [go_sem, callFunc, Tryz.func81]; rfl
theorem OutK.bez {O2 O3 O4 : Nat} {g : Int} {xy : Int × Int} {k : Nat} (h : OutK (BezL O2 O3 O4 g xy) k) : k = O2 ∨ k = O3 ∨ k = O4 := by
  obtain ⟨x, hx, he⟩ := h
  simp only [BezL, List.mem_cons, List.not_mem_nil, or_false] at hx
  rcases hx with rfl | rfl | rfl
  · exact .inl he
  · exact .inr (.inl he)
  · exact .inr (.inr he)
/-- BigBezout's results. -/
theorem bigBezout24 (sa sb : ByteArray) (na nb : Bool) (da db : Nat → Nat) (la lb : Nat) (a b : Int) (w : World) (ta : NumText sa na la da) (tb : NumText sb nb lb db)
    (ha : a = numZ na (dval da la)) (hb : b = numZ nb (dval db lb)) (G : Glob w) (hab : ¬ (a = 0 ∧ b = 0)) (hal : a.natAbs < 10 ^ 200) (hbl : b.natAbs < 10 ^ 200) :
    Calls Tryz.prog 24 #[.string sa, .string sb] w fun e w' => ∃ xy, BezP a b xy ∧ e = .returned (.tuple #[.string (tx (Int.gcd a b : Int)), .string (tx xy.1), .string (tx xy.2)]) ∧ Keeps (fun _ => False) w w' := by
  have hmf : ∀ (fn : Fn) (first cap : Array Value) (w : World), (Instr.makeFunc fn first cap).run Tryz.prog w = .ok (.func fn first cap) w := fun _ _ _ _ => rfl
  obtain ⟨B, hB⟩ : ∃ B : List (TypeId × Value), B = [(9, .string sa), (9, .string sb), (9, .string { data := #[] }), (9, .string { data := #[] }), (9, .string { data := #[] })] := ⟨_, rfl⟩
  obtain ⟨W, hW⟩ : ∃ W, W = boxed w B := ⟨_, rfl⟩
  obtain ⟨m, hm⟩ : ∃ m, m = w.heap.size := ⟨_, rfl⟩
  have hnest : (((((w.alloc (.cells #[.string sa] 9)).alloc (.cells #[.string sb] 9)).alloc (.cells #[.string { data := #[] }] 9)).alloc (.cells #[.string { data := #[] }] 9)).alloc (.cells #[.string { data := #[] }] 9)) = W := by rw [hW, hB]; rfl
  have hk : Keeps (fun _ => False) w W := by rw [hW]; exact boxed_keeps w B
  have hs : W.heap.size = m + 5 := by rw [hW, boxed_size, hB, hm]; rfl
  have hr : ∀ (i : Nat) (x : TypeId × Value), B[i]? = some x → RowAt W (m + i) x.1 [x.2] := fun i x h => by rw [hW, hm]; exact boxed_row w B i x h
  rw [hB] at hr
  have q0 : RowAt W (m) 9 [.string sa] := hr 0 _ rfl
  have q1 : RowAt W (m + 1) 9 [.string sb] := hr 1 _ rfl
  have q2 : RowAt W (m + 1 + 1) 9 [.string { data := #[] }] := hr 2 _ rfl
  have q3 : RowAt W (m + 1 + 1 + 1) 9 [.string { data := #[] }] := hr 3 _ rfl
  have q4 : RowAt W (m + 1 + 1 + 1 + 1) 9 [.string { data := #[] }] := hr 4 _ rfl
  have hk8 : Keeps (fun _ => False) W (W.alloc (.cells #[.bool false] 4)) := (Keeps.refl _ W).alloc _
  obtain ⟨g, hg⟩ : ∃ g : Int, g = (Int.gcd a b : Int) := ⟨_, rfl⟩
  have hsafe := safe_any 81 #[.pointer (some ⟨m, 0, none⟩), .pointer (some ⟨m + 1, 0, none⟩), .pointer (some ⟨m + 1 + 1, 0, none⟩), .pointer (some ⟨m + 1 + 1 + 1, 0, none⟩), .pointer (some ⟨m + 1 + 1 + 1 + 1, 0, none⟩)] W (fun w1 => ∃ xy, BezP a b xy ∧ OutL w1 (BezL (m + 1 + 1) (m + 1 + 1 + 1) (m + 1 + 1 + 1 + 1) g xy) ∧ Keeps (OutK (BezL (m + 1 + 1) (m + 1 + 1 + 1) (m + 1 + 1 + 1 + 1) 0 (0, 0))) W w1) (call81 _)
    ((bez81 m (m + 1) (m + 1 + 1) (m + 1 + 1 + 1) (m + 1 + 1 + 1 + 1) sa sb na nb da db la lb a b _ _ _ _ ((hk8.row q0 (fun h => h)).cell 0) ((hk8.row q1 (fun h => h)).cell 0) ta tb (hk8.row q2 (fun h => h)) (hk8.row q3 (fun h => h)) (hk8.row q4 (fun h => h)) (by simp) ha hb (G.keep (hk.trans hk8) (fun _ _ h => h)) hab hal hbl).mono
      (fun e w' h => by
        obtain ⟨he, xy, h1, h2, h3⟩ := h
        rw [← hg] at h2
        refine ⟨he, ⟨xy, h1, h2, hk8.any.trans h3⟩, h3.row (RowAt.new W 4 [.bool false]) (fun h => ?_)⟩
        have := OutK.bez h
        omega))
  have HS := hid hsafe; have HK := hid hk; have HM := hid hm; have HSZ := hid hs
  rw [← hg]
  clear hsafe hk q0 q1 q2 q3 q4 hr hs hB hW hk8 G ta tb ha hb hab hal hbl hg
  go_enter Tryz.func24, Tryz.ntmps24
  go_wp2_with fail
  rw [← hm]
  clear hnest hm
  refine HS.out.mono ?_
  rintro e w2 ⟨rfl, w1, ⟨xy, hP, ho, hk1⟩, hw2⟩
  obtain ⟨L, hL⟩ : ∃ L : List (Nat × TypeId × Value), L = BezL (m + 1 + 1) (m + 1 + 1 + 1) (m + 1 + 1 + 1 + 1) g xy := ⟨_, rfl⟩
  rw [← hL] at ho
  have hk2 : Keeps (OutK (BezL (m + 1 + 1) (m + 1 + 1 + 1) (m + 1 + 1 + 1 + 1) 0 (0, 0))) W w2 := by rw [hw2]; exact (hk1.setCell _ (.inr (Nat.le_refl _)) _).setCell _ (.inr (Nat.le_refl _)) _
  have ho2 : OutL w2 L := by
    rw [hw2]
    intro x hx
    have hne : W.heap.size ≠ x.1 := by
      have := HSZ.out
      rw [hL] at hx
      simp only [BezL, List.mem_cons, List.not_mem_nil, or_false] at hx
      rcases hx with rfl | rfl | rfl <;> simp <;> omega
    exact ((ho x hx).other (show (⟨W.heap.size, 0, none⟩ : Addr).block ≠ x.1 from hne) _).other (show (⟨W.heap.size, 0, none⟩ : Addr).block ≠ x.1 from hne) _
  have hkf : Keeps (fun _ => False) w w2 := HK.out.fresh hk2 (fun i h => by
    have := OutK.bez h
    have := HM.out
    omega)
  have HO := hid ho2; have HKF := hid hkf; have HP := hid hP; have HL := hid hL
  clear hk1 hk2 hkf ho hw2 hP hL
  have m0 : (m + 1 + 1, 9, (.string (tx g) : Value)) ∈ L := by rw [HL.out]; exact .head _
  have m1 : (m + 1 + 1 + 1, 9, (.string (tx xy.1) : Value)) ∈ L := by rw [HL.out]; exact .tail _ (.head _)
  have m2 : (m + 1 + 1 + 1 + 1, 9, (.string (tx xy.2) : Value)) ∈ L := by rw [HL.out]; exact .tail _ (.tail _ (.head _))
  have hS : ∀ w', OutL w' L → w'.cell? ⟨m + 1 + 1, 0, none⟩ = some (.string (tx g)) ∧ w'.cell? ⟨m + 1 + 1 + 1, 0, none⟩ = some (.string (tx xy.1)) ∧ w'.cell? ⟨m + 1 + 1 + 1 + 1, 0, none⟩ = some (.string (tx xy.2)) := fun w' h => ⟨h.cell m0, h.cell m1, h.cell m2⟩
  have HSS := hid hS
  have f0 := ho2.frozen m0; have f1 := ho2.frozen m1; have f2 := ho2.frozen m2
  obtain ⟨c0, c1, c2⟩ := hS w2 ho2
  have e0 := hid (show ∃ t, (m + 1 + 1, t, (.string (tx g) : Value)) ∈ L from ⟨_, m0⟩)
  have e1 := hid (show ∃ t, (m + 1 + 1 + 1, t, (.string (tx xy.1) : Value)) ∈ L from ⟨_, m1⟩)
  have e2 := hid (show ∃ t, (m + 1 + 1 + 1 + 1, t, (.string (tx xy.2) : Value)) ∈ L from ⟨_, m2⟩)
  clear ho2 m0 m1 m2 hS
  go_wp2_with fail
  go_region
  go_wp2_with fail
  have hof := (((HO.out.again e0.out).again e1.out).again e2.out).drew
  have hge : ∀ i, m ≤ i → w.heap.size ≤ i := fun i hi => by rw [← HM.out]; exact hi
  have hkf := ((((HKF.out.setCell ⟨m + 1 + 1, 0, none⟩ (.inr (hge _ (by show m ≤ m + 1 + 1; omega))) (.string (tx g))).setCell ⟨m + 1 + 1 + 1, 0, none⟩ (.inr (hge _ (by show m ≤ m + 1 + 1 + 1; omega))) (.string (tx xy.1))).setCell ⟨m + 1 + 1 + 1 + 1, 0, none⟩ (.inr (hge _ (by show m ≤ m + 1 + 1 + 1 + 1; omega))) (.string (tx xy.2)))).drew
  obtain ⟨a0, a1, a2⟩ := HSS.out _ hof
  generalize (((w2.setCell ⟨m + 1 + 1, 0, none⟩ (.string (tx g))).setCell ⟨m + 1 + 1 + 1, 0, none⟩ (.string (tx xy.1))).setCell ⟨m + 1 + 1 + 1 + 1, 0, none⟩ (.string (tx xy.2))).drew = wf at *
  refine bodyPost_ret (v := .tuple #[.string (tx g), .string (tx xy.1), .string (tx xy.2)]) ?_ rfl ⟨xy, HP.out, rfl, hkf⟩
  simp [results, Tryz.results24, go_sem, a0, a1, a2]
end Go.Proofs
