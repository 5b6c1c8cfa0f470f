/- Parts of the proofs over the numbers of any length: DivU, Rem, ExpM, ExpF, ExpJ. -/
import Derived.Test.YtacbllkmcldniaaGreatDoorDivD
import Derived.Test.YtacbllkmcldniaaGreatDoorTellA
set_option linter.unusedSimpArgs false
set_option linter.unusedVariables false
namespace Go.Proofs
open Go.RowKit
set_option maxHeartbeats 1600000
set_option linter.unusedVariables false
set_option linter.unusedSimpArgs false
set_option maxRecDepth 100000

/-- make, where there is room: the place itself. -/
theorem make_fits (b o l c n : Nat) (w : World) (hn : n ≤ c) (hc : c ≤ BIGL) :
    Calls Tryz.prog 229 #[.slice (some ⟨b, o, none⟩) l c, .int .i64 (n : Int)] w fun e w' => e = .returned (.slice (some ⟨b, o, none⟩) n c) ∧ w' = w := by
  unfold BIGL at hc
  go_enter Tryz.func229, Tryz.ntmps229
  go_wp2
  go_ret
  exact ⟨rfl, rfl⟩
theorem norm_sg (b o l c : Nat) (L : List Nat) (w : World) (h : Sg w b o L) (hl : L.length = l) (hlc : l ≤ c) (hl2 : l ≤ 1000000) (hc : c ≤ BIGL) :
    Calls Tryz.prog 232 #[.slice (some ⟨b, o, none⟩) l c] w fun e w' => ∃ n, e = .returned (.slice (some ⟨b, o, none⟩) n c) ∧ n ≤ l ∧ w = w' := by
  unfold BIGL at hc
  have Hcell := hid (fun i (hi : i < l) => h.cell (i := i) (by omega))
  clear h
  go_enter Tryz.func232, Tryz.ntmps232
  go_wp2
  go_loop [3] (fun i => ∃ k : Nat, k ≤ l ∧ i = .int .i64 (k : Int)) (fun i => (intOf i).toNat)
  case atStart => exact ⟨l, Nat.le_refl _, rfl⟩
  case round =>
    obtain ⟨k, hk, rfl⟩ := hrel
    by_cases h0 : k = 0
    · subst h0
      go_wp2
      go_ret
      exact ⟨0, rfl, Nat.zero_le _, rfl⟩
    · obtain ⟨j, rfl⟩ : ∃ j, k = j + 1 := ⟨k - 1, by omega⟩
      have hcc := Hcell.out j (by omega)
      by_cases hz : L.getD j 0 = 0
      · rw [hz] at hcc
        clear hz
        go_wp2
        exact ⟨⟨j, by omega, rfl⟩, by simp [intOf]⟩
      · obtain ⟨v, hv⟩ : ∃ v, v = L.getD j 0 := ⟨_, rfl⟩
        rw [← hv] at hcc hz
        have Hv := hid hv
        clear hv
        have hbb : ((v : Int) == 0) = false := by simp; omega
        clear hz
        go_wp2
        go_ret
        exact ⟨j + 1, rfl, hk, rfl⟩
theorem alias_far (b o l c xb xo xl xc : Nat) {L X : List Nat} (w : World) (hc : 0 < c) (hcB : c ≤ BIGL) (hxc : 0 < xc) (hxcB : xc ≤ 1000000) (hb : Sg w b o L) (hx : Sg w xb xo X) (hbb : b ≠ xb) :
    Calls Tryz.prog 201 #[.slice (some ⟨b, o, none⟩) l c, .slice (some ⟨xb, xo, none⟩) xl xc] w fun e w' => e = .returned (.bool false) ∧ ∃ k, w' = w.drewN k := by
  unfold BIGL at hcB
  obtain ⟨M, hM, _⟩ := hb
  obtain ⟨N, hN, _⟩ := hx
  have hc0 : decide (0 < c) = true := by simp; omega
  have hc1 : decide (0 < xc) = true := by simp; omega
  have hsl := slice101_full b o l c
  have hsl2 := slice101_full xb xo xl xc
  have hw1 : IntKind.i64.wrap ((c : Int) - 1) = (c : Int) - 1 := IntWalk.i64_in _ (by omega)
  have hw2 : IntKind.i64.wrap ((xc : Int) - 1) = (xc : Int) - 1 := IntWalk.i64_in _ (by omega)
  have hi1 : (0 : Int) ≤ (c : Int) - 1 := by omega
  have hi2 : (0 : Int) ≤ (xc : Int) - 1 := by omega
  have hi1' : (c : Int) - 1 < (c : Int) := by omega
  have hi2' : (xc : Int) - 1 < (xc : Int) := by omega
  have hi3 : ((c : Int) - 1).toNat = c - 1 := by omega
  have hi4 : ((xc : Int) - 1).toNat = xc - 1 := by omega
  have heq := eql195_other (o := o + (c - 1)) (o' := xo + (xc - 1)) hM hN hbb
  have heq' := fun k => eql195_other (w := w.drewN k) (o := o + (c - 1)) (o' := xo + (xc - 1)) hM hN hbb
  clear hM hN hc hxc hbb
  go_enter Tryz.func201, Tryz.ntmps201
  go_wp2_with fail
  go_quiet (fail)
  go_wp2_with fail
  go_ret
  exact ⟨rfl, _, rfl⟩

/-- What a division leaves whose quotient nobody reads. -/
def DivU (w : World) (zb zo zn : Nat) (a2 : Option Addr) (c2 N d p sp : Nat) (D : Option (Nat × Nat)) (e : Ending) (w' : World) : Prop :=
  ∃ q ra rl rc D', e = .returned (.tuple #[q, .slice ra rl rc]) ∧ Rd w' ra rl rc (words (N % d)) ∧ Into w a2 c2 ra rc ∧
    Stk w' p sp D' ∧ StI w D D' ∧ (∀ s e, D' = some (s, e) → ¬ InB ra e) ∧ KC (fun b i => Cl zb zo zn b i ∨ InB a2 b ∨ StC p sp D b i) w w'

theorem divLarge241_u (zb zo l c : Nat) (Lz : List Nat) (a2 : Option Addr) (l2 c2 : Nat) (L2 : List Nat) (x : Option Addr) (xl xc N : Nat) (y : Option Addr) (n yc d p sp : Nat) (D : Option (Nat × Nat)) (w : World)
    (hz : Sg w zb zo Lz) (hLz : Lz.length + n = xl + 1) (hzc : Lz.length ≤ c) (hcB : c ≤ BIGL) (hz2 : Rd w a2 l2 c2 L2) (hx : Rd w x xl xc (words N)) (hy : Rd w y n yc (words d)) (hn2 : 2 ≤ n) (hn : n < 40) (hnx : n ≤ xl) (hxl : xl ≤ 100000)
    (hzz : ¬ InB a2 zb) (hzu : Under D sp zb zo Lz.length) (hax : Al a2 c2 x xc) (hst : Stk w p sp D) (hsp : sp ≤ 300000) (hD : ∀ s e, D = some (s, e) → ¬ InB a2 e ∧ ¬ InB x e ∧ ¬ InB y e) (G : Glob w) (hpG : ¬ GB p) :
    Calls Tryz.prog 241 #[.slice (some ⟨zb, zo, none⟩) l c, .pointer (some ⟨p, 0, none⟩), .slice a2 l2 c2, .slice x xl xc, .slice y n yc] w (DivU w zb zo Lz.length a2 c2 N d p sp D) := by
  obtain ⟨m, rfl⟩ : ∃ m, xl = m + n := ⟨xl - n, by omega⟩
  have hLm : Lz.length = m + 1 := by omega
  rw [hLm] at hzu hzc ⊢
  obtain ⟨n1, hn1⟩ : ∃ n1, n1 + 1 = n := ⟨n - 1, by omega⟩
  have e1 : (n : Int) - 1 = (n1 : Int) := by omega
  have hdl := hy.length
  have hNl := hx.length
  have hd0 : d ≠ 0 := by rintro rfl; rw [words_zero] at hdl; simp at hdl; omega
  obtain ⟨t, ht⟩ : ∃ t, t = (words d).getD (n - 1) 0 := ⟨_, rfl⟩
  obtain ⟨s, hs⟩ : ∃ s, s = nz t := ⟨_, rfl⟩
  obtain ⟨hs63, hVv, v1, v2, hV, hv63⟩ := scaled_div hdl hn2 (s := s) (by rw [hs, ht])
  obtain ⟨hUv, hUw, hUt⟩ := scaled_num (s := s) hNl hs63
  have ht0 : t ≠ 0 := by rw [ht]; have := words_last hd0; rwa [hdl] at this
  have htl : t < W64 := by rw [ht]; exact (words_words d).getD _
  obtain ⟨yb, yo, rfl, hys⟩ := hy.sg (by omega)
  obtain ⟨xb, xo, rfl, hxs⟩ := hx.sg (by omega)
  have ct := hys.cell (i := n1) (by omega)
  rw [show n1 = n - 1 by omega, ← ht, show n - 1 = n1 by omega] at ct
  have HS := hid (save271 p sp D w hst)
  have HNZ := hid (fun W => nlz_any t W ht0 htl)
  rw [← hs] at HNZ
  have HN := hid (nat272 p sp n D w hst (by omega) (by omega))
  have Hz := hid hz; have Hz2 := hid hz2; have Hx := hid hx; have Hy := hid hy; have Hzz := hid hzz; have Hzu := hid hzu; have Hax := hid hax; have Hst := hid hst; have HD := hid hD; have HG := hid G; have HpG := hid hpG
  have HV := hid hV; have HVv := hid hVv; have HUv := hid hUv; have HUw := hid hUw; have HUt := hid hUt; have Hv63 := hid hv63; have Hdl := hid hdl; have HNl := hid hNl; have Hd0 := hid hd0
  have Hxs := hid hxs; have Hys := hid hys
  clear hz hz2 hx hy hzz hzu hax hst hD G hV hVv hUv hUw hUt hv63 ht hs hdl hNl hd0 ht0 htl hxs hys hpG
  go_enter_defers Tryz.func241, Tryz.ntmps241
  go_wp2_with fail
  refine HS.out.mono ?_
  rintro e w0 ⟨rfl, rfl⟩
  go_wp2_with fail
  refine (HNZ.out _).mono ?_
  rintro e w0' ⟨rfl, rfl⟩
  go_wp2_with fail
  refine HN.out.mono ?_
  rintro e w1 ⟨vb, vo, vc, sp1, D1, rfl, hvc1, hvc2, hsn⟩
  have hvc2' : vc ≤ 9223372036854775807 := hvc2
  have SN := hid hsn
  have X1 := hid (Hx.out.keepC hsn.kc (fun b o h i _ _ => Hx.out.notSt Hst.out (fun s e h => (HD.out s e h).2.1) b o h i))
  have Y1 := hid (Hy.out.keepC hsn.kc (fun b o h i _ _ => Hy.out.notSt Hst.out (fun s e h => (HD.out s e h).2.2) b o h i))
  have Z1 := hid (Hz.out.keep hsn.kc (Hst.out.not_c Hz.out (by rw [hLm]; exact Hzu.out)))
  have Z21 := hid (Hz2.out.keepC hsn.kc (fun b o h i _ _ => Hz2.out.notSt Hst.out (fun s e h => (HD.out s e h).1) b o h i))
  have DZV : Hid (Dis zb zo (m + 1) vb vo n) := hid (hsn.dis Hz.out.lt Hzu.out)
  -- the piece's block is none of theirs
  have Hvb : Hid (∀ q : Option Addr, (∀ k, InB q k → k < w0'.heap.size) → (∀ s e, D = some (s, e) → ¬ InB q e) → ¬ InB q vb) := hid (by
    rintro q hq1 hq2 hq
    rcases hsn.place with h | ⟨s, h, _⟩
    · have := hq1 vb hq; omega
    · exact hq2 s vb h hq)
  have HMK := hid (make_any a2 l2 c2 (m + n + 1) L2 w1 Z21.out (by omega) (by omega))
  clear hsn ct HN HS HNZ
  go_wp2_with fail
  refine HMK.out.mono ?_
  rintro e w2 ⟨ra, uc, rfl, hm⟩
  obtain ⟨ub, uo, M2, rfl, hb2, hw2, hu1, hu2, hu3, hi2, hk2⟩ := hm.rd
  have hkc2 : KC (fun _ _ => False) w1 w2 := KC.of_keeps hk2
  obtain ⟨xb', xo', hxe, hxs2⟩ := (X1.out.keep hk2 (fun _ _ h => h)).sg (by omega)
  cases hxe
  obtain ⟨yb', yo', hye, hys2⟩ := (Y1.out.keep hk2 (fun _ _ h => h)).sg (by omega)
  cases hye
  obtain ⟨H, hHl, hHs1⟩ := SN.out.sg
  have hHs := hHs1.keep hkc2 (fun _ _ _ h => h)
  have hux : xb ≠ ub ∨ xo = uo := by
    rcases hi2.al Hax.out (fun k hk => X1.out.lt hk) _ _ _ _ rfl rfl with h | h
    · exact .inl (Ne.symm h)
    · exact .inr h.1.symm
  have hxv : xb ≠ vb := fun h => Hvb.out (some ⟨xb, xo, none⟩) (fun k hk => Hx.out.lt hk) (fun s e h => (HD.out s e h).2.1) ⟨xo, by rw [h]⟩
  have hyv : yb ≠ vb := fun h => Hvb.out (some ⟨yb, yo, none⟩) (fun k hk => Hy.out.lt hk) (fun s e h => (HD.out s e h).2.2) ⟨yo, by rw [h]⟩
  have huv : ub ≠ vb := by
    rintro rfl
    rcases hi2.inB ⟨uo, rfl⟩ with h | h
    · exact Hvb.out a2 (fun k hk => Hz2.out.lt hk) (fun s e h => (HD.out s e h).1) h
    · have := hHs1.lt; omega
  have hst2 : Stk w2 p sp1 D1 := SN.out.stk.keepF hk2
  have hu2s : Sg w2 ub uo (seg M2 uo (m + n + 1)) := ⟨M2, hb2, hw2, Nat.le_trans hu3 LIM_BIGL, by rw [length_seg (by omega)]; omega, by rw [length_seg (by omega)]⟩
  have hu2l : (seg M2 uo (m + n + 1)).length = m + n + 1 := length_seg (by omega)
  have XS := hid hxs2; have YS := hid hys2; have HS2 := hid hHs; have HHl := hid hHl; have ST2 := hid hst2; have US := hid hu2s; have UL := hid hu2l; have HI2 := hid hi2; have HK2 := hid hk2
  have HB2 := hid hb2
  have HXU := hid hux; have HXV := hid hxv; have HYV := hid hyv; have HUV := hid huv
  clear hm hb2 hw2 hi2 hk2 hkc2 hxs2 hys2 hHs1 hHs hux hxv hyv huv hst2 hu2s hu2l HMK
  have s2 : ∀ w : World, (Instr.slice 101 (.slice (some ⟨ub, uo, none⟩) (m + n + 1) uc) none (some (.int .i64 ((m : Int) + (n : Int)))) none).run Tryz.prog w = .ok (.slice (some ⟨ub, uo, none⟩) (m + n) uc) w := by
    have := slice101_pre ub uo (m + n + 1) uc (m + n) (by omega)
    rwa [Int.natCast_add] at this
  go_upto_if 40 with fail
  go_cut [] from 40 to 68 (fun wx => Sg wx vb vo (shlL s (words d) n) ∧ Sg wx ub uo (shlL s (words N) (m + n) ++ [shlC s (words N) (m + n)]) ∧ Stk wx p sp1 D1 ∧ KC (fun b i => Cl vb vo n b i ∨ Cl ub uo (m + n + 1) b i) w2 wx)
  case first =>
    by_cases hs0 : s = 0
    · subst hs0
      have hv0 : shlL 0 (words d) n = words d := by rw [shlL_id (words_words d) (by rw [Hdl.out]; exact Nat.le_refl _), List.take_of_length_le (by rw [Hdl.out]; exact Nat.le_refl _)]
      have hu0 : shlL 0 (words N) (m + n) ++ [shlC 0 (words N) (m + n)] = words N ++ [0] := by rw [shlL_id (words_words N) (by rw [HNl.out]; exact Nat.le_refl _), List.take_of_length_le (by rw [HNl.out]; exact Nat.le_refl _), shlC_zero (words_words N)]
      have HV0 := hid hv0; have HU0 := hid hu0
      have husub := US.out.sub 0 (m + n) (by rw [UL.out]; omega)
      rw [Nat.add_zero] at husub
      have hsl : (seg (seg M2 uo (m + n + 1)) 0 (m + n)).length = m + n := length_seg (by rw [UL.out]; omega)
      have HUsub := hid husub; have HSl := hid hsl
      clear hv0 hu0 husub hsl HUv HUw HUt HV HVv
      go_upto_region 9 with (refine wpList_cpSg rfl (.tmp 41) (.tmp 42) 101 101 rfl u101 vb vo yb yo n vc yc rfl rfl _ _ HS2.out YS.out HHl.out Hdl.out ?_; intro w3 h1 h2)
      have hxs3 := XS.out.keepCl h2 (.inl HXV.out)
      have hus3 := US.out.keepCl h2 (.inl HUV.out)
      have husub3 := HUsub.out.keepCl h2 (.inl HUV.out)
      have H1 := hid h1; have K2 := hid h2; have XS3 := hid hxs3; have US3 := hid hus3; have UB3 := hid husub3
      clear h1 h2 hxs3 hus3 husub3
      go_upto_region 10 with (refine wpList_cpSg rfl (.tmp 47) (.tmp 48) 101 101 rfl u101 ub uo xb xo (m + n) uc xc rfl rfl _ _ UB3.out XS3.out HSl.out HNl.out ?_; intro w4 h1 h2)
      have hu4 := Sg.part (j := 0) (R := words N) US3.out (by rw [HNl.out]; exact h2) (by rw [Nat.add_zero]; exact h1) (by rw [HNl.out, UL.out]; omega)
      have hu4l : (splice (seg M2 uo (m + n + 1)) 0 (words N)).length = m + n + 1 := by rw [length_splice (by rw [HNl.out, UL.out]; omega), UL.out]
      have cu := hu4.cell (i := m + n) (by omega)
      have fu := hu4.frozen (uo + (m + n))
      obtain ⟨g1, g2⟩ := hu4.set (i := m + n) (v := 0) (by omega) W64_pos
      have hfin : (splice (seg M2 uo (m + n + 1)) 0 (words N)).set (m + n) 0 = words N ++ [0] := by
        have h1 := splice_snoc (L := seg M2 uo (m + n + 1)) (o := 0) (R := words N) (v := 0) (by rw [HNl.out, UL.out]; omega)
        rw [Nat.zero_add, HNl.out] at h1
        rw [h1]
        simp [splice, HNl.out, UL.out]
      rw [hfin] at g1
      have hfv : Sg (w4.setCell ⟨ub, uo + (m + n), none⟩ (.int .u64 ((0 : Nat) : Int))) vb vo (words d) := (H1.out.keepCl h2 (.inl (Ne.symm HUV.out))).keepCl g2 (.inl (Ne.symm HUV.out))
      have hfs : Stk (w4.setCell ⟨ub, uo + (m + n), none⟩ (.int .u64 ((0 : Nat) : Int))) p sp1 D1 := ((ST2.out.keepCl HS2.out K2.out).keepCl US3.out h2).keepCl hu4 g2
      have hfk : KC (fun b i => Cl vb vo n b i ∨ Cl ub uo (m + n + 1) b i) w2 (w4.setCell ⟨ub, uo + (m + n), none⟩ (.int .u64 ((0 : Nat) : Int))) := by
        refine (K2.out.trans' (h2.trans' g2 (E := fun b i => Cl ub uo (m + n + 1) b i) ?_ ?_) ?_ ?_)
        · rintro b i _ ⟨h1, h2, h3⟩; exact ⟨h1, by omega, by omega⟩
        · rintro b i _ ⟨h1, h2, h3⟩; exact ⟨h1, by omega, by omega⟩
        · rintro b i _ h; exact .inl h
        · rintro b i _ h; exact .inr h
      have F1 := hid g1; have F2 := hid hfv; have F3 := hid hfs; have F4 := hid hfk
      clear h1 h2 hu4 hu4l g1 g2 hfin hfv hfs hfk
      go_wp2_with fail
      go_meet
      case rel => exact ⟨by rw [HV0.out]; exact F2.out, by rw [HU0.out]; exact F1.out, F3.out, F4.out⟩
    · have t1 : ((s : Int) == 0) = false := by simp; omega
      have hs0p : 0 < s := by omega
      have HL1 := hid (lshVU_sg vb vo vc yb yo yc n s H (words d) w2 (by omega) (by omega) HS2.out YS.out HHl.out Hdl.out (by omega) hs63 (.inl HYV.out))
      clear hs0
      go_wp2_with fail
      refine HL1.out.mono ?_
      rintro e w3 ⟨rfl, h1, h2⟩
      have hxs3 := XS.out.keepCl h2 (.inl HXV.out)
      have hus3 := US.out.keepCl h2 (.inl HUV.out)
      have husub := hus3.sub 0 (m + n) (by rw [UL.out]; omega)
      rw [Nat.add_zero] at husub
      have hsl : (seg (seg M2 uo (m + n + 1)) 0 (m + n)).length = m + n := length_seg (by rw [UL.out]; omega)
      have HL2 := hid (lshVU_sg ub uo uc xb xo xc (m + n) s _ (words N) w3 (by omega) (by omega) husub hxs3 hsl HNl.out (by omega) hs63 (by
        rcases HXU.out with h | h
        · exact .inl h
        · exact .inr (.inl (Nat.le_of_eq h))))
      obtain ⟨cw, hcw⟩ : ∃ cw, cw = (words N).getD (m + n - 1) 0 / 2 ^ (64 - s) := ⟨_, rfl⟩
      rw [← hcw] at HL2
      have Hcw := hid hcw; have H1 := hid h1; have K2 := hid h2; have US3 := hid hus3
      clear h1 h2 hcw hxs3 hus3 husub HL1
      go_wp2_with fail
      refine HL2.out.mono ?_
      rintro e w4 ⟨rfl, h1, h2⟩
      have hu4 := Sg.part (j := 0) (R := shlL s (words N) (m + n)) US3.out (by rw [shlL_length]; exact h2) (by rw [Nat.add_zero]; exact h1) (by rw [shlL_length, UL.out]; omega)
      have hu4l : (splice (seg M2 uo (m + n + 1)) 0 (shlL s (words N) (m + n))).length = m + n + 1 := by rw [length_splice (by rw [shlL_length, UL.out]; omega), UL.out]
      have cu := hu4.cell (i := m + n) (by omega)
      have fu := hu4.frozen (uo + (m + n))
      have hcC : cw = shlC s (words N) (m + n) := by rw [Hcw.out]; unfold shlC; rw [if_neg (by omega)]
      obtain ⟨g1, g2⟩ := hu4.set (i := m + n) (v := cw) (by omega) (by rw [hcC]; have := HUt.out; unfold W64; omega)
      have hfin : (splice (seg M2 uo (m + n + 1)) 0 (shlL s (words N) (m + n))).set (m + n) cw = shlL s (words N) (m + n) ++ [shlC s (words N) (m + n)] := by
        have h1 := splice_snoc (L := seg M2 uo (m + n + 1)) (o := 0) (R := shlL s (words N) (m + n)) (v := cw) (by rw [shlL_length, UL.out]; omega)
        rw [Nat.zero_add, shlL_length] at h1
        rw [h1, hcC]
        simp [splice, shlL_length, UL.out]
      rw [hfin] at g1
      have hfv : Sg (w4.setCell ⟨ub, uo + (m + n), none⟩ (.int .u64 (cw : Int))) vb vo (shlL s (words d) n) := (H1.out.keepCl h2 (.inl (Ne.symm HUV.out))).keepCl g2 (.inl (Ne.symm HUV.out))
      have hfs : Stk (w4.setCell ⟨ub, uo + (m + n), none⟩ (.int .u64 (cw : Int))) p sp1 D1 := ((ST2.out.keepCl HS2.out K2.out).keepCl US3.out h2).keepCl hu4 g2
      have hfk : KC (fun b i => Cl vb vo n b i ∨ Cl ub uo (m + n + 1) b i) w2 (w4.setCell ⟨ub, uo + (m + n), none⟩ (.int .u64 (cw : Int))) := by
        refine (K2.out.trans' (h2.trans' g2 (E := fun b i => Cl ub uo (m + n + 1) b i) ?_ ?_) ?_ ?_)
        · rintro b i _ ⟨h1, h2, h3⟩; exact ⟨h1, by omega, by omega⟩
        · rintro b i _ ⟨h1, h2, h3⟩; exact ⟨h1, by omega, by omega⟩
        · rintro b i _ h; exact .inl h
        · rintro b i _ h; exact .inr h
      have F1 := hid g1; have F2 := hid hfv; have F3 := hid hfs; have F4 := hid hfk
      clear h1 h2 hu4 hu4l hcC g1 g2 hfin hfv hfs hfk HL2
      go_wp2_with fail
      go_meet
      case rel => exact ⟨F2.out, F1.out, F3.out, F4.out⟩
  case rest =>
    obtain ⟨hV', hU', hS', hK'⟩ := hcut
    have hUl : (shlL s (words N) (m + n) ++ [shlC s (words N) (m + n)]).length = m + n + 1 := by rw [List.length_append, shlL_length]; rfl
    have hzub : zb ≠ ub := by
      rintro rfl
      rcases HI2.out.inB ⟨uo, rfl⟩ with h2 | h2
      · exact Hzz.out h2
      · have := Z1.out.lt; omega
    have hz2w : Sg w2 zb zo Lz := Z1.out.keep (KC.of_keeps (C := fun _ _ => False) HK2.out) (fun _ _ _ h => h)
    have hzc' : Sg wc zb zo Lz := hz2w.keep hK' (by
      rintro i i1 i2 (⟨h1, h2, h3⟩ | ⟨h1, _⟩)
      · rcases DZV.out with h | h | h
        · exact h h1
        · omega
        · omega
      · exact hzub h1)
    obtain ⟨MU, mu1, mu2, mu3, _⟩ := hK'.words ub M2 HB2.out (by have := US.out; obtain ⟨M, q1, q2, _⟩ := this; rw [HB2.out.inj q1]; exact q2)
    have HMU1 := hid (show uc ≤ LIM from by omega)
    unfold LIM at HMU1
    have HAL := hid (alias_far zb zo l c ub uo (m + n + 1) uc wc (by omega) hcB (by omega) (by have := HMU1.out; omega) hzc' hU' hzub)
    have HMK2 := hid (fun k => make_fits zb zo l c (m + 1) (wc.drewN k) (by omega) hcB)
    have hG1 : Glob w1 := HG.out.stk Hst.out HpG.out SN.out.kc
    have hG2 : Glob w2 := hG1.keep HK2.out (fun _ _ h => h)
    have hGc : Glob wc := hG2.keep hK'.keeps (by
      rintro k hg ⟨i, ⟨rfl, _⟩ | ⟨rfl, _⟩⟩
      · exact hG2.ne_sg HS2.out hg
      · exact hG2.ne_blk HB2.out hg)
    have HV' := hid hV'; have HU' := hid hU'; have HS' := hid hS'; have HK' := hid hK'; have HUl := hid hUl; have HZub := hid hzub; have HZC := hid hzc'; have HGc := hid hGc
    have HMU := hid mu1; have HMUl := hid mu2
    clear hV' hU' hS' hK' hUl hzub hz2w hzc' mu1 mu2 mu3 hG1 hG2 hGc s2
    go_wp2_with fail
    refine HAL.out.mono ?_
    rintro e w5 ⟨rfl, kk, rfl⟩
    go_wp2_with fail
    refine (HMK2.out kk).mono ?_
    rintro e w6 ⟨rfl, rfl⟩
    have hk6c : Keeps (fun _ => False) wc (wc.drewN kk) := (Keeps.refl _ wc).drewN kk
    have c4 : (wc.drewN kk).cell? ⟨4, 0, none⟩ = some (.int .i64 40) := (HGc.out.keep hk6c (fun _ _ h => h)).dr
    have t40 : decide (n < 40) = true := by simpa using hn
    have hsz1c : w1.heap.size ≤ wc.heap.size := Nat.le_trans HK2.out.size HK'.out.size
    have hkf : KC (fun _ _ => False) wc (wc.drewN kk) := KC.of_keeps hk6c
    have hDe : ∀ q : Nat, (q < w0'.heap.size ∧ (∀ s e, D = some (s, e) → q ≠ e)) ∨ w1.heap.size ≤ q → ∀ j r, Under D1 sp1 q j r := by
      rintro q hq j r s e h1 rfl
      rcases hq with ⟨h2, h3⟩ | h2
      · rcases (SN.out.into s q h1).2 with ⟨s', h4⟩ | h4
        · exact (h3 s' q h4 rfl).elim
        · omega
      · have := (SN.out.stk)
        rw [h1] at this
        have := this.ltD.2
        omega
    have hunz : Under D1 sp1 zb zo (m + 1) := Hzu.out.step SN.out.into SN.out.top.1 Hz.out.lt
    have hunu : ∀ j r, Under D1 sp1 ub j r := hDe ub (by
      rcases HI2.out.inB ⟨uo, rfl⟩ with h | h
      · exact .inl ⟨Hz2.out.lt h, fun s e h2 h3 => (HD.out s e h2).1 (h3 ▸ h)⟩
      · exact .inr (by omega))
    have HUZ := hid (show ∀ s e, D1 = some (s, e) → e ≠ ub from fun s e h1 h2 => by have := hunu (sp1 + 1) 0 s ub (by rw [h1, h2]) rfl; omega)
    have hzs : Sg (wc.drewN kk) zb zo Lz := HZC.out.drewN kk
    have HDB := divBasic277 zb zo c ub uo uc vb vo vc (m + 1) n p sp1 v1 v2 D1 Lz _ _ (wc.drewN kk) hzs hLm (HU'.out.keep hkf (fun _ _ _ h => h)) (by rw [HUl.out]; omega) (by omega)
      (HV'.out.keep hkf (fun _ _ _ h => h)) HV.out (by omega) (by omega) (by
        rw [List.getD_eq_getElem?_getD, List.getElem?_append_right (by rw [shlL_length]; omega), shlL_length, show m + 1 + n - 1 - (m + n) = 0 by omega]
        have := HUt.out; have := Hv63.out
        show shlC s (words N) (m + n) < v1
        omega) (HS'.out.keepF hk6c) (by have := SN.out.top; omega) hunz (hunu _ _) SN.out.under (.inl HZub.out) DZV.out (.inl HUV.out)
    rw [show m + 1 + n = m + n + 1 by omega, HUv.out, HVv.out] at HDB
    have HB := hid HDB
    have HK6 := hid hk6c
    clear hk6c hsz1c hkf hDe hunz hunu hzs HDB HAL HMK2
    go_wp2_with fail
    refine HB.out.mono ?_
    rintro e w7 ⟨rfl, ⟨R, hR, hRv, hRs⟩, ⟨Q, hQ, hQv, hQs⟩, ⟨D2, hst7, hi7⟩, hk7⟩
    have hRw := hRs.words
    have hQw := hQs.words
    have hp2 : 0 < 2 ^ s := Nat.two_pow_pos s
    have hRv' : val R = (N % d) * 2 ^ s := by rw [hRv, Nat.mul_mod_mul_right]
    obtain ⟨MU6, mv1, mv2, mv3, _⟩ := (KC.of_keeps (C := fun _ _ => False) HK6.out).words ub MU HMU.out (by obtain ⟨M, q1, q2, _⟩ := HU'.out; rw [HMU.out.inj q1]; exact q2)
    obtain ⟨MU7, mu1, mu2, mu3, _⟩ := hk7.words ub MU6 mv1 mv3
    have hNM := hid (norm_sg zb zo (m + 1) c Q w7 hQs hQ (by omega) (by omega) hcB)
    have HR := hid hR; have HRv := hid hRv'; have HRs := hid hRs; have HRw := hid hRw; have HST7 := hid hst7; have HI7 := hid hi7; have HK7 := hid hk7; have HU7 := hid mu1
    have hml : MU7.length = M2.length := by rw [mu2, mv2, HMUl.out]
    clear hR hRv hRv' hRs hRw hst7 hi7 hk7 mu1 mu2 mu3 mv1 mv2 mv3 hQ hQv hQs hQw HB
    go_wp2_with fail
    refine hNM.out.mono ?_
    rintro e w8 ⟨qn, rfl, hqn, rfl⟩
    clear hNM
    -- what is left once the rest is known
    have Fin : Hid (∀ (e : Ending) (w9 : World) (rn : Nat) (w'' : World), KC (Cl ub uo (m + n + 1)) w7 w9 → Stk w9 p sp1 D2 → Rd w9 (some ⟨ub, uo, none⟩) rn uc (words (N % d)) → Stk w'' p sp D2 → KC (fun b _ => ∃ d, D2 = some (b, d)) w9 w'' →
        e = .returned (.tuple #[.slice (some ⟨zb, zo, none⟩) qn c, .slice (some ⟨ub, uo, none⟩) rn uc]) → DivU w0' zb zo (m + 1) a2 c2 N d p sp D e w'') := hid (by
      rintro e w9 rn w'' k1 k2 k3 k4 k5 rfl
      have hnr : ∀ (q : Option Addr) (l c : Nat) (L : List Nat), Rd w9 q l c L → Rd w'' q l c L := by
        intro q l c L hr
        refine hr.keepC k5 ?_
        rintro b o rfl i _ _ ⟨d', rfl⟩
        rcases hr with ⟨h, _⟩ | ⟨b', o', M, h, hb, _⟩
        · cases h
        · cases h
          obtain ⟨N', _, k6, _⟩ := k2
          exact absurd (RowAt.type k6 hb) (by decide)
      have hiD : StI w0' D D2 := SN.out.into.trans (HI7.out) (Nat.le_trans SN.out.kc.size (Nat.le_trans HK2.out.size (Nat.le_trans HK'.out.size HK6.out.size)))
      refine ⟨_, _, _, _, D2, rfl, hnr _ _ _ _ k3, HI2.out.mono SN.out.kc.size, k4, hiD, ?_, ?_⟩
      · intro s e h1
        have hub := HMU.out.lt
        have hc6 := HK6.out.size
        have hne : e ≠ ub := by
          rcases (HI7.out s e h1).2 with ⟨s', h4⟩ | h4
          · exact HUZ.out s' e h4
          · intro h5
            have h6 : wc.heap.size ≤ e := h4
            omega
        rintro ⟨o, h2⟩
        cases h2
        exact hne rfl
      · refine SN.out.kc.trans' ((KC.of_keeps (C := fun _ _ => False) HK2.out).trans' (HK'.out.trans' ((KC.of_keeps (C := fun _ _ => False) HK6.out).trans' (HK7.out.trans' (k1.trans' k5 (E := fun b i => Cl ub uo (m + n + 1) b i ∨ ∃ d, D2 = some (b, d)) (fun _ _ _ h => .inl h) (fun _ _ _ h => .inr h))
          (E := fun b i => Cl zb zo (m + 1) b i ∨ Cl ub uo (m + n + 1) b i ∨ StC p sp1 D1 b i ∨ ∃ d, D2 = some (b, d)) ?_ ?_) (E := fun b i => Cl zb zo (m + 1) b i ∨ Cl ub uo (m + n + 1) b i ∨ StC p sp1 D1 b i ∨ ∃ d, D2 = some (b, d)) ?_ ?_)
          (E := fun b i => Cl zb zo (m + 1) b i ∨ Cl ub uo (m + n + 1) b i ∨ Cl vb vo n b i ∨ StC p sp1 D1 b i ∨ ∃ d, D2 = some (b, d)) ?_ ?_) (E := fun b i => Cl zb zo (m + 1) b i ∨ Cl ub uo (m + n + 1) b i ∨ Cl vb vo n b i ∨ StC p sp1 D1 b i ∨ ∃ d, D2 = some (b, d)) ?_ ?_) ?_ ?_
        · rintro b i _ (h | h | h)
          · exact .inl h
          · exact .inr (.inl h)
          · exact .inr (.inr (.inl h))
        · rintro b i _ (h | h)
          · exact .inr (.inl h)
          · exact .inr (.inr (.inr h))
        · rintro b i _ h; exact h.elim
        · rintro b i _ h; exact h
        · rintro b i _ (h | h)
          · exact .inr (.inr (.inl h))
          · exact .inr (.inl h)
        · rintro b i _ (h | h | h | h)
          · exact .inl h
          · exact .inr (.inl h)
          · exact .inr (.inr (.inr (.inl h)))
          · exact .inr (.inr (.inr (.inr h)))
        · rintro b i _ h; exact h.elim
        · rintro b i _ h; exact h
        · rintro b i _ h; exact .inr (.inr h)
        · have hs01 := SN.out.kc.size
          have hs12 := HK2.out.size
          have hs2c := HK'.out.size
          rintro b i hb (h | ⟨h, _⟩ | h | h | ⟨d', h⟩)
          · exact .inl h
          · subst h
            rcases HI2.out.inB ⟨uo, rfl⟩ with h | h
            · exact .inr (.inl h)
            · omega
          · exact .inr (.inr (SN.out.back hb h))
          · exact .inr (.inr (StC.back SN.out.into SN.out.top.1 hb h))
          · exact .inr (.inr (StC.back (sp' := sp) hiD (Nat.le_refl _) hb (.inr ⟨b, d', h, .inl rfl⟩))))
    have hsp1 : sp ≤ sp1 := SN.out.top.1
    by_cases hs0 : s = 0
    · subst hs0
      have hrw : trimZ R = words (N % d) := by rw [trimZ_eq_words HRw.out, HRv.out, Nat.pow_zero, Nat.mul_one]
      have hr7 : Rd w7 (some ⟨ub, uo, none⟩) (m + n + 1) uc R := by
        have := HRs.out.rd (c := uc) HU7.out (by omega) (by have := HR.out; omega) (by omega)
        rwa [HR.out] at this
      have hNM2 := hid (norm_any (some ⟨ub, uo, none⟩) (m + n + 1) uc R w7 hr7)
      rw [hrw] at hNM2
      clear hrw hr7
      go_wp2_with fail
      refine hNM2.out.mono ?_
      rintro e w9 ⟨rn, rfl, hr9, hrn, rfl⟩
      have HR9 := hid hr9
      clear hr9 hNM2
      go_wp2_with fail
      refine leaves_cons (f := 270) (args := #[.pointer (some ⟨p, 0, none⟩), .int .i64 (sp : Int)]) (by simp) (by simp [go_sem]) ?_
      refine (restore270 p sp1 sp D2 _ _ HST7.out hsp1).mono ?_
      rintro e u' w'' ⟨rfl, rfl, hst', hk'⟩
      exact ⟨_, results_tmp2 rfl _ _ _, Fin.out _ w7 rn w'' (KC.refl _ _) HST7.out HR9.out hst' hk' rfl⟩
    · have t1 : ((s : Int) != 0) = true := by simp; omega
      have hs0p : 0 < s := by omega
      have HSH := hid (rshVU_sg ub uo uc ub uo uc (m + n + 1) s R R w7 (by omega) (by omega) HRs.out HRs.out HR.out HR.out hs0p hs63 (.inr (.inl (Nat.le_refl _))))
      clear hs0
      go_wp2_with fail
      refine HSH.out.mono ?_
      rintro e w9 ⟨⟨cc, rfl⟩, h1, h2⟩
      have hst9 := HST7.out.keepCl HRs.out h2
      obtain ⟨MU9, mu1, mu2, mu3, _⟩ := h2.words ub MU7 HU7.out (by obtain ⟨M, q1, q2, _⟩ := HRs.out; rw [HU7.out.inj q1]; exact q2)
      have hr9 : Rd w9 (some ⟨ub, uo, none⟩) (m + n + 1) uc (shrL s R (m + n + 1)) := by
        have := h1.rd (c := uc) mu1 (by omega) (by rw [shrL_length]; omega) (by omega)
        rwa [shrL_length] at this
      have hrw : trimZ (shrL s R (m + n + 1)) = words (N % d) := by
        have h3 := shrL_div (s := s) (X := R) (by omega)
        rw [HR.out] at h3
        rw [trimZ_eq_words (shrL_words (by omega) HRw.out _), h3, HRv.out, Nat.mul_div_cancel _ (Nat.two_pow_pos s)]
      have hNM2 := hid (norm_any (some ⟨ub, uo, none⟩) (m + n + 1) uc _ w9 hr9)
      rw [hrw] at hNM2
      have HST9 := hid hst9; have HK9 := hid h2
      clear hrw hr9 hst9 h1 h2 mu1 mu2 mu3 HSH
      go_wp2_with fail
      refine hNM2.out.mono ?_
      rintro e w10 ⟨rn, rfl, hr9, hrn, rfl⟩
      have HR9 := hid hr9
      clear hr9 hNM2
      go_wp2_with fail
      refine leaves_cons (f := 270) (args := #[.pointer (some ⟨p, 0, none⟩), .int .i64 (sp : Int)]) (by simp) (by simp [go_sem]) ?_
      refine (restore270 p sp1 sp D2 _ _ HST9.out hsp1).mono ?_
      rintro e u' w'' ⟨rfl, rfl, hst', hk'⟩
      exact ⟨_, results_tmp2 rfl _ _ _, Fin.out _ w9 rn w'' HK9.out HST9.out HR9.out hst' hk' rfl⟩

theorem set_sg (zb zo l c : Nat) (Lz : List Nat) (x : Option Addr) (xl xc : Nat) (X : List Nat) (w : World) (hz : Sg w zb zo Lz) (hLz : Lz.length = xl) (hzc : xl ≤ c) (hcB : c ≤ BIGL) (hx : Rd w x xl xc X) (hxl0 : 0 < xl) (hxl : xl ≤ 400000) :
    Calls Tryz.prog 208 #[.slice (some ⟨zb, zo, none⟩) l c, .slice x xl xc] w fun e w' => e = .returned (.slice (some ⟨zb, zo, none⟩) xl c) ∧ KC (Cl zb zo xl) w w' := by
  have hXl := hx.length
  obtain ⟨xb, xo, rfl, hxs⟩ := hx.sg hxl0
  have HZ := hid hz; have HX := hid hxs; have HLz := hid hLz; have HXl := hid hXl
  clear hz hx hxs hLz hXl
  go_enter Tryz.func208, Tryz.ntmps208
  go_wp2_with fail
  refine (make_fits zb zo l c xl _ hzc hcB).mono ?_
  rintro e w1 ⟨rfl, rfl⟩
  go_wp2_with (refine wpList_cpSg rfl (.tmp 9) (.tmp 10) 101 101 rfl u101 zb zo xb xo xl c xc rfl rfl _ _ HZ.out HX.out HLz.out HXl.out ?_; intro w2 h1 h2)
  have H2 := hid h2
  clear h1 h2
  go_wp2_with fail
  go_ret
  exact ⟨rfl, H2.out⟩
theorem divW_u (zb zo l c : Nat) (Lz : List Nat) (x : Option Addr) (xl xc N y : Nat) (w : World) (hz : Sg w zb zo Lz) (hLz : Lz.length = xl) (hzc : xl ≤ c) (hcB : c ≤ BIGL) (hx : Rd w x xl xc (words N)) (hxl0 : 0 < xl) (hxl : xl ≤ 400000)
    (hy0 : y ≠ 0) (hy : y < W64) (hxz : ¬ InB x zb) :
    Calls Tryz.prog 237 #[.slice (some ⟨zb, zo, none⟩) l c, .slice x xl xc, .int .u64 (y : Int)] w fun e w' => (∃ q, e = .returned (.tuple #[q, .int .u64 ((N % y : Nat) : Int)])) ∧ KC (Cl zb zo xl) w w' := by
  by_cases h1 : y = 1
  · subst h1
    have HC := hid (set_sg zb zo l c Lz x xl xc (words N) w hz hLz hzc hcB hx hxl0 hxl)
    clear hz hx hxz hLz
    go_enter Tryz.func237, Tryz.ntmps237
    go_wp2_with fail
    refine HC.out.mono ?_
    rintro e w1 ⟨rfl, h3⟩
    have H3 := hid h3
    clear h3
    go_wp2_with fail
    go_ret2
    exact ⟨⟨_, by rw [Nat.mod_one]; rfl⟩, H3.out⟩
  · have t1 : ((y : Int) == 0) = false := by simp; omega
    have t2 : ((y : Int) == 1) = false := by simp; omega
    have t3 : ((xl : Int) == 0) = false := by simp; omega
    have hlx := hx.length
    obtain ⟨M, hM, hMw, hMl, hMo, hMs⟩ := id hz
    rcases hx with ⟨_, _, h0, _⟩ | ⟨xb, xo, X, rfl, hxb, hxw, hx1, hx2, hx3, hx4⟩
    · omega
    have hne : xb ≠ zb := fun h => hxz ⟨xo, by rw [h]⟩
    have hv := hid (divWVW_any zb zo c xb xo xc xl y M X w hxl0 (by omega) hM hxb hxw hy0 hy (by omega) (by omega) (.inl hne))
    have HV := hid hx3; have HM := hid hM; have HMw := hid hMw; have HMl := hid hMl; have HMo := hid hMo; have HLz := hid hLz
    clear hz hxb hxw hx3 hne hxz hM hMw hMs hlx hy0 hy h1
    go_enter Tryz.func237, Tryz.ntmps237
    go_wp2_with fail
    refine (make_fits zb zo l c xl _ hzc hcB).mono ?_
    rintro e w1 ⟨rfl, rfl⟩
    go_wp2_with fail
    refine hv.out.mono ?_
    rintro e w3 ⟨R, r1, r2, r3, rfl, r5, r6⟩
    rw [HV.out, val_words]
    have hfit : zo + R.length ≤ M.length := by have := HMo.out; have := HLz.out; omega
    have hkc := KC.splice HM.out r5 r6 r2 hfit
    rw [r1] at hkc
    have hsg := Sg.of_splice r5 HMw.out HMl.out r2 hfit
    have HKC := hid hkc
    have HN := hid (norm_sg zb zo xl c R w3 hsg r1 hzc (by omega) hcB)
    obtain ⟨rr, hrr⟩ : ∃ rr, rr = N % y := ⟨_, rfl⟩
    rw [← hrr]
    have HRR := hid hrr
    clear r1 r2 r3 r5 r6 hfit hkc hsg hrr
    go_wp2_with fail
    refine HN.out.mono ?_
    rintro e w4 ⟨nn, rfl, hnl, rfl⟩
    go_wp2_with fail
    go_ret2
    exact ⟨⟨_, by first | rfl | (rw [← HRR.out]; rfl)⟩, HKC.out⟩

/-- What a division leaves whose quotient lies on the stack. -/
def DivS (w : World) (zb N d p sp : Nat) (D : Option (Nat × Nat)) (e : Ending) (w' : World) : Prop :=
  ∃ q ra rl rc D', e = .returned (.tuple #[q, .slice ra rl rc]) ∧ Rd w' ra rl rc (words (N % d)) ∧ (∀ k, InB ra k → w.heap.size ≤ k) ∧ Stk w' p sp D' ∧ StI w D D' ∧ (∀ s e, D' = some (s, e) → ¬ InB ra e) ∧ Keeps (fun b => b = zb ∨ StB p D b) w w'

theorem into_new {w : World} {ra : Option Addr} {rc : Nat} (h : Into w none 0 ra rc) : ∀ k, InB ra k → w.heap.size ≤ k := fun k hk => by
  rcases h.inB hk with ⟨o, h⟩ | h
  · cases h
  · exact h

theorem div199_u (zb zo l c : Nat) (Lz : List Nat) (x : Option Addr) (xl xc N : Nat) (y : Option Addr) (yl yc d p sp : Nat) (D : Option (Nat × Nat)) (w : World)
    (hz : Sg w zb zo Lz) (hLz : Lz.length = max 1 (xl - (yl - 1))) (hzc : Lz.length ≤ c) (hcB : c ≤ BIGL) (hx : Rd w x xl xc (words N)) (hy : Rd w y yl yc (words d)) (hN0 : N ≠ 0) (hd0 : d ≠ 0) (hyl : yl < 40) (hxl : xl ≤ 100000)
    (hzu : Under D sp zb zo Lz.length) (hst : Stk w p sp D) (hsp : sp ≤ 300000) (hox : Off D x) (hoy : Off D y) (hxz : ¬ InB x zb) (G : Glob w) (hpG : ¬ GB p) :
    Calls Tryz.prog 199 #[.slice (some ⟨zb, zo, none⟩) l c, .pointer (some ⟨p, 0, none⟩), .slice none 0 0, .slice x xl xc, .slice y yl yc] w (DivS w zb N d p sp D) := by
  have hyl0 : 0 < yl := by rw [← hy.length]; exact words_length_pos hd0
  have hxl0 : 0 < xl := by rw [← hx.length]; exact words_length_pos hN0
  have hkz : ∀ {n : Nat} {w' : World}, n ≤ Lz.length → KC (Cl zb zo n) w w' → Stk w' p sp D ∧ Keeps (fun b => b = zb ∨ StB p D b) w w' := fun hn hk =>
    ⟨hst.keepCl hz hk, hk.keeps.mono (fun b _ ⟨i, h, _⟩ => .inl h)⟩
  by_cases h1 : yl = 1
  · subst h1
    have hlen := hy.length
    obtain ⟨yb, yo, rfl, c0, hdw, _⟩ := rd_one hy
    have HC := hid (divW_u zb zo l c Lz x xl xc N d w hz (by omega) (by omega) hcB hx hxl0 (by omega) hd0 hdw hxz)
    have HKZ := hid (fun (w' : World) => hkz (w' := w') (n := xl) (by omega))
    have HD := hid hdw; have HD0 := hid hd0
    have HOF := hid hst
    clear hz hx hy hox hoy hxz hzu hst G hdw hd0 hlen hkz hN0 hLz
    go_enter_defers Tryz.func199, Tryz.ntmps199
    go_wp2_with fail
    refine HC.out.mono ?_
    rintro e w1 ⟨⟨q, rfl⟩, h3⟩
    obtain ⟨rr, hrr⟩ : ∃ rr, rr = N % d := ⟨_, rfl⟩
    rw [← hrr]
    have H3 := hid h3; have Hrr := hid hrr
    clear h3 hrr HC
    have HS := hid (setWord_any none 0 0 [] rr w1 (Rd.nil _) (by rw [Hrr.out]; exact Nat.lt_trans (Nat.mod_lt _ (Nat.pos_of_ne_zero HD0.out)) HD.out))
    go_wp2_with fail
    refine HS.out.mono ?_
    rintro e w2 ⟨ra, rl, rc, rfl, k1, k2, k3⟩
    have K1 := hid k1; have K2 := hid k2
    have K3 : Hid (Keeps (fun _ => False) w1 w2) := hid (k3.mono (fun i _ ⟨o, h⟩ => by cases h))
    clear k1 k2 k3 HS
    go_wp2_with fail
    refine ⟨_, results_tmp2 rfl _ _ _, ?_⟩
    obtain ⟨g1, g2⟩ := HKZ.out w1 H3.out
    have hnew := into_new (K2.out.mono H3.out.size)
    refine ⟨q, ra, rl, rc, D, rfl, by rw [← Hrr.out]; exact K1.out, hnew, g1.keepF K3.out, StI.refl _ _, ?_, g2.trans K3.out.any⟩
    intro s e hD hk
    have h9 := HOF.out
    rw [hD] at h9
    have := hnew e hk
    have := h9.ltD.2
    omega
  have t1 : ((yl : Int) == 0) = false := by simp; omega
  have t2 : ((yl : Int) == 1) = false := by simp; omega
  by_cases hlt : N < d
  · have HC := hid (cmp_any x xl xc y yl yc N d w hx hy)
    have hcm : cmpI N d = -1 := by unfold cmpI; rw [if_pos hlt]
    rw [hcm] at HC
    have HSt := hid (fun k => set_any none 0 0 [] x xl xc (words N) (w.drewN k) (Rd.nil _) (hx.drewN k) (by omega))
    have Hr := hid (Nat.mod_eq_of_lt hlt)
    have HOF := hid hst
    unfold BIGL at hcB
    clear hz hx hy hlt hcm hkz hox hoy hxz hzu hst G hN0 hd0 hLz
    go_enter_defers Tryz.func199, Tryz.ntmps199
    go_wp2_with fail
    refine HC.out.mono ?_
    rintro e w1 ⟨rfl, k, rfl⟩
    go_wp2_with fail
    refine (HSt.out k).mono ?_
    rintro e w2 ⟨ra, rc, rfl, h1, h2, h3⟩
    have H1 := hid h1; have H2 := hid h2
    have H3 : Hid (Keeps (fun _ => False) w w2) := hid (((Keeps.refl _ w).drewN k).trans (h3.mono (fun i _ ⟨o, h⟩ => by cases h)))
    clear h1 h2 h3 HSt HC
    go_wp2_with fail
    refine ⟨_, results_tmp2 rfl _ _ _, ?_⟩
    have hnew := into_new H2.out
    refine ⟨_, ra, xl, rc, D, rfl, by rw [Hr.out]; exact H1.out, hnew, HOF.out.keepF H3.out, StI.refl _ _, ?_, H3.out.any⟩
    intro s e hD hk
    have h9 := HOF.out
    rw [hD] at h9
    have h8 : w.heap.size ≤ e := hnew e hk
    have := h9.ltD.2
    omega
  · have hnx : yl ≤ xl := by rw [← hx.length, ← hy.length]; exact words_mono (by omega)
    have HC := hid (cmp_any x xl xc y yl yc N d w hx hy)
    obtain ⟨cm, hcm⟩ : ∃ cm, cm = cmpI N d := ⟨_, rfl⟩
    have hc0 : decide (cm < 0) = false := by
      rw [hcm]; unfold cmpI
      rw [if_neg hlt]
      split <;> simp
    rw [← hcm] at HC
    have hz2 : Rd w none 0 0 [] := Rd.nil _
    have HL := hid (fun k => divLarge241_u zb zo l c Lz none 0 0 [] x xl xc N y yl yc d p sp D (w.drewN k) (hz.drewN k) (by omega) hzc hcB (hz2.drewN k) (hx.drewN k) (hy.drewN k) (by omega) hyl hnx hxl (fun ⟨o, h⟩ => by cases h) hzu (Al.none _ _ _) (hst.drewN k) hsp (fun s e h => ⟨fun ⟨o, h⟩ => (by cases h), hox s e h, hoy s e h⟩) (G.drewN k) hpG)
    clear hz hx hy hox hoy hxz hzu hst G hkz hN0 hd0 hLz hlt hcm hz2
    go_enter_defers Tryz.func199, Tryz.ntmps199
    go_wp2_with fail
    refine HC.out.mono ?_
    rintro e w1 ⟨rfl, k, rfl⟩
    go_wp2_with fail
    refine (HL.out k).mono ?_
    rintro e w2 ⟨q, ra, rl, rc, D', rfl, k1, k2, k3, k4, k5, k6⟩
    have K1 := hid k1; have K2 := hid k2; have K3 := hid k3; have K4 := hid k4; have K5 := hid k5; have K6 := hid k6
    clear k1 k2 k3 k4 k5 k6 HL HC
    go_wp2_with fail
    refine ⟨_, results_tmp2 rfl _ _ _, ?_⟩
    refine ⟨q, ra, rl, rc, D', rfl, K1.out, into_new K2.out, K3.out, K4.out, K5.out, ((Keeps.refl _ w).drewN k).trans (K6.out.keeps.mono ?_)⟩
    rintro b _ ⟨i, ⟨h, _⟩ | ⟨o, h⟩ | h⟩
    · exact .inl h
    · cases h
    · exact .inr h.stB

end Go.Proofs
namespace Go.Proofs
open Go.RowKit
set_option maxHeartbeats 1600000
set_option linter.unusedVariables false
set_option linter.unusedSimpArgs false
set_option maxRecDepth 100000

theorem stB_back {w : World} {p b : Nat} {D D' : Option (Nat × Nat)} (hi : StI w D D') (hb : b < w.heap.size) (h : StB p D' b) : StB p D b := by
  rcases h with h | ⟨s, d, h1, h2⟩
  · exact .inl h
  · obtain ⟨g1, g2⟩ := hi s d h1
    rcases h2 with h2 | h2
    · subst h2
      rcases g1 with ⟨d', h⟩ | h
      · exact .inr ⟨_, d', h, .inl rfl⟩
      · omega
    · subst h2
      rcases g2 with ⟨s', h⟩ | h
      · exact .inr ⟨s', _, h, .inr rfl⟩
      · omega
theorem rem289 (x : Option Addr) (xl xc N : Nat) (y : Option Addr) (yl yc d p sp : Nat) (D : Option (Nat × Nat)) (w : World)
    (hx : Rd w x xl xc (words N)) (hy : Rd w y yl yc (words d)) (hN0 : N ≠ 0) (hd0 : d ≠ 0) (hyl : yl < 40) (hxl : xl ≤ 100000)
    (hst : Stk w p sp D) (hsp : sp ≤ 100000) (hox : Off D x) (hoy : Off D y) (G : Glob w) (hpG : ¬ GB p) :
    Calls Tryz.prog 289 #[.slice none 0 0, .pointer (some ⟨p, 0, none⟩), .slice x xl xc, .slice y yl yc] w fun e w' => ∃ ra rl rc D', e = .returned (.slice ra rl rc) ∧ Rd w' ra rl rc (words (N % d)) ∧ (∀ k, InB ra k → w.heap.size ≤ k) ∧ Stk w' p sp D' ∧ Keeps (StB p D) w w' ∧ StI w D D' := by
  have hz : Rd w none 0 0 [] := Rd.nil _
  have hnn : ∀ (b : Option Addr) k, InB none k → ¬ InB b k := fun b k ⟨o, ho⟩ => by cases ho
  have HA := hid (alias_any none 0 0 [] x xl xc (words N) w hz hx (Al.of_ne (hnn _)))
  rw [shares_apart (xl := xl) hz (hnn _)] at HA
  have hyl0 : 0 < yl := by rw [← hy.length]; exact words_length_pos hd0
  obtain ⟨n, hn⟩ : ∃ n, n = max 1 (xl - (yl - 1)) := ⟨_, rfl⟩
  have HSV := hid (fun k => save271 p sp D (w.drewN k) (hst.drewN k))
  have HNT := hid (fun k => nat272 p sp n D (w.drewN k) (hst.drewN k) (by omega) (by omega))
  have G3 : Hid (max 1 ((xl : Int) - ((yl : Int) - 1)) = (n : Int)) := hid (by omega)
  have HX := hid hx; have HY := hid hy; have HN0 := hid hN0; have HD0 := hid hd0; have HST := hid hst; have HOX := hid hox; have HOY := hid hoy; have HG := hid G; have HPG := hid hpG; have HN := hid hn
  clear hx hy hN0 hd0 hst hox hoy G hpG hz hnn hn
  go_enter_defers Tryz.func289, Tryz.ntmps289
  go_wp2_with fail
  refine HA.out.mono ?_
  rintro e w1 ⟨rfl, k, rfl⟩
  go_wp2_with fail
  refine (HSV.out k).mono ?_
  rintro e w0 ⟨rfl, rfl⟩
  go_wp2_with fail
  rw [G3.out]
  refine (HNT.out k).mono ?_
  rintro e w1 ⟨vb, vo, vc, sp1, D1, rfl, hvc1, hvc2, hsn⟩
  have SN := hid hsn
  obtain ⟨H, hHl, hHs⟩ := hsn.sg
  have X1 := (HX.out.drewN k).keepC hsn.kc (fun b o h i _ _ => (HX.out.drewN k).notSt (HST.out.drewN k) (fun s e h => HOX.out s e h) b o h i)
  have Y1 := (HY.out.drewN k).keepC hsn.kc (fun b o h i _ _ => (HY.out.drewN k).notSt (HST.out.drewN k) (fun s e h => HOY.out s e h) b o h i)
  have hxv : ¬ InB x vb := fun h => by
    rcases hsn.place with h1 | ⟨s, h1, _⟩
    · have h2 : w.heap.size ≤ vb := h1
      have := HX.out.lt h; omega
    · exact HOX.out s vb h1 h
  have HDV := hid (div199_u vb vo n vc H x xl xc N y yl yc d p sp1 D1 w1 hHs (by rw [hHl]; exact HN.out) (by omega) hvc2 X1 Y1 HN0.out HD0.out hyl hxl (by rw [hHl]; exact hsn.under) hsn.stk (by have := hsn.top; have := HN.out; omega)
    (HOX.out.next hsn.into (HX.out.drewN k)) (HOY.out.next hsn.into (HY.out.drewN k)) hxv ((HG.out.drewN k).stk (HST.out.drewN k) HPG.out hsn.kc) HPG.out)
  have hvc2' : vc ≤ 9223372036854775807 := hvc2
  clear hsn hHs X1 Y1 hxv HNT HSV HA
  go_wp2_with fail
  refine HDV.out.mono ?_
  rintro e w2 ⟨q, ra, rl, rc, D2, rfl, k1, k2, k3, k4, k5, k6⟩
  have K1 := hid k1; have K2 := hid k2; have K3 := hid k3; have K4 := hid k4; have K5 := hid k5; have K6 := hid k6
  clear k1 k2 k3 k4 k5 k6 HDV
  go_wp2_with fail
  refine leaves_cons (f := 270) (args := #[.pointer (some ⟨p, 0, none⟩), .int .i64 (sp : Int)]) (by simp) (by simp [go_sem]) ?_
  refine (restore270 p sp1 sp D2 _ _ K3.out SN.out.top.1).mono ?_
  rintro e u' w'' ⟨rfl, rfl, hst', hk'⟩
  refine ⟨_, results_tmp rfl _ _ _, ra, rl, rc, D2, rfl, ?_, ?_, hst', ?_, SN.out.into.trans K4.out SN.out.kc.size⟩
  · refine K1.out.keepC hk' ?_
    rintro b o rfl i _ _ ⟨d', rfl⟩
    rcases K1.out with ⟨h, _⟩ | ⟨b', o', M, h, hb, _⟩
    · cases h
    · cases h
      obtain ⟨N', _, k6, _⟩ := K3.out
      exact absurd (RowAt.type k6 hb) (by decide)
  · intro q hq
    have h1 := K2.out q hq
    have h2 : w.heap.size ≤ w1.heap.size := SN.out.kc.size
    omega
  · have a1 : Keeps (StB p D) (w.drewN k) w1 := SN.out.kc.keeps.mono (fun b _ ⟨i, h⟩ => h.stB)
    have a2 : Keeps (fun b => b = vb ∨ StB p D1 b ∨ StB p D2 b) w1 w'' := (K6.out.mono (fun b _ h => h.elim .inl (fun h => .inr (.inl h)))).trans (hk'.keeps.mono (fun b _ ⟨i, d, h⟩ => .inr (.inr (.inr ⟨b, d, h, .inl rfl⟩))))
    refine ((Keeps.refl _ w).drewN k).trans (a1.trans' a2 (fun b hb h => ?_))
    rcases h with h | h | h
    · subst h
      rcases SN.out.place with h1 | ⟨s, h1, _⟩
      · omega
      · exact .inr ⟨s, b, h1, .inr rfl⟩
    · exact stB_back SN.out.into hb h
    · exact stB_back (SN.out.into.trans K4.out SN.out.kc.size) hb h
end Go.Proofs
namespace Go.Proofs
open Go.RowKit
set_option maxHeartbeats 4000000
set_option linter.unusedVariables false
set_option linter.unusedSimpArgs false
set_option maxRecDepth 100000

/-- The powers' loop modulo m. -/
def EmRel (w0 : World) (p N y wn m : Nat) (z zz q r v i : Value) (wr : World) : Prop :=
  ∃ rr j vv E za zl zc ya yl yc qa ql qc ra rl rc, ∃ (Y Q R : List Nat) (D : Option (Nat × Nat)), rr + j = wn ∧ vv = exV y rr ∧ E % m = N ^ (y / 2 ^ rr) % m ∧ (E < m ∨ (j = 0 ∧ E = N)) ∧
    i = .int .i64 (j : Int) ∧ v = .int .u64 (vv : Int) ∧ z = .slice za zl zc ∧ zz = .slice ya yl yc ∧ q = .slice qa ql qc ∧ r = .slice ra rl rc ∧
    Bufs w0 wr p D za zl zc (words E) ya yl yc Y qa ql qc Q ra rl rc R

theorem expNN_mod (x : Option Addr) (xl xc N : Nat) (y : Option Addr) (yc v : Nat) (m : Option Addr) (ml mc M : Nat) (w : World)
    (G : Glob w) (hx : Rd w x xl xc (words N)) (hy : Rd w y 1 yc [v]) (hm : Rd w m ml mc (words M)) (hv : 2 ≤ v) (hN : 2 ≤ N) (hM : 2 ≤ M) (hxl : xl ≤ 11) (hml : ml ≤ 11) :
    Calls Tryz.prog 256 #[.slice none 0 0, .pointer none, .slice x xl xc, .slice y 1 yc, .slice m ml mc, .bool false] w (ExpRes w (N ^ v % M)) := by
  have hvl : v < W64 := hy.words v (by simp)
  have hz : Rd w none 0 0 [] := Rd.nil _
  have hnn : ∀ (b : Option Addr) k, InB none k → ¬ InB b k := fun b k ⟨o, ho⟩ => by cases ho
  have HA1 := hid (alias_any none 0 0 [] x xl xc (words N) w hz hx (Al.of_ne (hnn _)))
  have HA2 := hid (fun k => alias_any none 0 0 [] y 1 yc [v] (w.drewN k) (hz.drewN k) (hy.drewN k) (Al.of_ne (hnn _)))
  rw [shares_apart (xl := xl) hz (hnn _)] at HA1
  rw [shares_apart (xl := 1) hz (hnn _)] at HA2
  obtain ⟨nzv, hnz⟩ : ∃ n, n = nz v := ⟨_, rfl⟩
  obtain ⟨n1, n2, n3, n4⟩ := nz_facts (x := v) (by omega) hvl
  rw [← hnz] at n1 n2 n3 n4
  have n5 : nzv ≤ 62 := by
    rcases Nat.lt_or_ge nzv 63 with h | h
    · omega
    · exfalso
      rw [show 64 - nzv = 1 by omega] at n4; omega
  obtain ⟨wn, hwn⟩ : ∃ wn, wn = 63 - nzv := ⟨_, rfl⟩
  obtain ⟨s, hs⟩ : ∃ s, s = nzv + 1 := ⟨_, rfl⟩
  have HSTART := hid (exV_start v (r := wn) (by omega))
  rw [show 64 - wn = s by omega] at HSTART
  have htop : v / 2 ^ wn = 1 := by
    rw [hwn]
    rw [Nat.div_eq_iff (Nat.two_pow_pos _)]
    rw [show 64 - nzv = (63 - nzv) + 1 by omega, Nat.pow_succ] at n4
    omega
  have HTOP := hid htop
  have HNL := hid (fun (w1 : World) => nlz_any v w1 (by omega) hvl)
  rw [← hnz] at HNL
  have hxl0 : 0 < xl := by rw [← hx.length]; exact words_length_pos (by omega)
  have hml0 : 0 < ml := by rw [← hm.length]; exact words_length_pos (by omega)
  obtain ⟨xb, xo, rfl, hxcell⟩ := hx.cell hxl0
  obtain ⟨mb, mo, rfl, hmcell⟩ := hm.cell hml0
  obtain ⟨yb, yo, rfl, hycell⟩ := hy.cell (by omega)
  have c1 := hycell 0 (by omega)
  simp only [Nat.add_zero, List.getD_cons_zero] at c1
  have HYC : Hid (∀ W, Keeps (fun _ => False) w W → W.cell? ⟨yb, yo, none⟩ = some (.int .u64 (v : Int))) := hid (fun W hk => by
    obtain ⟨yb', yo', he, hyc⟩ := (hy.keep hk (fun _ _ h => h)).cell (by omega)
    cases he
    have := hyc 0 (by omega)
    simpa using this)
  have hxcase : (((xl : Int) == 1) = true ∧ ∃ x0, w.cell? ⟨xb, xo, none⟩ = some (.int .u64 (x0 : Int)) ∧ ((x0 : Int) == 1) = false) ∨ ((xl : Int) == 1) = false := by
    by_cases h : xl = 1
    · left
      refine ⟨by simp; omega, ?_⟩
      have h1 := hxcell 0 (by omega)
      have h2 := hx.length
      have h3 := val_words N
      refine ⟨_, h1, ?_⟩
      match hw : words N, h2 with
      | [x0], _ =>
        rw [hw] at h3
        simp at h3
        simp
        omega
      | [], h2 => simp at h2; omega
      | _ :: _ :: _, h2 => simp at h2; omega
    · right; simp; omega
  have hmcase : (((ml : Int) == 1) = true ∧ ∃ x0, w.cell? ⟨mb, mo, none⟩ = some (.int .u64 (x0 : Int)) ∧ ((x0 : Int) == 1) = false) ∨ ((ml : Int) == 1) = false := by
    by_cases h : ml = 1
    · left
      refine ⟨by simp; omega, ?_⟩
      have h1 := hmcell 0 (by omega)
      have h2 := hm.length
      have h3 := val_words M
      refine ⟨_, h1, ?_⟩
      match hw : words M, h2 with
      | [x0], _ =>
        rw [hw] at h3
        simp at h3
        simp
        omega
      | [], h2 => simp at h2; omega
      | _ :: _ :: _, h2 => simp at h2; omega
    · right; simp; omega
  have t2 : ((v : Int) == 1) = false := by simp; omega
  have t7 : ((ml : Int) != 0) = true := by simp; omega
  have t8 : ((ml : Int) == 0) = false := by simp; omega
  have t9 : ((xl : Int) == 0) = false := by simp; omega
  have t3 : IntKind.u64.wrap ((nzv : Int) + 1) = (s : Int) := by rw [IntKind.wrap_u64]; omega
  have HSH := hid (shl_wrap v s)
  have t4 : IntKind.i64.wrap ((s : Int)) = (s : Int) := by rw [IntKind.wrap_i64]; omega
  have t5 : (64 : Int) - (s : Int) = (wn : Int) := by omega
  have t6 : IntKind.i64.wrap ((wn : Int)) = (wn : Int) := by rw [IntKind.wrap_i64]; omega
  have HG := hid G; have HX := hid hx; have HY := hid hy; have HMd := hid hm
  have HV := hid hvl; have Hv2 := hid hv; have HN2 := hid hN; have HM2 := hid hM; have HWN := hid hwn; have HS := hid hs; have HN5 := hid n5; have HNZ := hid hnz; have HXL := hid hxl; have HML := hid hml; have HML0 := hid hml0
  clear G hx hy hm hvl hv hN hM hwn hs n1 n2 n3 n4 n5 hnz htop hxcell hycell hmcell hxl hml hz hnn
  have HGO : Hid (∀ (k : Nat) (w1 : World) (p : Nat) (za : Option Addr) (zc : Nat) (L : List Nat), w1 = (w.drewN k).alloc (.cells #[.pointer none] 240) → p = w.heap.size → True) := hid (fun _ _ _ _ _ _ _ _ => trivial)
  clear HGO
  rcases hxcase with ⟨tx, x0, c0, t1⟩ | t1 <;> rcases hmcase with ⟨tm, m0, c3, t0⟩ | t0
  all_goals
    go_enter_defers Tryz.func256, Tryz.ntmps256
    go_wp2_with fail
    refine HA1.out.mono ?_
    rintro e w1 ⟨rfl, k1, rfl⟩
    go_wp2_with fail
    refine (HA2.out k1).mono ?_
    rintro e w1 ⟨rfl, k2, rfl⟩
    go_wp2_with fail
    refine (getStack_any _).mono ?_
    rintro e w2 ⟨rfl, rfl⟩
    rw [show (w.drewN (k1 + k2)).heap.size = w.heap.size from rfl]
    obtain ⟨W1, hW1⟩ : ∃ W, W = (w.drewN (k1 + k2)).alloc (.cells #[.pointer none] 240) := ⟨_, rfl⟩
    obtain ⟨p, hp⟩ : ∃ p, p = w.heap.size := ⟨_, rfl⟩
    have hk1 : Keeps (fun _ => False) w W1 := by rw [hW1]; exact ((Keeps.refl _ w).drewN (k1 + k2)).alloc _
    have hrp : RowAt W1 p 240 [.pointer none] := by rw [hW1, hp]; exact RowAt.new (w.drewN (k1 + k2)) 240 [.pointer none]
    have hpw : p < W1.heap.size := hrp.lt
    rw [← hW1, ← hp]
    have c4 := HYC.out W1 hk1
    have HMK := hid (make_any none 0 0 ml [] W1 (Rd.nil _) (by have := HML.out; omega) hml0)
    have HP := hid hp; have HK1 := hid hk1; have HRP := hid hrp; have HPW := hid hpw
    have HPG : Hid (¬ GB p) := hid (fun h => by have := HG.out.lt h; omega)
    clear hW1 hp hk1 hrp hpw HA1 HA2
    go_wp2_with fail
    refine HMK.out.mono ?_
    rintro e w3 ⟨za0, zc0, rfl, b, o, L0, rfl, hblk, hwd, hle, hol, hlim, hinto, hk3, _⟩
    have HIN := hid hinto
    have HZ0 : Hid (Rd w3 (some ⟨b, o, none⟩) ml zc0 (seg L0 o ml)) := hid (.inr ⟨b, o, L0, rfl, hblk, hwd, hle, hol, rfl, hlim⟩)
    have HK3 := hid (HK1.out.trans hk3)
    have hb0 : W1.heap.size ≤ b := by
      rcases hinto.inB ⟨o, rfl⟩ with ⟨o', h⟩ | h
      · cases h
      · exact h
    have HB0 := hid hb0
    have HR3 := hid (hk3.row HRP.out (fun h => h))
    clear hblk hwd hle hol hlim hinto hk3 hb0 HMK
    have HST := hid (set_any (some ⟨b, o, none⟩) ml zc0 _ (some ⟨xb, xo, none⟩) xl xc (words N) w3 HZ0.out (HX.out.keep HK3.out (fun _ _ h => h)) (by have := HXL.out; omega))
    go_wp2_with fail
    refine HST.out.mono ?_
    rintro e w4 ⟨za, zc, rfl, h1, h2, h3⟩
    have hwW := HK1.out.size
    have hb0 := HB0.out
    have hk4 : Keeps (fun _ => False) w w4 := HK3.out.trans' h3 (fun i hi ⟨o', ho⟩ => by cases ho; omega)
    have hbn : Off none za := fun s e h => by cases h
    have hBu : Bufs w w4 p none za xl zc (words N) none 0 0 [] none 0 0 [] none 0 0 [] :=
      { st := ⟨h3.row HR3.out (fun ⟨o', ho⟩ => by cases ho; have := HPW.out; omega), rfl⟩
        dn := fun b hb => by
          rcases hb with h | ⟨s, d, h, _⟩
          · have := HP.out; omega
          · cases h
        hz := h1, hy := Rd.nil _, hq := Rd.nil _, hr := Rd.nil _
        nz := fun k hk => by
          rcases h2.inB hk with ⟨o', ho⟩ | h
          · cases ho; omega
          · have := HK3.out.size; omega
        ny := fun k ⟨o, ho⟩ => by cases ho
        nq := fun k ⟨o, ho⟩ => by cases ho
        nr := fun k ⟨o, ho⟩ => by cases ho
        oz := fun s e h => by cases h
        oy := fun s e h => by cases h
        oq := fun s e h => by cases h
        or_ := fun s e h => by cases h
        zy := fun k _ ⟨o, ho⟩ => by cases ho
        zq := fun k _ ⟨o, ho⟩ => by cases ho
        zr := fun k _ ⟨o, ho⟩ => by cases ho
        yq := fun k _ ⟨o, ho⟩ => by cases ho
        yr := fun k _ ⟨o, ho⟩ => by cases ho
        qr := fun k _ ⟨o, ho⟩ => by cases ho
        kp := hk4 }
    have c2 := HYC.out w4 hk4
    have R0 : EmRel w p N v wn M (.slice za xl zc) (.slice none 0 0) (.slice none 0 0) (.slice none 0 0) (.int .u64 (exV v wn : Int)) (.int .i64 0) w4 :=
      ⟨wn, 0, _, N, za, xl, zc, none, 0, 0, none, 0, 0, none, 0, 0, [], [], [], none, rfl, rfl, by rw [HTOP.out, Nat.pow_one], .inr ⟨rfl, rfl⟩, rfl, rfl, rfl, rfl, rfl, rfl, hBu⟩
    have R := hid R0
    clear h1 h2 h3 hk4 hbn hBu R0 c1 c4 hb0 hwW HST HIN HZ0
    go_wp2_with fail
    refine (HNL.out w4).mono ?_
    rintro e w5 ⟨rfl, rfl⟩
    go_wp2_with fail
    go_loopw [0, 19, 17, 20, 15, 21] (fun z zz q r v' i wr => EmRel w p N v wn M z zz q r v' i wr) (fun _ _ _ _ _ i _ => wn - (intOf i).toNat)
    case atStart =>
      have e1 : IntKind.u64.wrap ((v : Int) * 2 ^ s) = ((exV v wn : Nat) : Int) := by rw [HSH.out, HSTART.out]
      try rw [e1]
      exact R.out
    case round =>
      obtain ⟨r, j, vv, E, za, zl, zc, ya, yl, yc', qa, ql, qc, ra, rl, rc, Y, Q, R', D, hr, hvv, hE, hEM, rfl, rfl, rfl, rfl, rfl, rfl, hB⟩ := hrel
      rcases Nat.eq_zero_or_pos r with h0 | h0
      · have b1 : decide (j < wn) = false := by simp; omega
        have hEv : E = N ^ v % M := by
          have hw := HWN.out; have h5 := HN5.out
          rcases hEM with h | ⟨h, _⟩
          · rw [← Nat.mod_eq_of_lt h, hE, h0, Nat.pow_zero, Nat.div_one]
          · omega
        have HEV := hid hEv; have HB := hid hB
        clear hB R hr hvv hE hEM h0 hEv
        go_wp2_with fail
        go_loopw [0, 22] (fun z k w' => z = .slice za zl zc ∧ k = .int .i64 (-1) ∧ w' = wr) (fun _ _ _ => 0)
        case atStart => exact ⟨rfl, rfl, rfl⟩
        case round =>
          obtain ⟨rfl, rfl, rfl⟩ := hrel
          go_wp2_with fail
          refine (norm_any _ _ _ _ _ HB.out.hz).mono ?_
          rintro e w4 ⟨nn, rfl, hr, hnl, rfl⟩
          have Hr := hid hr
          clear hr
          go_wp2_with fail
          refine leaves_cons (f := 240) (args := #[.pointer (some ⟨p, 0, none⟩)]) (by simp) (by simp [go_sem]) ?_
          refine (free240_any p 0 D _ _ HB.out.st).mono ?_
          rintro e u' w'' ⟨rfl, rfl, hk'⟩
          refine ⟨_, results_tmp rfl _ _ _, ?_⟩
          refine ⟨_, _, _, rfl, ?_, HB.out.nz, HB.out.kp.trans' hk' (fun i hi ⟨d, hd⟩ => by have := HB.out.dn i (.inr ⟨i, d, hd, .inl rfl⟩); omega)⟩
          have h9 := Hr.out
          rw [trimZ_eq_words HB.out.hz.words, val_words, HEV.out] at h9
          exact h9.freed HB.out.st hk'
      · obtain ⟨r, rfl⟩ : ∃ r', r = r' + 1 := ⟨r - 1, by omega⟩
        have b1 : decide (j < wn) = true := by simp; omega
        have hr64 : r + 1 ≤ 64 := by have := HWN.out; omega
        have hvl := exV_lt v hr64
        rw [← hvv] at hvl
        have htb := bits_top hvl
        have hbit := exV_bit v hr64
        have hnx := exV_next v hr64
        rw [← hvv] at hbit hnx
        have hlz : (words E).length ≤ 11 := by
          rcases hEM with h | ⟨_, h⟩
          · have h1 := words_mono (Nat.le_of_lt h)
            have h2 := HMd.out.length
            have h3 := HML.out
            omega
          · rw [h, HX.out.length]; exact HXL.out
        have hzl : zl ≤ 11 := by rw [← hB.hz.length]; exact hlz
        have G1 := hid (HG.out.keep hB.kp (fun _ _ h => h))
        have HSQ := hid (sqr_any ya yl yc' Y (some ⟨p, 0, none⟩) za zl zc E wr G1.out hB.hy hB.hz (by omega) (Al.of_ne hB.zy.symm))
        have HB := hid hB; have Hvv := hid hvl; have Htb := hid htb; have Hbit := hid hbit; have Hnx := hid hnx; have HE := hid hE
        have Hr64 := hid hr64; have Hr := hid hr; have HLZ := hid hlz
        clear hB hvl htb hbit hnx hvv hE hr64 hr hlz hzl hEM R
        go_wp2_with fail
        refine HSQ.out.mono ?_
        rintro e w4 ⟨na, nl, nc, rfl, k1, k2, k3⟩
        have hB1 := HB.out.into k1 k2 k3
        have HB1 := hid hB1
        have hnl : nl ≤ 22 := by rw [← k1.length]; exact sq_len HLZ.out
        clear k1 k2 k3 HSQ hB1
        by_cases hb1 : v / 2 ^ r % 2 = 1
        · have h63 : 2 ^ 63 ≤ vv := Hbit.out.mpr hb1
          have htb := Htb.out
          rw [if_pos h63] at htb
          clear h63
          have Hb1 := hid hb1
          clear hb1
          have hxl2 : xl < 40 := by have := HXL.out; omega
          have HMU := hid (mul_any za zl zc (words E) (some ⟨p, 0, none⟩) na nl nc (E * E) (some ⟨xb, xo, none⟩) xl xc N w4 (HG.out.keep HB1.out.kp (fun _ _ h => h)) HB1.out.hy HB1.out.hz (HX.out.keep HB1.out.kp (fun _ _ h => h)) (by omega) hxl2 (Al.of_ne HB1.out.zy.symm)
            (Al.of_ne (fun k hk hk2 => by have := HB1.out.ny k hk; have := HX.out.lt hk2; omega)))
          clear hxl2
          have Hnl := hid hnl
          clear hnl
          go_wp2_with fail
          refine HMU.out.mono ?_
          rintro e w5 ⟨ma, mll, mcc, rfl, k1, k2, k3⟩
          have hB2 := HB1.out.into k1 k2 k3
          have HB2 := hid hB2
          have hmll : mll ≤ 33 := by rw [← k1.length]; exact mul_len (sq_len HLZ.out) (by rw [HX.out.length]; exact HXL.out)
          clear k1 k2 k3 HMU hB2
          have HDV := hid (div199_stk na nl nc (words (E * E)) ra rl rc R' ma mll mcc (E * E * N) (some ⟨mb, mo, none⟩) ml mc M p 0 D w5 HB2.out.hy HB2.out.hr HB2.out.hz (HMd.out.keep HB2.out.kp (fun _ _ h => h)) (by have := HM2.out; omega) (by have := HML.out; omega) (by omega)
            HB2.out.yr (Al.of_ne HB2.out.zy.symm) (Al.of_ne HB2.out.zr.symm) HB2.out.st (by omega) (fun s e h => ⟨HB2.out.oy s e h, HB2.out.or_ s e h, HB2.out.oz s e h, HB2.out.off HMd.out s e h⟩) (HG.out.keep HB2.out.kp (fun _ _ h => h)) (HPG.out))
          go_wp2_with fail
          refine HDV.out.mono ?_
          rintro e w6 ⟨da, dl, dc, fa, fl, fc, D', rfl, k1, k2, k3, k4, k5, k6, k7, k8, k9⟩
          have hB3 := HB2.out.div k1 k2 k3 k4 k5 k6 k7 k8 k9
          have HB3 := hid hB3
          clear k1 k2 k3 k4 k5 k6 k7 k8 k9 hB3 HDV
          go_wp2_with fail
          have hj := Hr.out; have hw := HWN.out
          refine ⟨⟨r, j + 1, exV v r, (E * E * N) % M, fa, fl, fc, qa, ql, qc, da, dl, dc, _, _, _, _, _, _, D', by omega, rfl, ?_, .inl (Nat.mod_lt _ (by have := HM2.out; omega)), ?_, ?_, rfl, rfl, rfl, rfl, HB3.out⟩, ?_⟩
          · rw [Nat.mod_mod]; exact pm_odd HE.out Hb1.out
          · rw [show wrap64 ((j : Int) + 1) = ((j + 1 : Nat) : Int) by unfold wrap64; omega]
          · rw [← Hnx.out, show (vv : Int) * 2 = ((vv * 2 : Nat) : Int) by omega, u64_wrapM]
          · rw [show wrap64 ((j : Int) + 1) = ((j + 1 : Nat) : Int) by unfold wrap64; omega]
            simp only [intOf, Int.toNat_natCast]
            omega
        · have h63 : ¬ 2 ^ 63 ≤ vv := fun h => hb1 (Hbit.out.mp h)
          have htb := Htb.out
          rw [if_neg h63] at htb
          clear h63
          have Hb1 := hid hb1
          clear hb1
          have HDV := hid (div199_stk za zl zc (words E) ra rl rc R' na nl nc (E * E) (some ⟨mb, mo, none⟩) ml mc M p 0 D w4 HB1.out.hy HB1.out.hr HB1.out.hz (HMd.out.keep HB1.out.kp (fun _ _ h => h)) (by have := HM2.out; omega) (by have := HML.out; omega) (by omega)
            HB1.out.yr (Al.of_ne HB1.out.zy.symm) (Al.of_ne HB1.out.zr.symm) HB1.out.st (by omega) (fun s e h => ⟨HB1.out.oy s e h, HB1.out.or_ s e h, HB1.out.oz s e h, HB1.out.off HMd.out s e h⟩) (HG.out.keep HB1.out.kp (fun _ _ h => h)) (HPG.out))
          go_wp2_with fail
          refine HDV.out.mono ?_
          rintro e w6 ⟨da, dl, dc, fa, fl, fc, D', rfl, k1, k2, k3, k4, k5, k6, k7, k8, k9⟩
          have hB3 := HB1.out.div k1 k2 k3 k4 k5 k6 k7 k8 k9
          have HB3 := hid hB3
          clear k1 k2 k3 k4 k5 k6 k7 k8 k9 hB3 HDV
          go_wp2_with fail
          have hj := Hr.out; have hw := HWN.out
          refine ⟨⟨r, j + 1, exV v r, (E * E) % M, fa, fl, fc, qa, ql, qc, da, dl, dc, _, _, _, _, _, _, D', by omega, rfl, ?_, .inl (Nat.mod_lt _ (by have := HM2.out; omega)), ?_, ?_, rfl, rfl, rfl, rfl, HB3.out⟩, ?_⟩
          · rw [Nat.mod_mod]; exact pm_even HE.out Hb1.out
          · rw [show wrap64 ((j : Int) + 1) = ((j + 1 : Nat) : Int) by unfold wrap64; omega]
          · rw [← Hnx.out, show (vv : Int) * 2 = ((vv * 2 : Nat) : Int) by omega, u64_wrapM]
          · rw [show wrap64 ((j : Int) + 1) = ((j + 1 : Nat) : Int) by unfold wrap64; omega]
            simp only [intOf, Int.toNat_natCast]
            omega
end Go.Proofs
namespace Go.Proofs
open Go.RowKit
set_option maxHeartbeats 1600000
set_option linter.unusedVariables false
set_option linter.unusedSimpArgs false
set_option maxRecDepth 100000

/-- A slice's first word, where it has one word alone. -/
theorem rd_case {w : World} {b : Nat} {o : Nat} {l c N : Nat} (h : Rd w (some ⟨b, o, none⟩) l c (words N)) (hN : N ≠ 1) : (((l : Int) == 1) = true ∧ ∃ x0, w.cell? ⟨b, o, none⟩ = some (.int .u64 (x0 : Int)) ∧ ((x0 : Int) == 1) = false) ∨ ((l : Int) == 1) = false := by
  by_cases h1 : l = 1
  · left
    subst h1
    obtain ⟨b', o', he, c0, _, _⟩ := rd_one h
    cases he
    exact ⟨by simp, _, c0, by simp; omega⟩
  · right; simp; omega
theorem expNN_full (x : Option Addr) (xl xc N : Nat) (y : Option Addr) (yl yc v : Nat) (m : Option Addr) (ml mc M : Nat) (w : World)
    (G : Glob w) (hx : Rd w x xl xc (words N)) (hy : Rd w y yl yc (words v)) (hm : Rd w m ml mc (words M)) (hv : v < W64) (hM0 : 1 ≤ M) (hxl : xl ≤ 11) (hml : ml ≤ 11) :
    Calls Tryz.prog 256 #[.slice none 0 0, .pointer none, .slice x xl xc, .slice y yl yc, .slice m ml mc, .bool false] w (ExpRes w (N ^ v % M)) := by
  have hz : Rd w none 0 0 [] := Rd.nil _
  have hnn : ∀ (b : Option Addr) k, InB none k → ¬ InB b k := fun b k ⟨o, ho⟩ => by cases ho
  have hyl1 : yl ≤ 1 := by rw [← hy.length]; exact words_len_le_one hv
  by_cases hmain : 2 ≤ N ∧ 2 ≤ v ∧ 2 ≤ M
  · have h1 : yl = 1 := by
      have := hy.length
      have h2 := words_length_pos (n := v) (by omega)
      omega
    subst h1
    obtain ⟨_, _, _, _, _, hw⟩ := rd_one hy
    rw [hw] at hy
    exact expNN_mod x xl xc N y yc v m ml mc M w G hx hy hm hmain.2.1 hmain.1 hmain.2.2 hxl hml
  have HA1 := hid (alias_any none 0 0 [] x xl xc (words N) w hz hx (Al.of_ne (hnn _)))
  have HA2 := hid (fun k => alias_any none 0 0 [] y yl yc (words v) (w.drewN k) (hz.drewN k) (hy.drewN k) (Al.of_ne (hnn _)))
  rw [shares_apart (xl := xl) hz (hnn _)] at HA1
  rw [shares_apart (xl := yl) hz (hnn _)] at HA2
  have HK := hid (fun k => ((Keeps.refl (fun _ => False) w).drewN k))
  have HX := hid hx; have HMd := hid hm; have HG := hid G
  have hml0 : 0 < ml := by rw [← hm.length]; exact words_length_pos (by omega)
  by_cases hM1 : M = 1
  · subst hM1
    have h0 : ml = 1 := by have := hm.length; rw [show words 1 = [1] by decide +kernel] at this; simpa using this.symm
    subst h0
    obtain ⟨mb, mo, rfl, c3, _, _⟩ := rd_one hm
    have HS := hid (fun k => setWord_any none 0 0 [] 0 (w.drewN k) (Rd.nil _) (by unfold W64; decide))
    clear hx hy hm G hmain hz hnn
    go_enter Tryz.func256, Tryz.ntmps256
    go_wp2_with fail
    refine HA1.out.mono ?_
    rintro e w1 ⟨rfl, k1, rfl⟩
    go_wp2_with fail
    refine (HA2.out k1).mono ?_
    rintro e w1 ⟨rfl, k2, rfl⟩
    go_wp2_with fail
    refine (HS.out (k1 + k2)).mono ?_
    rintro e w3 h
    obtain ⟨ra, rl, rc, rfl, h1, h2, h3⟩ := ExpRes.of h (HK.out (k1 + k2))
    have H1 := hid h1; have H2 := hid h2; have H3 := hid h3
    clear h h1 h2 h3
    go_wp2_with fail
    go_ret
    exact ⟨_, _, _, rfl, by rw [Nat.mod_one]; exact H1.out, H2.out, H3.out⟩
  obtain ⟨mb, mo, rfl, _⟩ := hm.cell hml0
  have hmcase := rd_case hm hM1
  have t7 : ((ml : Int) != 0) = true := by simp; omega
  have t8 : ((ml : Int) == 0) = false := by simp; omega
  have hM2 : 2 ≤ M := by omega
  by_cases hv0 : v = 0
  · subst hv0
    have h0 : yl = 0 := by have := hy.length; rw [words_zero] at this; simpa using this.symm
    subst h0
    have HS := hid (fun k => setWord_any none 0 0 [] 1 (w.drewN k) (Rd.nil _) (by unfold W64; decide))
    have hp : N ^ 0 % M = 1 := by rw [Nat.pow_zero]; exact Nat.mod_eq_of_lt hM2
    have HPW := hid hp
    clear hx hy hm G hmain hz hnn hp
    rcases hmcase with ⟨tm, m0, c3, t0⟩ | t0
    all_goals
      go_enter Tryz.func256, Tryz.ntmps256
      go_wp2_with fail
      refine HA1.out.mono ?_
      rintro e w1 ⟨rfl, k1, rfl⟩
      go_wp2_with fail
      refine (HA2.out k1).mono ?_
      rintro e w1 ⟨rfl, k2, rfl⟩
      go_wp2_with fail
      refine (HS.out (k1 + k2)).mono ?_
      rintro e w3 h
      obtain ⟨ra, rl, rc, rfl, h1, h2, h3⟩ := ExpRes.of h (HK.out (k1 + k2))
      have H1 := hid h1; have H2 := hid h2; have H3 := hid h3
      clear h h1 h2 h3
      go_wp2_with fail
      go_ret
      exact ⟨_, _, _, rfl, by rw [HPW.out]; exact H1.out, H2.out, H3.out⟩
  have h1 : yl = 1 := by
    have := hy.length
    have h2 := words_length_pos (n := v) hv0
    omega
  subst h1
  obtain ⟨yb, yo, rfl, c1, _, _⟩ := rd_one hy
  by_cases hN0 : N = 0
  · subst hN0
    have h0 : xl = 0 := by have := hx.length; rw [words_zero] at this; simpa using this.symm
    subst h0
    have HS := hid (fun k => setWord_any none 0 0 [] 0 (w.drewN k) (Rd.nil _) (by unfold W64; decide))
    have hp : 0 ^ v % M = 0 := by rw [Nat.zero_pow (by omega)]; exact Nat.zero_mod _
    have HPW := hid hp
    clear hx hy hm G hmain hz hnn hp
    rcases hmcase with ⟨tm, m0, c3, t0⟩ | t0
    all_goals
      go_enter Tryz.func256, Tryz.ntmps256
      go_wp2_with fail
      refine HA1.out.mono ?_
      rintro e w1 ⟨rfl, k1, rfl⟩
      go_wp2_with fail
      refine (HA2.out k1).mono ?_
      rintro e w1 ⟨rfl, k2, rfl⟩
      go_wp2_with fail
      refine (HS.out (k1 + k2)).mono ?_
      rintro e w3 h
      obtain ⟨ra, rl, rc, rfl, h1, h2, h3⟩ := ExpRes.of h (HK.out (k1 + k2))
      have H1 := hid h1; have H2 := hid h2; have H3 := hid h3
      clear h h1 h2 h3
      go_wp2_with fail
      go_ret
      exact ⟨_, _, _, rfl, by rw [HPW.out]; exact H1.out, H2.out, H3.out⟩
  have hxl0 : 0 < xl := by rw [← hx.length]; exact words_length_pos hN0
  have t9 : ((xl : Int) == 0) = false := by simp; omega
  by_cases hN1 : N = 1
  · subst hN1
    have h0 : xl = 1 := by have := hx.length; rw [show words 1 = [1] by decide +kernel] at this; simpa using this.symm
    subst h0
    obtain ⟨xb, xo, rfl, c0, _, _⟩ := rd_one hx
    have HS := hid (fun k => setWord_any none 0 0 [] 1 (w.drewN k) (Rd.nil _) (by unfold W64; decide))
    have hp : 1 ^ v % M = 1 := by rw [Nat.one_pow]; exact Nat.mod_eq_of_lt hM2
    have HPW := hid hp
    clear hx hy hm G hmain hz hnn hp
    rcases hmcase with ⟨tm, m0, c3, t0⟩ | t0
    all_goals
      go_enter Tryz.func256, Tryz.ntmps256
      go_wp2_with fail
      refine HA1.out.mono ?_
      rintro e w1 ⟨rfl, k1, rfl⟩
      go_wp2_with fail
      refine (HA2.out k1).mono ?_
      rintro e w1 ⟨rfl, k2, rfl⟩
      go_wp2_with fail
      refine (HS.out (k1 + k2)).mono ?_
      rintro e w3 h
      obtain ⟨ra, rl, rc, rfl, h1, h2, h3⟩ := ExpRes.of h (HK.out (k1 + k2))
      have H1 := hid h1; have H2 := hid h2; have H3 := hid h3
      clear h h1 h2 h3
      go_wp2_with fail
      go_ret
      exact ⟨_, _, _, rfl, by rw [HPW.out]; exact H1.out, H2.out, H3.out⟩
  have hv1 : v = 1 := by omega
  subst hv1
  obtain ⟨xb, xo, rfl, _⟩ := hx.cell hxl0
  have hxcase := rd_case hx hN1
  have HYC : Hid (∀ W, Keeps (fun _ => False) w W → W.cell? ⟨yb, yo, none⟩ = some (.int .u64 1)) := hid (fun W hk => by
    obtain ⟨yb', yo', he, hyc, _⟩ := rd_one (hy.keep hk (fun _ _ h => h))
    cases he
    exact hyc)
  have HN0 := hid hN0; have HM0 := hid hM0
  clear hx hy hm G hmain hz hnn
  rcases hxcase with ⟨tx, x0, c0, t1⟩ | t1 <;> rcases hmcase with ⟨tm, m0, c3, t0⟩ | t0
  all_goals
    go_enter_defers Tryz.func256, Tryz.ntmps256
    go_wp2_with fail
    refine HA1.out.mono ?_
    rintro e w1 ⟨rfl, k1, rfl⟩
    go_wp2_with fail
    refine (HA2.out k1).mono ?_
    rintro e w1 ⟨rfl, k2, rfl⟩
    go_wp2_with fail
    refine (getStack_any _).mono ?_
    rintro e w2 ⟨rfl, rfl⟩
    rw [show (w.drewN (k1 + k2)).heap.size = w.heap.size from rfl]
    obtain ⟨W1, hW1⟩ : ∃ W, W = (w.drewN (k1 + k2)).alloc (.cells #[.pointer none] 240) := ⟨_, rfl⟩
    obtain ⟨p, hp⟩ : ∃ p, p = w.heap.size := ⟨_, rfl⟩
    have hk1 : Keeps (fun _ => False) w W1 := by rw [hW1]; exact ((Keeps.refl _ w).drewN (k1 + k2)).alloc _
    have hrp : RowAt W1 p 240 [.pointer none] := by rw [hW1, hp]; exact RowAt.new (w.drewN (k1 + k2)) 240 [.pointer none]
    rw [← hW1, ← hp]
    have c4 := HYC.out W1 hk1
    have hpG : ¬ GB p := fun h => by have := HG.out.lt h; omega
    have HRM := hid (rem289 (some ⟨xb, xo, none⟩) xl xc N (some ⟨mb, mo, none⟩) ml mc M p 0 none W1 (HX.out.keep hk1 (fun _ _ h => h)) (HMd.out.keep hk1 (fun _ _ h => h)) HN0.out (by have := HM0.out; omega) (by omega) (by omega)
      ⟨hrp, rfl⟩ (by omega) (fun s e h => by cases h) (fun s e h => by cases h) (HG.out.keep hk1 (fun _ _ h => h)) hpG)
    have HP := hid hp; have HK1 := hid hk1
    clear hW1 hp hk1 hrp hpG HA1 HA2
    go_wp2_with fail
    refine HRM.out.mono ?_
    rintro e w3 ⟨ra, rl, rc, D', rfl, k1, k2, k3, k4, k5⟩
    have K1 := hid k1; have K2 := hid k2; have K3 := hid k3; have K4 := hid k4; have K5 := hid k5
    clear k1 k2 k3 k4 k5 HRM
    go_wp2_with fail
    refine leaves_cons (f := 240) (args := #[.pointer (some ⟨p, 0, none⟩)]) (by simp) (by simp [go_sem]) ?_
    refine (free240_any p 0 D' _ _ K3.out).mono ?_
    rintro e u' w'' ⟨rfl, rfl, hk'⟩
    refine ⟨_, results_tmp rfl _ _ _, ra, rl, rc, rfl, by rw [Nat.pow_one]; exact K1.out.freed K3.out hk', fun k hk => Nat.le_trans HK1.out.size (K2.out k hk), ?_⟩
    have hw1 := HK1.out.size
    have hp := HP.out
    exact (HK1.out.trans' K4.out (fun i hi h => by
      rcases h with h | ⟨s, d, h, _⟩
      · omega
      · cases h)).trans' hk' (fun i hi ⟨d, hd⟩ => by
      rcases (K5.out i d hd).1 with ⟨d', h⟩ | h
      · cases h
      · omega)
end Go.Proofs
namespace Go.Proofs
open Go.RowKit
set_option maxHeartbeats 1600000
set_option linter.unusedVariables false
set_option linter.unusedSimpArgs false
set_option maxRecDepth 100000

theorem exp218_mod (pz px py pm tz tx ty tm : Nat) (x : Int) (v M : Nat) (ax ay am : Option Addr) (lx cx ly cy lm cm : Nat) (w : World) (hz : IntS w pz tz 0 none 0 0) (hx : IntS w px tx x ax lx cx) (hy : IntS w py ty (v : Int) ay ly cy) (hm : IntS w pm tm (M : Int) am lm cm)
    (hzx : pz ≠ px) (hzy : pz ≠ py) (hzm : pz ≠ pm) (hv : v < W64) (hM : 1 ≤ M) (hlx : lx ≤ 11) (hlm : lm ≤ 11) (G : Glob w) :
    Calls Tryz.prog 218 #[.pointer (some ⟨pz, 0, none⟩), .pointer (some ⟨px, 0, none⟩), .pointer (some ⟨py, 0, none⟩), .pointer (some ⟨pm, 0, none⟩), .bool false] w fun e w' => e = .returned (.pointer (some ⟨pz, 0, none⟩)) ∧
      ∃ a l c, IntS w' pz tz (x ^ v % (M : Int)) a l c ∧ (∀ k, InB a k → w.heap.size ≤ k) ∧ Keeps (fun k => k = pz) w w' := by
  obtain ⟨z1, z2, z3, z4⟩ := hz.row.facts
  obtain ⟨x1, x2, _, _⟩ := hx.row.facts
  obtain ⟨y1, y2, _, _⟩ := hy.row.facts
  obtain ⟨m1, m2, _, _⟩ := hm.row.facts
  rw [decide_eq_false (show ¬ (v : Int) < 0 by omega)] at y1
  have hyr := hy.rd
  rw [Int.natAbs_natCast] at hyr
  have hmr := hm.rd
  rw [Int.natAbs_natCast] at hmr
  have qE := eql_ptr117_other _ _ _ _ _ _ _ _ _ _ _ _ _ hz.row hm.row hzm
  have qE2 := eql_ptr117_other _ _ _ _ _ _ _ _ _ _ _ _ w.drew (RowAt.drew hz.row) (RowAt.drew hm.row) hzm
  have hnn : ∀ (b : Option Addr) k, InB none k → ¬ InB b k := fun b k ⟨o, ho⟩ => by cases ho
  have hzr0 : Rd w none 0 0 [] := Rd.nil _
  have HA := hid (alias_any none 0 0 [] am lm cm (words M) w.drew hzr0.drew hmr.drew (Al.of_ne (hnn _)))
  rw [shares_apart (xl := lm) hzr0 (hnn _)] at HA
  obtain ⟨V, hV⟩ : ∃ V, V = x.natAbs ^ v % M := ⟨_, rfl⟩
  have HC := hid (fun W (hk : Keeps (fun _ => False) w W) => expNN_full ax lx cx x.natAbs ay ly cy v am lm cm M W (G.keep hk (fun _ _ h => h)) (hx.rd.keep hk (fun _ _ h => h)) (hyr.keep hk (fun _ _ h => h)) (hmr.keep hk (fun _ _ h => h)) hv hM hlx hlm)
  rw [← hV] at HC
  have hly : ly ≤ 1 := by rw [← hyr.length]; exact words_len_le_one hv
  have hpz := powZ_eq x v M hM
  unfold powZ at hpz
  rw [← hV] at hpz
  have hVM : V < M := by rw [hV]; exact Nat.mod_lt _ hM
  have hlm0 : 0 < lm := by rw [← hmr.length]; exact words_length_pos (by omega)
  have HMROW := hid hm.row; have HLM := hid hlm; have HZ := hid hz; have HXR := hid hx.row; have HYR := hid hyr; have HLY := hid hly; have HPZ := hid hpz; have HMR := hid hmr; have HVM := hid hVM
  obtain ⟨sx, hsx⟩ : ∃ s, s = decide (x < 0) := ⟨_, rfl⟩
  rw [← hsx] at x1
  have HSX := hid hsx
  have HXR2 : Hid (∀ w', Keeps (fun k => k = pz) w w' → w'.cell? ⟨px, 0, none⟩ = some (.bool sx)) := hid (fun w' hk => by
    have := (IntRow.facts (hk.row HXR.out (fun h => hzx h.symm))).1
    rw [hsx]; exact this)
  have HYC : Hid (∀ w', IntRow w pz tz (decide ((0 : Int) < 0)) none 0 0 → Keeps (fun k => k = pz) w w' → ly = 1 → ∃ b o, ay = some ⟨b, o, none⟩ ∧ w'.cell? ⟨b, o, none⟩ = some (.int .u64 (v : Int))) := hid (fun w' hr hk h1 => by
    subst h1
    have := hyr.keep hk (fun k hk2 h => by subst h; exact hyr.not_row hr hk2)
    obtain ⟨b, o, he, hc, _, _⟩ := rd_one this
    exact ⟨b, o, he, hc⟩)
  have tm1 : decide ((0 : Int) < (lm : Int)) = true := by simp; omega
  have tm1' : decide (0 < lm) = true := by simp; omega
  clear hz hx hy hyr hmr hm hv hlx hlm G hly hsx hV hpz hnn hzr0 hVM hM
  go_enter Tryz.func218, Tryz.ntmps218
  go_upto_region 12 with fail
  go_cut [64] from 51 to 65 (fun v wx => v = .bool false ∧ Keeps (fun _ => False) w wx)
  case first =>
    go_region_law (first | (go_simp; go_at_call 201; (with_reducible refine HA.out.mono ?_); rintro e w0 ⟨rfl, k0, rfl⟩))
    all_goals
      go_wp2_with fail
      go_meet
    all_goals exact ⟨rfl, (Keeps.refl _ w).drewN _⟩
  case rest =>
  obtain ⟨rfl, hkc⟩ := hcut
  obtain ⟨z1, z2, z3, z4⟩ := IntRow.facts (hkc.row HZ.out.row (fun h => h))
  obtain ⟨m1, m2, _, _⟩ := IntRow.facts (hkc.row HMROW.out (fun h => h))
  have HKC := hid hkc
  clear hkc
  go_wp2_with fail
  refine (HC.out _ HKC.out).mono ?_
  rintro e w1 ⟨ra, rl, rc, rfl, h1, h2', h3'⟩
  have h2 : ∀ k, InB ra k → w.heap.size ≤ k := fun k hk => Nat.le_trans HKC.out.size (h2' k hk)
  have h3 : Keeps (fun _ => False) w w1 := HKC.out.trans h3'
  have hzr : IntRow w1 pz tz (decide ((0 : Int) < 0)) none 0 0 := h3.row HZ.out.row (fun h => h)
  obtain ⟨d0, d1, d2, d3⟩ := hzr.facts
  have H1 := hid h1
  have H2 : Hid (∀ k, InB ra k → w.heap.size ≤ k) := hid h2
  have H3 := hid h3; have HZR := hid hzr
  have hk2 : Keeps (fun k => k = pz) w (w1.setCell ⟨pz, 1, none⟩ (.slice ra rl rc)) := (h3.any (S := fun k => k = pz)).setCell _ (.inl rfl) _
  have hc2 := HXR2.out _ hk2
  have HK2 := hid hk2
  have hrl : rl = 0 ↔ V = 0 := by
    rw [← h1.length]; exact words_len_zero _
  have hsame : ∀ b : Bool, IntRow ((w1.setCell ⟨pz, 1, none⟩ (.slice ra rl rc)).setCell ⟨pz, 0, none⟩ (.bool b)) pz tz b ra rl rc ∧ Rd ((w1.setCell ⟨pz, 1, none⟩ (.slice ra rl rc)).setCell ⟨pz, 0, none⟩ (.bool b)) ra rl rc (words V) ∧ Keeps (fun k => k = pz) w ((w1.setCell ⟨pz, 1, none⟩ (.slice ra rl rc)).setCell ⟨pz, 0, none⟩ (.bool b)) := fun b => by
    have r1 := IntRow.set1 (ra := ra) (rl := rl) (rc := rc) HZR.out
    exact ⟨IntRow.set0 r1, (H1.out.set_row HZR.out _ _).set_row r1 _ _, HK2.out.setCell _ (.inl rfl) _⟩
  have HSM := hid hsame
  have hfin : x ^ v % (M : Int) = (V : Int) → ∃ a l c, IntS ((w1.setCell ⟨pz, 1, none⟩ (.slice ra rl rc)).setCell ⟨pz, 0, none⟩ (.bool false)) pz tz (x ^ v % (M : Int)) a l c ∧ (∀ k, InB a k → w.heap.size ≤ k) ∧ Keeps (fun k => k = pz) w ((w1.setCell ⟨pz, 1, none⟩ (.slice ra rl rc)).setCell ⟨pz, 0, none⟩ (.bool false)) := fun he => by
    obtain ⟨g1, g2, g3⟩ := HSM.out false
    refine ⟨ra, rl, rc, ⟨?_, ?_⟩, H2.out, g3⟩
    · rw [he, decide_eq_false (show ¬ ((V : Int) < 0) by omega)]; exact g1
    · rw [he, Int.natAbs_natCast]; exact g2
  have HF := hid hfin
  obtain ⟨e0, e1, e2, e3⟩ := (hsame false).1.facts
  clear h1 h2 h2' h3 h3' hzr hk2 hfin hsame z1 z2 x1 m1 m2
  by_cases hr0 : rl = 0
  · have t1 : decide ((0 : Int) < (rl : Int)) = false := by simp; omega
    have t1' : decide (0 < rl) = false := by simp; omega
    have hfalse : x ^ v % (M : Int) = (V : Int) := by
      rw [← HPZ.out, if_neg (fun h => h.2.2 (hrl.1 hr0))]
    have HFA := hid hfalse
    have hr0' := hid hr0
    clear hrl hr0 hfalse
    go_wp2_with fail
    go_ret
    exact ⟨rfl, HF.out HFA.out⟩
  have t1 : decide ((0 : Int) < (rl : Int)) = true := by simp; omega
  have t1' : decide (0 < rl) = true := by simp; omega
  have HV0 := hid (fun h => hr0 (hrl.2 h))
  clear hrl hr0
  cases sx with
  | false =>
    have hfalse : x ^ v % (M : Int) = (V : Int) := by
      have h0 : ¬ x < 0 := by simpa using HSX.out.symm
      rw [← HPZ.out, if_neg (fun h => h0 h.1)]
    have HFA := hid hfalse
    clear hfalse
    go_wp2_with fail
    go_ret
    exact ⟨rfl, HF.out HFA.out⟩
  | true =>
    have hx0 : x < 0 := by simpa using HSX.out.symm
    have HX0 := hid hx0
    clear hx0
    by_cases hl0 : ly = 0
    · have t2 : decide ((0 : Int) < (ly : Int)) = false := by simp; omega
      have t2' : decide (0 < ly) = false := by simp; omega
      have hfalse : x ^ v % (M : Int) = (V : Int) := by
        have h0 : v = 0 := by
          have := HYR.out.length
          rw [hl0] at this
          exact (words_len_zero v).1 this
        rw [← HPZ.out, if_neg (fun h => by omega)]
      have HFA := hid hfalse
      have hl0' := hid hl0
      clear hfalse hl0
      go_wp2_with fail
      go_ret
      exact ⟨rfl, HF.out HFA.out⟩
    · have t2 : decide ((0 : Int) < (ly : Int)) = true := by simp; omega
      have t2' : decide (0 < ly) = true := by simp; omega
      have hly0 : 0 < ly := by omega
      obtain ⟨yb, yo, rfl, hyc⟩ := HYC.out _ HZ.out.row HK2.out (by have := HLY.out; omega)
      by_cases hodd : v % 2 = 1
      · have t3 : (bits .and .u64 (v : Int) 1 == 1) = true := by rw [u64_and1, hodd]; rfl
        have htrue : x ^ v % (M : Int) = ((M - V : Nat) : Int) := by
          rw [← HPZ.out, if_pos ⟨HX0.out, hodd, HV0.out⟩]
        have HFA := hid htrue
        obtain ⟨k0, k1, k2⟩ := HSM.out true
        obtain ⟨f0, f1, f2, f3⟩ := k0.facts
        have hmr3 := HMR.out.keep k2 (fun k hk h => by subst h; exact HMR.out.not_row HZ.out.row hk)
        have hra : ∀ k, InB ra k → ¬ InB am k := fun k h1 h2 => by have := H2.out k h1; have := HMR.out.lt h2; omega
        have hsb := sub_any ra rl rc (words V) am lm cm M ra rl rc V _ k1.drew hmr3.drew k1.drew (by have := HLM.out; omega) (Nat.le_of_lt HVM.out) (Al.of_ne hra) (Al.refl _ _)
        obtain ⟨W3, hW3⟩ : ∃ W3, W3 = (w1.setCell ⟨pz, 1, none⟩ (.slice ra rl rc)).setCell ⟨pz, 0, none⟩ (.bool true) := ⟨_, rfl⟩
        rw [← hW3] at k0 k1 k2 f0 f1 f2 f3 hsb
        have HSB := hid hsb
        have K0 := hid k0; have K1 := hid k1; have K2 := hid k2
        clear htrue hodd hl0 k0 k1 k2 hmr3 hra hsb
        go_upto_region 18 with fail
        rw [← hW3]
        clear hW3
        go_region_law (first | (go_simp; go_at_call 197; (with_reducible refine HSB.out.mono ?_); rintro e w3 ⟨sa, sl, sc, rfl, j1, j2, j3⟩; obtain ⟨r0, r1, r2, r3⟩ := IntRow.facts (show IntRow w3 pz tz true ra rl rc from ((Keeps.refl (InB ra) W3).drew.trans j3).row K0.out (fun hk => K1.out.not_row K0.out hk)); have J1 := hid j1; have J2 := hid j2; have J3 := hid ((Keeps.refl (InB ra) W3).drew.trans j3); have R3 := hid (show IntRow w3 pz tz true ra rl rc from ((Keeps.refl (InB ra) W3).drew.trans j3).row K0.out (fun hk => K1.out.not_row K0.out hk)); clear j1 j2 j3))
        all_goals go_wp2_with fail
        all_goals go_ret
        all_goals
          have s1 := IntRow.set1 (ra := sa) (rl := sl) (rc := sc) R3.out
          have s2 := IntRow.set0 (s := false) s1
          refine ⟨rfl, sa, sl, sc, ⟨?_, ?_⟩, ?_, ?_⟩
          · rw [HFA.out, decide_eq_false (show ¬ (((M - V : Nat) : Int) < 0) by omega)]; exact s2
          · rw [HFA.out, Int.natAbs_natCast]; exact (J1.out.set_row R3.out _ _).set_row s1 _ _
          · intro k hk
            rcases J2.out.inB hk with h | h
            · exact H2.out k h
            · exact Nat.le_trans K2.out.size h
          · exact ((K2.out.trans' J3.out (fun i hi h => by have := H2.out i h; omega)).setCell _ (.inl rfl) _).setCell _ (.inl rfl) _
      · have t3 : (bits .and .u64 (v : Int) 1 == 1) = false := by rw [u64_and1, show v % 2 = 0 by omega]; rfl
        have hfalse : x ^ v % (M : Int) = (V : Int) := by
          rw [← HPZ.out, if_neg (fun h => hodd h.2.1)]
        have HFA := hid hfalse
        clear hfalse hodd hl0
        go_wp2_with fail
        go_ret
        exact ⟨rfl, HF.out HFA.out⟩
end Go.Proofs
