/- Parts of the proofs over the numbers of any length: DivL, DivN, DivN2. -/
import Derived.Test.YtacbllkmcldniaaGreatDoorDivC
import Derived.Test.YtacbllkmcldniaaGreatDoorBaseB
import Derived.Test.YtacbllkmcldniaaGreatDoorRangeA
import Derived.Test.YtacbllkmcldniaaGreatDoorBaseC
set_option linter.unusedSimpArgs false
set_option linter.unusedVariables false
namespace Go.Proofs
open Go.RowKit
set_option maxHeartbeats 1000000
set_option linter.unusedVariables false
set_option linter.unusedSimpArgs false
set_option maxRecDepth 100000

theorem Sg.cells {w : World} {b o : Nat} {L : List Nat} (h : Sg w b o L) : ∀ j v, (L.map wv)[j]? = some v → w.cell? ⟨b, o + j, none⟩ = some v := by
  intro j v hv
  have hj : j < L.length := by
    have := (List.getElem?_eq_some_iff.1 hv).1
    simpa using this
  rw [h.cell hj]
  simp [hj, wv] at hv
  simp [hj, ← hv]
/-- copy, between ranges of the same length. -/
theorem wpList_cpSg {w : World} {ops : Array Oper} {rest : List Oper} {o : Oper} {a : Act} {Q : Exit → Act → World → Prop} (hgd : o.guard = none) (d s : Operand) (dT sT : TypeId)
    (ho : o.op = .call { callee := .builtin .copy, args := #[d, s], argTypes := #[dT, sT] }) (hu : Tryz.prog.underlying dT = some (.slice 177))
    (zb zo xb xo n dCap sCap : Nat) (hd : a.eval d = .slice (some ⟨zb, zo, none⟩) n dCap) (hs : a.eval s = .slice (some ⟨xb, xo, none⟩) n sCap)
    (Z X : List Nat) (hz : Sg w zb zo Z) (hx : Sg w xb xo X) (hZ : Z.length = n) (hX : X.length = n)
    (h : ∀ w', Sg w' zb zo X → KC (Cl zb zo n) w w' → wpList Tryz.prog ops Q rest (a.put o.dst (goInt n)) w') :
    wpList Tryz.prog ops Q (o :: rest) a w := by
  obtain ⟨M, h1, h2, h3, h4, h5⟩ := hz
  refine wpList_cp hgd d s dT sT ho 177 hu s177 _ _ n dCap n sCap hd hs zb zo (M.map wv) 177 h1 (X.map wv) (by simp [hX]) (fun _ => ⟨rfl, xb, xo, rfl, hx.cells⟩) (by simp; omega) wv_one ?_
  intro w' hb hk
  rw [← splice_map] at hb
  have hR := hx.words
  have e : (X.map wv).length = n := by simp [hX]
  rw [e]
  exact h w' (Sg.of_splice hb h2 h3 hR (by omega)) (by have := KC.splice h1 hb hk hR (by omega); rwa [hX] at this)

theorem shlL_id {X : List Nat} {n : Nat} (hX : Words X) (hn : n ≤ X.length) : shlL 0 X n = X.take n := by
  apply List.ext_getElem?
  intro i
  by_cases hi : i < n
  · rw [List.getElem?_take_of_lt hi]
    have h1 : X.getD i 0 < W64 := hX.getD i
    have h2 : shlC 0 X i = 0 := by
      unfold shlC
      split
      · rfl
      · exact Nat.div_eq_of_lt (by have := hX.getD (i - 1); unfold W64 at this; simpa using this)
    simp only [shlL, List.getElem?_map, List.getElem?_range hi, Option.map_some, h2, Nat.pow_zero, Nat.mul_one, Nat.mod_eq_of_lt h1, Nat.add_zero]
    simp [List.getElem?_eq_getElem (show i < X.length by omega)]
  · rw [List.getElem?_eq_none (by rw [shlL_length]; omega), List.getElem?_eq_none (by simp; omega)]
theorem shlC_zero {X : List Nat} {n : Nat} (hX : Words X) : shlC 0 X n = 0 := by
  unfold shlC
  split
  · rfl
  · exact Nat.div_eq_of_lt (by have := hX.getD (n - 1); unfold W64 at this; simpa using this)

/-- The divisor shifted up. -/
theorem scaled_div {d n s : Nat} (hd : (words d).length = n) (hn2 : 2 ≤ n) (hs : s = nz ((words d).getD (n - 1) 0)) :
    s ≤ 63 ∧ val (shlL s (words d) n) = d * 2 ^ s ∧ ∃ v1 v2, DvV (shlL s (words d) n) n v1 v2 ∧ 2 ^ 63 ≤ v1 := by
  have hd0 : d ≠ 0 := by rintro rfl; rw [words_zero] at hd; simp at hd; omega
  have ht0 := words_last hd0
  rw [hd] at ht0
  have htl := (words_words d).getD (n - 1)
  obtain ⟨k1, k2, k3, k4⟩ := nz_facts ht0 htl
  obtain ⟨k5, k6⟩ := nz_shift ht0 htl
  rw [← hs] at k1 k3 k4 k5 k6
  have k6' : (words d).getD (n - 1) 0 * 2 ^ s < W64 := k6
  have hc : shlC s (words d) n = 0 := by
    unfold shlC
    rw [if_neg (by omega)]
    exact Nat.div_eq_of_lt k4
  have hv := shlL_val (s := s) (X := words d) (by omega) n
  rw [hc, Nat.mul_zero, Nat.add_zero, List.take_of_length_le (by omega), val_words] at hv
  refine ⟨k1, hv, _, _, ⟨shlL_length _ _ _, shlL_words (by omega) (words_words d) n, hn2, rfl, rfl, ?_⟩, ?_⟩
  · rw [shlL_getD (by omega), Nat.mod_eq_of_lt k6']
    unfold W64; omega
  · rw [shlL_getD (by omega), Nat.mod_eq_of_lt k6']
    omega
/-- The dividend shifted up, one word longer. -/
theorem scaled_num {N xl s : Nat} (hN : (words N).length = xl) (hs : s ≤ 63) :
    val (shlL s (words N) xl ++ [shlC s (words N) xl]) = N * 2 ^ s ∧ Words (shlL s (words N) xl ++ [shlC s (words N) xl]) ∧ shlC s (words N) xl < 2 ^ 63 := by
  have hv := shlL_val (s := s) (X := words N) (by omega) xl
  rw [List.take_of_length_le (by omega), val_words] at hv
  have hc : shlC s (words N) xl < 2 ^ 63 := by
    unfold shlC
    split
    · exact Nat.two_pow_pos _
    · have h1 := (words_words N).getD (xl - 1)
      have h2 : (words N).getD (xl - 1) 0 / 2 ^ (64 - s) < 2 ^ s := by
        rw [Nat.div_lt_iff_lt_mul (Nat.two_pow_pos _), ← pow_split (by omega)]
        exact h1
      exact Nat.lt_of_lt_of_le h2 (Nat.pow_le_pow_right (by omega) hs)
  refine ⟨by rw [val_snoc, shlL_length]; exact hv, (shlL_words (by omega) (words_words N) xl).snoc (by unfold W64; omega), hc⟩

theorem Rd.notSt {w : World} {a : Option Addr} {l c : Nat} {L : List Nat} {p sp : Nat} {D : Option (Nat × Nat)} (h : Rd w a l c L) (hs : Stk w p sp D) (hD : ∀ s e, D = some (s, e) → ¬ InB a e) :
    ∀ b o, a = some ⟨b, o, none⟩ → ∀ i, ¬ StC p sp D b i := by
  rintro b o rfl i hc
  rcases h with ⟨h, _⟩ | ⟨b', o', M, h, hb, _⟩
  · cases h
  · cases h
    rcases hc with rfl | ⟨s, e, rfl, rfl | ⟨rfl, _⟩⟩
    · cases D with
      | none => exact absurd (RowAt.type hs.1 hb) (by decide)
      | some q => obtain ⟨s, e⟩ := q; obtain ⟨N, k1, _⟩ := hs; exact absurd (RowAt.type k1 hb) (by decide)
    · obtain ⟨N, _, k2, _⟩ := hs; exact absurd (RowAt.type k2 hb) (by decide)
    · exact hD s b rfl ⟨o, rfl⟩

/-- What a division leaves. -/
def DivR (w : World) (a : Option Addr) (c : Nat) (a2 : Option Addr) (c2 N d p sp : Nat) (D : Option (Nat × Nat)) (e : Ending) (w' : World) : Prop :=
  ∃ qa ql qc ra rl rc D', e = .returned (.tuple #[.slice qa ql qc, .slice ra rl rc]) ∧ Rd w' qa ql qc (words (N / d)) ∧ Into w a c qa qc ∧ Rd w' ra rl rc (words (N % d)) ∧ Into w a2 c2 ra rc ∧ (∀ k, InB qa k → ¬ InB ra k) ∧
    Stk w' p sp D' ∧ StI w D D' ∧ (∀ s e, D' = some (s, e) → ¬ InB qa e ∧ ¬ InB ra e) ∧ KC (fun b i => InB a b ∨ InB a2 b ∨ StC p sp D b i) w w'

theorem Glob.ne_266 {w : World} (h : Glob w) {s : Nat} {v : Value} (hr : RowAt w s 266 [v]) (hv : ∃ a l c, v = .slice a l c) : ¬ GB s := by
  intro hk
  obtain ⟨a, l, c, rfl⟩ := hv
  have c0 : w.cell? ⟨s, 0, none⟩ = some (.slice a l c) := hr.cell 0
  obtain ⟨q, hp⟩ := h.eof
  rcases hk with rfl | rfl | rfl | rfl | rfl | rfl | rfl
  · rw [hp] at c0; cases c0
  · rw [h.bs] at c0; cases c0
  · rw [h.ks] at c0; cases c0
  · rw [h.kt] at c0; cases c0
  · rw [h.dr] at c0; cases c0
  · rw [h.lf] at c0; cases c0
  · rw [h.tz 0 (by omega)] at c0; cases c0
theorem Glob.ne_sg {w : World} (h : Glob w) {b o : Nat} {L : List Nat} (hs : Sg w b o L) : ¬ GB b := by
  obtain ⟨M, hb, _⟩ := hs; exact h.ne_blk hb
/-- The package's variables outlive the stack's turns. -/
theorem Glob.stk {w w' : World} (h : Glob w) {p sp : Nat} {D : Option (Nat × Nat)} (hs : Stk w p sp D) (hp : ¬ GB p) (hk : KC (StC p sp D) w w') : Glob w' := by
  refine h.keep hk.keeps ?_
  rintro k hg ⟨i, rfl | ⟨s, d, rfl, rfl | ⟨rfl, _⟩⟩⟩
  · exact hp hg
  · obtain ⟨M, _, k2, _⟩ := hs; exact h.ne_266 k2 ⟨_, _, _, rfl⟩ hg
  · obtain ⟨M, _, _, k3, _⟩ := hs; exact h.ne_blk k3 hg

theorem divLarge241 (a : Option Addr) (l c : Nat) (L : List Nat) (a2 : Option Addr) (l2 c2 : Nat) (L2 : List Nat) (x : Option Addr) (xl xc N : Nat) (y : Option Addr) (n yc d p sp : Nat) (D : Option (Nat × Nat)) (w : World)
    (hz : Rd w a l c L) (hz2 : Rd w a2 l2 c2 L2) (hx : Rd w x xl xc (words N)) (hy : Rd w y n yc (words d)) (hn2 : 2 ≤ n) (hn : n < 40) (hnx : n ≤ xl) (hxl : xl ≤ 100000)
    (hzz : ∀ k, InB a k → ¬ InB a2 k) (hax : Al a2 c2 x xc) (hst : Stk w p sp D) (hsp : sp ≤ 300000) (hD : ∀ s e, D = some (s, e) → ¬ InB a e ∧ ¬ InB a2 e ∧ ¬ InB x e ∧ ¬ InB y e) (G : Glob w) (hpG : ¬ GB p) :
    Calls Tryz.prog 241 #[.slice a l c, .pointer (some ⟨p, 0, none⟩), .slice a2 l2 c2, .slice x xl xc, .slice y n yc] w (DivR w a c a2 c2 N d p sp D) := by
  obtain ⟨m, rfl⟩ : ∃ m, xl = m + n := ⟨xl - n, by omega⟩
  obtain ⟨n1, hn1⟩ : ∃ n1, n1 + 1 = n := ⟨n - 1, by omega⟩
  have e1 : (n : Int) - 1 = (n1 : Int) := by omega
  have hdl := hy.length
  have hNl := hx.length
  have hd0 : d ≠ 0 := by rintro rfl; rw [words_zero] at hdl; simp at hdl; omega
  obtain ⟨t, ht⟩ : ∃ t, t = (words d).getD (n - 1) 0 := ⟨_, rfl⟩
  obtain ⟨s, hs⟩ : ∃ s, s = nz t := ⟨_, rfl⟩
  obtain ⟨hs63, hVv, v1, v2, hV, hv63⟩ := scaled_div hdl hn2 (s := s) (by rw [hs, ht])
  obtain ⟨hUv, hUw, hUt⟩ := scaled_num (s := s) hNl hs63
  have ht0 : t ≠ 0 := by rw [ht]; have := words_last hd0; rwa [hdl] at this
  have htl : t < W64 := by rw [ht]; exact (words_words d).getD _
  obtain ⟨yb, yo, rfl, hys⟩ := hy.sg (by omega)
  obtain ⟨xb, xo, rfl, hxs⟩ := hx.sg (by omega)
  have ct := hys.cell (i := n1) (by omega)
  rw [show n1 = n - 1 by omega, ← ht, show n - 1 = n1 by omega] at ct
  have HS := hid (save271 p sp D w hst)
  have HNZ := hid (fun W => nlz_any t W ht0 htl)
  rw [← hs] at HNZ
  have HN := hid (nat272 p sp n D w hst (by omega) (by omega))
  have Hz := hid hz; have Hz2 := hid hz2; have Hx := hid hx; have Hy := hid hy; have Hzz := hid hzz; have Hax := hid hax; have Hst := hid hst; have HD := hid hD; have HG := hid G; have HpG := hid hpG
  have HV := hid hV; have HVv := hid hVv; have HUv := hid hUv; have HUw := hid hUw; have HUt := hid hUt; have Hv63 := hid hv63; have Hdl := hid hdl; have HNl := hid hNl; have Hd0 := hid hd0
  have Hxs := hid hxs; have Hys := hid hys
  clear hz hz2 hx hy hzz hax hst hD G hV hVv hUv hUw hUt hv63 ht hs hdl hNl hd0 ht0 htl hxs hys hpG
  go_enter_defers Tryz.func241, Tryz.ntmps241
  go_wp2_with fail
  refine HS.out.mono ?_
  rintro e w0 ⟨rfl, rfl⟩
  go_wp2_with fail
  refine (HNZ.out _).mono ?_
  rintro e w0' ⟨rfl, rfl⟩
  go_wp2_with fail
  refine HN.out.mono ?_
  rintro e w1 ⟨vb, vo, vc, sp1, D1, rfl, hvc1, hvc2, hsn⟩
  have hvc2' : vc ≤ 9223372036854775807 := hvc2
  have SN := hid hsn
  have X1 := hid (Hx.out.keepC hsn.kc (fun b o h i _ _ => Hx.out.notSt Hst.out (fun s e h => (HD.out s e h).2.2.1) b o h i))
  have Y1 := hid (Hy.out.keepC hsn.kc (fun b o h i _ _ => Hy.out.notSt Hst.out (fun s e h => (HD.out s e h).2.2.2) b o h i))
  have Z1 := hid (Hz.out.keepC hsn.kc (fun b o h i _ _ => Hz.out.notSt Hst.out (fun s e h => (HD.out s e h).1) b o h i))
  have Z21 := hid (Hz2.out.keepC hsn.kc (fun b o h i _ _ => Hz2.out.notSt Hst.out (fun s e h => (HD.out s e h).2.1) b o h i))
  -- the piece's block is none of theirs
  have Hvb : Hid (∀ q : Option Addr, (∀ k, InB q k → k < w0'.heap.size) → (∀ s e, D = some (s, e) → ¬ InB q e) → ¬ InB q vb) := hid (by
    rintro q hq1 hq2 hq
    rcases hsn.place with h | ⟨s, h, _⟩
    · have := hq1 vb hq; omega
    · exact hq2 s vb h hq)
  have HMK := hid (make_any a2 l2 c2 (m + n + 1) L2 w1 Z21.out (by omega) (by omega))
  clear hsn ct HN HS HNZ
  go_wp2_with fail
  refine HMK.out.mono ?_
  rintro e w2 ⟨ra, uc, rfl, hm⟩
  obtain ⟨ub, uo, M2, rfl, hb2, hw2, hu1, hu2, hu3, hi2, hk2⟩ := hm.rd
  have hkc2 : KC (fun _ _ => False) w1 w2 := KC.of_keeps hk2
  obtain ⟨xb', xo', hxe, hxs2⟩ := (X1.out.keep hk2 (fun _ _ h => h)).sg (by omega)
  cases hxe
  obtain ⟨yb', yo', hye, hys2⟩ := (Y1.out.keep hk2 (fun _ _ h => h)).sg (by omega)
  cases hye
  obtain ⟨H, hHl, hHs1⟩ := SN.out.sg
  have hHs := hHs1.keep hkc2 (fun _ _ _ h => h)
  have hux : xb ≠ ub ∨ xo = uo := by
    rcases hi2.al Hax.out (fun k hk => X1.out.lt hk) _ _ _ _ rfl rfl with h | h
    · exact .inl (Ne.symm h)
    · exact .inr h.1.symm
  have hxv : xb ≠ vb := fun h => Hvb.out (some ⟨xb, xo, none⟩) (fun k hk => Hx.out.lt hk) (fun s e h => (HD.out s e h).2.2.1) ⟨xo, by rw [h]⟩
  have hyv : yb ≠ vb := fun h => Hvb.out (some ⟨yb, yo, none⟩) (fun k hk => Hy.out.lt hk) (fun s e h => (HD.out s e h).2.2.2) ⟨yo, by rw [h]⟩
  have huv : ub ≠ vb := by
    rintro rfl
    rcases hi2.inB ⟨uo, rfl⟩ with h | h
    · exact Hvb.out a2 (fun k hk => Hz2.out.lt hk) (fun s e h => (HD.out s e h).2.1) h
    · have := hHs1.lt; omega
  have hst2 : Stk w2 p sp1 D1 := SN.out.stk.keepF hk2
  have hu2s : Sg w2 ub uo (seg M2 uo (m + n + 1)) := ⟨M2, hb2, hw2, Nat.le_trans hu3 LIM_BIGL, by rw [length_seg (by omega)]; omega, by rw [length_seg (by omega)]⟩
  have hu2l : (seg M2 uo (m + n + 1)).length = m + n + 1 := length_seg (by omega)
  have XS := hid hxs2; have YS := hid hys2; have HS2 := hid hHs; have HHl := hid hHl; have ST2 := hid hst2; have US := hid hu2s; have UL := hid hu2l; have HI2 := hid hi2; have HK2 := hid hk2
  have HB2 := hid hb2
  have HXU := hid hux; have HXV := hid hxv; have HYV := hid hyv; have HUV := hid huv
  clear hm hb2 hw2 hi2 hk2 hkc2 hxs2 hys2 hHs1 hHs hux hxv hyv huv hst2 hu2s hu2l HMK
  have s2 : ∀ w : World, (Instr.slice 101 (.slice (some ⟨ub, uo, none⟩) (m + n + 1) uc) none (some (.int .i64 ((m : Int) + (n : Int)))) none).run Tryz.prog w = .ok (.slice (some ⟨ub, uo, none⟩) (m + n) uc) w := by
    have := slice101_pre ub uo (m + n + 1) uc (m + n) (by omega)
    rwa [Int.natCast_add] at this
  go_upto_if 40 with fail
  go_cut [] from 40 to 68 (fun wx => Sg wx vb vo (shlL s (words d) n) ∧ Sg wx ub uo (shlL s (words N) (m + n) ++ [shlC s (words N) (m + n)]) ∧ Stk wx p sp1 D1 ∧ KC (fun b i => Cl vb vo n b i ∨ Cl ub uo (m + n + 1) b i) w2 wx)
  case first =>
    by_cases hs0 : s = 0
    · subst hs0
      have hv0 : shlL 0 (words d) n = words d := by rw [shlL_id (words_words d) (by rw [Hdl.out]; exact Nat.le_refl _), List.take_of_length_le (by rw [Hdl.out]; exact Nat.le_refl _)]
      have hu0 : shlL 0 (words N) (m + n) ++ [shlC 0 (words N) (m + n)] = words N ++ [0] := by rw [shlL_id (words_words N) (by rw [HNl.out]; exact Nat.le_refl _), List.take_of_length_le (by rw [HNl.out]; exact Nat.le_refl _), shlC_zero (words_words N)]
      have HV0 := hid hv0; have HU0 := hid hu0
      have husub := US.out.sub 0 (m + n) (by rw [UL.out]; omega)
      rw [Nat.add_zero] at husub
      have hsl : (seg (seg M2 uo (m + n + 1)) 0 (m + n)).length = m + n := length_seg (by rw [UL.out]; omega)
      have HUsub := hid husub; have HSl := hid hsl
      clear hv0 hu0 husub hsl HUv HUw HUt HV HVv
      go_upto_region 9 with (refine wpList_cpSg rfl (.tmp 41) (.tmp 42) 101 101 rfl u101 vb vo yb yo n vc yc rfl rfl _ _ HS2.out YS.out HHl.out Hdl.out ?_; intro w3 h1 h2)
      have hxs3 := XS.out.keepCl h2 (.inl HXV.out)
      have hus3 := US.out.keepCl h2 (.inl HUV.out)
      have husub3 := HUsub.out.keepCl h2 (.inl HUV.out)
      have H1 := hid h1; have K2 := hid h2; have XS3 := hid hxs3; have US3 := hid hus3; have UB3 := hid husub3
      clear h1 h2 hxs3 hus3 husub3
      go_upto_region 10 with (refine wpList_cpSg rfl (.tmp 47) (.tmp 48) 101 101 rfl u101 ub uo xb xo (m + n) uc xc rfl rfl _ _ UB3.out XS3.out HSl.out HNl.out ?_; intro w4 h1 h2)
      have hu4 := Sg.part (j := 0) (R := words N) US3.out (by rw [HNl.out]; exact h2) (by rw [Nat.add_zero]; exact h1) (by rw [HNl.out, UL.out]; omega)
      have hu4l : (splice (seg M2 uo (m + n + 1)) 0 (words N)).length = m + n + 1 := by rw [length_splice (by rw [HNl.out, UL.out]; omega), UL.out]
      have cu := hu4.cell (i := m + n) (by omega)
      have fu := hu4.frozen (uo + (m + n))
      obtain ⟨g1, g2⟩ := hu4.set (i := m + n) (v := 0) (by omega) W64_pos
      have hfin : (splice (seg M2 uo (m + n + 1)) 0 (words N)).set (m + n) 0 = words N ++ [0] := by
        have h1 := splice_snoc (L := seg M2 uo (m + n + 1)) (o := 0) (R := words N) (v := 0) (by rw [HNl.out, UL.out]; omega)
        rw [Nat.zero_add, HNl.out] at h1
        rw [h1]
        simp [splice, HNl.out, UL.out]
      rw [hfin] at g1
      have hfv : Sg (w4.setCell ⟨ub, uo + (m + n), none⟩ (.int .u64 ((0 : Nat) : Int))) vb vo (words d) := (H1.out.keepCl h2 (.inl (Ne.symm HUV.out))).keepCl g2 (.inl (Ne.symm HUV.out))
      have hfs : Stk (w4.setCell ⟨ub, uo + (m + n), none⟩ (.int .u64 ((0 : Nat) : Int))) p sp1 D1 := ((ST2.out.keepCl HS2.out K2.out).keepCl US3.out h2).keepCl hu4 g2
      have hfk : KC (fun b i => Cl vb vo n b i ∨ Cl ub uo (m + n + 1) b i) w2 (w4.setCell ⟨ub, uo + (m + n), none⟩ (.int .u64 ((0 : Nat) : Int))) := by
        refine (K2.out.trans' (h2.trans' g2 (E := fun b i => Cl ub uo (m + n + 1) b i) ?_ ?_) ?_ ?_)
        · rintro b i _ ⟨h1, h2, h3⟩; exact ⟨h1, by omega, by omega⟩
        · rintro b i _ ⟨h1, h2, h3⟩; exact ⟨h1, by omega, by omega⟩
        · rintro b i _ h; exact .inl h
        · rintro b i _ h; exact .inr h
      have F1 := hid g1; have F2 := hid hfv; have F3 := hid hfs; have F4 := hid hfk
      clear h1 h2 hu4 hu4l g1 g2 hfin hfv hfs hfk
      go_wp2_with fail
      go_meet
      case rel => exact ⟨by rw [HV0.out]; exact F2.out, by rw [HU0.out]; exact F1.out, F3.out, F4.out⟩
    · have t1 : ((s : Int) == 0) = false := by simp; omega
      have hs0p : 0 < s := by omega
      have HL1 := hid (lshVU_sg vb vo vc yb yo yc n s H (words d) w2 (by omega) (by omega) HS2.out YS.out HHl.out Hdl.out (by omega) hs63 (.inl HYV.out))
      clear hs0
      go_wp2_with fail
      refine HL1.out.mono ?_
      rintro e w3 ⟨rfl, h1, h2⟩
      have hxs3 := XS.out.keepCl h2 (.inl HXV.out)
      have hus3 := US.out.keepCl h2 (.inl HUV.out)
      have husub := hus3.sub 0 (m + n) (by rw [UL.out]; omega)
      rw [Nat.add_zero] at husub
      have hsl : (seg (seg M2 uo (m + n + 1)) 0 (m + n)).length = m + n := length_seg (by rw [UL.out]; omega)
      have HL2 := hid (lshVU_sg ub uo uc xb xo xc (m + n) s _ (words N) w3 (by omega) (by omega) husub hxs3 hsl HNl.out (by omega) hs63 (by
        rcases HXU.out with h | h
        · exact .inl h
        · exact .inr (.inl (Nat.le_of_eq h))))
      obtain ⟨cw, hcw⟩ : ∃ cw, cw = (words N).getD (m + n - 1) 0 / 2 ^ (64 - s) := ⟨_, rfl⟩
      rw [← hcw] at HL2
      have Hcw := hid hcw; have H1 := hid h1; have K2 := hid h2; have US3 := hid hus3
      clear h1 h2 hcw hxs3 hus3 husub HL1
      go_wp2_with fail
      refine HL2.out.mono ?_
      rintro e w4 ⟨rfl, h1, h2⟩
      have hu4 := Sg.part (j := 0) (R := shlL s (words N) (m + n)) US3.out (by rw [shlL_length]; exact h2) (by rw [Nat.add_zero]; exact h1) (by rw [shlL_length, UL.out]; omega)
      have hu4l : (splice (seg M2 uo (m + n + 1)) 0 (shlL s (words N) (m + n))).length = m + n + 1 := by rw [length_splice (by rw [shlL_length, UL.out]; omega), UL.out]
      have cu := hu4.cell (i := m + n) (by omega)
      have fu := hu4.frozen (uo + (m + n))
      have hcC : cw = shlC s (words N) (m + n) := by rw [Hcw.out]; unfold shlC; rw [if_neg (by omega)]
      obtain ⟨g1, g2⟩ := hu4.set (i := m + n) (v := cw) (by omega) (by rw [hcC]; have := HUt.out; unfold W64; omega)
      have hfin : (splice (seg M2 uo (m + n + 1)) 0 (shlL s (words N) (m + n))).set (m + n) cw = shlL s (words N) (m + n) ++ [shlC s (words N) (m + n)] := by
        have h1 := splice_snoc (L := seg M2 uo (m + n + 1)) (o := 0) (R := shlL s (words N) (m + n)) (v := cw) (by rw [shlL_length, UL.out]; omega)
        rw [Nat.zero_add, shlL_length] at h1
        rw [h1, hcC]
        simp [splice, shlL_length, UL.out]
      rw [hfin] at g1
      have hfv : Sg (w4.setCell ⟨ub, uo + (m + n), none⟩ (.int .u64 (cw : Int))) vb vo (shlL s (words d) n) := (H1.out.keepCl h2 (.inl (Ne.symm HUV.out))).keepCl g2 (.inl (Ne.symm HUV.out))
      have hfs : Stk (w4.setCell ⟨ub, uo + (m + n), none⟩ (.int .u64 (cw : Int))) p sp1 D1 := ((ST2.out.keepCl HS2.out K2.out).keepCl US3.out h2).keepCl hu4 g2
      have hfk : KC (fun b i => Cl vb vo n b i ∨ Cl ub uo (m + n + 1) b i) w2 (w4.setCell ⟨ub, uo + (m + n), none⟩ (.int .u64 (cw : Int))) := by
        refine (K2.out.trans' (h2.trans' g2 (E := fun b i => Cl ub uo (m + n + 1) b i) ?_ ?_) ?_ ?_)
        · rintro b i _ ⟨h1, h2, h3⟩; exact ⟨h1, by omega, by omega⟩
        · rintro b i _ ⟨h1, h2, h3⟩; exact ⟨h1, by omega, by omega⟩
        · rintro b i _ h; exact .inl h
        · rintro b i _ h; exact .inr h
      have F1 := hid g1; have F2 := hid hfv; have F3 := hid hfs; have F4 := hid hfk
      clear h1 h2 hu4 hu4l hcC g1 g2 hfin hfv hfs hfk HL2
      go_wp2_with fail
      go_meet
      case rel => exact ⟨F2.out, F1.out, F3.out, F4.out⟩
  case rest =>
    obtain ⟨hV', hU', hS', hK'⟩ := hcut
    have hUl : (shlL s (words N) (m + n) ++ [shlC s (words N) (m + n)]).length = m + n + 1 := by rw [List.length_append, shlL_length]; rfl
    have haub : ¬ InB a ub := by
      intro h
      rcases HI2.out.inB ⟨uo, rfl⟩ with h2 | h2
      · exact Hzz.out ub h h2
      · have := Z1.out.lt h; omega
    have havb : ¬ InB a vb := Hvb.out a (fun k hk => Hz.out.lt hk) (fun s e h => (HD.out s e h).1)
    have hz2w : Rd w2 a l c L := Z1.out.keep HK2.out (fun _ _ h => h)
    have hzc : Rd wc a l c L := hz2w.keepC hK' (by
      rintro b o hb i _ _ (⟨rfl, _⟩ | ⟨rfl, _⟩)
      · exact havb ⟨o, hb⟩
      · exact haub ⟨o, hb⟩)
    obtain ⟨MU, mu1, mu2, mu3, _⟩ := hK'.words ub M2 HB2.out (by have := US.out; obtain ⟨M, q1, q2, _⟩ := this; rw [HB2.out.inj q1]; exact q2)
    have huc : Rd wc (some ⟨ub, uo, none⟩) (m + n + 1) uc (shlL s (words N) (m + n) ++ [shlC s (words N) (m + n)]) := by
      have := hU'.rd (c := uc) mu1 (by omega) (by omega) (by omega)
      rwa [hUl] at this
    have HAL := hid (alias_any a l c L (some ⟨ub, uo, none⟩) (m + n + 1) uc _ wc hzc huc (by
      intro b o b' o' h1 h2
      cases h2
      exact .inl (fun h => haub ⟨o, by rw [h1, h]⟩)))
    have hsh : sharesB a c (some ⟨ub, uo, none⟩) uc = false := by
      unfold sharesB
      have : a ≠ some ⟨ub, uo, none⟩ := fun h => haub ⟨uo, h⟩
      simp [this]
    rw [hsh] at HAL
    have HMK2 := hid (fun k => make_any a l c (m + 1) L (wc.drewN k) (hzc.drewN k) (by omega) (by omega))
    have hG1 : Glob w1 := HG.out.stk Hst.out HpG.out SN.out.kc
    have hG2 : Glob w2 := hG1.keep HK2.out (fun _ _ h => h)
    have hGc : Glob wc := hG2.keep hK'.keeps (by
      rintro k hg ⟨i, ⟨rfl, _⟩ | ⟨rfl, _⟩⟩
      · exact hG2.ne_sg HS2.out hg
      · exact hG2.ne_blk HB2.out hg)
    have HV' := hid hV'; have HU' := hid hU'; have HS' := hid hS'; have HK' := hid hK'; have HUl := hid hUl; have Haub := hid haub; have Havb := hid havb; have HGc := hid hGc
    have HMU := hid mu1; have HMUl := hid mu2
    clear hV' hU' hS' hK' hUl haub havb hz2w hzc mu1 mu2 mu3 huc hsh hG1 hG2 hGc s2
    go_wp2_with fail
    refine HAL.out.mono ?_
    rintro e w5 ⟨rfl, kk, rfl⟩
    go_wp2_with fail
    refine (HMK2.out kk).mono ?_
    rintro e w6 ⟨rz, zc, rfl, hm⟩
    obtain ⟨zb, zo, MZ, rfl, hb6, hw6, hz1, hz2, hz3, hi6, hk6⟩ := hm.rd
    have hk6c : Keeps (fun _ => False) wc w6 := ((Keeps.refl _ wc).drewN kk).trans hk6
    have c4 : w6.cell? ⟨4, 0, none⟩ = some (.int .i64 40) := (HGc.out.keep hk6c (fun _ _ h => h)).dr
    have t40 : decide (n < 40) = true := by simpa using hn
    have hsz1c : w1.heap.size ≤ wc.heap.size := Nat.le_trans HK2.out.size HK'.out.size
    have hzorg : InB a zb ∨ wc.heap.size ≤ zb := hi6.inB ⟨zo, rfl⟩
    have hzub : zb ≠ ub := by
      rintro rfl
      rcases hzorg with h | h
      · exact Haub.out h
      · have := HMU.out.lt; omega
    have hzvb : zb ≠ vb := by
      rintro rfl
      rcases hzorg with h | h
      · exact Havb.out h
      · have := HV'.out.lt; omega
    have hkf : KC (fun _ _ => False) wc w6 := KC.of_keeps hk6c
    have hDe : ∀ q : Nat, (q < w0'.heap.size ∧ (∀ s e, D = some (s, e) → q ≠ e)) ∨ w1.heap.size ≤ q → ∀ j r, Under D1 sp1 q j r := by
      rintro q hq j r s e h1 rfl
      rcases hq with ⟨h2, h3⟩ | h2
      · rcases (SN.out.into s q h1).2 with ⟨s', h4⟩ | h4
        · exact (h3 s' q h4 rfl).elim
        · omega
      · have := (SN.out.stk)
        rw [h1] at this
        have := this.ltD.2
        omega
    have hunz : ∀ j r, Under D1 sp1 zb j r := hDe zb (by
      rcases hzorg with h | h
      · exact .inl ⟨Hz.out.lt h, fun s e h2 h3 => (HD.out s e h2).1 (h3 ▸ h)⟩
      · exact .inr (by omega))
    have hunu : ∀ j r, Under D1 sp1 ub j r := hDe ub (by
      rcases HI2.out.inB ⟨uo, rfl⟩ with h | h
      · exact .inl ⟨Hz2.out.lt h, fun s e h2 h3 => (HD.out s e h2).2.1 (h3 ▸ h)⟩
      · exact .inr (by omega))
    have HUZ := hid (show ∀ s e, D1 = some (s, e) → e ≠ zb ∧ e ≠ ub from fun s e h1 => ⟨fun h2 => by have := hunz (sp1 + 1) 0 s zb (by rw [h1, h2]) rfl; omega, fun h2 => by have := hunu (sp1 + 1) 0 s ub (by rw [h1, h2]) rfl; omega⟩)
    have hzs : Sg w6 zb zo (seg MZ zo (m + 1)) := ⟨MZ, hb6, hw6, Nat.le_trans hz3 LIM_BIGL, by rw [length_seg (by omega)]; omega, by rw [length_seg (by omega)]⟩
    have HDB := divBasic277 zb zo zc ub uo uc vb vo vc (m + 1) n p sp1 v1 v2 D1 (seg MZ zo (m + 1)) _ _ w6 hzs (length_seg (by omega)) (HU'.out.keep hkf (fun _ _ _ h => h)) (by rw [HUl.out]; omega) (by omega)
      (HV'.out.keep hkf (fun _ _ _ h => h)) HV.out (by omega) (by omega) (by
        rw [List.getD_eq_getElem?_getD, List.getElem?_append_right (by rw [shlL_length]; omega), shlL_length, show m + 1 + n - 1 - (m + n) = 0 by omega]
        have := HUt.out; have := Hv63.out
        show shlC s (words N) (m + n) < v1
        omega) (HS'.out.keepF hk6c) (by have := SN.out.top; omega) (hunz _ _) (hunu _ _) SN.out.under (.inl hzub) (.inl hzvb) (.inl HUV.out)
    rw [show m + 1 + n = m + n + 1 by omega, HUv.out, HVv.out] at HDB
    have HB := hid HDB
    have HI6 := hid hi6; have HK6 := hid hk6c; have HB6 := hid hb6; have HW6 := hid hw6; have HZub := hid hzub; have HZo := hid hzorg
    clear hm hb6 hw6 hi6 hk6 hk6c hsz1c hzorg hzub hzvb hkf hDe hunz hunu hzs HDB HAL HMK2
    go_wp2_with fail
    refine HB.out.mono ?_
    rintro e w7 ⟨rfl, ⟨R, hR, hRv, hRs⟩, ⟨Q, hQ, hQv, hQs⟩, ⟨D2, hst7, hi7⟩, hk7⟩
    have hRw := hRs.words
    have hQw := hQs.words
    obtain ⟨MZ7, mz1, mz2, mz3, _⟩ := hk7.words zb MZ HB6.out HW6.out
    have hq7 : Rd w7 (some ⟨zb, zo, none⟩) (m + 1) zc Q := by
      have := hQs.rd (c := zc) mz1 (by omega) (by omega) (by omega)
      rwa [hQ] at this
    have hp2 : 0 < 2 ^ s := Nat.two_pow_pos s
    have hQv' : val Q = N / d := by rw [hQv, Nat.mul_div_mul_right _ _ hp2]
    have hRv' : val R = (N % d) * 2 ^ s := by rw [hRv, Nat.mul_mod_mul_right]
    have hqw : trimZ Q = words (N / d) := by rw [trimZ_eq_words hQw, hQv']
    obtain ⟨MU6, mv1, mv2, mv3, _⟩ := (KC.of_keeps (C := fun _ _ => False) HK6.out).words ub MU HMU.out (by obtain ⟨M, q1, q2, _⟩ := HU'.out; rw [HMU.out.inj q1]; exact q2)
    obtain ⟨MU7, mu1, mu2, mu3, _⟩ := hk7.words ub MU6 mv1 mv3
    have hNM := hid (norm_any (some ⟨zb, zo, none⟩) (m + 1) zc Q w7 hq7)
    rw [hqw] at hNM
    have HR := hid hR; have HRv := hid hRv'; have HRs := hid hRs; have HRw := hid hRw; have HST7 := hid hst7; have HI7 := hid hi7; have HK7 := hid hk7; have HU7 := hid mu1
    have hml : MU7.length = M2.length := by rw [mu2, mv2, HMUl.out]
    clear hR hRv hRv' hRs hRw hst7 hi7 hk7 mu1 mu2 mu3 mv1 mv2 mv3 mz1 mz2 mz3 hq7 hQ hQv hQv' hQs hQw hqw HB
    go_wp2_with fail
    refine hNM.out.mono ?_
    rintro e w8 ⟨qn, rfl, hq8, hqn, rfl⟩
    have HQ8 := hid hq8
    clear hq8 hNM
    -- what is left once the rest is known
    have Fin : Hid (∀ (e : Ending) (w9 : World) (rn : Nat) (w'' : World), KC (Cl ub uo (m + n + 1)) w7 w9 → Stk w9 p sp1 D2 → Rd w9 (some ⟨ub, uo, none⟩) rn uc (words (N % d)) → Stk w'' p sp D2 → KC (fun b _ => ∃ d, D2 = some (b, d)) w9 w'' →
        e = .returned (.tuple #[.slice (some ⟨zb, zo, none⟩) qn zc, .slice (some ⟨ub, uo, none⟩) rn uc]) → DivR w0' a c a2 c2 N d p sp D e w'') := hid (by
      rintro e w9 rn w'' k1 k2 k3 k4 k5 rfl
      have hnr : ∀ (q : Option Addr) (l c : Nat) (L : List Nat), Rd w9 q l c L → Rd w'' q l c L := by
        intro q l c L hr
        refine hr.keepC k5 ?_
        rintro b o rfl i _ _ ⟨d', rfl⟩
        rcases hr with ⟨h, _⟩ | ⟨b', o', M, h, hb, _⟩
        · cases h
        · cases h
          obtain ⟨N', _, k6, _⟩ := k2
          exact absurd (RowAt.type k6 hb) (by decide)
      have hiD : StI w0' D D2 := SN.out.into.trans (HI7.out) (Nat.le_trans SN.out.kc.size (Nat.le_trans HK2.out.size (Nat.le_trans HK'.out.size HK6.out.size)))
      refine ⟨_, _, _, _, _, _, D2, rfl, hnr _ _ _ _ (HQ8.out.keepC k1 ?_), (HI6.out.mono (Nat.le_trans SN.out.kc.size (Nat.le_trans HK2.out.size HK'.out.size))), hnr _ _ _ _ k3, HI2.out.mono SN.out.kc.size, ?_, k4, hiD, ?_, ?_⟩
      · rintro b o h i _ _ ⟨h2, _⟩
        cases h
        exact HZub.out h2
      · rintro k ⟨o, h1⟩ ⟨o', h2⟩
        cases h1
        cases h2
        exact HZub.out rfl
      · intro s e h1
        have hub := HMU.out.lt
        have hc6 := HK6.out.size
        have hzb := HB6.out.lt
        have hne : e ≠ zb ∧ e ≠ ub := by
          rcases (HI7.out s e h1).2 with ⟨s', h4⟩ | h4
          · exact HUZ.out s' e h4
          · exact ⟨by omega, by omega⟩
        refine ⟨?_, ?_⟩
        · rintro ⟨o, h2⟩
          cases h2
          exact hne.1 rfl
        · rintro ⟨o, h2⟩
          cases h2
          exact hne.2 rfl
      · refine SN.out.kc.trans' ((KC.of_keeps (C := fun _ _ => False) HK2.out).trans' (HK'.out.trans' ((KC.of_keeps (C := fun _ _ => False) HK6.out).trans' (HK7.out.trans' (k1.trans' k5 (E := fun b i => Cl ub uo (m + n + 1) b i ∨ ∃ d, D2 = some (b, d)) (fun _ _ _ h => .inl h) (fun _ _ _ h => .inr h))
          (E := fun b i => Cl zb zo (m + 1) b i ∨ Cl ub uo (m + n + 1) b i ∨ StC p sp1 D1 b i ∨ ∃ d, D2 = some (b, d)) ?_ ?_) (E := fun b i => Cl zb zo (m + 1) b i ∨ Cl ub uo (m + n + 1) b i ∨ StC p sp1 D1 b i ∨ ∃ d, D2 = some (b, d)) ?_ ?_)
          (E := fun b i => Cl zb zo (m + 1) b i ∨ Cl ub uo (m + n + 1) b i ∨ Cl vb vo n b i ∨ StC p sp1 D1 b i ∨ ∃ d, D2 = some (b, d)) ?_ ?_) (E := fun b i => Cl zb zo (m + 1) b i ∨ Cl ub uo (m + n + 1) b i ∨ Cl vb vo n b i ∨ StC p sp1 D1 b i ∨ ∃ d, D2 = some (b, d)) ?_ ?_) ?_ ?_
        · rintro b i _ (h | h | h)
          · exact .inl h
          · exact .inr (.inl h)
          · exact .inr (.inr (.inl h))
        · rintro b i _ (h | h)
          · exact .inr (.inl h)
          · exact .inr (.inr (.inr h))
        · rintro b i _ h; exact h.elim
        · rintro b i _ h; exact h
        · rintro b i _ (h | h)
          · exact .inr (.inr (.inl h))
          · exact .inr (.inl h)
        · rintro b i _ (h | h | h | h)
          · exact .inl h
          · exact .inr (.inl h)
          · exact .inr (.inr (.inr (.inl h)))
          · exact .inr (.inr (.inr (.inr h)))
        · rintro b i _ h; exact h.elim
        · rintro b i _ h; exact h
        · rintro b i _ h; exact .inr (.inr h)
        · have hs01 := SN.out.kc.size
          have hs12 := HK2.out.size
          have hs2c := HK'.out.size
          rintro b i hb (⟨h, _⟩ | ⟨h, _⟩ | h | h | ⟨d', h⟩)
          · subst h
            rcases HZo.out with h | h
            · exact .inl h
            · omega
          · subst h
            rcases HI2.out.inB ⟨uo, rfl⟩ with h | h
            · exact .inr (.inl h)
            · omega
          · exact .inr (.inr (SN.out.back hb h))
          · exact .inr (.inr (StC.back SN.out.into SN.out.top.1 hb h))
          · exact .inr (.inr (StC.back (sp' := sp) hiD (Nat.le_refl _) hb (.inr ⟨b, d', h, .inl rfl⟩))))
    have hsp1 : sp ≤ sp1 := SN.out.top.1
    by_cases hs0 : s = 0
    · subst hs0
      have hrw : trimZ R = words (N % d) := by rw [trimZ_eq_words HRw.out, HRv.out, Nat.pow_zero, Nat.mul_one]
      have hr7 : Rd w7 (some ⟨ub, uo, none⟩) (m + n + 1) uc R := by
        have := HRs.out.rd (c := uc) HU7.out (by omega) (by have := HR.out; omega) (by omega)
        rwa [HR.out] at this
      have hNM2 := hid (norm_any (some ⟨ub, uo, none⟩) (m + n + 1) uc R w7 hr7)
      rw [hrw] at hNM2
      clear hrw hr7
      go_wp2_with fail
      refine hNM2.out.mono ?_
      rintro e w9 ⟨rn, rfl, hr9, hrn, rfl⟩
      have HR9 := hid hr9
      clear hr9 hNM2
      go_wp2_with fail
      refine leaves_cons (f := 270) (args := #[.pointer (some ⟨p, 0, none⟩), .int .i64 (sp : Int)]) (by simp) (by simp [go_sem]) ?_
      refine (restore270 p sp1 sp D2 _ _ HST7.out hsp1).mono ?_
      rintro e u' w'' ⟨rfl, rfl, hst', hk'⟩
      exact ⟨_, results_tmp2 rfl _ _ _, Fin.out _ w7 rn w'' (KC.refl _ _) HST7.out HR9.out hst' hk' rfl⟩
    · have t1 : ((s : Int) != 0) = true := by simp; omega
      have hs0p : 0 < s := by omega
      have HSH := hid (rshVU_sg ub uo uc ub uo uc (m + n + 1) s R R w7 (by omega) (by omega) HRs.out HRs.out HR.out HR.out hs0p hs63 (.inr (.inl (Nat.le_refl _))))
      clear hs0
      go_wp2_with fail
      refine HSH.out.mono ?_
      rintro e w9 ⟨⟨cc, rfl⟩, h1, h2⟩
      have hst9 := HST7.out.keepCl HRs.out h2
      obtain ⟨MU9, mu1, mu2, mu3, _⟩ := h2.words ub MU7 HU7.out (by obtain ⟨M, q1, q2, _⟩ := HRs.out; rw [HU7.out.inj q1]; exact q2)
      have hr9 : Rd w9 (some ⟨ub, uo, none⟩) (m + n + 1) uc (shrL s R (m + n + 1)) := by
        have := h1.rd (c := uc) mu1 (by omega) (by rw [shrL_length]; omega) (by omega)
        rwa [shrL_length] at this
      have hrw : trimZ (shrL s R (m + n + 1)) = words (N % d) := by
        have h3 := shrL_div (s := s) (X := R) (by omega)
        rw [HR.out] at h3
        rw [trimZ_eq_words (shrL_words (by omega) HRw.out _), h3, HRv.out, Nat.mul_div_cancel _ (Nat.two_pow_pos s)]
      have hNM2 := hid (norm_any (some ⟨ub, uo, none⟩) (m + n + 1) uc _ w9 hr9)
      rw [hrw] at hNM2
      have HST9 := hid hst9; have HK9 := hid h2
      clear hrw hr9 hst9 h1 h2 mu1 mu2 mu3 HSH
      go_wp2_with fail
      refine hNM2.out.mono ?_
      rintro e w10 ⟨rn, rfl, hr9, hrn, rfl⟩
      have HR9 := hid hr9
      clear hr9 hNM2
      go_wp2_with fail
      refine leaves_cons (f := 270) (args := #[.pointer (some ⟨p, 0, none⟩), .int .i64 (sp : Int)]) (by simp) (by simp [go_sem]) ?_
      refine (restore270 p sp1 sp D2 _ _ HST9.out hsp1).mono ?_
      rintro e u' w'' ⟨rfl, rfl, hst', hk'⟩
      exact ⟨_, results_tmp2 rfl _ _ _, Fin.out _ w9 rn w'' HK9.out HST9.out HR9.out hst' hk' rfl⟩
end Go.Proofs
namespace Go.Proofs
open Go.RowKit
set_option maxHeartbeats 1000000
set_option linter.unusedVariables false
set_option linter.unusedSimpArgs false
set_option maxRecDepth 100000

theorem divW_one (a : Option Addr) (l c : Nat) (L : List Nat) (x : Option Addr) (xl xc N : Nat) (w : World) (h : Rd w a l c L) (hx : Rd w x xl xc (words N)) (hxl : xl ≤ 400000) :
    Calls Tryz.prog 237 #[.slice a l c, .slice x xl xc, .int .u64 1] w (DivWRes w a c N 1) := by
  have HC := hid (set_any a l c L x xl xc (words N) w h hx (by omega))
  clear h hx
  go_enter Tryz.func237, Tryz.ntmps237
  go_wp2_with fail
  refine HC.out.mono ?_
  rintro e w1 ⟨ra, rc, rfl, h1, h2, h3⟩
  have H1 := hid h1; have H2 := hid h2; have H3 := hid h3
  clear h1 h2 h3 HC
  go_wp2_with fail
  go_ret2
  exact ⟨_, _, _, by rw [Nat.mod_one]; rfl, by rw [Nat.div_one]; exact H1.out, H2.out, H3.out⟩
theorem divW_all (a : Option Addr) (l c : Nat) (L : List Nat) (x : Option Addr) (xl xc N y : Nat) (w : World)
    (h : Rd w a l c L) (hx : Rd w x xl xc (words N)) (hxl : xl ≤ 400000) (hy0 : y ≠ 0) (hy : y < W64) (hax : Al a c x xc) :
    Calls Tryz.prog 237 #[.slice a l c, .slice x xl xc, .int .u64 (y : Int)] w (DivWRes w a c N y) := by
  by_cases h1 : y = 1
  · subst h1; exact divW_one a l c L x xl xc N w h hx hxl
  · exact divW_any a l c L x xl xc N y w h hx hxl hy0 h1 hy hax

/-- What a division leaves, whatever stack it used. -/
def DivP (w : World) (a : Option Addr) (c : Nat) (a2 : Option Addr) (c2 N d : Nat) (e : Ending) (w' : World) : Prop :=
  ∃ qa ql qc ra rl rc, e = .returned (.tuple #[.slice qa ql qc, .slice ra rl rc]) ∧ Rd w' qa ql qc (words (N / d)) ∧ Into w a c qa qc ∧ Rd w' ra rl rc (words (N % d)) ∧ Into w a2 c2 ra rc ∧ (∀ k, InB qa k → ¬ InB ra k) ∧
    KC (fun b i => InB a b ∨ InB a2 b) w w'

theorem Into.apart {w w1 : World} {a a2 qa ra : Option Addr} {c c2 qc rc : Nat} (h : Into w a c qa qc) (k : Into w1 a2 c2 ra rc) (hzz : ∀ k, InB a k → ¬ InB a2 k) (h1 : ∀ k, InB qa k → k < w1.heap.size) (h2 : ∀ k, InB a2 k → k < w.heap.size) : ∀ k, InB qa k → ¬ InB ra k := by
  intro q hq hr
  have h3 := h1 q hq
  rcases k.inB hr with h4 | h4
  · rcases h.inB hq with h5 | h5
    · exact hzz q h5 h4
    · have := h2 q h4; omega
  · omega

theorem div199_short (s : Option Addr) (a : Option Addr) (l c : Nat) (L : List Nat) (a2 : Option Addr) (l2 c2 : Nat) (L2 : List Nat) (x : Option Addr) (xl xc N : Nat) (y : Option Addr) (yc d : Nat) (w : World)
    (hz : Rd w a l c L) (hz2 : Rd w a2 l2 c2 L2) (hx : Rd w x xl xc (words N)) (hy : Rd w y 1 yc (words d)) (hxl : xl ≤ 100000) (hzz : ∀ k, InB a k → ¬ InB a2 k) (hax : Al a c x xc) :
    Calls Tryz.prog 199 #[.slice a l c, .pointer s, .slice a2 l2 c2, .slice x xl xc, .slice y 1 yc] w fun e w' => ∃ qa ql qc ra rl rc, e = .returned (.tuple #[.slice qa ql qc, .slice ra rl rc]) ∧ Rd w' qa ql qc (words (N / d)) ∧ Into w a c qa qc ∧ Rd w' ra rl rc (words (N % d)) ∧ Into w a2 c2 ra rc ∧ (∀ k, InB qa k → ¬ InB ra k) ∧ Keeps (fun k => InB a k ∨ InB a2 k) w w' := by
  have hlen := hy.length
  have hd0 : d ≠ 0 := by rintro rfl; rw [words_zero] at hlen; cases hlen
  have hdw : d < W64 ∧ (words d).getD 0 0 = d := by
    have h1 := val_words d
    have h2 := words_words d
    match hw : words d, hlen with
    | [x0], _ =>
      rw [hw] at h1 h2
      have h3 : x0 = d := by simpa using h1
      exact ⟨by have := h2.getD 0; simpa [h3] using this, by simpa using h3⟩
  obtain ⟨yb, yo, rfl, hyc⟩ := hy.cell (by omega)
  have c0 := hyc 0 (by omega)
  rw [Nat.add_zero, hdw.2] at c0
  have HC := hid (divW_all a l c L x xl xc N d w hz hx (by omega) hd0 hdw.1 hax)
  have Hz := hid hz; have Hz2 := hid hz2; have Hzz := hid hzz
  have Hd := hid hdw.1
  have Hd0 := hid hd0
  clear hz hz2 hx hy hax hyc hdw hlen hd0 hzz
  go_enter_defers Tryz.func199, Tryz.ntmps199
  go_wp2_with fail
  refine HC.out.mono ?_
  rintro e w1 ⟨qa, ql, qc, rfl, h1, h2, h3⟩
  obtain ⟨rr, hrr⟩ : ∃ rr, rr = N % d := ⟨_, rfl⟩
  rw [← hrr]
  have H1 := hid h1; have H2 := hid h2; have H3 := hid h3; have Hrr := hid hrr
  clear h1 h2 h3 hrr HC
  have HS := hid (setWord_any a2 l2 c2 L2 rr w1 (Hz2.out.keep H3.out (fun k hk h => Hzz.out k h hk)) (by rw [Hrr.out]; exact Nat.lt_trans (Nat.mod_lt _ (Nat.pos_of_ne_zero Hd0.out)) Hd.out))
  go_wp2_with fail
  refine HS.out.mono ?_
  rintro e w2 ⟨ra, rl, rc, rfl, k1, k2, k3⟩
  have K1 := hid k1; have K2 := hid k2; have K3 := hid k3
  clear k1 k2 k3 HS
  go_wp2_with fail
  refine ⟨_, results_tmp2 rfl _ _ _, ?_⟩
  have hap := H2.out.apart K2.out Hzz.out (fun k hk => H1.out.lt hk) (fun k hk => Hz2.out.lt hk)
  refine ⟨qa, ql, qc, ra, rl, rc, rfl, H1.out.keep K3.out ?_, H2.out, by rw [← Hrr.out]; exact K1.out, K2.out.mono H3.out.size, hap, (H3.out.mono (fun i _ h => .inl h)).trans (K3.out.mono (fun i _ h => .inr h))⟩
  intro k hk h
  rcases H2.out.inB hk with h2 | h2
  · exact Hzz.out k h2 h
  · have := Hz2.out.lt h; omega

theorem div199_less (s : Option Addr) (a : Option Addr) (l c : Nat) (L : List Nat) (a2 : Option Addr) (l2 c2 : Nat) (L2 : List Nat) (x : Option Addr) (xl xc N : Nat) (y : Option Addr) (yl yc d : Nat) (w : World)
    (hz : Rd w a l c L) (hz2 : Rd w a2 l2 c2 L2) (hx : Rd w x xl xc (words N)) (hy : Rd w y yl yc (words d)) (hxl : xl ≤ 100000) (hzz : ∀ k, InB a k → ¬ InB a2 k) (hy2 : 2 ≤ yl) (hlt : N < d) :
    Calls Tryz.prog 199 #[.slice a l c, .pointer s, .slice a2 l2 c2, .slice x xl xc, .slice y yl yc] w fun e w' => ∃ qa ql qc ra rl rc, e = .returned (.tuple #[.slice qa ql qc, .slice ra rl rc]) ∧ Rd w' qa ql qc (words (N / d)) ∧ Into w a c qa qc ∧ Rd w' ra rl rc (words (N % d)) ∧ Into w a2 c2 ra rc ∧ (∀ k, InB qa k → ¬ InB ra k) ∧ Keeps (fun k => InB a k ∨ InB a2 k) w w' := by
  have HC := hid (cmp_any x xl xc y yl yc N d w hx hy)
  have hcm : cmpI N d = -1 := by unfold cmpI; rw [if_pos hlt]
  rw [hcm] at HC
  have HSt := hid (fun k => set_any a2 l2 c2 L2 x xl xc (words N) (w.drewN k) (hz2.drewN k) (hx.drewN k) (by omega))
  have hsl : ∀ w : World, (Instr.slice 101 (.slice a l c) none (some (.int .i64 0)) none).run Tryz.prog w = .ok (.slice a 0 c) w :=
    slice101_to a l c 0 (fun b s h => by
      rcases hz with ⟨h1, _⟩ | ⟨b', o', M, h1, _⟩
      · rw [h1] at h; cases h
      · rw [h1] at h; cases h; rfl) (fun q h => by
      rcases hz with ⟨h1, _⟩ | ⟨b', o', M, h1, _⟩
      · rw [h1] at h; cases h
      · rw [h1] at h; cases h; rfl) (Nat.zero_le _)
  have t1 : ((yl : Int) == 0) = false := by simp; omega
  have t2 : ((yl : Int) == 1) = false := by simp; omega
  have Hz := hid hz; have Hz2 := hid hz2; have Hzz := hid hzz
  have Hr := hid (show N / d = 0 ∧ N % d = N from ⟨Nat.div_eq_of_lt hlt, Nat.mod_eq_of_lt hlt⟩)
  clear hz hz2 hx hy hzz hlt hcm
  go_enter_defers Tryz.func199, Tryz.ntmps199
  go_wp2_with fail
  refine HC.out.mono ?_
  rintro e w1 ⟨rfl, k, rfl⟩
  go_wp2_with fail
  refine (HSt.out k).mono ?_
  rintro e w2 ⟨ra, rc, rfl, h1, h2, h3⟩
  have H1 := hid h1; have H2 := hid h2; have H3 := hid h3
  clear h1 h2 h3 HSt HC
  go_wp2_with fail
  refine ⟨_, results_tmp2 rfl _ _ _, ?_⟩
  have hzr : Rd w2 a 0 c [] := ((Hz.out.drewN k).keep H3.out (fun q hq h => Hzz.out q hq h)).zero
  refine ⟨a, 0, c, ra, xl, rc, rfl, by rw [Hr.out.1, words_zero]; exact hzr, Into.refl _ _ _, by rw [Hr.out.2]; exact H1.out, H2.out, ?_, ((Keeps.refl _ w).drewN k).trans (H3.out.mono (fun i _ h => .inr h))⟩
  intro q hq hr
  rcases H2.out.inB hr with h | h
  · exact Hzz.out q hq h
  · have : q < w.heap.size := Hz.out.lt hq
    have h' : w.heap.size ≤ q := h
    omega

/-- The stack's blocks. -/
def StB (p : Nat) (D : Option (Nat × Nat)) (b : Nat) : Prop := b = p ∨ ∃ s d, D = some (s, d) ∧ (b = s ∨ b = d)
theorem StC.stB {p sp x i : Nat} {D : Option (Nat × Nat)} (h : StC p sp D x i) : StB p D x := by
  rcases h with h | ⟨s, d, h1, h2 | ⟨h2, _⟩⟩
  · exact .inl h
  · exact .inr ⟨s, d, h1, .inl h2⟩
  · exact .inr ⟨s, d, h1, .inr h2⟩
theorem Stk.keepK {S : Nat → Prop} {w w' : World} {p sp : Nat} {D : Option (Nat × Nat)} (h : Stk w p sp D) (hk : Keeps S w w') (hn : ∀ b, StB p D b → ¬ S b) : Stk w' p sp D := by
  cases D with
  | none => exact ⟨hk.row h.1 (hn p (.inl rfl)), h.2⟩
  | some x =>
    obtain ⟨s, d⟩ := x
    obtain ⟨M, h1, h2, h3, h4⟩ := h
    exact ⟨M, hk.row h1 (hn p (.inl rfl)), hk.row h2 (hn s (.inr ⟨s, d, rfl, .inl rfl⟩)), hk.row h3 (hn d (.inr ⟨s, d, rfl, .inr rfl⟩)), h4⟩
theorem Rd.notStB {w : World} {a : Option Addr} {l c : Nat} {L : List Nat} {p sp : Nat} {D : Option (Nat × Nat)} (h : Rd w a l c L) (hs : Stk w p sp D) (hD : ∀ s e, D = some (s, e) → ¬ InB a e) : ∀ b, StB p D b → ¬ InB a b := by
  rintro b hb ⟨o, ho⟩
  refine h.notSt hs hD b o ho sp ?_
  rcases hb with h | ⟨s, d, h1, h2 | h2⟩
  · exact .inl h
  · exact .inr ⟨s, d, h1, .inl h2⟩
  · exact .inr ⟨s, d, h1, .inr ⟨h2, Nat.le_refl _⟩⟩

theorem ifree275 (s sp d c : Nat) (w : World) (h : RowAt w s 266 [.slice (some ⟨d, 0, none⟩) sp c]) (hsp : sp ≤ c) (hc : c ≤ BIGL) :
    Calls Tryz.prog 275 #[.pointer (some ⟨s, 0, none⟩)] w fun e w' => e = .returned (.tuple #[]) ∧ w' = w.setCell ⟨s, 0, none⟩ (.slice (some ⟨d, 0, none⟩) 0 c) := by
  have c1 := h.cell 0
  simp at c1
  have f1 := h.frozen 0
  unfold BIGL at hc
  clear h
  go_enter Tryz.func275, Tryz.ntmps275
  go_wp2_with fail
  go_end0
  exact ⟨rfl, rfl⟩
theorem free240_any (p sp : Nat) (D : Option (Nat × Nat)) (u : FrameMode) (w : World) (h : Stk w p sp D) :
    CallsD Tryz.prog 240 #[.pointer (some ⟨p, 0, none⟩)] u w fun e u' w' => u' = u ∧ e = .returned (.tuple #[]) ∧ Keeps (fun b => ∃ d, D = some (b, d)) w w' := by
  cases D with
  | none =>
    have c1 := h.1.cell 0
    simp at c1
    exact (free240 ⟨p, 0, none⟩ u w c1).mono fun e u' w' ⟨h1, h2, h3⟩ => ⟨h1, h2, h3 ▸ Keeps.refl _ _⟩
  | some x =>
    obtain ⟨s, d⟩ := x
    obtain ⟨M, h1, h2, h3, h4, h5, h6⟩ := h
    have HC := hid (ifree275 s sp d _ w h2 h6 h5)
    have c1 := h1.cell 0
    simp at c1
    clear h1 h2 h3 h4
    go_enter_d Tryz.func240, Tryz.ntmps240
    go_wp2_with fail
    refine HC.out.mono ?_
    rintro e w1 ⟨rfl, rfl⟩
    go_wp2_with fail
    go_end0
    exact ⟨rfl, (Keeps.refl _ w).setCell _ (.inl ⟨d, rfl⟩) _⟩

theorem Rd.freed {w w' : World} {p sp : Nat} {D : Option (Nat × Nat)} {q : Option Addr} {l c : Nat} {L : List Nat} (hr : Rd w q l c L) (hs : Stk w p sp D) (hk : Keeps (fun b => ∃ d, D = some (b, d)) w w') : Rd w' q l c L := by
  refine hr.keep hk ?_
  rintro b ⟨o, rfl⟩ ⟨d, rfl⟩
  rcases hr with ⟨h, _⟩ | ⟨b', o', M, h, hb, _⟩
  · cases h
  · cases h
    obtain ⟨N', _, k6, _⟩ := hs
    exact absurd (RowAt.type k6 hb) (by decide)
/-- What a division with a stack leaves. -/
def DivT (w : World) (a : Option Addr) (c : Nat) (a2 : Option Addr) (c2 N d p sp : Nat) (D : Option (Nat × Nat)) (e : Ending) (w' : World) : Prop :=
  ∃ qa ql qc ra rl rc D', e = .returned (.tuple #[.slice qa ql qc, .slice ra rl rc]) ∧ Rd w' qa ql qc (words (N / d)) ∧ Into w a c qa qc ∧ Rd w' ra rl rc (words (N % d)) ∧ Into w a2 c2 ra rc ∧ (∀ k, InB qa k → ¬ InB ra k) ∧
    Stk w' p sp D' ∧ StI w D D' ∧ (∀ s e, D' = some (s, e) → ¬ InB qa e ∧ ¬ InB ra e) ∧ Keeps (fun b => InB a b ∨ InB a2 b ∨ StB p D b) w w'

theorem div199_stk (a : Option Addr) (l c : Nat) (L : List Nat) (a2 : Option Addr) (l2 c2 : Nat) (L2 : List Nat) (x : Option Addr) (xl xc N : Nat) (y : Option Addr) (yl yc d p sp : Nat) (D : Option (Nat × Nat)) (w : World)
    (hz : Rd w a l c L) (hz2 : Rd w a2 l2 c2 L2) (hx : Rd w x xl xc (words N)) (hy : Rd w y yl yc (words d)) (hd0 : d ≠ 0) (hyl : yl < 40) (hxl : xl ≤ 100000)
    (hzz : ∀ k, InB a k → ¬ InB a2 k) (hax : Al a c x xc) (hax2 : Al a2 c2 x xc) (hst : Stk w p sp D) (hsp : sp ≤ 300000) (hD : ∀ s e, D = some (s, e) → ¬ InB a e ∧ ¬ InB a2 e ∧ ¬ InB x e ∧ ¬ InB y e) (G : Glob w) (hpG : ¬ GB p) :
    Calls Tryz.prog 199 #[.slice a l c, .pointer (some ⟨p, 0, none⟩), .slice a2 l2 c2, .slice x xl xc, .slice y yl yc] w (DivT w a c a2 c2 N d p sp D) := by
  have hyl0 : 0 < yl := by rw [← hy.length]; exact words_length_pos hd0
  have hna := hz.notStB hst (fun s e h => (hD s e h).1)
  have hna2 := hz2.notStB hst (fun s e h => (hD s e h).2.1)
  have short : ∀ e w', (∃ qa ql qc ra rl rc, e = .returned (.tuple #[.slice qa ql qc, .slice ra rl rc]) ∧ Rd w' qa ql qc (words (N / d)) ∧ Into w a c qa qc ∧ Rd w' ra rl rc (words (N % d)) ∧ Into w a2 c2 ra rc ∧ (∀ k, InB qa k → ¬ InB ra k) ∧ Keeps (fun k => InB a k ∨ InB a2 k) w w') →
      DivT w a c a2 c2 N d p sp D e w' := by
    rintro e w' ⟨qa, ql, qc, ra, rl, rc, h1, h2, h3, h4, h5, h6, h7⟩
    refine ⟨qa, ql, qc, ra, rl, rc, D, h1, h2, h3, h4, h5, h6, hst.keepK h7 ?_, StI.refl _ _, ?_, h7.mono (fun i _ h => ?_)⟩
    · rintro b hb (h | h)
      · exact hna b hb h
      · exact hna2 b hb h
    · intro s e hde
      have h8 := hst
      rw [hde] at h8
      have h9 := h8.ltD.2
      exact ⟨fun hk => (h3.inB hk).elim (hD s e hde).1 (fun h => by omega), fun hk => (h5.inB hk).elim (hD s e hde).2.1 (fun h => by omega)⟩
    · rcases h with h | h
      · exact .inl h
      · exact .inr (.inl h)
  by_cases h1 : yl = 1
  · subst h1
    exact (div199_short _ a l c L a2 l2 c2 L2 x xl xc N y yc d w hz hz2 hx hy hxl hzz hax).mono short
  by_cases hlt : N < d
  · exact (div199_less _ a l c L a2 l2 c2 L2 x xl xc N y yl yc d w hz hz2 hx hy hxl hzz (by omega) hlt).mono short
  · have hnx : yl ≤ xl := by rw [← hx.length, ← hy.length]; exact words_mono (by omega)
    have HC := hid (cmp_any x xl xc y yl yc N d w hx hy)
    obtain ⟨cm, hcm⟩ : ∃ cm, cm = cmpI N d := ⟨_, rfl⟩
    have hc0 : decide (cm < 0) = false := by
      rw [hcm]; unfold cmpI
      rw [if_neg hlt]
      split <;> simp
    rw [← hcm] at HC
    have HL := hid (fun k => divLarge241 a l c L a2 l2 c2 L2 x xl xc N y yl yc d p sp D (w.drewN k) (hz.drewN k) (hz2.drewN k) (hx.drewN k) (hy.drewN k) (by omega) hyl hnx hxl hzz hax2 (hst.drewN k) hsp hD (G.drewN k) hpG)
    have t1 : ((yl : Int) == 0) = false := by simp; omega
    have t2 : ((yl : Int) == 1) = false := by simp; omega
    clear hz hz2 hx hy hzz hax hax2 hst hD G hna hna2 short hlt hcm
    go_enter_defers Tryz.func199, Tryz.ntmps199
    go_wp2_with fail
    refine HC.out.mono ?_
    rintro e w1 ⟨rfl, k, rfl⟩
    go_wp2_with fail
    refine (HL.out k).mono ?_
    rintro e w2 ⟨qa, ql, qc, ra, rl, rc, D', rfl, k1, k2, k3, k4, k5, k6, k7, k9, k8⟩
    have K1 := hid k1; have K2 := hid k2; have K3 := hid k3; have K4 := hid k4; have K5 := hid k5; have K6 := hid k6; have K7 := hid k7; have K8 := hid k8; have K9 := hid k9
    clear k1 k2 k3 k4 k5 k6 k7 k8 k9 HL HC
    go_wp2_with fail
    refine ⟨_, results_tmp2 rfl _ _ _, ?_⟩
    refine ⟨qa, ql, qc, ra, rl, rc, D', rfl, K1.out, K2.out, K3.out, K4.out, K5.out, K6.out, K7.out, K9.out, ((Keeps.refl _ w).drewN k).trans (K8.out.keeps.mono ?_)⟩
    rintro b _ ⟨i, h | h | h⟩
    · exact .inl h
    · exact .inr (.inl h)
    · exact .inr (.inr h.stB)
end Go.Proofs
namespace Go.Proofs
open Go.RowKit
set_option maxHeartbeats 1000000
set_option linter.unusedVariables false
set_option linter.unusedSimpArgs false
set_option maxRecDepth 100000

/-- What a division leaves that makes its own stack. -/
def DivN (w : World) (a : Option Addr) (c : Nat) (a2 : Option Addr) (c2 N d : Nat) (e : Ending) (w' : World) : Prop :=
  ∃ qa ql qc ra rl rc, e = .returned (.tuple #[.slice qa ql qc, .slice ra rl rc]) ∧ Rd w' qa ql qc (words (N / d)) ∧ Into w a c qa qc ∧ Rd w' ra rl rc (words (N % d)) ∧ Into w a2 c2 ra rc ∧ (∀ k, InB qa k → ¬ InB ra k) ∧ Keeps (fun k => InB a k ∨ InB a2 k) w w'

theorem div199_nil (a : Option Addr) (l c : Nat) (L : List Nat) (a2 : Option Addr) (l2 c2 : Nat) (L2 : List Nat) (x : Option Addr) (xl xc N : Nat) (y : Option Addr) (yl yc d : Nat) (w : World)
    (hz : Rd w a l c L) (hz2 : Rd w a2 l2 c2 L2) (hx : Rd w x xl xc (words N)) (hy : Rd w y yl yc (words d)) (hd0 : d ≠ 0) (hyl : yl < 40) (hxl : xl ≤ 100000)
    (hzz : ∀ k, InB a k → ¬ InB a2 k) (hax : Al a c x xc) (hax2 : Al a2 c2 x xc) (G : Glob w) :
    Calls Tryz.prog 199 #[.slice a l c, .pointer none, .slice a2 l2 c2, .slice x xl xc, .slice y yl yc] w (DivN w a c a2 c2 N d) := by
  have hyl0 : 0 < yl := by rw [← hy.length]; exact words_length_pos hd0
  by_cases h1 : yl = 1
  · subst h1
    exact div199_short _ a l c L a2 l2 c2 L2 x xl xc N y yc d w hz hz2 hx hy hxl hzz hax
  by_cases hlt : N < d
  · exact div199_less _ a l c L a2 l2 c2 L2 x xl xc N y yl yc d w hz hz2 hx hy hxl hzz (by omega) hlt
  · have hnx : yl ≤ xl := by rw [← hx.length, ← hy.length]; exact words_mono (by omega)
    have HC := hid (cmp_any x xl xc y yl yc N d w hx hy)
    obtain ⟨cm, hcm⟩ : ∃ cm, cm = cmpI N d := ⟨_, rfl⟩
    have hc0 : decide (cm < 0) = false := by
      rw [hcm]; unfold cmpI
      rw [if_neg hlt]
      split <;> simp
    rw [← hcm] at HC
    have HL := hid (fun k => by
      have hk : Keeps (fun _ => False) w ((w.drewN k).alloc (.cells #[.pointer none] 240)) := ((Keeps.refl _ w).drewN k).alloc _
      exact divLarge241 a l c L a2 l2 c2 L2 x xl xc N y yl yc d w.heap.size 0 none ((w.drewN k).alloc (.cells #[.pointer none] 240)) (hz.keep hk (fun _ _ h => h)) (hz2.keep hk (fun _ _ h => h)) (hx.keep hk (fun _ _ h => h)) (hy.keep hk (fun _ _ h => h)) (by omega) hyl hnx hxl hzz hax2
        ⟨RowAt.new (w.drewN k) 240 [.pointer none], rfl⟩ (by omega) (fun s e h => by cases h) (G.keep hk (fun _ _ h => h)) (fun h => by have := G.lt h; omega))
    have t1 : ((yl : Int) == 0) = false := by simp; omega
    have t2 : ((yl : Int) == 1) = false := by simp; omega
    have Hz := hid hz; have Hz2 := hid hz2
    clear hz hz2 hx hy hzz hax hax2 G hlt hcm
    go_enter_defers Tryz.func199, Tryz.ntmps199
    go_wp2_with fail
    refine HC.out.mono ?_
    rintro e w1 ⟨rfl, k, rfl⟩
    go_wp2_with fail
    refine (getStack_any _).mono ?_
    rintro e w2 ⟨rfl, rfl⟩
    rw [show (w.drewN k).heap.size = w.heap.size from rfl]
    go_wp2_with fail
    refine (HL.out k).mono ?_
    rintro e w3 ⟨qa, ql, qc, ra, rl, rc, D', rfl, k1, k2, k3, k4, k5, k6, k7, _, k8⟩
    have K1 := hid k1; have K2 := hid k2; have K3 := hid k3; have K4 := hid k4; have K5 := hid k5; have K6 := hid k6; have K7 := hid k7; have K8 := hid k8
    clear k1 k2 k3 k4 k5 k6 k7 k8 HL HC
    go_wp2_with fail
    refine leaves_cons (f := 240) (args := #[.pointer (some ⟨w.heap.size, 0, none⟩)]) (by simp) (by simp [go_sem]) ?_
    refine (free240_any w.heap.size 0 D' _ _ K6.out).mono ?_
    rintro e u' w'' ⟨rfl, rfl, hk'⟩
    refine ⟨_, results_tmp2 rfl _ _ _, ?_⟩
    have hsz : ((w.drewN k).alloc (.cells #[.pointer none] 240)).heap.size = w.heap.size + 1 := by simp
    have hbk : ∀ b, StB w.heap.size D' b → w.heap.size ≤ b := by
      rintro b (h | ⟨s, d', h1, h2⟩)
      · omega
      · have := K7.out s d' h1
        rw [hsz] at this
        rcases this with ⟨⟨_, h3⟩ | h3, ⟨_, h4⟩ | h4⟩
        · cases h3
        · cases h3
        · cases h4
        · rcases h2 with h2 | h2 <;> omega
    refine ⟨qa, ql, qc, ra, rl, rc, rfl, K1.out.freed K6.out hk', K2.out.mono (by simp), K3.out.freed K6.out hk', K4.out.mono (by simp), K5.out, ?_⟩
    refine ((((Keeps.refl _ w).drewN k).alloc (.cells #[.pointer none] 240)).trans' (K8.out.keeps) ?_).trans' hk' ?_
    · rintro i hi ⟨j, h | h | h | ⟨s, d', h, _⟩⟩
      · exact .inl h
      · exact .inr h
      · omega
      · cases h
    · rintro i hi ⟨d', h⟩
      have := hbk i (.inr ⟨i, d', h, .inl rfl⟩)
      omega
end Go.Proofs
