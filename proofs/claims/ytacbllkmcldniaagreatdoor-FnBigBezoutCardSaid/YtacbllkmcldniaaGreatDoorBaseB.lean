/- Parts of the proofs over the numbers of any length: Mul, Alias, Mul2, Rdr, Pow, Scan, Set, IntCmp, Sqr. -/
import Derived.Defers
import Derived.Deep.RegionHeld3
import Derived.LaidEql
import Derived.LaidEqlPtr
import Derived.Test.YtacbllkmcldniaaGreatDoorBaseA
set_option linter.unusedSimpArgs false
set_option linter.unusedVariables false
namespace Go.Proofs
open Go.RowKit
set_option maxHeartbeats 400000
set_option linter.unusedVariables false
set_option linter.unusedSimpArgs false
set_option maxRecDepth 100000

/-- z and x lie in one place, or in different blocks (x not nil): as the vectors want it. -/
theorem al_vec {b o c xb xo xc n : Nat} (h : Al (some ⟨b, o, none⟩) c (some ⟨xb, xo, none⟩) xc) : xb ≠ b ∨ o ≤ xo ∨ xo + n ≤ o := by
  rcases h _ _ _ _ rfl rfl with h | h
  · exact .inl (Ne.symm h)
  · exact .inr (.inl (by omega))

theorem mulAddWW_any (a : Option Addr) (l c : Nat) (L : List Nat) (x : Option Addr) (xl xc : Nat) (X : List Nat) (y r : Nat) (w : World)
    (h : Rd w a l c L) (hx : Rd w x xl xc X) (hxl : xl ≤ 400000) (hy : y < W64) (hr : r < W64) (hax : Al a c x xc) :
    Calls Tryz.prog 268 #[.slice a l c, .slice x xl xc, .int .u64 (y : Int), .int .u64 (r : Int)] w (NatRes w a c (val X * y + r)) := by
  have H := hid h; have Hx := hid hx; have Hax := hid hax; have Hy := hid hy; have Hr := hid hr
  have Hlx := hid hx.length
  have hlex := hx.len_le
  unfold LIM at hlex
  clear h hx hax hy hr
  by_cases h0 : xl = 0
  · subst h0
    have e1 : X = [] := List.eq_nil_of_length_eq_zero Hlx.out
    subst e1
    go_enter Tryz.func268, Tryz.ntmps268
    go_wp2_with fail
    refine (setWord_any a l c L r _ H.out Hr.out).mono ?_
    rintro e w1 ⟨ra, rl, rc, rfl, hr⟩
    go_wp2_with fail
    go_ret
    exact ⟨ra, rl, rc, rfl, by simpa using hr⟩
  have hb0 : ((xl : Int) == 0) = false := by simp; omega
  by_cases hy0 : y = 0
  · subst hy0
    go_enter Tryz.func268, Tryz.ntmps268
    go_wp2_with fail
    refine (setWord_any a l c L r _ H.out Hr.out).mono ?_
    rintro e w1 ⟨ra, rl, rc, rfl, hr⟩
    go_wp2_with fail
    go_ret
    exact ⟨ra, rl, rc, rfl, by simpa using hr⟩
  · have hb1 : ((y : Int) == 0) = false := by simp; omega
    go_enter Tryz.func268, Tryz.ntmps268
    go_wp2_with fail
    refine (make_any a l c (xl + 1) L _ H.out (by omega) (by omega)).mono ?_
    rintro e w1 ⟨ra, rc, rfl, b, o, M, rfl, hb, hw, h1, h2, h3, hi, hk, hsame⟩
    have Hi := hid hi; have Hk := hid hk; have Hb := hid hb; have Hw := hid hw
    clear hi hk hb hw hsame
    have Hx1 := hid (Hx.out.keep Hk.out (fun _ _ h => h))
    have Hax1 := hid (Hi.out.al Hax.out (fun k hk => Hx.out.lt hk))
    rcases Hx1.out with ⟨_, _, hz, _⟩ | ⟨xb, xo, XB, rfl, hxb, hxw, hx1, hx2, hx3, hx4⟩
    · omega
    have Hxb := hid hxb; have Hxw := hid hxw; have Hx3 := hid hx3
    have HAax := hid (al_vec (n := xl) Hax1.out)
    clear hxb hxw hx3
    go_wp2_with fail
    refine (mulAddVWW_any b o rc xb xo xc xl y r M XB _ (by omega) Hb.out Hxb.out Hxw.out Hy.out Hr.out (by omega) (by omega) HAax.out).mono ?_
    rintro e w2 ⟨R, cc, hR, hRw, hcc, hv, rfl, hb2, hk2⟩
    have hsn := Blk.snoc (w := w) (n := xl + 1) (x := cc) hb2 hR (by omega) (by omega)
    have c1 : w2.cell? ⟨b, o + xl, none⟩ = some (.int .u64 ((((splice M o R).getD (o + xl) 0) : Nat) : Int)) := Blk.cell hb2 (by rw [length_splice (by omega)]; omega)
    have f1 := Blk.frozen hb2 (o + xl)
    have hd := Made.done hsn Hw.out (hRw.snoc hcc) (by rw [List.length_append, hR]; rfl) h1 h2 h3
    have hval : val (R ++ [cc]) = val X * y + r := by rw [val_snoc, hR, hv, Hx3.out]
    have F1 := hid hd; have F2 := hid hval; have Hk3 := hid (hk2.trans (Keeps.set1 w2 b (o + xl) (.int .u64 (cc : Int))))
    clear hsn hd hval hb2 hk2 hR hRw hcc hv
    go_wp2_with fail
    refine (norm_any _ _ _ _ _ F1.out).mono ?_
    rintro e w4 ⟨nn, rfl, hr, hnl, rfl⟩
    have Hr := hid hr
    clear hr
    go_wp2_with fail
    go_ret
    refine ⟨_, _, _, rfl, ?_, Hi.out, Made.keeps Hi.out Hk.out Hk3.out⟩
    rw [← F2.out, ← trimZ_eq_words F1.out.words]
    exact Hr.out

/-! ### The product of the school -/
theorem zero177 (w : World) : (zeroValue 177).run Tryz.prog w = .ok (.int .u64 0) w := by kernel_rfl

def BasRel (w : World) (zb zo m n : Nat) (Z X Y : List Nat) (i : Value) (wr : World) : Prop :=
  ∃ (k : Nat) (R : List Nat), k ≤ n ∧ i = .int .i64 (k : Int) ∧ R.length = m + k ∧ Words R ∧ val R = val X * val (Y.take k) ∧
    Blk wr zb (splice Z zo (R ++ List.replicate (n - k) 0)) ∧ Keeps (· = zb) w wr

theorem splice_in {α : Type} {Z A R : List α} {o k : Nat} (h1 : k + R.length ≤ A.length) (h2 : o + A.length ≤ Z.length) : splice (splice Z o A) (o + k) R = splice Z o (splice A k R) := by
  apply List.ext_getElem?
  intro i
  have hA := length_splice (L := Z) (o := o) (R := A) (by omega)
  have hB := length_splice (L := A) (o := k) (R := R) (by omega)
  rcases Nat.lt_or_ge i (o + k) with h | h
  · rw [splice_get_lt (by omega) h]
    rcases Nat.lt_or_ge i o with h' | h'
    · rw [splice_get_lt (by omega) h', splice_get_lt (by omega) h']
    · obtain ⟨j, rfl⟩ : ∃ j, i = o + j := ⟨i - o, by omega⟩
      rw [splice_get_in (by omega) (by omega), splice_get_in (by omega) (by omega), splice_get_lt (by omega) (by omega)]
  · rcases Nat.lt_or_ge i (o + k + R.length) with h' | h'
    · obtain ⟨j, rfl⟩ : ∃ j, i = o + k + j := ⟨i - (o + k), by omega⟩
      rw [splice_get_in (by omega) (by omega), Nat.add_assoc, splice_get_in (by omega) (by omega), splice_get_in (by omega) (by omega)]
    · rw [splice_get_ge (by omega) h']
      rcases Nat.lt_or_ge i (o + A.length) with h'' | h''
      · obtain ⟨j, rfl⟩ : ∃ j, i = o + j := ⟨i - o, by omega⟩
        rw [splice_get_in (by omega) (by omega), splice_get_in (by omega) (by omega), splice_get_ge (by omega) (by omega)]
      · rw [splice_get_ge (by omega) h'', splice_get_ge (by omega) (by omega)]
theorem splice_set {α : Type} {Z A : List α} {o i : Nat} {v : α} (h1 : i < A.length) (h2 : o + A.length ≤ Z.length) : (splice Z o A).set (o + i) v = splice Z o (A.set i v) := by
  have h := splice_in (Z := Z) (A := A) (R := [v]) (o := o) (k := i) (by simp; omega) h2
  have e : ∀ (L : List α) (j : Nat), j < L.length → L.set j v = splice L j [v] := by
    intro L j hj
    have := splice_snoc (L := L) (o := j) (R := []) (v := v) (by simp; omega)
    simpa using this
  have hA := length_splice (L := Z) (o := o) (R := A) (by omega)
  rw [e _ _ (by omega), e _ _ h1, h]
theorem splice_seg {α : Type} {Z A : List α} {o k m : Nat} (h1 : k + m ≤ A.length) (h2 : o + A.length ≤ Z.length) : seg (splice Z o A) (o + k) m = seg A k m := by
  apply List.ext_getElem?
  intro i
  unfold seg
  rcases Nat.lt_or_ge i m with h | h
  · rw [List.getElem?_take_of_lt h, List.getElem?_take_of_lt h, List.getElem?_drop, List.getElem?_drop, Nat.add_assoc, splice_get_in (by omega) (by omega)]
  · rw [List.getElem?_take_eq_none (by omega), List.getElem?_take_eq_none (by omega)]

theorem bas_step {m n k : Nat} {X Y R R2 : List Nat} {c d : Nat} (hR : R.length = m + k) (hk : k < n) (hY : Y.length = n) (hd : d = Y.getD k 0) (hv : val R = val X * val (Y.take k)) (h2 : R2.length = m)
    (e : val R2 + W64 ^ m * c = val (R.drop k) + val X * d) :
    (splice (R ++ List.replicate (n - k) 0) k R2).set (m + k) c = (R.take k ++ R2 ++ [c]) ++ List.replicate (n - (k + 1)) 0 ∧ val (R.take k ++ R2 ++ [c]) = val X * val (Y.take (k + 1)) := by
  constructor
  · obtain ⟨q, hq⟩ : ∃ q, n - k = q + 1 := ⟨n - k - 1, by omega⟩
    rw [hq, show n - (k + 1) = q by omega, List.replicate_succ]
    unfold splice
    have e1 : (R ++ 0 :: List.replicate q 0).take k = R.take k := by rw [List.take_append_of_le_length (by omega)]
    have e2 : (R ++ 0 :: List.replicate q 0).drop (k + R2.length) = 0 :: List.replicate q 0 := by
      rw [List.drop_append, List.drop_of_length_le (by omega), List.nil_append, hR, h2, show k + m - (m + k) = 0 by omega, List.drop_zero]
    rw [e1, e2, List.set_append_right _ _ (by simp; omega)]
    simp only [List.length_append, List.length_take, h2]
    rw [show m + k - (min k R.length + m) = 0 by omega, List.set_cons_zero]
    simp
  · have e3 : val R = val (R.take k) + W64 ^ k * val (R.drop k) := by
      conv => lhs; rw [← List.take_append_drop k R, val_append]
      rw [List.length_take, Nat.min_eq_left (by omega)]
    have e4 : val (Y.take (k + 1)) = val (Y.take k) + W64 ^ k * d := by
      rw [List.take_succ_eq_append_getElem (by omega), val_snoc, List.length_take, Nat.min_eq_left (by omega), hd]
      simp [hY, hk]
    rw [val_snoc, val_append, List.length_append, List.length_take, Nat.min_eq_left (by omega), h2, e4, Nat.mul_add, ← hv, e3, Nat.pow_add, Nat.mul_assoc]
    have : W64 ^ k * (val R2 + W64 ^ m * c) = W64 ^ k * (val (R.drop k) + val X * d) := by rw [e]
    rw [Nat.mul_add, Nat.mul_add] at this
    have e5 : val X * (W64 ^ k * d) = W64 ^ k * (val X * d) := by rw [← Nat.mul_assoc, Nat.mul_comm (val X), Nat.mul_assoc]
    omega

theorem basicMul_any (zb zo zl zc xl xc yl yc : Nat) (Z X Y : List Nat) (x y : Option Addr) (w : World) (hz : Blk w zb Z) (hzw : Words Z) (hx : Rd w x xl xc X) (hy : Rd w y yl yc Y)
    (hxl : 0 < xl) (hyl : 0 < yl) (hxl4 : xl + yl ≤ 400000) (hzl : xl + yl ≤ zl) (hzc : zl ≤ zc) (hfit : zo + zc ≤ Z.length) (hlim : Z.length ≤ LIM) (hxz : ¬ InB x zb) (hyz : ¬ InB y zb) :
    Calls Tryz.prog 265 #[.slice (some ⟨zb, zo, none⟩) zl zc, .slice x xl xc, .slice y yl yc] w
      fun e w' => ∃ R, R.length = xl + yl ∧ Words R ∧ val R = val X * val Y ∧ e = .returned (.tuple #[]) ∧ Blk w' zb (splice Z zo R) ∧ Keeps (· = zb) w w' := by
  have Hz := hid hz; have Hzw := hid hzw; have Hx := hid hx; have Hy := hid hy; have Hxz := hid hxz; have Hyz := hid hyz
  have Hlx := hid hx.length; have Hly := hid hy.length
  have hlex := hx.len_le; have hley := hy.len_le
  have Hlim := hid hlim
  unfold LIM at hlex hley hlim
  clear hz hzw hx hy hxz hyz
  have hypos := Hy.out.cell hyl
  obtain ⟨yb, yo, rfl, hyc⟩ := hypos
  obtain ⟨xb, xo, XB, hxe, hxb, hxw, hx1, hx2, hx3, hx4⟩ : ∃ b o M, x = some ⟨b, o, none⟩ ∧ Blk w b M ∧ Words M ∧ xl ≤ xc ∧ o + xc ≤ M.length ∧ seg M o xl = X ∧ M.length ≤ LIM := by
    rcases Hx.out with ⟨_, _, hz, _⟩ | h
    · omega
    · exact h
  subst hxe
  have Hxb := hid hxb; have Hxw := hid hxw; have Hx3 := hid hx3; have Hyc := hid hyc; have Hx4 := hid hx4
  have Hxne : Hid (xb ≠ zb) := hid (fun h => Hxz.out ⟨xo, by rw [h]⟩)
  have Hyne : Hid (yb ≠ zb) := hid (fun h => Hyz.out ⟨yo, by rw [h]⟩)
  clear hxb hxw hx3 hyc hx4 Hxz Hyz
  go_enter Tryz.func265, Tryz.ntmps265
  go_wp2_with (refine wpList_clr rfl (.tmp 14) 101 rfl 177 u101 (.int .u64 0) zero177 rfl rfl (some ⟨zb, zo, none⟩) (xl + yl) zc rfl zb zo (Z.map wv) 177 Hz.out (fun _ => rfl) (by simp only [List.length_map]; omega) ?_; intro w2 hb2 hk2)
  have hb2' : Blk w2 zb (splice Z zo (List.replicate xl 0 ++ List.replicate (yl - 0) 0)) := by
    rw [← Words.wv_replicate, ← splice_map] at hb2
    rw [Nat.sub_zero, List.replicate_append_replicate]
    exact hb2
  have Hb2 := hid hb2'; have Hk2 := hid hk2
  clear hb2 hb2' hk2
  go_loopw [17] (fun i wr => BasRel w zb zo xl yl Z X Y i wr) (fun i _ => yl - (intOf i).toNat)
  case atStart => exact ⟨0, List.replicate xl 0, Nat.zero_le _, rfl, by simp, Words.replicate_zero _, by rw [val_replicate_zero]; simp, Hb2.out, Hk2.out⟩
  case round =>
    obtain ⟨k, R, hk, rfl, hR, hRw, hv, hb, hkeep⟩ := hrel
    have HR := hid hR; have HRw := hid hRw; have Hv := hid hv; have Hb := hid hb; have Hkeep := hid hkeep
    clear hR hRw hv hb hkeep
    by_cases hlt : k < yl
    · obtain ⟨d, hd⟩ : ∃ d, d = Y.getD k 0 := ⟨_, rfl⟩
      have cy : wr.cell? ⟨yb, yo + k, none⟩ = some (.int .u64 (d : Int)) := by
        have h1 := Hyc.out k hlt
        rw [← hd] at h1
        have := (Hkeep.out.block yb (World.block_lt_of_cell? w ⟨yb, yo + k, none⟩ h1) Hyne.out)
        rw [← h1]
        simp only [World.cell?, this]
      have Hd := hid hd
      have Hdw := hid (Hy.out.words.getD k)
      clear hd
      have hlenA : (R ++ List.replicate (yl - k) 0).length = xl + yl := by rw [List.length_append, HR.out, List.length_replicate]; omega
      have HlenA := hid hlenA
      clear hlenA
      by_cases hd0 : d = 0
      · have hb1 : ((d : Int) != 0) = false := by rw [hd0]; rfl
        have Hd0 := hid hd0
        clear hd0
        go_wp2_with fail
        refine ⟨⟨k + 1, R ++ [0], by omega, by simp, by simp [HR.out]; omega, HRw.out.snoc W64_pos, ?_, ?_, Hkeep.out⟩, by simp [intOf]; omega⟩
        · rw [val_snoc, Nat.mul_zero, Nat.add_zero, Hv.out]
          rw [List.take_succ_eq_append_getElem (by rw [Hly.out]; exact hlt), val_snoc]
          have : Y[k]'(by rw [Hly.out]; exact hlt) = 0 := by
            have := Hd.out
            rw [Hd0.out] at this
            simpa [Hly.out, hlt] using this.symm
          rw [this]; simp
        · have := Hb.out
          rw [show yl - k = (yl - (k + 1)) + 1 by omega, List.replicate_succ] at this
          simpa using this
      · have hb1 : ((d : Int) != 0) = true := by rw [bne_iff_ne]; omega
        clear hd0
        obtain ⟨p1, hs1, hp1⟩ := slice101_mid zb zo zl zc k (k + xl) (by omega) (by omega)
        obtain rfl := hp1 (by omega)
        clear hp1
        rw [show k + xl - k = xl by omega] at hs1
        simp only [Int.natCast_add] at hs1
        have hw1 : IntKind.i64.wrap ((xl : Int) + (k : Int)) = (xl : Int) + (k : Int) := IntWalk.i64_in _ (by omega)
        have hw2 : IntKind.i64.wrap ((k : Int) + (xl : Int)) = (k : Int) + (xl : Int) := IntWalk.i64_in _ (by omega)
        have hcall := fun (W : World) (hW : W = wr.drew) => addMulVVWW_any zb (zo + k) (zc - k) zb (zo + k) (zc - k) xb xo xc xl d 0 (splice Z zo (R ++ List.replicate (yl - k) 0)) (splice Z zo (R ++ List.replicate (yl - k) 0)) XB W (by omega) (by rw [hW]; exact Hb.out) (by rw [hW]; exact Hb.out) (by rw [hW]; exact Hkeep.out.row Hxb.out Hxne.out)
          (Hzw.out.splice (HRw.out.append (Words.replicate_zero _)) _) Hxw.out (by rw [Hd.out]; exact Hdw.out) W64_pos (by rw [length_splice (by rw [HlenA.out]; omega)]; omega) (by rw [length_splice (by rw [HlenA.out]; omega)]; omega) (by omega) (.inr (.inl (Nat.le_refl _))) (.inl Hxne.out)
        have Hcall := hid hcall
        clear hcall
        have hi1 : (0 : Int) ≤ (xl : Int) + (k : Int) := by omega
        have hi2 : (xl : Int) + (k : Int) < (zl : Int) := by omega
        have hi3 : ((xl : Int) + (k : Int)).toNat = xl + k := by omega
        have hcell : ∀ (W : World) (R2 : List Nat), R2.length = xl → Blk W zb (splice (splice Z zo (R ++ List.replicate (yl - k) 0)) (zo + k) R2) →
            W.cell? ⟨zb, zo + (xl + k), none⟩ = some (.int .u64 (((splice (splice Z zo (R ++ List.replicate (yl - k) 0)) (zo + k) R2).getD (zo + (xl + k)) 0 : Nat) : Int)) := by
          intro W R2 h1 h2
          refine Blk.cell h2 ?_
          have e1 := length_splice (L := Z) (o := zo) (R := R ++ List.replicate (yl - k) 0) (by rw [HlenA.out]; omega)
          rw [length_splice (by rw [e1]; omega), e1]; omega
        have Hcell := hid hcell
        clear hcell
        go_wp2_with fail
        go_region_held3 (fun _ => True) (trivial) (first | (go_at_call 303; refine (Hcall.out _ rfl).mono ?_; rintro e w3 ⟨R2, c, h1, h2, h3, h4, rfl, h5, h6⟩; have Hx1 := hid h1; have Hx2 := hid h2; have Hx3' := hid h3; have Hx4' := hid h4; have Hx5 := hid h5; have Hx6 := hid h6; have hcz := Hcell.out _ _ h1 h5; have hfz := Blk.frozen h5 (zo + (xl + k)); clear h1 h2 h3 h4 h5 h6))
        clear hi1 hi2 hi3 hw1 hw2 hs1
        go_wp2_with fail
        have e1 := length_splice (L := Z) (o := zo) (R := R ++ List.replicate (yl - k) 0) (by rw [HlenA.out]; omega)
        have hbs := bas_step (m := xl) (n := yl) (k := k) (X := X) (Y := Y) (R := R) (R2 := R2) (c := c) (d := d) HR.out hlt Hly.out Hd.out Hv.out Hx1.out (by
          have := Hx4'.out
          rw [splice_seg (by rw [HlenA.out]; omega) (by rw [HlenA.out]; omega), Hx3.out, Nat.add_zero] at this
          rw [this]
          congr 2
          unfold seg
          rw [List.drop_append_of_le_length (by rw [HR.out]; omega), List.take_append_of_le_length (by rw [List.length_drop, HR.out]; omega), List.take_of_length_le (by rw [List.length_drop, HR.out]; omega)])
        refine ⟨⟨k + 1, R.take k ++ R2 ++ [c], by omega, by simp, by simp [HR.out, Hx1.out]; omega, ((HRw.out.take _).append Hx2.out).snoc Hx3'.out, hbs.2, ?_, ?_⟩, by simp [intOf]; omega⟩
        · have hset := Blk.set Hx5.out (zo + (xl + k)) c
          rw [splice_in (by rw [HlenA.out, Hx1.out]; omega) (by rw [HlenA.out]; omega), splice_set (by rw [length_splice (by rw [HlenA.out, Hx1.out]; omega), HlenA.out]; omega) (by rw [length_splice (by rw [HlenA.out, Hx1.out]; omega), HlenA.out]; omega), hbs.1] at hset
          exact hset
        · exact (Hkeep.out.trans ((Keeps.refl _ _).drew.trans Hx6.out)).trans (Keeps.set1 _ _ _ _)
    · obtain rfl : k = yl := by omega
      go_wp2_with fail
      go_end0
      refine ⟨R, HR.out, HRw.out, ?_, rfl, ?_, Hkeep.out⟩
      · rw [Hv.out, List.take_of_length_le (by rw [Hly.out]; omega)]
      · have := Hb.out
        simpa using this
end Go.Proofs
namespace Go.Proofs
open Go.RowKit
set_option maxHeartbeats 400000
set_option linter.unusedVariables false
set_option linter.unusedSimpArgs false
set_option maxRecDepth 100000

/-- Whether two slices share their memory, as alias tells it. -/
def sharesB (a : Option Addr) (c : Nat) (x : Option Addr) (xc : Nat) : Bool := decide (0 < c) && decide (0 < xc) && decide (a.isSome = true) && decide (a = x)

theorem slice101_full (b o l c : Nat) :
    ∀ w : World, (Instr.slice 101 (.slice (some ⟨b, o, none⟩) l c) (some (.int .i64 0)) (some (.int .i64 (c : Int))) none).run Tryz.prog w = .ok (.slice (some ⟨b, o, none⟩) c c) w := by
  intro w
  rw [run_slice_lh (P := Tryz.prog) w 101 (some ⟨b, o, none⟩) l c (by rw [elem101]; exact u101) .i64 .i64 0 (c : Int) (by omega) (by omega) (by omega), elem101, size177]
  simp only [Result.andThen_ok, sliced, Int.toNat_natCast, Nat.mul_one, Int.toNat_zero, Nat.sub_zero]
  congr 2
  split
  · rfl
  · simp [Addr.add]

theorem eql195_same (a : Addr) (w : World) : (binOp .eql 195 (.pointer (some a)) (.pointer (some a))).run Tryz.prog w = .ok (.bool true) w := by
  obtain ⟨i0, hi, _⟩ := info_parts info177
  exact run_eql_ptr_same w a u195 hi
theorem eql195_other {w : World} {b o b' o' : Nat} {M N : List Nat} (h : Blk w b M) (k : Blk w b' N) (hne : b ≠ b') :
    (binOp .eql 195 (.pointer (some ⟨b, o, none⟩)) (.pointer (some ⟨b', o', none⟩))).run Tryz.prog w = .ok (.bool false) w := by
  obtain ⟨i0, hi, hz0, hz1, hz2⟩ := info_parts info177
  exact run_eql_ptr_other w u195 hi (by omega) (by intro he; cases he; exact hne rfl) h k

theorem alias_any (a : Option Addr) (l c : Nat) (L : List Nat) (x : Option Addr) (xl xc : Nat) (X : List Nat) (w : World) (h : Rd w a l c L) (hx : Rd w x xl xc X) (hal : Al a c x xc) :
    Calls Tryz.prog 201 #[.slice a l c, .slice x xl xc] w fun e w' => e = .returned (.bool (sharesB a c x xc)) ∧ ∃ k, w' = w.drewN k := by
  have hle := h.len_le; have hlex := hx.len_le
  unfold LIM at hle hlex
  by_cases hc : c = 0
  · subst hc
    clear h hx hal
    have hs : sharesB a 0 x xc = false := by simp [sharesB]
    have Hs := hid hs
    clear hs
    go_enter Tryz.func201, Tryz.ntmps201
    go_wp2_with fail
    go_quiet (fail)
    go_wp2_with fail
    go_ret
    exact ⟨by rw [Hs.out]; rfl, _, rfl⟩
  by_cases hxc : xc = 0
  · subst hxc
    clear h hx hal
    have hs : sharesB a c x 0 = false := by simp [sharesB]
    have Hs := hid hs
    have hc0 : decide (0 < c) = true := by simp; omega
    clear hs hc
    go_enter Tryz.func201, Tryz.ntmps201
    go_wp2_with fail
    go_quiet (fail)
    go_wp2_with fail
    go_ret
    exact ⟨by rw [Hs.out]; rfl, _, rfl⟩
  · rcases h with ⟨_, _, _, rfl⟩ | ⟨b, o, M, rfl, hb, hw, h1, h2, rfl, h3⟩
    · exact absurd rfl hc
    rcases hx with ⟨_, _, _, rfl⟩ | ⟨xb, xo, XB, rfl, hxb, hxw, hx1, hx2, rfl, hx3⟩
    · exact absurd rfl hxc
    have hc0 : decide (0 < c) = true := by simp; omega
    have hc1 : decide (0 < xc) = true := by simp; omega
    have hsl := slice101_full b o l c
    have hsl2 := slice101_full xb xo xl xc
    have hw1 : IntKind.i64.wrap ((c : Int) - 1) = (c : Int) - 1 := IntWalk.i64_in _ (by omega)
    have hw2 : IntKind.i64.wrap ((xc : Int) - 1) = (xc : Int) - 1 := IntWalk.i64_in _ (by omega)
    have hi1 : (0 : Int) ≤ (c : Int) - 1 := by omega
    have hi2 : (0 : Int) ≤ (xc : Int) - 1 := by omega
    have hi1' : (c : Int) - 1 < (c : Int) := by omega
    have hi2' : (xc : Int) - 1 < (xc : Int) := by omega
    have hi3 : ((c : Int) - 1).toNat = c - 1 := by omega
    have hi4 : ((xc : Int) - 1).toNat = xc - 1 := by omega
    by_cases hbb : b = xb
    · subst hbb
      have hoo : o = xo ∧ c = xc := by
        rcases hal _ _ _ _ rfl rfl with h | h
        · exact absurd rfl h
        · exact h
      obtain ⟨rfl, rfl⟩ := hoo
      have hs : sharesB (some ⟨b, o, none⟩) c (some ⟨b, o, none⟩) c = true := by simp [sharesB]; omega
      have Hs := hid hs
      have heq := eql195_same ⟨b, o + (c - 1), none⟩
      clear hs hb hw hxb hxw hal hc hxc
      go_enter Tryz.func201, Tryz.ntmps201
      go_wp2_with fail
      go_quiet (fail)
      go_wp2_with fail
      go_ret
      exact ⟨by rw [Hs.out]; rfl, _, rfl⟩
    · have hs : sharesB (some ⟨b, o, none⟩) c (some ⟨xb, xo, none⟩) xc = false := by simp [sharesB, hbb]
      have Hs := hid hs
      have heq := eql195_other (o := o + (c - 1)) (o' := xo + (xc - 1)) hb hxb hbb
      have heq' := fun k => eql195_other (w := w.drewN k) (o := o + (c - 1)) (o' := xo + (xc - 1)) hb hxb hbb
      clear hs hb hw hxb hxw hal hc hxc hbb
      go_enter Tryz.func201, Tryz.ntmps201
      go_wp2_with fail
      go_quiet (fail)
      go_wp2_with fail
      go_ret
      exact ⟨by rw [Hs.out]; rfl, _, rfl⟩
end Go.Proofs
namespace Go.Proofs
open Go.RowKit
set_option maxHeartbeats 400000
set_option linter.unusedVariables false
set_option linter.unusedSimpArgs false
set_option maxRecDepth 100000

/-- What the package's variables hold. -/
structure Glob (w : World) : Prop where
  eof : ∃ p : Addr, w.cell? ⟨0, 0, none⟩ = some (.iface 221 (.pointer (some p)))
  bs : w.cell? ⟨1, 0, none⟩ = some (.int .i64 12)
  ks : w.cell? ⟨2, 0, none⟩ = some (.int .i64 80)
  kt : w.cell? ⟨3, 0, none⟩ = some (.int .i64 40)
  dr : w.cell? ⟨4, 0, none⟩ = some (.int .i64 40)
  lf : w.cell? ⟨6, 0, none⟩ = some (.int .i64 8)
  tz : ∀ i, i < 64 → w.cell? ⟨8, i, none⟩ = some (.int .u8 (([0, 1, 56, 2, 57, 49, 28, 3, 61, 58, 42, 50, 38, 29, 17, 4, 62, 47, 59, 36, 45, 43, 51, 22, 53, 39, 33, 30, 24, 18, 12, 5, 63, 55, 48, 27, 60, 41, 37, 16, 46, 35, 44, 21, 52, 32, 23, 11, 54, 26, 40, 15, 34, 20, 31, 10, 25, 14, 19, 9, 13, 8, 7, 6] : List Int).getD i 0))

/-- The blocks of the variables that are read. -/
def GB (k : Nat) : Prop := k = 0 ∨ k = 1 ∨ k = 2 ∨ k = 3 ∨ k = 4 ∨ k = 6 ∨ k = 8

theorem cell_of_block {w w' : World} {p : Addr} (h : w'.heap[p.block]? = w.heap[p.block]?) : w'.cell? p = w.cell? p := by simp only [World.cell?, h]

theorem Glob.lt {w : World} (h : Glob w) {k : Nat} (hk : GB k) : k < w.heap.size := by
  obtain ⟨p, hp⟩ := h.eof
  rcases hk with rfl | rfl | rfl | rfl | rfl | rfl | rfl
  · exact World.block_lt_of_cell? w ⟨0, 0, none⟩ hp
  · exact World.block_lt_of_cell? w ⟨1, 0, none⟩ h.bs
  · exact World.block_lt_of_cell? w ⟨2, 0, none⟩ h.ks
  · exact World.block_lt_of_cell? w ⟨3, 0, none⟩ h.kt
  · exact World.block_lt_of_cell? w ⟨4, 0, none⟩ h.dr
  · exact World.block_lt_of_cell? w ⟨6, 0, none⟩ h.lf
  · exact World.block_lt_of_cell? w ⟨8, 0, none⟩ (h.tz 0 (by omega))

theorem Glob.keep {w w' : World} {S : Nat → Prop} (h : Glob w) (hk : Keeps S w w') (hS : ∀ k, GB k → ¬ S k) : Glob w' := by
  have key : ∀ (b o : Nat) (v : Value), GB b → w.cell? ⟨b, o, none⟩ = some v → w'.cell? ⟨b, o, none⟩ = some v := fun b o v hb hc => by
    rw [cell_of_block (hk.block b (h.lt hb) (hS b hb))]; exact hc
  obtain ⟨p, hp⟩ := h.eof
  exact ⟨⟨p, key _ _ _ (.inl rfl) hp⟩, key _ _ _ (by simp [GB]) h.bs, key _ _ _ (by simp [GB]) h.ks, key _ _ _ (by simp [GB]) h.kt, key _ _ _ (by simp [GB]) h.dr, key _ _ _ (by simp [GB]) h.lf, fun i hi => key _ _ _ (by simp [GB]) (h.tz i hi)⟩

theorem Glob.ne_blk {w : World} (h : Glob w) {k : Nat} {M : List Nat} (hb : Blk w k M) : ¬ GB k := by
  intro hk
  have key : ∀ v, w.cell? ⟨k, 0, none⟩ = some v → ∃ n : Int, v = .int .u64 n := by
    intro v hv
    rw [RowAt.cell hb 0] at hv
    simp only [List.getElem?_map] at hv
    cases hm : M[0]? with
    | none => simp [hm] at hv
    | some x => simp [hm, wv] at hv; exact ⟨_, hv.symm⟩
  obtain ⟨p, hp⟩ := h.eof
  rcases hk with rfl | rfl | rfl | rfl | rfl | rfl | rfl
  · obtain ⟨n, hn⟩ := key _ hp; cases hn
  · obtain ⟨n, hn⟩ := key _ h.bs; cases hn
  · obtain ⟨n, hn⟩ := key _ h.ks; cases hn
  · obtain ⟨n, hn⟩ := key _ h.kt; cases hn
  · obtain ⟨n, hn⟩ := key _ h.dr; cases hn
  · obtain ⟨n, hn⟩ := key _ h.lf; cases hn
  · obtain ⟨n, hn⟩ := key _ (h.tz 0 (by omega)); cases hn
theorem Glob.ne_rd {w : World} (h : Glob w) {a : Option Addr} {l c : Nat} {L : List Nat} (hr : Rd w a l c L) {k : Nat} (hk : GB k) : ¬ InB a k := by
  rintro ⟨o, rfl⟩
  rcases hr with ⟨h', _⟩ | ⟨b, o', M, h', hb, _⟩
  · cases h'
  · cases h'; exact h.ne_blk hb hk
theorem Glob.drewN {w : World} (h : Glob w) (n : Nat) : Glob (w.drewN n) := h.keep (S := fun _ => False) ((Keeps.refl _ _).drewN n) (fun _ _ h => h)
/-- A world in which only z's block has turned. -/
theorem Glob.in_rd {w w' : World} (h : Glob w) {a : Option Addr} {l c : Nat} {L : List Nat} (hr : Rd w a l c L) (hk : Keeps (InB a) w w') : Glob w' := h.keep hk (fun _ hg => h.ne_rd hr hg)

theorem Into.of_nil {w : World} {a ra : Option Addr} {c rc : Nat} (h : Into w none 0 ra rc) : Into w a c ra rc := by
  rcases h with h | ⟨rfl, rfl⟩ | h
  · exact .inl h
  · exact .inl ⟨rfl, rfl⟩
  · exact .inr (.inr h)

theorem not_shares {w : World} {a x ra : Option Addr} {c xc rc b o : Nat} (h : sharesB a c x xc = false) (hal : Al a c x xc) (hi : Into w a c ra rc) (hr : ra = some ⟨b, o, none⟩) (hrc : 0 < rc) (hlt : ∀ k, InB x k → k < w.heap.size) : ¬ InB x b := by
  rintro hb
  obtain ⟨o', rfl⟩ := hb
  rcases hi with ⟨rfl, _⟩ | ⟨rfl, rfl⟩ | ⟨b', rfl, hb'⟩
  · cases hr
  · subst hr
    rcases hal _ _ _ _ rfl rfl with h' | ⟨rfl, rfl⟩
    · exact h' rfl
    · simp [sharesB] at h; omega
  · cases hr
    have := hlt b ⟨o', rfl⟩
    omega

/-- What is left of mul, z made: the product of the school, and no noughts at the end. -/
theorem Made.rd {w w1 : World} {a ra : Option Addr} {c n rc : Nat} (h : Made w a c n ra rc w1) : ∃ b o M, ra = some ⟨b, o, none⟩ ∧ Blk w1 b M ∧ Words M ∧ n ≤ rc ∧ o + rc ≤ M.length ∧ M.length ≤ LIM ∧ Into w a c ra rc ∧ Keeps (fun _ => False) w w1 := by
  obtain ⟨b, o, M, h1, h2, h3, h4, h5, h6, h7, h8, _⟩ := h
  exact ⟨b, o, M, h1, h2, h3, h4, h5, h6, h7, h8⟩

theorem mul_ge (a : Option Addr) (l c : Nat) (L : List Nat) (sp : Option Addr) (x : Option Addr) (xl xc : Nat) (m : Nat) (y : Option Addr) (yl yc : Nat) (n : Nat) (w : World)
    (hg : Glob w) (h : Rd w a l c L) (hx : Rd w x xl xc (words m)) (hy : Rd w y yl yc (words n)) (hxl : xl ≤ 200000) (hle : yl ≤ xl) (hyl : yl < 40) (hax : Al a c x xc) (hay : Al a c y yc) :
    Calls Tryz.prog 236 #[.slice a l c, .pointer sp, .slice x xl xc, .slice y yl yc] w (NatRes w a c (m * n)) := by
  have H := hid h; have Hx := hid hx; have Hy := hid hy; have Hax := hid hax; have Hay := hid hay; have Hg := hid hg
  have Hlx := hid hx.length; have Hly := hid hy.length
  have hlex := hx.len_le; have hley := hy.len_le; have hle0 := h.len_le
  unfold LIM at hlex hley hle0
  clear h hx hy hax hay hg
  have hlt : decide (xl < yl) = false := by simp; omega
  by_cases hy0 : yl = 0
  · subst hy0
    have hn : n = 0 := words_length_zero Hly.out
    subst hn
    by_cases h0 : xl = 0
    · subst h0
      go_enter Tryz.func236, Tryz.ntmps236
      go_wp2_with fail
      go_ret
      exact ⟨_, _, _, rfl, by rw [Nat.mul_zero, words_zero]; exact H.out.zero, Into.refl _ _ _, Keeps.refl _ _⟩
    · have hb0 : ((xl : Int) == 0) = false := by simp; omega
      clear h0
      go_enter Tryz.func236, Tryz.ntmps236
      go_wp2_with fail
      go_ret
      exact ⟨_, _, _, rfl, by rw [Nat.mul_zero, words_zero]; exact H.out.zero, Into.refl _ _ _, Keeps.refl _ _⟩
  have hb0 : ((xl : Int) == 0) = false := by simp; omega
  have hb1 : ((yl : Int) == 0) = false := by simp; omega
  by_cases hy1 : yl = 1
  · subst hy1
    obtain ⟨yb, yo, rfl, hyc⟩ := Hy.out.cell (by omega)
    have c0 := hyc 0 (by omega)
    rw [Nat.add_zero] at c0
    have hn : n = (words n).getD 0 0 := by
      have h1 := val_words n
      have h2 := Hly.out
      match hw : words n, h2 with
      | [x0], _ => rw [hw] at h1; simpa using h1.symm
    obtain ⟨v, hv⟩ : ∃ v, v = (words n).getD 0 0 := ⟨_, rfl⟩
    rw [← hv] at c0 hn
    have Hn := hid hn
    have Hvw : Hid (v < W64) := hid (by rw [hv]; exact (words_words n).getD 0)
    clear hyc hv hn hy0
    go_enter Tryz.func236, Tryz.ntmps236
    go_wp2_with fail
    refine (mulAddWW_any a l c L x xl xc (words m) v 0 _ H.out Hx.out (by omega) Hvw.out W64_pos Hax.out).mono ?_
    rintro e w1 ⟨ra, rl, rc, rfl, hr⟩
    go_wp2_with fail
    go_ret
    refine ⟨ra, rl, rc, rfl, ?_⟩
    rwa [val_words, ← Hn.out, Nat.add_zero] at hr
  · have hb2 : ((yl : Int) == 1) = false := by simp; omega
    have hltk : (yl : Int) < 40 := by omega
    have hyl1 : 1 < yl := by omega
    clear hy0 hy1
    -- the end, z made
    have fin : ∀ (w1 : World) (ra : Option Addr) (rc : Nat) (b o : Nat) (M : List Nat) (k : Nat), ra = some ⟨b, o, none⟩ → Blk w1 b M → Words M → xl + yl ≤ rc → o + rc ≤ M.length → M.length ≤ LIM → Into w a c ra rc → Keeps (fun _ => False) w w1 → ¬ InB x b → ¬ InB y b →
        ∀ W, W = w1 → Calls Tryz.prog 265 #[.slice ra (xl + yl) rc, .slice x xl xc, .slice y yl yc] W fun e w2 => ∃ R, R.length = xl + yl ∧ e = .returned (.tuple #[]) ∧ Rd w2 ra (xl + yl) rc R ∧ val R = m * n ∧ Keeps (InB a) w w2 := by
      intro w1 ra rc b o M k hra hb hw h1 h2 h3 hi hk hxb hyb W hW
      subst hW
      subst hra
      refine (basicMul_any b o (xl + yl) rc xl xc yl yc M (words m) (words n) x y _ hb hw (Hx.out.keep hk (fun _ _ h => h)) (Hy.out.keep hk (fun _ _ h => h)) (by omega) (by omega) (by omega) (by omega) h1 h2 h3 hxb hyb).mono ?_
      rintro e w2 ⟨R, r1, r2, r3, rfl, r4, r5⟩
      refine ⟨R, r1, rfl, Made.done r4 hw r2 r1 h1 h2 h3, by rw [r3, val_words, val_words], Made.keeps hi hk r5⟩
    have Fin := hid fin
    clear fin
    cases hs1 : sharesB a c x xc with
    | true =>
      have Hs1 := hid hs1
      clear hs1
      go_enter Tryz.func236, Tryz.ntmps236
      go_wp2_with fail
      refine (alias_any a l c L x xl xc (words m) _ H.out Hx.out Hax.out).mono ?_
      rintro e w1 ⟨rfl, q, rfl⟩
      rw [Hs1.out]
      go_wp2_with fail
      refine (make_any none 0 0 (xl + yl) [] _ (Rd.nil _) (by omega) (by omega)).mono ?_
      rintro e w2 ⟨ra, rc, rfl, hm⟩
      obtain ⟨b, o, M, hra, hb, hw, h1, h2, h3, hi, hk⟩ := hm.rd
      have hkw := ((Keeps.refl (fun _ => False) w).drewN q).any.trans hk
      have hkt := ((Hg.out.keep hkw (fun _ _ h => h)).kt)
      have hi2 : Into w a c ra rc := Into.of_nil (hi.mono (Nat.le_refl _))
      have hnx : ¬ InB x b := fun hh => by
        obtain ⟨o', ho'⟩ := hh
        have := Hx.out.lt ⟨o', ho'⟩
        subst hra
        rcases hi with ⟨h', _⟩ | ⟨h', _⟩ | ⟨b', h', hb'⟩
        · cases h'
        · cases h'
        · cases h'; have h5 : w.heap.size ≤ b := hb'; omega
      have hny : ¬ InB y b := fun hh => by
        obtain ⟨o', ho'⟩ := hh
        have := Hy.out.lt ⟨o', ho'⟩
        subst hra
        rcases hi with ⟨h', _⟩ | ⟨h', _⟩ | ⟨b', h', hb'⟩
        · cases h'
        · cases h'
        · cases h'; have h5 : w.heap.size ≤ b := hb'; omega
      have HF := hid (Fin.out w2 ra rc b o M 0 hra hb hw h1 h2 h3 hi2 hkw hnx hny w2 rfl)
      have Hi2 := hid hi2
      clear hm hra hb hw hi hk hkw hi2 hnx hny
      go_wp2_with fail
      refine HF.out.mono ?_
      rintro e w3 ⟨R, r1, rfl, r2, r3, r4⟩
      have Hr2 := hid r2; have Hr3 := hid r3; have Hr4 := hid r4
      clear r1 r2 r3 r4
      go_wp2_with fail
      refine (norm_any _ _ _ _ _ Hr2.out).mono ?_
      rintro e w4 ⟨nn, rfl, hr, hnl, rfl⟩
      have Hr := hid hr
      clear hr
      go_wp2_with fail
      go_ret
      refine ⟨_, _, _, rfl, ?_, Hi2.out, Hr4.out⟩
      rw [← Hr3.out, ← trimZ_eq_words Hr2.out.words]
      exact Hr.out
    | false =>
      cases hs2 : sharesB a c y yc with
      | true =>
        have Hs1 := hid hs1; have Hs2 := hid hs2
        clear hs1 hs2
        go_enter Tryz.func236, Tryz.ntmps236
        go_wp2_with fail
        refine (alias_any a l c L x xl xc (words m) _ H.out Hx.out Hax.out).mono ?_
        rintro e w1 ⟨rfl, q, rfl⟩
        rw [Hs1.out]
        go_wp2_with fail
        refine (alias_any a l c L y yl yc (words n) _ (H.out.drewN q) (Hy.out.drewN q) Hay.out).mono ?_
        rintro e w1 ⟨rfl, q2, rfl⟩
        rw [Hs2.out]
        go_wp2_with fail
        refine (make_any none 0 0 (xl + yl) [] _ (Rd.nil _) (by omega) (by omega)).mono ?_
        rintro e w2 ⟨ra, rc, rfl, hm⟩
        obtain ⟨b, o, M, hra, hb, hw, h1, h2, h3, hi, hk⟩ := hm.rd
        have hkw := ((Keeps.refl (fun _ => False) w).drewN (q + q2)).any.trans hk
        have hkt := ((Hg.out.keep hkw (fun _ _ h => h)).kt)
        have hi2 : Into w a c ra rc := Into.of_nil (hi.mono (Nat.le_refl _))
        have hnx : ¬ InB x b := fun hh => by
          obtain ⟨o', ho'⟩ := hh
          have := Hx.out.lt ⟨o', ho'⟩
          subst hra
          rcases hi with ⟨h', _⟩ | ⟨h', _⟩ | ⟨b', h', hb'⟩
          · cases h'
          · cases h'
          · cases h'; have h5 : w.heap.size ≤ b := hb'; omega
        have hny : ¬ InB y b := fun hh => by
          obtain ⟨o', ho'⟩ := hh
          have := Hy.out.lt ⟨o', ho'⟩
          subst hra
          rcases hi with ⟨h', _⟩ | ⟨h', _⟩ | ⟨b', h', hb'⟩
          · cases h'
          · cases h'
          · cases h'; have h5 : w.heap.size ≤ b := hb'; omega
        have HF := hid (Fin.out w2 ra rc b o M 0 hra hb hw h1 h2 h3 hi2 hkw hnx hny w2 rfl)
        have Hi2 := hid hi2
        clear hm hra hb hw hi hk hkw hi2 hnx hny
        go_wp2_with fail
        refine HF.out.mono ?_
        rintro e w3 ⟨R, r1, rfl, r2, r3, r4⟩
        have Hr2 := hid r2; have Hr3 := hid r3; have Hr4 := hid r4
        clear r1 r2 r3 r4
        go_wp2_with fail
        refine (norm_any _ _ _ _ _ Hr2.out).mono ?_
        rintro e w4 ⟨nn, rfl, hr, hnl, rfl⟩
        have Hr := hid hr
        clear hr
        go_wp2_with fail
        go_ret
        refine ⟨_, _, _, rfl, ?_, Hi2.out, Hr4.out⟩
        rw [← Hr3.out, ← trimZ_eq_words Hr2.out.words]
        exact Hr.out
      | false =>
        have Hs1 := hid hs1; have Hs2 := hid hs2
        clear hs1 hs2
        go_enter Tryz.func236, Tryz.ntmps236
        go_wp2_with fail
        refine (alias_any a l c L x xl xc (words m) _ H.out Hx.out Hax.out).mono ?_
        rintro e w1 ⟨rfl, q, rfl⟩
        rw [Hs1.out]
        go_wp2_with fail
        refine (alias_any a l c L y yl yc (words n) _ (H.out.drewN q) (Hy.out.drewN q) Hay.out).mono ?_
        rintro e w1 ⟨rfl, q2, rfl⟩
        rw [Hs2.out]
        go_wp2_with fail
        refine (make_any a l c (xl + yl) L _ (H.out.drewN (q + q2)) (by omega) (by omega)).mono ?_
        rintro e w2 ⟨ra, rc, rfl, hm⟩
        obtain ⟨b, o, M, hra, hb, hw, h1, h2, h3, hi, hk⟩ := hm.rd
        have hkw := ((Keeps.refl (fun _ => False) w).drewN (q + q2)).any.trans hk
        have hkt := ((Hg.out.keep hkw (fun _ _ h => h)).kt)
        have hi2 : Into w a c ra rc := hi.mono (Nat.le_refl _)
        have hnx : ¬ InB x b := not_shares Hs1.out Hax.out hi2 hra (by omega) (fun k hk => Hx.out.lt hk)
        have hny : ¬ InB y b := not_shares Hs2.out Hay.out hi2 hra (by omega) (fun k hk => Hy.out.lt hk)
        have HF := hid (Fin.out w2 ra rc b o M 0 hra hb hw h1 h2 h3 hi2 hkw hnx hny w2 rfl)
        have Hi2 := hid hi2
        clear hm hra hb hw hi hk hkw hi2 hnx hny
        go_wp2_with fail
        refine HF.out.mono ?_
        rintro e w3 ⟨R, r1, rfl, r2, r3, r4⟩
        have Hr2 := hid r2; have Hr3 := hid r3; have Hr4 := hid r4
        clear r1 r2 r3 r4
        go_wp2_with fail
        refine (norm_any _ _ _ _ _ Hr2.out).mono ?_
        rintro e w4 ⟨nn, rfl, hr, hnl, rfl⟩
        have Hr := hid hr
        clear hr
        go_wp2_with fail
        go_ret
        refine ⟨_, _, _, rfl, ?_, Hi2.out, Hr4.out⟩
        rw [← Hr3.out, ← trimZ_eq_words Hr2.out.words]
        exact Hr.out

theorem mul_any (a : Option Addr) (l c : Nat) (L : List Nat) (sp : Option Addr) (x : Option Addr) (xl xc : Nat) (m : Nat) (y : Option Addr) (yl yc : Nat) (n : Nat) (w : World)
    (hg : Glob w) (h : Rd w a l c L) (hx : Rd w x xl xc (words m)) (hy : Rd w y yl yc (words n)) (hxl : xl < 40) (hyl : yl < 40) (hax : Al a c x xc) (hay : Al a c y yc) :
    Calls Tryz.prog 236 #[.slice a l c, .pointer sp, .slice x xl xc, .slice y yl yc] w (NatRes w a c (m * n)) := by
  by_cases hle : yl ≤ xl
  · exact mul_ge a l c L sp x xl xc m y yl yc n w hg h hx hy (by omega) hle hyl hax hay
  · have H := mul_ge a l c L sp y yl yc n x xl xc m w hg h hy hx (by omega) (by omega) hxl hay hax
    rw [Nat.mul_comm] at H
    have HH := hid H
    have h1 := hx.len_le; have h2 := hy.len_le
    unfold LIM at h1 h2
    clear H h hx hy hax hay hg
    have hlt : decide (xl < yl) = true := by simp; omega
    go_enter Tryz.func236, Tryz.ntmps236
    go_wp2_with fail
    refine HH.out.mono ?_
    rintro e w1 ⟨ra, rl, rc, rfl, hr⟩
    go_wp2_with fail
    go_ret
    exact ⟨ra, rl, rc, rfl, hr⟩
end Go.Proofs
namespace Go.Proofs
open Go.RowKit
set_option maxHeartbeats 400000
set_option linter.unusedVariables false
set_option linter.unusedSimpArgs false
set_option maxRecDepth 100000

/-- A reader of a string, at place i. -/
def Rdr (w : World) (r : Nat) (s : ByteArray) (i : Nat) : Prop := ∃ k : Int, RowAt w r 218 [.string s, .int .i64 i, .int .i64 k]

theorem newReader_any (s : ByteArray) (w : World) :
    Calls Tryz.prog 215 #[.string s] w fun e w' => ∃ r, e = .returned (.pointer (some ⟨r, 0, none⟩)) ∧ w.heap.size ≤ r ∧ Rdr w' r s 0 ∧ Keeps (fun _ => False) w w' := by
  go_enter Tryz.func215, Tryz.ntmps215
  all_goals go_wp2_with fail
  go_ret
  exact ⟨_, rfl, Nat.le_refl _, ⟨-1, RowAt.new w 218 [.string s, .int .i64 0, .int .i64 (-1)]⟩, (Keeps.refl _ w).alloc _⟩

theorem Keeps.own {r : Nat} {w b : World} (h : Keeps (· = r) w b) (o : Nat) (v : Value) : Keeps (· = r) w (b.setCell ⟨r, o, none⟩ v) := h.setCell _ (.inl rfl) v
theorem Glob.ne_rdr {w : World} (h : Glob w) {r : Nat} {s : ByteArray} {i : Nat} (hr : Rdr w r s i) : ¬ GB r := by
  intro hk
  obtain ⟨k, hr⟩ := hr
  have c0 : w.cell? ⟨r, 0, none⟩ = some (.string s) := hr.cell 0
  obtain ⟨p, hp⟩ := h.eof
  rcases hk with rfl | rfl | rfl | rfl | rfl | rfl | rfl
  · rw [hp] at c0; cases c0
  · rw [h.bs] at c0; cases c0
  · rw [h.ks] at c0; cases c0
  · rw [h.kt] at c0; cases c0
  · rw [h.dr] at c0; cases c0
  · rw [h.lf] at c0; cases c0
  · rw [h.tz 0 (by omega)] at c0; cases c0
theorem Glob.in_rdr {w w' : World} (h : Glob w) {r : Nat} {s : ByteArray} {i : Nat} (hr : Rdr w r s i) (hk : Keeps (· = r) w w') : Glob w' :=
  h.keep hk (fun k hg hkr => h.ne_rdr hr (by subst hkr; exact hg))

theorem readByte_end (r : Nat) (s : ByteArray) (i : Nat) (w : World) (h : Rdr w r s i) (hs : s.size ≤ 2147483647) (hi : i = s.size) (G : Glob w) :
    Calls Tryz.prog 359 #[.pointer (some ⟨r, 0, none⟩)] w fun e w' => (∃ p, w.cell? ⟨0, 0, none⟩ = some p ∧ e = .returned (.tuple #[.int .u8 0, p])) ∧ Rdr w' r s i ∧ Keeps (· = r) w w' := by
  have hne : r ≠ 0 := fun hr => G.ne_rdr h (.inl hr)
  have hne' : (r == 0) = false := by simp [hne]
  obtain ⟨k, hr⟩ := h
  have c0 := hr.cell 0
  have c1 := hr.cell 1
  have c2 := hr.cell 2
  have f0 := hr.frozen 0
  have f1 := hr.frozen 1
  have f2 := hr.frozen 2
  obtain ⟨p, e0⟩ := G.eof
  simp only [List.getElem?_cons_zero, List.getElem?_cons_succ] at c0 c1 c2
  have H := hid hr; clear hr
  have H2 := hid G; clear G
  go_enter Tryz.func359, Tryz.ntmps359
  all_goals go_wp2_with fail
  all_goals go_quiet (fail)
  all_goals go_wp2_with fail
  all_goals go_quiet (fail)
  all_goals go_wp2_with fail
  go_ret2
  refine ⟨⟨_, e0, rfl⟩, ⟨-1, ?_⟩, ((((Keeps.refl _ w).own _ _).drewN _).drewN _)⟩
  subst hi
  exact (RowAt.set H.out 2 (.int .i64 (-1)))

theorem readByte_next (r : Nat) (s : ByteArray) (i : Nat) (w : World) (h : Rdr w r s i) (hs : s.size ≤ 2147483647) (hi : i < s.size) (G : Glob w) :
    Calls Tryz.prog 359 #[.pointer (some ⟨r, 0, none⟩)] w fun e w' => e = .returned (.tuple #[.int .u8 (s[i]'hi).toNat, .nilIface]) ∧ Rdr w' r s (i + 1) ∧ Keeps (· = r) w w' := by
  have hne : r ≠ 0 := fun hr => G.ne_rdr h (.inl hr)
  have hne' : (r == 0) = false := by simp [hne]
  obtain ⟨k, hr⟩ := h
  have c0 := hr.cell 0
  have c1 := hr.cell 1
  have c2 := hr.cell 2
  have f0 := hr.frozen 0
  have f1 := hr.frozen 1
  have f2 := hr.frozen 2
  have hd : decide ((s.size : Int) ≤ (i : Int)) = false := by simp; omega
  simp only [List.getElem?_cons_zero, List.getElem?_cons_succ] at c0 c1 c2
  have H := hid hr; clear hr
  have H2 := hid G; clear G
  go_enter Tryz.func359, Tryz.ntmps359
  all_goals go_wp2_with fail
  all_goals go_quiet (fail)
  all_goals go_wp2_with fail
  all_goals go_quiet (fail)
  all_goals go_wp2_with fail
  go_ret2
  exact ⟨rfl, ⟨-1, RowAt.set (RowAt.set H.out 2 (.int .i64 (-1))) 1 (.int .i64 ((i:Int) + 1))⟩, (((Keeps.refl _ w).own _ _).drewN _).own _ _⟩

theorem unreadByte_any (r : Nat) (s : ByteArray) (i : Nat) (w : World) (h : Rdr w r s (i + 1)) (hs : s.size ≤ 2147483647) (hi : i < s.size) :
    Calls Tryz.prog 360 #[.pointer (some ⟨r, 0, none⟩)] w fun e w' => e = .returned .nilIface ∧ Rdr w' r s i ∧ Keeps (· = r) w w' := by
  obtain ⟨k, hr⟩ := h
  have c0 := hr.cell 0
  have c1 := hr.cell 1
  have c2 := hr.cell 2
  have f0 := hr.frozen 0
  have f1 := hr.frozen 1
  have f2 := hr.frozen 2
  have hd : decide ((i : Int) + 1 ≤ 0) = false := by simp
  simp only [List.getElem?_cons_zero, List.getElem?_cons_succ, Int.natCast_add, Int.cast_ofNat_Int] at c0 c1 c2
  have H := hid hr; clear hr
  go_enter Tryz.func360, Tryz.ntmps360
  all_goals go_wp2_with fail
  go_ret
  exact ⟨rfl, ⟨-1, RowAt.set (RowAt.set H.out 2 (.int .i64 (-1))) 1 (.int .i64 (i:Int))⟩, ((Keeps.refl _ w).own _ _).own _ _⟩


theorem me_read (a : Addr) (w : World) : (method 406 171 (.pointer (some a)) "ReadByte").run Tryz.prog w = .ok (359, .pointer (some a)) w := by kernel_rfl
theorem me_unread (a : Addr) (w : World) : (method 406 171 (.pointer (some a)) "UnreadByte").run Tryz.prog w = .ok (360, .pointer (some a)) w := by kernel_rfl

theorem readByte_c (r : Nat) (s : ByteArray) (i : Nat) (w : World) (h : Rdr w r s i) (hs : s.size ≤ 2147483647) (hi : i < s.size) (G : Glob w) (c : Int) (hc : ((s[i]'hi).toNat : Int) = c) :
    Calls Tryz.prog 359 #[.pointer (some ⟨r, 0, none⟩)] w fun e w' => e = .returned (.tuple #[.int .u8 c, .nilIface]) ∧ Rdr w' r s (i + 1) ∧ Keeps (· = r) w w' := by
  subst hc
  exact readByte_next r s i w h hs hi G

theorem scanSign_neg (r : Nat) (s : ByteArray) (i : Nat) (w : World) (h : Rdr w r s i) (hs : s.size ≤ 2147483647) (hi : i < s.size) (G : Glob w) (hm : ((s[i]'hi).toNat : Int) = 45) :
    Calls Tryz.prog 287 #[.iface 171 (.pointer (some ⟨r, 0, none⟩))] w fun e w' => e = .returned (.tuple #[.bool true, .nilIface]) ∧ Rdr w' r s (i + 1) ∧ Keeps (· = r) w w' := by
  have H := hid h; clear h
  have H2 := hid G; clear G
  have H3 := hid hm; clear hm
  have hme := me_read ⟨r, 0, none⟩
  go_enter Tryz.func287, Tryz.ntmps287
  go_wp2_with fail
  refine (readByte_c r s i _ H.out hs hi H2.out 45 H3.out).mono ?_
  rintro e w1 ⟨rfl, h1, h2⟩
  have h1 := hid h1
  have h2 := hid h2
  go_wp2_with fail
  go_ret2
  exact ⟨rfl, h1.out, h2.out⟩

theorem scanSign_dig (r : Nat) (s : ByteArray) (i : Nat) (w : World) (h : Rdr w r s i) (hs : s.size ≤ 2147483647) (hi : i < s.size) (G : Glob w) (c : Int) (hm : ((s[i]'hi).toNat : Int) = c) (hc : c ≠ 45) (hc' : c ≠ 43) :
    Calls Tryz.prog 287 #[.iface 171 (.pointer (some ⟨r, 0, none⟩))] w fun e w' => e = .returned (.tuple #[.bool false, .nilIface]) ∧ Rdr w' r s i ∧ Keeps (· = r) w w' := by
  have H := hid h; clear h
  have H2 := hid G; clear G
  have H3 := hid hm; clear hm
  have t1 : (c == 45) = false := by simpa using hc
  have t2 : (c == 43) = false := by simpa using hc'
  have hme := me_read ⟨r, 0, none⟩
  have hmu := me_unread ⟨r, 0, none⟩
  go_enter Tryz.func287, Tryz.ntmps287
  go_wp2_with fail
  refine (readByte_c r s i _ H.out hs hi H2.out c H3.out).mono ?_
  rintro e w1 ⟨rfl, h1, h2⟩
  have h1 := hid h1
  have h2 := hid h2
  go_wp2_with fail
  refine (unreadByte_any r s i _ h1.out hs hi).mono ?_
  rintro e w2 ⟨rfl, h3, h4⟩
  have h3 := hid h3
  have h4 := hid h4
  go_wp2_with fail
  go_ret2
  exact ⟨rfl, h3.out, h2.out.trans h4.out⟩
end Go.Proofs
namespace Go.Proofs
open Go.RowKit
set_option maxHeartbeats 400000
set_option linter.unusedVariables false
set_option linter.unusedSimpArgs false
set_option maxRecDepth 100000

/-- maxPow's loop: p = b^n. -/
def MpRel (b : Nat) (w0 w : World) (p n : Value) : Prop := ∃ k : Nat, 1 ≤ k ∧ k ≤ 64 ∧ b ^ k < W64 ∧ p = .int .u64 ((b ^ k : Nat) : Int) ∧ n = .int .i64 (k : Int) ∧ w = w0

theorem pow_lt_k {b k : Nat} (hb : 2 ≤ b) (h : b ^ k < W64) : k ≤ 63 := by
  by_cases hk : k ≤ 63
  · exact hk
  · exfalso
    have h1 : 2 ^ 64 ≤ 2 ^ k := Nat.pow_le_pow_right (by omega) (by omega)
    have h2 : 2 ^ k ≤ b ^ k := Nat.pow_le_pow_left hb k
    unfold W64 at h
    omega

theorem maxPow_any (b N : Nat) (w : World) (hb : 2 ≤ b) (hN : b ^ N < W64) (hN' : W64 ≤ b ^ (N + 1)) (hbl : b ≤ 62) :
    Calls Tryz.prog 252 #[.int .u64 (b : Int)] w fun e w' => e = .returned (.tuple #[.int .u64 ((b ^ N : Nat) : Int), .int .i64 (N : Int)]) ∧ w' = w := by
  obtain ⟨M, hM⟩ : ∃ M, M = 18446744073709551615 / b := ⟨_, rfl⟩
  have hq : (18446744073709551615 : Int).tdiv (b : Int) = (M : Int) := by
    rw [hM]
    exact (Int.ofNat_tdiv 18446744073709551615 b).symm
  have hb0 : ((b : Int) == 0) = false := by simp; omega
  have hMl : M < W64 := by rw [hM]; unfold W64; exact Nat.lt_of_le_of_lt (Nat.div_le_self _ _) (by omega)
  have hwq : IntKind.u64.wrap (M : Int) = (M : Int) := u64_wrap M hMl
  have H1 := hid hN; have H2 := hid hN'; have H3 := hid hM; have H4 := hid hMl
  clear hN hN' hM hMl
  go_enter Tryz.func252, Tryz.ntmps252
  go_wp2_with fail
  go_loopw [2, 3] (fun p n wr => MpRel b w wr p n) (fun p n _ => 100 - (intOf n).toNat)
  case atStart => exact ⟨1, by omega, by omega, by rw [Nat.pow_one]; unfold W64; omega, by rw [Nat.pow_one], rfl, rfl⟩
  case round =>
    obtain ⟨k, hk1, hk2, hlt, rfl, rfl, rfl⟩ := hrel
    obtain ⟨p, hp⟩ : ∃ p, p = b ^ k := ⟨_, rfl⟩
    rw [← hp]
    rw [← hp] at hlt
    have Hp := hid hp; have Hlt := hid hlt
    clear hp hlt
    by_cases hle : p ≤ M
    · have ht : decide ((p : Int) ≤ (M : Int)) = true := by simp; exact hle
      have hpb : p * b < W64 := by
        have h1 : p * b ≤ M * b := Nat.mul_le_mul_right b hle
        have h2 : M * b ≤ 18446744073709551615 := by rw [H3.out]; exact Nat.div_mul_le_self _ _
        unfold W64; omega
      have hw : IntKind.u64.wrap ((p : Int) * (b : Int)) = ((p * b : Nat) : Int) := by rw [← Int.natCast_mul]; exact u64_wrap _ hpb
      have Hpb := hid hpb
      clear hpb
      go_wp2_with fail
      have hps : p * b = b ^ (k + 1) := by rw [Nat.pow_succ, ← Hp.out]
      have hlt' : b ^ (k + 1) < W64 := by rw [← hps]; exact Hpb.out
      have hk63 := pow_lt_k hb hlt'
      refine ⟨⟨k + 1, by omega, by omega, hlt', by rw [← hps, Int.natCast_mul], by simp, rfl⟩, by simp [intOf]; omega⟩
    · have ht : decide ((p : Int) ≤ (M : Int)) = false := by simp; omega
      go_wp2_with fail
      go_ret2
      have hgt : W64 ≤ b ^ (k + 1) := by
        rw [Nat.pow_succ, ← Hp.out]
        have h1 : (M + 1) * b ≤ p * b := Nat.mul_le_mul_right b (by omega)
        have h2 : 18446744073709551615 < (M + 1) * b := by rw [H3.out, Nat.mul_comm]; exact Nat.lt_mul_div_succ _ (by omega)
        unfold W64; omega
      have hkN : k = N := by
        rcases Nat.lt_trichotomy k N with h | h | h
        · exfalso
          have := Nat.pow_le_pow_right (show 0 < b by omega) (show k + 1 ≤ N by omega)
          have := H1.out
          omega
        · exact h
        · exfalso
          have := Nat.pow_le_pow_right (show 0 < b by omega) (show N + 1 ≤ k by omega)
          have := H2.out
          have := Hlt.out
          rw [Hp.out] at this
          omega
      subst hkN
      rw [Hp.out]
      exact ⟨rfl, rfl⟩

theorem u64_wrapM (a : Nat) : IntKind.u64.wrap (a : Int) = ((a % W64 : Nat) : Int) := by unfold W64; rw [IntKind.wrap_u64]; omega
theorem i64_and1 (n : Int) : bits .and .i64 n 1 = n % 2 := by
  have h127 : (BitVec.ofInt 64 1).toNat = 2 ^ 1 - 1 := by decide
  have key : (BitVec.ofInt 64 n &&& BitVec.ofInt 64 1).toNat = (n % ((2 ^ 64 : Nat) : Int)).toNat % 2 ^ 1 := by
    rw [BitVec.toNat_and, BitVec.toNat_ofInt, h127, Nat.and_two_pow_sub_one_eq_mod]
  show IntKind.i64.wrap ((BitVec.ofInt 64 n &&& BitVec.ofInt 64 1).toNat : Nat) = n % 2
  rw [key, IntKind.wrap_i64]
  omega
theorem pow_sq_mod (p y q W : Nat) : (p * (y * y % W) ^ q) % W = (p * y ^ (2 * q)) % W := by
  rw [Nat.pow_mul, Nat.pow_two, Nat.mul_mod, ← Nat.pow_mod, ← Nat.mul_mod]
theorem pow_sq_mod' (p y q W : Nat) : ((p * y % W) * (y * y % W) ^ q) % W = (p * y ^ (2 * q + 1)) % W := by
  rw [Nat.pow_succ, Nat.mul_comm (y ^ (2 * q)) y, ← Nat.mul_assoc, Nat.pow_mul, Nat.pow_two, Nat.mul_mod, Nat.mod_mod, ← Nat.pow_mod, ← Nat.mul_mod]

/-- pow's loop, modulo 2^64. -/
def PwRel (x n : Nat) (w0 w : World) (xv nv pv : Value) : Prop := ∃ y m p : Nat, y < W64 ∧ p < W64 ∧ m ≤ n ∧ (p * y ^ m) % W64 = x ^ n % W64 ∧ xv = .int .u64 (y : Int) ∧ nv = .int .i64 (m : Int) ∧ pv = .int .u64 (p : Int) ∧ w = w0

theorem pow_any (x n : Nat) (w : World) (hx : x < W64) (hn : n ≤ 1000) :
    Calls Tryz.prog 317 #[.int .u64 (x : Int), .int .i64 (n : Int)] w fun e w' => e = .returned (.int .u64 ((x ^ n % W64 : Nat) : Int)) ∧ w' = w := by
  have Hx := hid hx
  clear hx
  go_enter Tryz.func317, Tryz.ntmps317
  go_wp2_with fail
  go_loopw [0, 1, 4] (fun xv nv pv wr => PwRel x n w wr xv nv pv) (fun _ nv _ _ => (intOf nv).toNat)
  case atStart => exact ⟨x, n, 1, Hx.out, by unfold W64; omega, Nat.le_refl _, by rw [Nat.one_mul], rfl, rfl, rfl, rfl⟩
  case round =>
    obtain ⟨y, m, p, hy, hp, hm, hi, rfl, rfl, rfl, rfl⟩ := hrel
    have Hy := hid hy; have Hp := hid hp; have Hi := hid hi
    clear hy hp hi
    by_cases h0 : m = 0
    · subst h0
      go_wp2_with fail
      go_ret
      have := Hi.out
      rw [Nat.pow_zero, Nat.mul_one, Nat.mod_eq_of_lt Hp.out] at this
      rw [← this]
      exact ⟨rfl, rfl⟩
    · have ht : decide ((0 : Int) < (m : Int)) = true := by simp; omega
      have hw1 : IntKind.u64.wrap ((p : Int) * (y : Int)) = ((p * y % W64 : Nat) : Int) := by rw [← Int.natCast_mul]; exact u64_wrapM _
      have hw2 : IntKind.u64.wrap ((y : Int) * (y : Int)) = ((y * y % W64 : Nat) : Int) := by rw [← Int.natCast_mul]; exact u64_wrapM _
      rcases Nat.mod_two_eq_zero_or_one m with hp | hp
      · have hb : ((bits BinOp.and IntKind.i64 (m : Int) 1 != 0) = true) = False := by rw [i64_and1]; simp; omega
        have hb' : (bits BinOp.and IntKind.i64 (m : Int) 1 != 0) = false := by rw [i64_and1]; simp; omega
        go_wp2_with fail
        refine ⟨⟨y * y % W64, m / 2, p, Nat.mod_lt _ W64_pos, Hp.out, by omega, ?_, ?_, ?_, rfl, rfl⟩, by simp [intOf]; omega⟩
        · rw [pow_sq_mod, show 2 * (m / 2) = m from by omega]; exact Hi.out
        · rw [Int.natCast_emod, Int.natCast_mul]
        · rfl
      · have hb' : (bits BinOp.and IntKind.i64 (m : Int) 1 != 0) = true := by rw [i64_and1]; simp; omega
        go_wp2_with fail
        refine ⟨⟨y * y % W64, m / 2, p * y % W64, Nat.mod_lt _ W64_pos, Nat.mod_lt _ W64_pos, by omega, ?_, ?_, ?_, ?_, rfl⟩, by simp [intOf]; omega⟩
        · rw [pow_sq_mod', show 2 * (m / 2) + 1 = m from by omega]; exact Hi.out
        · rw [Int.natCast_emod, Int.natCast_mul]
        · rfl
        · rw [Int.natCast_emod, Int.natCast_mul]
end Go.Proofs
namespace Go.Proofs
open Go.RowKit
set_option maxHeartbeats 400000
set_option linter.unusedVariables false
set_option linter.unusedSimpArgs false
set_option maxRecDepth 100000

/-- The value of the first n digits of d. -/
def dval (d : Nat → Nat) : Nat → Nat
  | 0 => 0
  | n + 1 => 10 * dval d n + d n

theorem dval_lt {d : Nat → Nat} : ∀ {n : Nat}, (∀ k, k < n → d k < 10) → dval d n < 10 ^ n
  | 0, _ => by simp [dval]
  | n + 1, h => by
    have h1 := dval_lt (n := n) (fun k hk => h k (by omega))
    have h2 := h n (by omega)
    rw [dval, Nat.pow_succ]
    omega

theorem words_len11 {N k : Nat} (h : N < 10 ^ k) (hk : k ≤ 200) : (words N).length ≤ 11 := by
  apply words_lt
  have h1 : 10 ^ k ≤ 10 ^ 200 := Nat.pow_le_pow_right (by omega) hk
  have h2 : 10 ^ 200 < W64 ^ 11 := by unfold W64; decide
  omega

/-- From place i on s holds just the n digits d. -/
def DigAt (s : ByteArray) (i n : Nat) (d : Nat → Nat) : Prop :=
  i + n = s.size ∧ ∀ k, k < n → d k < 10 ∧ ∃ h : i + k < s.size, ((s[i + k]'h).toNat : Int) = 48 + (d k : Int)

theorem Rdr.keep {w w' : World} {S : Nat → Prop} {r : Nat} {s : ByteArray} {i : Nat} (h : Rdr w r s i) (hk : Keeps S w w') (hn : ¬ S r) : Rdr w' r s i := by
  obtain ⟨k, h⟩ := h
  exact ⟨k, hk.row h hn⟩
theorem Rdr.lt {w : World} {r : Nat} {s : ByteArray} {i : Nat} (h : Rdr w r s i) : r < w.heap.size := by
  obtain ⟨k, h⟩ := h
  exact h.lt

/-- What the reader gives at digit k: the digit, or the end. -/
def AtDig (eof : Value) (w : World) (r : Nat) (s : ByteArray) (i n : Nat) (d : Nat → Nat) (k : Nat) (err ch : Value) : Prop :=
  (k < n ∧ err = .nilIface ∧ ch = .int .u8 (48 + (d k : Int)) ∧ Rdr w r s (i + k + 1)) ∨ (k = n ∧ err = eof ∧ ch = .int .u8 0 ∧ Rdr w r s (i + n))

theorem readByte_dig (r : Nat) (s : ByteArray) (i n : Nat) (d : Nat → Nat) (k : Nat) (w : World) (h : Rdr w r s (i + k)) (hs : s.size ≤ 2147483647) (hd : DigAt s i n d) (hk : k ≤ n) (G : Glob w) (eof : Value) (he : w.cell? ⟨0, 0, none⟩ = some eof) :
    Calls Tryz.prog 359 #[.pointer (some ⟨r, 0, none⟩)] w fun e w' => ∃ err ch, e = .returned (.tuple #[ch, err]) ∧ AtDig eof w' r s i n d k err ch ∧ Keeps (· = r) w w' := by
  obtain ⟨h1, h2⟩ := hd
  by_cases hlt : k < n
  · obtain ⟨h3, h4, h5⟩ := h2 k hlt
    refine (readByte_c r s (i + k) w h hs h4 G _ h5).mono ?_
    rintro e w' ⟨rfl, h6, h7⟩
    exact ⟨_, _, rfl, .inl ⟨hlt, rfl, rfl, h6⟩, h7⟩
  · have hkn : k = n := by omega
    subst hkn
    refine (readByte_end r s (i + k) w h hs h1 G).mono ?_
    rintro e w' ⟨⟨p, hp, rfl⟩, h6, h7⟩
    rw [he] at hp
    injection hp with hp
    subst hp
    exact ⟨_, _, rfl, .inr ⟨rfl, rfl, rfl, h6⟩, h7⟩

/-- The loop over the digits. -/
structure ScanRel (eof : Value) (w0 : World) (r : Nat) (s : ByteArray) (i n : Nat) (d : Nat → Nat) (w : World) (z count err prev ch wd j : Value) (k Z W jj : Nat) (ra : Option Addr) (rl rc : Nat) : Prop where
  hk : k ≤ n
  hz : z = .slice ra rl rc
  rd : Rd w ra rl rc (words Z)
  into : Into w0 none 0 ra rc
  count : count = .int .i64 (k : Int)
  prev : prev = .int .i32 46 ∨ prev = .int .i32 48
  wd : wd = .int .u64 (W : Int)
  j : j = .int .i64 (jj : Int)
  at_ : AtDig eof w r s i n d k err ch
  val : dval d k = Z * 10 ^ jj + W
  lt : W < 10 ^ jj
  jl : jj ≤ 18
  keeps : Keeps (· = r) w0 w

theorem results_tmp4 {fn : Func} {t u v x : Tmp} (h : fn.results = #[.tmp t, .tmp u, .tmp v, .tmp x]) (tmps : Array Value) (P : Program) (w : World) :
    (results fn tmps).run P w = .ok (.tuple #[tmps.getD t undef, tmps.getD u undef, tmps.getD v undef, tmps.getD x undef]) w := by
  simp [results, h]
theorem comp221 : (Tryz.prog.info? 221).map (·.comparable) = some true := by kernel_rfl
theorem size223 : (Tryz.prog.info? 223).map (·.size) = some 1 := by kernel_rfl
theorem eql_err (p : Addr) (W : World) : (binOp .eql 124 (.iface 221 (.pointer (some p))) (.iface 221 (.pointer (some p)))).run Tryz.prog W = .ok (.bool true) W := by
  obtain ⟨i, hi, hcmp⟩ := Option.map_eq_some_iff.1 comp221
  obtain ⟨j, hj, hjs⟩ := Option.map_eq_some_iff.1 size223
  exact run_eql_iface_ptr_same (P := Tryz.prog) W p Tryz.underlying124 Tryz.underlying221 hi hcmp hj

theorem scan_any (r : Nat) (s : ByteArray) (i n : Nat) (d : Nat → Nat) (w : World) (h : Rdr w r s i) (hs : s.size ≤ 200) (hd : DigAt s i n d) (hn : 0 < n) (G : Glob w) (p : Addr) (he : w.cell? ⟨0, 0, none⟩ = some (.iface 221 (.pointer (some p)))) :
    Calls Tryz.prog 288 #[.slice none 0 0, .iface 171 (.pointer (some ⟨r, 0, none⟩)), .int .i64 10, .bool false] w fun e w' =>
      ∃ ra rl rc, e = .returned (.tuple #[.slice ra rl rc, .int .i64 10, .int .i64 (n : Int), .nilIface]) ∧ Rd w' ra rl rc (words (dval d n)) ∧ Into w none 0 ra rc ∧ Rdr w' r s (i + n) ∧ Keeps (· = r) w w' := by
  have H := hid h; have HD := hid hd; have HG := hid G; have HE := hid he
  clear h hd G he
  have hme := me_read ⟨r, 0, none⟩
  have hmu := me_unread ⟨r, 0, none⟩
  have hdl : ∀ k, k ≤ n → dval d k < 10 ^ k := fun k hk => dval_lt (fun j hj => (HD.out.2 j (by omega)).1)
  have hn200 : n ≤ 200 := by have := HD.out.1; omega
  have HDL := hid hdl
  have hr0 : r ≠ 0 := fun hr => HG.out.ne_rdr H.out (.inl hr)
  clear hdl
  go_enter Tryz.func288, Tryz.ntmps288
  go_wp2_with fail
  refine (readByte_dig r s i n d 0 _ H.out (by omega) HD.out (Nat.zero_le _) HG.out _ HE.out).mono ?_
  rintro e w1 ⟨err, ch, rfl, h1, h2⟩
  have H1 := hid h1
  have H2 := hid h2
  clear h1 h2
  go_wp2_with fail
  refine (maxPow_any 10 19 _ (by omega) (by unfold W64; omega) (by unfold W64; omega) (by omega)).mono ?_
  rintro e w2 ⟨rfl, rfl⟩
  go_wp2_with fail
  go_loopw [0, 3, 10, 11, 13, 14, 15, 20, 21, 22] (fun z fr count err prev inv ch wd j dp wr => fr = .bool false ∧ inv = .bool false ∧ dp = .int .i64 (-1) ∧ ∃ k Z W jj ra rl rc, ScanRel (.iface 221 (.pointer (some p))) w r s i n d wr z count err prev ch wd j k Z W jj ra rl rc) (fun _ _ count err _ _ _ _ _ _ _ => 2 * n - (intOf count).toNat)
  case atStart => exact ⟨rfl, rfl, rfl, 0, 0, 0, 0, none, 0, 0, ⟨Nat.zero_le _, rfl, by rw [words_zero]; exact Rd.nil _, .inl ⟨rfl, rfl⟩, rfl, .inl rfl, rfl, rfl, H1.out, rfl, by omega, by omega, H2.out⟩⟩
  case round =>
    obtain ⟨rfl, rfl, rfl, k, Z, W, jj, ra, rl, rc, ⟨hk, rfl, hrd, hinto, rfl, hprev, rfl, rfl, hat, hval, hlt, hjl, hkeeps⟩⟩ := hrel
    have Hrd := hid hrd; have Hinto := hid hinto; have Hprev := hid hprev; have Hval := hid hval; have Hlt := hid hlt; have Hkeeps := hid hkeeps
    clear hrd hinto hprev hval hlt hkeeps
    rcases hat with ⟨hkn, rfl, rfl, hr⟩ | ⟨hkn, rfl, rfl, hr⟩
    · have Hr := hid hr
      clear hr
      obtain ⟨x, hx⟩ : ∃ x, x = d k := ⟨_, rfl⟩
      rw [← hx]
      have hx10 : x < 10 := by rw [hx]; exact (HD.out.2 k hkn).1
      have Hx := hid hx
      clear hx
      have t1 : ((48 + (x : Int)) == 46) = false := by simp; omega
      have t2 : ((48 + (x : Int)) == 95) = false := by simp; omega
      have t3 : decide ((48 : Int) ≤ 48 + (x : Int)) = true := by simp; omega
      have t4 : decide (48 + (x : Int) ≤ 57) = true := by simp; omega
      have w1 : IntKind.u8.wrap (48 + (x : Int) - 48) = (x : Int) := by rw [IntKind.wrap_u8]; omega
      have w2 : IntKind.u64.wrap (x : Int) = (x : Int) := u64_wrap x (by unfold W64; omega)
      have t5 : decide ((10 : Int) ≤ (x : Int)) = false := by simp; omega
      have hW : W * 10 + x < 10 ^ (jj + 1) := by have := Hlt.out; rw [Nat.pow_succ]; omega
      have hW64 : W * 10 + x < W64 := by
        have : 10 ^ (jj + 1) ≤ 10 ^ 19 := Nat.pow_le_pow_right (by omega) (by omega)
        unfold W64; omega
      obtain ⟨V, hV⟩ : ∃ V, V = W * 10 + x := ⟨_, rfl⟩
      have w4 : IntKind.u64.wrap ((W : Int) * 10 + (x : Int)) = (V : Int) := by have := u64_wrap V (by omega); rw [hV] at this ⊢; simpa using this
      have w4' : IntKind.u64.wrap (IntKind.u64.wrap ((W : Int) * 10) + (x : Int)) = (V : Int) := by have h1 := u64_wrap (W * 10) (by omega); have := u64_wrap V (by omega); rw [hV] at this ⊢; simp at h1 this; rw [h1]; exact this
      have hk200 : k < 200 := by omega
      have HV := hid hV
      have HW : Hid (V < 10 ^ (jj + 1)) := hid (by rw [hV]; exact hW)
      have HW64 : Hid (V < W64) := hid (by rw [hV]; exact hW64)
      have hdv : dval d (k + 1) = Z * 10 ^ (jj + 1) + V := by
        rw [dval, Hval.out, hV, ← Hx.out, Nat.pow_succ, Nat.mul_add, ← Nat.mul_assoc Z, Nat.mul_comm 10 (Z * 10 ^ jj)]
        omega
      have hrl : rl ≤ 11 := by
        rw [← Hrd.out.length]
        have h1 := HDL.out k hk
        have h2 : Z * 1 ≤ Z * 10 ^ jj := Nat.mul_le_mul_left Z (Nat.one_le_pow _ _ (by omega))
        have h3 := Hval.out
        exact words_len11 (k := k) (by omega) (by omega)
      have HDV := hid hdv
      clear hW hW64 hV hdv
      by_cases h19 : jj = 18
      · subst h19
        go_wp2_with fail
        refine (mulAddWW_any ra rl rc _ ra rl rc _ 10000000000000000000 V _ Hrd.out Hrd.out (by omega) (by unfold W64; omega) HW64.out (Al.refl _ _)).mono ?_
        rintro e w3 ⟨ra', rl', rc', rfl, hrd', hinto', hkeeps'⟩
        have Hrd' := hid hrd'; have Hinto' := hid hinto'; have Hkeeps' := hid hkeeps'
        clear hrd' hinto' hkeeps'
        have hrnb : ¬ InB ra r := by
          intro hh
          rcases Hinto.out.inB hh with ⟨o, ho⟩ | hge
          · cases ho
          · have := H.out.lt; omega
        have hkk : Keeps (· = r) w w3 := Hkeeps.out.trans' Hkeeps'.out (fun i hi hh => by
          rcases Hinto.out.inB hh with ⟨o, ho⟩ | hge
          · cases ho
          · omega)
        have HK := hid hkk
        have HR3 := hid (Hr.out.keep Hkeeps'.out hrnb)
        have HE3 := hid ((cell_of_block (p := ⟨0, 0, none⟩) (hkk.block 0 (HG.out.lt (.inl rfl)) (Ne.symm hr0))).trans HE.out)
        have HG3 := hid (HG.out.in_rdr H.out hkk)
        clear hkk hrnb
        go_wp2_with fail
        refine (readByte_dig r s i n d (k + 1) _ (by have := HR3.out; rwa [Nat.add_assoc] at this) (by omega) HD.out (by omega) HG3.out _ HE3.out).mono ?_
        rintro e w5 ⟨err', ch', rfl, h5, h6⟩
        have H5 := hid h5
        have H6 := hid h6
        clear h5 h6
        go_wp2_with fail
        have hi2 : Into w none 0 ra' rc' := Hinto.out.trans Hinto'.out Hkeeps.out.size
        have hnr : ∀ k, InB ra' k → ¬ (k = r) := by
          rintro k hh rfl
          rcases hi2.inB hh with ⟨o, ho⟩ | hge
          · cases ho
          · have := H.out.lt; omega
        refine ⟨⟨rfl, rfl, rfl, k + 1, Z * 10 ^ 19 + V, 0, 0, ra', rl', rc', ⟨hkn, rfl, ?_, hi2, by simp, .inr rfl, rfl, rfl, H5.out, ?_, by omega, by omega, HK.out.trans H6.out⟩⟩, by simp [intOf]; omega⟩
        · have := Hrd'.out.keep H6.out hnr
          rw [val_words] at this
          exact this
        · rw [HDV.out]; simp
      · have t6 : (((jj : Int) + 1) == 19) = false := by simp; omega
        go_wp2_with fail
        have HE3 := hid ((cell_of_block (p := ⟨0, 0, none⟩) (Hkeeps.out.block 0 (HG.out.lt (.inl rfl)) (Ne.symm hr0))).trans HE.out)
        have HG3 := hid (HG.out.in_rdr H.out Hkeeps.out)
        refine (readByte_dig r s i n d (k + 1) _ (by have := Hr.out; rwa [Nat.add_assoc] at this) (by omega) HD.out (by omega) HG3.out _ HE3.out).mono ?_
        rintro e w5 ⟨err', ch', rfl, h5, h6⟩
        have H5 := hid h5
        have H6 := hid h6
        clear h5 h6
        go_wp2_with fail
        have hnr : ∀ k, InB ra k → ¬ (k = r) := by
          rintro k hh rfl
          rcases Hinto.out.inB hh with ⟨o, ho⟩ | hge
          · cases ho
          · have := H.out.lt; omega
        refine ⟨⟨rfl, rfl, rfl, k + 1, Z, V, jj + 1, ra, rl, rc, ⟨hkn, rfl, Hrd.out.keep H6.out hnr, Hinto.out, by simp, .inr rfl, by simp, by simp, H5.out, HDV.out, HW.out, by omega, Hkeeps.out.trans H6.out⟩⟩, by simp [intOf]; omega⟩
    · have hr := hid hr
      have HE3 := (cell_of_block (p := ⟨0, 0, none⟩) (Hkeeps.out.block 0 (HG.out.lt (.inl rfl)) (Ne.symm hr0))).trans HE.out
      have hw64 : 10 ^ jj < W64 := by
        have : 10 ^ jj ≤ 10 ^ 18 := Nat.pow_le_pow_right (by omega) (by omega)
        unfold W64; omega
      have HW64 := hid hw64
      clear hw64
      have hnr : ∀ k, InB ra k → ¬ (k = r) := by
        rintro k hh rfl
        rcases Hinto.out.inB hh with ⟨o, ho⟩ | hge
        · cases ho
        · have := H.out.lt; omega
      have HNR := hid hnr
      clear hnr
      have tk : ((k : Int) == 0) = false := by simp; omega
      have qE := eql_err p
      have hdn := Hval.out
      have hrl : rl ≤ 11 := by
        rw [← Hrd.out.length]
        have h1 := HDL.out k hk
        have h2 : Z * 1 ≤ Z * 10 ^ jj := Nat.mul_le_mul_left Z (Nat.one_le_pow _ _ (by omega))
        exact words_len11 (k := k) (by omega) (by omega)
      have Fin : ∀ (wf : World) (ra' : Option Addr) (rl' rc' : Nat), NatRes wr ra rc (val (words Z) * 10 ^ jj + W) (.returned (.slice ra' rl' rc')) wf → 
          ∃ ra2 rl2 rc2, Ending.returned (.tuple #[.slice ra' rl' rc', .int .i64 10, .int .i64 (n : Int), .nilIface]) = .returned (.tuple #[.slice ra2 rl2 rc2, .int .i64 10, .int .i64 (n : Int), .nilIface]) ∧ Rd wf ra2 rl2 rc2 (words (dval d n)) ∧ Into w none 0 ra2 rc2 ∧ Rdr wf r s (i + n) ∧ Keeps (· = r) w wf := by
        rintro wf ra' rl' rc' ⟨ra2, rl2, rc2, h1, h2, h3, h4⟩
        cases h1
        refine ⟨_, _, _, rfl, ?_, Hinto.out.trans h3 Hkeeps.out.size, hr.out.keep h4 ?_, Hkeeps.out.trans' h4 ?_⟩
        · rw [val_words, ← hdn, hkn] at h2; exact h2
        · exact fun hh => HNR.out r hh rfl
        · intro i hi hh
          rcases Hinto.out.inB hh with ⟨o, ho⟩ | hge
          · cases ho
          · omega
      have HFin := hid Fin
      have hlt2 := Hlt.out
      have HZ : Hid (jj = 0 → NatRes wr ra rc (val (words Z) * 10 ^ jj + W) (.returned (.slice ra rl rc)) wr) := hid (fun h0 => by
        subst h0
        have : W = 0 := by simpa using hlt2
        subst this
        rw [val_words]
        simp only [Nat.pow_zero, Nat.mul_one, Nat.add_zero]
        exact ⟨_, _, _, rfl, Hrd.out, Into.refl _ _ _, Keeps.refl _ _⟩)
      clear hdn Fin hlt2
      by_cases hj0 : jj = 0
      · subst hj0
        rcases Hprev.out with rfl | rfl
        · go_wp2_with fail
          refine bodyPost_ret (results_tmp4 rfl _ _ _) rfl ?_
          exact HFin.out _ _ _ _ (HZ.out (by first | rfl | trivial))
        · go_wp2_with fail
          refine bodyPost_ret (results_tmp4 rfl _ _ _) rfl ?_
          exact HFin.out _ _ _ _ (HZ.out (by first | rfl | trivial))
      · have tj : decide ((0 : Int) < (jj : Int)) = true := by simp; omega
        have hpw : 10 ^ jj % W64 = 10 ^ jj := Nat.mod_eq_of_lt HW64.out
        have Hpw := hid hpw
        clear hpw
        have HWl := hid (Nat.lt_trans Hlt.out HW64.out)
        rcases Hprev.out with rfl | rfl
        · go_wp2_with fail
          refine (pow_any 10 jj _ (by unfold W64; omega) (by omega)).mono ?_
          rintro e w3 ⟨rfl, rfl⟩
          rw [Hpw.out]
          go_wp2_with fail
          refine (mulAddWW_any ra rl rc _ ra rl rc _ (10 ^ jj) W _ Hrd.out Hrd.out (by omega) HW64.out HWl.out (Al.refl _ _)).mono ?_
          rintro e w3 ⟨ra', rl', rc', rfl, h3, h4, h5⟩
          have h3 := hid h3; have h4 := hid h4; have h5 := hid h5
          go_wp2_with fail
          refine bodyPost_ret (results_tmp4 rfl _ _ _) rfl ?_
          exact HFin.out _ _ _ _ ⟨_, _, _, rfl, h3.out, h4.out, h5.out⟩
        · go_wp2_with fail
          refine (pow_any 10 jj _ (by unfold W64; omega) (by omega)).mono ?_
          rintro e w3 ⟨rfl, rfl⟩
          rw [Hpw.out]
          go_wp2_with fail
          refine (mulAddWW_any ra rl rc _ ra rl rc _ (10 ^ jj) W _ Hrd.out Hrd.out (by omega) HW64.out HWl.out (Al.refl _ _)).mono ?_
          rintro e w3 ⟨ra', rl', rc', rfl, h3, h4, h5⟩
          have h3 := hid h3; have h4 := hid h4; have h5 := hid h5
          go_wp2_with fail
          refine bodyPost_ret (results_tmp4 rfl _ _ _) rfl ?_
          exact HFin.out _ _ _ _ ⟨_, _, _, rfl, h3.out, h4.out, h5.out⟩
end Go.Proofs
namespace Go.Proofs
open Go.RowKit
set_option maxHeartbeats 400000
set_option linter.unusedVariables false
set_option linter.unusedSimpArgs false
set_option maxRecDepth 100000

/-- The text of a number: a minus or not, then n digits, and no more. -/
structure NumText (s : ByteArray) (neg : Bool) (n : Nat) (d : Nat → Nat) : Prop where
  size : s.size ≤ 200
  pos : 0 < n
  dig : DigAt s (if neg then 1 else 0) n d
  minus : neg = true → ∃ h : 0 < s.size, ((s[0]'h).toNat : Int) = 45

/-- A number in memory: its sign and its words. -/
def IntRow (w : World) (p : Nat) (t : TypeId) (neg : Bool) (a : Option Addr) (l c : Nat) : Prop := RowAt w p t [.bool neg, .slice a l c]

theorem Glob.ne_int {w : World} (h : Glob w) {p : Nat} {t : TypeId} {neg : Bool} {a : Option Addr} {l c : Nat} (hr : IntRow w p t neg a l c) : ¬ GB p := by
  intro hk
  have c0 : w.cell? ⟨p, 0, none⟩ = some (.bool neg) := hr.cell 0
  obtain ⟨q, hp⟩ := h.eof
  rcases hk with rfl | rfl | rfl | rfl | rfl | rfl | rfl
  · rw [hp] at c0; cases c0
  · rw [h.bs] at c0; cases c0
  · rw [h.ks] at c0; cases c0
  · rw [h.kt] at c0; cases c0
  · rw [h.dr] at c0; cases c0
  · rw [h.lf] at c0; cases c0
  · rw [h.tz 0 (by omega)] at c0; cases c0
theorem IntRow.ne_rdr {w : World} {p r : Nat} {t : TypeId} {neg : Bool} {a : Option Addr} {l c : Nat} {s : ByteArray} {i : Nat} (h : IntRow w p t neg a l c) (k : Rdr w r s i) : p ≠ r := by
  rintro rfl
  obtain ⟨q, k⟩ := k
  have := RowAt.inj h k
  cases this

theorem scanSign_any (r : Nat) (s : ByteArray) (neg : Bool) (n : Nat) (d : Nat → Nat) (w : World) (h : Rdr w r s 0) (hs : NumText s neg n d) (G : Glob w) :
    Calls Tryz.prog 287 #[.iface 171 (.pointer (some ⟨r, 0, none⟩))] w fun e w' => e = .returned (.tuple #[.bool neg, .nilIface]) ∧ Rdr w' r s (if neg then 1 else 0) ∧ Keeps (· = r) w w' := by
  cases neg with
  | true =>
    obtain ⟨h0, h1⟩ := hs.minus rfl
    exact scanSign_neg r s 0 w h (by have := hs.size; omega) h0 G h1
  | false =>
    obtain ⟨h0, h1⟩ := hs.dig.2 0 hs.pos
    obtain ⟨h2, h3⟩ := h1
    exact scanSign_dig r s 0 w h (by have := hs.size; omega) h2 G _ h3 (by omega) (by omega)

theorem intScan_any (p : Nat) (t : TypeId) (b : Bool) (r : Nat) (s : ByteArray) (neg : Bool) (n : Nat) (d : Nat → Nat) (w : World) (hp : IntRow w p t b none 0 0) (h : Rdr w r s 0) (hs : NumText s neg n d) (G : Glob w) :
    Calls Tryz.prog 255 #[.pointer (some ⟨p, 0, none⟩), .iface 171 (.pointer (some ⟨r, 0, none⟩)), .int .i64 10] w fun e w' =>
      e = .returned (.tuple #[.pointer (some ⟨p, 0, none⟩), .int .i64 10, .nilIface]) ∧ ∃ ra rl rc, IntRow w' p t (neg && decide (dval d n ≠ 0)) ra rl rc ∧ Rd w' ra rl rc (words (dval d n)) ∧ Into w none 0 ra rc ∧ Rdr w' r s s.size ∧ Keeps (fun k => k = p ∨ k = r) w w' := by
  have hpr : p ≠ r := hp.ne_rdr h
  obtain ⟨q, hq⟩ := G.eof
  have hpg := G.ne_int hp
  have hrg := G.ne_rdr h
  have HP := hid hp; have H := hid h; have HS := hid hs; have HG := hid G
  have hpl := hp.lt
  have hrl := h.lt
  clear hp h hs G
  go_enter Tryz.func255, Tryz.ntmps255
  go_wp2_with fail
  refine (scanSign_any r s neg n d _ H.out HS.out HG.out).mono ?_
  rintro e w1 ⟨rfl, h1, h2⟩
  have hp1 : IntRow w1 p t b none 0 0 := h2.row HP.out hpr
  have c0 : w1.cell? ⟨p, 0, none⟩ = some (.bool b) := hp1.cell 0
  have c1 : w1.cell? ⟨p, 1, none⟩ = some (.slice none 0 0) := hp1.cell 1
  have HG1 := hid (HG.out.in_rdr H.out h2)
  have HQ1 := hid ((cell_of_block (p := ⟨0, 0, none⟩) (h2.block 0 (HG.out.lt (.inl rfl)) (fun hh => hrg (.inl hh.symm)))).trans hq)
  have H1 := hid h1; have H2 := hid h2; have HP1 := hid hp1
  clear h1 h2 hp1
  go_wp2_with fail
  refine (scan_any r s (if neg then 1 else 0) n d _ H1.out HS.out.size HS.out.dig HS.out.pos HG1.out q HQ1.out).mono ?_
  rintro e w2 ⟨ra, rl, rc, rfl, h3, h4, h5, h6⟩
  have hp2 : IntRow w2 p t b none 0 0 := h6.row HP1.out hpr
  have c2 : w2.cell? ⟨p, 0, none⟩ = some (.bool b) := hp2.cell 0
  have c3 : w2.cell? ⟨p, 1, none⟩ = some (.slice none 0 0) := hp2.cell 1
  have f2 := RowAt.frozen hp2 0
  have f3 := RowAt.frozen hp2 1
  have H3 := hid h3; have H4 := hid h4; have H5 := hid h5; have H6 := hid h6; have HP2 := hid hp2
  have hlen := h3.length
  have Key := hid (show ∀ v : Bool, v = (neg && decide (dval d n ≠ 0)) → ∃ ra' rl' rc', IntRow ((w2.setCell ⟨p, 1, none⟩ (.slice ra rl rc)).setCell ⟨p, 0, none⟩ (.bool v)) p t (neg && decide (dval d n ≠ 0)) ra' rl' rc' ∧ Rd ((w2.setCell ⟨p, 1, none⟩ (.slice ra rl rc)).setCell ⟨p, 0, none⟩ (.bool v)) ra' rl' rc' (words (dval d n)) ∧ Into w none 0 ra' rc' ∧ Rdr ((w2.setCell ⟨p, 1, none⟩ (.slice ra rl rc)).setCell ⟨p, 0, none⟩ (.bool v)) r s s.size ∧ Keeps (fun k => k = p ∨ k = r) w ((w2.setCell ⟨p, 1, none⟩ (.slice ra rl rc)).setCell ⟨p, 0, none⟩ (.bool v)) from by
    intro v hv
    have hi : Into w none 0 ra rc := h4.mono H2.out.size
    have hkp : Keeps (· = p) w2 ((w2.setCell ⟨p, 1, none⟩ (.slice ra rl rc)).setCell ⟨p, 0, none⟩ (.bool v)) := ((Keeps.refl _ w2).own 1 _).own 0 _
    have hrp : ∀ k, InB ra k → ¬ (k = p) := by
      rintro k hh rfl
      rcases hi.inB hh with ⟨o, ho⟩ | hge
      · cases ho
      · omega
    refine ⟨ra, rl, rc, ?_, h3.keep hkp hrp, hi, ?_, ?_⟩
    · rw [← hv]
      exact RowAt.set (RowAt.set hp2 1 (.slice ra rl rc)) 0 (.bool v)
    · have := h5.keep hkp (fun hh => hpr hh.symm)
      rw [HS.out.dig.1] at this
      exact this
    · exact ((H2.out.mono (T := fun k => k = p ∨ k = r) (fun i _ h => .inr h)).trans (h6.mono (fun i _ h => .inr h))).trans (hkp.mono (fun i _ h => .inl h)))
  clear h3 h4 h5 h6 hp2 c0 c1
  by_cases h0 : dval d n = 0
  · have hrl0 : rl = 0 := by rw [← hlen, h0, words_zero]; rfl
    subst hrl0
    have H0 := hid h0
    clear h0
    go_wp2_with fail
    go_ret3
    exact ⟨rfl, Key.out _ (by simp [H0.out])⟩
  · have hrl0 : 0 < rl := by rw [← hlen]; exact words_length_pos h0
    have H0 := hid h0
    clear h0
    go_wp2_with fail
    go_ret3
    exact ⟨rfl, Key.out _ (by simp [H0.out])⟩

theorem neq_err (p : Addr) (W : World) : (binOp .neq 124 (.iface 221 (.pointer (some p))) (.iface 221 (.pointer (some p)))).run Tryz.prog W = .ok (.bool false) W := by
  obtain ⟨i, hi, hcmp⟩ := Option.map_eq_some_iff.1 comp221
  obtain ⟨j, hj, hjs⟩ := Option.map_eq_some_iff.1 size223
  simp only [binOp]
  simp [Op.equal, Op.maxDepth, run_equalIn_iface_ptr_same W 9998 p Tryz.underlying124 Tryz.underlying221 hi hcmp hj]

theorem setFromScanner_any (p : Nat) (t : TypeId) (b : Bool) (r : Nat) (s : ByteArray) (neg : Bool) (n : Nat) (d : Nat → Nat) (w : World) (hp : IntRow w p t b none 0 0) (h : Rdr w r s 0) (hs : NumText s neg n d) (G : Glob w) :
    Calls Tryz.prog 214 #[.pointer (some ⟨p, 0, none⟩), .iface 171 (.pointer (some ⟨r, 0, none⟩)), .int .i64 10] w fun e w' =>
      e = .returned (.tuple #[.pointer (some ⟨p, 0, none⟩), .bool true]) ∧ ∃ ra rl rc, IntRow w' p t (neg && decide (dval d n ≠ 0)) ra rl rc ∧ Rd w' ra rl rc (words (dval d n)) ∧ Into w none 0 ra rc ∧ Keeps (fun k => k = p ∨ k = r) w w' := by
  have hpr : p ≠ r := hp.ne_rdr h
  obtain ⟨q, hq⟩ := G.eof
  have hpg := G.ne_int hp
  have hrg := G.ne_rdr h
  have HP := hid hp; have H := hid h; have HS := hid hs; have HG := hid G
  have hpl := hp.lt
  have hrl := h.lt
  have hme := me_read ⟨r, 0, none⟩
  have qE := neq_err q
  clear hp h hs G
  go_enter Tryz.func214, Tryz.ntmps214
  go_wp2_with fail
  refine (intScan_any p t b r s neg n d _ HP.out H.out HS.out HG.out).mono ?_
  rintro e w1 ⟨rfl, ra, rl, rc, h1, h2, h3, h4, h5⟩
  have hS0 : ∀ k, GB k → ¬ (k = p ∨ k = r) := fun k hk hh => by
    rcases hh with rfl | rfl
    · exact hpg hk
    · exact hrg hk
  have HG1 := hid (HG.out.keep h5 hS0)
  have e1 := (cell_of_block (p := ⟨0, 0, none⟩) (h5.block 0 (HG.out.lt (.inl rfl)) (hS0 0 (.inl rfl)))).trans hq
  have E1 := hid e1
  have H1 := hid h1; have H2 := hid h2; have H3 := hid h3; have H4 := hid h4; have H5 := hid h5
  clear h1 h2 h3 h4 h5 e1
  go_wp2_with fail
  refine (readByte_end r s s.size _ H4.out (by have := HS.out.size; omega) rfl HG1.out).mono ?_
  rintro e w2 ⟨⟨v, hv, rfl⟩, h6, h7⟩
  rw [E1.out] at hv
  injection hv with hv
  subst hv
  have e2 := (cell_of_block (p := ⟨0, 0, none⟩) (h7.block 0 (HG1.out.lt (.inl rfl)) (fun hh => hS0 0 (.inl rfl) (.inr hh)))).trans E1.out
  have Fin := hid (show ∃ ra rl rc, IntRow w2 p t (neg && decide (dval d n ≠ 0)) ra rl rc ∧ Rd w2 ra rl rc (words (dval d n)) ∧ Into w none 0 ra rc ∧ Keeps (fun k => k = p ∨ k = r) w w2 from by
    refine ⟨ra, rl, rc, h7.row H1.out hpr, H2.out.keep h7 ?_, H3.out, H5.out.trans (h7.mono (fun i _ h => .inr h))⟩
    rintro k hh rfl
    rcases H3.out.inB hh with ⟨o, ho⟩ | hge
    · cases ho
    · omega)
  clear h6 h7
  go_wp2_with fail
  go_ret2
  exact ⟨rfl, Fin.out⟩

theorem setString171_any (p : Nat) (t : TypeId) (b : Bool) (s : ByteArray) (neg : Bool) (n : Nat) (d : Nat → Nat) (w : World) (hp : IntRow w p t b none 0 0) (hs : NumText s neg n d) (G : Glob w) :
    Calls Tryz.prog 171 #[.pointer (some ⟨p, 0, none⟩), .string s, .int .i64 10] w fun e w' =>
      e = .returned (.tuple #[.pointer (some ⟨p, 0, none⟩), .bool true]) ∧ ∃ ra rl rc, IntRow w' p t (neg && decide (dval d n ≠ 0)) ra rl rc ∧ Rd w' ra rl rc (words (dval d n)) ∧ Into w none 0 ra rc ∧ Keeps (· = p) w w' := by
  have HP := hid hp; have HS := hid hs; have HG := hid G
  have hpl := hp.lt
  clear hp hs G
  go_enter Tryz.func171, Tryz.ntmps171
  go_wp2_with fail
  refine (newReader_any s _).mono ?_
  rintro e w1 ⟨r, rfl, h1, h2, h3⟩
  have H2 := hid h2; have H3 := hid h3
  clear h2 h3
  go_wp2_with fail
  refine (setFromScanner_any p t b r s neg n d _ (H3.out.row HP.out id) H2.out HS.out (HG.out.keep H3.out (fun _ _ h => h))).mono ?_
  rintro e w2 ⟨rfl, ra, rl, rc, h4, h5, h6, h7⟩
  have h4 := hid h4; have h5 := hid h5; have h6 := hid h6; have h7 := hid h7
  go_wp2_with fail
  go_ret2
  exact ⟨rfl, ra, rl, rc, h4.out, h5.out, h6.out.mono H3.out.size, (H3.out.any).trans' h7.out (fun i hi hh => by
    rcases hh with rfl | rfl
    · rfl
    · omega)⟩

theorem setString112_any (p : Nat) (t : TypeId) (b : Bool) (s : ByteArray) (neg : Bool) (n : Nat) (d : Nat → Nat) (w : World) (hp : IntRow w p t b none 0 0) (hs : NumText s neg n d) (G : Glob w) :
    Calls Tryz.prog 112 #[.pointer (some ⟨p, 0, none⟩), .string s, .int .i64 10] w fun e w' =>
      e = .returned (.tuple #[.pointer (some ⟨p, 0, none⟩), .bool true]) ∧ ∃ ra rl rc, IntRow w' p t (neg && decide (dval d n ≠ 0)) ra rl rc ∧ Rd w' ra rl rc (words (dval d n)) ∧ Into w none 0 ra rc ∧ Keeps (· = p) w w' := by
  have HP := hid hp; have HS := hid hs; have HG := hid G
  have hpl := hp.lt
  clear hp hs G
  go_enter Tryz.func112, Tryz.ntmps112
  go_wp2_with fail
  refine (setString171_any p t b s neg n d _ HP.out HS.out HG.out).mono ?_
  rintro e w2 ⟨rfl, h4⟩
  have h4 := hid h4
  go_wp2_with fail
  go_ret2
  exact ⟨rfl, h4.out⟩

theorem number_any (s : ByteArray) (neg : Bool) (n : Nat) (d : Nat → Nat) (w : World) (hs : NumText s neg n d) (G : Glob w) :
    Calls Tryz.prog 67 #[.string s] w fun e w' => ∃ p ra rl rc, e = .returned (.pointer (some ⟨p, 0, none⟩)) ∧ w.heap.size ≤ p ∧ IntRow w' p 105 (neg && decide (dval d n ≠ 0)) ra rl rc ∧ Rd w' ra rl rc (words (dval d n)) ∧ Into w none 0 ra rc ∧ Keeps (fun _ => False) w w' := by
  have HS := hid hs; have HG := hid G
  clear hs G
  go_enter Tryz.func67, Tryz.ntmps67
  go_wp2_with fail
  have hr : IntRow (w.alloc (.cells #[.bool false, .slice none 0 0] 105)) w.heap.size 105 false none 0 0 := RowAt.new w 105 [.bool false, .slice none 0 0]
  have hka := (Keeps.refl (fun _ => False) w).alloc (.cells #[.bool false, .slice none 0 0] 105)
  refine (setString112_any _ 105 false s neg n d _ hr HS.out (HG.out.keep hka (fun _ _ h => h))).mono ?_
  rintro e w2 ⟨rfl, ra, rl, rc, h4, h5, h6, h7⟩
  have H4 := hid h4; have H5 := hid h5; have H6 := hid h6; have H7 := hid h7; have Hka := hid hka
  clear h4 h5 h6 h7 hr hka
  go_wp2_with fail
  go_ret
  exact ⟨_, ra, rl, rc, rfl, Nat.le_refl _, H4.out, H5.out, H6.out.mono Hka.out.size, Hka.out.trans' H7.out (fun i hi hh => by subst hh; omega)⟩
end Go.Proofs
namespace Go.Proofs
open Go.RowKit
set_option maxHeartbeats 400000
set_option linter.unusedVariables false
set_option linter.unusedSimpArgs false
set_option maxRecDepth 100000

/-- Block p holds the number z. -/
def IntAt (w : World) (p : Nat) (t : TypeId) (z : Int) : Prop := ∃ a l c, IntRow w p t (decide (z < 0)) a l c ∧ Rd w a l c (words z.natAbs)

/-- The comparison of two numbers. -/
def cmpZ (x y : Int) : Int := if x < y then -1 else if y < x then 1 else 0

theorem cmpZ_refl (x : Int) : cmpZ x x = 0 := by simp [cmpZ]

/-- The facts that a walk reads of a number. -/
theorem IntRow.facts {w : World} {p : Nat} {t : TypeId} {neg : Bool} {a : Option Addr} {l c : Nat} (h : IntRow w p t neg a l c) :
    w.cell? ⟨p, 0, none⟩ = some (.bool neg) ∧ w.cell? ⟨p, 1, none⟩ = some (.slice a l c) ∧ w.frozen? ⟨p, 0, none⟩ = false ∧ w.frozen? ⟨p, 1, none⟩ = false :=
  ⟨h.cell 0, h.cell 1, h.frozen 0, h.frozen 1⟩

theorem size103 : (Tryz.prog.info? 103).map (·.size) = some 2 := by kernel_rfl
theorem eql_ptr117_same (p : Addr) (w : World) : (binOp .eql 117 (.pointer (some p)) (.pointer (some p))).run Tryz.prog w = .ok (.bool true) w := by
  obtain ⟨j, hj, hjs⟩ := Option.map_eq_some_iff.1 size103
  exact run_eql_ptr_same (P := Tryz.prog) w p Tryz.underlying117 hj
theorem eql_ptr117_other (p q tp tq : Nat) (np nq : Bool) (ap aq : Option Addr) (lp cp lq cq : Nat) (w : World) (hp : IntRow w p tp np ap lp cp) (hq : IntRow w q tq nq aq lq cq) (hne : p ≠ q) :
    (binOp .eql 117 (.pointer (some ⟨p, 0, none⟩)) (.pointer (some ⟨q, 0, none⟩))).run Tryz.prog w = .ok (.bool false) w := by
  obtain ⟨j, hj, hjs⟩ := Option.map_eq_some_iff.1 size103
  exact run_eql_ptr_other (P := Tryz.prog) w Tryz.underlying117 hj (by rw [hjs]; decide) (fun h => hne (by injection h)) hp hq

theorem cmpI_in (m n : Nat) : cmpI m n = -1 ∨ cmpI m n = 0 ∨ cmpI m n = 1 := by
  unfold cmpI; split
  · simp
  · split <;> simp
theorem cmpZ_pos {x y : Int} (hx : ¬ x < 0) (hy : ¬ y < 0) : cmpZ x y = cmpI x.natAbs y.natAbs := by
  unfold cmpZ cmpI
  rcases Int.lt_trichotomy x y with h | h | h
  · rw [if_pos h, if_pos (by omega)]
  · subst h; simp
  · rw [if_neg (by omega), if_pos h, if_neg (by omega), if_pos (by omega)]
theorem cmpZ_neg {x y : Int} (hx : x < 0) (hy : y < 0) : cmpZ x y = - cmpI x.natAbs y.natAbs := by
  unfold cmpZ cmpI
  rcases Int.lt_trichotomy x y with h | h | h
  · rw [if_pos h, if_neg (by omega), if_pos (by omega)]
  · subst h; simp
  · rw [if_neg (by omega), if_pos h, if_pos (by omega)]; rfl

theorem cmp158_any (p q : Nat) (tp tq : TypeId) (x y : Int) (w : World) (hp : IntAt w p tp x) (hq : IntAt w q tq y) :
    Calls Tryz.prog 158 #[.pointer (some ⟨p, 0, none⟩), .pointer (some ⟨q, 0, none⟩)] w fun e w' => e = .returned (.int .i64 (cmpZ x y)) ∧ ∃ k, w' = w.drewN k := by
  obtain ⟨a, l, c, hp1, hp2⟩ := hp
  obtain ⟨a', l', c', hq1, hq2⟩ := hq
  by_cases hpq : p = q
  · subst hpq
    have hxy : cmpZ x y = 0 := by
      have h1 := RowAt.inj hp1 hq1
      simp only [List.cons.injEq, Value.bool.injEq, Value.slice.injEq, and_true] at h1
      obtain ⟨h1, rfl, rfl, rfl⟩ := h1
      have h2 := words_inj (Rd.inj hp2 hq2)
      have h3 : (x < 0) ↔ (y < 0) := by simpa using h1
      have : x = y := by omega
      rw [this, cmpZ_refl]
    rw [hxy]
    have qE := eql_ptr117_same ⟨p, 0, none⟩ w
    clear hp1 hp2 hq1 hq2 hxy
    go_enter Tryz.func158, Tryz.ntmps158
    go_wp2_with fail
    go_ret
    exact ⟨rfl, 0, rfl⟩
  · have qE := eql_ptr117_other _ _ _ _ _ _ _ _ _ _ _ _ _ hp1 hq1 hpq
    obtain ⟨c1, c2, _, _⟩ := hp1.facts
    obtain ⟨c3, c4, _, _⟩ := hq1.facts
    have HP2 := hid hp2; have HQ2 := hid hq2
    clear hp1 hp2 hq1 hq2
    by_cases hx : x < 0
    · have bx : decide (x < 0) = true := decide_eq_true hx
      rw [bx] at c1
      by_cases hy : y < 0
      · have bY : decide (y < 0) = true := decide_eq_true hy
        rw [bY] at c3
        rw [cmpZ_neg hx hy]
        have hw : IntKind.i64.wrap (-(cmpI x.natAbs y.natAbs)) = -(cmpI x.natAbs y.natAbs) := IntWalk.i64_in _ (by rcases cmpI_in x.natAbs y.natAbs with h | h | h <;> rw [h] <;> omega)
        have hr := cmpI_in x.natAbs y.natAbs
        have hr2 : -1 ≤ cmpI x.natAbs y.natAbs ∧ cmpI x.natAbs y.natAbs ≤ 1 := by omega
        clear hr
        have Hx := hid hx; have Hy := hid hy
        clear hx hy bx bY
        go_enter Tryz.func158, Tryz.ntmps158
        go_wp2_with fail
        go_quiet (fail)
        go_wp2_with fail
        generalize hW : w.drewN nq = w1
        have d1 : w1.cell? ⟨p, 0, none⟩ = some (.bool true) := by rw [← hW]; exact c1
        have d2 : w1.cell? ⟨p, 1, none⟩ = some (.slice a l c) := by rw [← hW]; exact c2
        have d4 : w1.cell? ⟨q, 1, none⟩ = some (.slice a' l' c') := by rw [← hW]; exact c4
        have HP3 := hid (HP2.out.drewN nq)
        have HQ3 := hid (HQ2.out.drewN nq)
        rw [hW] at HP3 HQ3
        have HW := hid hW
        clear hW c1 c2 c3 c4
        go_quiet ((go_at_call 196; exact quiet_ex (cmp_any a l c a' l' c' x.natAbs y.natAbs _ (HP3.out.drewN _) (HQ3.out.drewN _))))
        go_wp2_with fail
        go_ret
        exact ⟨rfl, _, by rw [← HW.out, World.drewN_drewN]⟩
      · have bY : decide (y < 0) = false := decide_eq_false hy
        rw [bY] at c3
        have hz : cmpZ x y = -1 := by unfold cmpZ; rw [if_pos (by omega)]
        rw [hz]
        clear hz hx hy bx bY
        go_enter Tryz.func158, Tryz.ntmps158
        go_wp2_with fail
        go_quiet (fail)
        go_wp2_with fail
        go_ret
        exact ⟨rfl, _, rfl⟩
    · have bx : decide (x < 0) = false := decide_eq_false hx
      rw [bx] at c1
      by_cases hy : y < 0
      · have bY : decide (y < 0) = true := decide_eq_true hy
        rw [bY] at c3
        have hz : cmpZ x y = 1 := by unfold cmpZ; rw [if_neg (by omega), if_pos (by omega)]
        rw [hz]
        clear hz hx hy bx bY
        go_enter Tryz.func158, Tryz.ntmps158
        go_wp2_with fail
        go_quiet (fail)
        go_wp2_with fail
        go_ret
        exact ⟨rfl, _, rfl⟩
      · have bY : decide (y < 0) = false := decide_eq_false hy
        rw [bY] at c3
        rw [cmpZ_pos hx hy]
        clear hx hy bx bY
        go_enter Tryz.func158, Tryz.ntmps158
        go_wp2_with fail
        go_quiet (fail)
        go_wp2_with fail
        generalize hW : w.drewN nq = w1
        have d1 : w1.cell? ⟨p, 0, none⟩ = some (.bool false) := by rw [← hW]; exact c1
        have d2 : w1.cell? ⟨p, 1, none⟩ = some (.slice a l c) := by rw [← hW]; exact c2
        have d4 : w1.cell? ⟨q, 1, none⟩ = some (.slice a' l' c') := by rw [← hW]; exact c4
        have HP3 := hid (HP2.out.drewN nq)
        have HQ3 := hid (HQ2.out.drewN nq)
        rw [hW] at HP3 HQ3
        have HW := hid hW
        clear hW c1 c2 c3 c4
        go_quiet ((go_at_call 196; exact quiet_ex (cmp_any a l c a' l' c' x.natAbs y.natAbs _ (HP3.out.drewN _) (HQ3.out.drewN _))))
        go_wp2_with fail
        go_ret
        exact ⟨rfl, _, by rw [← HW.out, World.drewN_drewN]⟩

theorem cmpAbs159_any (p q : Nat) (tp tq : TypeId) (x y : Int) (w : World) (hp : IntAt w p tp x) (hq : IntAt w q tq y) :
    Calls Tryz.prog 159 #[.pointer (some ⟨p, 0, none⟩), .pointer (some ⟨q, 0, none⟩)] w fun e w' => e = .returned (.int .i64 (cmpI x.natAbs y.natAbs)) ∧ ∃ k, w' = w.drewN k := by
  obtain ⟨a, l, c, hp1, hp2⟩ := hp
  obtain ⟨a', l', c', hq1, hq2⟩ := hq
  obtain ⟨c1, c2, _, _⟩ := hp1.facts
  obtain ⟨c3, c4, _, _⟩ := hq1.facts
  have HP2 := hid hp2; have HQ2 := hid hq2
  clear hp1 hp2 hq1 hq2
  go_enter Tryz.func159, Tryz.ntmps159
  go_wp2_with fail
  go_quiet ((go_at_call 196; exact quiet_ex (cmp_any a l c a' l' c' x.natAbs y.natAbs _ (HP2.out.drewN _) (HQ2.out.drewN _))))
  go_wp2_with fail
  go_ret
  exact ⟨rfl, _, rfl⟩

theorem IntAt.drewN {w : World} {p : Nat} {t : TypeId} {z : Int} (h : IntAt w p t z) (n : Nat) : IntAt (w.drewN n) p t z := by
  obtain ⟨a, l, c, h1, h2⟩ := h
  exact ⟨a, l, c, RowAt.drewN h1 n, h2.drewN n⟩

theorem cmp88_any (p q : Nat) (tp tq : TypeId) (x y : Int) (w : World) (hp : IntAt w p tp x) (hq : IntAt w q tq y) :
    Calls Tryz.prog 88 #[.pointer (some ⟨p, 0, none⟩), .pointer (some ⟨q, 0, none⟩)] w fun e w' => e = .returned (.int .i64 (cmpZ x y)) ∧ ∃ k, w' = w.drewN k := by
  have HP := hid hp; have HQ := hid hq
  clear hp hq
  go_enter Tryz.func88, Tryz.ntmps88
  go_wp2_with fail
  go_quiet ((go_at_call 158; exact quiet_ex (cmp158_any p q tp tq x y _ (HP.out.drewN _) (HQ.out.drewN _))))
  go_wp2_with fail
  go_ret
  exact ⟨rfl, _, rfl⟩

theorem cmpAbs89_any (p q : Nat) (tp tq : TypeId) (x y : Int) (w : World) (hp : IntAt w p tp x) (hq : IntAt w q tq y) :
    Calls Tryz.prog 89 #[.pointer (some ⟨p, 0, none⟩), .pointer (some ⟨q, 0, none⟩)] w fun e w' => e = .returned (.int .i64 (cmpI x.natAbs y.natAbs)) ∧ ∃ k, w' = w.drewN k := by
  have HP := hid hp; have HQ := hid hq
  clear hp hq
  go_enter Tryz.func89, Tryz.ntmps89
  go_wp2_with fail
  go_quiet ((go_at_call 159; exact quiet_ex (cmpAbs159_any p q tp tq x y _ (HP.out.drewN _) (HQ.out.drewN _))))
  go_wp2_with fail
  go_ret
  exact ⟨rfl, _, rfl⟩
end Go.Proofs
namespace Go.Proofs
open Go.RowKit
set_option maxHeartbeats 400000
set_option linter.unusedVariables false
set_option linter.unusedSimpArgs false
set_option maxRecDepth 100000

theorem set_two {α : Type} {M : List α} {o : Nat} {lo hi : α} (h : o + 2 ≤ M.length) : (M.set (o + 1) hi).set o lo = splice M o [lo, hi] := by
  have e1 : M.set o lo = splice M o [lo] := by
    have := splice_snoc (L := M) (o := o) (R := []) (v := lo) (by simp; omega)
    simpa using this
  have e2 := splice_snoc (L := M) (o := o) (R := [lo]) (v := hi) (by simp; omega)
  rw [List.set_comm _ _ (by omega), e1]
  simpa using e2

theorem sqr_any (a : Option Addr) (l c : Nat) (L : List Nat) (sp : Option Addr) (x : Option Addr) (xl xc : Nat) (m : Nat) (w : World)
    (hg : Glob w) (h : Rd w a l c L) (hx : Rd w x xl xc (words m)) (hxl : xl < 12) (hax : Al a c x xc) :
    Calls Tryz.prog 235 #[.slice a l c, .pointer sp, .slice x xl xc] w (NatRes w a c (m * m)) := by
  have H := hid h; have Hx := hid hx; have Hax := hid hax; have Hg := hid hg
  have Hlx := hid hx.length
  have hlex := hx.len_le; have hle0 := h.len_le
  unfold LIM at hlex hle0
  clear h hx hax hg
  by_cases h0 : xl = 0
  · subst h0
    have hm : m = 0 := words_length_zero Hlx.out
    subst hm
    go_enter Tryz.func235, Tryz.ntmps235
    go_wp2_with fail
    go_ret
    exact ⟨_, _, _, rfl, by rw [Nat.mul_zero, words_zero]; exact H.out.zero, Into.refl _ _ _, Keeps.refl _ _⟩
  have hb0 : ((xl : Int) == 0) = false := by simp; omega
  by_cases h1 : xl = 1
  · subst h1
    obtain ⟨xb, xo, rfl, hxc⟩ := Hx.out.cell (by omega)
    have c0 := hxc 0 (by omega)
    rw [Nat.add_zero] at c0
    have hn : m = (words m).getD 0 0 := by
      have h1 := val_words m
      have h2 := Hlx.out
      match hw : words m, h2 with
      | [x0], _ => rw [hw] at h1; simpa using h1.symm
    obtain ⟨v, hv⟩ : ∃ v, v = (words m).getD 0 0 := ⟨_, rfl⟩
    rw [← hv] at c0 hn
    have Hn := hid hn
    have Hvw : Hid (v < W64) := hid (by rw [hv]; exact (words_words m).getD 0)
    clear hxc hv hn h0
    go_enter Tryz.func235, Tryz.ntmps235
    go_wp2_with fail
    refine (make_any a l c 2 L _ H.out (by omega) (by omega)).mono ?_
    rintro e w1 ⟨ra, rc, rfl, hm⟩
    obtain ⟨b, o, M, rfl, hb, hw, h1, h2, h3, hi, hk⟩ := hm.rd
    have Hi := hid hi; have Hk := hid hk; have Hb := hid hb; have Hw := hid hw
    clear hi hk hb hw hm
    go_wp2_with fail
    refine (mulWW_any v v Hvw.out Hvw.out _).mono ?_
    rintro e w2 ⟨rfl, rfl⟩
    have c1 := Blk.cell Hb.out (o := o) (by omega)
    have c2 := Blk.cell Hb.out (o := o + 1) (by omega)
    have f1 := Blk.frozen Hb.out o
    have f2 := Blk.frozen Hb.out (o + 1)
    go_wp2_with fail
    have hset := Blk.set (Blk.set Hb.out (o + 1) (muHi v v)) o (muLo v v)
    rw [set_two (by omega)] at hset
    have hd := Made.done hset Hw.out (Words.cons (muLo_lt _ _) (Words.cons (muHi_lt Hvw.out Hvw.out) Words.nil)) rfl h1 h2 h3
    have hval : val [muLo v v, muHi v v] = m * m := by
      have := mu_eq v v
      simp only [val_cons, val_nil, Nat.mul_zero, Nat.add_zero]
      rw [Hn.out]; exact this
    have Hd := hid hd; have Hval := hid hval
    clear hset hd hval
    refine (norm_any _ _ _ _ _ Hd.out).mono ?_
    rintro e w4 ⟨nn, rfl, hr, hnl, rfl⟩
    have Hr := hid hr
    clear hr
    go_wp2_with fail
    go_ret
    refine ⟨_, _, _, rfl, ?_, Hi.out, Made.keeps Hi.out Hk.out ((Keeps.set1 _ _ _ _).trans (Keeps.set1 _ _ _ _))⟩
    rw [← Hval.out, ← trimZ_eq_words Hd.out.words]
    exact Hr.out
  · have hb1 : ((xl : Int) == 1) = false := by simp; omega
    have hxl1 : 1 < xl := by omega
    have hlt12 : (xl : Int) < 12 := by omega
    have hlt80 : (xl : Int) < 80 := by omega
    clear h0 h1
    -- the end, z made
    have fin : ∀ (w1 : World) (ra : Option Addr) (rc : Nat) (b o : Nat) (M : List Nat) (k : Nat), ra = some ⟨b, o, none⟩ → Blk w1 b M → Words M → 2 * xl ≤ rc → o + rc ≤ M.length → M.length ≤ LIM → Into w a c ra rc → Keeps (fun _ => False) w w1 → ¬ InB x b →
        ∀ W, W = w1 → Calls Tryz.prog 265 #[.slice ra (2 * xl) rc, .slice x xl xc, .slice x xl xc] W fun e w2 => ∃ R, R.length = 2 * xl ∧ e = .returned (.tuple #[]) ∧ Rd w2 ra (2 * xl) rc R ∧ val R = m * m ∧ Keeps (InB a) w w2 := by
      intro w1 ra rc b o M k hra hb hw h1 h2 h3 hi hk hxb W hW
      subst hW
      subst hra
      refine (basicMul_any b o (2 * xl) rc xl xc xl xc M (words m) (words m) x x _ hb hw (Hx.out.keep hk (fun _ _ h => h)) (Hx.out.keep hk (fun _ _ h => h)) (by omega) (by omega) (by omega) (by omega) h1 h2 h3 hxb hxb).mono ?_
      rintro e w2 ⟨R, r1, r2, r3, rfl, r4, r5⟩
      refine ⟨R, by omega, rfl, Made.done r4 hw r2 (by omega) h1 h2 h3, by rw [r3, val_words], Made.keeps hi hk r5⟩
    have Fin := hid fin
    clear fin
    cases hs1 : sharesB a c x xc with
    | true =>
      have Hs1 := hid hs1
      clear hs1
      go_enter Tryz.func235, Tryz.ntmps235
      go_wp2_with fail
      refine (alias_any a l c L x xl xc (words m) _ H.out Hx.out Hax.out).mono ?_
      rintro e w1 ⟨rfl, q, rfl⟩
      rw [Hs1.out]
      go_wp2_with fail
      refine (make_any none 0 0 (2 * xl) [] _ (Rd.nil _) (by omega) (by omega)).mono ?_
      rintro e w2 ⟨ra, rc, rfl, hm⟩
      obtain ⟨b, o, M, hra, hb, hw, h1, h2, h3, hi, hk⟩ := hm.rd
      have hkw := ((Keeps.refl (fun _ => False) w).drewN q).any.trans hk
      have hbs := ((Hg.out.keep hkw (fun _ _ h => h)).bs)
      have hks := ((Hg.out.keep hkw (fun _ _ h => h)).ks)
      have hi2 : Into w a c ra rc := Into.of_nil (hi.mono (Nat.le_refl _))
      have hnx : ¬ InB x b := fun hh => by
        obtain ⟨o', ho'⟩ := hh
        have := Hx.out.lt ⟨o', ho'⟩
        subst hra
        rcases hi with ⟨h', _⟩ | ⟨h', _⟩ | ⟨b', h', hb'⟩
        · cases h'
        · cases h'
        · cases h'; have h5 : w.heap.size ≤ b := hb'; omega
      have HF := hid (Fin.out w2 ra rc b o M 0 hra hb hw h1 h2 h3 hi2 hkw hnx w2 rfl)
      have Hi2 := hid hi2
      clear hm hra hb hw hi hk hkw hi2 hnx
      go_wp2_with fail
      refine HF.out.mono ?_
      rintro e w3 ⟨R, r1, rfl, r2, r3, r4⟩
      have Hr2 := hid r2; have Hr3 := hid r3; have Hr4 := hid r4
      clear r1 r2 r3 r4
      go_wp2_with fail
      refine (norm_any _ _ _ _ _ Hr2.out).mono ?_
      rintro e w4 ⟨nn, rfl, hr, hnl, rfl⟩
      have Hr := hid hr
      clear hr
      go_wp2_with fail
      go_ret
      refine ⟨_, _, _, rfl, ?_, Hi2.out, Hr4.out⟩
      rw [← Hr3.out, ← trimZ_eq_words Hr2.out.words]
      exact Hr.out
    | false =>
      have Hs1 := hid hs1
      clear hs1
      go_enter Tryz.func235, Tryz.ntmps235
      go_wp2_with fail
      refine (alias_any a l c L x xl xc (words m) _ H.out Hx.out Hax.out).mono ?_
      rintro e w1 ⟨rfl, q, rfl⟩
      rw [Hs1.out]
      go_wp2_with fail
      refine (make_any a l c (2 * xl) L _ (H.out.drewN q) (by omega) (by omega)).mono ?_
      rintro e w2 ⟨ra, rc, rfl, hm⟩
      obtain ⟨b, o, M, hra, hb, hw, h1, h2, h3, hi, hk⟩ := hm.rd
      have hkw := ((Keeps.refl (fun _ => False) w).drewN q).any.trans hk
      have hbs := ((Hg.out.keep hkw (fun _ _ h => h)).bs)
      have hks := ((Hg.out.keep hkw (fun _ _ h => h)).ks)
      have hi2 : Into w a c ra rc := hi.mono (Nat.le_refl _)
      have hnx : ¬ InB x b := not_shares Hs1.out Hax.out hi2 hra (by omega) (fun k hk => Hx.out.lt hk)
      have HF := hid (Fin.out w2 ra rc b o M 0 hra hb hw h1 h2 h3 hi2 hkw hnx w2 rfl)
      have Hi2 := hid hi2
      clear hm hra hb hw hi hk hkw hi2 hnx
      go_wp2_with fail
      refine HF.out.mono ?_
      rintro e w3 ⟨R, r1, rfl, r2, r3, r4⟩
      have Hr2 := hid r2; have Hr3 := hid r3; have Hr4 := hid r4
      clear r1 r2 r3 r4
      go_wp2_with fail
      refine (norm_any _ _ _ _ _ Hr2.out).mono ?_
      rintro e w4 ⟨nn, rfl, hr, hnl, rfl⟩
      have Hr := hid hr
      clear hr
      go_wp2_with fail
      go_ret
      refine ⟨_, _, _, rfl, ?_, Hi2.out, Hr4.out⟩
      rw [← Hr3.out, ← trimZ_eq_words Hr2.out.words]
      exact Hr.out
end Go.Proofs
