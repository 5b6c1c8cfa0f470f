/- Parts of the proofs over the numbers of any length: Bits, SetBit, IBit. -/
import Derived.Deep.RegionHeld3
import Derived.Test.YtacbllkmcldniaaGreatDoorShiftA
import Derived.Test.YtacbllkmcldniaaGreatDoorIntA
set_option linter.unusedSimpArgs false
set_option linter.unusedVariables false
namespace Go.Proofs
open Go.RowKit
set_option maxHeartbeats 1000000
set_option linter.unusedVariables false
set_option linter.unusedSimpArgs false
set_option maxRecDepth 100000

theorem val_testBit {X : List Nat} (hX : Words X) (i : Nat) : (val X).testBit i = (X.getD (i / 64) 0).testBit (i % 64) := by
  induction X generalizing i with
  | nil => simp
  | cons x xs ih =>
    have hx := hX.head
    rw [W64_two] at hx
    rw [val_cons, W64_two, Nat.add_comm, Nat.testBit_two_pow_mul_add _ hx]
    by_cases h : i < 64
    · rw [if_pos h, show i / 64 = 0 by omega, show i % 64 = i by omega, List.getD_cons_zero]
    · rw [if_neg h, ih hX.tail, show i / 64 = (i - 64) / 64 + 1 by omega, List.getD_cons_succ, show (i - 64) % 64 = i % 64 by omega]
theorem words_testBit (N i : Nat) : N.testBit i = ((words N).getD (i / 64) 0).testBit (i % 64) := by
  have := val_testBit (words_words N) i
  rwa [val_words] at this
theorem and_one_u64 (n : Nat) (h : n < 18446744073709551616) : bits .and .u64 (n : Int) 1 = ((n % 2 : Nat) : Int) := by
  have h2 := bits_and_u64_nat n 1 h (by omega)
  rwa [show (1 : Nat) = 2 ^ 1 - 1 from rfl, Nat.and_two_pow_sub_one_eq_mod] at h2
def bitv (N i : Nat) : Int := ((N.testBit i).toNat : Int)
theorem bitv_le (N i : Nat) : 0 ≤ bitv N i ∧ bitv N i ≤ 1 := by unfold bitv; cases N.testBit i <;> simp

theorem run_shr177 (v r : Nat) (s : Int) (h : s = (r : Int)) (hr : r < 64) : ∀ w, (binOp .shr 177 (.int .u64 (v : Int)) (.int .u64 s)).run Tryz.prog w = .ok (.int .u64 ((v / 2 ^ r : Nat) : Int)) w := by
  intro w
  subst h
  simp [go_sem]
theorem run_one_shl177 (r : Nat) (s : Int) (h : s = (r : Int)) (hr : r < 64) : ∀ w, (binOp .shl 177 (.int .u64 1) (.int .u64 s)).run Tryz.prog w = .ok (.int .u64 ((2 ^ r : Nat) : Int)) w := by
  intro w
  subst h
  have h1 := shl_wrap 1 r
  have h2 : 2 ^ r < W64 := by rw [W64_two]; exact Nat.pow_lt_pow_right (by omega) hr
  rw [Nat.one_mul, Nat.mod_eq_of_lt h2] at h1
  have h3 : (1 : Int) * 2 ^ r = 2 ^ r := Int.one_mul _
  rw [show ((1 : Nat) : Int) * 2 ^ r = 2 ^ r from h3] at h1
  simp [go_sem]
  rw [h1, Int.natCast_pow]; rfl

theorem bit219 (x : Option Addr) (xl xc N i : Nat) (w : World) (hx : Rd w x xl xc (words N)) (hi : i ≤ 1000000) :
    Calls Tryz.prog 219 #[.slice x xl xc, .int .u64 (i : Int)] w fun e w' => e = .returned (.int .u64 (bitv N i)) ∧ w' = w := by
  have hle := hx.len_le
  unfold LIM at hle
  obtain ⟨j, hj⟩ : ∃ j, j = i / 64 := ⟨_, rfl⟩
  obtain ⟨r, hr⟩ : ∃ r, r = i % 64 := ⟨_, rfl⟩
  have e1 : (i : Int) / 64 = (j : Int) := by omega
  have e2 : (i : Int) % 64 = (r : Int) := by omega
  have gl : IntKind.u64.wrap (xl : Int) = (xl : Int) := by rw [IntKind.wrap_u64]; omega
  have Hlx := hid hx.length
  by_cases hjl : xl ≤ j
  · have hz : bitv N i = 0 := by
      unfold bitv
      rw [words_testBit, ← hj, getD_out (by rw [Hlx.out]; exact hjl)]
      simp
    have t1 : decide (xl ≤ j) = true := by simpa using hjl
    rw [hz]
    clear hx hj hr hjl hz
    go_enter Tryz.func219, Tryz.ntmps219
    go_wp2_with fail
    go_ret
    exact ⟨rfl, rfl⟩
  · have t1 : decide (xl ≤ j) = false := by simpa using hjl
    obtain ⟨xb, xo, rfl, hc⟩ := hx.cell (by omega)
    have c0 := hc j (by omega)
    obtain ⟨v, hv⟩ : ∃ v, v = (words N).getD j 0 := ⟨_, rfl⟩
    rw [← hv] at c0
    have hvl : v < W64 := by rw [hv]; exact (words_words N).getD _
    have hlt : v / 2 ^ r < 18446744073709551616 := Nat.lt_of_le_of_lt (Nat.div_le_self _ _) hvl
    have b1 := shr_cast v r
    have b2 := and_one_u64 (v / 2 ^ r) hlt
    have Hres : Hid (((v / 2 ^ r % 2 : Nat) : Int) = bitv N i) := hid (by
      unfold bitv
      rw [words_testBit, ← hj, ← hr, ← hv, Nat.toNat_testBit])
    have hjx : j < xl := by omega
    have hr64 : r < 64 := by omega
    have Hb : Hid (bits .and .u64 ((v : Int) / 2 ^ (i % 64)) 1 = bitv N i) := hid (by rw [← hr, b1, b2, Hres.out])
    clear hx hj hr hc hv hjl hvl hlt e2 b1 b2
    go_enter Tryz.func219, Tryz.ntmps219
    go_wp2_with fail
    go_ret
    refine ⟨?_, rfl⟩
    show Ending.returned (.int .u64 (bits .and .u64 ((v : Int) / 2 ^ (i % 64)) 1)) = _
    rw [Hb.out]
end Go.Proofs
namespace Go.Proofs
open Go.RowKit
set_option maxHeartbeats 1000000
set_option linter.unusedVariables false
set_option linter.unusedSimpArgs false
set_option maxRecDepth 100000

theorem bits_andNot_u64 (v m : Nat) (hv : v < W64) (hm : m < W64) : bits .andNot .u64 (v : Int) (m : Int) = ((nandn v m : Nat) : Int) := by
  have hv' : v < 18446744073709551616 := hv
  have hm' : m < 18446744073709551616 := hm
  show IntKind.u64.wrap ((BitVec.ofInt 64 (v : Int) &&& ~~~BitVec.ofInt 64 (m : Int)).toNat : Int) = _
  rw [BitVec.toNat_and, BitVec.toNat_not, ofInt_u64 v hv', ofInt_u64 m hm']
  have e : v &&& (2 ^ 64 - 1 - m) = nandn v m := by
    apply Nat.eq_of_testBit_eq
    intro i
    rw [Nat.testBit_and, testBit_nandn, show 2 ^ 64 - 1 - m = 2 ^ 64 - (m + 1) by omega, Nat.testBit_two_pow_sub_succ (by rw [← W64_two]; exact hm)]
    by_cases h : i < 64
    · simp [h]
    · have : v.testBit i = false := Nat.testBit_lt_two_pow (Nat.lt_of_lt_of_le hv (by rw [W64_two]; exact Nat.pow_le_pow_right (by omega) (by omega)))
      simp [this]
  rw [e]
  have := nandn_lt (x := v) (y := m) hv
  unfold W64 at this
  rw [IntKind.wrap_u64]
  omega
theorem wrap_one_shl (i m : Nat) (h : m = 2 ^ (i % 64)) : IntKind.u64.wrap (2 ^ (i % 64)) = (m : Int) := by
  have h1 := shl_wrap 1 (i % 64)
  have h2 : 2 ^ (i % 64) < W64 := by rw [W64_two]; exact Nat.pow_lt_pow_right (by omega) (Nat.mod_lt _ (by omega))
  rw [Nat.one_mul, Nat.mod_eq_of_lt h2, Int.ofNat_one, Int.one_mul] at h1
  rw [h1, h]
theorem place_high {N xl i : Nat} (h : N < W64 ^ xl) (hj : xl ≤ i / 64) : N < 2 ^ i := by
  refine Nat.lt_of_lt_of_le h ?_
  rw [W64_two, ← Nat.pow_mul]
  exact Nat.pow_le_pow_right (by omega) (by omega)

theorem splice_set_in {α : Type} {L R : List α} {o j : Nat} {v : α} (hj : j < R.length) (ho : o ≤ L.length) : (splice L o R).set (o + j) v = splice L o (R.set j v) := by
  unfold splice
  have h1 : (L.take o).length = o := by simp; omega
  rw [List.append_assoc, List.set_append_right _ _ (by rw [h1]; omega), h1, show o + j - o = j by omega, List.set_append_left _ _ hj, List.length_set, List.append_assoc]

theorem setBit0 (a : Option Addr) (l c : Nat) (L : List Nat) (x : Option Addr) (xl xc N i : Nat) (w : World) (h : Rd w a l c L) (hx : Rd w x xl xc (words N)) (hs : SoA a l c x xl xc) (hxl : xl ≤ 100000) (hi : i ≤ 1000000) :
    Calls Tryz.prog 220 #[.slice a l c, .slice x xl xc, .int .u64 (i : Int), .int .u64 0] w (NatRes w a c (nandn N (2 ^ i))) := by
  obtain ⟨j, hj⟩ : ∃ j, j = i / 64 := ⟨_, rfl⟩
  obtain ⟨m, hm⟩ : ∃ m, m = 2 ^ (i % 64) := ⟨_, rfl⟩
  have e1 : (i : Int) / 64 = (j : Int) := by omega
  have gm := wrap_one_shl i m hm
  have hml : m < W64 := by rw [hm, W64_two]; exact Nat.pow_lt_pow_right (by omega) (Nat.mod_lt _ (by omega))
  have H := hid h; have Hx := hid hx; have Hs := hid hs
  have Hlx := hid hx.length
  have HM := hid hm; have HJ := hid hj; have HML := hid hml
  have Hhi : Hid (xl ≤ j → nandn N (2 ^ i) = N) := hid (fun hh => by
    have h1 := lt_words N
    rw [Hlx.out] at h1
    rw [nandn_bit, Nat.testBit_lt_two_pow (place_high h1 (by omega))]; rfl)
  by_cases hm0 : xl = 0
  · subst hm0
    have hN : N = 0 := words_length_zero Hlx.out
    subst hN
    have HMk := hid (make_zero a l c L w h)
    have t1 : decide (0 ≤ j) = true := by simp
    have t2 : decide ((0 : Int) ≤ (j : Int)) = true := by simp
    clear h hx hs hj hm hml
    go_enter Tryz.func220, Tryz.ntmps220
    go_wp2_with fail
    refine HMk.out.mono ?_
    rintro e w1 ⟨rfl, rfl⟩
    go_wp2_with (refine wpList_copy_nothing rfl (.tmp 26) (.tmp 27) 101 101 rfl 177 u101 s177 a x 0 c 0 xc rfl rfl rfl ?_)
    go_ret
    exact ⟨_, _, _, rfl, by rw [Hhi.out (Nat.zero_le _), words_zero]; exact H.out.zero, Into.refl _ _ _, Keeps.refl _ _⟩
  · have HMk := hid (make_any a l c xl L w h (by omega) (by omega))
    clear h hx hs hj hm hml
    by_cases hjx : xl ≤ j
    · have t1 : decide (xl ≤ j) = true := by simpa using hjx
      go_enter Tryz.func220, Tryz.ntmps220
      go_wp2_with fail
      refine HMk.out.mono ?_
      rintro e w1 ⟨ra, rc, rfl, b, o, M, rfl, hb, hw, h1, h2, h3, hi', hk, _⟩
      have Hx1 := hid (Hx.out.keep hk (fun _ _ h => h))
      have Hb := hid hb; have Hw := hid hw; have Hi := hid hi'; have Hk := hid hk
      clear hb hw hi' hk HMk
      obtain ⟨xb, xo, hxe, hxc⟩ := Hx1.out.cells (by omega)
      cases hxe
      have Hxc := hid hxc
      clear hxc
      go_wp2_with (refine wpList_cp rfl (.tmp 26) (.tmp 27) 101 101 rfl 177 u101 s177 (some ⟨b, o, none⟩) (some ⟨xb, xo, none⟩) xl rc xl xc rfl rfl b o (M.map wv) 177 Hb.out ((words N).map wv) (by simp [Hlx.out, Nat.min_self]) (fun _ => ⟨rfl, xb, xo, rfl, Hxc.out⟩) (by simp only [List.length_map]; rw [Hlx.out]; omega) wv_one ?_; intro w2 hb2 hk2; rw [← splice_map] at hb2; have Hb2 := hid hb2; have Hk2 := hid hk2; clear hb2 hk2)
      go_ret
      exact ⟨_, _, _, rfl, by rw [Hhi.out hjx]; exact Made.done Hb2.out Hw.out (words_words N) Hlx.out h1 h2 h3, Hi.out, Made.keeps Hi.out Hk.out Hk2.out⟩
    · have t1 : decide (xl ≤ j) = false := by simpa using hjx
      have hjl : j < xl := by omega
      clear hjx
      go_enter Tryz.func220, Tryz.ntmps220
      go_wp2_with fail
      refine HMk.out.mono ?_
      rintro e w1 ⟨ra, rc, rfl, b, o, M, rfl, hb, hw, h1, h2, h3, hi', hk, _⟩
      have Hx1 := hid (Hx.out.keep hk (fun _ _ h => h))
      have Hb := hid hb; have Hw := hid hw; have Hi := hid hi'; have Hk := hid hk
      clear hb hw hi' hk HMk
      obtain ⟨xb, xo, hxe, hxc⟩ := Hx1.out.cells (by omega)
      cases hxe
      have Hxc := hid hxc
      clear hxc
      obtain ⟨v, hv⟩ : ∃ v, v = (words N).getD j 0 := ⟨_, rfl⟩
      have hvl : v < W64 := by rw [hv]; exact (words_words N).getD _
      have HV := hid hv; have HVL := hid hvl
      have ga := bits_andNot_u64 v m hvl HML.out
      have HNl := hid (nandn_lt (x := v) (y := m) hvl)
      clear hv hvl
      have HCell : Hid (∀ w2, Blk w2 b (splice M o (words N)) → w2.cell? ⟨b, o + j, none⟩ = some (.int .u64 (v : Int))) := hid (fun w2 hb2 => by
        have h5 := Blk.cell hb2 (o := o + j) (by rw [length_splice (by rw [Hlx.out]; omega)]; omega)
        rw [h5, HV.out]
        congr 3
        have h6 := splice_get_in (L := M) (o := o) (R := words N) (i := j) (by omega) (by rw [Hlx.out]; exact hjl)
        rw [List.getD_eq_getElem?_getD, List.getD_eq_getElem?_getD, h6])
      go_wp2_with (refine wpList_cp rfl (.tmp 26) (.tmp 27) 101 101 rfl 177 u101 s177 (some ⟨b, o, none⟩) (some ⟨xb, xo, none⟩) xl rc xl xc rfl rfl b o (M.map wv) 177 Hb.out ((words N).map wv) (by simp [Hlx.out, Nat.min_self]) (fun _ => ⟨rfl, xb, xo, rfl, Hxc.out⟩) (by simp only [List.length_map]; rw [Hlx.out]; omega) wv_one ?_; intro w2 hb2 hk2; rw [← splice_map] at hb2; have cz := HCell.out w2 hb2; have fz := Blk.frozen hb2 (o + j); have Hb2 := hid hb2; have Hk2 := hid hk2; clear hb2 hk2)
      refine (norm_any (some ⟨b, o, none⟩) xl rc ((words N).set j (nandn v m)) _ ?_).mono ?_
      · have hb3 := Blk.set Hb2.out (o + j) (nandn v m)
        rw [splice_set_in (by rw [Hlx.out]; exact hjl) (by omega)] at hb3
        exact Made.done hb3 Hw.out ((words_words N).set _ _ HNl.out) (by rw [List.length_set]; exact Hlx.out) h1 h2 h3
      rintro e w3 ⟨n3, rfl, hr3, _, rfl⟩
      have hwd : Words ((words N).set j (nandn v m)) := (words_words N).set _ _ HNl.out
      have hval := val_nandn_at (words N) (words_words N) j m (by rw [Hlx.out]; exact hjl) HML.out
      rw [← HV.out, val_words, HM.out, HJ.out, pow_place, ← HM.out, ← HJ.out] at hval
      rw [trimZ_eq_words hwd, hval] at hr3
      have Hr3 := hid hr3
      clear hr3 hwd hval
      go_wp2_with fail
      go_ret
      exact ⟨_, _, _, rfl, Hr3.out, Hi.out, Made.keeps Hi.out Hk.out (Hk2.out.setCell ⟨b, o + j, none⟩ (.inl rfl) _)⟩

theorem setBit1_in (a : Option Addr) (l c : Nat) (L : List Nat) (x : Option Addr) (xl xc N i : Nat) (w : World) (h : Rd w a l c L) (hx : Rd w x xl xc (words N)) (hs : SoA a l c x xl xc) (hxl : xl ≤ 100000) (hi : i ≤ 1000000) (hjl0 : i / 64 < xl) :
    Calls Tryz.prog 220 #[.slice a l c, .slice x xl xc, .int .u64 (i : Int), .int .u64 1] w (NatRes w a c (N ||| 2 ^ i)) := by
  obtain ⟨j, hj⟩ : ∃ j, j = i / 64 := ⟨_, rfl⟩
  obtain ⟨m, hm⟩ : ∃ m, m = 2 ^ (i % 64) := ⟨_, rfl⟩
  have e1 : (i : Int) / 64 = (j : Int) := by omega
  have gm := wrap_one_shl i m hm
  have hml : m < W64 := by rw [hm, W64_two]; exact Nat.pow_lt_pow_right (by omega) (Nat.mod_lt _ (by omega))
  have H := hid h; have Hx := hid hx; have Hs := hid hs
  have Hlx := hid hx.length
  have HM := hid hm; have HJ := hid hj; have HML := hid hml
  have HMk := hid (make_any a l c xl L w h (by omega) (by omega))
  have t1 : decide (xl ≤ j) = false := by simp; omega
  have hjl : j < xl := by omega
  clear h hx hs hj hm hml hjl0
  go_enter Tryz.func220, Tryz.ntmps220
  go_wp2_with fail
  refine HMk.out.mono ?_
  rintro e w1 ⟨ra, rc, rfl, b, o, M, rfl, hb, hw, h1, h2, h3, hi', hk, _⟩
  have Hx1 := hid (Hx.out.keep hk (fun _ _ h => h))
  have Hb := hid hb; have Hw := hid hw; have Hi := hid hi'; have Hk := hid hk
  clear hb hw hi' hk HMk
  obtain ⟨xb, xo, hxe, hxc⟩ := Hx1.out.cells (by omega)
  cases hxe
  have Hxc := hid hxc
  clear hxc
  obtain ⟨v, hv⟩ : ∃ v, v = (words N).getD j 0 := ⟨_, rfl⟩
  have hvl : v < W64 := by rw [hv]; exact (words_words N).getD _
  have HV := hid hv; have HVL := hid hvl
  have ga := bits_or_u64_nat v m hvl HML.out
  have HNl := hid (or_lt (x := v) (y := m) hvl HML.out)
  clear hv hvl
  have HCell : Hid (∀ w2, Blk w2 b (splice M o (words N)) → w2.cell? ⟨b, o + j, none⟩ = some (.int .u64 (v : Int))) := hid (fun w2 hb2 => by
    have h5 := Blk.cell hb2 (o := o + j) (by rw [length_splice (by rw [Hlx.out]; omega)]; omega)
    rw [h5, HV.out]
    congr 3
    have h6 := splice_get_in (L := M) (o := o) (R := words N) (i := j) (by omega) (by rw [Hlx.out]; exact hjl)
    rw [List.getD_eq_getElem?_getD, List.getD_eq_getElem?_getD, h6])
  go_wp2_with (refine wpList_cp rfl (.tmp 57) (.tmp 58) 101 101 rfl 177 u101 s177 (some ⟨b, o, none⟩) (some ⟨xb, xo, none⟩) xl rc xl xc rfl rfl b o (M.map wv) 177 Hb.out ((words N).map wv) (by simp [Hlx.out, Nat.min_self]) (fun _ => ⟨rfl, xb, xo, rfl, Hxc.out⟩) (by simp only [List.length_map]; rw [Hlx.out]; omega) wv_one ?_; intro w2 hb2 hk2; rw [← splice_map] at hb2; have cz := HCell.out w2 hb2; have fz := Blk.frozen hb2 (o + j); have Hb2 := hid hb2; have Hk2 := hid hk2; clear hb2 hk2)
  go_ret
  have hb3 := Blk.set Hb2.out (o + j) (v ||| m)
  rw [splice_set_in (by rw [Hlx.out]; exact hjl) (by omega)] at hb3
  have hwd : Words ((words N).set j (v ||| m)) := (words_words N).set _ _ HNl.out
  have hlen : ((words N).set j (v ||| m)).length = xl := by rw [List.length_set]; exact Hlx.out
  have hval := val_or_at (words N) (words_words N) j m (by rw [Hlx.out]; exact hjl) HML.out
  rw [← HV.out, val_words, HM.out, HJ.out, pow_place, ← HM.out, ← HJ.out] at hval
  have hge : N ≤ N ||| 2 ^ i := Nat.left_le_or
  have heq : (words N).set j (v ||| m) = words (N ||| 2 ^ i) := by
    rw [← hval]
    refine eq_words_of_length hwd ?_
    have h5 := words_mono hge
    rw [Hlx.out] at h5
    have h6 := words_lt (val_lt hwd)
    rw [hval, hlen] at h6
    rw [hval, hlen]
    omega
  rw [heq] at hb3
  have hlen' : (words (N ||| 2 ^ i)).length = xl := by rw [← heq]; exact hlen
  exact ⟨_, _, _, rfl, Made.done hb3 Hw.out (words_words _) hlen' h1 h2 h3, Hi.out, Made.keeps Hi.out Hk.out (Hk2.out.setCell ⟨b, o + j, none⟩ (.inl rfl) _)⟩

theorem setBit1_out (a : Option Addr) (l c : Nat) (L : List Nat) (x : Option Addr) (xl xc N i : Nat) (w : World) (h : Rd w a l c L) (hx : Rd w x xl xc (words N)) (hs : SoA a l c x xl xc) (hxl : xl ≤ 100000) (hi : i ≤ 1000000) (hjl0 : xl ≤ i / 64) :
    Calls Tryz.prog 220 #[.slice a l c, .slice x xl xc, .int .u64 (i : Int), .int .u64 1] w (NatRes w a c (N ||| 2 ^ i)) := by
  obtain ⟨j, hj⟩ : ∃ j, j = i / 64 := ⟨_, rfl⟩
  obtain ⟨m, hm⟩ : ∃ m, m = 2 ^ (i % 64) := ⟨_, rfl⟩
  have e1 : (i : Int) / 64 = (j : Int) := by omega
  have gm := wrap_one_shl i m hm
  have hml : m < W64 := by rw [hm, W64_two]; exact Nat.pow_lt_pow_right (by omega) (Nat.mod_lt _ (by omega))
  have H := hid h; have Hx := hid hx; have Hs := hid hs
  have Hlx := hid hx.length
  have HM := hid hm; have HJ := hid hj; have HML := hid hml
  have HMk := hid (make_any a l c (j + 1) L w h (by omega) (by omega))
  rw [show ((j + 1 : Nat) : Int) = (j : Int) + 1 by omega] at HMk
  have t1 : decide (xl ≤ j) = true := by simp; omega
  have hjl : xl ≤ j := by omega
  have hjb : j ≤ 20000 := by omega
  have ga := bits_or_u64_nat 0 m (by omega) hml
  rw [Nat.zero_or, Int.natCast_zero] at ga
  clear h hx hs hj hm hml hjl0
  go_enter Tryz.func220, Tryz.ntmps220
  go_wp2_with fail
  refine HMk.out.mono ?_
  rintro e w1 ⟨ra, rc, rfl, b, o, M, rfl, hb, hw, h1, h2, h3, hi', hk, _⟩
  have Hx1 := hid (Hx.out.keep hk (fun _ _ h => h))
  have Hb := hid hb; have Hw := hid hw; have Hi := hid hi'; have Hk := hid hk
  clear hb hw hi' hk HMk
  obtain ⟨p, hsf, hpq⟩ := slice101_from b o (j + 1) rc xl (by omega) (by omega)
  obtain rfl := hpq (by omega)
  clear hpq
  obtain ⟨k, hk⟩ : ∃ k, k = j + 1 - xl := ⟨_, rfl⟩
  rw [← hk] at hsf
  have HK := hid hk
  clear hk
  -- what the copy reads behind the clearing
  have HSrc : Hid (∀ w2, Keeps (· = b) w1 w2 → Blk w2 b (splice M (o + xl) (List.replicate k 0)) → 0 < xl → ∃ xb xo, x = some ⟨xb, xo, none⟩ ∧ ∀ j v, ((words N).map wv)[j]? = some v → w2.cell? ⟨xb, xo + j, none⟩ = some v) := hid (fun w2 hk2 hb2 h0 => by
    obtain ⟨xb, xo, rfl, hxc⟩ := Hx1.out.cells h0
    refine ⟨xb, xo, rfl, fun q v hq => ?_⟩
    have hql : q < xl := by
      have := (List.getElem?_eq_some_iff.1 hq).1
      rw [List.length_map, Hlx.out] at this
      exact this
    by_cases hbb : b = xb
    · subst hbb
      have hoo : o = xo := by
        rcases (Hi.out.al Hs.out.al (fun k hk => Hx.out.lt hk)) _ _ _ _ rfl rfl with h | h
        · exact absurd rfl h
        · exact h.1
      subst hoo
      have h5 := hxc q v hq
      rw [RowAt.cell Hb.out] at h5
      rw [RowAt.cell hb2, ← h5, splice_map, splice_get_lt (by simp only [List.length_map]; omega) (by omega)]
    · have h5 := hxc q v hq
      have hlt : xb < w1.heap.size := World.block_lt_of_cell? w1 ⟨xb, xo + q, none⟩ h5
      exact (cell_of_block (p := ⟨xb, xo + q, none⟩) (hk2.block xb hlt (fun h => hbb h.symm))).trans h5)
  have hkl : Hid (xl + k = j + 1) := hid (by have := HK.out; omega)
  have HCell : Hid (∀ w3, Blk w3 b (splice (splice M (o + xl) (List.replicate k 0)) o (words N)) → w3.cell? ⟨b, o + j, none⟩ = some (.int .u64 0) ∧ Blk w3 b (splice M o (words N ++ List.replicate k 0))) := hid (fun w3 hb3 => by
    have hkk := hkl.out
    rw [splice_below Hlx.out (by simp; omega)] at hb3
    have hl0 : (words N ++ List.replicate k 0).length = j + 1 := by rw [List.length_append, Hlx.out, List.length_replicate]; omega
    refine ⟨?_, hb3⟩
    rw [Blk.cell hb3 (by rw [length_splice (by omega)]; omega)]
    have h6 := splice_get_in (L := M) (o := o) (R := words N ++ List.replicate k 0) (i := j) (by omega) (by omega)
    rw [List.getD_eq_getElem?_getD, h6, List.getElem?_append_right (by rw [Hlx.out]; omega), List.getElem?_replicate]
    split <;> rfl)
  go_wp2_with (first | (refine wpList_clr rfl (.tmp 53) 101 rfl 177 u101 (.int .u64 0) zero177 rfl rfl (some ⟨b, o + xl, none⟩) k (rc - xl) rfl b (o + xl) (M.map wv) 177 Hb.out (fun _ => rfl) (by simp only [List.length_map]; have := HK.out; omega) ?_; intro w2 hb2 hk2; rw [← Words.wv_replicate, ← splice_map] at hb2; have hsrc := HSrc.out w2 hk2 hb2; have HS2 := hid hsrc; have Hb2 := hid hb2; have Hk2 := hid hk2; clear hb2 hk2 hsrc) | (refine wpList_cp rfl (.tmp 57) (.tmp 58) 101 101 rfl 177 u101 s177 (some ⟨b, o, none⟩) x (j + 1) rc xl xc rfl rfl b o ((splice M (o + xl) (List.replicate k 0)).map wv) 177 Hb2.out ((words N).map wv) (by rw [List.length_map, Hlx.out]; exact (Nat.min_eq_left (by omega)).symm) (fun h0 => ⟨rfl, HS2.out (by rw [List.length_map, Hlx.out] at h0; exact h0)⟩) (by simp only [List.length_map]; rw [Hlx.out, length_splice (by have := hkl.out; simp; omega)]; omega) wv_one ?_; intro w3 hb3 hk3; rw [← splice_map] at hb3; obtain ⟨cz, hb4⟩ := HCell.out w3 hb3; have fz := Blk.frozen hb4 (o + j); have Hb4 := hid hb4; have Hk3 := hid hk3; clear hb3 hb4 hk3))
  go_ret
  have hkk := hkl.out
  have hl0 : (words N ++ List.replicate k 0).length = j + 1 := by rw [List.length_append, Hlx.out, List.length_replicate]; omega
  have hw0 : Words (words N ++ List.replicate k 0) := (words_words N).append (Words.replicate_zero k)
  have hb5 := Blk.set Hb4.out (o + j) m
  rw [splice_set_in (by omega) (by omega)] at hb5
  have hz : (words N ++ List.replicate k 0).getD j 0 = 0 := by
    rw [List.getD_eq_getElem?_getD, List.getElem?_append_right (by rw [Hlx.out]; omega), List.getElem?_replicate]
    split <;> rfl
  have hval := val_or_at _ hw0 j m (by omega) HML.out
  rw [hz, Nat.zero_or, val_append_zeros, val_words, HM.out, HJ.out, pow_place, ← HM.out, ← HJ.out] at hval
  have hwd : Words ((words N ++ List.replicate k 0).set j m) := hw0.set _ _ HML.out
  have hlen : ((words N ++ List.replicate k 0).set j m).length = j + 1 := by rw [List.length_set]; exact hl0
  have heq : (words N ++ List.replicate k 0).set j m = words (N ||| 2 ^ i) := by
    rw [← hval]
    refine eq_words_of_length hwd ?_
    have h6 := words_lt (val_lt hwd)
    rw [hval, hlen] at h6
    rw [hval, hlen]
    have h7 := lt_words (N ||| 2 ^ i)
    have h8 : W64 ^ j ≤ N ||| 2 ^ i := by
      refine Nat.le_trans ?_ Nat.right_le_or
      rw [W64_two, ← Nat.pow_mul]
      exact Nat.pow_le_pow_right (by omega) (by have := HJ.out; omega)
    rcases Nat.lt_or_ge j (words (N ||| 2 ^ i)).length with h9 | h9
    · omega
    · have := Nat.pow_le_pow_right W64_pos h9
      exfalso
      exact absurd (Nat.lt_of_lt_of_le (Nat.lt_of_le_of_lt h8 h7) this) (Nat.lt_irrefl _)
  rw [heq] at hb5
  have hlen' : (words (N ||| 2 ^ i)).length = j + 1 := by rw [← heq]; exact hlen
  exact ⟨_, _, _, rfl, Made.done hb5 Hw.out (words_words _) hlen' h1 h2 h3, Hi.out, Made.keeps Hi.out Hk.out ((Hk2.out.trans Hk3.out).setCell ⟨b, o + j, none⟩ (.inl rfl) _)⟩

theorem setBit1 (a : Option Addr) (l c : Nat) (L : List Nat) (x : Option Addr) (xl xc N i : Nat) (w : World) (h : Rd w a l c L) (hx : Rd w x xl xc (words N)) (hs : SoA a l c x xl xc) (hxl : xl ≤ 100000) (hi : i ≤ 1000000) :
    Calls Tryz.prog 220 #[.slice a l c, .slice x xl xc, .int .u64 (i : Int), .int .u64 1] w (NatRes w a c (N ||| 2 ^ i)) := by
  rcases Nat.lt_or_ge (i / 64) xl with hh | hh
  · exact setBit1_in a l c L x xl xc N i w h hx hs hxl hi hh
  · exact setBit1_out a l c L x xl xc N i w h hx hs hxl hi hh
end Go.Proofs
namespace Go.Proofs
open Go.RowKit
set_option maxHeartbeats 1000000
set_option linter.unusedVariables false
set_option linter.unusedSimpArgs false
set_option maxRecDepth 100000

def zbv (x : Int) (i : Nat) : Int := ((zbit x i).toNat : Int)
theorem zbv_pos {x : Int} (h : 0 ≤ x) (i : Nat) : zbv x i = bitv x.natAbs i := by
  unfold zbv bitv zbit
  rw [if_pos h, show x.toNat = x.natAbs by omega]
theorem zbv_neg {x : Int} (h : x < 0) (i : Nat) : zbv x i = ((!(x.natAbs - 1).testBit i).toNat : Int) := by
  unfold zbv zbit
  rw [if_neg (by omega), show (-x - 1).toNat = x.natAbs - 1 by omega]
/-- The number with its bit i set to b. -/
def sbz (x : Int) (i : Nat) (b : Bool) : Int :=
  if x < 0 then -(((if b then nandn (x.natAbs - 1) (2 ^ i) else (x.natAbs - 1) ||| 2 ^ i : Nat) : Int) + 1) else ((if b then x.natAbs ||| 2 ^ i else nandn x.natAbs (2 ^ i) : Nat) : Int)
theorem zbit_lt {x : Int} (h : x < 0) (i : Nat) : zbit x i = !(x.natAbs - 1).testBit i := by
  unfold zbit
  rw [if_neg (by omega), show (-x - 1).toNat = x.natAbs - 1 by omega]
theorem zbit_ge {x : Int} (h : 0 ≤ x) (i : Nat) : zbit x i = x.natAbs.testBit i := by
  unfold zbit
  rw [if_pos h, show x.toNat = x.natAbs by omega]
theorem sbz_eq (x : Int) (i : Nat) (b : Bool) : sbz x i b = if b = zbit x i then x else if b then x + ((2 ^ i : Nat) : Int) else x - ((2 ^ i : Nat) : Int) := by
  unfold sbz
  by_cases h : x < 0
  · rw [if_pos h, zbit_lt h]
    obtain ⟨m, hm⟩ : ∃ m, m = x.natAbs - 1 := ⟨_, rfl⟩
    have hx : x = -(m : Int) - 1 := by omega
    rw [← hm]
    cases hb : m.testBit i with
    | true =>
      have hle : 2 ^ i ≤ m := Nat.ge_two_pow_of_testBit hb
      cases b with
      | true => rw [if_pos rfl, nandn_bit, if_pos hb, if_neg (by simp), if_pos rfl]; omega
      | false => rw [if_neg (by simp), or_bit, if_pos hb, if_pos (by simp)]; omega
    | false =>
      cases b with
      | true => rw [if_pos rfl, nandn_bit, if_neg (by simp [hb]), if_pos (by simp)]; omega
      | false => rw [if_neg (by simp), or_bit, if_neg (by simp [hb]), if_neg (by simp), if_neg (by simp)]; omega
  · rw [if_neg h, zbit_ge (by omega)]
    obtain ⟨m, hm⟩ : ∃ m, m = x.natAbs := ⟨_, rfl⟩
    have hx : x = (m : Int) := by omega
    rw [← hm]
    cases hb : m.testBit i with
    | true =>
      have hle : 2 ^ i ≤ m := Nat.ge_two_pow_of_testBit hb
      cases b with
      | true => rw [if_pos rfl, or_bit, if_pos hb, if_pos rfl]; omega
      | false => rw [if_neg (by simp), nandn_bit, if_pos hb, if_neg (by simp), if_neg (by simp)]; omega
    | false =>
      cases b with
      | true => rw [if_pos rfl, or_bit, if_neg (by simp [hb]), if_neg (by simp), if_pos rfl]; omega
      | false => rw [if_neg (by simp), nandn_bit, if_neg (by simp [hb]), if_pos rfl]; omega

theorem bit175 (px tx : Nat) (x : Int) (ax : Option Addr) (lx cx i : Nat) (w : World) (hx : IntS w px tx x ax lx cx) (hlx : lx ≤ 400000) (hi : i ≤ 1000000) :
    Calls Tryz.prog 175 #[.pointer (some ⟨px, 0, none⟩), .int .i64 (i : Int)] w fun e w' => e = .returned (.int .u64 (zbv x i)) ∧ Keeps (fun _ => False) w w' := by
  have Hx := hid hx
  obtain ⟨x1, x2, _, _⟩ := hx.row.facts
  have Hlx := hid hx.rd.length
  by_cases h0 : i = 0
  · subst h0
    have hpar : zbv x 0 = ((x.natAbs % 2 : Nat) : Int) := by
      by_cases h : 0 ≤ x
      · rw [zbv_pos h]; unfold bitv; rw [Nat.toNat_testBit]; simp
      · rw [zbv_neg (by omega)]
        rw [Nat.testBit_zero]
        by_cases hp : (x.natAbs - 1) % 2 = 1
        · simp [hp]; omega
        · simp [hp]; omega
    by_cases hl0 : lx = 0
    · subst hl0
      have hN : x.natAbs = 0 := words_length_zero Hlx.out
      rw [hpar, hN]
      clear hx hN hpar
      go_enter Tryz.func175, Tryz.ntmps175
      go_wp2_with fail
      go_ret
      exact ⟨rfl, Keeps.refl _ _⟩
    · obtain ⟨xb, xo, rfl, hc⟩ := hx.rd.cell (by omega)
      have c0 := hc 0 (by omega)
      obtain ⟨v, hv⟩ : ∃ v, v = (words x.natAbs).getD 0 0 := ⟨_, rfl⟩
      rw [← hv] at c0
      simp only [Nat.add_zero] at c0
      have hvl : v < 18446744073709551616 := by rw [hv]; exact (words_words _).getD _
      have t1 : decide ((0 : Int) < (lx : Int)) = true := by simp; omega
      have t2 : decide (0 < lx) = true := by simp; omega
      have h0l : 0 < lx := by omega
      have ga := and_one_u64 v hvl
      have Hres : Hid (((v % 2 : Nat) : Int) = zbv x 0) := hid (by
        rw [hpar, hv]
        have h5 := val_head_tail (words x.natAbs)
        rw [val_words] at h5
        conv => rhs; rw [h5]
        unfold W64
        omega)
      clear hx hc hv hvl hpar hl0
      go_enter Tryz.func175, Tryz.ntmps175
      go_wp2_with fail
      go_ret
      refine ⟨?_, Keeps.refl _ _⟩
      show Ending.returned (.int .u64 ((v : Int) % 2)) = _
      rw [← Hres.out, Int.natCast_emod]; rfl
  · have t0 : ((i : Int) == 0) = false := by simp; omega
    have t1 : decide ((i : Int) < 0) = false := by simp
    have gu : IntKind.u64.wrap (i : Int) = (i : Int) := by rw [IntKind.wrap_u64]; omega
    by_cases hneg : x < 0
    · rw [decide_eq_true hneg] at x1
      have HOne := hid (natOne_any w.drew)
      have HSub : Hid (∀ w1 b, Rd w1 (some ⟨b, 0, none⟩) 1 1 (words 1) → w.heap.size ≤ b → Keeps (fun _ => False) w w1 → Calls Tryz.prog 197 #[.slice none 0 0, .slice ax lx cx, .slice (some ⟨b, 0, none⟩) 1 1] w1 (NatRes w none 0 (x.natAbs - 1))) :=
        hid (fun w1 b h1 h2 h3 => sub_one (Rd.nil w) hx.rd (Al.none _ _ _) hlx (by omega) h1 h2 h3)
      have hS : Hid (∀ w', Keeps (fun _ => False) w w' → w'.cell? ⟨px, 1, none⟩ = some (.slice ax lx cx)) := hid (fun w' hk => (hx.row.after hk (fun h => h)).2.1)
      have HK0 : Hid (Keeps (fun _ => False) w w.drew) := hid (Keeps.refl _ w).drew
      have Hz := hid (zbv_neg hneg i)
      obtain ⟨bb, hbb⟩ : ∃ bb, bb = (x.natAbs - 1).testBit i := ⟨_, rfl⟩
      have Hbv : Hid (bitv (x.natAbs - 1) i = (bb.toNat : Int)) := hid (by unfold bitv; rw [hbb])
      rw [← hbb] at Hz
      clear hx hneg x2 hbb
      go_enter Tryz.func175, Tryz.ntmps175
      go_upto_region 8 with fail
      go_cut [5] from 28 to 34 (fun tv wx => NatRes w none 0 (x.natAbs - 1) (.returned tv) wx)
      case first =>
        go_region_held3 (fun w' => w'.cell? ⟨px, 1, none⟩ = some (.slice ax lx cx))
          (first | with_reducible exact hS.out _ HK0.out | with_reducible exact hS.out _ HK1.out | with_reducible exact hS.out _ HK.out)
          (first
           | (go_at_call 202; (with_reducible refine HOne.out.mono ?_); rintro e w1 ⟨b, rfl, h1, h2, h3⟩; have H1 := hid h1; have H2 := hid (show w.heap.size ≤ b from h2); have HK1 := hid (HK0.out.trans h3); clear h1 h2 h3)
           | (go_at_call 197; (with_reducible refine (HSub.out _ _ H1.out H2.out HK1.out).mono ?_); rintro e w2 ⟨ra, rl, rc, rfl, h1, h2, h3⟩; have HR := hid h1; have HI := hid h2; have HK := hid (h3.mono (T := fun _ => False) (fun i _ h => by obtain ⟨o, ho⟩ := h; cases ho)); clear h1 h2 h3))
        all_goals
          go_wp2_with fail
          go_meet
        all_goals exact ⟨_, _, _, rfl, HR.out, HI.out, HK.out.any⟩
      case rest =>
        obtain ⟨ra, rl, rc, htv, h1, h2, h3⟩ := hcut
        cases htv
        have HK := hid (h3.mono (T := fun _ => False) (fun i _ h => by obtain ⟨o, ho⟩ := h; cases ho))
        have HB := hid (bit219 ra rl rc _ i wc h1 hi)
        rw [Hbv.out] at HB
        clear h1 h2 h3
        have gx0 : bits .xor .u64 0 1 = 1 := by kernel_rfl
        have gx1 : bits .xor .u64 1 1 = 0 := by kernel_rfl
        cases bb with
        | true =>
          have HB2 : Hid (Calls Tryz.prog 219 #[.slice ra rl rc, .int .u64 (i : Int)] wc fun e w' => e = .returned (.int .u64 1) ∧ w' = wc) := HB
          clear HB
          go_wp2_with fail
          refine HB2.out.mono ?_
          rintro e w2 ⟨rfl, rfl⟩
          go_wp2_with fail
          go_ret
          exact ⟨by rw [Hz.out]; rfl, HK.out⟩
        | false =>
          have HB2 : Hid (Calls Tryz.prog 219 #[.slice ra rl rc, .int .u64 (i : Int)] wc fun e w' => e = .returned (.int .u64 0) ∧ w' = wc) := HB
          clear HB
          go_wp2_with fail
          refine HB2.out.mono ?_
          rintro e w2 ⟨rfl, rfl⟩
          go_wp2_with fail
          go_ret
          exact ⟨by rw [Hz.out]; rfl, HK.out⟩
    · rw [decide_eq_false hneg] at x1
      have HB := hid (bit219 ax lx cx _ i w hx.rd hi)
      have Hz := hid (zbv_pos (x := x) (by omega) i)
      rw [← Hz.out] at HB
      obtain ⟨z, hz⟩ : ∃ z, z = zbv x i := ⟨_, rfl⟩
      rw [← hz] at HB ⊢
      clear hx hneg Hz hz
      go_enter Tryz.func175, Tryz.ntmps175
      go_wp2_with fail
      refine HB.out.mono ?_
      rintro e w2 ⟨rfl, rfl⟩
      go_wp2_with fail
      go_ret
      exact ⟨rfl, Keeps.refl _ _⟩

theorem setBit176 (pz px tz tx : Nat) (z x : Int) (az ax : Option Addr) (lz cz lx cx i : Nat) (b : Bool) (w : World) (hz : IntS w pz tz z az lz cz) (hx : IntS w px tx x ax lx cx)
    (hax : SoA az lz cz ax lx cx) (hlx : lx ≤ 50000) (hi : i ≤ 1000000) :
    Calls Tryz.prog 176 #[.pointer (some ⟨pz, 0, none⟩), .pointer (some ⟨px, 0, none⟩), .int .i64 (i : Int), .int .u64 (b.toNat : Int)] w fun e w' => e = .returned (.pointer (some ⟨pz, 0, none⟩)) ∧ IntRes w pz tz az cz (sbz x i b) w' := by
  have Hz := hid hz; have Hx := hid hx
  obtain ⟨z1, z2, z3, z4⟩ := hz.row.facts
  obtain ⟨x1, x2, _, _⟩ := hx.row.facts
  have t1 : decide ((i : Int) < 0) = false := by simp
  have gu : IntKind.u64.wrap (i : Int) = (i : Int) := by rw [IntKind.wrap_u64]; omega
  by_cases hneg : x < 0
  · rw [decide_eq_true hneg] at x1
    have HOne := hid (natOne_any w.drew)
    have HSub : Hid (∀ w1 b, Rd w1 (some ⟨b, 0, none⟩) 1 1 (words 1) → w.heap.size ≤ b → Keeps (fun _ => False) w w1 → Calls Tryz.prog 197 #[.slice az lz cz, .slice ax lx cx, .slice (some ⟨b, 0, none⟩) 1 1] w1 (NatRes w az cz (x.natAbs - 1))) :=
      hid (fun w1 b h1 h2 h3 => sub_one hz.rd hx.rd hax.al (by omega) (by omega) h1 h2 h3)
    have hS : Hid (∀ w', Keeps (InB az) w w' → w'.cell? ⟨pz, 1, none⟩ = some (.slice az lz cz) ∧ w'.cell? ⟨px, 1, none⟩ = some (.slice ax lx cx)) := hid (fun w' hk => ⟨(hz.row.after hk (hz.rd.not_row hz.row)).2.1, (hx.row.after hk (hz.rd.not_row hx.row)).2.1⟩)
    have HK0 : Hid (Keeps (fun _ => False) w w.drew) := hid (Keeps.refl _ w).drew
    obtain ⟨M, hM⟩ : ∃ M, M = (if b then nandn (x.natAbs - 1) (2 ^ i) else (x.natAbs - 1) ||| 2 ^ i : Nat) := ⟨_, rfl⟩
    have Hr : Hid (sbz x i b = -((M : Int) + 1)) := hid (by unfold sbz; rw [if_pos hneg, hM])
    have HSet : Hid (∀ w1 ra rl rc, Rd w1 ra rl rc (words (x.natAbs - 1)) → Calls Tryz.prog 220 #[.slice ra rl rc, .slice ra rl rc, .int .u64 (i : Int), .int .u64 ((!b).toNat : Int)] w1 (NatRes w1 ra rc M)) := hid (fun w1 ra rl rc h1 => by
      have hrl : rl ≤ 100000 := by
        have h5 := words_mono (show x.natAbs - 1 ≤ x.natAbs by omega)
        rw [h1.length, hx.rd.length] at h5
        omega
      cases b with
      | true => rw [if_pos rfl] at hM; rw [hM]; exact setBit0 ra rl rc _ ra rl rc _ i w1 h1 h1 (SoA.refl _ _ _) hrl hi
      | false => rw [if_neg (by simp)] at hM; rw [hM]; exact setBit1 ra rl rc _ ra rl rc _ i w1 h1 h1 (SoA.refl _ _ _) hrl hi)
    have HMl : Hid ((words M).length ≤ 400000) := hid (by
      have h1 : M ≤ x.natAbs - 1 + 2 ^ i := by
        rw [hM]
        split
        · exact Nat.le_trans (nandn_lt2 _ _) (Nat.le_add_right _ _)
        · rw [or_bit]; split
          · exact Nat.le_add_right _ _
          · exact Nat.le_refl _
      obtain ⟨K, hK⟩ : ∃ K, K = lx + i / 64 + 1 := ⟨_, rfl⟩
      have h2 : x.natAbs < W64 ^ K := Nat.lt_of_lt_of_le (lt_words _) (Nat.pow_le_pow_right W64_pos (by rw [hx.rd.length]; omega))
      have h3 : 2 ^ i ≤ W64 ^ K := by
        rw [W64_two, ← Nat.pow_mul]
        exact Nat.pow_le_pow_right (by omega) (by omega)
      have h4 : W64 ^ K * 2 ≤ W64 ^ (K + 1) := by rw [Nat.pow_succ]; exact Nat.mul_le_mul_left _ (by unfold W64; omega)
      refine Nat.le_trans (words_lt (n := M) (k := K + 1) ?_) (by omega)
      generalize W64 ^ K = P at *
      generalize 2 ^ i = q at *
      omega)
    have gx : bits .xor .u64 (b.toNat : Int) 1 = ((!b).toNat : Int) := by cases b <;> kernel_rfl
    clear hz hx hax hneg z1 z2 z3 z4 x2 hM
    go_enter Tryz.func176, Tryz.ntmps176
    go_upto_region 4 with fail
    go_cut [9] from 17 to 27 (fun tv wx => NatRes w az cz (x.natAbs - 1) (.returned tv) wx)
    case first =>
      go_region_held3 (fun w' => w'.cell? ⟨pz, 1, none⟩ = some (.slice az lz cz) ∧ w'.cell? ⟨px, 1, none⟩ = some (.slice ax lx cx))
        (first | with_reducible exact hS.out _ HK0.out.any | with_reducible exact hS.out _ HK1.out.any | with_reducible exact hS.out _ HK.out)
        (first
         | (go_at_call 202; (with_reducible refine HOne.out.mono ?_); rintro e w1 ⟨b1, rfl, h1, h2, h3⟩; have H1 := hid h1; have H2 := hid (show w.heap.size ≤ b1 from h2); have HK1 := hid (HK0.out.trans h3); clear h1 h2 h3)
         | (go_at_call 197; (with_reducible refine (HSub.out _ _ H1.out H2.out HK1.out).mono ?_); rintro e w2 ⟨ra, rl, rc, rfl, h1, h2, h3⟩; have HR := hid h1; have HI := hid h2; have HK := hid h3; clear h1 h2 h3))
      all_goals
        go_wp2_with fail
        go_meet
      all_goals exact ⟨_, _, _, rfl, HR.out, HI.out, HK.out⟩
    case rest =>
      obtain ⟨ra, rl, rc, htv, h1, h2, h3⟩ := hcut
      cases htv
      have HI := hid h2; have HK := hid h3
      have HC3 := hid (HSet.out wc ra rl rc h1)
      clear h1 h2 h3 HSet
      go_wp2_with fail
      refine HC3.out.mono ?_
      intro e w3 hn3
      obtain ⟨sa, sl, sc, rfl, h1, h2, h3⟩ := NatRes.chain HI.out HK.out hn3
      have HR3 := hid h1; have HI3 := hid h2; have HK3 := hid h3
      have HOne3 := hid (natOne_any w3)
      clear h1 h2 h3 hn3 HC3 HI HK
      go_wp2_with fail
      refine HOne3.out.mono ?_
      rintro e w4 ⟨b4, rfl, h1, h2, h3⟩
      have HAdd := hid (add_one HR3.out HR3.out (Al.refl _ _) (by have := HMl.out; rw [HR3.out.length] at this; exact this) h1 h2 h3)
      clear h1 h2 h3 HOne3
      go_wp2_with fail
      refine HAdd.out.mono ?_
      intro e w5 hn5
      obtain ⟨ta, tl, tc, rfl, h1, h2, h3⟩ := NatRes.chain HI3.out HK3.out hn5
      have HR5 := hid h1; have HI5 := hid h2; have HK5 := hid h3
      have hrow5 := h3.row Hz.out.row (Hz.out.rd.not_row Hz.out.row)
      obtain ⟨d0, d1, d2, d3⟩ := IntRow.facts hrow5
      have Hrow5 := hid hrow5
      have htl : 0 < tl := by rw [← h1.length]; exact words_length_pos (by omega)
      have t5 : decide ((0 : Int) < (tl : Int)) = true := by simp; omega
      have hso : ∀ v, (w5.setCell ⟨pz, 1, none⟩ v).cell? ⟨pz, 1, none⟩ = some v := fun v => by
        have := RowAt.cell (RowAt.set hrow5 1 v) 1
        simpa using this
      clear h1 h2 h3 hn5 HAdd HI3 HK3 HR3 hrow5
      go_wp2_with fail
      go_ret
      refine ⟨rfl, ?_⟩
      rw [Hr.out]
      exact IntRes.both (s := true) Hrow5.out HR5.out HI5.out (HK5.out.mono (fun i _ h => .inr h)) (decide_eq_true (by omega)).symm (by omega)
  · have hpos : 0 ≤ x := by omega
    rw [decide_eq_false hneg] at x1
    obtain ⟨M, hM⟩ : ∃ M, M = (if b then x.natAbs ||| 2 ^ i else nandn x.natAbs (2 ^ i) : Nat) := ⟨_, rfl⟩
    have Hr : Hid (sbz x i b = (M : Int)) := hid (by unfold sbz; rw [if_neg hneg, hM])
    have HC : Hid (Calls Tryz.prog 220 #[.slice az lz cz, .slice ax lx cx, .int .u64 (i : Int), .int .u64 (b.toNat : Int)] w.drew (NatRes w.drew az cz M)) := hid (by
      cases b with
      | true => rw [if_pos rfl] at hM; rw [hM]; exact setBit1 az lz cz _ ax lx cx _ i _ Hz.out.rd.drew Hx.out.rd.drew hax (by omega) hi
      | false => rw [if_neg (by simp)] at hM; rw [hM]; exact setBit0 az lz cz _ ax lx cx _ i _ Hz.out.rd.drew Hx.out.rd.drew hax (by omega) hi)
    clear hz hx hax hneg hpos hM
    go_enter Tryz.func176, Tryz.ntmps176
    go_wp2_with fail
    go_region_law (first | (go_simp; go_at_call 220; (with_reducible refine HC.out.mono ?_); rintro e w1 ⟨ra, rl, rc, rfl, h1, h2, h3⟩; obtain ⟨d0, d1, d2, d3⟩ := Hz.out.row.after (((Keeps.refl _ w).drew).trans h3) (Hz.out.rd.not_row Hz.out.row); have H1 := hid h1; have H2 := hid h2; have H3 := hid h3; clear h1 h2 h3))
    all_goals go_wp2_with fail
    all_goals go_ret
    all_goals
      refine ⟨rfl, ?_⟩
      rw [Hr.out]
      exact IntRes.both (s := false) (((Keeps.refl _ w).drew.trans H3.out).row Hz.out.row (Hz.out.rd.not_row Hz.out.row)) H1.out (H2.out.mono (Nat.le_refl _)) (((Keeps.refl _ w).drew.trans H3.out).mono (fun i _ h => .inr h)) (by simp) (by simp)
end Go.Proofs
