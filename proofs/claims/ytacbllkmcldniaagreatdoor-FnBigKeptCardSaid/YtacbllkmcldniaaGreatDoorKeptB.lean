/- Parts of the proofs over the numbers of any length: Canon, Law6. -/
import Derived.Outline
import Derived.Test.YtacbllkmcldniaaGreatDoorSpecA
import Derived.Test.YtacbllkmcldniaaGreatDoorKeptA
import Derived.Test.YtacbllkmcldniaaGreatDoorSpecC
import Derived.Test.YtacbllkmcldniaaGreatDoorSpecB
import Derived.Test.YtacbllkmcldniaaGreatDoorBaseD
set_option linter.unusedSimpArgs false
set_option linter.unusedVariables false
namespace Go.Proofs
open Go.RowKit
set_option maxHeartbeats 400000
set_option linter.unusedVariables false
set_option linter.unusedSimpArgs false
set_option maxRecDepth 100000

/-! ### A text that Read takes is the text of its number -/

theorem dval_digit {d : Nat → Nat} : ∀ n i, i < n → (∀ k, k < n → d k < 10) → dval d n / 10 ^ (n - 1 - i) % 10 = d i := by
  intro n
  induction n with
  | zero => intro i h; omega
  | succ n ih =>
    intro i hi hd
    have hn := hd n (by omega)
    show (10 * dval d n + d n) / 10 ^ (n + 1 - 1 - i) % 10 = d i
    by_cases h : i = n
    · subst h
      rw [show i + 1 - 1 - i = 0 by omega, Nat.pow_zero, Nat.div_one]
      omega
    · rw [show n + 1 - 1 - i = (n - 1 - i) + 1 by omega, Nat.pow_succ, Nat.mul_comm (10 ^ (n - 1 - i)) 10, ← Nat.div_div_eq_div_mul, show (10 * dval d n + d n) / 10 = dval d n by omega]
      exact ih i (by omega) (fun k hk => hd k (by omega))
theorem dval_ge (d : Nat → Nat) : ∀ n, d 0 * 10 ^ n ≤ dval d (n + 1)
  | 0 => by simp [dval]
  | n + 1 => by
    have h := dval_ge d n
    show d 0 * 10 ^ (n + 1) ≤ 10 * dval d (n + 1) + d (n + 1)
    rw [Nat.pow_succ, ← Nat.mul_assoc]
    omega
theorem nd_dval {d : Nat → Nat} {n : Nat} (hd : ∀ k, k < n → d k < 10) (hn : 0 < n) (hc : n = 1 ∨ d 0 ≠ 0) : nd (dval d n) = n := by
  have h1 := nd_le (dval_lt hd) hn
  have h2 := nd_pos (dval d n)
  rcases hc with rfl | hc
  · omega
  · obtain ⟨m, rfl⟩ : ∃ m, n = m + 1 := ⟨n - 1, by omega⟩
    by_cases h3 : nd (dval d (m + 1)) ≤ m
    · exfalso
      have h4 := nd_lt (dval d (m + 1))
      have h5 : 10 ^ nd (dval d (m + 1)) ≤ 10 ^ m := Nat.pow_le_pow_right (by omega) h3
      have h6 := dval_ge d m
      have h7 : 1 * 10 ^ m ≤ d 0 * 10 ^ m := Nat.mul_le_mul_right _ (by omega)
      omega
    · omega
theorem numText_txt {s : ByteArray} {neg : Bool} {n : Nat} {d : Nat → Nat} (ht : NumText s neg n d) (hc : n = 1 ∨ d 0 ≠ 0) : strB (txt neg (dval d n)) = s := by
  have hd : ∀ k, k < n → d k < 10 := fun k hk => (ht.dig.2 k hk).1
  have hnd := nd_dval hd ht.pos hc
  have hl : (decs (dval d n)).length = n := by unfold decs; rw [lowDigs_length, hnd]
  have hg : ∀ i, i < n → (decs (dval d n)).getD i 0 = 48 + d i := by
    intro i hi
    unfold decs
    rw [hnd, lowDigs_get _ _ _ hi, dval_digit n i hi hd]
  have h1 := ht.dig.1
  have hlen : (txt neg (dval d n)).length = s.size := by
    unfold txt
    rw [List.length_append, hl, ← h1]
    cases neg <;> rfl
  have hel : ∀ i (hi : i < s.size), (txt neg (dval d n)).getD i 0 = (s[i]'hi).toNat := by
    intro i hi
    unfold txt
    cases neg with
    | false =>
      simp only [Bool.false_eq_true, if_false, List.nil_append]
      simp only [Bool.false_eq_true, if_false] at h1
      rw [hg i (by omega)]
      obtain ⟨_, h3, h4⟩ := ht.dig.2 i (by omega)
      simp only [Bool.false_eq_true, if_false, Nat.zero_add] at h4
      omega
    | true =>
      simp only [if_true] at h1
      simp only [if_true]
      cases i with
      | zero =>
        obtain ⟨_, h4⟩ := ht.minus rfl
        simp only [List.singleton_append, List.getD_cons_zero]
        omega
      | succ i =>
        simp only [List.singleton_append, List.getD_cons_succ]
        rw [hg i (by omega)]
        obtain ⟨_, h3, h4⟩ := ht.dig.2 i (by omega)
        simp only [if_true] at h4
        have h5 : s[1 + i]'(by omega) = s[i + 1]'hi := by congr 1; omega
        rw [h5] at h4
        omega
  have hda : (strB (txt neg (dval d n))).data = s.data := by
    apply Array.ext
    · have : s.size = s.data.size := rfl
      show ((txt neg (dval d n)).map Int.ofNat |>.map fun n => UInt8.ofNat n.toNat).toArray.size = _
      simp
      omega
    · intro i h2 h3
      have h4 := hel i h3
      have h5 : i < (txt neg (dval d n)).length := by rw [hlen]; exact h3
      rw [List.getD_eq_getElem?_getD, List.getElem?_eq_getElem h5, Option.getD_some] at h4
      show ((txt neg (dval d n)).map Int.ofNat |>.map fun n => UInt8.ofNat n.toNat).toArray[i]'_ = _
      apply UInt8.toNat_inj.1
      simp
      rw [h4]
      show (s[i]'h3).toNat % 256 = (s.data[i]'h3).toNat
      have := (s[i]'h3).toNat_lt
      exact Nat.mod_eq_of_lt this
  cases h : strB (txt neg (dval d n)) with
  | mk D =>
    cases s with
    | mk E => rw [h] at hda; simp only at hda; rw [hda]

theorem bigRight_can (s : ByteArray) (w : World) (hs : s.size ≤ 2147483647) :
    Calls Tryz.prog 18 #[.string s] w fun e w' => Keeps (fun _ => False) w w' ∧
      ((∃ z v, Txt s z ∧ strB (txt (decide (z < 0)) z.natAbs) = s ∧ e = .returned (.tuple #[v, .bool true]) ∧ NumV w' w.heap.size v z) ∨ (∃ n a l c, e = .returned (.tuple #[.agg #[.bool n, .slice a l c], .bool false]))) := by
  refine (bigRight18 s w hs).mono ?_
  rintro e w' ⟨hk, h⟩
  refine ⟨hk, ?_⟩
  rcases h with ⟨hok, a, c, he, hr, hge⟩ | ⟨_, he⟩
  · by_cases h200 : s.size ≤ 200
    · left
      obtain ⟨h1, h2, h3⟩ := right_num h200 hok
      have hz : decide (numZ (ledBy s) (dval (dg (restOf s)) (restOf s).size) < 0) = ledBy s := by
        rw [numZ_neg]
        cases hl : ledBy s with
        | false => rfl
        | true => rw [decide_eq_true (h3 hl)]; rfl
      have hcan : (restOf s).size = 1 ∨ dg (restOf s) 0 ≠ 0 := by
        obtain ⟨g1, g2, g3, g4⟩ := hok
        rcases g3 with g3 | g3
        · exact .inl (by omega)
        · right
          have g5 := g1 0 (Nat.le_refl _) (by omega)
          unfold dg
          omega
      refine ⟨numZ (ledBy s) (dval (dg (restOf s)) (restOf s).size), _, ⟨_, _, _, h1, rfl, h200⟩, ?_, by rw [he, decide_eq_true h200], a, c, ?_, ?_, hge⟩
      · rw [hz, numZ_abs]; exact numText_txt h1 hcan
      · rw [hz, numZ_abs, ← h2]
      · rw [numZ_abs, ← h2]; exact hr
    · right
      exact ⟨_, _, _, _, by rw [he, decide_eq_false h200]⟩
  · exact .inr ⟨_, _, _, _, he⟩
end Go.Proofs
namespace Go.Proofs
open Go.RowKit
set_option maxHeartbeats 800000
set_option linter.unusedVariables false
set_option linter.unusedSimpArgs false
set_option maxRecDepth 100000

/-- The cells of a number that lies in a block of its own. -/
theorem RowAt.num {w : World} {p : Nat} {x y : Value} (h : RowAt w p 24 [x, y]) : w.cell? ⟨p, 0, none⟩ = some x ∧ w.cell? ⟨p, 1, none⟩ = some y := ⟨h.cell 0, h.cell 1⟩

theorem law6 (a b : ByteArray) (w : World) (G : Glob w) (hma : a.size ≤ 9223372036854775807) (hmb : b.size ≤ 9223372036854775807) :
    Calls Tryz.prog 6 #[.string a, .string b] w fun e w' => e = .returned (.bool true) ∧ Keeps (fun _ => False) w w' := by
  have HG := hid G
  clear G
  by_cases ha : a.size ≤ 2147483647
  · by_cases hb : b.size ≤ 2147483647
    · have H1 := hid (bigRight_can a w ha)
      have H2 := hid (fun W => bigRight_can b W hb)
      go_enter Tryz.func6, Tryz.ntmps6
      go_wp2_with fail
      refine H1.out.mono ?_
      rintro e w1 ⟨hk1, hcase⟩
      have HK1 := hid hk1
      clear hk1
      rcases hcase with ⟨x, v, htx, hcx, rfl, a1, c1, rfl, hx, hge1⟩ | ⟨n1, a1, l1, c1, rfl⟩
      · have HCX := hid hcx; have HTX := hid htx; have HX := hid hx; have HGE1 := hid hge1
        obtain ⟨l1, hl1⟩ : ∃ l, l = (digs x.natAbs).length := ⟨_, rfl⟩
        obtain ⟨n1, hn1⟩ : ∃ n, n = decide (x < 0) := ⟨_, rfl⟩
        rw [← hl1, ← hn1]
        have HL1 := hid hl1; have HN1 := hid hn1
        clear htx hcx hx hge1 hl1 hn1
        go_wp2_with fail
        obtain ⟨W1, e1⟩ : ∃ W, W = w1.alloc (.cells #[.bool n1, .slice a1 l1 c1] 24) := ⟨_, rfl⟩
        obtain ⟨p1, hp1⟩ : ∃ p, p = w1.heap.size := ⟨_, rfl⟩
        have hr1 : RowAt W1 p1 24 [.bool n1, .slice a1 l1 c1] := by rw [e1, hp1]; exact RowAt.new w1 24 [.bool n1, .slice a1 l1 c1]
        have hK : Keeps (fun _ => False) w W1 := by rw [e1]; exact HK1.out.alloc _
        have hX1 : RdV W1 a1 c1 (digs x.natAbs) := by rw [e1]; exact HX.out.keep ((Keeps.refl (fun _ => False) w1).alloc _) (fun _ _ h => h)
        rw [← e1, ← hp1]
        have HR1 := hid hr1; have HKW := hid hK; have HX1 := hid hX1
        clear hr1 hK hX1 e1 hp1
        refine (H2.out _).mono ?_
        rintro e w2 ⟨hk2, hcase⟩
        have HK2 := hid hk2
        clear hk2
        rcases hcase with ⟨y, v, hty, hcy, rfl, a2, c2, rfl, hy, hge2⟩ | ⟨n2, a2, l2, c2, rfl⟩
        · have HTY := hid hty; have HY := hid hy
          obtain ⟨l2, hl2⟩ : ∃ l, l = (digs y.natAbs).length := ⟨_, rfl⟩
          obtain ⟨n2, hn2⟩ : ∃ n, n = decide (y < 0) := ⟨_, rfl⟩
          rw [← hl2, ← hn2]
          have HL2 := hid hl2; have HN2 := hid hn2
          clear hty hcy hy hge2 hl2 hn2
          go_wp2_with fail
          obtain ⟨W2, e2⟩ : ∃ W, W = w2.alloc (.cells #[.bool n2, .slice a2 l2 c2] 24) := ⟨_, rfl⟩
          obtain ⟨p2, hp2⟩ : ∃ p, p = w2.heap.size := ⟨_, rfl⟩
          have hr2 : RowAt W2 p2 24 [.bool n2, .slice a2 l2 c2] := by rw [e2, hp2]; exact RowAt.new w2 24 [.bool n2, .slice a2 l2 c2]
          have hk : Keeps (fun _ => False) W1 W2 := by rw [e2]; exact HK2.out.alloc _
          have hY2 : RdV W2 a2 c2 (digs y.natAbs) := by rw [e2]; exact HY.out.keep ((Keeps.refl (fun _ => False) w2).alloc _) (fun _ _ h => h)
          have hr1 := hk.row HR1.out (fun h => h)
          have hX2 := HX1.out.keep hk (fun _ _ h => h)
          have hG2 := HG.out.keep (HKW.out.trans hk) (fun _ _ h => h)
          rw [← e2, ← hp2]
          have HKW2 := hid (HKW.out.trans hk); have HR12 := hid hr1; have HR2 := hid hr2; have HX2 := hid hX2; have HY2 := hid hY2; have HG2 := hid hG2
          clear hr1 hr2 hk hX2 hY2 hG2 e2 hp2
          have hlen : ∀ s z, Txt s z → z.natAbs < 10 ^ 200 := fun s z h => by
            obtain ⟨n, l, d, ht, rfl, _⟩ := h
            rw [numZ_abs]
            have h1 := dval_lt (fun k hk => (ht.dig.2 k hk).1)
            have h2 := ht.dig.1
            have h3 := ht.size
            exact Nat.lt_of_lt_of_le h1 (Nat.pow_le_pow_right (by omega) (by omega))
          have hD1 := hlen _ _ HTX.out; have hD2 := hlen _ _ HTY.out
          obtain ⟨T2, hT2⟩ : ∃ T, T = strB (txt (decide (x + y < 0)) (x + y).natAbs) := ⟨_, rfl⟩
          have HC : Hid (Calls Tryz.prog 32 #[.string a, .string b] W2 fun e w' => e = .returned (.tuple #[.string a, .string T2]) ∧ Keeps (fun _ => False) W2 w') := hid (by
            obtain ⟨na, la, da, hta, hx, _⟩ := HTX.out
            obtain ⟨nb, lb, db, htb, hy, _⟩ := HTY.out
            exact bigKept32 a b na nb da db la lb x y a T2 W2 hta htb hx hy (Nat.lt_of_lt_of_le hD1 (Nat.pow_le_pow_right (by omega) (by omega))) (Nat.lt_of_lt_of_le hD2 (Nat.pow_le_pow_right (by omega) (by omega))) HG2.out HCX.out.symm hT2)
          have HV1 := hid (fun W (hk : Keeps (fun _ => False) W2 W) => (show NumV W 0 (.agg #[.bool n1, .slice a1 l1 c1]) x from ⟨a1, c1, by rw [HN1.out, HL1.out], HX2.out.keep hk (fun _ _ h => h), fun _ _ => Nat.zero_le _⟩))
          have HV2 := hid (fun W (hk : Keeps (fun _ => False) W2 W) => (show NumV W 0 (.agg #[.bool n2, .slice a2 l2 c2]) y from ⟨a2, c2, by rw [HN2.out, HL2.out], HY2.out.keep hk (fun _ _ h => h), fun _ _ => Nat.zero_le _⟩))
          have hd1 : (digs x.natAbs).length ≤ 50000 := Nat.le_trans (digs_len hD1) (by omega)
          have hd2 : (digs y.natAbs).length ≤ 50000 := Nat.le_trans (digs_len hD2) (by omega)
          have hd3 : (digs (x + y).natAbs).length ≤ 100000 := by
            refine Nat.le_trans (digs_len (k := 201) ?_) (by omega)
            have h1 := Int.natAbs_add_le x y
            have h4 : (10 : Nat) ^ 200 + 10 ^ 200 ≤ 10 ^ 201 := by decide +kernel
            omega
          have HAD := hid (fun W (hk : Keeps (fun _ => False) W2 W) => add28 _ _ x y 0 0 W (HV1.out W hk) (HV2.out W hk) hd1 hd2)
          have HTT : Hid (∀ (W : World) (v : Value) (b' : Nat), NumV W b' v (x + y) → Calls Tryz.prog 22 #[v] W fun e w' => e = .returned (.string T2) ∧ Keeps (fun _ => False) W w') := hid (fun W v b' h => by rw [hT2]; exact text22 v (x + y) b' W h hd3)
          have HAV := hid (fun W (hk : Keeps (fun _ => False) W2 W) => bigAlive_true W (HG2.out.keep hk (fun _ _ h => h)))
          clear hlen hD1 hD2 hT2 hd1 hd2 hd3
          refine HC.out.mono ?_
          rintro e w3 ⟨rfl, hk3⟩
          have HK3 := hid hk3
          have HA3 := hid (HAV.out w3 hk3)
          clear hk3 HC
          go_wp2_with fail
          refine HA3.out.mono ?_
          rintro e w4 ⟨rfl, hk4⟩
          have hk := HK3.out.trans hk4
          obtain ⟨q1, q2⟩ := RowAt.num (hk.row HR12.out (fun h => h))
          obtain ⟨q3, q4⟩ := RowAt.num (hk.row HR2.out (fun h => h))
          have HD := hid (HAD.out w4 hk)
          have HK4 := hid hk
          clear hk hk4 HA3
          go_wp2_with fail
          refine HD.out.mono ?_
          rintro e w5 ⟨v, rfl, hv, hk5⟩
          have HT5 := hid (HTT.out w5 v _ hv)
          have HK5 := hid (HK4.out.trans hk5)
          clear hv hk5 HD q1 q2 q3 q4
          go_wp2_with fail
          refine HT5.out.mono ?_
          rintro e w6 ⟨rfl, hk6⟩
          have HK6 := hid (HK5.out.trans hk6)
          clear hk6 HT5
          go_wp2_with fail
          go_ret
          exact ⟨rfl, HKW2.out.trans HK6.out⟩
        · go_wp2_with fail
          have hk : Keeps (fun _ => False) W1 (w2.alloc (.cells #[.bool n2, .slice a2 l2 c2] 24)) := HK2.out.alloc _
          have HKK := hid (HKW.out.trans hk)
          have HG2 := hid (HG.out.keep (HKW.out.trans hk) (fun _ _ h => h))
          clear hk
          refine (bigAlive_true _ HG2.out).mono ?_
          rintro e w3 ⟨rfl, hk3⟩
          have HK3 := hid hk3
          clear hk3
          go_wp2_with fail
          go_ret
          exact ⟨rfl, HKK.out.trans HK3.out⟩
      · go_wp2_with fail
        obtain ⟨W1, e1⟩ : ∃ W, W = w1.alloc (.cells #[.bool n1, .slice a1 l1 c1] 24) := ⟨_, rfl⟩
        have hK : Keeps (fun _ => False) w W1 := by rw [e1]; exact HK1.out.alloc _
        rw [← e1]
        have HKW := hid hK
        clear hK e1
        refine (H2.out _).mono ?_
        rintro e w2 ⟨hk2, hcase⟩
        have HK2 := hid hk2
        clear hk2
        obtain ⟨t2, n2, a2, l2, c2, rfl⟩ : ∃ t n a l c, e = .returned (.tuple #[.agg #[.bool n, .slice a l c], .bool t]) := by
          rcases hcase with ⟨y, v, hty, hcy, rfl, a2, c2, rfl, hy, hge2⟩ | ⟨n2, a2, l2, c2, rfl⟩
          · exact ⟨_, _, _, _, _, rfl⟩
          · exact ⟨_, _, _, _, _, rfl⟩
        clear hcase
        go_wp2_with fail
        have hk : Keeps (fun _ => False) W1 (w2.alloc (.cells #[.bool n2, .slice a2 l2 c2] 24)) := HK2.out.alloc _
        have HKK := hid (HKW.out.trans hk)
        have HG2 := hid (HG.out.keep (HKW.out.trans hk) (fun _ _ h => h))
        clear hk
        refine (bigAlive_true _ HG2.out).mono ?_
        rintro e w3 ⟨rfl, hk3⟩
        have HK3 := hid hk3
        clear hk3
        go_wp2_with fail
        go_ret
        exact ⟨rfl, HKK.out.trans HK3.out⟩
    · go_enter Tryz.func6, Tryz.ntmps6
      go_wp2_with fail
      go_ret
      exact ⟨rfl, Keeps.refl _ _⟩
  · go_enter Tryz.func6, Tryz.ntmps6
    go_wp2_with fail
    go_ret
    exact ⟨rfl, Keeps.refl _ _⟩
end Go.Proofs
