/- Parts of the proofs over the numbers of any length: LawCmp. -/
import Derived.Outline
import Derived.Test.YtacbllkmcldniaaGreatDoorSpecA
import Derived.Test.YtacbllkmcldniaaGreatDoorBigCmp
set_option linter.unusedSimpArgs false
set_option linter.unusedVariables false
namespace Go.Proofs
open Go.RowKit
set_option maxHeartbeats 400000
set_option linter.unusedVariables false
set_option linter.unusedSimpArgs false
set_option maxRecDepth 100000

theorem cmpI_abs (x y : Int) : cmpI x.natAbs y.natAbs = cmpZ (x.natAbs : Int) (y.natAbs : Int) := by
  unfold cmpI cmpZ
  (repeat' split) <;> first | rfl | omega

/-- The cells of a number that lies in a block of its own. -/
theorem RowAt.num {w : World} {p : Nat} {x y : Value} (h : RowAt w p 24 [x, y]) : w.cell? ⟨p, 0, none⟩ = some x ∧ w.cell? ⟨p, 1, none⟩ = some y := ⟨h.cell 0, h.cell 1⟩

theorem law5 (a b : ByteArray) (w : World) (G : Glob w) (hma : a.size ≤ 9223372036854775807) (hmb : b.size ≤ 9223372036854775807) :
    Calls Tryz.prog 5 #[.string a, .string b] w fun e w' => e = .returned (.bool true) ∧ Keeps (fun _ => False) w w' := by
  have HG := hid G
  clear G
  by_cases ha : a.size ≤ 2147483647
  · by_cases hb : b.size ≤ 2147483647
    · have H1 := hid (bigRight_any a w ha)
      have H2 := hid (fun W => bigRight_any b W hb)
      go_enter Tryz.func5, Tryz.ntmps5
      go_wp2_with fail
      refine H1.out.mono ?_
      rintro e w1 ⟨hk1, hcase⟩
      have HK1 := hid hk1
      clear hk1
      rcases hcase with ⟨x, v, htx, rfl, a1, c1, rfl, hx, hge1⟩ | ⟨n1, a1, l1, c1, rfl⟩
      · have HTX := hid htx; have HX := hid hx; have HGE1 := hid hge1
        obtain ⟨l1, hl1⟩ : ∃ l, l = (digs x.natAbs).length := ⟨_, rfl⟩
        obtain ⟨n1, hn1⟩ : ∃ n, n = decide (x < 0) := ⟨_, rfl⟩
        rw [← hl1, ← hn1]
        have HL1 := hid hl1; have HN1 := hid hn1
        clear htx hx hge1 hl1 hn1
        go_wp2_with fail
        obtain ⟨W1, e1⟩ : ∃ W, W = w1.alloc (.cells #[.bool n1, .slice a1 l1 c1] 24) := ⟨_, rfl⟩
        obtain ⟨p1, hp1⟩ : ∃ p, p = w1.heap.size := ⟨_, rfl⟩
        have hr1 : RowAt W1 p1 24 [.bool n1, .slice a1 l1 c1] := by rw [e1, hp1]; exact RowAt.new w1 24 [.bool n1, .slice a1 l1 c1]
        have hK : Keeps (fun _ => False) w W1 := by rw [e1]; exact HK1.out.alloc _
        have hX1 : RdV W1 a1 c1 (digs x.natAbs) := by rw [e1]; exact HX.out.keep ((Keeps.refl (fun _ => False) w1).alloc _) (fun _ _ h => h)
        rw [← e1, ← hp1]
        have HR1 := hid hr1; have HKW := hid hK; have HX1 := hid hX1
        clear hr1 hK hX1 e1 hp1
        refine (H2.out _).mono ?_
        rintro e w2 ⟨hk2, hcase⟩
        have HK2 := hid hk2
        clear hk2
        rcases hcase with ⟨y, v, hty, rfl, a2, c2, rfl, hy, hge2⟩ | ⟨n2, a2, l2, c2, rfl⟩
        · have HTY := hid hty; have HY := hid hy
          obtain ⟨l2, hl2⟩ : ∃ l, l = (digs y.natAbs).length := ⟨_, rfl⟩
          obtain ⟨n2, hn2⟩ : ∃ n, n = decide (y < 0) := ⟨_, rfl⟩
          rw [← hl2, ← hn2]
          have HL2 := hid hl2; have HN2 := hid hn2
          clear hty hy hge2 hl2 hn2
          go_wp2_with fail
          obtain ⟨W2, e2⟩ : ∃ W, W = w2.alloc (.cells #[.bool n2, .slice a2 l2 c2] 24) := ⟨_, rfl⟩
          obtain ⟨p2, hp2⟩ : ∃ p, p = w2.heap.size := ⟨_, rfl⟩
          have hr2 : RowAt W2 p2 24 [.bool n2, .slice a2 l2 c2] := by rw [e2, hp2]; exact RowAt.new w2 24 [.bool n2, .slice a2 l2 c2]
          have hk : Keeps (fun _ => False) W1 W2 := by rw [e2]; exact HK2.out.alloc _
          have hY2 : RdV W2 a2 c2 (digs y.natAbs) := by rw [e2]; exact HY.out.keep ((Keeps.refl (fun _ => False) w2).alloc _) (fun _ _ h => h)
          have hr1 := hk.row HR1.out (fun h => h)
          have hX2 := HX1.out.keep hk (fun _ _ h => h)
          have hG2 := HG.out.keep (HKW.out.trans hk) (fun _ _ h => h)
          rw [← e2, ← hp2]
          have HKW2 := hid (HKW.out.trans hk); have HR12 := hid hr1; have HR2 := hid hr2; have HX2 := hid hX2; have HY2 := hid hY2; have HG2 := hid hG2
          clear hr1 hr2 hk hX2 hY2 hG2 e2 hp2
          have hlen : ∀ s z, Txt s z → (digs z.natAbs).length ≤ 4294967296 := fun s z h => by
            obtain ⟨n, l, d, ht, rfl, _⟩ := h
            rw [numZ_abs]
            have h1 := digs_len (dval_lt (fun k hk => (ht.dig.2 k hk).1))
            have h2 := ht.dig.1
            have h3 := ht.size
            omega
          have HD1 := hid (hlen _ _ HTX.out); have HD2 := hid (hlen _ _ HTY.out)
          clear hlen
          obtain ⟨na, la, da, hta, hx, _⟩ := HTX.out
          obtain ⟨nb, lb, db, htb, hy, _⟩ := HTY.out
          have HC := hid (bigCompare29 a b na nb da db la lb W2 hta htb HG2.out (cmpZ x y) (cmpI x.natAbs y.natAbs) (by rw [hx, hy]) (by rw [hx, hy, numZ_abs, numZ_abs]))
          clear hta htb hx hy
          obtain ⟨cz, hcz⟩ : ∃ c, c = cmpZ x y := ⟨_, rfl⟩
          obtain ⟨ci, hci⟩ : ∃ c, c = cmpI x.natAbs y.natAbs := ⟨_, rfl⟩
          rw [← hcz, ← hci] at HC
          have HCZ := hid hcz; have HCI := hid hci
          clear hcz hci
          refine HC.out.mono ?_
          rintro e w3 ⟨rfl, hk3⟩
          have HK3 := hid hk3
          have HG3 := hid (HG2.out.keep hk3 (fun _ _ h => h))
          clear hk3
          go_wp2_with fail
          have HX3 := hid (HX2.out.keep HK3.out (fun _ _ h => h)); have HY3 := hid (HY2.out.keep HK3.out (fun _ _ h => h))
          have hS : ∀ w', Keeps (fun _ => False) W2 w' → w'.cell? ⟨p1, 0, none⟩ = some (.bool n1) ∧ w'.cell? ⟨p1, 1, none⟩ = some (.slice a1 l1 c1) ∧ w'.cell? ⟨p2, 0, none⟩ = some (.bool n2) ∧ w'.cell? ⟨p2, 1, none⟩ = some (.slice a2 l2 c2) := fun w' hk => by
            obtain ⟨q1, q2⟩ := RowAt.num (hk.row HR12.out (fun h => h))
            obtain ⟨q3, q4⟩ := RowAt.num (hk.row HR2.out (fun h => h))
            exact ⟨q1, q2, q3, q4⟩
          have HS := hid hS
          have C1 := hid (bigAlive_true w3.drew (HG3.out.drewN 1))
          have HT0 := hid (HK3.out.drew)
          have C2 : Hid (∀ W, Keeps (fun _ => False) W2 W → Calls Tryz.prog 30 #[.agg #[.bool n1, .slice a1 l1 c1], .agg #[.bool n2, .slice a2 l2 c2]] W fun e w' => e = .returned (.int .i64 cz) ∧ Keeps (fun _ => False) W w') := hid (fun W hk => by
            have h := cmp30_any n1 n2 a1 a2 c1 c2 _ _ W (HX2.out.keep hk (fun _ _ h => h)) (HY2.out.keep hk (fun _ _ h => h)) HD1.out HD2.out
            rw [← HL1.out, ← HL2.out] at h
            rw [HN1.out, HN2.out] at h ⊢
            rw [cmpN_z, ← HCZ.out] at h
            exact h)
          have C3 : Hid (∀ W, Keeps (fun _ => False) W2 W → Calls Tryz.prog 30 #[.agg #[.bool false, .slice a1 l1 c1], .agg #[.bool false, .slice a2 l2 c2]] W fun e w' => e = .returned (.int .i64 ci) ∧ Keeps (fun _ => False) W w') := hid (fun W hk => by
            have h := cmp30_any false false a1 a2 c1 c2 _ _ W (HX2.out.keep hk (fun _ _ h => h)) (HY2.out.keep hk (fun _ _ h => h)) HD1.out HD2.out
            rw [← HL1.out, ← HL2.out, show cmpN false false (digs x.natAbs) (digs y.natAbs) = ci by rw [HCI.out, ← cmpL_digs]; rfl] at h
            exact h)
          go_region_held3 (fun w' => w'.cell? ⟨p1, 0, none⟩ = some (.bool n1) ∧ w'.cell? ⟨p1, 1, none⟩ = some (.slice a1 l1 c1) ∧ w'.cell? ⟨p2, 0, none⟩ = some (.bool n2) ∧ w'.cell? ⟨p2, 1, none⟩ = some (.slice a2 l2 c2))
            (first | with_reducible exact HS.out _ HT0.out | with_reducible exact HS.out _ HT1.out | with_reducible exact HS.out _ HT2.out | with_reducible exact HS.out _ HT3.out | with_reducible exact HS.out _ HT4.out | with_reducible exact HS.out _ HT5.out)
            (first
             | (go_at_call 19; with_reducible refine C1.out.mono ?_; rintro e w4 ⟨rfl, hk4⟩; have HT1 := hid (HT0.out.trans hk4); have D2 := hid (C2.out _ HT1.out); obtain ⟨q1, q2, q3, q4⟩ := HS.out _ HT1.out; clear hk4)
             | (go_at_call 30; with_reducible refine D2.out.mono ?_; rintro e w5 ⟨rfl, hk4⟩; have HT2 := hid (HT1.out.trans hk4); have D3 := hid (abs31_any n1 a1 l1 c1 w5); obtain ⟨q1, q2, q3, q4⟩ := HS.out _ HT2.out; clear hk4)
             | (go_at_call 31; with_reducible refine D3.out.mono ?_; rintro e w6 ⟨rfl, hk4⟩; have HT3 := hid (HT2.out.trans hk4); have D4 := hid (abs31_any n2 a2 l2 c2 w6); obtain ⟨q1, q2, q3, q4⟩ := HS.out _ HT3.out; clear hk4)
             | (go_at_call 31; with_reducible refine D4.out.mono ?_; rintro e w7 ⟨rfl, hk4⟩; have HT4 := hid (HT3.out.trans hk4); have D5 := hid (C3.out _ HT4.out); obtain ⟨q1, q2, q3, q4⟩ := HS.out _ HT4.out; clear hk4)
             | (go_at_call 30; with_reducible refine D5.out.mono ?_; rintro e w8 ⟨rfl, hk4⟩; have HT5 := hid (HT4.out.trans hk4); obtain ⟨q1, q2, q3, q4⟩ := HS.out _ HT5.out; clear hk4))
          go_wp2_with fail
          go_ret
          exact ⟨rfl, HKW2.out.trans HT5.out⟩
        · go_wp2_with fail
          have hk : Keeps (fun _ => False) W1 (w2.alloc (.cells #[.bool n2, .slice a2 l2 c2] 24)) := HK2.out.alloc _
          have HKK := hid (HKW.out.trans hk)
          have HG2 := hid (HG.out.keep (HKW.out.trans hk) (fun _ _ h => h))
          clear hk
          refine (bigAlive_true _ HG2.out).mono ?_
          rintro e w3 ⟨rfl, hk3⟩
          have HK3 := hid hk3
          clear hk3
          go_wp2_with fail
          go_ret
          exact ⟨rfl, HKK.out.trans HK3.out⟩
      · go_wp2_with fail
        obtain ⟨W1, e1⟩ : ∃ W, W = w1.alloc (.cells #[.bool n1, .slice a1 l1 c1] 24) := ⟨_, rfl⟩
        have hK : Keeps (fun _ => False) w W1 := by rw [e1]; exact HK1.out.alloc _
        rw [← e1]
        have HKW := hid hK
        clear hK e1
        refine (H2.out _).mono ?_
        rintro e w2 ⟨hk2, hcase⟩
        have HK2 := hid hk2
        clear hk2
        obtain ⟨t2, n2, a2, l2, c2, rfl⟩ : ∃ t n a l c, e = .returned (.tuple #[.agg #[.bool n, .slice a l c], .bool t]) := by
          rcases hcase with ⟨y, v, hty, rfl, a2, c2, rfl, hy, hge2⟩ | ⟨n2, a2, l2, c2, rfl⟩
          · exact ⟨_, _, _, _, _, rfl⟩
          · exact ⟨_, _, _, _, _, rfl⟩
        clear hcase
        go_wp2_with fail
        have hk : Keeps (fun _ => False) W1 (w2.alloc (.cells #[.bool n2, .slice a2 l2 c2] 24)) := HK2.out.alloc _
        have HKK := hid (HKW.out.trans hk)
        have HG2 := hid (HG.out.keep (HKW.out.trans hk) (fun _ _ h => h))
        clear hk
        refine (bigAlive_true _ HG2.out).mono ?_
        rintro e w3 ⟨rfl, hk3⟩
        have HK3 := hid hk3
        clear hk3
        go_wp2_with fail
        go_ret
        exact ⟨rfl, HKK.out.trans HK3.out⟩
    · go_enter Tryz.func5, Tryz.ntmps5
      go_wp2_with fail
      go_ret
      exact ⟨rfl, Keeps.refl _ _⟩
  · go_enter Tryz.func5, Tryz.ntmps5
    go_wp2_with fail
    go_ret
    exact ⟨rfl, Keeps.refl _ _⟩
end Go.Proofs
