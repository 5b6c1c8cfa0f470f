/- Parts of the proofs over the numbers of any length: BsP, App2, Fill, SetB, SetB2, FromB, BytesC, Bytes53. -/
import Derived.Deep.AppendSrc
import Derived.Deep.Upon
import Derived.Deep.RegionHeld3
import Derived.Test.YtacbllkmcldniaaGreatDoorBaseC
import Derived.Test.YtacbllkmcldniaaGreatDoorBytesA
import Derived.Test.YtacbllkmcldniaaGreatDoorBaseD
import Derived.Test.YtacbllkmcldniaaGreatDoorDivC
import Derived.Test.YtacbllkmcldniaaGreatDoorIntA
import Derived.Test.YtacbllkmcldniaaGreatDoorConvA
import Derived.Test.YtacbllkmcldniaaGreatDoorMadeA
import Derived.Test.YtacbllkmcldniaaGreatDoorRangeA
set_option linter.unusedSimpArgs false
set_option linter.unusedVariables false
namespace Go.Proofs
open Go.RowKit
set_option maxHeartbeats 400000
set_option linter.unusedVariables false
set_option linter.unusedSimpArgs false
set_option maxRecDepth 100000

/-- A slice of bytes, empty ones too. -/
def BsV (w : World) (n : Nat) (v : Value) (B : List Nat) (c : Nat) : Prop :=
  ∃ a, v = .slice a B.length c ∧ B.length ≤ c ∧ (0 < B.length → ∃ b o, a = some ⟨b, o, none⟩ ∧ n ≤ b ∧ b < w.heap.size ∧ ∀ i, i < B.length → w.cell? ⟨b, o + i, none⟩ = some (bv (B.getD i 0)))
theorem BsV.keep {w w' : World} {S : Nat → Prop} {n : Nat} {v : Value} {B : List Nat} {c : Nat} (h : BsV w n v B c) (hk : Keeps S w w') (hS : ∀ k, n ≤ k → ¬ S k) : BsV w' n v B c := by
  obtain ⟨a, e1, e2, e3⟩ := h
  refine ⟨a, e1, e2, fun h0 => ?_⟩
  obtain ⟨b, o, g1, g2, g3, g4⟩ := e3 h0
  refine ⟨b, o, g1, g2, Nat.lt_of_lt_of_le g3 hk.size, fun i hi => ?_⟩
  rw [cell_of_block (p := ⟨b, o + i, none⟩) (hk.block b g3 (hS b g2))]
  exact g4 i hi
theorem BsV.lower {w : World} {n m : Nat} {v : Value} {B : List Nat} {c : Nat} (h : BsV w n v B c) (hm : m ≤ n) : BsV w m v B c := by
  obtain ⟨a, e1, e2, e3⟩ := h
  exact ⟨a, e1, e2, fun h0 => by obtain ⟨b, o, g1, g2, g3, g4⟩ := e3 h0; exact ⟨b, o, g1, Nat.le_trans hm g2, g3, g4⟩⟩
theorem BsV.empty (w : World) (n : Nat) (a : Option Addr) (c : Nat) : BsV w n (.slice a 0 c) [] c := ⟨a, rfl, Nat.zero_le _, fun h => by cases h⟩
theorem BsV.of_byt {w : World} {n b o k c : Nat} {L B : List Nat} {a : Option Addr} (h : Byt w b L) (hn : n ≤ b) (hB : B.length = k) (hc : k ≤ c) (hL : o + k ≤ L.length) (hg : ∀ i, i < k → L.getD (o + i) 0 = B.getD i 0) (ha : 0 < k → a = some ⟨b, o, none⟩) : BsV w n (.slice a k c) B c := by
  subst hB
  refine ⟨a, rfl, hc, fun h0 => ⟨b, o, ha h0, hn, RowAt.lt h, fun i hi => ?_⟩⟩
  rw [h.cell (show o + i < L.length by omega), hg i hi]; rfl
theorem BsV.cells {w : World} {n : Nat} {v : Value} {B : List Nat} {c : Nat} (h : BsV w n v B c) : ∃ a, v = .slice a B.length c ∧ B.length ≤ c ∧ (a = none → B = []) ∧ (∀ b o s, a = some ⟨b, o, s⟩ → 0 < B.length → s = none ∧ n ≤ b) ∧ ∀ (a' : Addr), a = some a' → ∀ j u, (B.map bv)[j]? = some u → w.cell? (a'.add j) = some u := by
  obtain ⟨a, e1, e2, e3⟩ := h
  refine ⟨a, e1, e2, fun ha => ?_, fun b o s ha h0 => ?_, fun a' ha j u hj => ?_⟩
  · rcases Nat.eq_zero_or_pos B.length with h0 | h0
    · exact List.length_eq_zero_iff.1 h0
    · obtain ⟨b, o, g1, _⟩ := e3 h0
      rw [ha] at g1; cases g1
  · obtain ⟨b', o', g1, g2, _⟩ := e3 h0
    rw [ha] at g1; cases g1
    exact ⟨rfl, g2⟩
  · have hj' : j < B.length := by
      have := (List.getElem?_eq_some_iff.1 hj).1
      simpa using this
    obtain ⟨b, o, g1, _, _, g4⟩ := e3 (by omega)
    rw [ha] at g1; cases g1
    have hadd : (⟨b, o, none⟩ : Addr).add j = ⟨b, o + j, none⟩ := by unfold Addr.add; split <;> simp_all
    rw [hadd, g4 j hj', ← hj]
    simp [List.getD_eq_getElem?_getD, List.getElem?_eq_getElem hj']
theorem bv_one : ∀ {B : List Nat}, ∀ u ∈ B.map bv, u.oneCell' = true := by
  intro B u hu
  obtain ⟨x, _, rfl⟩ := List.mem_map.1 hu
  rfl
theorem BsV.src {w : World} {n : Nat} {v : Value} {B : List Nat} {c : Nat} (h : BsV w n v B c) : Src Tryz.prog 1 22 v B.length (B.map bv) w := by
  obtain ⟨a, rfl, e2, e3, _, e4⟩ := h.cells
  cases a with
  | none =>
    have := e3 rfl
    subst this
    exact Src.ofNil w Tryz.underlying22 c
  | some a' => exact Src.ofSlice w Tryz.underlying22 a' B.length c (B.map bv) (by simp) (e4 a' rfl) bv_one
/-- append to a slice that has no room. -/
theorem append_bs (n : Nat) (v1 v2 : Value) (B1 B2 : List Nat) (c2 : Nat) (w : World) (h1 : BsV w n v1 B1 B1.length) (h2 : BsV w n v2 B2 c2) (hn : n ≤ w.heap.size) (hl : B1.length + B2.length ≤ 1000000) :
    ∃ v' w' c, (Builtin.append_ #[22, 22] 22 #[v1, v2]).run Tryz.prog w = .ok v' w' ∧ BsV w' n v' (B1 ++ B2) c ∧ Keeps (fun _ => False) w w' := by
  obtain ⟨i5, hi5, hz0, hz1, hz2⟩ := info_parts info5
  have hsrc := h2.src
  rcases Nat.eq_zero_or_pos B2.length with h0 | h0
  · have := List.length_eq_zero_iff.1 h0
    subst this
    obtain ⟨a, rfl, e2, _⟩ := id h1
    have hr := run_append_nothing (P := Tryz.prog) w 22 22 22 5 i5 Tryz.underlying22 hi5 a B1.length B1.length (Nat.le_refl _) v2 (by rw [hz1]; exact hsrc)
    refine ⟨_, _, B1.length, hr, ?_, Keeps.refl _ _⟩
    rw [List.append_nil]; exact h1
  · obtain ⟨a, rfl, e2, e3, _, e4⟩ := h1.cells
    have hold : (Builtin.firstCells i5.size B1.length (.slice a B1.length B1.length)).run Tryz.prog w.drew = .ok (B1.map bv).toArray w.drew := by
      cases a with
      | none =>
        have := e3 rfl
        subst this
        exact run_firstCells_none w.drew _ 0 0 _
      | some a' => exact run_firstCells_some w.drew _ B1.length a' B1.length B1.length (B1.map bv) (by simp [hz1]) (by simpa using e4 a' rfl)
    have hr := run_append_grow_src (P := Tryz.prog) w 22 22 22 5 i5 (.int .u8 0) Tryz.underlying22 hi5 hz0 a B1.length B1.length (B1.map bv) hold v2 B2.length (B2.map bv) (by rw [hz1]; exact hsrc) (by omega) (by omega)
      (growslice_fits (by omega) (by rw [hz2]; omega))
    have hcap := grownCap_ge w (B1.length + B2.length) B1.length 5
    refine ⟨_, _, grownCap w (B1.length + B2.length) B1.length 5, hr, ⟨some ⟨w.heap.size, 0, none⟩, by rw [List.length_append], by rw [List.length_append]; exact hcap, fun _ => ⟨w.heap.size, 0, rfl, hn, by simp, fun j hj => ?_⟩⟩, ((Keeps.refl _ w).drew).alloc _⟩
    have := cell_new_at w.drew ((B1.map bv ++ B2.map bv).toArray ++ Builtin.zeroCells (Value.int .u8 0).cells (grownCap w (B1.length + B2.length) B1.length 5 - (B1.length + B2.length))) 5 (0, 0) j (bv ((B1 ++ B2).getD j 0)) (by
      rw [← List.map_append]
      rw [Array.getElem?_append_left (by simpa using hj)]
      simp at hj
      have hj' : j < (B1 ++ B2).length := by simpa using hj
      simp [List.getElem?_eq_getElem hj']
      rw [← List.map_append, List.getElem?_map, List.getElem?_eq_getElem hj']
      rfl)
    rw [Nat.zero_add]
    exact this
/-- A text out of such bytes. -/
theorem BsV.string {w : World} {n : Nat} {v : Value} {B : List Nat} {c : Nat} (h : BsV w n v B c) : (convert 22 9 v).run Tryz.prog w = .ok (.string (strB B)) w := by
  obtain ⟨a, rfl, e2, e3, _, e4⟩ := h.cells
  cases a with
  | none =>
    have := e3 rfl
    subst this
    exact run_convert_bytes_nil (P := Tryz.prog) w 22 5 Tryz.underlying22 Tryz.underlying5 _ _ 9 Tryz.underlying9
  | some a' =>
    have e : B.map bv = (B.map Int.ofNat).map (Value.int .u8) := by rw [List.map_map]; rfl
    have hl : (loadCells a' B.length).run Tryz.prog w = .ok ((B.map Int.ofNat).map (Value.int .u8)).toArray w := by
      have := run_loadCells_list (P := Tryz.prog) w a' (B.map bv) (e4 a' rfl)
      rw [List.length_map, e] at this
      exact this
    rw [run_convert_bytes_string (P := Tryz.prog) w 22 9 5 _ B.length c Tryz.underlying22 Tryz.underlying5 Tryz.underlying9, run_bytesToString w _ B.length c (B.map Int.ofNat) hl, foldl_push_bytes]
    simp [strB, strOfNums, ByteArray.empty, ByteArray.emptyWithCapacity]
    rfl
end Go.Proofs
namespace Go.Proofs
open Go.RowKit
set_option maxHeartbeats 400000
set_option linter.unusedVariables false
set_option linter.unusedSimpArgs false
set_option maxRecDepth 100000

theorem step_app2 (n : Nat) (v1 v2 : Value) (B1 B2 : List Nat) (c2 : Nat) (w : World) (h1 : BsV w n v1 B1 B1.length) (h2 : BsV w n v2 B2 c2) (hn : n ≤ w.heap.size) (hl : B1.length + B2.length ≤ 1000000) :
    ∃ a' k w' c, (Builtin.append_ #[22, 22] 22 #[v1, v2]).run Tryz.prog w = .ok (.slice a' k c) w' ∧ k = (B1 ++ B2).length ∧ BsV w' n (.slice a' k c) (B1 ++ B2) c ∧ Keeps (fun _ => False) w w' := by
  obtain ⟨v', w', c, h3, h4, h5⟩ := append_bs n v1 v2 B1 B2 c2 w h1 h2 hn hl
  obtain ⟨a', e, h6, h7⟩ := id h4
  subst e
  exact ⟨a', _, w', c, h3, rfl, h4, h5⟩
theorem wpList_app {ops : Array Oper} {rest : List Oper} {o : Oper} {a : Act} {w : World} {Q : Exit → Act → World → Prop} (hgd : o.guard = none) (s x : Operand) (ho : o.op = .call { callee := .builtin .append, args := #[s, x], argTypes := #[22, 22] }) (hty : o.type = 22) (v1 v2 : Value)
    (hs : a.eval s = v1) (hx : a.eval x = v2) (n : Nat) (B1 B2 : List Nat) (c2 : Nat) (h1 : BsV w n v1 B1 B1.length) (h2 : BsV w n v2 B2 c2) (hn : n ≤ w.heap.size) (hl : B1.length + B2.length ≤ 1000000)
    (h : ∀ a' k w' c, k = (B1 ++ B2).length → BsV w' n (.slice a' k c) (B1 ++ B2) c → Keeps (fun _ => False) w w' → wpList Tryz.prog ops Q rest (a.put o.dst (.slice a' k c)) w') :
    wpList Tryz.prog ops Q (o :: rest) a w := by
  refine wpList_plain hgd fun K hK => ?_
  obtain ⟨a', k, w', c, hr, h3, h4, h5⟩ := step_app2 n v1 v2 B1 B2 c2 w h1 h2 hn hl
  unfold Oper.wp
  simp [execOp, ho, hty, resolve, invoke, builtin, hs, hx, hr, Result.andThen]
  exact hK _ _ (h a' k w' c h3 h4 h5)

end Go.Proofs
namespace Go.Proofs
open Go.RowKit
set_option maxHeartbeats 1000000
set_option linter.unusedVariables false
set_option linter.unusedSimpArgs false
set_option maxRecDepth 100000

theorem zero5 : ∀ w : World, (zeroValue 5).run Tryz.prog w = .ok (.int .u8 0) w := by
  obtain ⟨i5, hi5, hz0, hz1, hz2⟩ := info_parts info5
  intro w
  simp [zeroValue, typeInfo, hi5, hz0]
theorem Rd.not_byt {w : World} {a : Option Addr} {l c : Nat} {L : List Nat} (h : Rd w a l c L) {b : Nat} {B : List Nat} (hb : Byt w b B) : ¬ InB a b := by
  rintro ⟨o, rfl⟩
  rcases h with ⟨h, _⟩ | ⟨b', o', M, h, hM, _⟩
  · cases h
  · cases h
    exact absurd (RowAt.type hM hb) (by decide)
theorem IntRow.not_byt {w : World} {p : Nat} {t : TypeId} {ng : Bool} {a : Option Addr} {l c : Nat} (h : IntRow w p t ng a l c) {b : Nat} {B : List Nat} (hb : Byt w b B) : p ≠ b := by
  rintro rfl
  have := RowAt.inj h hb
  match B, this with
  | [], h => simp at h
  | x :: _, h => simp [bv] at h
theorem fill178 (p t : Nat) (x : Int) (a : Option Addr) (l c bb n nc : Nat) (L0 : List Nat) (w : World) (h : IntS w p t x a l c) (hl : l ≤ 1000) (hb : Byt w bb L0) (hL : L0.length = n) (hn : n ≤ 100000) (hN : x.natAbs < 256 ^ n) :
    Calls Tryz.prog 178 #[.pointer (some ⟨p, 0, none⟩), .slice (some ⟨bb, 0, none⟩) n nc] w fun e w' => e = .returned (.slice (some ⟨bb, 0, none⟩) n nc) ∧ Byt w' bb (beL x.natAbs n) ∧ Keeps (fun k => k = bb) w w' := by
  have HROW := hid h.row; have HRD := hid h.rd; have HB := hid hb; have HN := hid hN; have HL := hid hL
  have hp := hid (h.row.not_byt hb); have hab := hid (h.rd.not_byt hb)
  have HFC : Hid (∀ w1, Keeps (fun k => k = bb) w w1 → w1.cell? ⟨p, 1, none⟩ = some (.slice a l c)) := hid (fun w1 hk => (IntRow.facts (show IntRow w1 p t (decide (x < 0)) a l c from hk.row HROW.out hp.out)).2.1)
  clear h hb hN hL
  go_enter Tryz.func178, Tryz.ntmps178
  go_wp2_with (refine wpList_clr rfl (.tmp 5) 22 rfl 5 Tryz.underlying22 (.int .u8 0) zero5 rfl rfl (some ⟨bb, 0, none⟩) n nc rfl bb 0 (L0.map bv) 5 HB.out (fun _ => rfl) (by simp only [List.length_map]; have := HL.out; omega) ?_; intro w1 h1 h2; have y2 := HFC.out w1 h2)
  have hb1 : Byt w1 bb (bufL x.natAbs n 0) := by
    unfold Byt
    rw [bufL_zero, List.map_replicate]
    have e : splice (L0.map bv) 0 (List.replicate n (.int .u8 0)) = List.replicate n (bv 0) := by
      have : (L0.map bv).length = n := by rw [List.length_map]; exact HL.out
      simp [splice, this, bv]
    rw [← e]; exact h1
  have hk1 : Keeps (fun k => k = bb) w w1 := h2
  have HC := hid (bytes221 a l c x.natAbs bb n nc w1 (HRD.out.keep hk1 (fun k hk he => by subst he; exact hab.out hk)) hb1 HN.out hn (by omega) hab.out)
  have HK1 := hid hk1
  clear h1 h2 hb1 hk1
  refine HC.out.mono ?_
  rintro e w2 ⟨i, rfl, hi, hlen, hbt, hkb⟩
  have HBT := hid hbt; have HKB := hid hkb
  clear hlen hbt hkb HC y2
  go_wp2_with fail
  go_ret
  exact ⟨rfl, HBT.out, HK1.out.trans HKB.out⟩
theorem w124 (p : Addr) (b : Value) (w : World) (Q : Value → World → Prop) (h : Calls Tryz.prog 178 #[.pointer (some p), b] w fun e w' => ∃ v, e = .returned v ∧ Q v w') :
    Calls Tryz.prog 124 #[.pointer (some p), b] w fun e w' => ∃ v, e = .returned v ∧ Q v w' := by
  have H := hid h
  clear h
  obtain ⟨b0, o0, s0⟩ := p
  go_enter Tryz.func124, Tryz.ntmps124
  go_wp2_with fail
  refine H.out.mono ?_
  rintro e w1 ⟨v, rfl, hQ⟩
  have HQ := hid hQ
  clear hQ
  go_wp2_with fail
  go_ret
  exact ⟨_, rfl, HQ.out⟩
end Go.Proofs
namespace Go.Proofs
open Go.RowKit
set_option maxHeartbeats 1000000
set_option linter.unusedVariables false
set_option linter.unusedSimpArgs false
set_option maxRecDepth 100000

theorem bits_or32 (x y : Nat) (hx : x < 2 ^ 32) (hy : y < 2 ^ 32) : bits .or .u32 (x : Int) (y : Int) = ((x ||| y : Nat) : Int) := by
  have hlt : x ||| y < 2 ^ 32 := Nat.or_lt_two_pow hx hy
  have hw : ∀ z : Nat, z < 2 ^ 32 → (BitVec.ofInt 32 (z : Int)).toNat = z := fun z hz => by
    rw [BitVec.toNat_ofInt]; omega
  show IntKind.u32.wrap ((BitVec.ofInt 32 (x : Int) ||| BitVec.ofInt 32 (y : Int)).toNat : Nat) = _
  rw [BitVec.toNat_or, hw x hx, hw y hy, IntKind.wrap_u32]
  generalize x ||| y = z at *
  omega
theorem quiet_more {P : Program} {f : FuncId} {args : Array Value} {w : World} {n : Nat} {v : Value}
    (h : Calls P f args (w.drewN n) fun e w' => e = .returned v ∧ ∃ k, w' = (w.drewN n).drewN k) : Calls P f args (w.drewN n) fun e w' => e = .returned v ∧ ∃ m, w' = w.drewN m :=
  h.mono fun _ _ ⟨he, k, hk⟩ => ⟨he, n + k, by rw [hk]; simp⟩
/-- Four bytes, the highest one first. -/
theorem be32_295 (b o l c N s : Nat) (w : World) (hl : 4 ≤ l) (hlc : l ≤ 1000000) (hc : ∀ j, j < 4 → w.cell? ⟨b, o + j, none⟩ = some (.int .u8 ((byt N (s + 3 - j) : Nat) : Int))) :
    Calls Tryz.prog 295 #[.slice (some ⟨b, o, none⟩) l c] w fun e w' => e = .returned (.int .u32 ((leS N s 4 : Nat) : Int)) ∧ ∃ k, w' = w.drewN k := by
  have h0 := hc 0 (by omega)
  have h1 := hc 1 (by omega)
  have h2 := hc 2 (by omega)
  have h3 := hc 3 (by omega)
  rw [Nat.add_zero, show s + 3 - 0 = s + 3 by omega] at h0
  rw [show s + 3 - 1 = s + 2 by omega] at h1
  rw [show s + 3 - 2 = s + 1 by omega] at h2
  rw [show s + 3 - 3 = s + 0 by omega] at h3
  have e1 := leS_or N s 0
  have e2 := leS_or N s 1
  have e3 := leS_or N s 2
  have e4 := leS_or N s 3
  rw [leS_zero, Nat.zero_or, show 8 * 0 = 0 from rfl, Nat.pow_zero, Nat.mul_one] at e1
  have l1 := leS_lt N s 1
  have l2 := leS_lt N s 2
  have l3 := leS_lt N s 3
  have g0 := byt_lt N (s + 0)
  have g1 := byt_lt N (s + 1)
  have g2 := byt_lt N (s + 2)
  have g3 := byt_lt N (s + 3)
  rw [← e1] at e2 l1
  obtain ⟨v, hv⟩ : ∃ v, v = leS N s 4 := ⟨_, rfl⟩
  rw [← hv]
  rw [← hv] at e4
  generalize byt N (s + 0) = d0 at *
  generalize byt N (s + 1) = d1 at *
  generalize byt N (s + 2) = d2 at *
  generalize byt N (s + 3) = d3 at *
  generalize leS N s 2 = x2 at *
  generalize leS N s 3 = x3 at *
  clear hc e1 hv
  have c1 : bits .or .u32 (d0 : Int) ((d1 : Int) * 256) = (x2 : Int) := by rw [show (d1 : Int) * 256 = ((d1 * 2 ^ (8 * 1) : Nat) : Int) by omega, bits_or32 _ _ (by omega) (by omega), e2]
  have c2 : bits .or .u32 (x2 : Int) ((d2 : Int) * 65536) = (x3 : Int) := by rw [show (d2 : Int) * 65536 = ((d2 * 2 ^ (8 * 2) : Nat) : Int) by omega, bits_or32 _ _ (by omega) (by omega), e3]
  have c3 : bits .or .u32 (x3 : Int) ((d3 : Int) * 16777216) = (v : Int) := by rw [show (d3 : Int) * 16777216 = ((d3 * 2 ^ (8 * 3) : Nat) : Int) by omega, bits_or32 _ _ (by omega) (by omega), e4]
  have E2 := hid e2; have E3 := hid e3; have E4 := hid e4
  clear e2 e3 e4 l1 l2 l3 E2 E3 E4
  go_enter Tryz.func295, Tryz.ntmps295
  go_wp2_with fail
  go_quiet (fail)
  go_wp2_with fail
  go_ret
  exact ⟨rfl, _, rfl⟩
theorem be64_294 (b o c N s : Nat) (w : World) (hc8 : 8 ≤ c) (hc : ∀ j, j < 8 → w.cell? ⟨b, o + j, none⟩ = some (.int .u8 ((byt N (s + 7 - j) : Nat) : Int))) :
    Calls Tryz.prog 294 #[.slice (some ⟨b, o, none⟩) 8 c] w fun e w' => e = .returned (.int .u64 ((leS N s 8 : Nat) : Int)) ∧ ∃ k, w' = w.drewN k := by
  have h7 := hc 7 (by omega)
  rw [show s + 7 - 7 = s by omega] at h7
  obtain ⟨v, hv⟩ : ∃ v, v = leS N s 8 := ⟨_, rfl⟩
  obtain ⟨x, hx⟩ : ∃ x, x = leS N (s + 4) 4 := ⟨_, rfl⟩
  obtain ⟨y, hy⟩ : ∃ y, y = leS N s 4 := ⟨_, rfl⟩
  have e := leS_or2 N s
  have l1 := leS_lt N (s + 4) 4
  have l2 := leS_lt N s 4
  rw [← hv, ← hx, ← hy] at e
  rw [← hx] at l1
  rw [← hy] at l2
  rw [← hv]
  have H1 := hid (fun n => quiet_more (n := n) (be32_295 b o 8 c N (s + 4) (w.drewN n) (by omega) (by omega) (fun j hj => by have := hc j (by omega); rw [show s + 4 + 3 - j = s + 7 - j by omega]; exact this)))
  rw [← hx] at H1
  have H2 := hid (fun n cc => quiet_more (n := n) (be32_295 b (o + 4) 4 cc N s (w.drewN n) (by omega) (by omega) (fun j hj => by have := hc (4 + j) (by omega); rw [show s + 3 - j = s + 7 - (4 + j) by omega, show o + 4 + j = o + (4 + j) by omega]; exact this)))
  rw [← hy] at H2
  obtain ⟨p, hs, hp⟩ := slice22_from b o 8 c 4 (by omega) hc8
  have hp := hp (by omega)
  subst hp
  rw [show ((4 : Nat) : Int) = 4 from rfl, show 8 - 4 = 4 from rfl] at hs
  have c1 : bits .or .u64 ((x : Int) * 4294967296) (y : Int) = (v : Int) := by rw [show (x : Int) * 4294967296 = ((x * 2 ^ 32 : Nat) : Int) by omega, bits_or_u64_nat _ _ (by omega) (by omega), e]
  have hxl : x < 4294967296 := by omega
  have hyl : IntKind.u64.wrap (y : Int) = (y : Int) := by rw [IntKind.wrap_u64]; omega
  clear hc hv hx hy e l1 l2
  go_enter Tryz.func294, Tryz.ntmps294
  go_wp2_with fail
  go_quiet (first | (go_at_call 295; with_reducible exact H1.out _) | (go_at_call 295; with_reducible exact H2.out _ _))
  go_wp2_with fail
  go_ret
  exact ⟨rfl, _, rfl⟩
theorem beW257 (b o c N s : Nat) (w : World) (hc8 : 8 ≤ c) (hc : ∀ j, j < 8 → w.cell? ⟨b, o + j, none⟩ = some (.int .u8 ((byt N (s + 7 - j) : Nat) : Int))) :
    Calls Tryz.prog 257 #[.slice (some ⟨b, o, none⟩) 8 c] w fun e w' => e = .returned (.int .u64 ((leS N s 8 : Nat) : Int)) ∧ ∃ k, w' = w.drewN k := by
  have H := hid (be64_294 b o c N s w hc8 hc)
  clear hc
  go_enter Tryz.func257, Tryz.ntmps257
  go_wp2_with fail
  refine H.out.mono ?_
  rintro e w1 ⟨rfl, k, rfl⟩
  go_wp2_with fail
  go_ret
  exact ⟨rfl, _, rfl⟩
end Go.Proofs
namespace Go.Proofs
open Go.RowKit
set_option maxHeartbeats 1600000
set_option linter.unusedVariables false
set_option linter.unusedSimpArgs false
set_option maxRecDepth 100000

theorem slice22_cut (b o l c i j : Nat) (h1 : j < i) (h2 : i ≤ c) :
    ∀ w : World, (Instr.slice 22 (.slice (some ⟨b, o, none⟩) l c) (some (.int .i64 (j : Int))) (some (.int .i64 (i : Int))) none).run Tryz.prog w = .ok (.slice (some ⟨b, o + j, none⟩) (i - j) (c - j)) w := by
  intro w
  rw [run_slice_lh (P := Tryz.prog) w 22 (some ⟨b, o, none⟩) l c u22 .i64 .i64 (j : Int) (i : Int) (by omega) (by omega) (by omega), elem22, size5]
  simp only [Result.andThen_ok, sliced, Int.toNat_natCast, Nat.mul_one]
  congr 2
  rw [if_neg (by omega)]
  simp only [Option.map_some, Addr.add]
  by_cases hj : j = 0
  · subst hj; simp
  · simp [hj]
theorem wordsL_splice {M : List Nat} {zo N k : Nat} (h : zo + k < M.length) : (splice M zo (wordsL N k)).set (zo + k) (N / W64 ^ k % W64) = splice M zo (wordsL N (k + 1)) := by
  have := splice_snoc (L := M) (o := zo) (R := wordsL N k) (v := N / W64 ^ k % W64) (by rw [wordsL_length]; exact h)
  rw [wordsL_length] at this
  rw [this, wordsL_succ]
theorem setBytes222 (a : Option Addr) (n c N : Nat) (w : World) (h : BsV w 0 (.slice a n c) (beL N n) c) (hn : n ≤ 1000) (hN : N < 256 ^ n) :
    Calls Tryz.prog 222 #[.slice none 0 0, .slice a n c] w (NatRes w none 0 N) := by
  by_cases h0 : n = 0
  · subst h0
    have hN0 : N = 0 := by simpa using hN
    subst hN0
    clear h hN
    go_enter Tryz.func222, Tryz.ntmps222
    go_wp2_with fail
    refine (make_zero none 0 0 [] _ (Rd.nil _)).mono ?_
    rintro e w1 ⟨rfl, rfl⟩
    go_wp2_with fail
    go_loopw [5, 6] (fun iv kv wr => iv = .int .i64 0 ∧ kv = .int .i64 0 ∧ wr = w) (fun _ _ _ => 0)
    case atStart => exact ⟨rfl, rfl, rfl⟩
    case round =>
      obtain ⟨rfl, rfl, rfl⟩ := hrel
      go_wp2_with fail
      refine (norm_any none 0 0 [] _ (Rd.nil _)).mono ?_
      rintro e w2 ⟨q, rfl, h1, h2, rfl⟩
      have h2' : q = 0 := by omega
      subst h2'
      go_wp2_with fail
      go_ret
      exact ⟨none, 0, 0, rfl, by rw [words_zero]; exact Rd.nil _, Into.refl _ _ _, Keeps.refl _ _⟩
  obtain ⟨a', he, hlc, hcells⟩ := h
  have hlen : (beL N n).length = n := beL_length N n
  simp only [Value.slice.injEq] at he
  obtain ⟨he, he2⟩ := he
  clear he2
  subst he
  rw [hlen] at hlc
  obtain ⟨b, o, rfl, _, hblt, hcc⟩ := hcells (by rw [hlen]; omega)
  obtain ⟨m, hm⟩ : ∃ m, m = (n + 7) / 8 := ⟨_, rfl⟩
  have hm0 : 0 < m := by omega
  have HC : Hid (∀ w' zb, w.heap.size ≤ zb → Keeps (fun k => k = zb) w w' → ∀ t, t < n → w'.cell? ⟨b, o + t, none⟩ = some (.int .u8 ((byt N (n - 1 - t) : Nat) : Int))) := hid (fun w' zb hz hk t ht => by
    rw [cell_of_block (p := ⟨b, o + t, none⟩) (hk.block b hblt (fun h => by omega)), hcc t (by rw [hlen]; exact ht), beL_get N n t ht]
    rfl)
  have HMK := hid (make_any none 0 0 m [] w (Rd.nil _) (by omega) hm0)
  have HN := hid hN; have HM := hid hm; have Hlc := hid hlc; have H0 := hid h0
  clear hN
  have g1 : wrap64 ((n : Int) + 8) = (n : Int) + 8 := by unfold wrap64; omega
  have g2 : wrap64 ((n : Int) + 8 - 1) = ((n + 7 : Nat) : Int) := by unfold wrap64; omega
  have G3 : Hid (((n : Int) + 8 - 1) / 8 = (m : Int)) := hid (by omega)
  clear hm hlc h0 hcc hcells hlen hblt
  go_enter Tryz.func222, Tryz.ntmps222
  go_wp2_with fail
  rw [G3.out]
  refine HMK.out.mono ?_
  rintro e w1 ⟨ra, zc, rfl, hmd⟩
  obtain ⟨zb, zo, M, rfl, hb, hw, hz1, hz2, hz3, hi, hk⟩ := hmd.rd
  have hzb : w.heap.size ≤ zb := by
    rcases hi.inB ⟨zo, rfl⟩ with ⟨o', h⟩ | h
    · cases h
    · exact h
  have HB := hid hb; have HW := hid hw; have HI := hid hi; have HK := hid hk; have HZB := hid hzb
  clear hmd hb hw hi hk hzb HMK g1 g2
  go_wp2_with fail
  go_loopw [5, 6] (fun iv kv wr => ∃ k : Nat, iv = .int .i64 ((n - 8 * k : Nat) : Int) ∧ kv = .int .i64 (k : Int) ∧ 8 * k ≤ n ∧ Blk wr zb (splice M zo (wordsL N k)) ∧ Keeps (fun k => k = zb) w1 wr) (fun iv _ _ => (intOf iv).toNat)
  case atStart =>
    refine ⟨0, by simp, rfl, by omega, ?_, Keeps.refl _ _⟩
    rw [show wordsL N 0 = [] from rfl, splice_nil]; exact HB.out
  case round =>
    obtain ⟨k, rfl, rfl, hkk8, hbk, hkr⟩ := hrel
    obtain ⟨i, hi⟩ : ∃ i, i = n - 8 * k := ⟨_, rfl⟩
    rw [← hi]
    have HBK := hid hbk; have HKR := hid hkr; have HI8 := hid hi
    have hkm : 8 * k < n → k < m := fun h => by have := HM.out; omega
    have hcell := HC.out _ zb HZB.out (HK.out.any.trans hkr)
    have HCL := hid hcell
    clear hbk hkr hcell hi
    by_cases h8 : 8 ≤ i
    · obtain ⟨j, rfl⟩ : ∃ j, i = j + 8 := ⟨i - 8, by omega⟩
      have HJN := hid HI8.out
      have hjle : j + 8 ≤ n := by have := HI8.out; omega
      have t1 : decide (8 ≤ j + 8) = true := by simp
      have t1' : decide ((8 : Int) ≤ ((j + 8 : Nat) : Int)) = true := by simp; omega
      have e1 : wrap64 (((j + 8 : Nat) : Int) - 8) = (j : Int) := by unfold wrap64; omega
      have hsl := slice22_cut b o n c (j + 8) j (by omega) (by have := Hlc.out; omega)
      rw [show j + 8 - j = 8 by omega, show ((j + 8 : Nat) : Int) = (j : Int) + 8 by omega] at hsl
      have HB8 := hid (beW257 b (o + j) (c - j) N (8 * k) wr (by have := Hlc.out; omega) (fun t ht => by
        have := HCL.out (j + t) (by omega)
        rw [show o + j + t = o + (j + t) by omega, this, show n - 1 - (j + t) = 8 * k + 7 - t by have := HJN.out; omega]))
      rw [leS_word] at HB8
      obtain ⟨v, hv⟩ : ∃ v, v = N / W64 ^ k % W64 := ⟨_, rfl⟩
      rw [← hv] at HB8
      have HV := hid hv
      have hkm' : k < m := hkm (by have := HJN.out; omega)
      have hlz : (splice M zo (wordsL N k)).length = M.length := length_splice (by rw [wordsL_length]; omega)
      have c1 := Blk.cell HBK.out (o := zo + k) (by omega)
      have f1 := Blk.frozen HBK.out (zo + k)
      have e2 : wrap64 ((k : Int) + 1) = ((k + 1 : Nat) : Int) := by unfold wrap64; omega
      have e5 : wrap64 (j : Int) = (j : Int) := by unfold wrap64; omega
      have HJLE := hid hjle; have HLZ := hid hlz
      clear hv h8 hkm hjle hlz e1
      go_wp2_with fail
      refine HB8.out.mono ?_
      rintro e w2 ⟨rfl, q, rfl⟩
      have t3 : decide (k < m) = true := by simpa using hkm'
      have HKK := hid hkk8
      clear hsl t1 t1' hkk8 HB8
      go_wp2_with fail
      rw [e5, e2]
      refine ⟨⟨k + 1, ?_, rfl, by have := HJN.out; have := HKK.out; omega, ?_, ((HKR.out.drewN q).setCell ⟨zb, zo + k, none⟩ (.inl rfl) _)⟩, by simp [intOf] <;> omega⟩
      · rw [show n - 8 * (k + 1) = j by have := HJN.out; omega]
      · have := Blk.set (w := wr.drewN q) (RowAt.drewN HBK.out q) (zo + k) v
        rw [HV.out, wordsL_splice (by omega)] at this
        rw [HV.out]; exact this
    · have t1 : decide (8 ≤ i) = false := by simp; omega
      have t1' : decide ((8 : Int) ≤ (i : Int)) = false := by simp; omega
      by_cases hi0 : i = 0
      · subst hi0
        have hmk : m = k := by have := HM.out; have := HI8.out; omega
        subst hmk
        have hfin : N < W64 ^ m := by
          rw [show W64 = 256 ^ 8 from rfl, ← Nat.pow_mul, show 8 * m = n by have := HI8.out; omega]; exact HN.out
        have hrd : Rd wr (some ⟨zb, zo, none⟩) m zc (wordsL N m) := Made.done HBK.out HW.out (wordsL_words N m) (wordsL_length N m) hz1 hz2 hz3
        have HNM := hid (norm_any (some ⟨zb, zo, none⟩) m zc _ wr hrd)
        rw [wordsL_trim hfin] at HNM
        clear hrd hfin hkm h8
        go_wp2_with fail
        refine HNM.out.mono ?_
        rintro e w2 ⟨q, rfl, h1, h2, rfl⟩
        have H1 := hid h1
        clear h1
        go_wp2_with fail
        go_ret
        exact ⟨_, _, _, rfl, H1.out, HI.out, HK.out.any.trans' HKR.out (fun i hi h => by subst h; exact (Nat.lt_irrefl _ (Nat.lt_of_lt_of_le hi HZB.out)).elim)⟩
      · have hmk : m = k + 1 := by have := HM.out; have := HI8.out; omega
        subst hmk
        have t2 : decide (0 < i) = true := by simp; omega
        have hi7 : i ≤ 7 := by omega
        have hfin : N < W64 ^ (k + 1) := by
          rw [show W64 = 256 ^ 8 from rfl, ← Nat.pow_mul]; exact Nat.lt_of_lt_of_le HN.out (Nat.pow_le_pow_right (by omega) (by have := HI8.out; omega))
        have HFIN := hid hfin
        clear hfin hkm h8 t1 t1'
        go_wp2_with fail
        go_loopw [5, 7, 8] (fun iv dv sv wx => ∃ j : Nat, iv = .int .i64 ((i - j : Nat) : Int) ∧ dv = .int .u64 ((leS N (8 * k) j : Nat) : Int) ∧ sv = .int .u64 ((8 * j : Nat) : Int) ∧ j ≤ i ∧ wx = wr) (fun iv _ _ _ => (intOf iv).toNat)
        case atStart => exact ⟨0, by simp, by rw [leS_zero]; rfl, rfl, by omega, rfl⟩
        case round =>
          obtain ⟨j, rfl, rfl, rfl, hji, rfl⟩ := hrel
          by_cases hj : j < i
          · obtain ⟨r, hr⟩ : ∃ r, i - j = r + 1 := ⟨i - j - 1, by omega⟩
            rw [hr]
            have hrn : r < n := by have := HI8.out; omega
            have cb := HCL.out r hrn
            rw [show n - 1 - r = 8 * k + j by have := HI8.out; omega] at cb
            have e1 := leS_or N (8 * k) j
            have l1 := leS_lt N (8 * k) j
            have l2 := leS_lt N (8 * k) (j + 1)
            have hbl := byt_lt N (8 * k + j)
            have e5 : wrap64 (r : Int) = (r : Int) := by unfold wrap64; omega
            obtain ⟨B, hB⟩ : ∃ B, B = byt N (8 * k + j) := ⟨_, rfl⟩
            have hBw : IntKind.u64.wrap (B : Int) = (B : Int) := by rw [IntKind.wrap_u64]; omega
            obtain ⟨x, hx⟩ : ∃ x, x = leS N (8 * k) j := ⟨_, rfl⟩
            obtain ⟨y, hy⟩ : ∃ y, y = leS N (8 * k) (j + 1) := ⟨_, rfl⟩
            obtain ⟨s, hs⟩ : ∃ s, s = 8 * j := ⟨_, rfl⟩
            have hs63 : s ≤ 48 := by omega
            have e4 : IntKind.u64.wrap ((s : Int) + 8) = ((s + 8 : Nat) : Int) := by rw [IntKind.wrap_u64]; omega
            have hp1 : 256 ^ j ≤ W64 := by rw [show W64 = 256 ^ 8 from rfl]; exact Nat.pow_le_pow_right (by omega) (by omega)
            have hp2 : B * 2 ^ s < W64 := by
              rw [← hB] at hbl
              have h3 : (2 : Nat) ^ s ≤ 2 ^ 48 := Nat.pow_le_pow_right (by omega) hs63
              have h4 : B * 2 ^ s ≤ 255 * 2 ^ 48 := Nat.mul_le_mul (by omega) h3
              unfold W64; omega
            rw [← hB, ← hx, ← hy, ← hs] at e1
            rw [← hx] at l1
            rw [← hB] at cb
            have b1 : IntKind.u64.wrap ((B : Int) * 2 ^ s) = ((B * 2 ^ s : Nat) : Int) := by rw [shl_wrap, Nat.mod_eq_of_lt hp2]
            have b2 : bits .or .u64 (x : Int) ((B * 2 ^ s : Nat) : Int) = (y : Int) := by
              rw [bits_or_u64_nat _ _ (Nat.lt_of_lt_of_le l1 hp1) hp2, e1]
            rw [← b1] at b2
            have HS := hid hs; have HY := hid hy; have HR := hid hr; have HX := hid hx
            rw [← hx, ← hs]
            clear hB hx hy hs b1 e1 l1 l2 hp1 hp2 hr t2 hi0 hi7 hz1 hz2 hz3 hm0 hbl
            go_wp2_with fail
            try rw [e5]
            try rw [e4]
            refine ⟨⟨j + 1, ?_, ?_, ?_, by omega, by first | rfl | trivial⟩, by simp [intOf] <;> (have := HR.out; omega)⟩
            · rw [show i - (j + 1) = r by have := HR.out; omega]
            · rw [← HY.out]
            · rw [show 8 * (j + 1) = s + 8 by have := HS.out; omega]; rfl
          · have hji' : j = i := by omega
            subst hji'
            have hlast := leS_last (N := N) (n := n) (k := k) HN.out (by omega) (by have := HI8.out; omega)
            rw [show n - 8 * k = j from HI8.out.symm] at hlast
            obtain ⟨v, hv⟩ : ∃ v, v = N / W64 ^ k % W64 := ⟨_, rfl⟩
            rw [← hv] at hlast
            rw [hlast, Nat.sub_self]
            have HV := hid hv
            have hlz : (splice M zo (wordsL N k)).length = M.length := length_splice (by rw [wordsL_length]; omega)
            have c1 := Blk.cell HBK.out (o := zo + k) (by omega)
            have f1 := Blk.frozen HBK.out (zo + k)
            have e3 : wrap64 (((k + 1 : Nat) : Int) - 1) = (k : Int) := by unfold wrap64; omega
            have hset := Blk.set HBK.out (zo + k) v
            rw [HV.out, wordsL_splice (by omega)] at hset
            rw [← HV.out] at hset
            have hrd : Rd _ (some ⟨zb, zo, none⟩) (k + 1) zc (wordsL N (k + 1)) := Made.done hset HW.out (wordsL_words N (k + 1)) (wordsL_length N (k + 1)) hz1 hz2 hz3
            have HNM := hid (norm_any (some ⟨zb, zo, none⟩) (k + 1) zc _ _ hrd)
            rw [wordsL_trim HFIN.out] at HNM
            clear hrd hset hv hlast hj t2
            go_wp2_with fail
            refine HNM.out.mono ?_
            rintro e w2 ⟨q, rfl, h1, h2, rfl⟩
            have H1 := hid h1
            clear h1
            go_wp2_with fail
            go_ret
            exact ⟨_, _, _, rfl, H1.out, HI.out, HK.out.any.trans' (HKR.out.setCell ⟨zb, zo + k, none⟩ (.inl rfl) _) (fun i hi h => by subst h; exact (Nat.lt_irrefl _ (Nat.lt_of_lt_of_le hi HZB.out)).elim)⟩
end Go.Proofs
namespace Go.Proofs
open Go.RowKit
set_option maxHeartbeats 1600000
set_option linter.unusedVariables false
set_option linter.unusedSimpArgs false
set_option maxRecDepth 100000

theorem setBytes179 (pz tz : Nat) (z : Int) (az : Option Addr) (lz cz : Nat) (a : Option Addr) (n c N : Nat) (w : World) (hz : IntS w pz tz z none lz cz) (h : BsV w 0 (.slice a n c) (beL N n) c) (hn : n ≤ 1000) (hN : N < 256 ^ n) :
    Calls Tryz.prog 179 #[.pointer (some ⟨pz, 0, none⟩), .slice a n c] w fun e w' => e = .returned (.pointer (some ⟨pz, 0, none⟩)) ∧ IntRes w pz tz none 0 (N : Int) w' := by
  have hl0 : lz = 0 ∧ cz = 0 := by
    rcases hz.rd with ⟨_, _, h1, h2⟩ | ⟨b, o, M, h, _⟩
    · exact ⟨h1, h2⟩
    · cases h
  obtain ⟨rfl, rfl⟩ := hl0
  have Hz := hid hz
  obtain ⟨z1, z2, z3, z4⟩ := hz.row.facts
  have HC := hid (setBytes222 a n c N w h hn hN)
  clear hz h hN
  go_enter Tryz.func179, Tryz.ntmps179
  go_wp2_with fail
  refine HC.out.mono ?_
  rintro e w1 ⟨ra, rl, rc, rfl, h1, h2, h3⟩
  obtain ⟨d0, d1, d2, d3⟩ := Hz.out.row.after h3 (Hz.out.rd.not_row Hz.out.row)
  have H1 := hid h1; have H2 := hid h2; have H3 := hid h3
  clear h1 h2 h3 HC
  go_wp2_with fail
  go_ret
  refine ⟨rfl, IntRes.both (H3.out.row Hz.out.row (Hz.out.rd.not_row Hz.out.row)) H1.out (H2.out) (H3.out.mono (fun i _ h => .inr h)) ?_ ?_⟩
  · exact (decide_eq_false (by omega)).symm
  · omega
theorem w125 (p : Addr) (v : Value) (w : World) (R : World → Prop) (h : Calls Tryz.prog 179 #[.pointer (some p), v] w fun e w' => (∃ u, e = .returned u) ∧ R w') :
    Calls Tryz.prog 125 #[.pointer (some p), v] w fun e w' => e = .returned (.pointer (some p)) ∧ R w' := by
  have H := hid h
  clear h
  obtain ⟨b0, o0, s0⟩ := p
  go_enter Tryz.func125, Tryz.ntmps125
  go_wp2_with fail
  refine H.out.mono ?_
  rintro e w1 ⟨⟨u, rfl⟩, hR⟩
  have HR := hid hR
  clear hR
  go_wp2_with fail
  go_ret
  exact ⟨rfl, HR.out⟩
theorem fromBytes54 (v : Value) (N n c : Nat) (w : World) (h : BsV w 0 v (beL N n) c) (hN : N < 256 ^ n) (hn : n ≤ 100) (G : Glob w) :
    Calls Tryz.prog 54 #[v] w fun e w' => e = .returned (.string (strB (txt (decide ((N : Int) < 0)) N))) ∧ Keeps (fun _ => False) w w' := by
  have HG := hid G; have HN := hid hN
  have HBW : Hid (∀ W, Keeps (fun _ => False) w W → BsV W 0 v (beL N n) c) := hid (fun W hk => h.keep hk (fun _ _ h => h))
  have hNT : N < 10 ^ 251 := by
    have h1 : (256 : Nat) ^ 100 ≤ 10 ^ 251 := by decide +kernel
    exact Nat.lt_of_lt_of_le hN (Nat.le_trans (Nat.pow_le_pow_right (by omega) hn) h1)
  have HNT := hid (lt_TXB hNT)
  obtain ⟨a, e, hlc, hcc⟩ := h
  subst e
  clear hlc hcc G hN hNT
  obtain ⟨l, hl⟩ : ∃ l, l = (beL N n).length := ⟨_, rfl⟩
  rw [← hl] at HBW ⊢
  rw [beL_length] at hl
  subst hl
  obtain ⟨m, hm⟩ : ∃ m, m = w.heap.size := ⟨_, rfl⟩
  have HM := hid hm
  have HSN : Hid (∀ W, Keeps (fun _ => False) (w.alloc (.cells #[.bool false, .slice none 0 0] 105)) W → IntS W m 105 0 none 0 0) := hid (fun W hk => by
    have h := intS_new w 105
    rw [← hm] at h
    exact h.keep hk (fun h => h) (fun _ _ h => h))
  go_enter Tryz.func54, Tryz.ntmps54
  go_wp2_with (refine wpList_app rfl (.tmp 4) (.tmp 5) rfl rfl (.slice (some ⟨w.heap.size + 1, 0, none⟩) 0 0) (.slice a l c) rfl rfl 0 [] (beL N l) c (BsV.empty _ _ _ _) (HBW.out _ (((Keeps.refl _ w).alloc _).alloc _)) (Nat.zero_le _) (by simp [beL_length]; omega) ?_; intro a' k' w1 c1 e1 hb1 hk1; have E1 := hid e1; clear e1)
  have e1 := E1.out
  clear E1
  rw [List.nil_append] at e1 hb1
  rw [beL_length] at e1
  subst e1
  rw [← hm]
  clear hm
  have HK1 : Hid (Keeps (fun _ => False) w w1) := hid ((((Keeps.refl _ w).alloc _).alloc _).trans hk1)
  have HS1 : Hid (IntS w1 m 105 0 none 0 0) := hid (HSN.out _ (((Keeps.refl _ _).alloc _).trans hk1))
  have HC := hid (w125 ⟨m, 0, none⟩ (.slice a' k' c1) w1 (IntRes w1 m 105 none 0 (N : Int)) ((setBytes179 m 105 0 none 0 0 a' k' c1 N w1 HS1.out hb1 (by omega) HN.out).mono (fun e w' ⟨he, hr⟩ => ⟨⟨_, he⟩, hr⟩)))
  clear hb1 hk1
  go_wp2_with fail
  refine HC.out.mono ?_
  rintro e w2 ⟨rfl, a2, l2, c2, h2, h3, h4⟩
  have hk2 : Keeps (fun _ => False) w w2 := HK1.out.trans' h4 (fun i hi h => by
    rcases h with h | ⟨o, h⟩
    · have := HM.out; omega
    · cases h)
  have HST := hid (string80_big m 105 (N : Int) w2 h2.at (by rw [Int.natAbs_natCast]; exact HNT.out) (HG.out.keep hk2 (fun _ _ h => h)))
  rw [Int.natAbs_natCast] at HST
  have HK2 := hid hk2
  clear h2 h3 h4 hk2 HC
  go_wp2_with fail
  refine HST.out.mono ?_
  rintro e w3 ⟨rfl, hk3⟩
  have HK3 := hid hk3
  clear hk3 HST
  go_wp2_with fail
  go_ret
  exact ⟨rfl, HK2.out.trans HK3.out⟩
end Go.Proofs
namespace Go.Proofs
open Go.RowKit
set_option maxHeartbeats 1600000
set_option linter.unusedVariables false
set_option linter.unusedSimpArgs false
set_option maxRecDepth 100000

theorem make22 (n : Nat) (hm : n ≤ 1000000000000) : ∀ w : World, (Instr.makeSlice 22 (.int .i64 (n : Int)) (.int .i64 (n : Int))).run Tryz.prog w = .ok (.slice (some ⟨w.heap.size, 0, none⟩) n n) (w.alloc (.cells (List.replicate n (.int .u8 0)).toArray 5)) := by
  intro w
  obtain ⟨i5, hi5, hz0, hz1, hz2⟩ := info_parts info5
  have hrun := run_make (P := Tryz.prog) w 22 5 i5 (.int .u8 0) Tryz.underlying22 hi5 hz0 .i64 .i64 n n (by omega) (by omega) (by rw [hz2]; omega) (by omega)
  have hcells : madeCells (Value.int IntKind.u8 0).cells ((n : Int).toNat * i5.size) = (List.replicate n (.int .u8 0)).toArray := by
    rw [hz1]
    apply Array.ext
    · simp [madeCells, Value.cells]
    · intro j h1 h2
      simp [madeCells, Nat.mod_one, Value.cells]
  rw [hcells] at hrun
  simp only [Int.toNat_natCast] at hrun
  exact hrun
theorem byt_new (w : World) (n : Nat) : Byt (w.alloc (.cells (List.replicate n (.int .u8 0)).toArray 5)) w.heap.size (List.replicate n 0) := by
  have h := RowAt.new w 5 (List.replicate n (.int .u8 0))
  unfold Byt
  rw [List.map_replicate]
  exact h
theorem Byt.keep {S : Nat → Prop} {w w' : World} {b : Nat} {L : List Nat} (h : Byt w b L) (hk : Keeps S w w') (hb : ¬ S b) : Byt w' b L := hk.row h hb
theorem len_200 {w : World} {p t l c : Nat} {x : Int} {a : Option Addr} (h : IntS w p t x a l c) (hx : x.natAbs < 10 ^ 200) : l ≤ 11 := by
  rw [← h.rd.length]
  exact words_lt (Nat.lt_of_lt_of_le hx (by unfold W64; decide +kernel))

theorem Glob.ne_slice {w : World} (h : Glob w) {s : Nat} {t : TypeId} {a : Option Addr} {l c : Nat} (hr : RowAt w s t [.slice a l c]) : ¬ GB s := by
  intro hk
  have c0 : w.cell? ⟨s, 0, none⟩ = some (.slice a l c) := hr.cell 0
  obtain ⟨q, hp⟩ := h.eof
  rcases hk with rfl | rfl | rfl | rfl | rfl | rfl | rfl
  · rw [hp] at c0; cases c0
  · rw [h.bs] at c0; cases c0
  · rw [h.ks] at c0; cases c0
  · rw [h.kt] at c0; cases c0
  · rw [h.dr] at c0; cases c0
  · rw [h.lf] at c0; cases c0
  · rw [h.tz 0 (by omega)] at c0; cases c0
/-- What Bytes gives. -/
def BytesQ (w1 : World) (N : Nat) (v : Value) (w' : World) : Prop := ∃ P k, v = .slice P k k ∧ BsV w' w1.heap.size (.slice P k k) (beL N k) k ∧ IsLen N k ∧ k ≤ 100 ∧ Keeps (fun _ => False) w1 w'
/-- What the first part leaves. -/
theorem bytes122 (A O1 N O2 : Nat) (sa : ByteArray) (na : Bool) (da : Nat → Nat) (la : Nat) (x : Int) (n : Nat) (w : World)
    (hA : w.cell? ⟨A, 0, none⟩ = some (.string sa)) (hN : w.cell? ⟨N, 0, none⟩ = some (.int .i64 (n : Int))) (ta : NumText sa na la da)
    (r1 : RowAt w O1 22 [.slice none 0 0]) (r2 : RowAt w O2 22 [.slice none 0 0]) (d12 : O1 ≠ O2) (hx : x = numZ na (dval da la)) (hxb : x.natAbs < 10 ^ 200) (hn : x.natAbs < 256 ^ n) (hn2 : n ≤ 1000) (G : Glob w) :
    Calls Tryz.prog 122 #[.pointer (some ⟨A, 0, none⟩), .pointer (some ⟨O1, 0, none⟩), .pointer (some ⟨N, 0, none⟩), .pointer (some ⟨O2, 0, none⟩)] w fun e w' => e = .returned (.tuple #[]) ∧
      (∃ a1 k1 c1 a2, RowAt w' O1 22 [.slice a1 k1 c1] ∧ RowAt w' O2 22 [.slice a2 n n] ∧ BsV w' w.heap.size (.slice a1 k1 c1) (beL x.natAbs k1) c1 ∧ IsLen x.natAbs k1 ∧ BsV w' w.heap.size (.slice a2 n n) (beL x.natAbs n) n) ∧ Keeps (fun k => k = O1 ∨ k = O2) w w' := by
  obtain ⟨i5, hi5, hz0, hz1, hz2⟩ := info_parts info5
  have hAl : A < w.heap.size := World.block_lt_of_cell? w ⟨A, 0, none⟩ hA
  have hNl : N < w.heap.size := World.block_lt_of_cell? w ⟨N, 0, none⟩ hN
  have hA1 : A ≠ O1 := by rintro rfl; have h := r1.cell 0; simp only [List.getElem?_cons_zero] at h; rw [hA] at h; cases h
  have hA2 : A ≠ O2 := by rintro rfl; have h := r2.cell 0; simp only [List.getElem?_cons_zero] at h; rw [hA] at h; cases h
  have hN1 : N ≠ O1 := by rintro rfl; have h := r1.cell 0; simp only [List.getElem?_cons_zero] at h; rw [hN] at h; cases h
  have hN2 : N ≠ O2 := by rintro rfl; have h := r2.cell 0; simp only [List.getElem?_cons_zero] at h; rw [hN] at h; cases h
  have HG := hid G; have HXB := hid hxb; have HNB := hid hn
  have HSA : Hid (∀ w', Keeps (fun k => k = O1 ∨ k = O2) w w' → w'.cell? ⟨A, 0, none⟩ = some (.string sa) ∧ w'.cell? ⟨N, 0, none⟩ = some (.int .i64 (n : Int))) := hid (fun w' hk =>
    ⟨(cell_of_block (p := ⟨A, 0, none⟩) (hk.block A hAl (fun h => h.elim hA1 hA2))).trans hA, (cell_of_block (p := ⟨N, 0, none⟩) (hk.block N hNl (fun h => h.elim hN1 hN2))).trans hN⟩)
  have HNUM : Hid (∀ W, Keeps (fun k => k = O1 ∨ k = O2) w W → Calls Tryz.prog 67 #[.string sa] W fun e w' => ∃ p a l c, e = .returned (.pointer (some ⟨p, 0, none⟩)) ∧ IntS w' p 105 x a l c ∧ Keeps (fun _ => False) W w') := hid (fun W hk => by
    refine (number_int sa na la da W ta (G.keep hk (by rintro k hg (h | h); exact G.ne_slice r1 (h ▸ hg); exact G.ne_slice r2 (h ▸ hg)))).mono ?_
    rintro e w' ⟨p, a1, l1, c1, rfl, h1, h2, h3, h4⟩
    rw [← hx] at h2
    exact ⟨p, a1, l1, c1, rfl, h2, h4⟩)
  have R1 := hid r1; have R2 := hid r2
  obtain ⟨m, hm⟩ : ∃ m, m = w.heap.size := ⟨_, rfl⟩
  have HM := hid hm
  obtain ⟨s0, _⟩ := HSA.out _ ((Keeps.refl (fun k => k = O1 ∨ k = O2) w).alloc (.cells #[] 5))
  have HNUM0 := hid (HNUM.out _ ((Keeps.refl (fun k => k = O1 ∨ k = O2) w).alloc (.cells #[] 5)))
  clear hA hN ta r1 r2 hx hxb hn G hm hAl hNl hA1 hA2 hN1 hN2
  go_enter Tryz.func122, Tryz.ntmps122
  go_wp2_with fail
  refine HNUM0.out.mono ?_
  rintro e w1 ⟨p, a, l, c, rfl, hi, hk⟩
  have hl := len_200 hi HXB.out
  have hk1 : Keeps (fun _ => False) w w1 := ((Keeps.refl _ w).alloc _).trans hk
  have HB := hid (w123 ⟨p, 0, none⟩ w1 (BytesQ w1 x.natAbs) ((intBytes177 p 105 x a l c w1 hi (by omega)).mono (by
    rintro e w' ⟨b, i, k, P, rfl, h1, h2, h3, h4, h5, h6⟩
    exact ⟨_, rfl, P, k, rfl, BsV.of_byt (o := i) h4 h5 (beL_length _ _) (Nat.le_refl _) (by rw [beL_length]; omega) (fun j hj => by rw [beL_get _ _ _ (by omega), beL_get _ _ _ hj]; congr 1; omega) h1, h3, by omega, h6⟩)))
  have HK1 := hid hk1
  clear hi hk hk1 hl s0 HNUM0
  have HST : Hid (∀ W, Keeps (fun _ => False) w W → W.cell? ⟨O1, 0, none⟩ = some (.slice none 0 0) ∧ W.frozen? ⟨O1, 0, none⟩ = false) := hid (fun W hk => ⟨(hk.row R1.out (fun h => h)).cell 0, (hk.row R1.out (fun h => h)).frozen 0⟩)
  have HST2 : Hid (∀ W, Keeps (fun _ => False) w W → W.cell? ⟨O2, 0, none⟩ = some (.slice none 0 0) ∧ W.frozen? ⟨O2, 0, none⟩ = false) := hid (fun W hk => ⟨(hk.row R2.out (fun h => h)).cell 0, (hk.row R2.out (fun h => h)).frozen 0⟩)
  go_wp2_with fail
  refine HB.out.mono ?_
  rintro e w2 ⟨v, rfl, P, k, rfl, hb, hlen, hk100, hk⟩
  have HBV := hid (hb.lower (m := m) (by rw [HM.out]; exact HK1.out.size)); have HLEN := hid hlen; have HK2 := hid (HK1.out.trans hk)
  have HMW : Hid (m ≤ w2.heap.size) := hid (by rw [HM.out]; exact HK2.out.size)
  clear hb hlen hk HB
  rw [← HM.out]
  have HAP : Hid (BsV w2 m (.slice (some ⟨m, 0, none⟩) 0 0) [] 0) := hid (BsV.empty _ _ _ _)
  go_upto_region 1 with (refine wpList_app rfl (.tmp 4) (.tmp 7) rfl rfl (.slice (some ⟨m, 0, none⟩) 0 0) (.slice P k k) rfl rfl m [] (beL x.natAbs k) k HAP.out HBV.out HMW.out (by simp [beL_length]; omega) ?_; intro a3 k3 w3 c3 e3 hb3 hk3; have E3 := hid e3; clear e3; obtain ⟨u0, u1⟩ := HST.out w3 (HK2.out.trans hk3); have HB3 := hid hb3; have HK3 := hid (HK2.out.trans hk3); clear hb3 hk3)
  have e3 := E3.out
  rw [List.nil_append, beL_length] at e3
  subst e3
  clear E3 u0 u1
  obtain ⟨wz, hwz⟩ : ∃ wz, wz = w3.setCell ⟨O1, 0, none⟩ (.slice a3 k3 c3) := ⟨_, rfl⟩
  have hO1 : O1 < m := by rw [HM.out]; exact R1.out.lt
  have hO2 : O2 < m := by rw [HM.out]; exact R2.out.lt
  have HR1z : Hid (RowAt wz O1 22 [.slice a3 k3 c3]) := hid (by rw [hwz]; simpa using (HK3.out.row R1.out (fun h => h)).set 0 (.slice a3 k3 c3))
  have HR2z : Hid (RowAt wz O2 22 [.slice none 0 0]) := hid (by rw [hwz]; exact (HK3.out.row R2.out (fun h => h)).other (p := ⟨O1, 0, none⟩) d12 _)
  have HKz : Hid (Keeps (fun k => k = O1 ∨ k = O2) w wz) := hid (by rw [hwz]; exact HK3.out.any.setCell _ (.inl (.inl rfl)) _)
  have HBz : Hid (BsV wz m (.slice a3 k3 c3) (beL x.natAbs k3) c3) := hid (by
    have h := HB3.out
    rw [List.nil_append] at h
    rw [hwz]
    exact h.keep (Keeps.set1 w3 O1 0 _) (fun k hk h => by omega))
  have HSZ : Hid (∀ w', Keeps (fun k => k = O2) wz w' → w'.cell? ⟨A, 0, none⟩ = some (.string sa) ∧ w'.cell? ⟨N, 0, none⟩ = some (.int .i64 (n : Int))) := hid (fun w' hk => HSA.out w' (HKz.out.trans (hk.mono (fun i _ h => .inr h))))
  have HNZ : Hid (∀ W, Keeps (fun _ => False) wz W → Calls Tryz.prog 67 #[.string sa] W fun e w' => ∃ p a l c, e = .returned (.pointer (some ⟨p, 0, none⟩)) ∧ IntS w' p 105 x a l c ∧ Keeps (fun _ => False) W w') := hid (fun W hk => HNUM.out W (HKz.out.trans hk.any))
  have HFILL : Hid (∀ W p2 a2 l2 c2 bb, IntS W p2 105 x a2 l2 c2 → Byt W bb (List.replicate n 0) → wz.heap.size ≤ bb → Keeps (fun _ => False) wz W → Calls Tryz.prog 124 #[.pointer (some ⟨p2, 0, none⟩), .slice (some ⟨bb, 0, none⟩) n n] W fun e w' => ∃ v, e = .returned v ∧ v = .slice (some ⟨bb, 0, none⟩) n n ∧ Byt w' bb (beL x.natAbs n) ∧ Keeps (fun _ => False) wz w' ∧ w'.cell? ⟨O2, 0, none⟩ = some (.slice none 0 0) ∧ w'.frozen? ⟨O2, 0, none⟩ = false) := hid (fun W p2 a2 l2 c2 bb hi hbt hbb hk =>
    w124 ⟨p2, 0, none⟩ _ W (fun v w' => v = .slice (some ⟨bb, 0, none⟩) n n ∧ Byt w' bb (beL x.natAbs n) ∧ Keeps (fun _ => False) wz w' ∧ w'.cell? ⟨O2, 0, none⟩ = some (.slice none 0 0) ∧ w'.frozen? ⟨O2, 0, none⟩ = false) ((fill178 p2 105 x a2 l2 c2 bb n n _ W hi (by have := len_200 hi HXB.out; omega) hbt (by simp) (by omega) HNB.out).mono (by
      rintro e w' ⟨rfl, h1, h2⟩
      have hkk : Keeps (fun _ => False) wz w' := hk.trans' h2 (fun i hi h => by omega)
      exact ⟨_, rfl, rfl, h1, hkk, (hkk.row HR2z.out (fun h => h)).cell 0, (hkk.row HR2z.out (fun h => h)).frozen 0⟩)))
  have HSt : Hid (∀ W v, Keeps (fun _ => False) wz W → (W.setCell ⟨O2, 0, none⟩ v).cell? ⟨A, 0, none⟩ = some (.string sa) ∧ (W.setCell ⟨O2, 0, none⟩ v).cell? ⟨N, 0, none⟩ = some (.int .i64 (n : Int))) := hid (fun W v hk => HSZ.out _ (Keeps.setCell (S := fun k => k = O2) hk.any ⟨O2, 0, none⟩ (.inl rfl) v))
  obtain ⟨s0, s1⟩ := HSZ.out _ (Keeps.refl _ wz)
  have HO1 := hid hO1; have HO2 := hid hO2
  rw [← hwz]
  clear hwz hO1 hO2 HST HST2 HSA HNUM
  have hmk := make22 n (by omega)
  have hnb := fun w => byt_new w n
  obtain ⟨Z, hZ⟩ : ∃ Z, Z = Obj.cells (List.replicate n (.int .u8 0)).toArray 5 := ⟨_, rfl⟩
  rw [← hZ] at hmk hnb
  have HNB2 := hid hnb
  clear hZ hnb
  go_region_held3 (fun w' => w'.cell? ⟨A, 0, none⟩ = some (.string sa) ∧ w'.cell? ⟨N, 0, none⟩ = some (.int .i64 (n : Int)))
    (first | (with_reducible exact HSt.out _ _ K6.out) | ((refine HSZ.out _ ?_); repeat (first | (with_reducible exact K6.out.any) | (with_reducible exact K5.out.any) | (with_reducible exact Keeps.refl _ _) | (with_reducible refine Keeps.drew ?_) | (refine Keeps.alloc ?_ _) | (refine Keeps.setCell ?_ _ (.inl rfl) _))))
    (first
     | (go_at_call 67; (with_reducible refine (HNZ.out wz.drew ((Keeps.refl (fun _ => False) wz).drew)).mono ?_); rintro e w5 ⟨p2, a2, l2, c2, rfl, hi2, hk2⟩; have HI2 := hid hi2; have K5 := hid (((Keeps.refl (fun _ => False) wz).drew).trans hk2); have tok0 : True := trivial; clear hi2 hk2)
     | (go_at_call 67; (with_reducible refine (HNZ.out (wz.alloc Z).drew (((Keeps.refl (fun _ => False) wz).alloc _).drew)).mono ?_); rintro e w5 ⟨p2, a2, l2, c2, rfl, hi2, hk2⟩; have HI2 := hid hi2; have FB := hid (Byt.keep (RowAt.drew (HNB2.out wz)) hk2 (fun h => h)); have K5 := hid ((((Keeps.refl (fun _ => False) wz).alloc _).drew).trans hk2); have tok1 : True := trivial; clear hi2 hk2)
     | (go_at_call 124; have _t := tok0; (with_reducible refine (HFILL.out (w5.alloc Z) p2 a2 l2 c2 w5.heap.size (HI2.out.keep ((Keeps.refl (fun _ => False) w5).alloc _) (fun h => h) (fun _ _ h => h)) (HNB2.out w5) K5.out.size (K5.out.alloc _)).mono ?_); rintro e w6 ⟨v6, rfl, rfl, hbt, hk6, u0, u1⟩; have K6 := hid hk6; have FB6 := hid hbt; have z6 := K5.out.size; clear hbt hk6)
     | (go_at_call 124; have _t := tok1; (with_reducible refine (HFILL.out w5 p2 a2 l2 c2 wz.heap.size HI2.out FB.out (Nat.le_refl _) K5.out).mono ?_); rintro e w6 ⟨v6, rfl, rfl, hbt, hk6, u0, u1⟩; have K6 := hid hk6; have FB6 := hid hbt; have z6 := Nat.le_refl wz.heap.size; clear hbt hk6))
  all_goals go_wp2_with fail
  all_goals go_end0
  all_goals
    have hsz := HKz.out.size
    have hmm := HM.out
    refine ⟨rfl, ⟨a3, k3, c3, _, (K6.out.row HR1z.out (fun h => h)).other (p := ⟨O2, 0, none⟩) (Ne.symm d12) _, by simpa using (K6.out.row HR2z.out (fun h => h)).set 0 (.slice (some ⟨_, 0, none⟩) n n), ?_, HLEN.out, ?_⟩, (HKz.out.trans K6.out.any).setCell _ (.inl (.inr rfl)) _⟩
    · rw [← hmm]
      exact (HBz.out.keep K6.out (fun _ _ h => h)).keep (Keeps.set1 w6 O2 0 _) (fun k hk h => by have := HO2.out; omega)
    · refine (BsV.of_byt (o := 0) FB6.out (show w.heap.size ≤ _ by omega) (beL_length _ _) (Nat.le_refl _) (by rw [beL_length]; omega) (fun j hj => by rw [Nat.zero_add]) (fun _ => rfl)).keep (Keeps.set1 w6 O2 0 _) (fun k hk h => by have := HO2.out; omega)
end Go.Proofs
namespace Go.Proofs
open Go.RowKit
set_option maxHeartbeats 1600000
set_option linter.unusedVariables false
set_option linter.unusedSimpArgs false
set_option maxRecDepth 100000

theorem call122 (cap : Array Value) (w : World) : (callFunc 122 cap).run Tryz.prog w = .ok (.enter 122 cap) w := by simp [go_sem, callFunc, Tryz.func122]; rfl

theorem bigBytes53 (sa : ByteArray) (na : Bool) (da : Nat → Nat) (la : Nat) (x : Int) (n : Nat) (w : World) (ta : NumText sa na la da) (hx : x = numZ na (dval da la)) (hxb : x.natAbs < 10 ^ 200) (hn : x.natAbs < 256 ^ n) (hn2 : n ≤ 1000) (G : Glob w) :
    Calls Tryz.prog 53 #[.string sa, .int .i64 (n : Int)] w fun e w' => (∃ a1 k1 c1 a2, e = .returned (.tuple #[.slice a1 k1 c1, .slice a2 n n]) ∧ BsV w' w.heap.size (.slice a1 k1 c1) (beL x.natAbs k1) c1 ∧ IsLen x.natAbs k1 ∧ BsV w' w.heap.size (.slice a2 n n) (beL x.natAbs n) n) ∧ Keeps (fun _ => False) w w' := by
  have hmf : ∀ (fn : Fn) (first cap : Array Value) (w : World), (Instr.makeFunc fn first cap).run Tryz.prog w = .ok (.func fn first cap) w := fun _ _ _ _ => rfl
  obtain ⟨B, hB⟩ : ∃ B : List (TypeId × Value), B = [(9, .string sa), (3, .int .i64 (n : Int)), (22, .slice none 0 0), (22, .slice none 0 0)] := ⟨_, rfl⟩
  obtain ⟨W, hW⟩ : ∃ W, W = boxed w B := ⟨_, rfl⟩
  obtain ⟨m, hm⟩ : ∃ m, m = w.heap.size := ⟨_, rfl⟩
  have hnest : ((((w.alloc (.cells #[.string sa] 9)).alloc (.cells #[.int .i64 (n : Int)] 3)).alloc (.cells #[.slice none 0 0] 22)).alloc (.cells #[.slice none 0 0] 22)) = W := by rw [hW, hB]; rfl
  have hk : Keeps (fun _ => False) w W := by rw [hW]; exact boxed_keeps w B
  have hs : W.heap.size = m + 4 := by rw [hW, boxed_size, hB, hm]; rfl
  have hr : ∀ (i : Nat) (x : TypeId × Value), B[i]? = some x → RowAt W (m + i) x.1 [x.2] := fun i x h => by rw [hW, hm]; exact boxed_row w B i x h
  rw [hB] at hr
  have q0 : RowAt W m 9 [.string sa] := hr 0 _ rfl
  have q1 : RowAt W (m + 1) 3 [.int .i64 (n : Int)] := hr 1 _ rfl
  have q2 : RowAt W (m + 1 + 1) 22 [.slice none 0 0] := hr 2 _ rfl
  have q3 : RowAt W (m + 1 + 1 + 1) 22 [.slice none 0 0] := hr 3 _ rfl
  have hk8 : Keeps (fun _ => False) W (W.alloc (.cells #[.bool false] 4)) := (Keeps.refl _ W).alloc _
  have hsafe := safe_any 122 #[.pointer (some ⟨m, 0, none⟩), .pointer (some ⟨m + 1 + 1, 0, none⟩), .pointer (some ⟨m + 1, 0, none⟩), .pointer (some ⟨m + 1 + 1 + 1, 0, none⟩)] W (fun w1 => (∃ a1 k1 c1 a2, RowAt w1 (m + 1 + 1) 22 [.slice a1 k1 c1] ∧ RowAt w1 (m + 1 + 1 + 1) 22 [.slice a2 n n] ∧ BsV w1 (m + 5) (.slice a1 k1 c1) (beL x.natAbs k1) c1 ∧ IsLen x.natAbs k1 ∧ BsV w1 (m + 5) (.slice a2 n n) (beL x.natAbs n) n) ∧ Keeps (fun k => k = m + 1 + 1 ∨ k = m + 1 + 1 + 1) W w1) (call122 _)
    ((bytes122 m (m + 1 + 1) (m + 1) (m + 1 + 1 + 1) sa na da la x n _ ((hk8.row q0 (fun h => h)).cell 0) ((hk8.row q1 (fun h => h)).cell 0) ta (hk8.row q2 (fun h => h)) (hk8.row q3 (fun h => h)) (by omega) hx hxb hn hn2 (G.keep (hk.trans hk8) (fun _ _ h => h))).mono (by
      rintro e w' ⟨he, ⟨a1, k1, c1, a2, h1, h2, h3, h4, h5⟩, hk'⟩
      have hsz : m + 5 ≤ (W.alloc (.cells #[.bool false] 4)).heap.size := by simp; omega
      exact ⟨he, ⟨⟨a1, k1, c1, a2, h1, h2, h3.lower hsz, h4, h5.lower hsz⟩, hk8.any.trans hk'⟩, hk'.row (RowAt.new W 4 [.bool false]) (fun h => by omega)⟩))
  have HS := hid hsafe; have HK := hid hk; have HM := hid hm; have HSZ := hid hs
  clear hsafe hk hs q0 q1 q2 q3 hr hk8 ta hx hxb hn G hB hW
  go_enter Tryz.func53, Tryz.ntmps53
  go_wp2_with fail
  rw [← hm]
  clear hnest hm
  refine HS.out.mono ?_
  rintro e w2 ⟨rfl, w1, ⟨⟨a1, k1, c1, a2, h1, h2, h3, h4, h5⟩, hk1⟩, hw2⟩
  have hne : ∀ b, b < m + 4 → W.heap.size ≠ b := fun b hb => by have := HSZ.out; omega
  have hr1 : RowAt w2 (m + 1 + 1) 22 [.slice a1 k1 c1] := by
    rw [hw2]
    exact (h1.other (p := ⟨W.heap.size, 0, none⟩) (hne _ (by omega)) _).other (p := ⟨W.heap.size, 0, none⟩) (hne _ (by omega)) _
  have hr2 : RowAt w2 (m + 1 + 1 + 1) 22 [.slice a2 n n] := by
    rw [hw2]
    exact (h2.other (p := ⟨W.heap.size, 0, none⟩) (hne _ (by omega)) _).other (p := ⟨W.heap.size, 0, none⟩) (hne _ (by omega)) _
  have hk2 : Keeps (fun k => k = m + 1 + 1 ∨ k = m + 1 + 1 + 1) W w2 := by rw [hw2]; exact (hk1.setCell _ (.inr (Nat.le_refl _)) _).setCell _ (.inr (Nat.le_refl _)) _
  have hkw : Keeps (fun k => k = m + 4) w1 w2 := by
    rw [hw2, HSZ.out]
    exact ((Keeps.refl (fun k => k = m + 4) w1).setCell ⟨m + 4, 0, none⟩ (.inl rfl) _).setCell ⟨m + 4, 0, none⟩ (.inl rfl) _
  have hb1 := h3.keep hkw (fun k hk h => by omega)
  have hb2 := h5.keep hkw (fun k hk h => by omega)
  have hkf : Keeps (fun _ => False) w w2 := HK.out.trans' hk2 (fun i hi h => by have := HM.out; omega)
  obtain ⟨L, hL⟩ : ∃ L : List (Nat × TypeId × Value), L = [(m + 1 + 1, 22, .slice a1 k1 c1), (m + 1 + 1 + 1, 22, .slice a2 n n)] := ⟨_, rfl⟩
  have HL := hid hL
  have ho : OutL w2 L := by
    rw [hL]; intro x hx; simp only [List.mem_cons, List.not_mem_nil, or_false] at hx
    rcases hx with rfl | rfl
    · exact hr1
    · exact hr2
  have HO := hid ho; have HKF := hid hkf; have HB1 := hid hb1; have HB2 := hid hb2; have HLEN := hid h4
  clear h1 h2 h3 h4 h5 hk1 hw2 hr1 hr2 hk2 hkw hb1 hb2 hkf hL hne
  have m0 : (m + 1 + 1, 22, (.slice a1 k1 c1 : Value)) ∈ L := by rw [HL.out]; exact .head _
  have m1 : (m + 1 + 1 + 1, 22, (.slice a2 n n : Value)) ∈ L := by rw [HL.out]; exact .tail _ (.head _)
  have hS : ∀ w', OutL w' L → w'.cell? ⟨m + 1 + 1, 0, none⟩ = some (.slice a1 k1 c1) ∧ w'.cell? ⟨m + 1 + 1 + 1, 0, none⟩ = some (.slice a2 n n) := fun w' h => ⟨h.cell m0, h.cell m1⟩
  have HSS := hid hS
  have f0 := ho.frozen m0; have f1 := ho.frozen m1
  obtain ⟨c0, c1'⟩ := hS w2 ho
  have e0 := hid (show ∃ t, (m + 1 + 1, t, (.slice a1 k1 c1 : Value)) ∈ L from ⟨_, m0⟩)
  have e1 := hid (show ∃ t, (m + 1 + 1 + 1, t, (.slice a2 n n : Value)) ∈ L from ⟨_, m1⟩)
  clear ho m0 m1 hS
  go_upto_region 2 with fail
  go_region_held3 (fun w' => w'.cell? ⟨m + 1 + 1, 0, none⟩ = some (.slice a1 k1 c1) ∧ w'.cell? ⟨m + 1 + 1 + 1, 0, none⟩ = some (.slice a2 n n))
    (((with_reducible refine HSS.out _ ?_); repeat (first | (with_reducible exact HO.out) | (with_reducible refine OutL.again ?_ e0.out) | (with_reducible refine OutL.again ?_ e1.out) | (with_reducible refine OutL.drew ?_)))) (fail)
  go_wp2_with fail
  have hof := OutL.drew ((HO.out.again e0.out).again e1.out)
  have hge : ∀ i, m ≤ i → w.heap.size ≤ i := fun i hi => by rw [← HM.out]; exact hi
  have hkf := ((HKF.out.setCell ⟨m + 1 + 1, 0, none⟩ (.inr (hge _ (by show m ≤ m + 1 + 1; omega))) (.slice a1 k1 c1)).setCell ⟨m + 1 + 1 + 1, 0, none⟩ (.inr (hge _ (by show m ≤ m + 1 + 1 + 1; omega))) (.slice a2 n n)).drew
  have hks : Keeps (fun k => k = m + 1 + 1 ∨ k = m + 1 + 1 + 1) w2 ((w2.setCell ⟨m + 1 + 1, 0, none⟩ (.slice a1 k1 c1)).setCell ⟨m + 1 + 1 + 1, 0, none⟩ (.slice a2 n n)).drew :=
    ((Keeps.setCell (S := fun k => k = m + 1 + 1 ∨ k = m + 1 + 1 + 1) (Keeps.refl _ w2) ⟨m + 1 + 1, 0, none⟩ (.inl (.inl rfl)) _).setCell ⟨m + 1 + 1 + 1, 0, none⟩ (.inl (.inr rfl)) _).drew
  have hb1 := (HB1.out.keep hks (fun k hk h => by omega)).lower (show w.heap.size ≤ m + 5 by have := HM.out; omega)
  have hb2 := (HB2.out.keep hks (fun k hk h => by omega)).lower (show w.heap.size ≤ m + 5 by have := HM.out; omega)
  obtain ⟨a0, a1'⟩ := HSS.out _ hof
  generalize ((w2.setCell ⟨m + 1 + 1, 0, none⟩ (.slice a1 k1 c1)).setCell ⟨m + 1 + 1 + 1, 0, none⟩ (.slice a2 n n)).drew = wf at *
  refine bodyPost_ret (v := (.tuple #[.slice a1 k1 c1, .slice a2 n n])) ?_ rfl ⟨⟨a1, k1, c1, a2, rfl, hb1, HLEN.out, hb2⟩, hkf⟩
  simp [results, Tryz.results53, go_sem, a0, a1']
end Go.Proofs
