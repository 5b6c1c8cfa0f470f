/- Parts of the proofs over the numbers of any length: ShEnv, Stores, ShiftC, Shift2. -/
import Derived.Deep.RegionHeld3
import Derived.Test.YtacbllkmcldniaaGreatDoorShiftA
import Derived.Test.YtacbllkmcldniaaGreatDoorKeptA
import Derived.Test.YtacbllkmcldniaaGreatDoorIntA
set_option linter.unusedSimpArgs false
set_option linter.unusedVariables false
namespace Go.Proofs
open Go.RowKit
set_option maxHeartbeats 1000000
set_option linter.unusedVariables false
set_option linter.unusedSimpArgs false
set_option maxRecDepth 100000

theorem number_env {S : Nat → Prop} {w0 w : World} {V : Nat → Option (TypeId × Int)} (h : Env S w0 w V) (sa : ByteArray) (na : Bool) (la : Nat) (da : Nat → Nat) (x : Int) (n : Nat) (hn : n ≤ w.heap.size) (ta : NumText sa na la da) (hx : x = numZ na (dval da la)) (G : Glob w) :
    Calls Tryz.prog 67 #[.string sa] w fun e w' => ∃ p, e = .returned (.pointer (some ⟨p, 0, none⟩)) ∧ n ≤ p ∧ p < w'.heap.size ∧ Env S w0 w' (upd V p 105 x) := by
  refine (number_int sa na la da w ta G).mono ?_
  rintro e w' ⟨p, a1, l1, c1, rfl, h1, h2, h3, h4⟩
  rw [← hx] at h2
  exact ⟨p, rfl, by omega, h2.row.lt, h.add h4 h1 h2 (Into.newer h3)⟩
theorem Env.new2 {S : Nat → Prop} {w0 w : World} {V : Nat → Option (TypeId × Int)} (h : Env S w0 w V) (t : TypeId) : Env S w0 ((w.alloc (.cells #[.bool false, .slice none 0 0] t)).alloc (.cells #[.bool false, .slice none 0 0] t)) (upd (upd V w.heap.size t 0) (w.heap.size + 1) t 0) := by
  have := (h.new t).new t
  rwa [show (w.alloc (.cells #[.bool false, .slice none 0 0] t)).heap.size = w.heap.size + 1 by simp] at this
/-- What is still spoken of. -/
theorem Env.two {S : Nat → Prop} {w0 w : World} {V : Nat → Option (TypeId × Int)} (h : Env S w0 w V) {p q t u : Nat} {x y : Int} (hp : V p = some (t, x)) (hq : V q = some (u, y)) : Env S w0 w (upd (upd noInts p t x) q u y) := by
  refine h.mono fun k t' z' hk => ?_
  by_cases h1 : k = q
  · subst h1; rw [upd_eq] at hk; rw [hq, hk]
  · rw [upd_ne _ _ _ h1] at hk
    by_cases h2 : k = p
    · subst h2; rw [upd_eq] at hk; rw [hp, hk]
    · rw [upd_ne _ _ _ h2] at hk; cases hk
theorem Env.one {S : Nat → Prop} {w0 w : World} {V : Nat → Option (TypeId × Int)} (h : Env S w0 w V) {p t : Nat} {x : Int} (hp : V p = some (t, x)) : Env S w0 w (upd noInts p t x) := by
  refine h.mono fun k t' z' hk => ?_
  by_cases h2 : k = p
  · subst h2; rw [upd_eq] at hk; rw [hp, hk]
  · rw [upd_ne _ _ _ h2] at hk; cases hk

theorem Env.lsh166 {S : Nat → Prop} {w0 w : World} {V : Nat → Option (TypeId × Int)} (h : Env S w0 w V) {pz px : Nat} {tz tx : TypeId} {z x : Int} (s : Nat) (hz : V pz = some (tz, z)) (hx : V px = some (tx, x)) (h1 : x.natAbs < W64 ^ 200) (hs : s ≤ 1000000) :
    Calls Tryz.prog 166 #[.pointer (some ⟨pz, 0, none⟩), .pointer (some ⟨px, 0, none⟩), .int .u64 (s : Int)] w fun e w' => e = .returned (.pointer (some ⟨pz, 0, none⟩)) ∧ Env S w0 w' (upd V pz tz (x * ((2 ^ s : Nat) : Int))) := by
  by_cases hp : pz = px
  · subst hp
    rw [hz] at hx
    cases hx
    exact h.op1 hz fun az lz cz g => lsh166_same pz tz z az lz cz s w g (Nat.le_trans (g.len h1) (by omega)) hs
  · exact h.op2 hz hx fun az ax lz cz lx cx g1 g2 a1 _ => lsh166_other pz px tz tx z x az ax lz cz lx cx s w g1 g2 hp (a1 hp) (Nat.le_trans (g2.len h1) (by omega)) hs
theorem Env.rsh167 {S : Nat → Prop} {w0 w : World} {V : Nat → Option (TypeId × Int)} (h : Env S w0 w V) {pz px : Nat} {tz tx : TypeId} {z x : Int} (s : Nat) (hz : V pz = some (tz, z)) (hx : V px = some (tx, x)) (h1 : x.natAbs < W64 ^ 200) (hs : s ≤ 1000000) :
    Calls Tryz.prog 167 #[.pointer (some ⟨pz, 0, none⟩), .pointer (some ⟨px, 0, none⟩), .int .u64 (s : Int)] w fun e w' => e = .returned (.pointer (some ⟨pz, 0, none⟩)) ∧ Env S w0 w' (upd V pz tz (x / ((2 ^ s : Nat) : Int))) := by
  refine h.op2 hz hx fun az ax lz cz lx cx g1 g2 a1 a2 => Go.Proofs.rsh167 pz px tz tx z x az ax lz cz lx cx s w g1 g2 ?_ (Nat.le_trans (g2.len h1) (by omega)) hs
  by_cases hp : pz = px
  · subst hp
    obtain ⟨_, h2, h3, h4⟩ := IntS.same g1 g2
    exact .inl ⟨h2, h3, h4⟩
  · exact .inr (a1 hp)

end Go.Proofs
namespace Go.Proofs
open Go.RowKit
set_option maxHeartbeats 400000
set_option linter.unusedVariables false
set_option linter.unusedSimpArgs false

/-- The results' cells, set one after the other. -/
def stores (w : World) : List (Nat × TypeId × Value) → World
  | [] => w
  | x :: r => stores (w.setCell ⟨x.1, 0, none⟩ x.2.2) r
theorem stores_keeps (L : List (Nat × TypeId × Value)) : ∀ w, Keeps (OutK L) w (stores w L) := by
  induction L with
  | nil => exact fun w => Keeps.refl _ w
  | cons x r ih =>
    intro w
    have h1 : Keeps (OutK (x :: r)) w (w.setCell ⟨x.1, 0, none⟩ x.2.2) := (Keeps.refl _ w).setCell _ (.inl ⟨x, .head _, rfl⟩) _
    exact h1.trans ((ih _).mono (fun i _ ⟨y, hy, he⟩ => ⟨y, .tail _ hy, he⟩))
theorem stores_other {L : List (Nat × TypeId × Value)} {p : Nat} {t : TypeId} {vs : List Value} : ∀ {w : World}, p ∉ L.map (·.1) → RowAt w p t vs → RowAt (stores w L) p t vs := by
  induction L with
  | nil => exact fun _ h => h
  | cons x r ih =>
    intro w hp h
    simp only [List.map_cons, List.mem_cons, not_or] at hp
    exact ih hp.2 (h.other (show (⟨x.1, 0, none⟩ : Addr).block ≠ p from fun he => hp.1 he.symm) _)
theorem stores_outL {L : List (Nat × TypeId × Value)} : ∀ {w : World}, (L.map (·.1)).Nodup → (∀ x ∈ L, ∃ v, RowAt w x.1 x.2.1 [v]) → OutL (stores w L) L := by
  induction L with
  | nil => intro w _ _ x hx; cases hx
  | cons x r ih =>
    intro w hn h
    simp only [List.map_cons, List.nodup_cons] at hn
    obtain ⟨v, hv⟩ := h x (.head _)
    intro y hy
    cases hy with
    | head =>
      have h1 := hv.set 0 x.2.2
      simp only [List.set_cons_zero] at h1
      exact (show RowAt (stores (w.setCell ⟨x.1, 0, none⟩ x.2.2) r) _ _ _ from stores_other hn.1 h1)
    | tail _ hy =>
      refine ih hn.2 (fun z hz => ?_) y hy
      obtain ⟨u, hu⟩ := h z (.tail _ hz)
      refine ⟨u, hu.other (show (⟨x.1, 0, none⟩ : Addr).block ≠ z.1 from fun he => hn.1 ?_) _⟩
      have he' : x.1 = z.1 := he
      rw [he']
      exact List.mem_map_of_mem hz
/-- What a store wants of a results' cell. -/
theorem RowAt.st {w : World} {p : Nat} {t : TypeId} {v : Value} (h : RowAt w p t [v]) : w.cell? ⟨p, 0, none⟩ = some v ∧ w.frozen? ⟨p, 0, none⟩ = false := ⟨h.cell 0, h.frozen 0⟩
end Go.Proofs
namespace Go.Proofs
open Go.RowKit
set_option maxHeartbeats 2000000
set_option linter.unusedVariables false
set_option linter.unusedSimpArgs false
set_option maxRecDepth 100000

/-- Two numbers that were read. -/
def Two2 (w : World) (x y : Int) (xv yv : Value) (wx : World) : Prop := ∃ p q, xv = .pointer (some ⟨p, 0, none⟩) ∧ yv = .pointer (some ⟨q, 0, none⟩) ∧ Env (fun _ => False) w wx (upd (upd noInts p 105 x) q 105 y) ∧ p < q ∧ q < wx.heap.size
theorem Two2.keeps {w : World} {x y : Int} {xv yv : Value} {wx : World} (h : Two2 w x y xv yv wx) : Keeps (fun _ => False) w wx := by
  obtain ⟨_, _, _, _, h, _⟩ := h
  exact h.keeps

theorem shift104 (A D N O3 O4 : Nat) (sa : ByteArray) (na : Bool) (da : Nat → Nat) (la : Nat) (x : Int) (al : Bool) (n : Nat) (T1 T2 s3 s4 : ByteArray) (w : World)
    (hA : w.cell? ⟨A, 0, none⟩ = some (.string sa)) (hD : w.cell? ⟨D, 0, none⟩ = some (.bool al)) (hN : w.cell? ⟨N, 0, none⟩ = some (.int .u64 (n : Int))) (ta : NumText sa na la da)
    (r3 : RowAt w O3 9 [.string s3]) (r4 : RowAt w O4 9 [.string s4]) (d34 : O3 ≠ O4)
    (hx : x = numZ na (dval da la)) (hxb : x.natAbs < 10 ^ 200) (hn : n ≤ 300)
    (G : Glob w) (hT1 : T1 = strB (txt (decide (x * ((2 ^ n : Nat) : Int) < 0)) (x * ((2 ^ n : Nat) : Int)).natAbs)) (hT2 : T2 = strB (txt (decide (x / ((2 ^ n : Nat) : Int) < 0)) (x / ((2 ^ n : Nat) : Int)).natAbs)) :
    Calls Tryz.prog 104 #[.pointer (some ⟨A, 0, none⟩), .pointer (some ⟨D, 0, none⟩), .pointer (some ⟨N, 0, none⟩), .pointer (some ⟨O3, 0, none⟩), .pointer (some ⟨O4, 0, none⟩)] w fun e w' =>
      e = .returned (.tuple #[]) ∧ OutL w' [(O3, 9, .string T1), (O4, 9, .string T2)] ∧ Keeps (OutK [(O3, 9, .string T1), (O4, 9, .string T2)]) w w' := by
  have HG := hid G
  have HX : Hid (x.natAbs < W64 ^ 200) := hid (Nat.lt_of_lt_of_le hxb (Nat.le_trans (show 10 ^ 200 ≤ W64 ^ 11 by unfold W64; decide +kernel) (Nat.pow_le_pow_right W64_pos (by omega))))
  have HB1 : Hid ((x * ((2 ^ n : Nat) : Int)).natAbs < TXB) := hid (by
    rw [Int.natAbs_mul, Int.natAbs_natCast]
    obtain ⟨k, hk⟩ : ∃ k, k = 300 := ⟨_, rfl⟩
    rw [← hk] at hn
    have h1 : 2 ^ n ≤ 2 ^ k := Nat.pow_le_pow_right (by omega) hn
    have h2 : x.natAbs * 2 ^ n ≤ 10 ^ 200 * 2 ^ k := Nat.mul_le_mul (Nat.le_of_lt hxb) h1
    exact Nat.lt_of_le_of_lt h2 (by subst hk; unfold TXB W64; decide +kernel))
  have HB2 : Hid ((x / ((2 ^ n : Nat) : Int)).natAbs < TXB) := hid (by
    refine lt_TXB (Nat.lt_of_le_of_lt (m := x.natAbs + 1) ?_ (Nat.lt_of_lt_of_le (Nat.succ_lt_succ hxb) (by decide +kernel)))
    by_cases h : x < 0
    · rw [(rsh_neg h n).2]
      have := Nat.div_le_self (x.natAbs - 1) (2 ^ n)
      omega
    · rw [(rsh_pos (by omega) n).2]
      have := Nat.div_le_self x.natAbs (2 ^ n)
      omega)
  have HG' : Hid (∀ W V, Env (fun _ => False) w W V → Glob W) := hid (fun W V h => G.keep h.keeps (fun _ _ h => h))
  have HN1 : Hid (∀ W V m, Env (fun _ => False) w W V → m ≤ W.heap.size → Calls Tryz.prog 67 #[.string sa] W fun e w' => ∃ p, e = .returned (.pointer (some ⟨p, 0, none⟩)) ∧ m ≤ p ∧ p < w'.heap.size ∧ Env (fun _ => False) w w' (upd V p 105 x)) :=
    hid (fun W V m h hm => number_env h sa na la da x m hm ta hx (HG'.out _ _ h))
  have HSt : Hid (∀ p z T W V, Env (fun _ => False) w W V → V p = some (105, z) → z.natAbs < TXB → T = strB (txt (decide (z < 0)) z.natAbs) → Calls Tryz.prog 80 #[.pointer (some ⟨p, 0, none⟩)] W fun e w' => e = .returned (.string T) ∧ Env (fun _ => False) w w' V) := hid (fun p z T W V h1 h2 h3 h4 => by
    rw [h4]
    refine (string80_big p 105 z W (h1.get h2) h3 (HG'.out _ _ h1)).mono ?_
    rintro e w' ⟨rfl, hk⟩
    exact ⟨rfl, h1.same hk⟩)
  have HL : Hid (∀ pz px W V z, Env (fun _ => False) w W V → V pz = some (105, z) → V px = some (105, x) → Calls Tryz.prog 105 #[.pointer (some ⟨pz, 0, none⟩), .pointer (some ⟨px, 0, none⟩), .int .u64 (n : Int)] W fun e w' => e = .returned (.pointer (some ⟨pz, 0, none⟩)) ∧ Env (fun _ => False) w w' (upd V pz 105 (x * ((2 ^ n : Nat) : Int)))) := hid (fun pz px W V z h1 h2 h3 =>
    w105 _ _ _ _ _ ((h1.drew.lsh166 n h2 h3 HX.out (by omega)).mono (fun e w' ⟨he, h⟩ => ⟨⟨_, he⟩, h⟩)))
  have HR : Hid (∀ pz px W V z, Env (fun _ => False) w W V → V pz = some (105, z) → V px = some (105, x) → Calls Tryz.prog 106 #[.pointer (some ⟨pz, 0, none⟩), .pointer (some ⟨px, 0, none⟩), .int .u64 (n : Int)] W fun e w' => e = .returned (.pointer (some ⟨pz, 0, none⟩)) ∧ Env (fun _ => False) w w' (upd V pz 105 (x / ((2 ^ n : Nat) : Int)))) := hid (fun pz px W V z h1 h2 h3 =>
    w106 _ _ _ _ _ ((h1.drew.rsh167 n h2 h3 HX.out (by omega)).mono (fun e w' ⟨he, h⟩ => ⟨⟨_, he⟩, h⟩)))
  have hAl : A < w.heap.size := World.block_lt_of_cell? w ⟨A, 0, none⟩ hA
  have hDl : D < w.heap.size := World.block_lt_of_cell? w ⟨D, 0, none⟩ hD
  have hNl : N < w.heap.size := World.block_lt_of_cell? w ⟨N, 0, none⟩ hN
  have HA := hid hA; have HD := hid hD; have HN := hid hN
  have HSA : Hid (∀ w', Keeps (fun _ => False) w w' → w'.cell? ⟨A, 0, none⟩ = some (.string sa)) := hid (fun w' hk => (cell_of_block (p := ⟨A, 0, none⟩) (hk.block A hAl (fun h => h))).trans HA.out)
  have HSD : Hid (∀ w', Keeps (fun _ => False) w w' → w'.cell? ⟨D, 0, none⟩ = some (.bool al)) := hid (fun w' hk => (cell_of_block (p := ⟨D, 0, none⟩) (hk.block D hDl (fun h => h))).trans HD.out)
  have HSN : Hid (∀ w', Keeps (fun _ => False) w w' → w'.cell? ⟨N, 0, none⟩ = some (.int .u64 (n : Int))) := hid (fun w' hk => (cell_of_block (p := ⟨N, 0, none⟩) (hk.block N hNl (fun h => h))).trans HN.out)
  have hN3 : N ≠ O3 := by rintro rfl; have h := r3.cell 0; simp only [List.getElem?_cons_zero] at h; rw [hN] at h; cases h
  have hN4 : N ≠ O4 := by rintro rfl; have h := r4.cell 0; simp only [List.getElem?_cons_zero] at h; rw [hN] at h; cases h
  have HSO : Hid (∀ w', Keeps (fun k => k = O3 ∨ k = O4) w w' → w'.cell? ⟨N, 0, none⟩ = some (.int .u64 (n : Int))) := hid (fun w' hk => (cell_of_block (p := ⟨N, 0, none⟩) (hk.block N hNl (fun h => h.elim hN3 hN4))).trans HN.out)
  have R3 := hid r3; have R4 := hid r4
  have HFin : Hid (∀ w7, Keeps (fun _ => False) w w7 → w7.cell? ⟨O3, 0, none⟩ = some (.string s3) ∧ w7.frozen? ⟨O3, 0, none⟩ = false ∧ (w7.setCell ⟨O3, 0, none⟩ (.string T1)).cell? ⟨O4, 0, none⟩ = some (.string s4) ∧ (w7.setCell ⟨O3, 0, none⟩ (.string T1)).frozen? ⟨O4, 0, none⟩ = false ∧
      OutL ((w7.setCell ⟨O3, 0, none⟩ (.string T1)).setCell ⟨O4, 0, none⟩ (.string T2)) [(O3, 9, .string T1), (O4, 9, .string T2)] ∧ Keeps (OutK [(O3, 9, .string T1), (O4, 9, .string T2)]) w ((w7.setCell ⟨O3, 0, none⟩ (.string T1)).setCell ⟨O4, 0, none⟩ (.string T2))) := hid (fun w7 hk => by
    have q3 := hk.row r3 (fun h => h)
    have q4 := (hk.row r4 (fun h => h)).other (show (⟨O3, 0, none⟩ : Addr).block ≠ O4 from d34) (.string T1)
    refine ⟨q3.st.1, q3.st.2, q4.st.1, q4.st.2, stores_outL (L := [(O3, 9, .string T1), (O4, 9, .string T2)]) (w := w7) (by simp [d34]) (fun x hx => ?_), (hk.any).trans (stores_keeps [(O3, 9, .string T1), (O4, 9, .string T2)] w7)⟩
    simp only [List.mem_cons, List.not_mem_nil, or_false] at hx
    rcases hx with rfl | rfl
    · exact ⟨_, hk.row r3 (fun h => h)⟩
    · exact ⟨_, hk.row r4 (fun h => h)⟩)
  have HE0 := hid (Env.start (fun _ => False) w (fun _ h => h.elim)).drew
  have HT1 := hid hT1; have HT2 := hid hT2
  clear hA hD hN ta hx hxb G hT1 hT2 hAl hDl hNl r3 r4 hn
  go_enter Tryz.func104, Tryz.ntmps104
  go_upto_region 0 with fail
  go_cut [5, 6] from 9 to 13 (fun xv yv wx => Two2 w x x xv yv wx)
  case first =>
    go_region_held3 (fun w' => w'.cell? ⟨A, 0, none⟩ = some (.string sa))
      (first | with_reducible exact HSA.out _ HE0.out.keeps | with_reducible exact HSA.out _ HE1.out.keeps | with_reducible exact HSA.out _ HE2.out.keeps)
      (first
       | (go_at_call 67; (with_reducible refine (HN1.out _ _ w.heap.size HE0.out (Nat.le_refl _)).mono ?_); rintro e w1 ⟨p1, rfl, o1, o2, h⟩; have HE1 := hid h; clear h)
       | (go_at_call 67; (with_reducible refine (HN1.out _ _ w1.heap.size HE1.out (Nat.le_refl _)).mono ?_); rintro e w2 ⟨p2, rfl, o3, o4, h⟩; have HE2 := hid h; clear h))
    all_goals
      go_wp2_with fail
      go_meet
    all_goals exact ⟨p1, p2, rfl, rfl, HE2.out, by omega, o4⟩
  case rest =>
    obtain ⟨p, q, hp, hq, hE, o1, o2⟩ := hcut
    subst hp; subst hq
    have HE := hid hE
    have hd := HSD.out _ hE.keeps
    obtain ⟨W1, hW1⟩ : ∃ W, W = (wc.alloc (.cells #[.bool false, .slice none 0 0] 105)).alloc (.cells #[.bool false, .slice none 0 0] 105) := ⟨_, rfl⟩
    have hE1 := hE.new2 105
    rw [← hW1] at hE1
    have HE1 := hid hE1
    have hd1 := HSD.out _ hE1.keeps
    obtain ⟨m, hm⟩ : ∃ m, m = wc.heap.size := ⟨_, rfl⟩
    have HM := hid hm
    clear hE hE1
    -- behind the choice of the places
    have HV : Hid (∃ l r zl zr, (al = true → l = p ∧ r = q) ∧ (al = false → l = m ∧ r = m + 1) ∧ l ≠ q ∧ l ≠ r ∧ (upd (upd (upd (upd noInts p 105 x) q 105 x) m 105 0) (m + 1) 105 0) l = some (105, zl) ∧ (upd (upd (upd (upd noInts p 105 x) q 105 x) m 105 0) (m + 1) 105 0) r = some (105, zr)) := hid (by
      cases al with
      | true => exact ⟨p, q, x, x, fun _ => ⟨rfl, rfl⟩, (fun h => by cases h), by omega, by omega, by rw [upd_ne _ _ _ (by omega), upd_ne _ _ _ (by omega), upd_ne _ _ _ (by omega), upd_eq], by rw [upd_ne _ _ _ (by omega), upd_ne _ _ _ (by omega), upd_eq]⟩
      | false => exact ⟨m, m + 1, 0, 0, (fun h => by cases h), fun _ => ⟨rfl, rfl⟩, by omega, by omega, by rw [upd_ne _ _ _ (by omega), upd_eq], upd_eq _ _ _ _⟩)
    obtain ⟨l, r, zl, zr, g1, g2, g3, g4, g5, g6⟩ := HV.out
    have G1 := hid g1; have G2 := hid g2; have G5 := hid g5; have G6 := hid g6
    have GX : Hid ((upd (upd (upd (upd noInts p 105 x) q 105 x) m 105 0) (m + 1) 105 0) p = some (105, x)) := hid (by rw [upd_ne _ _ _ (by omega), upd_ne _ _ _ (by omega), upd_ne _ _ _ (by omega), upd_eq])
    have GY : Hid ((upd (upd (upd (upd noInts p 105 x) q 105 x) m 105 0) (m + 1) 105 0) q = some (105, x)) := hid (by rw [upd_ne _ _ _ (by omega), upd_ne _ _ _ (by omega), upd_eq])
    obtain ⟨V, hV⟩ : ∃ V, V = upd (upd (upd (upd noInts p 105 x) q 105 x) m 105 0) (m + 1) 105 0 := ⟨_, rfl⟩
    rw [← hm, ← hV] at HE1
    rw [← hV] at G5 G6 GX GY
    clear g1 g2 g5 g6 HV hV
    have GR : Hid (upd V l 105 (x * ((2 ^ n : Nat) : Int)) r = some (105, zr)) := hid (by rw [upd_ne _ _ _ (Ne.symm g4)]; exact G6.out)
    have GQ : Hid (upd V l 105 (x * ((2 ^ n : Nat) : Int)) q = some (105, x)) := hid (by rw [upd_ne _ _ _ (Ne.symm g3)]; exact GY.out)
    have HW1 := hid hW1
    go_upto_region 2 with fail
    rw [← HM.out, ← HW1.out]
    clear hd hm hW1
    go_upto_if 15 with fail
    go_cut [7, 8] from 15 to 18 (fun lv rv wx => lv = .pointer (some ⟨l, 0, none⟩) ∧ rv = .pointer (some ⟨r, 0, none⟩) ∧ wx = W1)
    case first =>
      cases al with
      | true =>
        obtain ⟨e1, e2⟩ := G1.out rfl
        have E1 := hid e1; have E2 := hid e2
        clear e1 e2
        go_wp2_with fail
        go_meet
        case rel => exact ⟨by rw [E1.out], by rw [E2.out], rfl⟩
      | false =>
        obtain ⟨e1, e2⟩ := G2.out rfl
        have E1 := hid e1; have E2 := hid e2
        clear e1 e2
        go_wp2_with fail
        go_meet
        case rel => exact ⟨by rw [E1.out], by rw [E2.out], rfl⟩
    case rest =>
      obtain ⟨rfl, rfl, rfl⟩ := hcut
      have HE1d := hid HE1.out.drew
      clear hd1
      go_upto_region 4 with fail
      go_region_held3 (fun w' => w'.cell? ⟨N, 0, none⟩ = some (.int .u64 (n : Int)))
        (first | with_reducible exact HSN.out _ HE1d.out.keeps | with_reducible exact HSN.out _ HE2.out.keeps | with_reducible exact HSN.out _ HE3.out.keeps | with_reducible exact HSN.out _ HE4.out.keeps | with_reducible exact HSN.out _ HE5.out.keeps | with_reducible exact HSO.out _ (HE5.out.keeps.any.setCell _ (.inl (.inl rfl)) _) | with_reducible exact HSO.out _ ((HE5.out.keeps.any.setCell _ (.inl (.inl rfl)) _).setCell _ (.inl (.inr rfl)) _))
        (first
         | (go_at_call 105; (with_reducible refine (HL.out _ _ _ _ _ HE1d.out G5.out GX.out).mono ?_); rintro e w2 ⟨rfl, h⟩; have HE2 := hid h; clear h)
         | (go_at_call 80; (with_reducible refine (HSt.out _ _ T1 _ _ HE2.out (upd_eq _ _ _ _) HB1.out HT1.out).mono ?_); rintro e w3 ⟨rfl, h⟩; have HE3 := hid h; clear h)
         | (go_at_call 106; (with_reducible refine (HR.out _ _ _ _ _ HE3.out GR.out GQ.out).mono ?_); rintro e w4 ⟨rfl, h⟩; have HE4 := hid h; clear h)
         | (go_at_call 80; (with_reducible refine (HSt.out _ _ T2 _ _ HE4.out (upd_eq _ _ _ _) HB2.out HT2.out).mono ?_); rintro e w5 ⟨rfl, h⟩; obtain ⟨k1, k2, k3, k4, k5, k6⟩ := HFin.out _ h.keeps; have HE5 := hid h; have K5 := hid k5; have K6 := hid k6; clear h k5 k6))
      all_goals
        go_wp2_with fail
        go_end0
        exact ⟨rfl, K5.out, K6.out⟩
end Go.Proofs
namespace Go.Proofs
open Go.RowKit
set_option maxHeartbeats 1600000
set_option linter.unusedVariables false
set_option linter.unusedSimpArgs false
set_option maxRecDepth 100000

theorem call104 (cap : Array Value) (w : World) : (callFunc 104 cap).run Tryz.prog w = .ok (.enter 104 cap) w := by simp [go_sem, callFunc, Tryz.func104]; rfl

theorem bigShift41 (sa : ByteArray) (na : Bool) (da : Nat → Nat) (la : Nat) (x : Int) (al : Bool) (n : Nat) (T1 T2 : ByteArray) (w : World) (ta : NumText sa na la da)
    (hx : x = numZ na (dval da la)) (hxb : x.natAbs < 10 ^ 200) (hn : n ≤ 300) (G : Glob w)
    (hT1 : T1 = strB (txt (decide (x * ((2 ^ n : Nat) : Int) < 0)) (x * ((2 ^ n : Nat) : Int)).natAbs)) (hT2 : T2 = strB (txt (decide (x / ((2 ^ n : Nat) : Int) < 0)) (x / ((2 ^ n : Nat) : Int)).natAbs)) :
    Calls Tryz.prog 41 #[.string sa, .int .u64 (n : Int), .bool al] w fun e w' => e = .returned (.tuple #[.string T1, .string T2]) ∧ Keeps (fun _ => False) w w' := by
  have hmf : ∀ (fn : Fn) (first cap : Array Value) (w : World), (Instr.makeFunc fn first cap).run Tryz.prog w = .ok (.func fn first cap) w := fun _ _ _ _ => rfl
  obtain ⟨B, hB⟩ : ∃ B : List (TypeId × Value), B = [(9, .string sa), (59, .int .u64 (n : Int)), (4, .bool al), (9, .string { data := #[] }), (9, .string { data := #[] })] := ⟨_, rfl⟩
  obtain ⟨W, hW⟩ : ∃ W, W = boxed w B := ⟨_, rfl⟩
  obtain ⟨m, hm⟩ : ∃ m, m = w.heap.size := ⟨_, rfl⟩
  have hnest : (((((w.alloc (.cells #[.string sa] 9)).alloc (.cells #[.int .u64 (n : Int)] 59)).alloc (.cells #[.bool al] 4)).alloc (.cells #[.string { data := #[] }] 9)).alloc (.cells #[.string { data := #[] }] 9)) = W := by rw [hW, hB]; rfl
  have hk : Keeps (fun _ => False) w W := by rw [hW]; exact boxed_keeps w B
  have hs : W.heap.size = m + 5 := by rw [hW, boxed_size, hB, hm]; rfl
  have hr : ∀ (i : Nat) (x : TypeId × Value), B[i]? = some x → RowAt W (m + i) x.1 [x.2] := fun i x h => by rw [hW, hm]; exact boxed_row w B i x h
  rw [hB] at hr
  have q0 : RowAt W (m) 9 [.string sa] := hr 0 _ rfl
  have q1 : RowAt W (m + 1) 59 [.int .u64 (n : Int)] := hr 1 _ rfl
  have q2 : RowAt W (m + 1 + 1) 4 [.bool al] := hr 2 _ rfl
  have q3 : RowAt W (m + 1 + 1 + 1) 9 [.string { data := #[] }] := hr 3 _ rfl
  have q4 : RowAt W (m + 1 + 1 + 1 + 1) 9 [.string { data := #[] }] := hr 4 _ rfl
  obtain ⟨L, hL⟩ : ∃ L : List (Nat × TypeId × Value), L = [(m + 1 + 1 + 1, 9, .string T1), (m + 1 + 1 + 1 + 1, 9, .string T2)] := ⟨_, rfl⟩
  have hsafe := safe_outs 104 #[.pointer (some ⟨m, 0, none⟩), .pointer (some ⟨m + 1 + 1, 0, none⟩), .pointer (some ⟨m + 1, 0, none⟩), .pointer (some ⟨m + 1 + 1 + 1, 0, none⟩), .pointer (some ⟨m + 1 + 1 + 1 + 1, 0, none⟩)] W L (call104 _)
    (by rw [hL]; intro x hx; simp only [List.mem_cons, List.not_mem_nil, or_false] at hx; rcases hx with rfl | rfl <;> simp <;> omega)
    (fun w1 hs1 hk1 => by
      rw [hL]
      exact shift104 m (m + 1 + 1) (m + 1) (m + 1 + 1 + 1) (m + 1 + 1 + 1 + 1) sa na da la x al n T1 T2 _ _ w1 ((hk1.row q0 (fun h => h)).cell 0) ((hk1.row q2 (fun h => h)).cell 0) ((hk1.row q1 (fun h => h)).cell 0) ta
        (hk1.row q3 (fun h => h)) (hk1.row q4 (fun h => h)) (by omega) hx hxb hn (G.keep (hk.trans hk1) (fun _ _ h => h)) hT1 hT2)
  have HS := hid hsafe; have HK := hid hk; have HL := hid hL; have HM := hid hm
  clear hsafe hk hL q0 q1 q2 q3 q4 hr hs hB hW hT1 hT2 G ta hx hxb hn
  go_enter Tryz.func41, Tryz.ntmps41
  go_wp2_with fail
  rw [← hm]
  clear hnest hm
  refine HS.out.mono ?_
  rintro e w2 ⟨rfl, ho, hk2⟩
  have hkf : Keeps (fun _ => False) w w2 := HK.out.fresh hk2 (fun i ⟨x, hx, he⟩ => by
    rw [HL.out] at hx
    simp only [List.mem_cons, List.not_mem_nil, or_false] at hx
    have := HM.out
    rcases hx with rfl | rfl <;> simp at he <;> omega)
  have HO := hid ho; have HKF := hid hkf
  have m0 : (m + 1 + 1 + 1, 9, (.string T1 : Value)) ∈ L := by rw [HL.out]; exact .head _
  have m1 : (m + 1 + 1 + 1 + 1, 9, (.string T2 : Value)) ∈ L := by rw [HL.out]; exact .tail _ (.head _)
  have hS : ∀ w', OutL w' L → w'.cell? ⟨m + 1 + 1 + 1, 0, none⟩ = some (.string T1) ∧ w'.cell? ⟨m + 1 + 1 + 1 + 1, 0, none⟩ = some (.string T2) := fun w' h => ⟨h.cell m0, h.cell m1⟩
  have HSS := hid hS
  have f0 := ho.frozen m0; have f1 := ho.frozen m1
  obtain ⟨c0, c1⟩ := hS w2 ho
  have e0 := hid (show ∃ t, (m + 1 + 1 + 1, t, (.string T1 : Value)) ∈ L from ⟨_, m0⟩)
  have e1 := hid (show ∃ t, (m + 1 + 1 + 1 + 1, t, (.string T2 : Value)) ∈ L from ⟨_, m1⟩)
  clear ho hk2 hkf m0 m1 hS
  go_upto_region 2 with fail
  go_region_held3 (fun w' => w'.cell? ⟨m + 1 + 1 + 1, 0, none⟩ = some (.string T1) ∧ w'.cell? ⟨m + 1 + 1 + 1 + 1, 0, none⟩ = some (.string T2))
    (((with_reducible refine HSS.out _ ?_); repeat (first | (with_reducible exact HO.out) | (with_reducible refine OutL.again ?_ e0.out) | (with_reducible refine OutL.again ?_ e1.out) | (with_reducible refine OutL.drew ?_)))) (fail)
  go_wp2_with fail
  have hof := OutL.drew ((HO.out.again e0.out).again e1.out)
  have hge : ∀ i, m ≤ i → w.heap.size ≤ i := fun i hi => by rw [← HM.out]; exact hi
  have hkf := ((HKF.out.setCell ⟨m + 1 + 1 + 1, 0, none⟩ (.inr (hge _ (by show m ≤ m + 1 + 1 + 1; omega))) (.string T1)).setCell ⟨m + 1 + 1 + 1 + 1, 0, none⟩ (.inr (hge _ (by show m ≤ m + 1 + 1 + 1 + 1; omega))) (.string T2)).drew
  obtain ⟨a0, a1⟩ := HSS.out _ hof
  generalize ((w2.setCell ⟨m + 1 + 1 + 1, 0, none⟩ (.string T1)).setCell ⟨m + 1 + 1 + 1 + 1, 0, none⟩ (.string T2)).drew = wf at *
  refine bodyPost_ret (v := (.tuple #[.string T1, .string T2])) ?_ rfl ⟨rfl, hkf⟩
  simp [results, Tryz.results41, go_sem, a0, a1]
end Go.Proofs
