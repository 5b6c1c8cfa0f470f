/- Parts of the proofs over the numbers of any length: CvT, CvT1, ItoaL, TextB. -/
import Derived.Test.YtacbllkmcldniaaGreatDoorBaseC
import Derived.Test.YtacbllkmcldniaaGreatDoorExpA
set_option linter.unusedSimpArgs false
set_option linter.unusedVariables false
namespace Go.Proofs
open Go.RowKit
set_option maxHeartbeats 1000000
set_option linter.unusedVariables false
set_option linter.unusedSimpArgs false
set_option maxRecDepth 100000

theorem lowDigs_split (N a b : Nat) : lowDigs (N / 10 ^ b) a ++ lowDigs N b = lowDigs N (a + b) := by
  induction a with
  | zero => simp [lowDigs]
  | succ a ih =>
    rw [show a + 1 + b = (a + b) + 1 by omega]
    simp only [lowDigs, List.cons_append]
    rw [ih, Nat.div_div_eq_div_mul, ← Nat.pow_add, Nat.add_comm b a]
theorem lowDigs_mod (N a : Nat) : ∀ b, b ≤ a → lowDigs (N % 10 ^ a) b = lowDigs N b := by
  intro b
  induction b with
  | zero => intro _; rfl
  | succ b ih =>
    intro hb
    simp only [lowDigs]
    rw [ih (by omega)]
    congr 2
    rw [show a = b + (1 + (a - b - 1)) by omega, Nat.pow_add, Nat.mod_mul_right_div_self, Nat.pow_add, Nat.pow_one, Nat.mod_mul_right_mod]
theorem splice_two {α : Type} {M : List α} {o : Nat} {A B : List α} (h : o + A.length + B.length ≤ M.length) : splice (splice M (o + A.length) B) o A = splice M o (A ++ B) := by
  unfold splice
  have e1 : List.take o (List.take (o + A.length) M ++ B ++ List.drop (o + A.length + B.length) M) = List.take o M := by
    rw [List.append_assoc, List.take_append_of_le_length (by simp; omega), List.take_take, Nat.min_eq_left (by omega)]
  have e2 : List.drop (o + A.length) (List.take (o + A.length) M ++ B ++ List.drop (o + A.length + B.length) M) = B ++ List.drop (o + A.length + B.length) M := by
    rw [List.append_assoc, List.drop_left' (by simp; omega)]
  rw [e1, e2]
  simp [List.append_assoc, Nat.add_assoc]

theorem conv_tab0 (T tc : Nat) (qa : Option Addr) (ql qc : Nat) (sp : Option Addr) (sb so n sc N : Nat) (M : List Nat) (w : World)
    (hq : Rd w qa ql qc (words N)) (hs : Byt w sb M) (hn : so + n ≤ M.length) (hnc : n ≤ 1000000) (hqs : ¬ InB qa sb) (hql : ql ≤ 8) (G : Glob w) :
    Calls Tryz.prog 254 #[.slice qa ql qc, .pointer sp, .slice (some ⟨sb, so, none⟩) n sc, .int .u64 10, .int .i64 19, .int .u64 10000000000000000000, .slice (some ⟨T, 0, none⟩) 0 tc] w
      fun e w' => e = .returned (.tuple #[]) ∧ Byt w' sb (splice M so (lowDigs N n)) ∧ Keeps (fun k => k = sb ∨ InB qa k) w w' := by
  have qT : ∀ (w : World) (a : Option Addr) (n c n' c' : Nat), (binOp .neq 208 (.slice a n c) (.slice none n' c')).run Tryz.prog w = .ok (.bool (!a.isNone)) w := fun w a n c n' c' => run_neq_slice_nil_any w _ _ a n c n' c' Tryz.underlying208
  have HQ := hid hq; have HS := hid hs; have HQS := hid hqs
  have c6 := G.lf
  have tq : decide (8 < ql) = false := by simp; omega
  have tq2 : decide ((8 : Int) < (ql : Int)) = false := by simp; omega
  clear hq hs hqs G
  go_enter Tryz.func254, Tryz.ntmps254
  go_wp2_with fail
  go_loopw [0, 2] (fun q s wr => q = .slice qa ql qc ∧ s = .slice (some ⟨sb, so, none⟩) n sc ∧ wr = w) (fun _ _ _ => 0)
  case atStart => exact ⟨rfl, rfl, rfl⟩
  case round =>
    obtain ⟨rfl, rfl, hwr⟩ := hrel
    have hwr' := hwr.symm
    subst hwr'
    clear hwr
    have hql : ql ≤ 400000 := by omega
    go_wp2_with fail
    go_loopw [0, 19, 20] (fun q iv _ wr => ∃ m j Q ra rl rc, CwRel w qa qc sb so n N M wr q iv m j Q ra rl rc) (fun q _ _ wr => natOf wr q)
    case atStart =>
      refine ⟨n, 0, N, qa, ql, qc, rfl, rfl, rfl, HQ.out, hql, Into.refl _ _ _, fun _ => by simp, ?_, Keeps.refl _ _⟩
      rw [show lowDigs N 0 = [] from rfl, splice_nil]; exact HS.out
    case round =>
      obtain ⟨m, j, Q, ra, rl, rc, hm, rfl, rfl, hrd, hlen, hinto, hval, hbyt, hkeeps⟩ := hrel
      have Hrd := hid hrd; have Hinto := hid hinto; have Hval := hid hval; have Hbyt := hid hbyt; have Hkeeps := hid hkeeps
      have hlq := hrd.length
      clear hrd hinto hval hbyt hkeeps
      by_cases hQ0 : Q = 0
      · have hrl0 : rl = 0 := by rw [← hlq, hQ0, words_zero]; rfl
        subst hrl0
        have hz : 0 < m → N / 10 ^ j = 0 := fun h => by rw [← Hval.out (by omega)]; exact hQ0
        have Hz := hid hz
        clear hlq hQ0 hz
        go_wp2_with fail
        go_loopw [19] (fun iv wr => ∃ m j, CzRel w qa sb so n N M wr iv m j) (fun iv _ => (intOf iv).toNat)
        case atStart => exact ⟨m, j, hm, rfl, Hz.out, Hbyt.out, Hkeeps.out⟩
        case round =>
          obtain ⟨m, j, hm, rfl, hz, hb, hk⟩ := hrel
          have HZ := hid hz; have HB := hid hb; have HK := hid hk
          clear hz hb hk
          by_cases h0 : m = 0
          · subst h0
            go_wp2_with fail
            go_end0
            refine ⟨rfl, ?_, HK.out⟩
            have := HB.out
            rw [show j = n from by omega, Nat.add_zero] at this
            exact this
          · obtain ⟨p, rfl⟩ : ∃ p, m = p + 1 := ⟨m - 1, by omega⟩
            have hlen : (splice M (so + (p + 1)) (lowDigs N j)).length = M.length := length_splice (by rw [lowDigs_length]; omega)
            have c1 := Byt.cell HB.out (o := so + p) (by omega)
            have f1 := RowAt.frozen HB.out (so + p)
            have hb1 := Byt.cons (x := 48) (by have := HB.out; rwa [← Nat.add_assoc] at this) (by rw [lowDigs_length]; omega)
            have HB1 := hid hb1
            clear hb1 hlen
            go_wp2_with fail
            refine ⟨⟨p, j + 1, by omega, rfl, ?_, ?_, HK.out.setCell _ (.inl (.inl rfl)) _⟩, by simp [intOf]⟩
            · intro _
              rw [Nat.pow_succ, ← Nat.div_div_eq_div_mul, HZ.out (by omega)]
            · have := HB1.out
              show Byt _ sb (splice M (so + p) ((48 + N / 10 ^ j % 10) :: lowDigs N j))
              rw [HZ.out (by omega)]
              exact this
      · have hrlp : 0 < rl := by rw [← hlq]; exact words_length_pos hQ0
        clear hlq
        go_wp2_with fail
        refine (divW_any ra rl rc _ ra rl rc Q 10000000000000000000 _ Hrd.out Hrd.out hlen (by omega) (by omega) (by unfold W64; omega) (Al.refl _ _)).mono ?_
        rintro e w2 ⟨ra', rl', rc', rfl, h1, h2, h3⟩
        have H1 := hid h1; have H2 := hid h2; have H3 := hid h3
        have hkk : Keeps (fun k => k = sb ∨ InB qa k) w w2 := Hkeeps.out.trans' h3 (fun i hi hh => by
          rcases Hinto.out.inB hh with h | h
          · exact .inr h
          · omega)
        have hrs : ¬ InB ra sb := fun hh => by
          rcases Hinto.out.inB hh with h | h
          · exact HQS.out h
          · have := HS.out.lt; omega
        have hrs' : ¬ InB ra' sb := fun hh => by
          rcases (Hinto.out.trans H2.out Hkeeps.out.size).inB hh with h | h
          · exact HQS.out h
          · have := HS.out.lt; omega
        have hby2 : Byt w2 sb (splice M (so + m) (lowDigs N j)) := h3.row Hbyt.out hrs
        have HRS := hid hrs'; have HKK := hid hkk; have HBY := hid hby2
        have hlen' : rl' ≤ 400000 := by
          rw [← h1.length]
          have := words_mono (Nat.div_le_self Q 10000000000000000000)
          rw [Hrd.out.length] at this
          omega
        have HQlt := hid (show Q / 10 ^ 19 < Q from Nat.div_lt_self (by omega) (by decide))
        have HQr := hid (show natOf wr (.slice ra rl rc) = Q from natOf_eq Hrd.out)
        clear h1 h2 h3 hkk hrs hrs' hby2 hQ0
        go_wp2_with fail
        go_loopw [19, 20, 21] (fun iv rv cv wi => ∃ m c, CiRel w qa qc sb so n N j Q M ra' rl' rc' wi iv rv cv m c) (fun _ _ cv _ => 100 - (intOf cv).toNat)
        case atStart => exact ⟨m, 0, by omega, by omega, rfl, by rw [Nat.pow_zero, Nat.div_one]; rfl, rfl, H1.out, HBY.out, HKK.out⟩
        case round =>
          obtain ⟨m, c, hm2, hc, rfl, rfl, rfl, hrd2, hby2, hkk2⟩ := hrel
          have HRD2 := hid hrd2; have HBY2 := hid hby2; have HKK2 := hid hkk2
          clear hrd2 hby2 hkk2
          have Exit1 : Hid (c = 19 ∨ m = 0 → ∃ m' j' Q' ra2 rl2 rc2, CwRel w qa qc sb so n N M wr (.slice ra' rl' rc') (.int .i64 (m : Int)) m' j' Q' ra2 rl2 rc2) := hid (fun h => by
            refine ⟨m, j + c, Q / 10 ^ 19, ra', rl', rc', hm2, rfl, rfl, HRD2.out, hlen', Hinto.out.trans H2.out Hkeeps.out.size, ?_, HBY2.out, HKK2.out⟩
            intro hlt
            have hc19 : c = 19 := by omega
            rw [hc19, Nat.pow_add, ← Nat.div_div_eq_div_mul, ← Hval.out (by omega)])
          have HM : Hid (natOf wr (.slice ra' rl' rc') = Q / 10 ^ 19) := hid (natOf_eq HRD2.out)
          obtain ⟨r, hr⟩ : ∃ r, r = Q % 10 ^ 19 / 10 ^ c := ⟨_, rfl⟩
          rw [← hr]
          have Hr := hid hr
          clear hr
          by_cases hc19 : c = 19
          · subst hc19
            have E := hid (Exit1.out (.inl rfl))
            clear Exit1
            go_wp2_with fail
            refine ⟨E.out, ?_⟩
            rw [HM.out, HQr.out]
            exact HQlt.out
          · by_cases hm0 : m = 0
            · subst hm0
              have E := hid (Exit1.out (.inr rfl))
              have t1 : decide ((c : Int) < 19) = true := by simp; omega
              clear Exit1
              go_wp2_with fail
              refine ⟨E.out, ?_⟩
              rw [HM.out, HQr.out]
              exact HQlt.out
            · obtain ⟨p, rfl⟩ : ∃ p, m = p + 1 := ⟨m - 1, by omega⟩
              have t1 : decide ((c : Int) < 19) = true := by simp; omega
              obtain ⟨t, htt⟩ : ∃ t, t = r / 10 := ⟨_, rfl⟩
              obtain ⟨x, hx⟩ : ∃ x, x = r % 10 := ⟨_, rfl⟩
              have hrl : r < W64 := by
                rw [Hr.out]
                have h1 := Nat.div_le_self (Q % 10 ^ 19) (10 ^ c)
                have h2 := Nat.mod_lt Q (show 0 < 10 ^ 19 by decide)
                unfold W64; omega
              have e1 : (r : Int).tdiv 10 = (t : Int) := by rw [htt]; exact (Int.ofNat_tdiv r 10).symm
              have e2 : IntKind.u64.wrap (t : Int) = (t : Int) := u64_wrap t (by omega)
              have e3 : IntKind.u64.wrap ((t : Int) * 10) = (t : Int) * 10 := by
                have := u64_wrap (t * 10) (by omega)
                rw [Int.natCast_mul] at this; exact this
              have e4 : IntKind.u64.wrap ((r : Int) - (t : Int) * 10) = (x : Int) := by
                have := u64_wrap x (by omega)
                rw [show (r : Int) - (t : Int) * 10 = (x : Int) by omega]; exact this
              have e5 : IntKind.u8.wrap (x : Int) = (x : Int) := by rw [IntKind.wrap_u8]; omega
              have e6 : IntKind.u8.wrap (48 + (x : Int)) = ((48 + x : Nat) : Int) := by rw [IntKind.wrap_u8]; omega
              have hlenS : (splice M (so + (p + 1)) (lowDigs N (j + c))).length = M.length := length_splice (by rw [lowDigs_length]; omega)
              have c1 := Byt.cell HBY2.out (o := so + p) (by omega)
              have f1 := RowAt.frozen HBY2.out (so + p)
              have HB1 := hid (Byt.cons (x := 48 + x) (by have := HBY2.out; rwa [← Nat.add_assoc] at this) (by rw [lowDigs_length]; omega))
              have HQj : Hid (Q = N / 10 ^ j) := hid (Hval.out (by omega))
              have hxN : Hid (x = N / 10 ^ (j + c) % 10) := hid (by
                rw [hx, Hr.out, Nat.pow_add, ← Nat.div_div_eq_div_mul, ← HQj.out]
                have h10 : 10 ^ 19 = 10 ^ c * (10 * 10 ^ (18 - c)) := by rw [← Nat.mul_assoc, ← Nat.pow_succ, ← Nat.pow_add]; congr 1; omega
                rw [h10, Nat.mod_mul_right_div_self, Nat.mod_mul_right_mod])
              have hrt : Hid (t = Q % 10 ^ 19 / 10 ^ (c + 1)) := hid (by rw [htt, Hr.out, Nat.div_div_eq_div_mul, ← Nat.pow_succ])
              clear htt hx hrl hlenS Exit1
              go_wp2_with fail
              refine ⟨⟨p, c + 1, by omega, by omega, rfl, ?_, ?_, ?_, ?_, HKK2.out.setCell _ (.inl (.inl rfl)) _⟩, by simp [intOf]; omega⟩
              · rw [hrt.out]
              · simp
              · exact HRD2.out.keep (Keeps.set1 wr sb (so + p) _) (fun k hk => by
                  rintro rfl
                  exact HRS.out hk)
              · have := HB1.out
                show Byt _ sb (splice M (so + p) ((48 + N / 10 ^ (j + c) % 10) :: lowDigs N (j + c)))
                rw [← hxN.out]
                exact this
end Go.Proofs
namespace Go.Proofs
open Go.RowKit
set_option maxHeartbeats 2000000
set_option linter.unusedVariables false
set_option linter.unusedSimpArgs false
set_option maxRecDepth 100000

theorem Rd.not_typ {w : World} {a : Option Addr} {l c : Nat} {L : List Nat} (h : Rd w a l c L) {T : Nat} {t : TypeId} {vs : List Value} (hr : RowAt w T t vs) (ht : t ≠ 177) : ¬ InB a T := by
  rintro ⟨o, rfl⟩
  rcases h with ⟨h, _⟩ | ⟨b, o', M, h, hb, _⟩
  · cases h
  · cases h
    exact ht (RowAt.type hr hb)
theorem Stk.not_typ {w : World} {p sp : Nat} {D : Option (Nat × Nat)} (h : Stk w p sp D) {T : Nat} {t : TypeId} {vs : List Value} (hr : RowAt w T t vs) (h1 : t ≠ 240) (h2 : t ≠ 266) (h3 : t ≠ 177) : ¬ StB p D T := by
  rintro (rfl | ⟨s, d, rfl, rfl | rfl⟩)
  · cases D with
    | none => exact h1 (RowAt.type hr h.1)
    | some x => obtain ⟨s, d⟩ := x; obtain ⟨M, k1, _⟩ := h; exact h1 (RowAt.type hr k1)
  · obtain ⟨M, _, k2, _⟩ := h; exact h2 (RowAt.type hr k2)
  · obtain ⟨M, _, _, k3, _⟩ := h; exact h3 (RowAt.type hr k3)
theorem StB.back {w : World} {p : Nat} {D D' : Option (Nat × Nat)} (hi : StI w D D') {b : Nat} (h : StB p D' b) : StB p D b ∨ w.heap.size ≤ b := by
  rcases h with rfl | ⟨s, d, h1, rfl | rfl⟩
  · exact .inl (.inl rfl)
  · rcases (hi _ _ h1).1 with ⟨d', h2⟩ | h2
    · exact .inl (.inr ⟨_, d', h2, .inl rfl⟩)
    · exact .inr h2
  · rcases (hi _ _ h1).2 with ⟨s', h2⟩ | h2
    · exact .inl (.inr ⟨s', _, h2, .inr rfl⟩)
    · exact .inr h2

theorem size245 (w : World) : (sizeOf 245).run Tryz.prog w = .ok 3 w := by kernel_rfl
theorem elem208 : Tryz.prog.elem 208 = 245 := by kernel_rfl
theorem slice208_none (T : Nat) : ∀ w : World, (Instr.slice 208 (.slice (some ⟨T, 0, none⟩) 1 1) (some (.int .i64 0)) (some (.int .i64 0)) none).run Tryz.prog w = .ok (.slice (some ⟨T, 0, none⟩) 0 1) w := by
  intro w
  rw [run_slice_lh (P := Tryz.prog) w 208 _ 1 1 (by rw [elem208]; exact u208) .i64 .i64 0 0 (by omega) (by omega) (by omega), elem208, size245]
  simp [Result.andThen_ok, sliced, Addr.add]
theorem slice22_toO (b o l c m : Nat) (h : m ≤ c) :
    ∀ w : World, (Instr.slice 22 (.slice (some ⟨b, o, none⟩) l c) none (some (.int .i64 (m : Int))) none).run Tryz.prog w = .ok (.slice (some ⟨b, o, none⟩) m c) w := by
  intro w
  rw [run_slice_h (P := Tryz.prog) w 22 _ l c u22 .i64 (m : Int) (by omega) (by omega), elem22, size5]
  simp only [Result.andThen_ok, sliced, Int.toNat_natCast, Nat.mul_one, Nat.sub_zero]
  congr 2
  split
  · rfl
  · simp [Addr.add]

/-- The loop that cuts the number at the table's divisor. -/
def CtRel (w : World) (qa : Option Addr) (qc p sp sb so n sc N : Nat) (D : Option (Nat × Nat)) (M : List Nat) (q s r i : Value) (wr : World) (jj nj : Nat) (za : Option Addr) (zl zc : Nat) (rra : Option Addr) (rrl rrc : Nat) (RR : List Nat) (D1 : Option (Nat × Nat)) : Prop :=
  nj + 154 * jj = n ∧ q = .slice za zl zc ∧ s = .slice (some ⟨sb, so, none⟩) nj sc ∧ r = .slice rra rrl rrc ∧ i = .int .i64 0 ∧
  Rd wr za zl zc (words (N / 10 ^ (154 * jj))) ∧ zl ≤ 30 ∧ (jj = 0 ∨ zl ≤ 8) ∧ (jj = 0 → Rd wr rra rrl rrc RR) ∧ Byt wr sb (splice M (so + nj) (lowDigs N (154 * jj))) ∧ (∀ k, InB za k → ¬ InB rra k) ∧ Into w qa qc za zc ∧ Into w none 0 rra rrc ∧
  Stk wr p sp D1 ∧ StI w D D1 ∧ (∀ s e, D1 = some (s, e) → ¬ InB za e ∧ ¬ InB rra e) ∧ Keeps (fun k => k = sb ∨ InB qa k ∨ StB p D k) w wr

theorem conv_tab1 (T : Nat) (ta : Option Addr) (tl tcc : Nat) (qa : Option Addr) (ql qc p sp : Nat) (D : Option (Nat × Nat)) (sb so n sc N : Nat) (M : List Nat) (w : World)
    (hq : Rd w qa ql qc (words N)) (hs : Byt w sb M) (hn : so + n ≤ M.length) (hnc : n ≤ 1000000) (hsc : n ≤ sc) (hN : N < 10 ^ n) (hql : ql ≤ 30) (hN2 : N < 10 ^ 154 * W64 ^ 8)
    (hT : RowAt w T 245 [.slice ta tl tcc, .int .i64 512, .int .i64 154]) (hta : Rd w ta tl tcc (words (10 ^ 154))) (hst : Stk w p sp D) (hsp : sp ≤ 300000) (hD : ∀ s e, D = some (s, e) → ¬ InB qa e ∧ ¬ InB ta e)
    (htq : ∀ k, InB ta k → ¬ InB qa k) (G : Glob w) (hpG : ¬ GB p) (hDG : ∀ b, StB p D b → ¬ GB b) (hsG : ¬ GB sb) :
    Calls Tryz.prog 254 #[.slice qa ql qc, .pointer (some ⟨p, 0, none⟩), .slice (some ⟨sb, so, none⟩) n sc, .int .u64 10, .int .i64 19, .int .u64 10000000000000000000, .slice (some ⟨T, 0, none⟩) 1 1] w
      fun e w' => e = .returned (.tuple #[]) ∧ Byt w' sb (splice M so (lowDigs N n)) ∧ (∃ D', Stk w' p sp D' ∧ StI w D D') ∧ Keeps (fun k => k = sb ∨ InB qa k ∨ StB p D k) w w' := by
  have qT : ∀ (w : World) (a : Option Addr) (n c n' c' : Nat), (binOp .neq 208 (.slice a n c) (.slice none n' c')).run Tryz.prog w = .ok (.bool (!a.isNone)) w := fun w a n c n' c' => run_neq_slice_nil_any w _ _ a n c n' c' Tryz.underlying208
  have hqs0 : ¬ InB qa sb := hq.not_typ hs (by decide)
  have hsbl := hs.lt
  have htl : tl = 8 := by rw [← hta.length]; exact ten_len (by omega) (by omega)
  subst htl
  have HQ := hid hq; have HS := hid hs; have HQS := hid hqs0; have HN := hid hN; have HT := hid hT; have HTA := hid hta; have HST := hid hst; have HD := hid hD; have HTQ := hid htq; have HG := hid G; have HpG := hid hpG; have HDG := hid hDG; have Hsbl := hid hsbl; have HsG := hid hsG; have HN2 := hid hN2
  have c6 := G.lf
  clear hq hs hqs0 hN hT hta hst hD htq G hpG hDG hsbl hsG hN2
  go_enter Tryz.func254, Tryz.ntmps254
  go_wp2_with fail
  go_loopw [0, 2, 14, 15] (fun q s r i wr => ∃ jj nj za zl zc rra rrl rrc RR D1, CtRel w qa qc p sp sb so n sc N D M q s r i wr jj nj za zl zc rra rrl rrc RR D1) (fun q _ _ _ wr => natOf wr q)
  case atStart =>
    refine ⟨0, n, qa, ql, qc, none, 0, 0, [], D, rfl, rfl, rfl, rfl, rfl, by rw [Nat.mul_zero, Nat.pow_zero, Nat.div_one]; exact HQ.out, hql, .inl rfl, (fun _ => Rd.nil _), ?_, (fun k _ hk => by obtain ⟨o, ho⟩ := hk; cases ho), Into.refl _ _ _, Into.refl _ _ _, HST.out, StI.refl _ _, fun s e h => ⟨(HD.out s e h).1, (fun hk => by obtain ⟨o, ho⟩ := hk; cases ho)⟩, Keeps.refl _ _⟩
    rw [show lowDigs N (154 * 0) = [] from rfl, splice_nil]; exact HS.out
  case round =>
    obtain ⟨jj, nj, za, zl, zc, rra, rrl, rrc, RR, D1, hnj, rfl, rfl, rfl, rfl, h1, hzl, hj0, h2', h3, h4, h5, h6, h7, h8, h9, h10⟩ := hrel
    have hSt : ∀ k, k < w.heap.size → (k = sb ∨ InB qa k ∨ StB p D k) → ¬ GB k := by
      rintro k _ (rfl | h | h)
      · exact HsG.out
      · intro hg; exact HG.out.ne_rd HQ.out hg h
      · exact HDG.out k h
    have G1 : Glob wr := HG.out.keep h10 (fun k hk hk2 => hSt k (HG.out.lt hk) hk2 hk)
    have hTnot : ¬ (T = sb ∨ InB qa T ∨ StB p D T) := by
      rintro (h | h | h)
      · have := HT.out; rw [h] at this; exact absurd (RowAt.type this HS.out) (by decide)
      · exact HQ.out.not_typ HT.out (by decide) h
      · exact HST.out.not_typ HT.out (by decide) (by decide) (by decide) h
    have T1 := h10.row HT.out hTnot
    have TA1 : Rd wr ta 8 tcc (words (10 ^ 154)) := HTA.out.keep h10 (by
      rintro k hk (h | h | h)
      · subst h; exact HTA.out.not_typ HS.out (by decide) hk
      · exact HTQ.out k hk h
      · exact HTA.out.notStB HST.out (fun s e h => (HD.out s e h).2) k h hk)
    have c6 := G1.lf
    by_cases hz8 : zl ≤ 8
    · have tq : decide (8 < zl) = false := by simp; omega
      have tq2 : decide ((8 : Int) < (zl : Int)) = false := by simp; omega
      obtain ⟨QQ, hQQ⟩ : ∃ QQ, QQ = N / 10 ^ (154 * jj) := ⟨_, rfl⟩
      obtain ⟨Mc, hMc⟩ : ∃ Mc, Mc = splice M (so + nj) (lowDigs N (154 * jj)) := ⟨_, rfl⟩
      obtain ⟨wz, hwz⟩ : ∃ wz, wz = wr := ⟨_, rfl⟩
      subst hwz
      rw [← hQQ] at h1
      rw [← hMc] at h3
      have hMcl : Mc.length = M.length := by rw [hMc]; exact length_splice (by rw [lowDigs_length]; omega)
      have hnz : so + nj ≤ Mc.length := by omega
      have hnz2 : nj ≤ 1000000 := by omega
      have hzl4 : zl ≤ 400000 := by omega
      have HQz := hid h1; have HSz := hid h3; have HQSz := hid (h1.not_typ h3 (by decide))
      have H4 := hid h4; have H5 := hid h5; have H6 := hid h6; have H7 := hid h7; have H8 := hid h8; have H9 := hid h9; have H10 := hid h10
      have HQQ := hid hQQ; have HMc := hid hMc; have Hnj := hid hnj; have HMcl := hid hMcl; have HTn := hid hTnot; have HT1 := hid T1; have HTA1 := hid TA1; have HSt := hid hSt; have HG1 := hid G1
      clear h1 h2' h3 h4 h5 h6 h7 h8 h9 h10 hQQ hMc hnj hMcl hTnot T1 TA1 hSt G1 hj0
      go_wp2_with fail
      go_loopw [0, 19, 20] (fun q iv _ wr => ∃ m j Q ra rl rc, CwRel wz za zc sb so nj QQ Mc wr q iv m j Q ra rl rc) (fun q _ _ wr => natOf wr q)
      case atStart =>
        refine ⟨nj, 0, QQ, za, zl, zc, rfl, rfl, rfl, HQz.out, hzl4, Into.refl _ _ _, fun _ => by simp, ?_, Keeps.refl _ _⟩
        rw [show lowDigs QQ 0 = [] from rfl, splice_nil]; exact HSz.out
      case round =>
        obtain ⟨m, j, Q, ra, rl, rc, hm, rfl, rfl, hrd, hlen, hinto, hval, hbyt, hkeeps⟩ := hrel
        have Hrd := hid hrd; have Hinto := hid hinto; have Hval := hid hval; have Hbyt := hid hbyt; have Hkeeps := hid hkeeps
        have hlq := hrd.length
        clear hrd hinto hval hbyt hkeeps
        by_cases hQ0 : Q = 0
        · have hrl0 : rl = 0 := by rw [← hlq, hQ0, words_zero]; rfl
          subst hrl0
          have hz : 0 < m → QQ / 10 ^ j = 0 := fun h => by rw [← Hval.out (by omega)]; exact hQ0
          have Hz := hid hz
          clear hlq hQ0 hz
          go_wp2_with fail
          go_loopw [19] (fun iv wr => ∃ m j, CzRel wz za sb so nj QQ Mc wr iv m j) (fun iv _ => (intOf iv).toNat)
          case atStart => exact ⟨m, j, hm, rfl, Hz.out, Hbyt.out, Hkeeps.out⟩
          case round =>
            obtain ⟨m, j, hm, rfl, hz, hb, hk⟩ := hrel
            have HZ := hid hz; have HB := hid hb; have HK := hid hk
            clear hz hb hk
            by_cases h0 : m = 0
            · subst h0
              go_wp2_with fail
              go_end0
              refine ⟨rfl, ?_, ⟨D1, ?_, H8.out⟩, ?_⟩
              · have := HB.out
                rw [show j = nj from by omega, Nat.add_zero, HMc.out] at this
                have h2 := splice_two (M := M) (o := so) (A := lowDigs QQ nj) (B := lowDigs N (154 * jj)) (by rw [lowDigs_length, lowDigs_length]; have := Hnj.out; omega)
                rw [lowDigs_length] at h2
                rw [h2, HQQ.out, lowDigs_split, Hnj.out] at this
                exact this
              · exact H7.out.keepK HK.out (by
                  rintro k hk (h | h)
                  · subst h; exact H7.out.not_typ HSz.out (by decide) (by decide) (by decide) hk
                  · exact HQz.out.notStB H7.out (fun s e h => (H9.out s e h).1) k hk h)
              · exact H10.out.trans' HK.out (by
                  rintro i hi (h | h)
                  · exact .inl h
                  · exact (H5.out.inB h).elim (fun h => .inr (.inl h)) (fun h => by omega))
            · obtain ⟨p, rfl⟩ : ∃ p, m = p + 1 := ⟨m - 1, by omega⟩
              have hlen : (splice Mc (so + (p + 1)) (lowDigs QQ j)).length = Mc.length := length_splice (by rw [lowDigs_length]; omega)
              have c1 := Byt.cell HB.out (o := so + p) (by omega)
              have f1 := RowAt.frozen HB.out (so + p)
              have hb1 := Byt.cons (x := 48) (by have := HB.out; rwa [← Nat.add_assoc] at this) (by rw [lowDigs_length]; omega)
              have HB1 := hid hb1
              clear hb1 hlen
              go_wp2_with fail
              refine ⟨⟨p, j + 1, by omega, rfl, ?_, ?_, HK.out.setCell _ (.inl (.inl rfl)) _⟩, by simp [intOf]⟩
              · intro _
                rw [Nat.pow_succ, ← Nat.div_div_eq_div_mul, HZ.out (by omega)]
              · have := HB1.out
                show Byt _ sb (splice Mc (so + p) ((48 + QQ / 10 ^ j % 10) :: lowDigs QQ j))
                rw [HZ.out (by omega)]
                exact this
        · have hrlp : 0 < rl := by rw [← hlq]; exact words_length_pos hQ0
          clear hlq
          go_wp2_with fail
          refine (divW_any ra rl rc _ ra rl rc Q 10000000000000000000 _ Hrd.out Hrd.out hlen (by omega) (by omega) (by unfold W64; omega) (Al.refl _ _)).mono ?_
          rintro e w2 ⟨ra', rl', rc', rfl, h1, h2, h3⟩
          have H1 := hid h1; have H2 := hid h2; have H3 := hid h3
          have hkk : Keeps (fun k => k = sb ∨ InB za k) wz w2 := Hkeeps.out.trans' h3 (fun i hi hh => by
            rcases Hinto.out.inB hh with h | h
            · exact .inr h
            · omega)
          have hrs : ¬ InB ra sb := fun hh => by
            rcases Hinto.out.inB hh with h | h
            · exact HQSz.out h
            · have := HSz.out.lt; omega
          have hrs' : ¬ InB ra' sb := fun hh => by
            rcases (Hinto.out.trans H2.out Hkeeps.out.size).inB hh with h | h
            · exact HQSz.out h
            · have := HSz.out.lt; omega
          have hby2 : Byt w2 sb (splice Mc (so + m) (lowDigs QQ j)) := h3.row Hbyt.out hrs
          have HRS := hid hrs'; have HKK := hid hkk; have HBY := hid hby2
          have hlen' : rl' ≤ 400000 := by
            rw [← h1.length]
            have := words_mono (Nat.div_le_self Q 10000000000000000000)
            rw [Hrd.out.length] at this
            omega
          have HQlt := hid (show Q / 10 ^ 19 < Q from Nat.div_lt_self (by omega) (by decide))
          have HQr := hid (show natOf wr (.slice ra rl rc) = Q from natOf_eq Hrd.out)
          clear h1 h2 h3 hkk hrs hrs' hby2 hQ0
          go_wp2_with fail
          go_loopw [19, 20, 21] (fun iv rv cv wi => ∃ m c, CiRel wz za zc sb so nj QQ j Q Mc ra' rl' rc' wi iv rv cv m c) (fun _ _ cv _ => 100 - (intOf cv).toNat)
          case atStart => exact ⟨m, 0, by omega, by omega, rfl, by rw [Nat.pow_zero, Nat.div_one]; rfl, rfl, H1.out, HBY.out, HKK.out⟩
          case round =>
            obtain ⟨m, c, hm2, hc, rfl, rfl, rfl, hrd2, hby2, hkk2⟩ := hrel
            have HRD2 := hid hrd2; have HBY2 := hid hby2; have HKK2 := hid hkk2
            clear hrd2 hby2 hkk2
            have Exit1 : Hid (c = 19 ∨ m = 0 → ∃ m' j' Q' ra2 rl2 rc2, CwRel wz za zc sb so nj QQ Mc wr (.slice ra' rl' rc') (.int .i64 (m : Int)) m' j' Q' ra2 rl2 rc2) := hid (fun h => by
              refine ⟨m, j + c, Q / 10 ^ 19, ra', rl', rc', hm2, rfl, rfl, HRD2.out, hlen', Hinto.out.trans H2.out Hkeeps.out.size, ?_, HBY2.out, HKK2.out⟩
              intro hlt
              have hc19 : c = 19 := by omega
              rw [hc19, Nat.pow_add, ← Nat.div_div_eq_div_mul, ← Hval.out (by omega)])
            have HM : Hid (natOf wr (.slice ra' rl' rc') = Q / 10 ^ 19) := hid (natOf_eq HRD2.out)
            obtain ⟨r, hr⟩ : ∃ r, r = Q % 10 ^ 19 / 10 ^ c := ⟨_, rfl⟩
            rw [← hr]
            have Hr := hid hr
            clear hr
            by_cases hc19 : c = 19
            · subst hc19
              have E := hid (Exit1.out (.inl rfl))
              clear Exit1
              go_wp2_with fail
              refine ⟨E.out, ?_⟩
              rw [HM.out, HQr.out]
              exact HQlt.out
            · by_cases hm0 : m = 0
              · subst hm0
                have E := hid (Exit1.out (.inr rfl))
                have t1 : decide ((c : Int) < 19) = true := by simp; omega
                clear Exit1
                go_wp2_with fail
                refine ⟨E.out, ?_⟩
                rw [HM.out, HQr.out]
                exact HQlt.out
              · obtain ⟨p, rfl⟩ : ∃ p, m = p + 1 := ⟨m - 1, by omega⟩
                have t1 : decide ((c : Int) < 19) = true := by simp; omega
                obtain ⟨t, htt⟩ : ∃ t, t = r / 10 := ⟨_, rfl⟩
                obtain ⟨x, hx⟩ : ∃ x, x = r % 10 := ⟨_, rfl⟩
                have hrl : r < W64 := by
                  rw [Hr.out]
                  have h1 := Nat.div_le_self (Q % 10 ^ 19) (10 ^ c)
                  have h2 := Nat.mod_lt Q (show 0 < 10 ^ 19 by decide)
                  unfold W64; omega
                have e1 : (r : Int).tdiv 10 = (t : Int) := by rw [htt]; exact (Int.ofNat_tdiv r 10).symm
                have e2 : IntKind.u64.wrap (t : Int) = (t : Int) := u64_wrap t (by omega)
                have e3 : IntKind.u64.wrap ((t : Int) * 10) = (t : Int) * 10 := by
                  have := u64_wrap (t * 10) (by omega)
                  rw [Int.natCast_mul] at this; exact this
                have e4 : IntKind.u64.wrap ((r : Int) - (t : Int) * 10) = (x : Int) := by
                  have := u64_wrap x (by omega)
                  rw [show (r : Int) - (t : Int) * 10 = (x : Int) by omega]; exact this
                have e5 : IntKind.u8.wrap (x : Int) = (x : Int) := by rw [IntKind.wrap_u8]; omega
                have e6 : IntKind.u8.wrap (48 + (x : Int)) = ((48 + x : Nat) : Int) := by rw [IntKind.wrap_u8]; omega
                have hlenS : (splice Mc (so + (p + 1)) (lowDigs QQ (j + c))).length = Mc.length := length_splice (by rw [lowDigs_length]; omega)
                have c1 := Byt.cell HBY2.out (o := so + p) (by omega)
                have f1 := RowAt.frozen HBY2.out (so + p)
                have HB1 := hid (Byt.cons (x := 48 + x) (by have := HBY2.out; rwa [← Nat.add_assoc] at this) (by rw [lowDigs_length]; omega))
                have HQj : Hid (Q = QQ / 10 ^ j) := hid (Hval.out (by omega))
                have hxN : Hid (x = QQ / 10 ^ (j + c) % 10) := hid (by
                  rw [hx, Hr.out, Nat.pow_add, ← Nat.div_div_eq_div_mul, ← HQj.out]
                  have h10 : 10 ^ 19 = 10 ^ c * (10 * 10 ^ (18 - c)) := by rw [← Nat.mul_assoc, ← Nat.pow_succ, ← Nat.pow_add]; congr 1; omega
                  rw [h10, Nat.mod_mul_right_div_self, Nat.mod_mul_right_mod])
                have hrt : Hid (t = Q % 10 ^ 19 / 10 ^ (c + 1)) := hid (by rw [htt, Hr.out, Nat.div_div_eq_div_mul, ← Nat.pow_succ])
                clear htt hx hrl hlenS Exit1
                go_wp2_with fail
                refine ⟨⟨p, c + 1, by omega, by omega, rfl, ?_, ?_, ?_, ?_, HKK2.out.setCell _ (.inl (.inl rfl)) _⟩, by simp [intOf]; omega⟩
                · rw [hrt.out]
                · simp
                · exact HRD2.out.keep (Keeps.set1 wr sb (so + p) _) (fun k hk => by
                    rintro rfl
                    exact HRS.out hk)
                · have := HB1.out
                  show Byt _ sb (splice Mc (so + p) ((48 + QQ / 10 ^ (j + c) % 10) :: lowDigs QQ (j + c)))
                  rw [← hxN.out]
                  exact this
    · have tq : decide (8 < zl) = true := by simp; omega
      have tq2 : decide ((8 : Int) < (zl : Int)) = true := by simp; omega
      have hj00 : jj = 0 := hj0.resolve_right hz8
      have h2 := h2' hj00
      subst hj00
      clear h2'
      obtain ⟨QQ, hQQ⟩ : ∃ QQ, QQ = N / 10 ^ (154 * 0) := ⟨_, rfl⟩
      rw [← hQQ] at h1
      have hbig : W64 ^ 8 ≤ QQ := by
        rcases Nat.lt_or_ge QQ (W64 ^ 8) with h | h
        · exfalso
          have := words_lt h
          rw [h1.length] at this
          omega
        · exact h
      have hQn : QQ < 10 ^ nj := by
        rw [hQQ]
        refine Nat.div_lt_of_lt_mul ?_
        rw [← Nat.pow_add, show 154 * 0 + nj = n by omega]
        exact HN.out
      have hnj154 : 154 < nj := by
        refine (Nat.pow_lt_pow_iff_right (a := 10) (by omega)).mp (Nat.lt_of_le_of_lt ?_ hQn)
        exact Nat.le_trans (by unfold W64; decide) hbig
      obtain ⟨hh, hhh⟩ : ∃ hh, nj = hh + 154 := ⟨nj - 154, by omega⟩
      subst hhh
      have w1 : wrap64 (((hh + 154 : Nat) : Int) - 154) = (hh : Int) := by unfold wrap64; omega
      have w2 : IntKind.i64.wrap (((hh + 154 : Nat) : Int) - 154) = (hh : Int) := by rw [IntKind.wrap_i64]; omega
      have b0 := T1.cell 0
      have b1 := T1.cell 1
      have b2 := T1.cell 2
      simp only [List.getElem?_cons_zero, List.getElem?_cons_succ] at b0 b1 b2
      have HBL := hid (bitLen225_any za zl zc QQ wr h1)
      have HDV := hid (div199_stk za zl zc _ rra rrl rrc RR za zl zc QQ ta 8 tcc (10 ^ 154) p sp D1 wr h1 h2 h1 TA1 (by decide) (by omega) (by omega) h4 (Al.refl _ _) (Al.of_ne (fun k hk hk2 => h4 k hk2 hk)) h7 hsp
        (fun s e h => ⟨(h9 s e h).1, (h9 s e h).2, (h9 s e h).1, fun hk => by
          rcases (h8 s e h).2 with ⟨s', h'⟩ | h'
          · exact (HD.out s' e h').2 hk
          · have := HTA.out.lt hk; omega⟩) G1 HpG.out)
      obtain ⟨pp, sl1, sl2⟩ := slice22_from sb so (hh + 154) sc hh (by omega) (by omega)
      have sl2 := sl2 (by omega)
      subst sl2
      have sl3 := slice22_toO sb so (hh + 154) sc hh (by omega)
      have sl4 := slice208_none T
      have hfit : so + (hh + 154) ≤ M.length := by omega
      have hfit2 : hh + 154 ≤ 1000000 := by omega
      have Hnj := hid hnj
      have HQ1 := hid h1; have HR1 := hid h2; have HB1 := hid h3; have H4 := hid h4; have H5 := hid h5; have H6 := hid h6; have H7 := hid h7; have H8 := hid h8; have H9 := hid h9; have H10 := hid h10
      have HQQ := hid hQQ; have Hbig := hid hbig; have HQn := hid hQn; have HG1 := hid G1; have HT1 := hid T1; have HTA1 := hid TA1; have HTnot := hid hTnot; have HSt := hid hSt
      clear hnj h1 h2 h3 h4 h5 h6 h7 h8 h9 h10 hQQ hbig hQn G1 T1 TA1 hTnot hSt
      go_wp2_with fail
      refine HBL.out.mono ?_
      rintro e w2 ⟨b, rfl, hb1, hb2, rfl⟩
      have hb513 : 513 ≤ b := by
        refine (Nat.pow_lt_pow_iff_right (a := 2) (by omega)).mp (Nat.lt_of_le_of_lt ?_ hb1.1)
        exact Nat.le_trans (by unfold W64; decide +kernel) Hbig.out
      obtain ⟨b', hb'⟩ : ∃ b', b' = b / 2 := ⟨_, rfl⟩
      have t5 : (b : Int) / 2 = (b' : Int) := by omega
      have t6 : decide ((b : Int) ≤ 512) = false := by simp; omega
      clear hb1 hb'
      go_wp2_with fail
      go_loopw [15] (fun i w3 => i = .int .i64 0 ∧ w3 = w2) (fun _ _ => 0)
      case atStart => exact ⟨rfl, rfl⟩
      case round =>
        obtain ⟨rfl, hwr⟩ := hrel
        have hwr' := hwr.symm
        subst hwr'
        clear hwr
        go_wp2_with fail
        refine HDV.out.mono ?_
        rintro e w3 ⟨qa', ql', qc', ra', rl', rc', D2, rfl, k1, k2, k3, k4, k5, k6, k7, k9, k8⟩
        have hsb1 : ¬ (InB za sb ∨ InB rra sb ∨ StB p D1 sb) := by
          rintro (h | h | h)
          · exact HQ1.out.not_typ HB1.out (by decide) h
          · exact HR1.out.not_typ HB1.out (by decide) h
          · exact H7.out.not_typ HB1.out (by decide) (by decide) (by decide) h
        have B3 := k8.row HB1.out hsb1
        have hT1 : ¬ (InB za T ∨ InB rra T ∨ StB p D1 T) := by
          rintro (h | h | h)
          · exact HQ1.out.not_typ HT1.out (by decide) h
          · exact HR1.out.not_typ HT1.out (by decide) h
          · exact H7.out.not_typ HT1.out (by decide) (by decide) (by decide) h
        have T3 := k8.row HT1.out hT1
        have hKall : Keeps (fun k => k = sb ∨ InB qa k ∨ StB p D k) w w3 := H10.out.trans' k8 (by
          rintro i hi (h | h | h)
          · exact (H5.out.inB h).elim (fun h => .inr (.inl h)) (fun h => by omega)
          · exact (H6.out.inB h).elim (fun h => by obtain ⟨o, ho⟩ := h; cases ho) (fun h => by omega)
          · exact (StB.back H8.out h).elim (fun h => .inr (.inr h)) (fun h => by omega))
        have G3 := HG.out.keep hKall (fun k hk hk2 => HSt.out k (HG.out.lt hk) hk2 hk)
        have hrl8 : rl' ≤ 8 := by
          rw [← k3.length]
          exact words_lt (Nat.lt_of_lt_of_le (Nat.mod_lt _ (by decide)) (by unfold W64; decide))
        have b1 := T3.cell 0
        have b2 := T3.cell 2
        simp only [List.getElem?_cons_zero, List.getElem?_cons_succ] at b1 b2
        have hMl : (splice M (so + (hh + 154)) (lowDigs N (154 * 0))).length = M.length := length_splice (by rw [lowDigs_length]; omega)
        have HLF := hid (conv_tab0 T 1 ra' rl' rc' (some ⟨p, 0, none⟩) sb (so + hh) 154 (sc - hh) (QQ % 10 ^ 154) _ w3.drew k3.drew ((Keeps.refl (fun _ => False) w3).drew.row B3 (fun h => h)) (by omega) (by omega) (k3.not_typ B3 (by decide)) hrl8 (G3.keep (Keeps.refl (fun _ => False) w3).drew (fun _ _ h => h)))
        have K1 := hid k1; have K2 := hid k2; have K3 := hid k3; have K4 := hid k4; have K5 := hid k5; have K6 := hid k6; have K7 := hid k7; have K9 := hid k9; have HK3 := hid hKall; have HB3 := hid B3; have HMl := hid hMl
        clear k1 k2 k3 k4 k5 k6 k7 k8 k9 hKall B3 T3 hsb1 hT1 G3 hMl hrl8
        go_upto_region 14 with fail
        go_still_tail 11, (by kernel_rfl)
        go_wp2_with fail
        refine HLF.out.mono ?_
        rintro e w4 ⟨rfl, k1, k2⟩
        have L1 := hid k1; have L2 := hid k2
        clear k1 k2 HLF HDV HBL
        go_wp2_with fail
        have hk34 : Keeps (fun k => k = sb ∨ InB ra' k) w3 w4 := ((Keeps.refl _ w3).drew).trans L2.out
        have hqw : Rd w4 qa' ql' qc' (words (QQ / 10 ^ 154)) := K1.out.keep hk34 (by
          rintro k hk (h | h)
          · subst h; exact K1.out.not_typ HB3.out (by decide) hk
          · exact K5.out k hk h)
        have hlt : QQ / 10 ^ 154 < W64 ^ 8 := by
          refine Nat.div_lt_of_lt_mul ?_
          rw [HQQ.out, Nat.mul_zero, Nat.pow_zero, Nat.div_one]
          exact HN2.out
        have hql8 : ql' ≤ 8 := by rw [← K1.out.length]; exact words_lt hlt
        refine ⟨⟨1, hh, qa', ql', qc', ra', rl', rc', [], D2, by have := Hnj.out; omega, rfl, rfl, rfl, rfl, ?_, by omega, .inr hql8, (fun h => by omega), ?_, K5.out, H5.out.trans K2.out H10.out.size, H6.out.trans K4.out H10.out.size, ?_, ?_, K9.out, ?_⟩, ?_⟩
        · rw [HQQ.out, Nat.div_div_eq_div_mul, ← Nat.pow_add] at hqw
          exact hqw
        · have h1 := L1.out
          rw [lowDigs_mod QQ 154 154 (Nat.le_refl _)] at h1
          have h2 := splice_two (M := M) (o := so + hh) (A := lowDigs QQ 154) (B := lowDigs N (154 * 0)) (by rw [lowDigs_length, lowDigs_length]; omega)
          rw [lowDigs_length] at h2
          rw [show so + (hh + 154) = so + hh + 154 by omega, h2, HQQ.out, lowDigs_split] at h1
          exact h1
        · exact K6.out.keepK hk34 (by
            rintro k hk (h | h)
            · subst h; exact K6.out.not_typ HB3.out (by decide) (by decide) (by decide) hk
            · exact K3.out.notStB K6.out (fun s e h => (K9.out s e h).2) k hk h)
        · exact H8.out.trans K7.out H10.out.size
        · refine HK3.out.trans' hk34 ?_
          rintro i hi (h | h)
          · exact .inl h
          · exact ((H6.out.trans K4.out H10.out.size).inB h).elim (fun h => by obtain ⟨o, ho⟩ := h; cases ho) (fun h => by omega)
        · rw [natOf_eq hqw, natOf_eq HQ1.out]
          exact Nat.div_lt_self (Nat.lt_of_lt_of_le (by unfold W64; decide) Hbig.out) (by decide)
end Go.Proofs
namespace Go.Proofs
open Go.RowKit
set_option maxHeartbeats 1600000
set_option linter.unusedVariables false
set_option linter.unusedSimpArgs false
set_option maxRecDepth 100000

theorem itoa10_long (a : Option Addr) (l c N : Nat) (neg : Bool) (w : World) (h : Rd w a l c (words N)) (hl1 : 9 ≤ l) (hl : l ≤ 17) (hN2 : N < 10 ^ 154 * W64 ^ 8) (G : Glob w) :
    Calls Tryz.prog 213 #[.slice a l c, .bool neg, .int .i64 10] w fun e w' => ∃ v, e = .returned v ∧ RdB w' w.heap.size v (txt neg N) ∧ Keeps (fun _ => False) w w' := by
  have H := hid h; have HG := hid G
  have hll := h.length
  clear h G
  have hlp : 0 < l := by omega
  have h0 : N ≠ 0 := by rintro rfl; rw [words_zero] at hll; simp at hll; omega
  have t3 : ((l : Int) == 0) = false := by simp; omega
  have H0 := hid h0
  have HN2 := hid hN2
  clear h0 hll hN2
  go_enter_defers Tryz.func213, Tryz.ntmps213
  go_wp2_with fail
  refine (bitLen225_any a l c N _ H.out).mono ?_
  rintro e w1 ⟨bl, rfl, hbl, hb8, rfl⟩
  have hbl1800 : bl < 1800 := by omega
  obtain ⟨qf, k, hk, hkd, f1, f2, f3⟩ := decLen_steps bl hbl1800
  have f0 : ∀ w, (convert 3 156 (.int .i64 10)).run Tryz.prog w = .ok (.float .f64 4621819117588971520) w := fun w => by kernel_rfl
  have Hbl := hid hbl; have Hkd := hid hkd
  clear hbl hkd
  go_wp2_with fail
  refine (log250 _).mono ?_
  rintro e w2 ⟨rfl, rfl⟩
  go_upto_if 41 with fail
  obtain ⟨n, hn⟩ : ∃ n, n = k + 1 + (if neg then 1 else 0) := ⟨_, rfl⟩
  go_cut [7] from 42 to 43 (fun i wx => i = .int .i64 (n : Int) ∧ wx = w2)
  case first =>
    cases neg with
    | true =>
      go_wp2_with fail
      go_meet
      case rel => exact ⟨by rw [hn]; rfl, rfl⟩
    | false =>
      go_wp2_with fail
      go_meet
      case rel => exact ⟨by rw [hn]; rfl, rfl⟩
  case rest =>
    obtain ⟨rfl, rfl⟩ := hcut
    obtain ⟨i5, hi5, hz0, hz1, hz2⟩ := info_parts info5
    have hn1 : n ≤ 1010 := by rw [hn]; split <;> omega
    have b0 : bits BinOp.and IntKind.u64 10 18446744073709551606 = 2 := by kernel_rfl
    have Hn := hid hn
    clear hn f0 f1 f2 f3
    go_wp2_with (at_make; refine wpList_mk rfl _ _ _ rfl 5 i5 (.int .u8 0) (by kernel_rfl) hi5 hz0 hz1 (by rw [hz2]; omega) rfl .i64 .i64 _ _ n n rfl rfl rfl rfl (Nat.le_refl _) (by omega) ?_)
    obtain ⟨W1, hW1⟩ : ∃ W1, W1 = wc.alloc (.cells (Array.replicate n (.int .u8 0)) 5) := ⟨_, rfl⟩
    have hkA : Keeps (fun _ => False) wc W1 := by rw [hW1]; exact (Keeps.refl (fun _ => False) wc).alloc _
    obtain ⟨sb, hsb⟩ : ∃ sb, sb = wc.heap.size := ⟨_, rfl⟩
    have hby : Byt W1 sb (List.replicate n 0) := by
      have := RowAt.new wc 5 (List.replicate n (.int .u8 0))
      unfold Byt
      rw [List.map_replicate, hW1, hsb]
      simpa [bv] using this
    have hsz : W1.heap.size = sb + 1 := by rw [hsb, hW1]; simp
    rw [← hW1, ← hsb]
    clear hW1
    refine (getStack_any _).mono ?_
    rintro e w3 ⟨rfl, rfl⟩
    obtain ⟨W2, hW2⟩ : ∃ W2, W2 = W1.alloc (.cells #[.pointer none] 240) := ⟨_, rfl⟩
    have hby2 : Byt W2 sb (List.replicate n 0) := by rw [hW2]; exact RowAt.alloc hby _
    have hst : RowAt W2 (sb + 1) 240 [.pointer none] := by rw [hW2, ← hsz]; exact RowAt.new W1 240 [.pointer none]
    have hkB : Keeps (fun _ => False) wc W2 := by rw [hW2]; exact hkA.alloc _
    rw [hsz, ← hW2]
    have hst0 : W2.cell? ⟨sb + 1, 0, none⟩ = some (.pointer none) := hst.cell 0
    have HBY := hid hby2; have HST := hid hst; have HKB := hid hkB; have HSB := hid hsb
    have HR2 := hid (H.out.keep hkB (fun _ _ h => h))
    have HG2 := hid (HG.out.keep hkB (fun _ _ h => h))
    clear hby hby2 hst hkB hkA hsz hW2 hsb hz0 hz1 hz2 hi5
    go_wp2_with fail
    refine (maxPow_any 10 19 _ (by omega) (by unfold W64; omega) (by unfold W64; omega) (by omega)).mono ?_
    rintro e w4 ⟨rfl, rfl⟩
    go_wp2_with fail
    refine (divisors_one (sb + 1) 0 l _ HG2.out hl1 hl).mono ?_
    rintro e w5 ⟨T, ta, tl, tcc, rfl, hT0, hT, hta, hTA, hk5⟩
    have HT5 := hid hT; have HTA5 := hid hta
    have HBY := hid (hk5.row HBY.out (fun h => h)); have HST := hid (hk5.row HST.out (fun h => h)); have HKB := hid (HKB.out.trans hk5); have HR2 := hid (HR2.out.keep hk5 (fun _ _ h => h)); have HG2 := hid (HG2.out.keep hk5 (fun _ _ h => h))
    clear hT0 hT hta hTA hk5
    go_wp2_with fail
    refine (set_any none 0 0 [] a l c _ _ (Rd.nil _) HR2.out (by omega)).mono ?_
    rintro e w6 ⟨qa, qc, rfl, q1, q2, q3⟩
    have hqs : ¬ InB qa sb := by
      rintro ⟨o, ho⟩
      rcases q2.inB ⟨o, ho⟩ with ⟨o', ho'⟩ | hge
      · cases ho'
      · have := HBY.out.lt; omega
    have hqs' : ¬ InB qa (sb + 1) := by
      rintro ⟨o, ho⟩
      rcases q2.inB ⟨o, ho⟩ with ⟨o', ho'⟩ | hge
      · cases ho'
      · have := HST.out.lt; omega
    have hk6 : Keeps (fun _ => False) w5 w6 := q3.mono (fun i _ hh => by obtain ⟨o, ho⟩ := hh; cases ho)
    have HK56 := hid hk6
    have hby6 : Byt w6 sb (List.replicate n 0) := hk6.row HBY.out (fun h => h)
    have hst6 : RowAt w6 (sb + 1) 240 [.pointer none] := hk6.row HST.out (fun h => h)
    have Q1 := hid q1; have Q2 := hid q2; have HK6 := hid (HKB.out.trans hk6); have HBY6 := hid hby6; have HST6 := hid hst6; have HQS := hid hqs; have HQS' := hid hqs'
    clear q1 q2 q3 hk6 hby6 hst6 hqs hqs' hst0
    have hNn : N < 10 ^ n := Nat.lt_of_lt_of_le (Nat.lt_of_lt_of_le Hbl.out.1 Hkd.out) (Nat.pow_le_pow_right (by omega) (by have := Hn.out; omega))
    have hpg : ¬ GB (sb + 1) := fun h => by
      have h1 := HG.out.lt h
      have h2 := HSB.out
      omega
    have hsg : ¬ GB sb := fun h => by
      have h1 := HG.out.lt h
      have h2 := HSB.out
      omega
    have hbg : ∀ b, StB (sb + 1) none b → ¬ GB b := fun b hb => by
      rcases hb with rfl | ⟨s, d, h, _⟩
      · exact hpg
      · cases h
    have HCV := hid (conv_tab1 T ta tl tcc qa l qc (sb + 1) 0 none sb 0 n n N _ w6 Q1.out HBY6.out (by simp) (by omega) (Nat.le_refl _) hNn (by omega) HN2.out (HK56.out.row HT5.out (fun h => h)) (HTA5.out.keep HK56.out (fun _ _ h => h)) ⟨HST6.out, rfl⟩ (by omega) (fun s e h => by cases h)
      (fun k hk hk2 => by
        rcases Q2.out.inB hk2 with ⟨o', ho'⟩ | hge
        · cases ho'
        · have := HTA5.out.lt hk; omega) (HG2.out.keep HK56.out (fun _ _ h => h)) hpg hbg hsg)
    clear hNn hpg hsg hbg
    go_wp2_with fail
    refine HCV.out.mono ?_
    rintro e w7 ⟨rfl, r1, ⟨D', hst7, hsd⟩, r2'⟩
    have HSD := hid (show ∀ i d, D' = some (i, d) → wc.heap.size ≤ i from fun i d h => by
      rcases (hsd i d h).1 with ⟨d', h'⟩ | h'
      · cases h'
      · exact Nat.le_trans HK6.out.size h')
    clear hsd
    have r2 : Keeps (fun k => k = sb ∨ InB qa k ∨ k = sb + 1) w6 w7 := r2'.mono (fun i _ h => by
      rcases h with h | h | h | ⟨s, d, h, _⟩
      · exact .inl h
      · exact .inr (.inl h)
      · exact .inr (.inr h)
      · cases h)
    clear HCV r2'
    have hM : splice (List.replicate n 0) 0 (lowDigs N n) = lowDigs N n := by
      unfold splice
      simp [lowDigs_length]
    rw [hM] at r1
    have hk7 : Keeps (fun _ => False) wc w7 := HK6.out.trans' r2 (fun i hi hh => by
      rcases hh with rfl | hh | rfl
      · have := HSB.out; omega
      · rcases Q2.out.inB hh with ⟨o', ho'⟩ | hge
        · cases ho'
        · have := HKB.out.size; omega
      · have := HSB.out; omega)
    have HBY7 := hid r1; have HST7 := hid hst7; have HK7 := hid hk7
    clear r1 r2 hM hst7 hk7
    have hnd := nd_pos N
    have hndn : nd N + (if neg then 1 else 0) ≤ n := by
      have h1 : nd N ≤ k + 1 := nd_le (Nat.lt_of_lt_of_le Hbl.out.1 Hkd.out) (by omega)
      have h2 := Hn.out
      omega
    go_wp2_with fail
    go_loopw [7] (fun iv wr => ∃ i, i ≤ n - nd N ∧ iv = .int .i64 (i : Int) ∧ wr = w7) (fun iv _ => n - (intOf iv).toNat)
    case atStart => exact ⟨0, Nat.zero_le _, rfl, rfl⟩
    case round =>
      obtain ⟨i, hi, rfl, rfl⟩ := hrel
      have hlead := lowDigs_lead H0.out (by omega) hi
      have c1 := Byt.cell HBY7.out (o := i) (by rw [lowDigs_length]; omega)
      obtain ⟨x, hx⟩ : ∃ x, x = (lowDigs N n).getD i 0 := ⟨_, rfl⟩
      rw [← hx] at hlead c1
      have Hlead := hid hlead; have Hx := hid hx
      clear hlead hx
      by_cases hlt : i < n - nd N
      · have hx48 : x = 48 := Hlead.out.mpr hlt
        subst hx48
        go_wp2_with fail
        exact ⟨⟨i + 1, by omega, by simp, trivial⟩, by simp [intOf]; omega⟩
      · have hx48 : ((x : Int) == 48) = false := by
          simp only [beq_eq_false_iff_ne]
          intro h
          exact hlt (Hlead.out.mp (by omega))
        have hin : i + nd N = n := by omega
        have hdr : ∀ j, j < nd N → (lowDigs N n).getD (i + j) 0 = (decs N).getD j 0 := by
          intro j hj
          have h1 := lowDigs_drop N n (nd N) (by omega)
          rw [show n - nd N = i from by omega] at h1
          unfold decs
          rw [← h1, List.getD_eq_getElem?_getD, List.getD_eq_getElem?_getD, List.getElem?_drop]
        have Hdr := hid hdr
        clear hdr hlt hi hndn
        cases neg with
        | true =>
          have hip : 1 ≤ i := by have := Hn.out; have h1 : nd N ≤ k + 1 := nd_le (Nat.lt_of_lt_of_le Hbl.out.1 Hkd.out) (by omega); simp only [if_true] at this; omega
          obtain ⟨p, rfl⟩ : ∃ p, i = p + 1 := ⟨i - 1, by omega⟩
          have c2 := Byt.cell HBY7.out (o := p) (by rw [lowDigs_length]; omega)
          have f2 := RowAt.frozen HBY7.out p
          have HB8 := hid (Byt.set HBY7.out p 45)
          have hs9 := HST7.out.keepK (S := (· = sb)) ((Keeps.refl (· = sb) wr).setCell ⟨sb, p, none⟩ (.inl (Eq.refl sb)) (.int .u8 45)) (by
            rintro k hk rfl
            exact HST7.out.not_typ HBY7.out (by decide) (by decide) (by decide) hk)
          have HS9 := hid hs9
          clear hs9
          have hpn : (p : Int) + 1 - 1 = (p : Int) := by omega
          obtain ⟨sp, hsl, hsp⟩ := slice22_from sb 0 n n p (by omega) (Nat.le_refl _)
          go_wp2_with fail
          refine leaves_cons (f := 240) (args := #[.pointer (some ⟨sb + 1, 0, none⟩)]) (by simp) (by simp [go_sem]) ?_
          refine (free240_any (sb + 1) 0 D' _ _ HS9.out).mono ?_
          rintro e u' w'' ⟨rfl, rfl, hkf⟩
          have hB9 : Byt w'' sb ((lowDigs N n).set p 45) := hkf.row HB8.out (fun ⟨d, hd⟩ => HS9.out.not_typ HB8.out (by decide) (by decide) (by decide) (.inr ⟨_, d, hd, .inl rfl⟩))
          have hkE : Keeps (fun _ => False) wc w'' := (HK7.out.setCell ⟨sb, p, none⟩ (.inr (by show wc.heap.size ≤ sb; rw [HSB.out]; omega)) (.int .u8 45)).trans' hkf (fun i hi ⟨d, hd⟩ => by
            have h1 := HSD.out i d hd
            omega)
          have hdl : (decs N).length = nd N := lowDigs_length _ _
          have htl : (txt true N).length = n - p := by unfold txt; simp [hdl]; omega
          refine ⟨_, results_tmp rfl _ _ _, _, rfl, ?_, hkE⟩
          refine ⟨sb, p, n - p, ?_, by rw [HSB.out]; omega, hB9.lt, ?_⟩
          · rw [htl, hsp (by omega), Nat.zero_add]; rfl
          · intro j hj
            rw [htl] at hj
            refine (Byt.cell hB9 (o := p + j) (by simp [lowDigs_length]; omega)).trans ?_
            congr 3
            rw [List.getD_eq_getElem?_getD, List.getElem?_set]
            cases j with
            | zero =>
              have hpn' : p < n := by omega
              simp [txt, lowDigs_length, hpn']
            | succ j =>
              rw [if_neg (by omega), ← List.getD_eq_getElem?_getD, show p + (j + 1) = p + 1 + j from by omega, Hdr.out j (by omega)]
              simp [txt]
        | false =>
          obtain ⟨sp, hsl, hsp⟩ := slice22_from sb 0 n n i (by omega) (Nat.le_refl _)
          go_wp2_with fail
          refine leaves_cons (f := 240) (args := #[.pointer (some ⟨sb + 1, 0, none⟩)]) (by simp) (by simp [go_sem]) ?_
          refine (free240_any (sb + 1) 0 D' _ _ HST7.out).mono ?_
          rintro e u' w'' ⟨rfl, rfl, hkf⟩
          have hB9 : Byt w'' sb (lowDigs N n) := hkf.row HBY7.out (fun ⟨d, hd⟩ => HST7.out.not_typ HBY7.out (by decide) (by decide) (by decide) (.inr ⟨_, d, hd, .inl rfl⟩))
          have hkE : Keeps (fun _ => False) wc w'' := HK7.out.trans' hkf (fun i hi ⟨d, hd⟩ => by
            have h1 := HSD.out i d hd
            omega)
          have hdl : (decs N).length = nd N := lowDigs_length _ _
          have htl : (txt false N).length = n - i := by unfold txt; simp [hdl]; omega
          refine ⟨_, results_tmp rfl _ _ _, _, rfl, ?_, hkE⟩
          refine ⟨sb, i, n - i, ?_, by rw [HSB.out]; omega, hB9.lt, ?_⟩
          · rw [htl, hsp (by omega), Nat.zero_add]; rfl
          · intro j hj
            rw [htl] at hj
            rw [Byt.cell hB9 (by rw [lowDigs_length]; omega)]
            congr 3
            rw [Hdr.out j (by omega)]
            simp [txt]
end Go.Proofs
namespace Go.Proofs
open Go.RowKit
set_option maxHeartbeats 400000
set_option linter.unusedVariables false
set_option linter.unusedSimpArgs false
set_option maxRecDepth 100000

/-- Numbers below have a text by a table of one divisor at most. -/
def TXB : Nat := 10 ^ 154 * W64 ^ 8
theorem lt_TXB {n : Nat} (h : n < 10 ^ 251) : n < TXB := Nat.lt_of_lt_of_le h (by unfold TXB W64; decide +kernel)

theorem itoa10_any (a : Option Addr) (l c N : Nat) (neg : Bool) (w : World) (h : Rd w a l c (words N)) (hN : N < TXB) (G : Glob w) (hneg : neg = true → N ≠ 0) :
    Calls Tryz.prog 213 #[.slice a l c, .bool neg, .int .i64 10] w fun e w' => ∃ v, e = .returned v ∧ RdB w' w.heap.size v (txt neg N) ∧ Keeps (fun _ => False) w w' := by
  by_cases hl : l ≤ 8
  · exact itoa10_leaf a l c N neg w h hl G hneg
  · have h17 : l ≤ 16 := by
      rw [← h.length]
      refine words_lt (Nat.lt_of_lt_of_le hN ?_)
      unfold TXB W64
      decide +kernel
    exact itoa10_long a l c N neg w h (by omega) (by omega) hN G

theorem text170_big (p : Nat) (t : TypeId) (z : Int) (w : World) (h : IntAt w p t z) (hz : z.natAbs < TXB) (G : Glob w) :
    Calls Tryz.prog 170 #[.pointer (some ⟨p, 0, none⟩), .int .i64 10] w fun e w' => e = .returned (.string (strB (txt (decide (z < 0)) z.natAbs))) ∧ Keeps (fun _ => False) w w' := by
  obtain ⟨a, l, c, h1, h2⟩ := h
  obtain ⟨c1, c2, _, _⟩ := h1.facts
  have HZB := hid hz
  have H1 := hid h1; have H2 := hid h2; have HG := hid G
  obtain ⟨ng, hng⟩ : ∃ ng, ng = decide (z < 0) := ⟨_, rfl⟩
  have hngz : ng = true → z.natAbs ≠ 0 := fun h => nat_nonneg_neg (by rw [← hng]; exact h)
  rw [← hng] at c1 ⊢
  have HNZ := hid hngz
  clear h1 h2 G hz hng hngz
  have hpt : (binOp .eql 117 (.pointer (some ⟨p, 0, none⟩)) (.pointer none)).run Tryz.prog w = .ok (.bool false) w := by simp [go_sem]
  go_enter Tryz.func170, Tryz.ntmps170
  go_wp2_with fail
  go_still_tail 9, (by kernel_rfl)
  go_wp2_with fail
  refine (itoa10_any a l c z.natAbs ng w.drew H2.out.drew HZB.out (HG.out.drewN 1) HNZ.out).mono ?_
  rintro e w1 ⟨v, rfl, hv, hk⟩
  have hs := hv.string
  have HV := hid hv; have HK := hid hk
  clear hv hk
  go_wp2_with fail
  go_ret
  exact ⟨rfl, ((Keeps.refl _ w).drew).trans HK.out⟩

theorem string157_big (p : Nat) (t : TypeId) (z : Int) (w : World) (h : IntAt w p t z) (hz : z.natAbs < TXB) (G : Glob w) :
    Calls Tryz.prog 157 #[.pointer (some ⟨p, 0, none⟩)] w fun e w' => e = .returned (.string (strB (txt (decide (z < 0)) z.natAbs))) ∧ Keeps (fun _ => False) w w' := by
  have H := hid (text170_big p t z w h hz G)
  clear h hz G
  go_enter Tryz.func157, Tryz.ntmps157
  go_wp2_with fail
  refine H.out.mono ?_
  rintro e w1 ⟨rfl, hk⟩
  have hk := hid hk
  go_wp2_with fail
  go_ret
  exact ⟨rfl, hk.out⟩

theorem string80_big (p : Nat) (t : TypeId) (z : Int) (w : World) (h : IntAt w p t z) (hz : z.natAbs < TXB) (G : Glob w) :
    Calls Tryz.prog 80 #[.pointer (some ⟨p, 0, none⟩)] w fun e w' => e = .returned (.string (strB (txt (decide (z < 0)) z.natAbs))) ∧ Keeps (fun _ => False) w w' := by
  have H := hid (string157_big p t z w h hz G)
  clear h hz G
  go_enter Tryz.func80, Tryz.ntmps80
  go_wp2_with fail
  refine H.out.mono ?_
  rintro e w1 ⟨rfl, hk⟩
  have hk := hid hk
  go_wp2_with fail
  go_ret
  exact ⟨rfl, hk.out⟩

theorem text110_big (p : Nat) (t : TypeId) (z : Int) (w : World) (h : IntAt w p t z) (hz : z.natAbs < TXB) (G : Glob w) :
    Calls Tryz.prog 110 #[.pointer (some ⟨p, 0, none⟩), .int .i64 10] w fun e w' => e = .returned (.string (strB (txt (decide (z < 0)) z.natAbs))) ∧ Keeps (fun _ => False) w w' := by
  have H := hid (text170_big p t z w h hz G)
  clear h hz G
  go_enter Tryz.func110, Tryz.ntmps110
  go_wp2_with fail
  refine H.out.mono ?_
  rintro e w1 ⟨rfl, hk⟩
  have hk := hid hk
  go_wp2_with fail
  go_ret
  exact ⟨rfl, hk.out⟩

/-- MarshalJSON. -/
theorem json169_big (p : Nat) (t : TypeId) (z : Int) (w : World) (h : IntAt w p t z) (hz : z.natAbs < TXB) (G : Glob w) :
    Calls Tryz.prog 169 #[.pointer (some ⟨p, 0, none⟩)] w fun e w' => ∃ v, e = .returned (.tuple #[v, .nilIface]) ∧ RdB w' w.heap.size v (txt (decide (z < 0)) z.natAbs) ∧ Keeps (fun _ => False) w w' := by
  obtain ⟨a, l, c, h1, h2⟩ := h
  obtain ⟨c1, c2, _, _⟩ := h1.facts
  have HZB := hid hz
  have H1 := hid h1; have H2 := hid h2; have HG := hid G
  obtain ⟨ng, hng⟩ : ∃ ng, ng = decide (z < 0) := ⟨_, rfl⟩
  have hngz : ng = true → z.natAbs ≠ 0 := fun h => nat_nonneg_neg (by rw [← hng]; exact h)
  rw [← hng] at c1 ⊢
  have HNZ := hid hngz
  clear h1 h2 G hz hng hngz
  go_enter Tryz.func169, Tryz.ntmps169
  go_wp2_with fail
  go_still_tail 8, (by kernel_rfl)
  go_wp2_with fail
  refine (itoa10_any a l c z.natAbs ng w.drew H2.out.drew HZB.out (HG.out.drewN 1) HNZ.out).mono ?_
  rintro e w1 ⟨v, rfl, hv, hk⟩
  have HV := hid hv; have HK := hid hk
  clear hv hk
  go_wp2_with fail
  go_ret2
  exact ⟨_, rfl, HV.out, ((Keeps.refl _ w).drew).trans HK.out⟩

theorem json109_big (p : Nat) (t : TypeId) (z : Int) (w : World) (h : IntAt w p t z) (hz : z.natAbs < TXB) (G : Glob w) :
    Calls Tryz.prog 109 #[.pointer (some ⟨p, 0, none⟩)] w fun e w' => ∃ v, e = .returned (.tuple #[v, .nilIface]) ∧ RdB w' w.heap.size v (txt (decide (z < 0)) z.natAbs) ∧ Keeps (fun _ => False) w w' := by
  have H := hid (json169_big p t z w h hz G)
  clear h hz G
  go_enter Tryz.func109, Tryz.ntmps109
  go_wp2_with fail
  refine H.out.mono ?_
  rintro e w1 ⟨v, rfl, hv, hk⟩
  have hv := hid hv; have hk := hid hk
  go_wp2_with fail
  go_ret2
  exact ⟨_, rfl, hv.out, hk.out⟩
end Go.Proofs
