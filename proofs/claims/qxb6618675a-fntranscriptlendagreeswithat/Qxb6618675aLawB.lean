/-
  THE WALK of the law FnTranscriptLendAgreesWithAt.
-/
import Derived.Test.Qxb6618675aRange
namespace Go.Proofs.Qxb6618675a
open Go.RowKit
set_option linter.unusedSimpArgs false
set_option linter.unusedVariables false

/-- What the law was given, at the start. -/
theorem given_0 {w : World} {a : Option Addr} {len cap k : Nat} {ds : List MsgD} {d : MsgD} (h : IsOld w (.slice a len cap) ds) (hd : ds[k]? = some d) :
    ∃ b off vc vr, a = some ⟨b, off, none⟩ ∧ b < w.heap.size ∧ w.rangeAt b (off + k * 5) [.string d.role, .string d.text, .string d.ref, vc, vr] ∧ MsgSl w (Old w.heap.size) vc vr d := by
  obtain ⟨a', cap', e, hds, _, _⟩ := h
  cases e
  obtain ⟨b, off, rfl, hat⟩ := hds.resolve_left (fun e => by rw [e] at hd; simp at hd)
  have hm := hat k d hd
  have hb : b < w.heap.size := hm.1.1
  obtain ⟨vc, vr, hc, hs⟩ := hm.cur
  exact ⟨b, off, vc, vr, rfl, hb, cur_range hc, hs⟩
theorem range_old {b o N : Nat} {cs : List Value} {w w' : World} (h : w.rangeAt b o cs) (hb : Below N w w') (hN : b < N) : w'.rangeAt b o cs := fun j v hj => (hb.cell (p := ⟨b, o + j, none⟩) hN).trans (h j v hj)
theorem Scr.of_below {A0 : Nat} {w w' : World} (h : Below w.heap.size w w') (hA : A0 ≤ w.heap.size) : Scr A0 0 w w' :=
  ⟨h.mono hA, fun b cs t fr hb _ _ _ => (h.block b (lt_of_block hb)).trans hb, fun b cs t hb => ⟨cs, (h.block b (lt_of_block hb)).trans hb, rfl⟩, fun b o u hu => ⟨u, (h.cell (p := ⟨b, o, none⟩) (cell_lt hu)).trans hu, .same _⟩⟩
/-- A row, and a row in the midst of a block. -/
def RT (X : Nat) (C : Array Value) (b o : Nat) (cs : List Value) (wx : World) : Prop := RowAt X C 28 wx ∧ wx.rangeAt b o cs
/-- The loan, message by message: what Scribble asks. -/
def Loan (A0 g o m : Nat) (ps : List MsgD) (w : World) : Prop := ∀ k d, ps[k]? = some d → ∃ vc vr, w.cell? ⟨g, o + k * 5 + 3, none⟩ = some vc ∧ w.cell? ⟨g, o + k * 5 + 4, none⟩ = some vr ∧ KCalls w A0 1048576 vc ∧ KRess w A0 1048576 vr

set_option maxRecDepth 100000 in
/-- Too many messages: too big. -/
theorem too_big_len (a : Option Addr) (len cap : Nat) (w : World) (hbig : (10922 : Int) < (len : Int)) : Calls Try.prog 7 #[.slice a len cap] w fun E w' => E = .returned (.bool true) ∧ w = w' := by
  go_enter Try.func7, Try.ntmps7
  go_wp2_with fail
  go_ret
  exact ⟨rfl, rfl⟩

set_option maxRecDepth 100000 in
set_option maxHeartbeats 8000000 in
theorem law_lend (ds : List MsgD) (v : Value) (i j : Int) (w : World) (h : IsOld w v ds) : Calls Try.prog 4 #[v, .int .i64 i, .int .i64 j] w (TrueB w) := by
  obtain ⟨a, cap, hv, _⟩ := id h
  obtain ⟨len, hlen⟩ : ∃ len, ds.length = len := ⟨_, rfl⟩
  rw [hlen] at hv
  subst hv
  have H0 := hidden h
  clear h
  have hzz := hidden (zz_lend ds (.slice a len cap) i j w H0.out)
  by_cases hmany : (10922 : Int) < (len : Int)
  · have hbig := hidden (too_big_len a len cap w hmany)
    go_enter Try.func4, Try.ntmps4
    go_wp2_with (first
      | (go_at_call 13; (with_reducible refine hzz.out.mono ?_); rintro E w' ⟨⟨zb, rfl⟩, rfl⟩)
      | (go_at_call 7; (with_reducible refine hbig.out.mono ?_); rintro E w1 ⟨rfl, rfl⟩)
      | fail)
    all_goals go_ret
    all_goals exact ⟨rfl, Below.refl _ _⟩
  have hbig := hidden (too_big ds (.slice a len cap) w H0.out)
  by_cases hi : i < 0
  · go_enter Try.func4, Try.ntmps4
    go_wp2_with (first
      | (go_at_call 13; (with_reducible refine hzz.out.mono ?_); rintro E w' ⟨⟨zb, rfl⟩, rfl⟩)
      | (go_at_call 7; (with_reducible refine hbig.out.mono ?_); rintro E w1 ⟨zc, rfl, hsm, hB1⟩)
      | fail)
    all_goals go_ret
    all_goals first | exact ⟨rfl, Below.refl _ _⟩ | exact ⟨rfl, hB1⟩
  by_cases hij : j < i
  · go_enter Try.func4, Try.ntmps4
    go_wp2_with (first
      | (go_at_call 13; (with_reducible refine hzz.out.mono ?_); rintro E w' ⟨⟨zb, rfl⟩, rfl⟩)
      | (go_at_call 7; (with_reducible refine hbig.out.mono ?_); rintro E w1 ⟨zc, rfl, hsm, hB1⟩)
      | fail)
    all_goals go_ret
    all_goals first | exact ⟨rfl, Below.refl _ _⟩ | exact ⟨rfl, hB1⟩
  by_cases hjl : (len : Int) < j
  · go_enter Try.func4, Try.ntmps4
    go_wp2_with (first
      | (go_at_call 13; (with_reducible refine hzz.out.mono ?_); rintro E w' ⟨⟨zb, rfl⟩, rfl⟩)
      | (go_at_call 7; (with_reducible refine hbig.out.mono ?_); rintro E w1 ⟨zc, rfl, hsm, hB1⟩)
      | fail)
    all_goals go_ret
    all_goals first | exact ⟨rfl, Below.refl _ _⟩ | exact ⟨rfl, hB1⟩
  obtain ⟨I, rfl⟩ : ∃ k : Nat, i = k := ⟨i.toNat, by omega⟩
  obtain ⟨J, rfl⟩ : ∃ k : Nat, j = k := ⟨j.toNat, by omega⟩
  go_enter Try.func4, Try.ntmps4
  go_upto_region 7 with (first
    | (go_at_call 13; (with_reducible refine hzz.out.mono ?_); rintro E w' ⟨⟨zb, rfl⟩, rfl⟩)
    | (go_at_call 7; (with_reducible refine hbig.out.mono ?_); rintro E w1 ⟨zc, rfl, hsm, hB1⟩)
    | fail)
  · go_ret
    exact ⟨rfl, Below.refl _ _⟩
  · go_ret
    exact ⟨rfl, hB1⟩
  have hsm' : Small ds := hsm (by assumption)
  have HS := hidden hsm'
  clear hsm hsm'
  obtain ⟨m, hm⟩ : ∃ m, J = I + m := ⟨J - I, by omega⟩
  have HM0 := hidden hm
  have hji : J - I = m := by omega
  have hIJ : I ≤ J := by omega
  have hJl : J ≤ len := by omega
  have hpl : ((ds.drop I).take m).length = m := by simp; omega
  have HP := hidden hpl
  have HJI := hidden hji
  clear hpl hm hji
  have hto := hidden (to_msgs ds _ w1 (IsMsgs.now H0.out hB1) HS.out.1 HS.out.2.1)
  go_upto_region 9 with (first
    | (go_at_call 9; (with_reducible refine hto.out.mono ?_); rintro E w2 ⟨v2, rfl, hm2, hB2⟩; obtain ⟨a2, cap2, hv2, hds2⟩ := id hm2; rw [hlen] at hv2; subst hv2; have HM := hidden hm2; clear hm2 hds2)
    | (go_at_call 8; (with_reducible refine (new_transcript a2 len cap2 w2).mono ?_); rintro E w3 ⟨c, l, rfl, hc, hl, hcl, hc2, hl2, hB3⟩)
    | (refine wpList_store_row rfl 28 (.tmp 7) (.tmp 33) rfl w3.heap.size (t3 (.slice a2 len cap2) c l) rfl rfl 28 _ (heap_alloc_new w3 _) i28 rfl (t3_one _ _ _ _ _) ?_
       obtain ⟨hT, hBT⟩ := var_row w3 z28 (t3 (.slice a2 len cap2) c l) 28
       unfold z28 at hT hBT
       generalize World.setRow _ _ _ = w4 at hT hBT ⊢
       have hT2 : RowAt w3.heap.size (t3 (.slice a2 len cap2) c l) 28 w4 := hT
       have hc4 := (hBT.block _ (lt_of_block hc)).trans hc
       have hl4 := (hBT.block _ (lt_of_block hl)).trans hl
       have hB23 := hB3.trans (hBT.mono hB3.size)
       have hAr := new_ar (A0 := w2.heap.size) hl4
       have hm4 : IsMsgs w4 (Old w2.heap.size) (Old w2.heap.size) (.slice a2 len cap2) ds := HM.out.go (Sub.refl _) (SameOn.old hB23) (Sub.refl _) (SameOn.old hB23))
    | (refine wpList_load_row rfl 28 (.tmp 7) rfl w3.heap.size rfl 28 (t3 (.slice a2 len cap2) c l) (0, 0) _ hT Try.underlying28 rfl i28 ?_)
    | (go_at_call 14; (refine (lend_msgs w2.heap.size c l 0 0 _ ds I J w4 hAr hB23.size hl2 (by omega) hm4 HS.out hIJ (by omega)).mono ?_); rintro E w5 ⟨a3, rc, F, g1, o1, hE, ha3, hms, hAr5, hFr, hFT⟩; rw [HJI.out, HP.out] at hE; subst hE)
    | fail)
  rw [HJI.out] at ha3 hms
  rw [HP.out] at ha3
  have hwB : Below w.heap.size w w2 := hB1.trans (hB2.mono hB1.size)
  have hbw : Below w.heap.size w w5 := (hwB.trans (hB23.mono hwB.size)).trans (hFr.below.mono hwB.size)
  have hcT : c ≠ w3.heap.size := fun e => by have := lt_of_block hc; omega
  have hlT : l ≠ w3.heap.size := fun e => by have := lt_of_block hl; omega
  have hT5 : RowAt w3.heap.size (t3 (.slice a2 len cap2) c l) 28 w5 := hFr.other _ _ _ _ hT (Ne.symm hlT) (by decide) (by decide) (by decide) (by decide)
  have hc5 : RowAt c z64 64 w5 := hFr.other _ _ _ _ hc4 hcl (by decide) (by decide) (by decide) (by decide)
  have hA5 : w2.heap.size ≤ w5.heap.size := Nat.le_trans hB23.size hFr.size
  have hm5 : IsMsgs w5 (Old w2.heap.size) (Old w2.heap.size) (.slice a2 len cap2) ds := hm4.go (Sub.refl _) (SameOn.old hFr.below) (Sub.refl _) (SameOn.old hFr.below)
  have hlies : Lies w5 a3 ((ds.drop I).take m) := by
    rcases Nat.eq_zero_or_pos m with rfl | hpos
    · exact .inl (by simp)
    · obtain ⟨e, _, D, hD⟩ := ha3 hpos
      have hg := lt_of_block hD
      exact .inr ⟨g1, o1, e, fun k d hk => (hms k d hk).go (fun b o h => by rw [h.1]; exact hg) (SameOn.refl _ _) hFT.old (SameOn.refl _ _)⟩
  have hloan : Loan w2.heap.size g1 o1 m ((ds.drop I).take m) w5 := fun k d hk => by
    obtain ⟨_, _, _, _, vc, vr, q3, q4, hs⟩ := hms k d hk
    have hkin := MsgSl.kin hs hFT (HS.out.2.1 d (List.mem_of_mem_drop (List.mem_of_mem_take (List.mem_of_getElem? hk))))
    exact ⟨vc, vr, q3, q4, hkin.1, hkin.2⟩
  have hwA := hwB.size
  have hsr := hidden (same_range ds a3 a m rc len cap I J w5 hlies (IsMsgs.now H0.out hbw) HS.out hlen hJl HM0.out)
  clear hzz hbig hto HM hms hFT hAr hAr5 hFr hm4 hT hT2 hc hl hB3 hBT hc4 hl4 hB23 hB1 hB2 hwB hlies
  generalize w3.heap.size = TB at hT5 hcT hlT ⊢
  generalize w2.heap.size = A0 at *
  go_wp2_with (first
    | (go_at_call 15; (with_reducible refine hsr.out.mono ?_); rintro E w6 ⟨rfl, hB6⟩)
    | fail)
  have hS6 : Scr A0 (0 * 4194304) w5 w6 := by rw [Nat.zero_mul]; exact Scr.of_below hB6 hA5
  have HA3 := hidden ha3
  have HLN := hidden hloan
  clear hsr hB6 ha3 hloan
  go_loopw [9] (fun kv wr => ∃ k : Nat, k ≤ m ∧ kv = .int .i64 k ∧ Scr A0 (k * 4194304) w5 wr) (fun kv _ => m - (intOf kv).toNat)
  case atStart => exact ⟨0, Nat.zero_le _, rfl, hS6⟩
  case round =>
    obtain ⟨k, hk, rfl, hS⟩ := hrel
    by_cases hlt : k < m
    · obtain ⟨rfl, hgA, D, hD⟩ := HA3.out (by omega)
      obtain ⟨d, hd⟩ : ∃ d, ((ds.drop I).take m)[k]? = some d := ⟨_, List.getElem?_eq_getElem (by rw [HP.out]; exact hlt)⟩
      obtain ⟨vc, vr, q3, q4, hkc, hkr⟩ := HLN.out k d hd
      have hgb : wr.heap[g1]? = w5.heap[g1]? := (hS.other _ _ _ _ hD (by decide) (by decide) (by decide)).trans hD.symm
      have p3 := (World.cell?_of_block (w := w5) (a := ⟨g1, o1 + k * 5 + 3, none⟩) hgb).trans q3
      have p4 := (World.cell?_of_block (w := w5) (a := ⟨g1, o1 + k * 5 + 4, none⟩) hgb).trans q4
      have hmm : m ≤ 10922 := by have := HM0.out; omega
      have hscr := hidden (scribble A0 (1048576 + k * 4194304) g1 (o1 + k * 5) vc vr wr p3 p4 (hkc.go hS) (hkr.go hS) (by omega))
      clear p3 p4 hgb hkc hkr q3 q4 hd hD
      have hi2 : (k : Int) < (m : Int) := by omega
      go_wp2_with (first
        | (go_at_call 12; (with_reducible refine hscr.out.mono ?_); rintro E w8 ⟨rfl, hS8⟩)
        | fail)
      go_roundw
      case rel => exact ⟨k + 1, by omega, by go_num, by rw [Nat.succ_mul]; exact hS.trans hS8⟩
      case measure => simp [intOf]; omega
    · have hi2 : ¬ (k : Int) < (m : Int) := by omega
      have hT7 : RowAt TB (t3 (.slice a2 len cap2) c l) 28 wr := hS.other _ _ _ _ hT5 (by decide) (by decide) (by decide)
      have hc7 : wr.heap[c]? = some (.cells z64 64 (0, 0)) := hS.other _ _ _ _ hc5 (by decide) (by decide) (by decide)
      have hAr7 : ArOk A0 c 0 0 (0 * 1048576) wr := by rw [Nat.zero_mul]; exact new_ar hc7
      have hm7 := hm5.go (Sub.refl _) (SameOn.old hS.below) (Sub.refl _) (SameOn.old hS.below)
      have hA7 := Nat.le_trans hA5 hS.below.size
      have hbw7 := hbw.trans (hS.below.mono hwA)
      clear HA3 HLN hS6 hS hT5 hc5 hc7 hm5 hA5 hbw
      go_wp2_with fail
      have hji : (J : Int) - (I : Int) = (m : Int) := by have := HM0.out; omega
      go_loopw [10] (fun kv wq => ∃ q : Nat, q ≤ m ∧ kv = .int .i64 q ∧ ArOk A0 c 0 0 (q * 1048576) wq ∧ RowAt TB (t3 (.slice a2 len cap2) c l) 28 wq ∧ IsMsgs wq (Old A0) (Old A0) (.slice a2 len cap2) ds ∧ Below w.heap.size w wq ∧ A0 ≤ wq.heap.size) (fun kv _ => m - (intOf kv).toNat)
      case atStart => exact ⟨0, Nat.zero_le _, rfl, hAr7, hT7, hm7, hbw7, hA7⟩
      case round =>
        clear hi2 hlt hk hAr7 hT7 hm7 hA7 hbw7
        obtain ⟨q, hq, rfl, hAr, hT, hms, hbw, hA⟩ := hrel
        by_cases hqm : q < m
        · have hi2 : (q : Int) < (m : Int) := by omega
          have hlm : I + m ≤ len := by have := HM0.out; omega
          go_upto_region 18 with fail
          obtain ⟨d, hd⟩ : ∃ d, ds[I + q]? = some d := ⟨_, List.getElem?_eq_getElem (by omega)⟩
          obtain ⟨b, off, zc', zr', hab, hbN, hrg, hgs⟩ := given_0 H0.out hd
          have HAB := hidden hab
          clear hab
          have hrd := range_old hrg hbw.drew hbN
          have hL : RT TB (t3 (.slice a2 len cap2) c l) b (off + (I + q) * 5) [.string d.role, .string d.text, .string d.ref, zc', zr'] wr.drew := ⟨hT.step (Below.refl _ _).drew, hrd⟩
          have hAr1 := hAr.below (Below.refl _ _).drew
          have hms1 := hms.go (Sub.refl _) (SameOn.old (Below.refl _ wr).drew) (Sub.refl _) (SameOn.old (Below.refl _ wr).drew)
          have hA1 : A0 ≤ wr.drew.heap.size := Nat.le_trans hA (Below.refl 0 wr).drew.size
          have hbw1 := hbw.drew
          refine region_named (S := RT TB (t3 (.slice a2 len cap2) c l) b (off + (I + q) * 5) [.string d.role, .string d.text, .string d.ref, zc', zr']) (n := 13) (by as_aux_lemma => kernel_rfl) (by as_aux_lemma => kernel_rfl) hL (fun R hR => ?_)
          clear hrd hAr hT hms hbw hA
          generalize wr.drew = wd at hL hAr1 hms1 hA1 hbw1 ⊢
          have hns : ssa2 R = true := by as_aux_lemma => (unfold IsOps at hR; subst hR; kernel_rfl)
          have hlenR : R.length = 13 := by as_aux_lemma => (unfold IsOps at hR; subst hR; kernel_rfl)
          have hwr : IntKind.i64.wrap ((I : Int) + q) = I + q := IntWalk.i64_in _ (by omega)
          have hik : (I : Int) + q < len := by omega
          have hik0 : ¬ (I : Int) + q < 0 := by omega
          have hnk : ((I : Int) + q).toNat = I + q := by omega
          refine takes_run2 [(0, .agg (t3 (.slice a2 len cap2) c l)), (1, .int .i64 I), (2, .int .i64 q), (3, .int .i64 (I + q)), (5, .slice a len cap), (6, .int .i64 I), (7, .int .i64 q), (8, .int .i64 (I + q)), (9, .pointer (some ⟨b, off + (I + q) * 5, none⟩)), (10, .agg (m5 d zc' zr'))] (fuel := 3) (d' := [10, 9, 8, 7, 6, 5, 3, 2, 1, 0]) (by as_aux_lemma => kernel_rfl) hns (by as_aux_lemma => (unfold IsOps at hR; subst hR; kernel_rfl)) rfl (fun _ _ _ _ _ h => h) hL (fun K hK => ?_)
          refine RunsThen.cons (hR.at rfl) (by intro wx hSw; exact exec_row 28 (.tmp 7) rfl TB rfl 28 (t3 (.slice a2 len cap2) c l) (0, 0) _ hSw.1 Try.underlying28 rfl i28) ?_
          try simp only [Act.put, List.setIfInBounds_toArray, List.set_cons_zero, List.set_cons_succ]
          refine RunsThen.cons (hR.at rfl) (by intro wx hSw; go_simp <;> rfl) ?_
          try simp only [Act.put, List.setIfInBounds_toArray, List.set_cons_zero, List.set_cons_succ]
          refine RunsThen.cons (hR.at rfl) (by intro wx hSw; go_simp <;> rfl) ?_
          try simp only [Act.put, List.setIfInBounds_toArray, List.set_cons_zero, List.set_cons_succ]
          refine RunsThen.cons (hR.at rfl) (by intro wx hSw; go_simp <;> rfl) ?_
          try simp only [Act.put, List.setIfInBounds_toArray, List.set_cons_zero, List.set_cons_succ]
          refine RunsThen.cons (hR.at rfl) (by intro wx hSw; go_simp <;> rfl) ?_
          try simp only [Act.put, List.setIfInBounds_toArray, List.set_cons_zero, List.set_cons_succ]
          refine RunsThen.cons (hR.at rfl) (by intro wx hSw; go_simp <;> rfl) ?_
          try simp only [Act.put, List.setIfInBounds_toArray, List.set_cons_zero, List.set_cons_succ]
          refine RunsThen.cons (hR.at rfl) (by intro wx hSw; go_simp <;> rfl) ?_
          try simp only [Act.put, List.setIfInBounds_toArray, List.set_cons_zero, List.set_cons_succ]
          refine RunsThen.cons (hR.at rfl) (by intro wx hSw; go_simp <;> rfl) ?_
          try simp only [Act.put, List.setIfInBounds_toArray, List.set_cons_zero, List.set_cons_succ]
          refine RunsThen.cons (hR.at rfl) (by intro wx hSw; rw [HAB.out]; go_simp <;> rfl) ?_
          try simp only [Act.put, List.setIfInBounds_toArray, List.set_cons_zero, List.set_cons_succ]
          refine RunsThen.cons (hR.at rfl) (by intro wx hSw; exact exec_mid 41 (.tmp 70) rfl b (off + (I + q) * 5) rfl [.string d.role, .string d.text, .string d.ref, zc', zr'] _ hSw.2 Try.underlying41 rfl i41) ?_
          try simp only [Act.put, List.setIfInBounds_toArray, List.set_cons_zero, List.set_cons_succ]
          refine RunsThen.nil (hK.out _ ?_)
          clear hK K
          refine carry_run2 (i := 4) (fuel := 2) hlenR hns (by as_aux_lemma => (unfold IsOps at hR; subst hR; kernel_rfl)) (hR.at rfl) rfl (fun K hK => ?_)
          have hat : Calls Try.prog 10 #[.agg (t3 (.slice a2 len cap2) c l), .int .i64 ((I : Int) + q)] wd (AtPost A0 c 0 (q * 1048576) d wd) := at_msg A0 c l (q * 1048576) 0 _ ds (I + q) d wd hAr1 hA1 hc2 (by omega) hms1 HS.out hd
          go_simp
          refine hat.mono ?_
          rintro E w9 ⟨yc, yr, G, rfl, hys, hFT, hAr9, hFr⟩
          have hwN : b < A0 := Nat.lt_of_lt_of_le hbN hwA
          have hL9 : RT TB (t3 (.slice a2 len cap2) c l) b (off + (I + q) * 5) [.string d.role, .string d.text, .string d.ref, zc', zr'] w9 := ⟨hFr.other _ _ _ _ hL.1 (Ne.symm hcT) (by decide) (by decide) (by decide) (by decide), range_old hL.2 hFr.below hwN⟩
          have hms9 := hms1.go (Sub.refl _) (SameOn.old hFr.below) (Sub.refl _) (SameOn.old hFr.below)
          have hA9 := Nat.le_trans hA1 hFr.size
          have hbw9 := hbw1.trans (hFr.below.mono hwA)
          clear hat hL hAr1 hms1 hA1 hbw1 hFr
          go_wp2_with fail
          refine hK.out _ _ hL9 ?_
          clear hK K
          try simp only [Act.put, List.setIfInBounds_toArray, List.set_cons_zero, List.set_cons_succ]
          refine carry_run2 (i := 11) (fuel := 1) hlenR hns (by as_aux_lemma => (unfold IsOps at hR; subst hR; kernel_rfl)) (hR.at rfl) rfl (fun K hK => ?_)
          go_simp
          refine (same_msg d yc yr zc' zr' w9 (hys.go hFT.old (SameOn.refl _ _)) (hgs.go (Sub.old hbw9.size) (SameOn.old hbw9)) (HS.out.2.1 d (List.mem_of_getElem? hd))).mono ?_
          rintro E w10 ⟨rfl, hB10⟩
          go_wp2_with fail
          have hL10 : RT TB (t3 (.slice a2 len cap2) c l) b (off + (I + q) * 5) [.string d.role, .string d.text, .string d.ref, zc', zr'] w10 := ⟨hL9.1.step hB10, range_step hL9.2 hB10⟩
          have hAr10 := hAr9.below hB10
          have hms10 := hms9.go (Sub.refl _) (SameOn.old (hB10.mono hA9)) (Sub.refl _) (SameOn.old (hB10.mono hA9))
          have hA10 := Nat.le_trans hA9 hB10.size
          have hbw10 := hbw9.trans (hB10.mono hbw9.size)
          clear hL9 hAr9 hms9 hA9 hbw9 hB10 hys hFT
          refine hK.out _ _ hL10 ?_
          clear hK K
          try simp only [Act.put, List.setIfInBounds_toArray, List.set_cons_zero, List.set_cons_succ]
          refine takes_run2 [(12, .bool false)] (fuel := 0) (d' := [12, 11, 4, 10, 9, 8, 7, 6, 5, 3, 2, 1, 0]) (by as_aux_lemma => kernel_rfl) hns (by as_aux_lemma => (unfold IsOps at hR; subst hR; kernel_rfl)) rfl (fun _ _ _ _ _ h => h) hL10 (fun K hK => ?_)
          refine RunsThen.cons (hR.at rfl) (by intro wx hSw; go_simp <;> rfl) ?_
          try simp only [Act.put, List.setIfInBounds_toArray, List.set_cons_zero, List.set_cons_succ]
          refine RunsThen.nil (hK.out _ ?_)
          clear hK K
          refine done_run hlenR (by as_aux_lemma => kernel_rfl) ?_
          clear hR hns hlenR R
          go_wp2_with fail
          go_roundw
          case rel => exact ⟨q + 1, by omega, by go_num, by rw [Nat.succ_mul]; exact hAr10, hL10.1, hms10, hbw10, hA10⟩
          case measure => simp [intOf]; omega
        · have hi2 : ¬ (q : Int) < (m : Int) := by omega
          go_wp2_with fail
          go_ret
          exact ⟨rfl, hbw⟩
end Go.Proofs.Qxb6618675a
