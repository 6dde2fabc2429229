/-
  THE WALK of the law FnTranscriptAtGivesOwnCopy.
-/
import Derived.Test.Qxb6618675aNew
import Derived.Test.Qxb6618675aBig
import Derived.Test.Qxb6618675aZz
namespace Go.Proofs.Qxb6618675a
open Go.RowKit
set_option linter.unusedSimpArgs false
set_option linter.unusedVariables false

/-- A row in memory. -/
def RowAt (X : Nat) (C : Array Value) (T : TypeId) (wx : World) : Prop := wx.heap[X]? = some (.cells C T (0, 0))
theorem RowAt.step {X : Nat} {C : Array Value} {T : TypeId} {w w' : World} (h : RowAt X C T w) (hb : Below w.heap.size w w') : RowAt X C T w' := (hb.block _ (lt_of_block h)).trans h
theorem t3_one (a : Option Addr) (n cap c l : Nat) : (t3 (.slice a n cap) c l).all (·.oneCell') = true := by simp [t3, Value.oneCell']
def z28 : Array Value := #[.slice none 0 0, .pointer none, .pointer none]
theorem FT.step {A0 : Nat} {F : Foot} {w w' : World} (h : FT A0 F w) (hb : Below w.heap.size w w') : FT A0 F w' := fun b o hF => by
  obtain ⟨h1, cs, t, h2, h3⟩ := h b o hF
  exact ⟨h1, cs, t, (hb.block _ (lt_of_block h2)).trans h2, h3⟩
theorem FT.old {A0 : Nat} {F : Foot} {w : World} (h : FT A0 F w) : Sub F (Old w.heap.size) := fun b o hF => by
  obtain ⟨h1, cs, t, h2, h3⟩ := h b o hF
  exact lt_of_block h2
theorem SameOn.step {A0 : Nat} {F : Foot} {w w' : World} (h : FT A0 F w) (hb : Below w.heap.size w w') : SameOn F w w' := fun b o hF => hb.cell (p := ⟨b, o, none⟩) (h.old b o hF)
/-- What the law was given, later. -/
theorem given_at {w wx : World} {a : Option Addr} {len cap k : Nat} {ds : List MsgD} {d : MsgD} (h : IsOld w (.slice a len cap) ds) (hb : Below w.heap.size w wx) (hd : ds[k]? = some d) :
    ∃ b off vc vr, a = some ⟨b, off, none⟩ ∧ wx.rangeAt b (off + k * 5) [.string d.role, .string d.text, .string d.ref, vc, vr] ∧ MsgSl wx (Old wx.heap.size) vc vr d := by
  obtain ⟨a', cap', e, hds, _, _⟩ := IsMsgs.now h hb
  cases e
  obtain ⟨b, off, rfl, hat⟩ := hds.resolve_left (fun e => by rw [e] at hd; simp at hd)
  obtain ⟨vc, vr, hc, hs⟩ := (hat k d hd).cur
  exact ⟨b, off, vc, vr, rfl, cur_range hc, hs⟩

set_option maxRecDepth 100000 in
set_option maxHeartbeats 8000000 in
theorem law_at (ds : List MsgD) (v : Value) (i : Int) (w : World) (h : IsOld w v ds) : Calls Try.prog 3 #[v, .int .i64 i] w (TrueB w) := by
  obtain ⟨a, cap, hv, _⟩ := id h
  obtain ⟨len, hlen⟩ : ∃ len, ds.length = len := ⟨_, rfl⟩
  rw [hlen] at hv
  subst hv
  have H0 := hidden h
  clear h
  have hzz := hidden (zz_at ds (.slice a len cap) i w H0.out)
  have hbig := hidden (too_big ds (.slice a len cap) w H0.out)
  by_cases hi : i < 0
  · go_enter Try.func3, Try.ntmps3
    go_wp2_with (first
      | (go_at_call 6; (with_reducible refine hzz.out.mono ?_); rintro E w' ⟨⟨zb, rfl⟩, rfl⟩)
      | (go_at_call 7; (with_reducible refine hbig.out.mono ?_); rintro E w1 ⟨zc, rfl, hsm, hB1⟩)
      | fail)
    all_goals go_ret
    all_goals first | exact ⟨rfl, Below.refl _ _⟩ | exact ⟨rfl, hB1⟩
  by_cases hi2 : (len : Int) ≤ i
  · go_enter Try.func3, Try.ntmps3
    go_wp2_with (first
      | (go_at_call 6; (with_reducible refine hzz.out.mono ?_); rintro E w' ⟨⟨zb, rfl⟩, rfl⟩)
      | (go_at_call 7; (with_reducible refine hbig.out.mono ?_); rintro E w1 ⟨zc, rfl, hsm, hB1⟩)
      | fail)
    all_goals go_ret
    all_goals first | exact ⟨rfl, Below.refl _ _⟩ | exact ⟨rfl, hB1⟩
  obtain ⟨k, rfl⟩ : ∃ k : Nat, i = k := ⟨i.toNat, by omega⟩
  obtain ⟨d, hd⟩ : ∃ d, ds[k]? = some d := ⟨_, List.getElem?_eq_getElem (by omega)⟩
  have HD := hidden hd
  clear hd
  go_enter Try.func3, Try.ntmps3
  go_upto_region 7 with (first
    | (go_at_call 6; (with_reducible refine hzz.out.mono ?_); rintro E w' ⟨⟨zb, rfl⟩, rfl⟩)
    | (go_at_call 7; (with_reducible refine hbig.out.mono ?_); rintro E w1 ⟨zc, rfl, hsm, hB1⟩)
    | fail)
  · go_ret
    exact ⟨rfl, Below.refl _ _⟩
  · go_ret
    exact ⟨rfl, hB1⟩
  have hsm' : Small ds := hsm (by assumption)
  have HS := hidden hsm'
  clear hsm hsm'
  have hto := hidden (to_msgs ds _ w1 (IsMsgs.now H0.out hB1) HS.out.1 HS.out.2.1)
  go_upto_region 9 with (first
    | (go_at_call 9; (with_reducible refine hto.out.mono ?_); rintro E w2 ⟨v2, rfl, hm2, hB2⟩; obtain ⟨a2, cap2, hv2, hds2⟩ := id hm2; rw [hlen] at hv2; subst hv2; have HM := hidden hm2; clear hm2 hds2)
    | (go_at_call 8; (with_reducible refine (new_transcript a2 len cap2 w2).mono ?_); rintro E w3 ⟨c, l, rfl, hc, hl, hcl, hc2, hl2, hB3⟩)
    | (refine wpList_store_row rfl 28 (.tmp 5) (.tmp 24) rfl w3.heap.size (t3 (.slice a2 len cap2) c l) rfl rfl 28 _ (heap_alloc_new w3 _) i28 rfl (t3_one _ _ _ _ _) ?_
       obtain ⟨hT, hBT⟩ := var_row w3 z28 (t3 (.slice a2 len cap2) c l) 28
       unfold z28 at hT hBT
       generalize World.setRow _ _ _ = w4 at hT hBT ⊢
       have hT2 : RowAt w3.heap.size (t3 (.slice a2 len cap2) c l) 28 w4 := hT
       have hc4 := (hBT.block _ (lt_of_block hc)).trans hc
       have hB23 := hB3.trans (hBT.mono hB3.size)
       have hAr := new_ar (A0 := w2.heap.size) hc4
       have hm4 : IsMsgs w4 (Old w2.heap.size) (Old w2.heap.size) (.slice a2 len cap2) ds := HM.out.go (Sub.refl _) (SameOn.old hB23) (Sub.refl _) (SameOn.old hB23))
    | (refine wpList_load_row rfl 28 (.tmp 5) rfl w3.heap.size rfl 28 (t3 (.slice a2 len cap2) c l) (0, 0) _ hT Try.underlying28 rfl i28 ?_)
    | (go_at_call 10; (refine (at_msg w2.heap.size c l 0 0 _ ds k d w4 hAr hB23.size hc2 (by omega) hm4 HS.out HD.out).mono ?_); rintro E w5 ⟨vc, vr, F, rfl, hms, hFT, hAr5, hFr⟩)
    | (refine wpList_store_row rfl 35 (.tmp 6) (.tmp 27) rfl w5.heap.size (m5 d vc vr) rfl rfl 35 _ (heap_alloc_new w5 _) i35 rfl (m5_one hms) ?_
       obtain ⟨hX, hBX⟩ := var_row w5 z35 (m5 d vc vr) 35
       unfold z35 at hX hBX
       generalize World.setRow _ _ _ = w6 at hX hBX ⊢)
    | fail)
  have hwB : Below w.heap.size w w2 := hB1.trans (hB2.mono hB1.size)
  have hbw : Below w.heap.size w w6 := ((hwB.trans (hB23.mono hwB.size)).trans (hFr.below.mono hwB.size)).trans (hBX.mono ((hwB.trans (hB23.mono hwB.size)).trans (hFr.below.mono hwB.size)).size)
  have hcT : c ≠ w3.heap.size := fun e => by have := lt_of_block hc; omega
  have hT6 : RowAt w3.heap.size (t3 (.slice a2 len cap2) c l) 28 w6 := RowAt.step (hFr.other _ _ _ _ hT (Ne.symm hcT) (by decide) (by decide) (by decide) (by decide)) hBX
  have hA5 : w2.heap.size ≤ w5.heap.size := Nat.le_trans hB23.size hFr.size
  have hAr6 := hAr5.below hBX
  have hF6 := hFr.below.trans (hBX.mono hA5)
  have hm6 : IsMsgs w6 (Old w2.heap.size) (Old w2.heap.size) (.slice a2 len cap2) ds := hm4.go (Sub.refl _) (SameOn.old hF6) (Sub.refl _) (SameOn.old hF6)
  have hms6 := hms.go (Sub.refl _) (SameOn.step hFT hBX)
  have hFT6 := hFT.step hBX
  have hA6 := Nat.le_trans hA5 hBX.size
  have hX6 : RowAt w5.heap.size (m5 d vc vr) 35 w6 := hX
  have hXA : w2.heap.size ≤ w5.heap.size := hA5
  clear hzz hbig hto hms hFT hAr hAr5 hFr hF6 hm4 hX hBX hT hT2 hc hl hB3 hBT hc4 hB23 hB1 hB2 hA5
  have hwA := hwB.size
  clear HM hwB
  generalize w5.heap.size = X at hX6 hXA ⊢
  generalize w3.heap.size = TB at hT6 hcT ⊢
  generalize w2.heap.size = A0 at *

  have hL := hX6.step (Below.refl _ _).drew
  replace hT6 := hT6.step (Below.refl _ _).drew
  replace hbw := hbw.drew
  replace hAr6 := hAr6.below (Below.refl _ _).drew
  replace hm6 := hm6.go (Sub.refl _) (SameOn.old (Below.refl _ _).drew) (Sub.refl _) (SameOn.old (Below.refl _ _).drew)
  replace hms6 := hms6.go (Sub.refl _) (SameOn.step hFT6 (Below.refl _ _).drew)
  replace hFT6 := hFT6.step (Below.refl _ _).drew
  replace hA6 := Nat.le_trans hA6 (Below.refl 0 _).drew.size
  clear hX6
  refine region_named (S := RowAt X (m5 d vc vr) 35) (n := 7) (by as_aux_lemma => kernel_rfl) (by as_aux_lemma => kernel_rfl) hL (fun R hR => ?_)
  generalize World.drew _ = wd at hL hT6 hbw hAr6 hm6 hms6 hFT6 hA6 ⊢
  have hns : ssa2 R = true := by as_aux_lemma => (unfold IsOps at hR; subst hR; kernel_rfl)
  have hlenR : R.length = 7 := by as_aux_lemma => (unfold IsOps at hR; subst hR; kernel_rfl)
  obtain ⟨b, off, zc', zr', hab, hrg, hgs⟩ := given_at H0.out hbw HD.out
  refine takes_run2 [(0, .agg (m5 d vc vr)), (1, .slice a len cap), (2, .int .i64 k), (3, .pointer (some ⟨b, off + k * 5, none⟩))] (fuel := 3) (d' := [3, 2, 1, 0]) (by as_aux_lemma => kernel_rfl) hns (by as_aux_lemma => (unfold IsOps at hR; subst hR; kernel_rfl)) rfl (fun _ _ _ _ _ h => h) hL (fun K hK => ?_)
  refine RunsThen.cons (hR.at rfl) (by intro wx hSw; exact exec_row 35 (.tmp 6) rfl X rfl 35 (m5 d vc vr) (0, 0) _ hSw Try.underlying35 rfl i35) ?_
  try simp only [Act.put, List.setIfInBounds_toArray, List.set_cons_zero, List.set_cons_succ]
  refine RunsThen.cons (hR.at rfl) (by intro wx hSw; go_simp <;> rfl) ?_
  try simp only [Act.put, List.setIfInBounds_toArray, List.set_cons_zero, List.set_cons_succ]
  refine RunsThen.cons (hR.at rfl) (by intro wx hSw; go_simp <;> rfl) ?_
  try simp only [Act.put, List.setIfInBounds_toArray, List.set_cons_zero, List.set_cons_succ]
  refine RunsThen.cons (hR.at rfl) (by intro wx hSw; rw [hab]; go_simp <;> rfl) ?_
  try simp only [Act.put, List.setIfInBounds_toArray, List.set_cons_zero, List.set_cons_succ]
  refine RunsThen.nil (hK.out _ ?_)
  clear hK K
  refine carry_run2 (i := 4) (fuel := 2) hlenR hns (by as_aux_lemma => (unfold IsOps at hR; subst hR; kernel_rfl)) (hR.at rfl) rfl (fun K hK => ?_)
  refine wp_load_mid 41 (.tmp 31) rfl b (off + k * 5) rfl [.string d.role, .string d.text, .string d.ref, zc', zr'] _ hrg Try.underlying41 rfl i41 ?_
  refine hK.out _ _ hL ?_
  clear hK K
  try simp only [Act.put, List.setIfInBounds_toArray, List.set_cons_zero, List.set_cons_succ]
  refine carry_run2 (i := 5) (fuel := 1) hlenR hns (by as_aux_lemma => (unfold IsOps at hR; subst hR; kernel_rfl)) (hR.at rfl) rfl (fun K hK => ?_)
  go_simp
  refine (same_msg d vc vr zc' zr' wd (hms6.go hFT6.old (SameOn.refl _ _)) hgs (HS.out.2.1 d (List.mem_of_getElem? HD.out))).mono ?_
  rintro E w7 ⟨rfl, hB7⟩
  go_wp2_with fail
  replace hL := hL.step hB7
  replace hT6 := hT6.step hB7
  replace hAr6 := hAr6.below hB7
  replace hm6 := hm6.go (Sub.refl _) (SameOn.old (hB7.mono hA6)) (Sub.refl _) (SameOn.old (hB7.mono hA6))
  replace hms6 := hms6.go (Sub.refl _) (SameOn.step hFT6 hB7)
  replace hFT6 := hFT6.step hB7
  replace hA6 := Nat.le_trans hA6 hB7.size
  replace hbw := hbw.trans (hB7.mono hbw.size)
  refine hK.out _ _ hL ?_
  clear hK K hB7 hgs hrg
  try simp only [Act.put, List.setIfInBounds_toArray, List.set_cons_zero, List.set_cons_succ]
  refine takes_run2 [(6, .bool false)] (fuel := 0) (d' := [6, 5, 4, 3, 2, 1, 0]) (by as_aux_lemma => kernel_rfl) hns (by as_aux_lemma => (unfold IsOps at hR; subst hR; kernel_rfl)) rfl (fun _ _ _ _ _ h => h) hL (fun K hK => ?_)
  refine RunsThen.cons (hR.at rfl) (by intro wx hSw; go_simp <;> rfl) ?_
  try simp only [Act.put, List.setIfInBounds_toArray, List.set_cons_zero, List.set_cons_succ]
  refine RunsThen.nil (hK.out _ ?_)
  clear hK K
  refine done_run hlenR (by as_aux_lemma => kernel_rfl) ?_
  clear hR hns hlenR R

  have hkin := MsgSl.kin hms6 hFT6 (HS.out.2.1 d (List.mem_of_getElem? HD.out))
  have hp3 : w7.cell? ⟨X, 0 + 3, none⟩ = some vc := (cell_of_row w7 X 3 _ 35 _ hL).trans rfl
  have hp4 : w7.cell? ⟨X, 0 + 4, none⟩ = some vr := (cell_of_row w7 X 4 _ 35 _ hL).trans rfl
  have hscr := hidden (scribble A0 1048576 X 0 vc vr w7 hp3 hp4 hkin.1 hkin.2 (by omega))
  clear hp3 hp4 hkin
  go_upto_region 13 with (first
    | (go_at_call 12; (with_reducible refine hscr.out.mono ?_); rintro E w8 ⟨rfl, hS8⟩
       have hT8 : RowAt TB (t3 (.slice a2 len cap2) c l) 28 w8 := hS8.other _ _ _ _ hT6 (by decide) (by decide) (by decide)
       have hTr : w8.heap[TB]? = some (.cells (t3 (.slice a2 len cap2) c l) 28 (0, 0)) := hT8
       obtain ⟨C, hC⟩ := hAr6.type
       have hAr8 := hAr6.shape hS8.shape ((hS8.other _ _ _ _ hC (by decide) (by decide) (by decide)).trans hC.symm)
       have hm8 := hm6.go (Sub.refl _) (SameOn.old hS8.below) (Sub.refl _) (SameOn.old hS8.below)
       have hA8 := Nat.le_trans hA6 hS8.below.size
       replace hbw := hbw.trans (hS8.below.mono hwA)
       clear hscr hS8 hC hT6 hAr6 hm6 hA6 hms6 hFT6 hL)
    | (refine wpList_load_row rfl 28 (.tmp 5) rfl TB rfl 28 (t3 (.slice a2 len cap2) c l) (0, 0) _ hTr Try.underlying28 rfl i28 ?_)
    | (go_at_call 10; (refine (at_msg A0 c l (0 + 1048576) 0 _ ds k d w8 hAr8 hA8 hc2 (by omega) hm8 HS.out HD.out).mono ?_); rintro E w9 ⟨yc, yr, G, rfl, hms, hFT, hAr9, hFr⟩)
    | (refine wpList_store_row rfl 35 (.tmp 7) (.tmp 38) rfl w9.heap.size (m5 d yc yr) rfl rfl 35 _ (heap_alloc_new w9 _) i35 rfl (m5_one hms) ?_
       obtain ⟨hX, hBX⟩ := var_row w9 z35 (m5 d yc yr) 35
       unfold z35 at hX hBX
       generalize World.setRow _ _ _ = w10 at hX hBX ⊢)
    | fail)
  have hA9 : A0 ≤ w9.heap.size := Nat.le_trans hA8 hFr.size
  replace hbw := hbw.trans (hFr.below.mono hwA)
  replace hbw := hbw.trans (hBX.mono hbw.size)
  have hT6 : RowAt TB (t3 (.slice a2 len cap2) c l) 28 w10 := RowAt.step (hFr.other _ _ _ _ hT8 (Ne.symm hcT) (by decide) (by decide) (by decide) (by decide)) hBX
  have hAr6 := hAr9.below hBX
  have hF6 := hFr.below.trans (hBX.mono hA9)
  have hm6 := hm8.go (Sub.refl _) (SameOn.old hF6) (Sub.refl _) (SameOn.old hF6)
  have hms6 := hms.go (Sub.refl _) (SameOn.step hFT hBX)
  have hFT6 := hFT.step hBX
  have hA6 := Nat.le_trans hA9 hBX.size
  have hX6 : RowAt w9.heap.size (m5 d yc yr) 35 w10 := hX
  clear hms hFT hAr8 hAr9 hFr hF6 hm8 hX hBX hT8 hTr hA8 hXA
  generalize w9.heap.size = Y at hX6 hA9 ⊢

  have hL := hX6.step (Below.refl _ _).drew
  replace hT6 := hT6.step (Below.refl _ _).drew
  replace hbw := hbw.drew
  replace hAr6 := hAr6.below (Below.refl _ _).drew
  replace hm6 := hm6.go (Sub.refl _) (SameOn.old (Below.refl _ _).drew) (Sub.refl _) (SameOn.old (Below.refl _ _).drew)
  replace hms6 := hms6.go (Sub.refl _) (SameOn.step hFT6 (Below.refl _ _).drew)
  replace hFT6 := hFT6.step (Below.refl _ _).drew
  replace hA6 := Nat.le_trans hA6 (Below.refl 0 _).drew.size
  clear hX6
  refine region_named (S := RowAt Y (m5 d yc yr) 35) (n := 7) (by as_aux_lemma => kernel_rfl) (by as_aux_lemma => kernel_rfl) hL (fun R hR => ?_)
  generalize World.drew _ = wd at hL hT6 hbw hAr6 hm6 hms6 hFT6 hA6 ⊢
  have hns : ssa2 R = true := by as_aux_lemma => (unfold IsOps at hR; subst hR; kernel_rfl)
  have hlenR : R.length = 7 := by as_aux_lemma => (unfold IsOps at hR; subst hR; kernel_rfl)
  obtain ⟨b, off, xc', xr', hab, hrg, hgs⟩ := given_at H0.out hbw HD.out
  refine takes_run2 [(0, .agg (m5 d yc yr)), (1, .slice a len cap), (2, .int .i64 k), (3, .pointer (some ⟨b, off + k * 5, none⟩))] (fuel := 3) (d' := [3, 2, 1, 0]) (by as_aux_lemma => kernel_rfl) hns (by as_aux_lemma => (unfold IsOps at hR; subst hR; kernel_rfl)) rfl (fun _ _ _ _ _ h => h) hL (fun K hK => ?_)
  refine RunsThen.cons (hR.at rfl) (by intro wx hSw; exact exec_row 35 (.tmp 7) rfl Y rfl 35 (m5 d yc yr) (0, 0) _ hSw Try.underlying35 rfl i35) ?_
  try simp only [Act.put, List.setIfInBounds_toArray, List.set_cons_zero, List.set_cons_succ]
  refine RunsThen.cons (hR.at rfl) (by intro wx hSw; go_simp <;> rfl) ?_
  try simp only [Act.put, List.setIfInBounds_toArray, List.set_cons_zero, List.set_cons_succ]
  refine RunsThen.cons (hR.at rfl) (by intro wx hSw; go_simp <;> rfl) ?_
  try simp only [Act.put, List.setIfInBounds_toArray, List.set_cons_zero, List.set_cons_succ]
  refine RunsThen.cons (hR.at rfl) (by intro wx hSw; rw [hab]; go_simp <;> rfl) ?_
  try simp only [Act.put, List.setIfInBounds_toArray, List.set_cons_zero, List.set_cons_succ]
  refine RunsThen.nil (hK.out _ ?_)
  clear hK K
  refine carry_run2 (i := 4) (fuel := 2) hlenR hns (by as_aux_lemma => (unfold IsOps at hR; subst hR; kernel_rfl)) (hR.at rfl) rfl (fun K hK => ?_)
  refine wp_load_mid 41 (.tmp 42) rfl b (off + k * 5) rfl [.string d.role, .string d.text, .string d.ref, xc', xr'] _ hrg Try.underlying41 rfl i41 ?_
  refine hK.out _ _ hL ?_
  clear hK K
  try simp only [Act.put, List.setIfInBounds_toArray, List.set_cons_zero, List.set_cons_succ]
  refine carry_run2 (i := 5) (fuel := 1) hlenR hns (by as_aux_lemma => (unfold IsOps at hR; subst hR; kernel_rfl)) (hR.at rfl) rfl (fun K hK => ?_)
  go_simp
  refine (same_msg d yc yr xc' xr' wd (hms6.go hFT6.old (SameOn.refl _ _)) hgs (HS.out.2.1 d (List.mem_of_getElem? HD.out))).mono ?_
  rintro E w7 ⟨rfl, hB7⟩
  go_wp2_with fail
  replace hL := hL.step hB7
  replace hT6 := hT6.step hB7
  replace hAr6 := hAr6.below hB7
  replace hm6 := hm6.go (Sub.refl _) (SameOn.old (hB7.mono hA6)) (Sub.refl _) (SameOn.old (hB7.mono hA6))
  replace hms6 := hms6.go (Sub.refl _) (SameOn.step hFT6 hB7)
  replace hFT6 := hFT6.step hB7
  replace hA6 := Nat.le_trans hA6 hB7.size
  replace hbw := hbw.trans (hB7.mono hbw.size)
  refine hK.out _ _ hL ?_
  clear hK K hB7 hgs hrg
  try simp only [Act.put, List.setIfInBounds_toArray, List.set_cons_zero, List.set_cons_succ]
  refine takes_run2 [(6, .bool true)] (fuel := 0) (d' := [6, 5, 4, 3, 2, 1, 0]) (by as_aux_lemma => kernel_rfl) hns (by as_aux_lemma => (unfold IsOps at hR; subst hR; kernel_rfl)) rfl (fun _ _ _ _ _ h => h) hL (fun K hK => ?_)
  refine RunsThen.cons (hR.at rfl) (by intro wx hSw; go_simp <;> rfl) ?_
  try simp only [Act.put, List.setIfInBounds_toArray, List.set_cons_zero, List.set_cons_succ]
  refine RunsThen.nil (hK.out _ ?_)
  clear hK K
  refine done_run hlenR (by as_aux_lemma => kernel_rfl) ?_
  clear hR hns hlenR R

  go_wp2_with fail
  go_ret
  exact ⟨rfl, hbw⟩
end Go.Proofs.Qxb6618675a
