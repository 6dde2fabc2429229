/-
  THE WALK of At.
-/
import Derived.Test.Qxb6618675aClone
namespace Go.Proofs.Qxb6618675a
open Go.RowKit
set_option linter.unusedSimpArgs false
set_option linter.unusedVariables false

theorem own_shape {w w' : World} {A0 e size n : Nat} {v : Value} {xs : List Value} (h : w.ownsRow A0 e size v n xs) (hs : ∀ (b : Nat) (cs : Array Value) (t : TypeId), w.heap[b]? = some (.cells cs t (0, 0)) → ∃ cs', w'.heap[b]? = some (.cells cs' t (0, 0)) ∧ cs'.size = cs.size) : ∃ ys, w'.ownsRow A0 e size v n ys := by
  obtain ⟨h1, ⟨rfl, rfl⟩ | ⟨g, cap, cur, rfl, q1, q2, q3, q4, q5, q6⟩⟩ := h
  · exact ⟨[], by simp, .inl ⟨rfl, rfl⟩⟩
  · obtain ⟨cs', e1, e2⟩ := hs g cur e q2
    refine ⟨cs'.toList.take (n * size), ?_, .inr ⟨g, cap, cs', rfl, q1, e1, q3, q4, e2.trans q5, rfl⟩⟩
    simp; rw [e2, q5]; exact Nat.min_eq_left (Nat.mul_le_mul_right size q3)
/-- Whatever keeps the arena's block and every block's type and size keeps the arena. -/
theorem ArOk.shape {A0 P K : Nat} {st sm : Int} {w w' : World} (h : ArOk A0 P st sm K w) (hs : ∀ (b : Nat) (cs : Array Value) (t : TypeId), w.heap[b]? = some (.cells cs t (0, 0)) → ∃ cs', w'.heap[b]? = some (.cells cs' t (0, 0)) ∧ cs'.size = cs.size) (hP' : w'.heap[P]? = w.heap[P]?) : ArOk A0 P st sm K w' := by
  obtain ⟨v1, v2, v3, v4, n1, n2, n3, n4, xs1, xs2, xs3, xs4, hP, ⟨r1, k1⟩, ⟨r2, k2⟩, ⟨r3, k3⟩, ⟨r4, k4⟩⟩ := h
  obtain ⟨y1, s1⟩ := own_shape r1 hs
  obtain ⟨y2, s2⟩ := own_shape r2 hs
  obtain ⟨y3, s3⟩ := own_shape r3 hs
  obtain ⟨y4, s4⟩ := own_shape r4 hs
  exact ⟨v1, v2, v3, v4, n1, n2, n3, n4, y1, y2, y3, y4, hP'.trans hP, ⟨s1, k1⟩, ⟨s2, k2⟩, ⟨s3, k3⟩, ⟨s4, k4⟩⟩
theorem shape_setRow {w : World} {g : Nat} {C old : Array Value} {T : TypeId} (hg : w.heap[g]? = some (.cells old T (0, 0))) (hz : C.size = old.size) (b : Nat) (cs : Array Value) (t : TypeId) (h : w.heap[b]? = some (.cells cs t (0, 0))) : ∃ cs', (w.setRow g C).heap[b]? = some (.cells cs' t (0, 0)) ∧ cs'.size = cs.size := by
  by_cases e : b = g
  · subst e
    rw [hg] at h
    simp at h
    obtain ⟨rfl, rfl⟩ := h
    exact ⟨C, setRow_heap w b _ C T _ hg, hz⟩
  · refine ⟨cs, ?_, rfl⟩
    simp only [World.setRow, Array.getElem?_modify]
    rw [if_neg (Ne.symm e)]; exact h
theorem block_setRow {w : World} {g b : Nat} {C : Array Value} (h : b ≠ g) : (w.setRow g C).heap[b]? = w.heap[b]? := by
  simp only [World.setRow, Array.getElem?_modify]
  rw [if_neg (Ne.symm h)]
theorem Small.one {ds : List MsgD} {d : MsgD} (h : Small ds) (hd : d ∈ ds) : Small [d] := by
  obtain ⟨h1, h2, h3, h4, h5⟩ := h
  have e : ∀ f : MsgD → Nat, sumN f [d] = f d := fun f => by simp [sumN]
  refine ⟨by simp, fun x hx => ?_, ?_, ?_, ?_⟩
  · simp at hx; subst hx; exact h2 x hd
  · rw [e]; have := sumN_one (f := callsN) hd; omega
  · rw [e]; have := sumN_one (f := resN) hd; omega
  · rw [e]; have := sumN_one (f := argsN) hd; omega
def t3 (v : Value) (c l : Nat) : Array Value := #[v, .pointer (some ⟨c, 0, none⟩), .pointer (some ⟨l, 0, none⟩)]
def AtPost (A0 c : Nat) (sm : Int) (K : Nat) (d : MsgD) (w : World) (E : Ending) (w' : World) : Prop :=
  ∃ vc vr F, E = .returned (.agg (m5 d vc vr)) ∧ MsgSl w' F vc vr d ∧ FT A0 F w' ∧ ArOk A0 c 0 sm (K + 1048576) w' ∧ Fr A0 c w w'
/-- At's own box. -/
def SB (v : Value) (c l B : Nat) (wx : World) : Prop := wx.heap[B]? = some (.cells (t3 v c l) 28 (0, 0))
theorem one_slice {w : World} {A0 b off cap i : Nat} {ds : List MsgD} {d : MsgD} (hat : MsgsAt w (Old A0) (Old A0) b off ds) (hd : ds[i]? = some d) (hc : ds.length ≤ cap) : IsMsgs w (Old A0) (Old A0) (.slice (some ⟨b, off + i * 5, none⟩) 1 (cap - i)) [d] := by
  have hi := (List.getElem?_eq_some_iff.1 hd).1
  refine ⟨some ⟨b, off + i * 5, none⟩, cap - i, rfl, .inr ⟨b, off + i * 5, rfl, fun j d' hj => ?_⟩, (fun h => by cases h), by simp; omega⟩
  match j, hj with
  | 0, hj => simp at hj; subst hj; rw [Nat.zero_mul, Nat.add_zero]; exact hat i d hd
  | j + 1, hj => simp at hj

theorem cur_range {w : World} {g x : Nat} {d : MsgD} {vc vr : Value} (h : Cur w g x d vc vr) : w.rangeAt g x [.string d.role, .string d.text, .string d.ref, vc, vr] := by
  obtain ⟨h0, h1, h2, h3, h4⟩ := h
  intro j v hj
  match j, hj with
  | 0, hj => simp at hj; rw [← hj]; exact h0
  | 1, hj => simp at hj; rw [← hj]; exact h1
  | 2, hj => simp at hj; rw [← hj]; exact h2
  | 3, hj => simp at hj; rw [← hj]; exact h3
  | 4, hj => simp at hj; rw [← hj]; exact h4
  | j + 5, hj => simp at hj
theorem m5_one {w : World} {U : Foot} {d : MsgD} {vc vr : Value} (h : MsgSl w U vc vr d) : (m5 d vc vr).all (·.oneCell') = true := by
  have h1 := h.1.one
  have h2 := h.2.one
  simp [m5, h1, h2]
  exact ⟨rfl, rfl, rfl⟩
set_option maxRecDepth 100000 in
set_option maxHeartbeats 8000000 in
theorem at_msg (A0 c l K : Nat) (sm : Int) (v : Value) (ds : List MsgD) (i : Nat) (d : MsgD) (w : World) (hAr : ArOk A0 c 0 sm K w) (hA : A0 ≤ w.heap.size) (hcA : A0 ≤ c) (hK : K ≤ 549755813888) (hm : IsMsgs w (Old A0) (Old A0) v ds) (hsm : Small ds) (hd : ds[i]? = some d) :
    Calls Try.prog 10 #[.agg (t3 v c l), .int .i64 i] w (AtPost A0 c sm K d w) := by
  have hi := (List.getElem?_eq_some_iff.1 hd).1
  have hsm1 := hidden (hsm.one (List.mem_of_getElem? hd))
  obtain ⟨a, cap, rfl, hds, _, hcap⟩ := hm
  obtain ⟨b, off, rfl, hat⟩ : ∃ b off, a = some ⟨b, off, none⟩ ∧ MsgsAt w (Old A0) (Old A0) b off ds := hds.resolve_left (fun h => by rw [h] at hi; simp at hi)
  have hn := hsm.1
  obtain ⟨n, hlen⟩ : ∃ n, ds.length = n := ⟨_, rfl⟩
  rw [hlen] at hi hcap hn ⊢
  clear hsm hds
  go_enter Try.func10, Try.ntmps10
  go_upto_region 1 with fail
  have hL : Bx2 (t3 (.slice (some ⟨b, off, none⟩) n cap) c l) 28 z35 35 w _ := Bx2.start
  unfold z35 at hL
  generalize World.alloc _ _ = w2 at hL ⊢
  have hb2 := hL.2.2
  have hcl := hAr.cell.2.2.2
  have hAr2 := (hAr.below hb2).below (Below.refl _ w2).drew
  have hF2 : Fr A0 c w w2.drew := (Fr.of_below hb2 hA).drew
  have hB1 : w2.drew.heap[w.heap.size + 1]? = some (.cells z35 35 (0, 0)) := hL.2.1
  have hS : SB (.slice (some ⟨b, off, none⟩) n cap) c l w.heap.size w2.drew := hL.1
  have hA2 : A0 ≤ w2.drew.heap.size := Nat.le_trans hA hb2.size
  have hone : IsMsgs w2.drew (Old A0) (Old A0) (.slice (some ⟨b, off + i * 5, none⟩) 1 (cap - i)) [d] := (one_slice hat hd (by omega)).go (Sub.refl _) (SameOn.old hF2.below) (Sub.refl _) (SameOn.old hF2.below)
  refine region_named (S := SB (.slice (some ⟨b, off, none⟩) n cap) c l w.heap.size) (n := 12) (by as_aux_lemma => kernel_rfl) (by as_aux_lemma => kernel_rfl) hS (fun R hR => ?_)
  clear hL hb2
  generalize w2.drew = wd at hS hAr2 hF2 hB1 hA2 hone ⊢
  have hns : ssa2 R = true := by as_aux_lemma => (unfold IsOps at hR; subst hR; kernel_rfl)
  have hlenR : R.length = 12 := by as_aux_lemma => (unfold IsOps at hR; subst hR; kernel_rfl)
  have hcS : ∀ (wx : World) (k : Nat), SB (.slice (some ⟨b, off, none⟩) n cap) c l w.heap.size wx → wx.cell? ⟨w.heap.size, k, none⟩ = (t3 (.slice (some ⟨b, off, none⟩) n cap) c l)[k]? := fun wx k h => cell_of_row wx _ k _ 28 _ h
  have e0 : (t3 (.slice (some ⟨b, off, none⟩) n cap) c l)[0]? = some (.slice (some ⟨b, off, none⟩) n cap) := rfl
  have e1 : (t3 (.slice (some ⟨b, off, none⟩) n cap) c l)[1]? = some (.pointer (some ⟨c, 0, none⟩)) := rfl
  have hsub1 : i + 1 - i = 1 := by omega
  have hwr : IntKind.i64.wrap ((i : Int) + 1) = i + 1 := IntWalk.i64_in _ (by omega)
  have hcc : (0 : Int) ≤ i + 1 ∧ (i : Int) + 1 ≤ cap := by omega
  have hci : ¬ cap = i := by omega
  refine takes_run2 [(0, .pointer (some ⟨w.heap.size, 1, none⟩)), (1, .pointer (some ⟨c, 0, none⟩)), (2, .pointer (some ⟨w.heap.size, 0, none⟩)), (3, .slice (some ⟨b, off, none⟩) n cap), (4, .int .i64 i), (5, .int .i64 i), (6, .int .i64 (i + 1)), (7, .slice (some ⟨b, off + i * 5, none⟩) 1 (cap - i))] (fuel := 4) (d' := [7, 6, 5, 4, 3, 2, 1, 0]) (by as_aux_lemma => kernel_rfl) hns (by as_aux_lemma => (unfold IsOps at hR; subst hR; kernel_rfl)) rfl (fun _ _ _ _ _ h => h) hS (fun K' hK' => ?_)
  refine RunsThen.cons (hR.at rfl) (by intro wx hSw; go_simp <;> rfl) ?_
  try simp only [Act.put, List.setIfInBounds_toArray, List.set_cons_zero, List.set_cons_succ]
  refine RunsThen.cons (hR.at rfl) (by intro wx hSw; go_simp <;> rfl) ?_
  try simp only [Act.put, List.setIfInBounds_toArray, List.set_cons_zero, List.set_cons_succ]
  refine RunsThen.cons (hR.at rfl) (by intro wx hSw; go_simp <;> rfl) ?_
  try simp only [Act.put, List.setIfInBounds_toArray, List.set_cons_zero, List.set_cons_succ]
  refine RunsThen.cons (hR.at rfl) (by intro wx hSw; go_simp <;> rfl) ?_
  try simp only [Act.put, List.setIfInBounds_toArray, List.set_cons_zero, List.set_cons_succ]
  refine RunsThen.cons (hR.at rfl) (by intro wx hSw; go_simp <;> rfl) ?_
  try simp only [Act.put, List.setIfInBounds_toArray, List.set_cons_zero, List.set_cons_succ]
  refine RunsThen.cons (hR.at rfl) (by intro wx hSw; go_simp <;> rfl) ?_
  try simp only [Act.put, List.setIfInBounds_toArray, List.set_cons_zero, List.set_cons_succ]
  refine RunsThen.cons (hR.at rfl) (by intro wx hSw; go_simp <;> rfl) ?_
  try simp only [Act.put, List.setIfInBounds_toArray, List.set_cons_zero, List.set_cons_succ]
  refine RunsThen.cons (hR.at rfl) (by intro wx hSw; go_simp <;> rfl) ?_
  try simp only [Act.put, List.setIfInBounds_toArray, List.set_cons_zero, List.set_cons_succ]
  refine RunsThen.nil (hK'.out _ ?_)
  clear hK' K' hcS e0 e1
  refine carry_run2 (i := 8) (fuel := 3) hlenR hns (by as_aux_lemma => (unfold IsOps at hR; subst hR; kernel_rfl)) (hR.at rfl) rfl (fun K' hK' => ?_)
  go_simp
  refine (clone_msgs A0 c K sm _ [d] wd hAr2 hA2 hcA hK hone hsm1.out).mono ?_
  rintro E w3 ⟨a3, rc3, F, g1, o1, rfl, ha3, hm3, hAr3, hF3, hFT3⟩
  obtain ⟨rfl, hg1A, D, hD⟩ := ha3 (by simp)
  obtain ⟨vc, vr, hcur, hms⟩ := (hm3 0 d rfl).cur
  rw [Nat.zero_mul, Nat.add_zero] at hcur
  have hS3 : SB (.slice (some ⟨b, off, none⟩) n cap) c l w.heap.size w3 := hF3.other _ _ _ _ hS (by omega) (by decide) (by decide) (by decide) (by decide)
  obtain ⟨old, hB3, hold⟩ := hF3.shape _ _ _ hB1
  go_wp2_with fail
  refine hK'.out _ _ hS3 ?_
  clear hK' K'
  try simp only [Act.put, List.setIfInBounds_toArray, List.set_cons_zero, List.set_cons_succ]
  refine takes_run2 [(9, .pointer (some ⟨g1, o1, none⟩))] (fuel := 2) (d' := [9, 8, 7, 6, 5, 4, 3, 2, 1, 0]) (by as_aux_lemma => kernel_rfl) hns (by as_aux_lemma => (unfold IsOps at hR; subst hR; kernel_rfl)) rfl (fun _ _ _ _ _ h => h) hS3 (fun K' hK' => ?_)
  refine RunsThen.cons (hR.at rfl) (by intro wx hSw; go_simp <;> rfl) ?_
  try simp only [Act.put, List.setIfInBounds_toArray, List.set_cons_zero, List.set_cons_succ]
  refine RunsThen.nil (hK'.out _ ?_)
  clear hK' K'
  refine carry_run2 (i := 10) (fuel := 1) hlenR hns (by as_aux_lemma => (unfold IsOps at hR; subst hR; kernel_rfl)) (hR.at rfl) rfl (fun K' hK' => ?_)
  refine wp_load_mid 35 (.tmp 14) rfl g1 o1 rfl [.string d.role, .string d.text, .string d.ref, vc, vr] _ (cur_range hcur) Try.underlying35 rfl i35 ?_
  refine hK'.out _ _ hS3 ?_
  clear hK' K'
  try simp only [Act.put, List.setIfInBounds_toArray, List.set_cons_zero, List.set_cons_succ]
  refine carry_run2 (i := 11) (fuel := 0) hlenR hns (by as_aux_lemma => (unfold IsOps at hR; subst hR; kernel_rfl)) (hR.at rfl) rfl (fun K' hK' => ?_)
  refine wp_store_row 35 (.tmp 4) (.tmp 15) rfl (w.heap.size + 1) (m5 d vc vr) rfl rfl 35 old hB3 i35 hold (m5_one hms) ?_
  refine hK'.out _ _ ((block_setRow (by omega)).trans hS3) ?_
  clear hK' K'
  try simp only [Act.put, List.setIfInBounds_toArray, List.set_cons_zero, List.set_cons_succ]
  refine done_run hlenR (by as_aux_lemma => kernel_rfl) ?_
  clear hR hns hlenR R
  go_wp2_with fail
  have hBr : (w3.setRow (w.heap.size + 1) (m5 d vc vr)).heap[w.heap.size + 1]? = some (.cells (m5 d vc vr) 35 (0, 0)) := setRow_heap w3 _ _ _ 35 _ hB3
  have hFne : ∀ b o, F b o → b ≠ w.heap.size + 1 := fun b o h e => by obtain ⟨_, cs, t, hh, ht⟩ := hFT3 b o h; rw [e, hB3] at hh; simp at hh; obtain ⟨_, rfl⟩ := hh; simp at ht
  refine bodyPost_ret (v := .agg (m5 d vc vr)) ?_ rfl ⟨vc, vr, F, rfl, hms.go (Sub.refl _) (fun b o h => World.cell?_of_block (w := w3) (a := ⟨b, o, none⟩) (block_setRow (hFne b o h))), fun b o h => ?_, ?_, (hF2.trans hF3).trans ⟨below_setRow (Below.refl _ _) _ (by omega) _, fun b cs t fr hb _ h1 _ _ _ => ?_, shape_setRow hB3 hold.symm⟩⟩
  · exact results_cell_row rfl _ _ (w.heap.size + 1) 35 (m5 d vc vr) (0, 0) _ rfl hBr rfl rfl i35
  · obtain ⟨h1, cs, t, hh, ht⟩ := hFT3 b o h
    exact ⟨h1, cs, t, (block_setRow (hFne b o h)).trans hh, ht⟩
  · exact hAr3.shape (shape_setRow hB3 hold.symm) (block_setRow (by omega))
  · exact (block_setRow (fun e => by rw [e, hB3] at hb; simp at hb; exact h1 hb.2.1.symm)).trans hb
end Go.Proofs.Qxb6618675a
