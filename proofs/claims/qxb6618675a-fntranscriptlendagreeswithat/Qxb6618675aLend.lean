/-
  THE WALK of Lend.
-/
import Derived.Test.Qxb6618675aNew
namespace Go.Proofs.Qxb6618675a
open Go.RowKit
set_option linter.unusedSimpArgs false
set_option linter.unusedVariables false

/-- Where a part of a slice of messages lies. -/
def cutp (a : Option Addr) (cap i : Nat) : Option Addr := if cap = i then a else a.map (·.add (i * 5))
theorem run_cut (a : Option Addr) (n cap i j : Nat) (hij : i ≤ j) (hj : j ≤ cap) (wx : World) :
    (Instr.sliceAt 25 (.slice a n cap) (some (.int .i64 i)) (some (.int .i64 j)) none).run Try.prog wx = .ok (.slice (cutp a cap i) (j - i) (cap - i)) wx := by
  have h1 : (0 : Int) ≤ j ∧ (j : Int) ≤ cap := by omega
  have h2 : (0 : Int) ≤ i ∧ (i : Int) ≤ j := by omega
  obtain ⟨inf, hi, hz⟩ : ∃ x, Try.prog.info? 35 = some x ∧ x.size = 5 := by
    have := i35
    cases hq : Try.prog.info? 35 with
    | none => simp [hq] at this
    | some x => exact ⟨x, rfl, by simpa [hq] using this⟩
  simp [Instr.sliceAt, Instr.slice, Instr.sliceBounds, Instr.sliceBound, asIntOf, run_underlying Try.underlying25, h1, h2, hij, hj, sizeOf, typeInfo, hi, hz, cutp]
theorem exec_cut {P : Program} {o : Oper} {a : Act} {w : World} (t : TypeId) (x lo hi : Operand) (ho : o.op = .slice t x (some lo) (some hi) none) (xv lv hv v : Value) (hx : a.eval x = xv) (hl : a.eval lo = lv) (hh : a.eval hi = hv)
    (hs : (Instr.sliceAt t xv (some lv) (some hv) none).run P w = .ok v w) : (execOp a.eval o).run P w = .ok (.value v) w := by
  unfold execOp
  simp only [ho, hx, hl, hh, Option.map, Sem.run_bind, Sem.run_pure, Result.andThen_ok, hs]
theorem cut_msgs {w : World} {A0 n cap i j : Nat} {a : Option Addr} {ds : List MsgD} (h : IsMsgs w (Old A0) (Old A0) (.slice a n cap) ds) (hij : i ≤ j) (hj : j ≤ n) : IsMsgs w (Old A0) (Old A0) (.slice (cutp a cap i) (j - i) (cap - i)) ((ds.drop i).take (j - i)) := by
  obtain ⟨a', cap', e, hds, hnil, hcap⟩ := h
  simp only [Value.slice.injEq] at e
  obtain ⟨rfl, rfl, rfl⟩ := e
  have hl : ((ds.drop i).take (j - i)).length = j - i := by simp; omega
  refine ⟨cutp a cap i, cap - i, by rw [hl], ?_, fun h => ?_, by omega⟩
  · rcases Nat.eq_or_lt_of_le hij with rfl | hlt
    · exact .inl (List.eq_nil_of_length_eq_zero (by omega))
    · obtain ⟨b, off, rfl, hat⟩ := hds.resolve_left (fun e => by rw [e] at hj; simp at hj; omega)
      refine .inr ⟨b, off + i * 5, ?_, fun k d hk => ?_⟩
      · unfold cutp
        rw [if_neg (by omega)]
        simp [Addr.add]
      · have hk' : ds[i + k]? = some d := by
          rw [List.getElem?_take] at hk
          split at hk
          · rwa [List.getElem?_drop] at hk
          · cases hk
        have := hat (i + k) d hk'
        rwa [Nat.add_mul, ← Nat.add_assoc] at this
  · unfold cutp at h
    split at h
    · omega
    · cases a with
      | none => have := hnil rfl; omega
      | some x => cases h
theorem Small.part {ds : List MsgD} (h : Small ds) (i k : Nat) : Small ((ds.drop i).take k) := by
  obtain ⟨h1, h2, h3, h4, h5⟩ := h
  have hs : ∀ f : MsgD → Nat, sumN f ((ds.drop i).take k) ≤ sumN f ds := fun f => by
    have q1 := sumN_le f (ds.drop i) k
    have q2 : sumN f ds = sumN f (ds.take i) + sumN f (ds.drop i) := by
      unfold sumN
      rw [← List.sum_append, ← List.map_append, List.take_append_drop]
    omega
  refine ⟨by simp; omega, fun d hd => h2 d (List.mem_of_mem_drop (List.mem_of_mem_take hd)), ?_, ?_, ?_⟩
  · have := hs callsN; omega
  · have := hs resN; omega
  · have := hs argsN; omega

set_option maxRecDepth 100000 in
set_option maxHeartbeats 8000000 in
theorem lend_msgs (A0 c l K : Nat) (sm : Int) (v : Value) (ds : List MsgD) (i j : Nat) (w : World) (hAr : ArOk A0 l 0 sm K w) (hA : A0 ≤ w.heap.size) (hlA : A0 ≤ l) (hK : K ≤ 549755813888) (hm : IsMsgs w (Old A0) (Old A0) v ds) (hsm : Small ds) (hij : i ≤ j) (hj : j ≤ ds.length) :
    Calls Try.prog 14 #[.agg (t3 v c l), .int .i64 i, .int .i64 j] w (ClPost A0 l sm K ((ds.drop i).take (j - i)) w) := by
  obtain ⟨a, cap, hv, _, _, hcap⟩ := id hm
  obtain ⟨n, hlen⟩ : ∃ n, ds.length = n := ⟨_, rfl⟩
  rw [hlen] at hv hj hcap
  subst hv
  have hsm1 := hidden (hsm.part i (j - i))
  clear hsm
  go_enter Try.func14, Try.ntmps14
  go_upto_region 1 with fail
  have hL := heap_alloc_new w (.cells (t3 (.slice a n cap) c l) 28)
  have hb1 := (Below.refl _ w).alloc (Nat.le_refl _) (.cells (t3 (.slice a n cap) c l) 28)
  generalize World.alloc _ _ = w2 at hL hb1 ⊢
  have hcl := hAr.cell.2.2.2
  have hAr2 := (hAr.below hb1).below (Below.refl _ w2).drew
  have hF2 : Fr A0 l w w2.drew := (Fr.of_below hb1 hA).drew
  have hS : SB (.slice a n cap) c l w.heap.size w2.drew := hL
  have hA2 : A0 ≤ w2.drew.heap.size := Nat.le_trans hA hb1.size
  have hm2 := cut_msgs (hm.go (Sub.refl _) (SameOn.old hF2.below) (Sub.refl _) (SameOn.old hF2.below)) hij hj
  refine region_named (S := SB (.slice a n cap) c l w.heap.size) (n := 9) (by as_aux_lemma => kernel_rfl) (by as_aux_lemma => kernel_rfl) hS (fun R hR => ?_)
  clear hL hb1 hm
  generalize w2.drew = wd at hS hAr2 hF2 hA2 hm2 ⊢
  have hns : ssa2 R = true := by as_aux_lemma => (unfold IsOps at hR; subst hR; kernel_rfl)
  have hlenR : R.length = 9 := by as_aux_lemma => (unfold IsOps at hR; subst hR; kernel_rfl)
  have hcS : ∀ (wx : World) (k : Nat), SB (.slice a n cap) c l w.heap.size wx → wx.cell? ⟨w.heap.size, k, none⟩ = (t3 (.slice a n cap) c l)[k]? := fun wx k h => cell_of_row wx _ k _ 28 _ h
  have e0 : (t3 (.slice a n cap) c l)[0]? = some (.slice a n cap) := rfl
  have e1 : (t3 (.slice a n cap) c l)[2]? = some (.pointer (some ⟨l, 0, none⟩)) := rfl
  refine takes_run2 [(0, .pointer (some ⟨w.heap.size, 2, none⟩)), (1, .pointer (some ⟨l, 0, none⟩)), (2, .pointer (some ⟨w.heap.size, 0, none⟩)), (3, .slice a n cap), (4, .int .i64 i), (5, .int .i64 j), (6, .slice (cutp a cap i) (j - i) (cap - i))] (fuel := 2) (d' := [6, 5, 4, 3, 2, 1, 0]) (by as_aux_lemma => kernel_rfl) hns (by as_aux_lemma => (unfold IsOps at hR; subst hR; kernel_rfl)) rfl (fun _ _ _ _ _ h => h) hS (fun K' hK' => ?_)
  refine RunsThen.cons (hR.at rfl) (by intro wx hSw; go_simp <;> rfl) ?_
  try simp only [Act.put, List.setIfInBounds_toArray, List.set_cons_zero, List.set_cons_succ]
  refine RunsThen.cons (hR.at rfl) (by intro wx hSw; go_simp <;> rfl) ?_
  try simp only [Act.put, List.setIfInBounds_toArray, List.set_cons_zero, List.set_cons_succ]
  refine RunsThen.cons (hR.at rfl) (by intro wx hSw; go_simp <;> rfl) ?_
  try simp only [Act.put, List.setIfInBounds_toArray, List.set_cons_zero, List.set_cons_succ]
  refine RunsThen.cons (hR.at rfl) (by intro wx hSw; go_simp <;> rfl) ?_
  try simp only [Act.put, List.setIfInBounds_toArray, List.set_cons_zero, List.set_cons_succ]
  refine RunsThen.cons (hR.at rfl) (by intro wx hSw; go_simp <;> rfl) ?_
  try simp only [Act.put, List.setIfInBounds_toArray, List.set_cons_zero, List.set_cons_succ]
  refine RunsThen.cons (hR.at rfl) (by intro wx hSw; go_simp <;> rfl) ?_
  try simp only [Act.put, List.setIfInBounds_toArray, List.set_cons_zero, List.set_cons_succ]
  refine RunsThen.cons (hR.at rfl) (by intro wx hSw; exact exec_cut 25 (.tmp 10) (.tmp 11) (.tmp 12) rfl (.slice a n cap) (.int .i64 i) (.int .i64 j) _ rfl rfl rfl (run_cut a n cap i j hij (Nat.le_trans hj hcap) wx)) ?_
  try simp only [Act.put, List.setIfInBounds_toArray, List.set_cons_zero, List.set_cons_succ]
  refine RunsThen.nil (hK'.out _ ?_)
  clear hK' K' hcS e0 e1
  refine carry_run2 (i := 7) (fuel := 1) hlenR hns (by as_aux_lemma => (unfold IsOps at hR; subst hR; kernel_rfl)) (hR.at rfl) rfl (fun K' hK' => ?_)
  go_simp
  refine (clone_msgs A0 l K sm _ _ wd hAr2 hA2 hlA hK hm2 hsm1.out).mono ?_
  rintro E w3 ⟨a3, rc3, F, g1, o1, rfl, ha3, hm3, hAr3, hF3, hFT3⟩
  have hS3 : SB (.slice a n cap) c l w.heap.size w3 := hF3.other _ _ _ _ hS (by omega) (by decide) (by decide) (by decide) (by decide)
  go_wp2_with fail
  refine hK'.out _ _ hS3 ?_
  clear hK' K'
  try simp only [Act.put, List.setIfInBounds_toArray, List.set_cons_zero, List.set_cons_succ]
  refine takes_run2 [(8, .slice a3 ((ds.drop i).take (j - i)).length rc3)] (fuel := 0) (d' := [8, 7, 6, 5, 4, 3, 2, 1, 0]) (by as_aux_lemma => kernel_rfl) hns (by as_aux_lemma => (unfold IsOps at hR; subst hR; kernel_rfl)) rfl (fun _ _ _ _ _ h => h) hS3 (fun K' hK' => ?_)
  refine RunsThen.cons (hR.at rfl) (by intro wx hSw; go_simp <;> rfl) ?_
  try simp only [Act.put, List.setIfInBounds_toArray, List.set_cons_zero, List.set_cons_succ]
  refine RunsThen.nil (hK'.out _ ?_)
  clear hK' K'
  refine done_run hlenR (by as_aux_lemma => kernel_rfl) ?_
  clear hR hns hlenR R
  go_wp2_with fail
  go_ret
  exact ⟨a3, rc3, F, g1, o1, rfl, ha3, hm3, hAr3, hF2.trans hF3, hFT3⟩
end Go.Proofs.Qxb6618675a
