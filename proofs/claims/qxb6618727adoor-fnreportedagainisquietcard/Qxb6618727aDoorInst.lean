/-
  THE WALKS of fb1Inst and fb1Report.
-/
import Derived.Test.Qxb6618727aDoorMake
import Derived.Laws.Tables
namespace Go.Proofs.Qxb6618727aDoor
open Go.RowKit
set_option linter.unusedSimpArgs false

/-- The boxed argument in the call's first block, the result's variable in its second, all else above. -/
def St (C : Array Value) (T : TypeId) (n : Nat) (T2 : TypeId) (w wx : World) : Prop :=
  Bx C T w wx ∧ (∃ Z : Array Value, Z.size = n ∧ wx.heap[w.heap.size + 1]? = some (.cells Z T2 (0, 0))) ∧ Below w.heap.size w wx
section
variable {C : Array Value} {T : TypeId} {n : Nat} {T2 : TypeId} {w wx : World}
theorem St.start (C Z : Array Value) (T T2 : TypeId) (w : World) : St C T Z.size T2 w ((w.alloc (.cells C T)).alloc (.cells Z T2)).drew :=
  ⟨(Bx.start C T w _).drew, ⟨Z, rfl, by
    have := heap_alloc_new (w.alloc (.cells C T)) (.cells Z T2)
    rwa [show (w.alloc (.cells C T)).heap.size = w.heap.size + 1 from Array.size_push ..] at this⟩,
    (((Below.refl _ w).alloc (Nat.le_refl _) _).alloc (by show _ ≤ (w.heap.push _).size; rw [Array.size_push]; exact Nat.le_succ _) _).drew⟩
theorem St.step {wy : World} (h : St C T n T2 w wx) (hb : Below wx.heap.size wx wy) : St C T n T2 w wy := by
  obtain ⟨h1, ⟨Z, h2, h3⟩, h4⟩ := h
  exact ⟨(hb.block _ (lt_of_block h1)).trans h1, ⟨Z, h2, (hb.block _ (lt_of_block h3)).trans h3⟩, h4.trans (hb.mono h4.size)⟩
theorem St.cell (h : St C T n T2 w wx) (i : Nat) : wx.cell? ⟨w.heap.size, i, none⟩ = C[i]? := h.1.cell i
theorem below_setRow {B : Nat} {a wx : World} (h : Below B a wx) (g : Nat) (hg : B ≤ g) (cs : Array Value) : Below B a (wx.setRow g cs) :=
  ⟨h.os, h.tape, h.output, by rw [size_setRow]; exact h.size, fun k hk => by
    have : (wx.setRow g cs).heap[k]? = wx.heap[k]? := by
      simp only [World.setRow, Array.getElem?_modify]; rw [if_neg (by omega)]
    rw [this]; exact h.block k hk⟩
theorem St.row (h : St C T n T2 w wx) (cs : Array Value) (hn : cs.size = n) : St C T n T2 w (wx.setRow (w.heap.size + 1) cs) ∧ (wx.setRow (w.heap.size + 1) cs).heap[w.heap.size + 1]? = some (.cells cs T2 (0, 0)) := by
  obtain ⟨h1, ⟨Z, h2, h3⟩, h4⟩ := h
  have hr := setRow_heap wx (w.heap.size + 1) Z cs T2 _ h3
  exact ⟨⟨((below_setRow (Below.refl (w.heap.size + 1) wx) (w.heap.size + 1) (Nat.le_refl _) cs).block _ (Nat.lt_succ_self _)).trans h1, ⟨cs, hn, hr⟩, below_setRow h4 _ (Nat.le_succ _) cs⟩, hr⟩
end
theorem region_st {P : Program} {Q : Exit → Act → World → Prop} {S : World → Prop} {id n : Nat} {ops : List Oper} {a : Act} {w : World} (hm : P.follows .mixedOrders = true) (hn : ops.length = n) (hS : S w.drew)
    (h : ∀ l wx, IsOps l ops → S wx → wpAnyH P .any l.toArray Q S n (marks n []) a wx) : (Code.region id ops.toArray true).wp P Q a w :=
  region_named hm hn hS fun l hl => h l _ hl hS
theorem at_below (ns : Int) (w : World) (h : -9223372036854775808 ≤ ns ∧ ns ≤ 9223372036854775807) : Calls Tryd.prog 20 #[.int .i64 ns] w fun e w' => e = .returned (.agg #[.int .u64 (tN ns), .int .i64 (tS ns), .pointer none]) ∧ Below w.heap.size w w' := by
  refine (at_grow ns w h).mono ?_
  rintro e w' ⟨rfl, os, rfl⟩
  exact ⟨rfl, below_grow w os 0⟩
theorem exit_below (c : Int) (g : ByteArray) (o : Bool) (ns : Int) (w : World) (h : -9223372036854775808 ≤ ns ∧ ns ≤ 9223372036854775807) : Calls Tryd.prog 19 #[.agg #[.int .i64 c, .string g, .bool o, .int .i64 ns]] w fun e w' =>
    e = .returned (.agg #[.int .i64 c, .string g, .bool o, .int .u64 (tN ns), .int .i64 (tS ns), .pointer none]) ∧ Below w.heap.size w w' := by
  refine (exit_grow c g o ns w h).mono ?_
  rintro e w' ⟨rfl, os, rfl⟩
  exact ⟨rfl, (below_grow w os 0).drew⟩
-- GEN
set_option maxRecDepth 100000 in
set_option maxHeartbeats 4000000 in
theorem inst_any (j : Fin) (w : World) (h0 : I64 j.la) (h1 : I64 j.sn) (h2 : I64 j.fn) : Calls Tryd.prog 10 #[.agg j.arr] w fun e w' =>
    e = .returned (.agg j.ins.arr) ∧ Below w.heap.size w w' := by
  obtain ⟨a0, a1, a2, a3, a4, a5, a6, a7, a8, a9, a10, a11, a12, a13, a14, a15, a16⟩ := j.facts
  have hcell : ∀ (wx : World) (i : Nat), St j.arr 27 23 48 w wx → wx.cell? ⟨w.heap.size, i, none⟩ = j.arr[i]? := fun wx i h => h.cell i
  have i48 : (Tryd.prog.info? 48).map (·.size) = some 23 := by as_aux_lemma => kernel_rfl
  go_enter Tryd.func10, Tryd.ntmps10
  go_wp2_with fail
  refine region_st (S := St j.arr 27 23 48 w) (n := 35) (by as_aux_lemma => kernel_rfl) (by as_aux_lemma => kernel_rfl) (St.start _ _ _ _ _) (fun R wx hR hS => ?_)
  have hns : ssa R = true := by as_aux_lemma => (unfold IsOps at hR; subst hR; kernel_rfl)
  have hlen : R.length = 35 := by as_aux_lemma => (unfold IsOps at hR; subst hR; kernel_rfl)
  refine takes_run [(0, .pointer (some ⟨w.heap.size, 0, none⟩)), (1, .string j.nm), (2, .pointer (some ⟨w.heap.size, 1, none⟩)), (3, .string j.ho), (4, .pointer (some ⟨w.heap.size, 2, none⟩)), (5, .slice j.cma j.cml j.cmc), (6, .pointer (some ⟨w.heap.size, 3, none⟩)), (7, .int .i64 j.cp), (8, .pointer (some ⟨w.heap.size, 4, none⟩)), (9, .int .u64 j.me), (10, .agg #[.string j.nm, .string j.ho, .slice j.cma j.cml j.cmc, .int .i64 j.cp, .int .u64 j.me]), (11, .pointer (some ⟨w.heap.size, 5, none⟩)), (12, .string j.de), (13, .pointer (some ⟨w.heap.size, 6, none⟩)), (14, .string j.cu), (15, .pointer (some ⟨w.heap.size, 7, none⟩)), (16, .int .i64 j.pi), (17, .pointer (some ⟨w.heap.size, 8, none⟩)), (18, .int .i64 j.re), (19, .pointer (some ⟨w.heap.size, 9, none⟩)), (20, .agg #[.int .i64 j.lc, .string j.lg, .bool j.lo, .int .i64 j.la]), (22, .pointer (some ⟨w.heap.size, 13, none⟩)), (23, .string j.rs), (25, .pointer (some ⟨w.heap.size, 14, none⟩)), (26, .int .u64 j.id), (27, .pointer (some ⟨w.heap.size, 15, none⟩)), (28, .int .i64 j.sn), (30, .pointer (some ⟨w.heap.size, 16, none⟩)), (31, .int .i64 j.fn)] (fuel := 6) (d' := [31, 30, 28, 27, 26, 25, 23, 22, 20, 19, 18, 17, 16, 15, 14, 13, 12, 11, 10, 9, 8, 7, 6, 5, 4, 3, 2, 1, 0]) (by as_aux_lemma => kernel_rfl) hns (by as_aux_lemma => (unfold IsOps at hR; subst hR; kernel_rfl)) rfl (fun _ _ _ _ _ h => h) hS (fun K hK => ?_)
  refine RunsThen.cons (hR.at rfl) (by intro wx hSw; go_simp <;> rfl) ?_
  try simp only [Act.put, List.setIfInBounds_toArray, List.set_cons_zero, List.set_cons_succ]
  refine RunsThen.cons (hR.at rfl) (by intro wx hSw; go_simp <;> rfl) ?_
  try simp only [Act.put, List.setIfInBounds_toArray, List.set_cons_zero, List.set_cons_succ]
  refine RunsThen.cons (hR.at rfl) (by intro wx hSw; go_simp <;> rfl) ?_
  try simp only [Act.put, List.setIfInBounds_toArray, List.set_cons_zero, List.set_cons_succ]
  refine RunsThen.cons (hR.at rfl) (by intro wx hSw; go_simp <;> rfl) ?_
  try simp only [Act.put, List.setIfInBounds_toArray, List.set_cons_zero, List.set_cons_succ]
  refine RunsThen.cons (hR.at rfl) (by intro wx hSw; go_simp <;> rfl) ?_
  try simp only [Act.put, List.setIfInBounds_toArray, List.set_cons_zero, List.set_cons_succ]
  refine RunsThen.cons (hR.at rfl) (by intro wx hSw; go_simp <;> rfl) ?_
  try simp only [Act.put, List.setIfInBounds_toArray, List.set_cons_zero, List.set_cons_succ]
  refine RunsThen.cons (hR.at rfl) (by intro wx hSw; go_simp <;> rfl) ?_
  try simp only [Act.put, List.setIfInBounds_toArray, List.set_cons_zero, List.set_cons_succ]
  refine RunsThen.cons (hR.at rfl) (by intro wx hSw; go_simp <;> rfl) ?_
  try simp only [Act.put, List.setIfInBounds_toArray, List.set_cons_zero, List.set_cons_succ]
  refine RunsThen.cons (hR.at rfl) (by intro wx hSw; go_simp <;> rfl) ?_
  try simp only [Act.put, List.setIfInBounds_toArray, List.set_cons_zero, List.set_cons_succ]
  refine RunsThen.cons (hR.at rfl) (by intro wx hSw; go_simp <;> rfl) ?_
  try simp only [Act.put, List.setIfInBounds_toArray, List.set_cons_zero, List.set_cons_succ]
  refine RunsThen.cons (hR.at rfl) (by intro wx hSw; go_simp <;> rfl) ?_
  try simp only [Act.put, List.setIfInBounds_toArray, List.set_cons_zero, List.set_cons_succ]
  refine RunsThen.cons (hR.at rfl) (by intro wx hSw; go_simp <;> rfl) ?_
  try simp only [Act.put, List.setIfInBounds_toArray, List.set_cons_zero, List.set_cons_succ]
  refine RunsThen.cons (hR.at rfl) (by intro wx hSw; go_simp <;> rfl) ?_
  try simp only [Act.put, List.setIfInBounds_toArray, List.set_cons_zero, List.set_cons_succ]
  refine RunsThen.cons (hR.at rfl) (by intro wx hSw; go_simp <;> rfl) ?_
  try simp only [Act.put, List.setIfInBounds_toArray, List.set_cons_zero, List.set_cons_succ]
  refine RunsThen.cons (hR.at rfl) (by intro wx hSw; go_simp <;> rfl) ?_
  try simp only [Act.put, List.setIfInBounds_toArray, List.set_cons_zero, List.set_cons_succ]
  refine RunsThen.cons (hR.at rfl) (by intro wx hSw; go_simp <;> rfl) ?_
  try simp only [Act.put, List.setIfInBounds_toArray, List.set_cons_zero, List.set_cons_succ]
  refine RunsThen.cons (hR.at rfl) (by intro wx hSw; go_simp <;> rfl) ?_
  try simp only [Act.put, List.setIfInBounds_toArray, List.set_cons_zero, List.set_cons_succ]
  refine RunsThen.cons (hR.at rfl) (by intro wx hSw; go_simp <;> rfl) ?_
  try simp only [Act.put, List.setIfInBounds_toArray, List.set_cons_zero, List.set_cons_succ]
  refine RunsThen.cons (hR.at rfl) (by intro wx hSw; go_simp <;> rfl) ?_
  try simp only [Act.put, List.setIfInBounds_toArray, List.set_cons_zero, List.set_cons_succ]
  refine RunsThen.cons (hR.at rfl) (by intro wx hSw; go_simp <;> rfl) ?_
  try simp only [Act.put, List.setIfInBounds_toArray, List.set_cons_zero, List.set_cons_succ]
  refine RunsThen.cons (hR.at rfl) (by intro wx hSw; go_simp <;> rfl) ?_
  try simp only [Act.put, List.setIfInBounds_toArray, List.set_cons_zero, List.set_cons_succ]
  refine RunsThen.cons (hR.at rfl) (by intro wx hSw; go_simp <;> rfl) ?_
  try simp only [Act.put, List.setIfInBounds_toArray, List.set_cons_zero, List.set_cons_succ]
  refine RunsThen.cons (hR.at rfl) (by intro wx hSw; go_simp <;> rfl) ?_
  try simp only [Act.put, List.setIfInBounds_toArray, List.set_cons_zero, List.set_cons_succ]
  refine RunsThen.cons (hR.at rfl) (by intro wx hSw; go_simp <;> rfl) ?_
  try simp only [Act.put, List.setIfInBounds_toArray, List.set_cons_zero, List.set_cons_succ]
  refine RunsThen.cons (hR.at rfl) (by intro wx hSw; go_simp <;> rfl) ?_
  try simp only [Act.put, List.setIfInBounds_toArray, List.set_cons_zero, List.set_cons_succ]
  refine RunsThen.cons (hR.at rfl) (by intro wx hSw; go_simp <;> rfl) ?_
  try simp only [Act.put, List.setIfInBounds_toArray, List.set_cons_zero, List.set_cons_succ]
  refine RunsThen.cons (hR.at rfl) (by intro wx hSw; go_simp <;> rfl) ?_
  try simp only [Act.put, List.setIfInBounds_toArray, List.set_cons_zero, List.set_cons_succ]
  refine RunsThen.cons (hR.at rfl) (by intro wx hSw; go_simp <;> rfl) ?_
  try simp only [Act.put, List.setIfInBounds_toArray, List.set_cons_zero, List.set_cons_succ]
  refine RunsThen.cons (hR.at rfl) (by intro wx hSw; go_simp <;> rfl) ?_
  try simp only [Act.put, List.setIfInBounds_toArray, List.set_cons_zero, List.set_cons_succ]
  refine RunsThen.nil (hK.out _ ?_)
  clear hK K
  refine carry_run (i := 21) (fuel := 5) hlen hns (by as_aux_lemma => (unfold IsOps at hR; subst hR; kernel_rfl)) (hR.at rfl) rfl (fun K hK => ?_)
  go_simp
  refine (exit_below _ _ _ _ _ h0).mono ?_
  rintro e w' ⟨rfl, hB⟩
  go_wp2_with fail
  refine hK.out _ _ (hS.step hB) ?_
  clear hK K
  replace hS := hS.step hB
  clear hB
  try simp only [Act.put, List.setIfInBounds_toArray, List.set_cons_zero, List.set_cons_succ]
  refine takes_run [(24, .agg #[.string j.nm, .string j.ho, .slice j.cma j.cml j.cmc, .int .i64 j.cp, .int .u64 j.me, .string j.de, .string j.cu, .int .i64 j.pi, .int .i64 j.re, .int .i64 j.lc, .string j.lg, .bool j.lo, .int .u64 (tN j.la), .int .i64 (tS j.la), .pointer none, .string j.rs])] (fuel := 4) (d' := [24, 21, 31, 30, 28, 27, 26, 25, 23, 22, 20, 19, 18, 17, 16, 15, 14, 13, 12, 11, 10, 9, 8, 7, 6, 5, 4, 3, 2, 1, 0]) (by as_aux_lemma => kernel_rfl) hns (by as_aux_lemma => (unfold IsOps at hR; subst hR; kernel_rfl)) rfl (fun _ _ _ _ _ h => h) hS (fun K hK => ?_)
  refine RunsThen.cons (hR.at rfl) (by intro wx hSw; go_simp <;> rfl) ?_
  try simp only [Act.put, List.setIfInBounds_toArray, List.set_cons_zero, List.set_cons_succ]
  refine RunsThen.nil (hK.out _ ?_)
  clear hK K
  refine carry_run (i := 29) (fuel := 3) hlen hns (by as_aux_lemma => (unfold IsOps at hR; subst hR; kernel_rfl)) (hR.at rfl) rfl (fun K hK => ?_)
  go_simp
  refine (at_below _ _ h1).mono ?_
  rintro e w' ⟨rfl, hB⟩
  go_wp2_with fail
  refine hK.out _ _ (hS.step hB) ?_
  clear hK K
  replace hS := hS.step hB
  clear hB
  try simp only [Act.put, List.setIfInBounds_toArray, List.set_cons_zero, List.set_cons_succ]
  refine carry_run (i := 32) (fuel := 2) hlen hns (by as_aux_lemma => (unfold IsOps at hR; subst hR; kernel_rfl)) (hR.at rfl) rfl (fun K hK => ?_)
  go_simp
  refine (at_below _ _ h2).mono ?_
  rintro e w' ⟨rfl, hB⟩
  go_wp2_with fail
  refine hK.out _ _ (hS.step hB) ?_
  clear hK K
  replace hS := hS.step hB
  clear hB
  try simp only [Act.put, List.setIfInBounds_toArray, List.set_cons_zero, List.set_cons_succ]
  refine takes_run [(33, .agg j.ins.arr)] (fuel := 1) (d' := [33, 32, 29, 24, 21, 31, 30, 28, 27, 26, 25, 23, 22, 20, 19, 18, 17, 16, 15, 14, 13, 12, 11, 10, 9, 8, 7, 6, 5, 4, 3, 2, 1, 0]) (by as_aux_lemma => kernel_rfl) hns (by as_aux_lemma => (unfold IsOps at hR; subst hR; kernel_rfl)) rfl (fun _ _ _ _ _ h => h) hS (fun K hK => ?_)
  refine RunsThen.cons (hR.at rfl) (by intro wx hSw; go_simp <;> rfl) ?_
  try simp only [Act.put, List.setIfInBounds_toArray, List.set_cons_zero, List.set_cons_succ]
  refine RunsThen.nil (hK.out _ ?_)
  clear hK K
  refine carry_run (i := 34) (fuel := 0) hlen hns (by as_aux_lemma => (unfold IsOps at hR; subst hR; kernel_rfl)) (hR.at rfl) rfl (fun K hK => ?_)
  obtain ⟨hS', hrow⟩ := hS.row j.ins.arr rfl
  obtain ⟨_, ⟨Z, hZ, hold⟩, _⟩ := hS
  refine wp_store_row _ _ _ rfl _ j.ins.arr rfl rfl _ Z hold (by as_aux_lemma => kernel_rfl) hZ (by as_aux_lemma => kernel_rfl) ?_
  refine hK.out _ _ hS' ?_
  clear hK K
  try simp only [Act.put, List.setIfInBounds_toArray, List.set_cons_zero, List.set_cons_succ]
  refine done_run hlen (by as_aux_lemma => kernel_rfl) ?_
  go_wp2_with fail
  refine bodyPost_ret (v := .agg j.ins.arr) ?_ rfl ⟨rfl, hS'.2.2⟩
  exact results_cell_row rfl _ _ (w.heap.size + 1) 48 j.ins.arr (0, 0) _ rfl hrow rfl rfl i48
end Go.Proofs.Qxb6618727aDoor
