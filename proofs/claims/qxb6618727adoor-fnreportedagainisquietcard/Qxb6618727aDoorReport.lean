/-
  THE WALK of fb1Report.
-/
import Derived.Test.Qxb6618727aDoorExits
namespace Go.Proofs.Qxb6618727aDoor
open Go.RowKit
set_option linter.unusedSimpArgs false

theorem IsFEs.up {w : World} {N M : Nat} {a : Option Addr} {len : Nat} (h : IsFEs w N a len) (hM : N ≤ M) : IsFEs w M a len := by
  obtain ⟨h1, h2⟩ := h
  refine ⟨h1, h2.elim .inl ?_⟩
  rintro ⟨b, off, e, hN, hc⟩
  exact .inr ⟨b, off, e, Nat.lt_of_lt_of_le hN hM, hc⟩
theorem IsEs.up {w : World} {N M : Nat} {a : Option Addr} {len : Nat} (h : IsEs w N a len) (hM : N ≤ M) : IsEs w M a len := by
  obtain ⟨h1, h2⟩ := h
  refine ⟨h1, h2.elim .inl ?_⟩
  rintro ⟨b, D, e, hN, hc⟩
  exact .inr ⟨b, D, e, Nat.lt_of_lt_of_le hN hM, hc⟩

theorem IsEs.setRow {wx : World} {N : Nat} {a : Option Addr} {len g : Nat} {Z cs : Array Value} {T : TypeId} (h : IsEs wx N a len) (hg : wx.heap[g]? = some (.cells Z T (0, 0))) (hT : T ≠ 44) : IsEs (wx.setRow g cs) N a len := by
  obtain ⟨h1, h2⟩ := h
  refine ⟨h1, h2.elim .inl ?_⟩
  rintro ⟨b, D, e, hN, hc, hgd⟩
  refine .inr ⟨b, D, e, hN, ?_, hgd⟩
  have hne : g ≠ b := fun he => by
    subst he
    rw [hg] at hc
    simp at hc
    exact hT hc.2
  simp only [World.setRow, Array.getElem?_modify]
  rw [if_neg hne]
  exact hc

/-- The fleet's report, field by field; its cells. -/
structure Rep where
  rn : ByteArray
  ri : Int
  rc : ByteArray
  rp : Int
  rr : Int
  yc : Int
  yg : ByteArray
  yo : Bool
  yw : Int
  ye : Int
  ena : Option Addr
  enl : Nat
  enc : Nat
  rz : ByteArray
  gw : Int
  ge : Int
def Rep.arr (r : Rep) : Array Value := #[.string r.rn, .int .u64 r.ri, .string r.rc, .int .i64 r.rp, .int .i64 r.rr, .int .i64 r.yc, .string r.yg, .bool r.yo, .int .u64 r.yw, .int .i64 r.ye, .pointer none, .slice r.ena r.enl r.enc, .string r.rz, .int .u64 r.gw, .int .i64 r.ge, .pointer none]
theorem Rep.facts (r : Rep) : r.arr[0]? = some (.string r.rn) ∧ r.arr[1]? = some (.int .u64 r.ri) ∧ r.arr[2]? = some (.string r.rc) ∧ r.arr[3]? = some (.int .i64 r.rp) ∧ r.arr[4]? = some (.int .i64 r.rr) ∧ r.arr[5]? = some (.int .i64 r.yc) ∧ r.arr[6]? = some (.string r.yg) ∧ r.arr[7]? = some (.bool r.yo) ∧ r.arr[8]? = some (.int .u64 r.yw) ∧ r.arr[9]? = some (.int .i64 r.ye) ∧ r.arr[10]? = some (.pointer none) ∧ r.arr[11]? = some (.slice r.ena r.enl r.enc) ∧ r.arr[12]? = some (.string r.rz) ∧ r.arr[13]? = some (.int .u64 r.gw) ∧ r.arr[14]? = some (.int .i64 r.ge) ∧ r.arr[15]? = some (.pointer none) := ⟨rfl, rfl, rfl, rfl, rfl, rfl, rfl, rfl, rfl, rfl, rfl, rfl, rfl, rfl, rfl, rfl⟩
/-- The law's report, field by field; its cells; the fleet's report that is made of it. -/
structure Frep where
  rn : ByteArray
  ri : Int
  rc : ByteArray
  rp : Int
  rr : Int
  lc : Int
  lg : ByteArray
  lo : Bool
  la : Int
  ena : Option Addr
  enl : Nat
  enc : Nat
  rz : ByteArray
  fn : Int
def Frep.arr (q : Frep) : Array Value := #[.string q.rn, .int .u64 q.ri, .string q.rc, .int .i64 q.rp, .int .i64 q.rr, .int .i64 q.lc, .string q.lg, .bool q.lo, .int .i64 q.la, .slice q.ena q.enl q.enc, .string q.rz, .int .i64 q.fn]
theorem Frep.facts (q : Frep) : q.arr[0]? = some (.string q.rn) ∧ q.arr[1]? = some (.int .u64 q.ri) ∧ q.arr[2]? = some (.string q.rc) ∧ q.arr[3]? = some (.int .i64 q.rp) ∧ q.arr[4]? = some (.int .i64 q.rr) ∧ q.arr[5]? = some (.int .i64 q.lc) ∧ q.arr[6]? = some (.string q.lg) ∧ q.arr[7]? = some (.bool q.lo) ∧ q.arr[8]? = some (.int .i64 q.la) ∧ q.arr[9]? = some (.slice q.ena q.enl q.enc) ∧ q.arr[10]? = some (.string q.rz) ∧ q.arr[11]? = some (.int .i64 q.fn) := ⟨rfl, rfl, rfl, rfl, rfl, rfl, rfl, rfl, rfl, rfl, rfl, rfl⟩
def Frep.rep (q : Frep) (es : Option Addr) (ec : Nat) : Rep := { rn := q.rn, ri := q.ri, rc := q.rc, rp := q.rp, rr := q.rr, yc := q.lc, yg := q.lg, yo := q.lo, yw := tN q.la, ye := tS q.la, ena := es, enl := q.enl, enc := ec, rz := q.rz, gw := tN q.fn, ge := tS q.fn }

/-- What fb1Report leaves: the report, its ends a row of exits of its own. -/
def RepPost (q : Frep) (w : World) (e : Ending) (w' : World) : Prop := ∃ es ec, e = .returned (.agg (q.rep es ec).arr) ∧ IsEs w' w'.heap.size es q.enl ∧ Below w.heap.size w w'

set_option maxRecDepth 100000 in
set_option maxHeartbeats 4000000 in
theorem report_any (q : Frep) (w : World) (h0 : I64 q.la) (h1 : I64 q.fn) (h3 : IsFEs w w.heap.size q.ena q.enl) : Calls Tryd.prog 11 #[.agg q.arr] w (RepPost q w) := by
  obtain ⟨a0, a1, a2, a3, a4, a5, a6, a7, a8, a9, a10, a11⟩ := q.facts
  have hcell : ∀ (wx : World) (i : Nat), St q.arr 30 16 55 w wx → wx.cell? ⟨w.heap.size, i, none⟩ = q.arr[i]? := fun wx i h => h.cell i
  have i55 : (Tryd.prog.info? 55).map (·.size) = some 16 := by as_aux_lemma => kernel_rfl
  go_enter Tryd.func11, Tryd.ntmps11
  go_wp2_with fail
  refine region_st (S := St q.arr 30 16 55 w) (n := 23) (by as_aux_lemma => kernel_rfl) (by as_aux_lemma => kernel_rfl) (St.start _ _ _ _ _) (fun R wx hR hS => ?_)
  have hns : ssa R = true := by as_aux_lemma => (unfold IsOps at hR; subst hR; kernel_rfl)
  have hlen : R.length = 23 := by as_aux_lemma => (unfold IsOps at hR; subst hR; kernel_rfl)
  refine takes_run [(0, .pointer (some ⟨w.heap.size, 0, none⟩)), (1, .string q.rn), (2, .pointer (some ⟨w.heap.size, 1, none⟩)), (3, .int .u64 q.ri), (4, .pointer (some ⟨w.heap.size, 2, none⟩)), (5, .string q.rc), (6, .pointer (some ⟨w.heap.size, 3, none⟩)), (7, .int .i64 q.rp), (8, .pointer (some ⟨w.heap.size, 4, none⟩)), (9, .int .i64 q.rr), (10, .pointer (some ⟨w.heap.size, 5, none⟩)), (11, .agg #[.int .i64 q.lc, .string q.lg, .bool q.lo, .int .i64 q.la]), (13, .pointer (some ⟨w.heap.size, 9, none⟩)), (14, .slice q.ena q.enl q.enc), (16, .pointer (some ⟨w.heap.size, 10, none⟩)), (17, .string q.rz), (18, .pointer (some ⟨w.heap.size, 11, none⟩)), (19, .int .i64 q.fn)] (fuel := 5) (d' := [19, 18, 17, 16, 14, 13, 11, 10, 9, 8, 7, 6, 5, 4, 3, 2, 1, 0]) (by as_aux_lemma => kernel_rfl) hns (by as_aux_lemma => (unfold IsOps at hR; subst hR; kernel_rfl)) rfl (fun _ _ _ _ _ h => h) hS (fun K hK => ?_)
  refine RunsThen.cons (hR.at rfl) (by intro wx hSw; go_simp <;> rfl) ?_
  try simp only [Act.put, List.setIfInBounds_toArray, List.set_cons_zero, List.set_cons_succ]
  refine RunsThen.cons (hR.at rfl) (by intro wx hSw; go_simp <;> rfl) ?_
  try simp only [Act.put, List.setIfInBounds_toArray, List.set_cons_zero, List.set_cons_succ]
  refine RunsThen.cons (hR.at rfl) (by intro wx hSw; go_simp <;> rfl) ?_
  try simp only [Act.put, List.setIfInBounds_toArray, List.set_cons_zero, List.set_cons_succ]
  refine RunsThen.cons (hR.at rfl) (by intro wx hSw; go_simp <;> rfl) ?_
  try simp only [Act.put, List.setIfInBounds_toArray, List.set_cons_zero, List.set_cons_succ]
  refine RunsThen.cons (hR.at rfl) (by intro wx hSw; go_simp <;> rfl) ?_
  try simp only [Act.put, List.setIfInBounds_toArray, List.set_cons_zero, List.set_cons_succ]
  refine RunsThen.cons (hR.at rfl) (by intro wx hSw; go_simp <;> rfl) ?_
  try simp only [Act.put, List.setIfInBounds_toArray, List.set_cons_zero, List.set_cons_succ]
  refine RunsThen.cons (hR.at rfl) (by intro wx hSw; go_simp <;> rfl) ?_
  try simp only [Act.put, List.setIfInBounds_toArray, List.set_cons_zero, List.set_cons_succ]
  refine RunsThen.cons (hR.at rfl) (by intro wx hSw; go_simp <;> rfl) ?_
  try simp only [Act.put, List.setIfInBounds_toArray, List.set_cons_zero, List.set_cons_succ]
  refine RunsThen.cons (hR.at rfl) (by intro wx hSw; go_simp <;> rfl) ?_
  try simp only [Act.put, List.setIfInBounds_toArray, List.set_cons_zero, List.set_cons_succ]
  refine RunsThen.cons (hR.at rfl) (by intro wx hSw; go_simp <;> rfl) ?_
  try simp only [Act.put, List.setIfInBounds_toArray, List.set_cons_zero, List.set_cons_succ]
  refine RunsThen.cons (hR.at rfl) (by intro wx hSw; go_simp <;> rfl) ?_
  try simp only [Act.put, List.setIfInBounds_toArray, List.set_cons_zero, List.set_cons_succ]
  refine RunsThen.cons (hR.at rfl) (by intro wx hSw; go_simp <;> rfl) ?_
  try simp only [Act.put, List.setIfInBounds_toArray, List.set_cons_zero, List.set_cons_succ]
  refine RunsThen.cons (hR.at rfl) (by intro wx hSw; go_simp <;> rfl) ?_
  try simp only [Act.put, List.setIfInBounds_toArray, List.set_cons_zero, List.set_cons_succ]
  refine RunsThen.cons (hR.at rfl) (by intro wx hSw; go_simp <;> rfl) ?_
  try simp only [Act.put, List.setIfInBounds_toArray, List.set_cons_zero, List.set_cons_succ]
  refine RunsThen.cons (hR.at rfl) (by intro wx hSw; go_simp <;> rfl) ?_
  try simp only [Act.put, List.setIfInBounds_toArray, List.set_cons_zero, List.set_cons_succ]
  refine RunsThen.cons (hR.at rfl) (by intro wx hSw; go_simp <;> rfl) ?_
  try simp only [Act.put, List.setIfInBounds_toArray, List.set_cons_zero, List.set_cons_succ]
  refine RunsThen.cons (hR.at rfl) (by intro wx hSw; go_simp <;> rfl) ?_
  try simp only [Act.put, List.setIfInBounds_toArray, List.set_cons_zero, List.set_cons_succ]
  refine RunsThen.cons (hR.at rfl) (by intro wx hSw; go_simp <;> rfl) ?_
  try simp only [Act.put, List.setIfInBounds_toArray, List.set_cons_zero, List.set_cons_succ]
  refine RunsThen.nil (hK.out _ ?_)
  clear hK K
  refine carry_run (i := 12) (fuel := 4) hlen hns (by as_aux_lemma => (unfold IsOps at hR; subst hR; kernel_rfl)) (hR.at rfl) rfl (fun K hK => ?_)
  go_simp
  refine (exit_below _ _ _ _ _ h0).mono ?_
  rintro e w' ⟨rfl, hB⟩
  go_wp2_with fail
  refine hK.out _ _ (hS.step hB) ?_
  clear hK K
  replace hS := hS.step hB
  clear hB
  try simp only [Act.put, List.setIfInBounds_toArray, List.set_cons_zero, List.set_cons_succ]
  refine carry_run (i := 15) (fuel := 3) hlen hns (by as_aux_lemma => (unfold IsOps at hR; subst hR; kernel_rfl)) (hR.at rfl) rfl (fun K hK => ?_)
  go_simp
  refine (exits_any _ _ _ _ ((h3.below hS.2.2).up hS.2.2.size)).mono ?_
  rintro e w' ⟨es, ec, rfl, hes, hB⟩
  go_wp2_with fail
  refine hK.out _ _ (hS.step hB) ?_
  clear hK K
  replace hS := hS.step hB
  clear hB
  try simp only [Act.put, List.setIfInBounds_toArray, List.set_cons_zero, List.set_cons_succ]
  refine carry_run (i := 20) (fuel := 2) hlen hns (by as_aux_lemma => (unfold IsOps at hR; subst hR; kernel_rfl)) (hR.at rfl) rfl (fun K hK => ?_)
  go_simp
  refine (at_below _ _ h1).mono ?_
  rintro e w' ⟨rfl, hB⟩
  go_wp2_with fail
  refine hK.out _ _ (hS.step hB) ?_
  clear hK K
  replace hS := hS.step hB
  replace hes := (hes.below hB).up hB.size
  clear hB
  try simp only [Act.put, List.setIfInBounds_toArray, List.set_cons_zero, List.set_cons_succ]
  refine takes_run [(21, .agg (q.rep es ec).arr)] (fuel := 1) (d' := [21, 20, 15, 12, 19, 18, 17, 16, 14, 13, 11, 10, 9, 8, 7, 6, 5, 4, 3, 2, 1, 0]) (by as_aux_lemma => kernel_rfl) hns (by as_aux_lemma => (unfold IsOps at hR; subst hR; kernel_rfl)) rfl (fun _ _ _ _ _ h => h) hS (fun K hK => ?_)
  refine RunsThen.cons (hR.at rfl) (by intro wx hSw; go_simp <;> rfl) ?_
  try simp only [Act.put, List.setIfInBounds_toArray, List.set_cons_zero, List.set_cons_succ]
  refine RunsThen.nil (hK.out _ ?_)
  clear hK K
  refine carry_run (i := 22) (fuel := 0) hlen hns (by as_aux_lemma => (unfold IsOps at hR; subst hR; kernel_rfl)) (hR.at rfl) rfl (fun K hK => ?_)
  obtain ⟨hS', hrow⟩ := hS.row (q.rep es ec).arr rfl
  obtain ⟨_, ⟨Z, hZ, hold⟩, _⟩ := hS
  refine wp_store_row _ _ _ rfl _ (q.rep es ec).arr rfl rfl _ Z hold (by as_aux_lemma => kernel_rfl) hZ (by as_aux_lemma => kernel_rfl) ?_
  refine hK.out _ _ hS' ?_
  clear hK K
  try simp only [Act.put, List.setIfInBounds_toArray, List.set_cons_zero, List.set_cons_succ]
  refine done_run hlen (by as_aux_lemma => kernel_rfl) ?_
  go_wp2_with fail
  refine bodyPost_ret (v := .agg (q.rep es ec).arr) ?_ rfl ⟨es, ec, rfl, ?_, hS'.2.2⟩
  · exact results_cell_row rfl _ _ (w.heap.size + 1) 55 (q.rep es ec).arr (0, 0) _ rfl hrow rfl rfl i55
  · rw [size_setRow]; exact hes.setRow hold (by decide)
end Go.Proofs.Qxb6618727aDoor
