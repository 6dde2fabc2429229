/-
  THE WALK of the law.
-/
import Derived.Test.Qxb6618727aDoorZr
import Derived.Test.Qxb6618727aDoorZz
import Derived.BigFrame
namespace Go.Proofs.Qxb6618727aDoor
open Go.RowKit
set_option linter.unusedSimpArgs false

/-- Numbers i and k alone may come up. -/
def twoFrom (n : Nat) (d : List Nat) (i k : Nat) : Nat → List Oper → Bool
  | _, [] => true
  | j, o :: r => (d.contains j || (if Nat.beq j i || Nat.beq j k then freed o n d else !freed o n d)) && twoFrom n d i k (j + 1) r
theorem twoFrom_spec {n : Nat} {d : List Nat} {i k : Nat} : ∀ {l : List Oper} {m : Nat}, twoFrom n d i k m l = true → ∀ j o, l[j]? = some o → d.contains (m + j) = true ∨ (if Nat.beq (m + j) i || Nat.beq (m + j) k then freed o n d else !freed o n d) = true
  | [], _, _, _, _, h => by simp at h
  | z :: r, m, hc, j, y, h => by
    simp only [twoFrom, Bool.and_eq_true, Bool.or_eq_true] at hc
    cases j with
    | zero => simp only [List.getElem?_cons_zero, Option.some.injEq] at h; subst h; simpa using hc.1
    | succ j => simp only [List.getElem?_cons_succ] at h; have := twoFrom_spec hc.2 j y h; rwa [Nat.add_right_comm, Nat.add_assoc] at this

theorem carry_two {P : Program} {l : List Oper} {Q : Exit → Act → World → Prop} {S : World → Prop} {n i k fuel : Nat} {o p : Oper} {d : List Nat} {a : Act} {w : World} (hn : l.length = n) (hs : ssa2 l = true) (hr : twoFrom n d i k 0 l = true)
    (ho : l.toArray[i]? = some o) (hp : l.toArray[k]? = some p) (hd : d.contains i = false)
    (h1 : ∀ K' : Act → World → Prop, Shut (∀ a w, S w → wpAnyH P .any l.toArray Q S fuel (marks n (i :: d)) a w → K' a w) → Oper.wp P o a w K' Q)
    (h2 : ∀ K' : Act → World → Prop, Shut (∀ a w, S w → wpAnyH P .any l.toArray Q S fuel (marks n (k :: d)) a w → K' a w) → Oper.wp P p a w K' Q) :
    wpAnyH P .any l.toArray Q S (fuel + 1) (marks n d) a w := by
  have hol : l[i]? = some o := by simpa using ho
  have hpl : l[k]? = some p := by simpa using hp
  have hi : i < n := by rw [← hn]; exact (List.getElem?_eq_some_iff.1 hol).1
  have hfr : freed o n d = true := by
    have := twoFrom_spec hr i o hol
    rw [Nat.zero_add, hd] at this
    simpa using this
  have hin := ready_of ho hi hd hfr
  refine wpAnyH_ready rfl (fun h0 => by rw [h0] at hin; cases hin) fun j hj => ?_
  have hji : j = i ∨ j = k := by
    obtain ⟨_, oj, hoj, _⟩ := mem_ready.1 hj
    have hjl : l[j]? = some oj := by simpa using hoj
    obtain ⟨q1, q2⟩ := freed_of_ready hn hjl hj
    have := twoFrom_spec hr j oj hjl
    rw [Nat.zero_add, q1, q2] at this
    simpa using this
  have hw : Region.wanted o (yielded l.toArray a.tmps) = true := by simp [Region.wanted, ssa_guard2 hs hol]
  have hw2 : Region.wanted p (yielded l.toArray a.tmps) = true := by simp [Region.wanted, ssa_guard2 hs hpl]
  exact AllReadyH.cons ho (fun K' hK => by rw [if_pos hw]; exact h1 K' fun a w hS hW => hK.out a w hS (fun _ => hW))
    (AllReadyH.cons hp (fun K' hK => by rw [if_pos hw2]; exact h2 K' fun a w hS hW => hK.out a w hS (fun _ => hW)) AllReadyH.nil) j (by simpa using hji)

/-- The law's own blocks: its two boxed arguments. -/
def Ls (j : Fin) (q : Frep) (w wx : World) : Prop := wx.heap[w.heap.size]? = some (.cells j.arr 27 (0, 0)) ∧ wx.heap[w.heap.size + 1]? = some (.cells q.arr 30 (0, 0)) ∧ Below w.heap.size w wx
section
variable {j : Fin} {q : Frep} {w wx wy : World}
theorem Ls.start : Ls j q w ((w.alloc (.cells j.arr 27)).alloc (.cells q.arr 30)) :=
  ⟨heap_alloc2_old w _ _, heap_alloc2_new w _ _, ((Below.refl w.heap.size w).alloc (Nat.le_refl _) _).alloc (by show _ ≤ (w.heap.push _).size; rw [Array.size_push]; exact Nat.le_succ _) _⟩
theorem Ls.step (h : Ls j q w wx) (hb : Below wx.heap.size wx wy) : Ls j q w wy :=
  ⟨(hb.block _ (lt_of_block h.1)).trans h.1, (hb.block _ (lt_of_block h.2.1)).trans h.2.1, h.2.2.trans (hb.mono h.2.2.size)⟩
theorem Ls.c0 (h : Ls j q w wx) (k : Nat) : wx.cell? ⟨w.heap.size, k, none⟩ = j.arr[k]? := cell_of_row _ _ _ _ _ _ h.1
theorem Ls.c1 (h : Ls j q w wx) (k : Nat) : wx.cell? ⟨w.heap.size + 1, k, none⟩ = q.arr[k]? := cell_of_row _ _ _ _ _ _ h.2.1
end
theorem i27 : (Tryd.prog.info? 27).map (·.size) = some 17 := by kernel_rfl
theorem i30 : (Tryd.prog.info? 30).map (·.size) = some 12 := by kernel_rfl
theorem IsStrs.now {wx w : World} {a : Option Addr} {len : Nat} (h : IsStrs w w.heap.size a len) (hb : Below w.heap.size w wx) : IsStrs wx wx.heap.size a len := (h.below hb).up hb.size
theorem RawEs.up {w : World} {N M : Nat} {a : Option Addr} {len : Nat} (h : RawEs w N a len) (hM : N ≤ M) : RawEs w M a len := by
  obtain ⟨h1, h2⟩ := h
  refine ⟨h1, h2.elim .inl ?_⟩
  rintro ⟨b, off, e, hN, hc⟩
  exact .inr ⟨b, off, e, Nat.lt_of_lt_of_le hN hM, hc⟩
theorem RawEs.now {wx w : World} {a : Option Addr} {len : Nat} (h : RawEs w w.heap.size a len) (hb : Below w.heap.size w wx) : RawEs wx wx.heap.size a len := (h.below hb).up hb.size
theorem IsFEs.now {wx w : World} {a : Option Addr} {len : Nat} (h : IsFEs w w.heap.size a len) (hb : Below w.heap.size w wx) : IsFEs wx wx.heap.size a len := (h.below hb).up hb.size
/-- A slice that came in, seen in a later world to be within the bounds, was within them in the first. -/
theorem IsFEs.back {wx w : World} {a : Option Addr} {len : Nat} (hr : RawEs w w.heap.size a len) (h : IsFEs wx wx.heap.size a len) (hb : Below w.heap.size w wx) : IsFEs w w.heap.size a len := by
  obtain ⟨_, h0 | ⟨b, off, rfl, hN, _⟩⟩ := hr
  · exact ⟨h.1, .inl h0⟩
  · obtain ⟨h1, h2⟩ := h
    refine ⟨h1, h2.elim .inl ?_⟩
    rintro ⟨b', off', e, _, hc⟩
    cases e
    refine .inr ⟨b, off, rfl, hN, fun k hk => ?_⟩
    obtain ⟨c, g, o, ns, g1, g2, g3, c0, c1, c2, c3⟩ := hc k hk
    exact ⟨c, g, o, ns, g1, g2, g3, (hb.cell (p := ⟨b, _, none⟩) hN).symm.trans c0, (hb.cell (p := ⟨b, _, none⟩) hN).symm.trans c1, (hb.cell (p := ⟨b, _, none⟩) hN).symm.trans c2, (hb.cell (p := ⟨b, _, none⟩) hN).symm.trans c3⟩
def TrueB (w : World) (e : Ending) (w' : World) : Prop := e = .returned (.bool true) ∧ Below w.heap.size w w'

theorem exec_row {P : Program} {o : Oper} {a : Act} {w : World} (ty : TypeId) (x : Operand) (ho : o.op = .load ty x)
    (g : Nat) (hx : a.eval x = .pointer (some ⟨g, 0, none⟩)) (t : TypeId) (cs : Array Value) (fr : Nat × Nat) (d : TypeDesc) (hg : w.heap[g]? = some (.cells cs t fr))
    (hu : P.underlying ty = some d) (hd : (match d with | .struct _ | .array _ _ => true | _ => false) = true) (hi : (P.info? ty).map (·.size) = some cs.size) : (execOp a.eval o).run P w = .ok (.value (.agg cs)) w := by
  unfold execOp
  simp only [ho, hx, Instr.loadAt, Instr.sureAddr, Sem.run_bind, Sem.run_pure, Result.andThen_ok, run_loadVar_row w g t ty cs fr d hg hu hd hi]
theorem Ls.setRow {j : Fin} {q : Frep} {w wx : World} {X : Nat} (h : Ls j q w wx) (hX : w.heap.size + 2 ≤ X) (cs : Array Value) : Ls j q w (wx.setRow X cs) := by
  have hb := below_setRow (Below.refl (w.heap.size + 2) wx) X hX cs
  exact ⟨(hb.block _ (by omega)).trans h.1, (hb.block _ (by omega)).trans h.2.1, below_setRow h.2.2 X (by omega) cs⟩
theorem Ls.lt {j : Fin} {q : Frep} {w wx : World} (h : Ls j q w wx) : w.heap.size + 2 ≤ wx.heap.size := lt_of_block h.2.1
theorem tN30 (ns : Int) : U30 (tN ns) := ⟨(tN_bd ns).1, by have := (tN_bd ns).2; omega⟩
/-- The instance after the report, so far as the law looks at it. -/
def Good (j : Fin) (q : Frep) (i : Ins) : Prop := i.cu = q.rc ∧ i.pi = q.rp ∧ i.re = q.rr ∧ i.rs = q.rz ∧ i.fw = tN q.fn ∧ i.fe = tS q.fn ∧ U30 i.xw ∧ i.cma = j.cma ∧ i.cml = j.cml
theorem good_of {j : Fin} {q : Frep} {i : Ins} (h : JustX j.ins i) (es : Option Addr) (ec : Nat) : Good j q (i.rep (q.rep es ec)) := by
  obtain ⟨c, g, o, x, y, rfl, hx⟩ := h
  exact ⟨rfl, rfl, rfl, rfl, rfl, rfl, hx, rfl, rfl⟩
theorem Good.again {j : Fin} {q : Frep} {i : Ins} (h : Good j q i) (es : Option Addr) (ec : Nat) : i.rep (q.rep es ec) = i := by
  obtain ⟨h1, h2, h3, h4, h5, h6, _⟩ := h
  cases i
  simp only at h1 h2 h3 h4 h5 h6
  subst h1 h2 h3 h4 h5 h6
  rfl
def z48 : Array Value := #[.string ⟨#[]⟩, .string ⟨#[]⟩, .slice none 0 0, .int .i64 0, .int .u64 0, .string ⟨#[]⟩, .string ⟨#[]⟩, .int .i64 0, .int .i64 0, .int .i64 0, .string ⟨#[]⟩, .bool false, .int .u64 0, .int .i64 0, .pointer none, .string ⟨#[]⟩, .int .u64 0, .int .u64 0, .int .i64 0, .pointer none, .int .u64 0, .int .i64 0, .pointer none]
/-- The law's variable of type instance, at block X. -/
def At48 (w wx : World) (X : Nat) (cs : Array Value) : Prop := wx.heap[X]? = some (.cells cs 48 (0, 0)) ∧ w.heap.size + 2 ≤ X
theorem At48.step {w wx wy : World} {X : Nat} {cs : Array Value} (h : At48 w wx X cs) (hb : Below wx.heap.size wx wy) : At48 w wy X cs := ⟨(hb.block _ (lt_of_block h.1)).trans h.1, h.2⟩
theorem At48.new {j : Fin} {q : Frep} {w wx : World} (h : Ls j q w wx) : At48 w (wx.alloc (.cells z48 48)) wx.heap.size z48 := ⟨heap_alloc_new wx _, h.lt⟩
theorem wp_alloc48 {o : Oper} {a : Act} {wx : World} {K : Act → World → Prop} {Q : Exit → Act → World → Prop} (ho : o.op = .alloc 48) (hK : K (a.put o.dst (.pointer (some ⟨wx.heap.size, 0, none⟩))) (wx.alloc (.cells z48 48))) : o.wp Tryd.prog a wx K Q := by
  unfold Oper.wp execOp
  simp only [ho]
  unfold z48 at hK
  go_simp
  exact hK

def L2 (j : Fin) (q : Frep) (w : World) (X : Nat) (i : Ins) (wx : World) : Prop := Ls j q w wx ∧ At48 w wx X i.arr
theorem L2.step {j : Fin} {q : Frep} {w wx wy : World} {X : Nat} {i : Ins} (h : L2 j q w X i wx) (hb : Below wx.heap.size wx wy) : L2 j q w X i wy := ⟨h.1.step hb, h.2.step hb⟩
theorem L2.setRow {j : Fin} {q : Frep} {w wx : World} {X Y : Nat} {i : Ins} (h : L2 j q w X i wx) (hY : w.heap.size + 2 ≤ Y) (hne : X ≠ Y) (cs : Array Value) : L2 j q w X i (wx.setRow Y cs) := by
  refine ⟨h.1.setRow hY cs, ?_, h.2.2⟩
  simp only [World.setRow, Array.getElem?_modify]
  rw [if_neg (Ne.symm hne)]
  exact h.2.1

-- GEN
set_option maxRecDepth 100000 in
set_option maxHeartbeats 40000000 in
theorem law_any (j : Fin) (q : Frep) (a : Option Addr) (len cap : Nat) (w : World) (ht : Tab w) (k0 : I64 j.la) (k1 : I64 j.sn) (k2 : I64 j.fn) (k3 : I64 q.la) (k4 : I64 q.fn)
    (hs : IsStrs w w.heap.size j.cma j.cml) (hq : RawEs w w.heap.size q.ena q.enl) (ha : RawEs w w.heap.size a len) :
    Calls Tryd.prog 3 #[.agg j.arr, .agg q.arr, .slice a len cap] w (TrueB w) := by
  have HS := hidden hs
  have HQ := hidden hq
  have HA := hidden ha
  clear hs hq ha
  obtain ⟨a0, a1, a2, a3, a4, a5, a6, a7, a8, a9, a10, a11, a12, a13, a14, a15, a16⟩ := j.facts
  obtain ⟨b0, b1, b2, b3, b4, b5, b6, b7, b8, b9, b10, b11⟩ := q.facts
  go_enter Tryd.func3, Tryd.ntmps3
  go_upto_region 1 with fail
  have hL : Ls j q w _ := Ls.start
  generalize World.alloc _ _ = w2 at hL ⊢
  have hzz := hidden (zz_any j q a len cap w2 (HS.out.now hL.2.2) (HQ.out.now hL.2.2) (HA.out.now hL.2.2))
  go_wp2_with (first
    | (refine wpList_load_row rfl 27 (.tmp 3) rfl w.heap.size rfl 27 j.arr (0, 0) _ hL.1 Tryd.underlying27 rfl i27 ?_)
    | (refine wpList_load_row rfl 30 (.tmp 4) rfl (w.heap.size + 1) rfl 30 q.arr (0, 0) _ hL.2.1 Tryd.underlying30 rfl i30 ?_)
    | (go_at_call 5; refine hzz.out.mono ?_; rintro e w' ⟨⟨zb, rfl⟩, hzw⟩; replace hL : Ls j q w w' := hL.step (by rw [← hzw]; exact ((Below.refl _ w2).alloc (Nat.le_refl _) _).alloc (by simp) _))
    | fail)
  · -- zz false
    go_ret
    exact ⟨rfl, hL.2.2⟩
  have hL' : Ls j q w w'.drew := hL.step (Below.refl _ _).drew
  clear hL
  have hL := hL'
  clear hL'
  refine region_named (S := Ls j q w) (n := 7) (by as_aux_lemma => kernel_rfl) (by as_aux_lemma => kernel_rfl) hL (fun R hR => ?_)
  clear hzz hzw
  generalize World.drew _ = wx at hL ⊢
  clear w'
  have hns : ssa2 R = true := by as_aux_lemma => (unfold IsOps at hR; subst hR; kernel_rfl)
  have hlen : R.length = 7 := by as_aux_lemma => (unfold IsOps at hR; subst hR; kernel_rfl)
  have hcel0 : ∀ (wx : World) (k : Nat), Ls j q w wx → wx.cell? ⟨w.heap.size, k, none⟩ = j.arr[k]? := fun wx k h => h.c0 k
  have hcel1 : ∀ (wx : World) (k : Nat), Ls j q w wx → wx.cell? ⟨w.heap.size + 1, k, none⟩ = q.arr[k]? := fun wx k h => h.c1 k
  refine takes_run2 [(0, .agg j.arr), (2, .agg q.arr), (4, .slice a len cap)] (fuel := 4) (d' := [4, 2, 0]) (by as_aux_lemma => kernel_rfl) hns (by as_aux_lemma => (unfold IsOps at hR; subst hR; kernel_rfl)) rfl (fun _ _ _ _ _ h => h) hL (fun K hK => ?_)
  refine RunsThen.cons (hR.at rfl) (by intro wx hSw; exact exec_row 27 (.tmp 3) rfl w.heap.size rfl 27 j.arr (0, 0) _ hSw.1 Tryd.underlying27 rfl i27) ?_
  try simp only [Act.put, List.setIfInBounds_toArray, List.set_cons_zero, List.set_cons_succ]
  refine RunsThen.cons (hR.at rfl) (by intro wx hSw; exact exec_row 30 (.tmp 4) rfl (w.heap.size + 1) rfl 30 q.arr (0, 0) _ hSw.2.1 Tryd.underlying30 rfl i30) ?_
  try simp only [Act.put, List.setIfInBounds_toArray, List.set_cons_zero, List.set_cons_succ]
  refine RunsThen.cons (hR.at rfl) (by intro wx hSw; go_simp <;> rfl) ?_
  try simp only [Act.put, List.setIfInBounds_toArray, List.set_cons_zero, List.set_cons_succ]
  refine RunsThen.nil (hK.out _ ?_)
  clear hK K
  refine carry_run2 (i := 1) (fuel := 3) hlen hns (by as_aux_lemma => (unfold IsOps at hR; subst hR; kernel_rfl)) (hR.at rfl) rfl (fun K hK => ?_)
  go_simp
  refine (instBytes_any 0 j _ (by decide) (HS.out.now hL.2.2)).mono ?_
  rintro e wa ⟨m1, hm1, rfl, hB⟩
  go_wp2_with fail
  refine hK.out _ _ (hL.step hB) ?_
  replace hL := hL.step hB
  clear hB
  clear hK K
  try simp only [Act.put, List.setIfInBounds_toArray, List.set_cons_zero, List.set_cons_succ]
  refine carry_run2 (i := 3) (fuel := 2) hlen hns (by as_aux_lemma => (unfold IsOps at hR; subst hR; kernel_rfl)) (hR.at rfl) rfl (fun K hK => ?_)
  go_simp
  refine (repBytes_any m1 q _ hm1.1 (HQ.out.now hL.2.2)).mono ?_
  rintro e wb ⟨m2, hm2, hfq, rfl, hB⟩
  go_wp2_with fail
  refine hK.out _ _ (hL.step hB) ?_
  replace hfq := fun h => IsFEs.back HQ.out (hfq h) hL.2.2
  replace hL := hL.step hB
  clear hB
  clear hK K
  try simp only [Act.put, List.setIfInBounds_toArray, List.set_cons_zero, List.set_cons_succ]
  refine carry_run2 (i := 5) (fuel := 1) hlen hns (by as_aux_lemma => (unfold IsOps at hR; subst hR; kernel_rfl)) (hR.at rfl) rfl (fun K hK => ?_)
  go_simp
  refine (es_any m2 w.heap.size len cap a _ hm2.1 (HA.out.below hL.2.2)).mono ?_
  rintro e wd ⟨m3, hm3, hfa, rfl, rfl⟩
  go_wp2_with fail
  refine hK.out _ _ hL ?_
  clear hK K
  try simp only [Act.put, List.setIfInBounds_toArray, List.set_cons_zero, List.set_cons_succ]
  replace hfq := fun h : m3 ≤ 1048576 => hfq (hm3.2.2 h)
  replace hfa := fun h : m3 ≤ 1048576 => (hfa h).down hL.2.2
  by_cases hm : (1048576 : Int) < m3
  · refine takes_run2 [(6, .bool true)] (fuel := 0) (d' := [6, 5, 3, 1, 4, 2, 0]) (by as_aux_lemma => kernel_rfl) hns (by as_aux_lemma => (unfold IsOps at hR; subst hR; kernel_rfl)) rfl (fun _ _ _ _ _ h => h) hL (fun K hK => ?_)
    refine RunsThen.cons (hR.at rfl) (by intro wx hSw; go_simp <;> rfl) ?_
    try simp only [Act.put, List.setIfInBounds_toArray, List.set_cons_zero, List.set_cons_succ]
    refine RunsThen.nil (hK.out _ ?_)
    clear hK K
    refine done_run hlen (by as_aux_lemma => kernel_rfl) ?_
    go_wp2_with fail
    go_ret
    exact ⟨rfl, hL.2.2⟩
  refine takes_run2 [(6, .bool false)] (fuel := 0) (d' := [6, 5, 3, 1, 4, 2, 0]) (by as_aux_lemma => kernel_rfl) hns (by as_aux_lemma => (unfold IsOps at hR; subst hR; kernel_rfl)) rfl (fun _ _ _ _ _ h => h) hL (fun K hK => ?_)
  refine RunsThen.cons (hR.at rfl) (by intro wx hSw; go_simp <;> rfl) ?_
  try simp only [Act.put, List.setIfInBounds_toArray, List.set_cons_zero, List.set_cons_succ]
  refine RunsThen.nil (hK.out _ ?_)
  clear hK K
  refine done_run hlen (by as_aux_lemma => kernel_rfl) ?_
  clear hR hns hlen R
  replace hfq := hfq (by omega)
  replace hfa := hfa (by omega)
  clear hm1 hm2 hm3 hm
  go_upto_region 5 with fail
  go_cut [7, 8] from 23 to 32 (fun v7 v8 wx => ∃ X i1 ev n c, v7 = .pointer (some ⟨X, 0, none⟩) ∧ v8 = .slice ev n c ∧ len ≤ n ∧ Good j q i1 ∧ At48 w wx X i1.arr ∧ Ls j q w wx)
  case first =>
    have hL' := hL.step (Below.refl _ _).drew
    clear hL
    have hL := hL'
    clear hL'
    refine region_named (S := Ls j q w) (n := 13) (by as_aux_lemma => kernel_rfl) (by as_aux_lemma => kernel_rfl) hL (fun R hR => ?_)
    generalize World.drew _ = wx at hL ⊢
    have hns : ssa2 R = true := by as_aux_lemma => (unfold IsOps at hR; subst hR; kernel_rfl)
    have hlen : R.length = 13 := by as_aux_lemma => (unfold IsOps at hR; subst hR; kernel_rfl)
    refine takes_run2 [(0, .agg j.arr), (2, .agg q.arr), (4, .slice a len cap)] (fuel := 10) (d' := [4, 2, 0]) (by as_aux_lemma => kernel_rfl) hns (by as_aux_lemma => (unfold IsOps at hR; subst hR; kernel_rfl)) rfl (fun _ _ _ _ _ h => h) hL (fun K hK => ?_)
    refine RunsThen.cons (hR.at rfl) (by intro wx hSw; exact exec_row 27 (.tmp 3) rfl w.heap.size rfl 27 j.arr (0, 0) _ hSw.1 Tryd.underlying27 rfl i27) ?_
    try simp only [Act.put, List.setIfInBounds_toArray, List.set_cons_zero, List.set_cons_succ]
    refine RunsThen.cons (hR.at rfl) (by intro wx hSw; exact exec_row 30 (.tmp 4) rfl (w.heap.size + 1) rfl 30 q.arr (0, 0) _ hSw.2.1 Tryd.underlying30 rfl i30) ?_
    try simp only [Act.put, List.setIfInBounds_toArray, List.set_cons_zero, List.set_cons_succ]
    refine RunsThen.cons (hR.at rfl) (by intro wx hSw; go_simp <;> rfl) ?_
    try simp only [Act.put, List.setIfInBounds_toArray, List.set_cons_zero, List.set_cons_succ]
    refine RunsThen.nil (hK.out _ ?_)
    clear hK K
    refine carry_two (i := 1) (k := 10) (fuel := 9) hlen hns (by as_aux_lemma => (unfold IsOps at hR; subst hR; kernel_rfl)) (hR.at rfl) (hR.at rfl) rfl (fun K hK => ?_) (fun K hK => ?_)
    rotate_left
    · refine wp_alloc48 rfl ?_
      have hB := (Below.refl _ wx).alloc (Nat.le_refl _) (.cells z48 48)
      have hX := At48.new hL
      refine hK.out _ _ (hL.step hB) ?_
      replace hL := hL.step hB
      clear hB hK K
      generalize World.alloc _ _ = wz at hL hX ⊢
      generalize wx.heap.size = X at hX ⊢
      try simp only [Act.put, List.setIfInBounds_toArray, List.set_cons_zero, List.set_cons_succ]
      refine carry_run2 (i := 1) (fuel := 8) hlen hns (by as_aux_lemma => (unfold IsOps at hR; subst hR; kernel_rfl)) (hR.at rfl) rfl (fun K hK => ?_)
      go_simp
      refine (inst_any j _ k0 k1 k2).mono ?_
      rintro e wa ⟨rfl, hB⟩
      go_wp2_with fail
      refine hK.out _ _ (hL.step hB) ?_
      replace hX := hX.step hB
      replace hL := hL.step hB
      clear hB
      clear hK K
      try simp only [Act.put, List.setIfInBounds_toArray, List.set_cons_zero, List.set_cons_succ]
      refine carry_run2 (i := 3) (fuel := 7) hlen hns (by as_aux_lemma => (unfold IsOps at hR; subst hR; kernel_rfl)) (hR.at rfl) rfl (fun K hK => ?_)
      go_simp
      refine (report_any q _ k3 k4 (hfq.now hL.2.2)).mono ?_
      rintro e wb ⟨es, ec, rfl, _, hB⟩
      go_wp2_with fail
      refine hK.out _ _ (hL.step hB) ?_
      replace hX := hX.step hB
      replace hL := hL.step hB
      clear hB
      clear hK K
      try simp only [Act.put, List.setIfInBounds_toArray, List.set_cons_zero, List.set_cons_succ]
      refine carry_run2 (i := 5) (fuel := 6) hlen hns (by as_aux_lemma => (unfold IsOps at hR; subst hR; kernel_rfl)) (hR.at rfl) rfl (fun K hK => ?_)
      go_simp
      refine (exits_any len cap a _ (hfa.now hL.2.2)).mono ?_
      rintro e wd ⟨a', c', rfl, hes, hB⟩
      go_wp2_with fail
      refine hK.out _ _ (hL.step hB) ?_
      replace hX := hX.step hB
      replace hL := hL.step hB
      clear hB
      clear hK K
      try simp only [Act.put, List.setIfInBounds_toArray, List.set_cons_zero, List.set_cons_succ]
      refine carry_run2 (i := 6) (fuel := 5) hlen hns (by as_aux_lemma => (unfold IsOps at hR; subst hR; kernel_rfl)) (hR.at rfl) rfl (fun K hK => ?_)
      go_simp
      refine (zzrep_any j.ins (q.rep es ec) a' len c' _ (ht.below hL.2.2) hes (tN30 _) (tN30 _) (tN30 _)).mono ?_
      rintro e we ⟨j', ev, n, c, rfl, hj', _, hn, _, hB⟩
      go_wp2_with fail
      refine hK.out _ _ (hL.step hB) ?_
      replace hX := hX.step hB
      clear hes
      replace hL := hL.step hB
      clear hB
      clear hK K
      try simp only [Act.put, List.setIfInBounds_toArray, List.set_cons_zero, List.set_cons_succ]
      refine takes_run2 [(7, .tuple #[.agg (j'.rep (q.rep es ec)).arr, .slice ev n c]), (8, .agg (j'.rep (q.rep es ec)).arr), (9, .slice ev n c)] (fuel := 2) (d' := [9, 8, 7, 6, 5, 3, 1, 10, 4, 2, 0]) (by as_aux_lemma => kernel_rfl) hns (by as_aux_lemma => (unfold IsOps at hR; subst hR; kernel_rfl)) rfl (fun _ _ _ _ _ h => h) hL (fun K hK => ?_)
      refine RunsThen.cons (hR.at rfl) (by intro wx hSw; go_simp <;> rfl) ?_
      try simp only [Act.put, List.setIfInBounds_toArray, List.set_cons_zero, List.set_cons_succ]
      refine RunsThen.cons (hR.at rfl) (by intro wx hSw; go_simp <;> rfl) ?_
      try simp only [Act.put, List.setIfInBounds_toArray, List.set_cons_zero, List.set_cons_succ]
      refine RunsThen.cons (hR.at rfl) (by intro wx hSw; go_simp <;> rfl) ?_
      try simp only [Act.put, List.setIfInBounds_toArray, List.set_cons_zero, List.set_cons_succ]
      refine RunsThen.nil (hK.out _ ?_)
      clear hK K
      refine carry_run2 (i := 11) (fuel := 1) hlen hns (by as_aux_lemma => (unfold IsOps at hR; subst hR; kernel_rfl)) (hR.at rfl) rfl (fun K hK => ?_)
      refine wp_store_row 48 (.tmp 7) (.tmp 31) rfl X (j'.rep (q.rep es ec)).arr rfl rfl 48 z48 hX.1 i48 rfl (ins_one _) ?_
      have hX' : At48 w _ X (j'.rep (q.rep es ec)).arr := ⟨setRow_heap _ X z48 (j'.rep (q.rep es ec)).arr 48 _ hX.1, hX.2⟩
      have hL' := hL.setRow hX.2 (j'.rep (q.rep es ec)).arr
      refine hK.out _ _ hL' ?_
      clear hL hX hK K
      have hL := hL'
      generalize World.setRow _ _ _ = wy at hL hX' ⊢
      try simp only [Act.put, List.setIfInBounds_toArray, List.set_cons_zero, List.set_cons_succ]
      refine takes_run2 [(12, .slice ev n c)] (fuel := 0) (d' := [12, 11, 9, 8, 7, 6, 5, 3, 1, 10, 4, 2, 0]) (by as_aux_lemma => kernel_rfl) hns (by as_aux_lemma => (unfold IsOps at hR; subst hR; kernel_rfl)) rfl (fun _ _ _ _ _ h => h) hL (fun K hK => ?_)
      refine RunsThen.cons (hR.at rfl) (by intro wx hSw; go_simp <;> rfl) ?_
      try simp only [Act.put, List.setIfInBounds_toArray, List.set_cons_zero, List.set_cons_succ]
      refine RunsThen.nil (hK.out _ ?_)
      clear hK K
      refine done_run hlen (by as_aux_lemma => kernel_rfl) ?_
      go_wp2_with fail
      go_meet
      case rel => exact ⟨X, _, ev, n, c, rfl, rfl, hn, good_of hj' es ec, hX', hL⟩
    go_simp
    refine (inst_any j _ k0 k1 k2).mono ?_
    rintro e wa ⟨rfl, hB⟩
    go_wp2_with fail
    refine hK.out _ _ (hL.step hB) ?_
    replace hL := hL.step hB
    clear hB
    clear hK K
    try simp only [Act.put, List.setIfInBounds_toArray, List.set_cons_zero, List.set_cons_succ]
    refine carry_two (i := 3) (k := 10) (fuel := 8) hlen hns (by as_aux_lemma => (unfold IsOps at hR; subst hR; kernel_rfl)) (hR.at rfl) (hR.at rfl) rfl (fun K hK => ?_) (fun K hK => ?_)
    rotate_left
    · refine wp_alloc48 rfl ?_
      have hB := (Below.refl _ wa).alloc (Nat.le_refl _) (.cells z48 48)
      have hX := At48.new hL
      refine hK.out _ _ (hL.step hB) ?_
      replace hL := hL.step hB
      clear hB hK K
      generalize World.alloc _ _ = wz at hL hX ⊢
      generalize wa.heap.size = X at hX ⊢
      try simp only [Act.put, List.setIfInBounds_toArray, List.set_cons_zero, List.set_cons_succ]
      refine carry_run2 (i := 3) (fuel := 7) hlen hns (by as_aux_lemma => (unfold IsOps at hR; subst hR; kernel_rfl)) (hR.at rfl) rfl (fun K hK => ?_)
      go_simp
      refine (report_any q _ k3 k4 (hfq.now hL.2.2)).mono ?_
      rintro e wb ⟨es, ec, rfl, _, hB⟩
      go_wp2_with fail
      refine hK.out _ _ (hL.step hB) ?_
      replace hX := hX.step hB
      replace hL := hL.step hB
      clear hB
      clear hK K
      try simp only [Act.put, List.setIfInBounds_toArray, List.set_cons_zero, List.set_cons_succ]
      refine carry_run2 (i := 5) (fuel := 6) hlen hns (by as_aux_lemma => (unfold IsOps at hR; subst hR; kernel_rfl)) (hR.at rfl) rfl (fun K hK => ?_)
      go_simp
      refine (exits_any len cap a _ (hfa.now hL.2.2)).mono ?_
      rintro e wd ⟨a', c', rfl, hes, hB⟩
      go_wp2_with fail
      refine hK.out _ _ (hL.step hB) ?_
      replace hX := hX.step hB
      replace hL := hL.step hB
      clear hB
      clear hK K
      try simp only [Act.put, List.setIfInBounds_toArray, List.set_cons_zero, List.set_cons_succ]
      refine carry_run2 (i := 6) (fuel := 5) hlen hns (by as_aux_lemma => (unfold IsOps at hR; subst hR; kernel_rfl)) (hR.at rfl) rfl (fun K hK => ?_)
      go_simp
      refine (zzrep_any j.ins (q.rep es ec) a' len c' _ (ht.below hL.2.2) hes (tN30 _) (tN30 _) (tN30 _)).mono ?_
      rintro e we ⟨j', ev, n, c, rfl, hj', _, hn, _, hB⟩
      go_wp2_with fail
      refine hK.out _ _ (hL.step hB) ?_
      replace hX := hX.step hB
      clear hes
      replace hL := hL.step hB
      clear hB
      clear hK K
      try simp only [Act.put, List.setIfInBounds_toArray, List.set_cons_zero, List.set_cons_succ]
      refine takes_run2 [(7, .tuple #[.agg (j'.rep (q.rep es ec)).arr, .slice ev n c]), (8, .agg (j'.rep (q.rep es ec)).arr), (9, .slice ev n c)] (fuel := 2) (d' := [9, 8, 7, 6, 5, 3, 10, 1, 4, 2, 0]) (by as_aux_lemma => kernel_rfl) hns (by as_aux_lemma => (unfold IsOps at hR; subst hR; kernel_rfl)) rfl (fun _ _ _ _ _ h => h) hL (fun K hK => ?_)
      refine RunsThen.cons (hR.at rfl) (by intro wx hSw; go_simp <;> rfl) ?_
      try simp only [Act.put, List.setIfInBounds_toArray, List.set_cons_zero, List.set_cons_succ]
      refine RunsThen.cons (hR.at rfl) (by intro wx hSw; go_simp <;> rfl) ?_
      try simp only [Act.put, List.setIfInBounds_toArray, List.set_cons_zero, List.set_cons_succ]
      refine RunsThen.cons (hR.at rfl) (by intro wx hSw; go_simp <;> rfl) ?_
      try simp only [Act.put, List.setIfInBounds_toArray, List.set_cons_zero, List.set_cons_succ]
      refine RunsThen.nil (hK.out _ ?_)
      clear hK K
      refine carry_run2 (i := 11) (fuel := 1) hlen hns (by as_aux_lemma => (unfold IsOps at hR; subst hR; kernel_rfl)) (hR.at rfl) rfl (fun K hK => ?_)
      refine wp_store_row 48 (.tmp 7) (.tmp 31) rfl X (j'.rep (q.rep es ec)).arr rfl rfl 48 z48 hX.1 i48 rfl (ins_one _) ?_
      have hX' : At48 w _ X (j'.rep (q.rep es ec)).arr := ⟨setRow_heap _ X z48 (j'.rep (q.rep es ec)).arr 48 _ hX.1, hX.2⟩
      have hL' := hL.setRow hX.2 (j'.rep (q.rep es ec)).arr
      refine hK.out _ _ hL' ?_
      clear hL hX hK K
      have hL := hL'
      generalize World.setRow _ _ _ = wy at hL hX' ⊢
      try simp only [Act.put, List.setIfInBounds_toArray, List.set_cons_zero, List.set_cons_succ]
      refine takes_run2 [(12, .slice ev n c)] (fuel := 0) (d' := [12, 11, 9, 8, 7, 6, 5, 3, 10, 1, 4, 2, 0]) (by as_aux_lemma => kernel_rfl) hns (by as_aux_lemma => (unfold IsOps at hR; subst hR; kernel_rfl)) rfl (fun _ _ _ _ _ h => h) hL (fun K hK => ?_)
      refine RunsThen.cons (hR.at rfl) (by intro wx hSw; go_simp <;> rfl) ?_
      try simp only [Act.put, List.setIfInBounds_toArray, List.set_cons_zero, List.set_cons_succ]
      refine RunsThen.nil (hK.out _ ?_)
      clear hK K
      refine done_run hlen (by as_aux_lemma => kernel_rfl) ?_
      go_wp2_with fail
      go_meet
      case rel => exact ⟨X, _, ev, n, c, rfl, rfl, hn, good_of hj' es ec, hX', hL⟩
    go_simp
    refine (report_any q _ k3 k4 (hfq.now hL.2.2)).mono ?_
    rintro e wb ⟨es, ec, rfl, _, hB⟩
    go_wp2_with fail
    refine hK.out _ _ (hL.step hB) ?_
    replace hL := hL.step hB
    clear hB
    clear hK K
    try simp only [Act.put, List.setIfInBounds_toArray, List.set_cons_zero, List.set_cons_succ]
    refine carry_two (i := 5) (k := 10) (fuel := 7) hlen hns (by as_aux_lemma => (unfold IsOps at hR; subst hR; kernel_rfl)) (hR.at rfl) (hR.at rfl) rfl (fun K hK => ?_) (fun K hK => ?_)
    rotate_left
    · refine wp_alloc48 rfl ?_
      have hB := (Below.refl _ wb).alloc (Nat.le_refl _) (.cells z48 48)
      have hX := At48.new hL
      refine hK.out _ _ (hL.step hB) ?_
      replace hL := hL.step hB
      clear hB hK K
      generalize World.alloc _ _ = wz at hL hX ⊢
      generalize wb.heap.size = X at hX ⊢
      try simp only [Act.put, List.setIfInBounds_toArray, List.set_cons_zero, List.set_cons_succ]
      refine carry_run2 (i := 5) (fuel := 6) hlen hns (by as_aux_lemma => (unfold IsOps at hR; subst hR; kernel_rfl)) (hR.at rfl) rfl (fun K hK => ?_)
      go_simp
      refine (exits_any len cap a _ (hfa.now hL.2.2)).mono ?_
      rintro e wd ⟨a', c', rfl, hes, hB⟩
      go_wp2_with fail
      refine hK.out _ _ (hL.step hB) ?_
      replace hX := hX.step hB
      replace hL := hL.step hB
      clear hB
      clear hK K
      try simp only [Act.put, List.setIfInBounds_toArray, List.set_cons_zero, List.set_cons_succ]
      refine carry_run2 (i := 6) (fuel := 5) hlen hns (by as_aux_lemma => (unfold IsOps at hR; subst hR; kernel_rfl)) (hR.at rfl) rfl (fun K hK => ?_)
      go_simp
      refine (zzrep_any j.ins (q.rep es ec) a' len c' _ (ht.below hL.2.2) hes (tN30 _) (tN30 _) (tN30 _)).mono ?_
      rintro e we ⟨j', ev, n, c, rfl, hj', _, hn, _, hB⟩
      go_wp2_with fail
      refine hK.out _ _ (hL.step hB) ?_
      replace hX := hX.step hB
      clear hes
      replace hL := hL.step hB
      clear hB
      clear hK K
      try simp only [Act.put, List.setIfInBounds_toArray, List.set_cons_zero, List.set_cons_succ]
      refine takes_run2 [(7, .tuple #[.agg (j'.rep (q.rep es ec)).arr, .slice ev n c]), (8, .agg (j'.rep (q.rep es ec)).arr), (9, .slice ev n c)] (fuel := 2) (d' := [9, 8, 7, 6, 5, 10, 3, 1, 4, 2, 0]) (by as_aux_lemma => kernel_rfl) hns (by as_aux_lemma => (unfold IsOps at hR; subst hR; kernel_rfl)) rfl (fun _ _ _ _ _ h => h) hL (fun K hK => ?_)
      refine RunsThen.cons (hR.at rfl) (by intro wx hSw; go_simp <;> rfl) ?_
      try simp only [Act.put, List.setIfInBounds_toArray, List.set_cons_zero, List.set_cons_succ]
      refine RunsThen.cons (hR.at rfl) (by intro wx hSw; go_simp <;> rfl) ?_
      try simp only [Act.put, List.setIfInBounds_toArray, List.set_cons_zero, List.set_cons_succ]
      refine RunsThen.cons (hR.at rfl) (by intro wx hSw; go_simp <;> rfl) ?_
      try simp only [Act.put, List.setIfInBounds_toArray, List.set_cons_zero, List.set_cons_succ]
      refine RunsThen.nil (hK.out _ ?_)
      clear hK K
      refine carry_run2 (i := 11) (fuel := 1) hlen hns (by as_aux_lemma => (unfold IsOps at hR; subst hR; kernel_rfl)) (hR.at rfl) rfl (fun K hK => ?_)
      refine wp_store_row 48 (.tmp 7) (.tmp 31) rfl X (j'.rep (q.rep es ec)).arr rfl rfl 48 z48 hX.1 i48 rfl (ins_one _) ?_
      have hX' : At48 w _ X (j'.rep (q.rep es ec)).arr := ⟨setRow_heap _ X z48 (j'.rep (q.rep es ec)).arr 48 _ hX.1, hX.2⟩
      have hL' := hL.setRow hX.2 (j'.rep (q.rep es ec)).arr
      refine hK.out _ _ hL' ?_
      clear hL hX hK K
      have hL := hL'
      generalize World.setRow _ _ _ = wy at hL hX' ⊢
      try simp only [Act.put, List.setIfInBounds_toArray, List.set_cons_zero, List.set_cons_succ]
      refine takes_run2 [(12, .slice ev n c)] (fuel := 0) (d' := [12, 11, 9, 8, 7, 6, 5, 10, 3, 1, 4, 2, 0]) (by as_aux_lemma => kernel_rfl) hns (by as_aux_lemma => (unfold IsOps at hR; subst hR; kernel_rfl)) rfl (fun _ _ _ _ _ h => h) hL (fun K hK => ?_)
      refine RunsThen.cons (hR.at rfl) (by intro wx hSw; go_simp <;> rfl) ?_
      try simp only [Act.put, List.setIfInBounds_toArray, List.set_cons_zero, List.set_cons_succ]
      refine RunsThen.nil (hK.out _ ?_)
      clear hK K
      refine done_run hlen (by as_aux_lemma => kernel_rfl) ?_
      go_wp2_with fail
      go_meet
      case rel => exact ⟨X, _, ev, n, c, rfl, rfl, hn, good_of hj' es ec, hX', hL⟩
    go_simp
    refine (exits_any len cap a _ (hfa.now hL.2.2)).mono ?_
    rintro e wd ⟨a', c', rfl, hes, hB⟩
    go_wp2_with fail
    refine hK.out _ _ (hL.step hB) ?_
    replace hL := hL.step hB
    clear hB
    clear hK K
    try simp only [Act.put, List.setIfInBounds_toArray, List.set_cons_zero, List.set_cons_succ]
    refine carry_two (i := 6) (k := 10) (fuel := 6) hlen hns (by as_aux_lemma => (unfold IsOps at hR; subst hR; kernel_rfl)) (hR.at rfl) (hR.at rfl) rfl (fun K hK => ?_) (fun K hK => ?_)
    rotate_left
    · refine wp_alloc48 rfl ?_
      have hB := (Below.refl _ wd).alloc (Nat.le_refl _) (.cells z48 48)
      have hX := At48.new hL
      refine hK.out _ _ (hL.step hB) ?_
      replace hL := hL.step hB
      replace hes := (hes.below hB).up hB.size
      clear hB hK K
      generalize World.alloc _ _ = wz at hL hX hes ⊢
      generalize wd.heap.size = X at hX ⊢
      try simp only [Act.put, List.setIfInBounds_toArray, List.set_cons_zero, List.set_cons_succ]
      refine carry_run2 (i := 6) (fuel := 5) hlen hns (by as_aux_lemma => (unfold IsOps at hR; subst hR; kernel_rfl)) (hR.at rfl) rfl (fun K hK => ?_)
      go_simp
      refine (zzrep_any j.ins (q.rep es ec) a' len c' _ (ht.below hL.2.2) hes (tN30 _) (tN30 _) (tN30 _)).mono ?_
      rintro e we ⟨j', ev, n, c, rfl, hj', _, hn, _, hB⟩
      go_wp2_with fail
      refine hK.out _ _ (hL.step hB) ?_
      replace hX := hX.step hB
      clear hes
      replace hL := hL.step hB
      clear hB
      clear hK K
      try simp only [Act.put, List.setIfInBounds_toArray, List.set_cons_zero, List.set_cons_succ]
      refine takes_run2 [(7, .tuple #[.agg (j'.rep (q.rep es ec)).arr, .slice ev n c]), (8, .agg (j'.rep (q.rep es ec)).arr), (9, .slice ev n c)] (fuel := 2) (d' := [9, 8, 7, 6, 10, 5, 3, 1, 4, 2, 0]) (by as_aux_lemma => kernel_rfl) hns (by as_aux_lemma => (unfold IsOps at hR; subst hR; kernel_rfl)) rfl (fun _ _ _ _ _ h => h) hL (fun K hK => ?_)
      refine RunsThen.cons (hR.at rfl) (by intro wx hSw; go_simp <;> rfl) ?_
      try simp only [Act.put, List.setIfInBounds_toArray, List.set_cons_zero, List.set_cons_succ]
      refine RunsThen.cons (hR.at rfl) (by intro wx hSw; go_simp <;> rfl) ?_
      try simp only [Act.put, List.setIfInBounds_toArray, List.set_cons_zero, List.set_cons_succ]
      refine RunsThen.cons (hR.at rfl) (by intro wx hSw; go_simp <;> rfl) ?_
      try simp only [Act.put, List.setIfInBounds_toArray, List.set_cons_zero, List.set_cons_succ]
      refine RunsThen.nil (hK.out _ ?_)
      clear hK K
      refine carry_run2 (i := 11) (fuel := 1) hlen hns (by as_aux_lemma => (unfold IsOps at hR; subst hR; kernel_rfl)) (hR.at rfl) rfl (fun K hK => ?_)
      refine wp_store_row 48 (.tmp 7) (.tmp 31) rfl X (j'.rep (q.rep es ec)).arr rfl rfl 48 z48 hX.1 i48 rfl (ins_one _) ?_
      have hX' : At48 w _ X (j'.rep (q.rep es ec)).arr := ⟨setRow_heap _ X z48 (j'.rep (q.rep es ec)).arr 48 _ hX.1, hX.2⟩
      have hL' := hL.setRow hX.2 (j'.rep (q.rep es ec)).arr
      refine hK.out _ _ hL' ?_
      clear hL hX hK K
      have hL := hL'
      generalize World.setRow _ _ _ = wy at hL hX' ⊢
      try simp only [Act.put, List.setIfInBounds_toArray, List.set_cons_zero, List.set_cons_succ]
      refine takes_run2 [(12, .slice ev n c)] (fuel := 0) (d' := [12, 11, 9, 8, 7, 6, 10, 5, 3, 1, 4, 2, 0]) (by as_aux_lemma => kernel_rfl) hns (by as_aux_lemma => (unfold IsOps at hR; subst hR; kernel_rfl)) rfl (fun _ _ _ _ _ h => h) hL (fun K hK => ?_)
      refine RunsThen.cons (hR.at rfl) (by intro wx hSw; go_simp <;> rfl) ?_
      try simp only [Act.put, List.setIfInBounds_toArray, List.set_cons_zero, List.set_cons_succ]
      refine RunsThen.nil (hK.out _ ?_)
      clear hK K
      refine done_run hlen (by as_aux_lemma => kernel_rfl) ?_
      go_wp2_with fail
      go_meet
      case rel => exact ⟨X, _, ev, n, c, rfl, rfl, hn, good_of hj' es ec, hX', hL⟩
    go_simp
    refine (zzrep_any j.ins (q.rep es ec) a' len c' _ (ht.below hL.2.2) hes (tN30 _) (tN30 _) (tN30 _)).mono ?_
    rintro e we ⟨j', ev, n, c, rfl, hj', _, hn, _, hB⟩
    go_wp2_with fail
    refine hK.out _ _ (hL.step hB) ?_
    clear hes
    replace hL := hL.step hB
    clear hB
    clear hK K
    try simp only [Act.put, List.setIfInBounds_toArray, List.set_cons_zero, List.set_cons_succ]
    refine takes_run2 [(7, .tuple #[.agg (j'.rep (q.rep es ec)).arr, .slice ev n c]), (8, .agg (j'.rep (q.rep es ec)).arr), (9, .slice ev n c)] (fuel := 3) (d' := [9, 8, 7, 6, 5, 3, 1, 4, 2, 0]) (by as_aux_lemma => kernel_rfl) hns (by as_aux_lemma => (unfold IsOps at hR; subst hR; kernel_rfl)) rfl (fun _ _ _ _ _ h => h) hL (fun K hK => ?_)
    refine RunsThen.cons (hR.at rfl) (by intro wx hSw; go_simp <;> rfl) ?_
    try simp only [Act.put, List.setIfInBounds_toArray, List.set_cons_zero, List.set_cons_succ]
    refine RunsThen.cons (hR.at rfl) (by intro wx hSw; go_simp <;> rfl) ?_
    try simp only [Act.put, List.setIfInBounds_toArray, List.set_cons_zero, List.set_cons_succ]
    refine RunsThen.cons (hR.at rfl) (by intro wx hSw; go_simp <;> rfl) ?_
    try simp only [Act.put, List.setIfInBounds_toArray, List.set_cons_zero, List.set_cons_succ]
    refine RunsThen.nil (hK.out _ ?_)
    clear hK K
    refine carry_run2 (i := 10) (fuel := 2) hlen hns (by as_aux_lemma => (unfold IsOps at hR; subst hR; kernel_rfl)) (hR.at rfl) rfl (fun K hK => ?_)
    refine wp_alloc48 rfl ?_
    have hB := (Below.refl _ we).alloc (Nat.le_refl _) (.cells z48 48)
    have hX := At48.new hL
    refine hK.out _ _ (hL.step hB) ?_
    replace hL := hL.step hB
    clear hB hK K
    generalize World.alloc _ _ = wz at hL hX ⊢
    generalize we.heap.size = X at hX ⊢
    try simp only [Act.put, List.setIfInBounds_toArray, List.set_cons_zero, List.set_cons_succ]
    refine carry_run2 (i := 11) (fuel := 1) hlen hns (by as_aux_lemma => (unfold IsOps at hR; subst hR; kernel_rfl)) (hR.at rfl) rfl (fun K hK => ?_)
    refine wp_store_row 48 (.tmp 7) (.tmp 31) rfl X (j'.rep (q.rep es ec)).arr rfl rfl 48 z48 hX.1 i48 rfl (ins_one _) ?_
    have hX' : At48 w _ X (j'.rep (q.rep es ec)).arr := ⟨setRow_heap _ X z48 (j'.rep (q.rep es ec)).arr 48 _ hX.1, hX.2⟩
    have hL' := hL.setRow hX.2 (j'.rep (q.rep es ec)).arr
    refine hK.out _ _ hL' ?_
    clear hL hX hK K
    have hL := hL'
    generalize World.setRow _ _ _ = wy at hL hX' ⊢
    try simp only [Act.put, List.setIfInBounds_toArray, List.set_cons_zero, List.set_cons_succ]
    refine takes_run2 [(12, .slice ev n c)] (fuel := 0) (d' := [12, 11, 10, 9, 8, 7, 6, 5, 3, 1, 4, 2, 0]) (by as_aux_lemma => kernel_rfl) hns (by as_aux_lemma => (unfold IsOps at hR; subst hR; kernel_rfl)) rfl (fun _ _ _ _ _ h => h) hL (fun K hK => ?_)
    refine RunsThen.cons (hR.at rfl) (by intro wx hSw; go_simp <;> rfl) ?_
    try simp only [Act.put, List.setIfInBounds_toArray, List.set_cons_zero, List.set_cons_succ]
    refine RunsThen.nil (hK.out _ ?_)
    clear hK K
    refine done_run hlen (by as_aux_lemma => kernel_rfl) ?_
    go_wp2_with fail
    go_meet
    case rel => exact ⟨X, _, ev, n, c, rfl, rfl, hn, good_of hj' es ec, hX', hL⟩
  case rest =>
  clear hL
  obtain ⟨X, i1, ev, n, c, rfl, rfl, hn, hgood, hX, hL⟩ := hcut
  go_upto_region 6 with fail
  go_cut [9, 10] from 33 to 39 (fun v9 v10 wx => ∃ Y ev2 c2, v9 = .pointer (some ⟨Y, 0, none⟩) ∧ v10 = .slice ev2 0 c2 ∧ At48 w wx X i1.arr ∧ At48 w wx Y i1.arr ∧ Ls j q w wx)
  case first =>
    have hL' : L2 j q w X i1 wc.drew := (show L2 j q w X i1 wc from ⟨hL, hX⟩).step (Below.refl _ _).drew
    clear hL hX
    have hL := hL'
    clear hL'
    refine region_named (S := L2 j q w X i1) (n := 10) (by as_aux_lemma => kernel_rfl) (by as_aux_lemma => kernel_rfl) hL (fun R hR => ?_)
    generalize World.drew _ = wx at hL ⊢
    have hns : ssa2 R = true := by as_aux_lemma => (unfold IsOps at hR; subst hR; kernel_rfl)
    have hlen : R.length = 10 := by as_aux_lemma => (unfold IsOps at hR; subst hR; kernel_rfl)
    refine takes_run2 [(0, .agg i1.arr), (1, .agg q.arr)] (fuel := 8) (d' := [1, 0]) (by as_aux_lemma => kernel_rfl) hns (by as_aux_lemma => (unfold IsOps at hR; subst hR; kernel_rfl)) rfl (fun _ _ _ _ _ h => h) hL (fun K hK => ?_)
    refine RunsThen.cons (hR.at rfl) (by intro wx hSw; exact exec_row 48 (.tmp 7) rfl X rfl 48 i1.arr (0, 0) _ hSw.2.1 Tryd.underlying48 rfl i48) ?_
    try simp only [Act.put, List.setIfInBounds_toArray, List.set_cons_zero, List.set_cons_succ]
    refine RunsThen.cons (hR.at rfl) (by intro wx hSw; exact exec_row 30 (.tmp 4) rfl (w.heap.size + 1) rfl 30 q.arr (0, 0) _ hSw.1.2.1 Tryd.underlying30 rfl i30) ?_
    try simp only [Act.put, List.setIfInBounds_toArray, List.set_cons_zero, List.set_cons_succ]
    refine RunsThen.nil (hK.out _ ?_)
    clear hK K
    refine carry_two (i := 2) (k := 7) (fuel := 7) hlen hns (by as_aux_lemma => (unfold IsOps at hR; subst hR; kernel_rfl)) (hR.at rfl) (hR.at rfl) rfl (fun K hK => ?_) (fun K hK => ?_)
    rotate_left
    · refine wp_alloc48 rfl ?_
      have hB := (Below.refl _ wx).alloc (Nat.le_refl _) (.cells z48 48)
      have hY := At48.new hL.1
      have hXY := lt_of_block hL.2.1
      refine hK.out _ _ (hL.step hB) ?_
      replace hL := hL.step hB
      clear hB hK K
      generalize World.alloc _ _ = wz at hL hY ⊢
      generalize wx.heap.size = Y at hY hXY ⊢
      try simp only [Act.put, List.setIfInBounds_toArray, List.set_cons_zero, List.set_cons_succ]
      refine carry_run2 (i := 2) (fuel := 6) hlen hns (by as_aux_lemma => (unfold IsOps at hR; subst hR; kernel_rfl)) (hR.at rfl) rfl (fun K hK => ?_)
      go_simp
      refine (report_any q _ k3 k4 (hfq.now hL.1.2.2)).mono ?_
      rintro e wa ⟨es, ec, rfl, _, hB⟩
      go_wp2_with fail
      refine hK.out _ _ (hL.step hB) ?_
      replace hY := hY.step hB
      replace hL := hL.step hB
      clear hB
      clear hK K
      try simp only [Act.put, List.setIfInBounds_toArray, List.set_cons_zero, List.set_cons_succ]
      refine carry_run2 (i := 3) (fuel := 5) hlen hns (by as_aux_lemma => (unfold IsOps at hR; subst hR; kernel_rfl)) (hR.at rfl) rfl (fun K hK => ?_)
      go_simp
      refine (zzrep_any i1 (q.rep es ec) none 0 0 _ (ht.below hL.1.2.2) ⟨by decide, .inl rfl⟩ hgood.2.2.2.2.2.2.1 (hgood.2.2.2.2.1 ▸ tN30 _) (tN30 _)).mono ?_
      rintro e wb ⟨j', ev2, n2, c2, rfl, _, hj2, _, hn2, hB⟩
      obtain rfl : j' = i1 := hj2 rfl
      obtain rfl : n2 = 0 := hn2 rfl hgood.2.2.2.2.1.symm hgood.2.2.2.2.2.1.symm
      rw [hgood.again es ec]
      clear hj2 hn2
      go_wp2_with fail
      refine hK.out _ _ (hL.step hB) ?_
      replace hY := hY.step hB
      replace hL := hL.step hB
      clear hB
      clear hK K
      try simp only [Act.put, List.setIfInBounds_toArray, List.set_cons_zero, List.set_cons_succ]
      refine takes_run2 [(4, .tuple #[.agg j'.arr, .slice ev2 0 c2]), (5, .agg j'.arr), (6, .slice ev2 0 c2)] (fuel := 2) (d' := [6, 5, 4, 3, 2, 7, 1, 0]) (by as_aux_lemma => kernel_rfl) hns (by as_aux_lemma => (unfold IsOps at hR; subst hR; kernel_rfl)) rfl (fun _ _ _ _ _ h => h) hL (fun K hK => ?_)
      refine RunsThen.cons (hR.at rfl) (by intro wx hSw; go_simp <;> rfl) ?_
      try simp only [Act.put, List.setIfInBounds_toArray, List.set_cons_zero, List.set_cons_succ]
      refine RunsThen.cons (hR.at rfl) (by intro wx hSw; go_simp <;> rfl) ?_
      try simp only [Act.put, List.setIfInBounds_toArray, List.set_cons_zero, List.set_cons_succ]
      refine RunsThen.cons (hR.at rfl) (by intro wx hSw; go_simp <;> rfl) ?_
      try simp only [Act.put, List.setIfInBounds_toArray, List.set_cons_zero, List.set_cons_succ]
      refine RunsThen.nil (hK.out _ ?_)
      clear hK K
      refine carry_run2 (i := 8) (fuel := 1) hlen hns (by as_aux_lemma => (unfold IsOps at hR; subst hR; kernel_rfl)) (hR.at rfl) rfl (fun K hK => ?_)
      refine wp_store_row 48 (.tmp 9) (.tmp 38) rfl Y j'.arr rfl rfl 48 z48 hY.1 i48 rfl (ins_one _) ?_
      have hY' : At48 w _ Y j'.arr := ⟨setRow_heap _ Y z48 j'.arr 48 _ hY.1, hY.2⟩
      have hL' := hL.setRow hY.2 (Nat.ne_of_lt hXY) j'.arr
      refine hK.out _ _ hL' ?_
      clear hL hY hK K
      have hL := hL'
      generalize World.setRow _ _ _ = wy at hL hY' ⊢
      try simp only [Act.put, List.setIfInBounds_toArray, List.set_cons_zero, List.set_cons_succ]
      refine takes_run2 [(9, .slice ev2 0 c2)] (fuel := 0) (d' := [9, 8, 6, 5, 4, 3, 2, 7, 1, 0]) (by as_aux_lemma => kernel_rfl) hns (by as_aux_lemma => (unfold IsOps at hR; subst hR; kernel_rfl)) rfl (fun _ _ _ _ _ h => h) hL (fun K hK => ?_)
      refine RunsThen.cons (hR.at rfl) (by intro wx hSw; go_simp <;> rfl) ?_
      try simp only [Act.put, List.setIfInBounds_toArray, List.set_cons_zero, List.set_cons_succ]
      refine RunsThen.nil (hK.out _ ?_)
      clear hK K
      refine done_run hlen (by as_aux_lemma => kernel_rfl) ?_
      go_wp2_with fail
      go_meet
      case rel => exact ⟨Y, ev2, c2, rfl, rfl, hL.2, hY', hL.1⟩
    go_simp
    refine (report_any q _ k3 k4 (hfq.now hL.1.2.2)).mono ?_
    rintro e wa ⟨es, ec, rfl, _, hB⟩
    go_wp2_with fail
    refine hK.out _ _ (hL.step hB) ?_
    replace hL := hL.step hB
    clear hB
    clear hK K
    try simp only [Act.put, List.setIfInBounds_toArray, List.set_cons_zero, List.set_cons_succ]
    refine carry_two (i := 3) (k := 7) (fuel := 6) hlen hns (by as_aux_lemma => (unfold IsOps at hR; subst hR; kernel_rfl)) (hR.at rfl) (hR.at rfl) rfl (fun K hK => ?_) (fun K hK => ?_)
    rotate_left
    · refine wp_alloc48 rfl ?_
      have hB := (Below.refl _ wa).alloc (Nat.le_refl _) (.cells z48 48)
      have hY := At48.new hL.1
      have hXY := lt_of_block hL.2.1
      refine hK.out _ _ (hL.step hB) ?_
      replace hL := hL.step hB
      clear hB hK K
      generalize World.alloc _ _ = wz at hL hY ⊢
      generalize wa.heap.size = Y at hY hXY ⊢
      try simp only [Act.put, List.setIfInBounds_toArray, List.set_cons_zero, List.set_cons_succ]
      refine carry_run2 (i := 3) (fuel := 5) hlen hns (by as_aux_lemma => (unfold IsOps at hR; subst hR; kernel_rfl)) (hR.at rfl) rfl (fun K hK => ?_)
      go_simp
      refine (zzrep_any i1 (q.rep es ec) none 0 0 _ (ht.below hL.1.2.2) ⟨by decide, .inl rfl⟩ hgood.2.2.2.2.2.2.1 (hgood.2.2.2.2.1 ▸ tN30 _) (tN30 _)).mono ?_
      rintro e wb ⟨j', ev2, n2, c2, rfl, _, hj2, _, hn2, hB⟩
      obtain rfl : j' = i1 := hj2 rfl
      obtain rfl : n2 = 0 := hn2 rfl hgood.2.2.2.2.1.symm hgood.2.2.2.2.2.1.symm
      rw [hgood.again es ec]
      clear hj2 hn2
      go_wp2_with fail
      refine hK.out _ _ (hL.step hB) ?_
      replace hY := hY.step hB
      replace hL := hL.step hB
      clear hB
      clear hK K
      try simp only [Act.put, List.setIfInBounds_toArray, List.set_cons_zero, List.set_cons_succ]
      refine takes_run2 [(4, .tuple #[.agg j'.arr, .slice ev2 0 c2]), (5, .agg j'.arr), (6, .slice ev2 0 c2)] (fuel := 2) (d' := [6, 5, 4, 3, 7, 2, 1, 0]) (by as_aux_lemma => kernel_rfl) hns (by as_aux_lemma => (unfold IsOps at hR; subst hR; kernel_rfl)) rfl (fun _ _ _ _ _ h => h) hL (fun K hK => ?_)
      refine RunsThen.cons (hR.at rfl) (by intro wx hSw; go_simp <;> rfl) ?_
      try simp only [Act.put, List.setIfInBounds_toArray, List.set_cons_zero, List.set_cons_succ]
      refine RunsThen.cons (hR.at rfl) (by intro wx hSw; go_simp <;> rfl) ?_
      try simp only [Act.put, List.setIfInBounds_toArray, List.set_cons_zero, List.set_cons_succ]
      refine RunsThen.cons (hR.at rfl) (by intro wx hSw; go_simp <;> rfl) ?_
      try simp only [Act.put, List.setIfInBounds_toArray, List.set_cons_zero, List.set_cons_succ]
      refine RunsThen.nil (hK.out _ ?_)
      clear hK K
      refine carry_run2 (i := 8) (fuel := 1) hlen hns (by as_aux_lemma => (unfold IsOps at hR; subst hR; kernel_rfl)) (hR.at rfl) rfl (fun K hK => ?_)
      refine wp_store_row 48 (.tmp 9) (.tmp 38) rfl Y j'.arr rfl rfl 48 z48 hY.1 i48 rfl (ins_one _) ?_
      have hY' : At48 w _ Y j'.arr := ⟨setRow_heap _ Y z48 j'.arr 48 _ hY.1, hY.2⟩
      have hL' := hL.setRow hY.2 (Nat.ne_of_lt hXY) j'.arr
      refine hK.out _ _ hL' ?_
      clear hL hY hK K
      have hL := hL'
      generalize World.setRow _ _ _ = wy at hL hY' ⊢
      try simp only [Act.put, List.setIfInBounds_toArray, List.set_cons_zero, List.set_cons_succ]
      refine takes_run2 [(9, .slice ev2 0 c2)] (fuel := 0) (d' := [9, 8, 6, 5, 4, 3, 7, 2, 1, 0]) (by as_aux_lemma => kernel_rfl) hns (by as_aux_lemma => (unfold IsOps at hR; subst hR; kernel_rfl)) rfl (fun _ _ _ _ _ h => h) hL (fun K hK => ?_)
      refine RunsThen.cons (hR.at rfl) (by intro wx hSw; go_simp <;> rfl) ?_
      try simp only [Act.put, List.setIfInBounds_toArray, List.set_cons_zero, List.set_cons_succ]
      refine RunsThen.nil (hK.out _ ?_)
      clear hK K
      refine done_run hlen (by as_aux_lemma => kernel_rfl) ?_
      go_wp2_with fail
      go_meet
      case rel => exact ⟨Y, ev2, c2, rfl, rfl, hL.2, hY', hL.1⟩
    go_simp
    refine (zzrep_any i1 (q.rep es ec) none 0 0 _ (ht.below hL.1.2.2) ⟨by decide, .inl rfl⟩ hgood.2.2.2.2.2.2.1 (hgood.2.2.2.2.1 ▸ tN30 _) (tN30 _)).mono ?_
    rintro e wb ⟨j', ev2, n2, c2, rfl, _, hj2, _, hn2, hB⟩
    obtain rfl : j' = i1 := hj2 rfl
    obtain rfl : n2 = 0 := hn2 rfl hgood.2.2.2.2.1.symm hgood.2.2.2.2.2.1.symm
    rw [hgood.again es ec]
    clear hj2 hn2
    go_wp2_with fail
    refine hK.out _ _ (hL.step hB) ?_
    replace hL := hL.step hB
    clear hB
    clear hK K
    try simp only [Act.put, List.setIfInBounds_toArray, List.set_cons_zero, List.set_cons_succ]
    refine takes_run2 [(4, .tuple #[.agg j'.arr, .slice ev2 0 c2]), (5, .agg j'.arr), (6, .slice ev2 0 c2)] (fuel := 3) (d' := [6, 5, 4, 3, 2, 1, 0]) (by as_aux_lemma => kernel_rfl) hns (by as_aux_lemma => (unfold IsOps at hR; subst hR; kernel_rfl)) rfl (fun _ _ _ _ _ h => h) hL (fun K hK => ?_)
    refine RunsThen.cons (hR.at rfl) (by intro wx hSw; go_simp <;> rfl) ?_
    try simp only [Act.put, List.setIfInBounds_toArray, List.set_cons_zero, List.set_cons_succ]
    refine RunsThen.cons (hR.at rfl) (by intro wx hSw; go_simp <;> rfl) ?_
    try simp only [Act.put, List.setIfInBounds_toArray, List.set_cons_zero, List.set_cons_succ]
    refine RunsThen.cons (hR.at rfl) (by intro wx hSw; go_simp <;> rfl) ?_
    try simp only [Act.put, List.setIfInBounds_toArray, List.set_cons_zero, List.set_cons_succ]
    refine RunsThen.nil (hK.out _ ?_)
    clear hK K
    refine carry_run2 (i := 7) (fuel := 2) hlen hns (by as_aux_lemma => (unfold IsOps at hR; subst hR; kernel_rfl)) (hR.at rfl) rfl (fun K hK => ?_)
    refine wp_alloc48 rfl ?_
    have hB := (Below.refl _ wb).alloc (Nat.le_refl _) (.cells z48 48)
    have hY := At48.new hL.1
    have hXY := lt_of_block hL.2.1
    refine hK.out _ _ (hL.step hB) ?_
    replace hL := hL.step hB
    clear hB hK K
    generalize World.alloc _ _ = wz at hL hY ⊢
    generalize wb.heap.size = Y at hY hXY ⊢
    try simp only [Act.put, List.setIfInBounds_toArray, List.set_cons_zero, List.set_cons_succ]
    refine carry_run2 (i := 8) (fuel := 1) hlen hns (by as_aux_lemma => (unfold IsOps at hR; subst hR; kernel_rfl)) (hR.at rfl) rfl (fun K hK => ?_)
    refine wp_store_row 48 (.tmp 9) (.tmp 38) rfl Y j'.arr rfl rfl 48 z48 hY.1 i48 rfl (ins_one _) ?_
    have hY' : At48 w _ Y j'.arr := ⟨setRow_heap _ Y z48 j'.arr 48 _ hY.1, hY.2⟩
    have hL' := hL.setRow hY.2 (Nat.ne_of_lt hXY) j'.arr
    refine hK.out _ _ hL' ?_
    clear hL hY hK K
    have hL := hL'
    generalize World.setRow _ _ _ = wy at hL hY' ⊢
    try simp only [Act.put, List.setIfInBounds_toArray, List.set_cons_zero, List.set_cons_succ]
    refine takes_run2 [(9, .slice ev2 0 c2)] (fuel := 0) (d' := [9, 8, 7, 6, 5, 4, 3, 2, 1, 0]) (by as_aux_lemma => kernel_rfl) hns (by as_aux_lemma => (unfold IsOps at hR; subst hR; kernel_rfl)) rfl (fun _ _ _ _ _ h => h) hL (fun K hK => ?_)
    refine RunsThen.cons (hR.at rfl) (by intro wx hSw; go_simp <;> rfl) ?_
    try simp only [Act.put, List.setIfInBounds_toArray, List.set_cons_zero, List.set_cons_succ]
    refine RunsThen.nil (hK.out _ ?_)
    clear hK K
    refine done_run hlen (by as_aux_lemma => kernel_rfl) ?_
    go_wp2_with fail
    go_meet
    case rel => exact ⟨Y, ev2, c2, rfl, rfl, hL.2, hY', hL.1⟩
  case rest =>
  clear hL hX
  obtain ⟨Y, ev2, c2, rfl, rfl, hX, hY, hL⟩ := hcut
  have hln : (len : Int) ≤ (n : Int) := by omega
  have hz1 := hidden (fun w => zzsame_same i1 w hgood.2.2.2.2.2.2.1.1 hgood.2.2.2.2.2.2.1.2 (by rw [hgood.2.2.2.2.1]; exact (tN30 _).1) (by rw [hgood.2.2.2.2.1]; exact (tN30 _).2))
  have hz2 := hidden (fun (wx : World) (hb : Below w.heap.size w wx) => sameInst_same i1 wx.heap.size wx (by rw [hgood.2.2.2.2.2.2.2.1, hgood.2.2.2.2.2.2.2.2]; exact HS.out.now hb) (Nat.le_refl _))
  go_wp2_with (first
    | (refine BigFrame.wpList_want rfl fun K hK => wp_load_row 48 (.tmp 7) rfl X rfl 48 i1.arr (0, 0) _ hX.1 Tryd.underlying48 rfl i48 (hK _ _ ?_))
    | (refine BigFrame.wpList_want rfl fun K hK => wp_load_row 48 (.tmp 9) rfl Y rfl 48 i1.arr (0, 0) _ hY.1 Tryd.underlying48 rfl i48 (hK _ _ ?_))
    | (go_at_call 13; refine (hz1.out _).mono ?_; rintro e wd ⟨rfl, hB⟩; replace hX := hX.step hB; replace hY := hY.step hB; replace hL := hL.step hB; clear hB)
    | (go_at_call 14; refine (hz2.out _ hL.2.2).mono ?_; rintro e we ⟨rfl, hB⟩; replace hX := hX.step hB; replace hL := hL.step hB; clear hB; obtain ⟨g1, g2, g3, _⟩ := hgood; have d6 : we.cell? ⟨X, 6, none⟩ = some (.string q.rc) := (cell_of_row _ X 6 _ 48 _ hX.1).trans (g1 ▸ rfl); have d7 : we.cell? ⟨X, 7, none⟩ = some (.int .i64 q.rp) := (cell_of_row _ X 7 _ 48 _ hX.1).trans (g2 ▸ rfl); have d8 : we.cell? ⟨X, 8, none⟩ = some (.int .i64 q.rr) := (cell_of_row _ X 8 _ 48 _ hX.1).trans (g3 ▸ rfl); have e2 := (hL.c1 2).trans b2; have e3 := (hL.c1 3).trans b3; have e4 := (hL.c1 4).trans b4)
    | fail)
  go_ret
  exact ⟨rfl, hL.2.2⟩
end Go.Proofs.Qxb6618727aDoor
