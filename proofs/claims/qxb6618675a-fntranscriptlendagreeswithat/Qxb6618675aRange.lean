/-
  THE WALK of zzb1SameRange, at a loan that holds the range.
-/
import Derived.Test.Qxb6618675aLend
import Derived.Test.Qxb6618675aLawA
import Derived.Test.Qxb6618675aOpen
namespace Go.Proofs.Qxb6618675a
open Go.RowKit
set_option linter.unusedSimpArgs false
set_option linter.unusedVariables false

/-- Two rows in the midst of blocks. -/
def Two (b o : Nat) (cs : List Value) (b' o' : Nat) (cs' : List Value) (wx : World) : Prop := wx.rangeAt b o cs ∧ wx.rangeAt b' o' cs'
theorem range_step {b o : Nat} {cs : List Value} {w w' : World} (h : w.rangeAt b o cs) (hb : Below w.heap.size w w') : w'.rangeAt b o cs := fun j v hj => (hb.cell (p := ⟨b, o + j, none⟩) (cell_lt (h j v hj))).trans (h j v hj)
theorem Two.step {b o b' o' : Nat} {cs cs' : List Value} {w w' : World} (h : Two b o cs b' o' cs' w) (hb : Below w.heap.size w w') : Two b o cs b' o' cs' w' := ⟨range_step h.1 hb, range_step h.2 hb⟩
theorem exec_mid {P : Program} {o : Oper} {a : Act} {w : World} (ty : TypeId) (x : Operand) (ho : o.op = .load ty x) (b f : Nat) (hx : a.eval x = .pointer (some ⟨b, f, none⟩)) (cs : List Value) (d : TypeDesc) (hc : w.rangeAt b f cs)
    (hu : P.underlying ty = some d) (hd : d.isRow = true) (hi : (P.info? ty).map (·.size) = some cs.length) : (execOp a.eval o).run P w = .ok (.value (.agg cs.toArray)) w := by
  unfold execOp
  simp only [ho, hx, Instr.loadAt, Instr.sureAddr, Sem.run_bind, Sem.run_pure, Result.andThen_ok, run_loadVar_mid w b f ty cs d hc hu hd hi]
/-- A slice of messages in memory, whatever its room. -/
def Lies (w : World) (a : Option Addr) (ps : List MsgD) : Prop := ps = [] ∨ ∃ b off, a = some ⟨b, off, none⟩ ∧ MsgsAt w (Old w.heap.size) (Old w.heap.size) b off ps
theorem lies_at {w wx : World} {a : Option Addr} {k : Nat} {ds : List MsgD} {d : MsgD} (h : Lies w a ds) (hb : Below w.heap.size w wx) (hd : ds[k]? = some d) :
    ∃ b off vc vr, a = some ⟨b, off, none⟩ ∧ wx.rangeAt b (off + k * 5) [.string d.role, .string d.text, .string d.ref, vc, vr] ∧ MsgSl wx (Old wx.heap.size) vc vr d := by
  obtain ⟨b, off, rfl, hat⟩ := h.resolve_left (fun e => by rw [e] at hd; simp at hd)
  obtain ⟨vc, vr, hc, hs⟩ := ((hat k d hd).go (Sub.old hb.size) (SameOn.old hb) (Sub.old hb.size) (SameOn.old hb)).cur
  exact ⟨b, off, vc, vr, rfl, cur_range hc, hs⟩

set_option maxRecDepth 100000 in
set_option maxHeartbeats 8000000 in
theorem same_range (ds : List MsgD) (a3 a : Option Addr) (m rc len cap i j : Nat) (w : World) (hgot : Lies w a3 ((ds.drop i).take m)) (hgiv : IsOld w (.slice a len cap) ds) (hsm : Small ds) (hlen : ds.length = len) (hj : j ≤ len) (hm : j = i + m) :
    Calls Try.prog 15 #[.slice a3 m rc, .slice a len cap, .int .i64 i, .int .i64 j] w (TrueB w) := by
  have HG := hidden hgot
  have H0 := hidden hgiv
  have HS := hidden hsm
  have hn := hsm.1
  rw [hlen] at hn
  clear hgot hgiv hsm
  have hji : (j : Int) - (i : Int) = (m : Int) := by omega
  have hij : i + m ≤ len := by omega
  clear hm
  go_enter Try.func15, Try.ntmps15
  go_wp2_with fail
  go_loopw [9] (fun kv wr => ∃ k : Nat, k ≤ m ∧ kv = .int .i64 k ∧ Below w.heap.size w wr) (fun kv _ => m - (intOf kv).toNat)
  case atStart => exact ⟨0, Nat.zero_le _, rfl, Below.refl _ _⟩
  case round =>
    obtain ⟨k, hk, rfl, hbel⟩ := hrel
    by_cases hlt : k < m
    · have hi : (k : Int) < (m : Int) := by omega
      obtain ⟨d, hd⟩ : ∃ d, ds[i + k]? = some d := ⟨_, List.getElem?_eq_getElem (by omega)⟩
      have hd' : ((ds.drop i).take m)[k]? = some d := by rw [List.getElem?_take, if_pos hlt, List.getElem?_drop]; exact hd
      go_upto_region 6 with fail
      have hbw := hbel.drew
      obtain ⟨g, o, vc, vr, hg, hr1, hs1⟩ := lies_at HG.out hbw hd'
      obtain ⟨b, off, zc, zr, ha, hr2, hs2⟩ := given_at H0.out hbw hd
      have HA1 := hidden hg
      have HA2 := hidden ha
      clear hg ha
      have hL : Two g (o + k * 5) [.string d.role, .string d.text, .string d.ref, vc, vr] b (off + (i + k) * 5) [.string d.role, .string d.text, .string d.ref, zc, zr] wr.drew := ⟨hr1, hr2⟩
      refine region_named (S := Two g (o + k * 5) [.string d.role, .string d.text, .string d.ref, vc, vr] b (off + (i + k) * 5) [.string d.role, .string d.text, .string d.ref, zc, zr]) (n := 12) (by as_aux_lemma => kernel_rfl) (by as_aux_lemma => kernel_rfl) hL (fun R hR => ?_)
      clear hr1 hr2
      generalize wr.drew = wd at hL hbw hs1 hs2 ⊢
      have hns : ssa2 R = true := by as_aux_lemma => (unfold IsOps at hR; subst hR; kernel_rfl)
      have hlenR : R.length = 12 := by as_aux_lemma => (unfold IsOps at hR; subst hR; kernel_rfl)
      have hwr : IntKind.i64.wrap ((i : Int) + k) = i + k := IntWalk.i64_in _ (by omega)
      have hik : (i : Int) + k < len := by omega
      have hik0 : ¬ (i : Int) + k < 0 := by omega
      have hnk : ((i : Int) + k).toNat = i + k := by omega
      refine takes_run2 [(0, .slice a3 m rc), (1, .int .i64 k), (2, .pointer (some ⟨g, o + k * 5, none⟩)), (3, .agg (m5 d vc vr)), (4, .slice a len cap), (5, .int .i64 i), (6, .int .i64 k), (7, .int .i64 (i + k)), (8, .pointer (some ⟨b, off + (i + k) * 5, none⟩)), (9, .agg (m5 d zc zr))] (fuel := 2) (d' := [9, 8, 7, 6, 5, 4, 3, 2, 1, 0]) (by as_aux_lemma => kernel_rfl) hns (by as_aux_lemma => (unfold IsOps at hR; subst hR; kernel_rfl)) rfl (fun _ _ _ _ _ h => h) hL (fun K hK => ?_)
      refine RunsThen.cons (hR.at rfl) (by intro wx hSw; go_simp <;> rfl) ?_
      try simp only [Act.put, List.setIfInBounds_toArray, List.set_cons_zero, List.set_cons_succ]
      refine RunsThen.cons (hR.at rfl) (by intro wx hSw; go_simp <;> rfl) ?_
      try simp only [Act.put, List.setIfInBounds_toArray, List.set_cons_zero, List.set_cons_succ]
      refine RunsThen.cons (hR.at rfl) (by intro wx hSw; rw [HA1.out]; go_simp <;> rfl) ?_
      try simp only [Act.put, List.setIfInBounds_toArray, List.set_cons_zero, List.set_cons_succ]
      refine RunsThen.cons (hR.at rfl) (by intro wx hSw; exact exec_mid 35 (.tmp 24) rfl g (o + k * 5) rfl [.string d.role, .string d.text, .string d.ref, vc, vr] _ hSw.1 Try.underlying35 rfl i35) ?_
      try simp only [Act.put, List.setIfInBounds_toArray, List.set_cons_zero, List.set_cons_succ]
      refine RunsThen.cons (hR.at rfl) (by intro wx hSw; go_simp <;> rfl) ?_
      try simp only [Act.put, List.setIfInBounds_toArray, List.set_cons_zero, List.set_cons_succ]
      refine RunsThen.cons (hR.at rfl) (by intro wx hSw; go_simp <;> rfl) ?_
      try simp only [Act.put, List.setIfInBounds_toArray, List.set_cons_zero, List.set_cons_succ]
      refine RunsThen.cons (hR.at rfl) (by intro wx hSw; go_simp <;> rfl) ?_
      try simp only [Act.put, List.setIfInBounds_toArray, List.set_cons_zero, List.set_cons_succ]
      refine RunsThen.cons (hR.at rfl) (by intro wx hSw; go_simp <;> rfl) ?_
      try simp only [Act.put, List.setIfInBounds_toArray, List.set_cons_zero, List.set_cons_succ]
      refine RunsThen.cons (hR.at rfl) (by intro wx hSw; rw [HA2.out]; go_simp <;> rfl) ?_
      try simp only [Act.put, List.setIfInBounds_toArray, List.set_cons_zero, List.set_cons_succ]
      refine RunsThen.cons (hR.at rfl) (by intro wx hSw; exact exec_mid 41 (.tmp 30) rfl b (off + (i + k) * 5) rfl [.string d.role, .string d.text, .string d.ref, zc, zr] _ hSw.2 Try.underlying41 rfl i41) ?_
      try simp only [Act.put, List.setIfInBounds_toArray, List.set_cons_zero, List.set_cons_succ]
      refine RunsThen.nil (hK.out _ ?_)
      clear hK K
      refine carry_run2 (i := 10) (fuel := 1) hlenR hns (by as_aux_lemma => (unfold IsOps at hR; subst hR; kernel_rfl)) (hR.at rfl) rfl (fun K hK => ?_)
      go_simp
      refine (same_msg d vc vr zc zr wd hs1 hs2 (HS.out.2.1 d (List.mem_of_getElem? hd))).mono ?_
      rintro E w7 ⟨rfl, hB7⟩
      go_wp2_with fail
      replace hL := hL.step hB7
      replace hbw := hbw.trans (hB7.mono hbw.size)
      refine hK.out _ _ hL ?_
      clear hK K hB7
      try simp only [Act.put, List.setIfInBounds_toArray, List.set_cons_zero, List.set_cons_succ]
      refine takes_run2 [(11, .bool false)] (fuel := 0) (d' := [11, 10, 9, 8, 7, 6, 5, 4, 3, 2, 1, 0]) (by as_aux_lemma => kernel_rfl) hns (by as_aux_lemma => (unfold IsOps at hR; subst hR; kernel_rfl)) rfl (fun _ _ _ _ _ h => h) hL (fun K hK => ?_)
      refine RunsThen.cons (hR.at rfl) (by intro wx hSw; go_simp <;> rfl) ?_
      try simp only [Act.put, List.setIfInBounds_toArray, List.set_cons_zero, List.set_cons_succ]
      refine RunsThen.nil (hK.out _ ?_)
      clear hK K
      refine done_run hlenR (by as_aux_lemma => kernel_rfl) ?_
      clear hR hns hlenR R
      go_wp2_with fail
      go_roundw
      case rel => exact ⟨k + 1, by omega, by go_num, hbw⟩
      case measure => simp [intOf]; omega
    · have hi : ¬ (k : Int) < (m : Int) := by omega
      go_wp2_with fail
      go_ret
      exact ⟨rfl, hbel⟩
end Go.Proofs.Qxb6618675a
