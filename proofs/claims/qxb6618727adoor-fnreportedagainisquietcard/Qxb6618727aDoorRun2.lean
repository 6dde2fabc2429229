/-
  AS Run.lean, where one of a region's operations writes a slot that another, which it waits for, has read.
-/
import Derived.Test.Qxb6618727aDoorRun
namespace Go.Proofs.Qxb6618727aDoor
open Go

/-- y (number j) against x (number i): if y looks at x's slot, one of the two waits for the other; they write different slots. -/
def pairOk2 (x : Oper) (i : Nat) (y : Oper) (j : Nat) : Bool :=
  Nat.beq i j || match x.dst with
  | none => true
  | some d => ((looks y).all (fun t => !Nat.beq t d) || waits y i || waits x j) && (match y.dst with | some d' => !Nat.beq d' d | none => true)
def pairsFrom2 (x : Oper) (i : Nat) : Nat → List Oper → Bool
  | _, [] => true
  | j, y :: r => pairOk2 x i y j && pairsFrom2 x i (j + 1) r
def ssaFrom2 (l : List Oper) : Nat → List Oper → Bool
  | _, [] => true
  | i, x :: r => x.guard.isNone && noSel x && pairsFrom2 x i 0 l && ssaFrom2 l (i + 1) r
def ssa2 (l : List Oper) : Bool := ssaFrom2 l 0 l

theorem pairsFrom_spec2 {x : Oper} {i : Nat} : ∀ {l : List Oper} {k : Nat}, pairsFrom2 x i k l = true → ∀ j y, l[j]? = some y → pairOk2 x i y (k + j) = true
  | [], _, _, _, _, h => by simp at h
  | z :: r, k, hc, j, y, h => by
    simp only [pairsFrom2, Bool.and_eq_true] at hc
    cases j with
    | zero => simp only [List.getElem?_cons_zero, Option.some.injEq] at h; subst h; exact hc.1
    | succ j => simp only [List.getElem?_cons_succ] at h; have := pairsFrom_spec2 hc.2 j y h; rwa [Nat.add_right_comm, Nat.add_assoc] at this
theorem ssaFrom_spec2 {l : List Oper} : ∀ {r : List Oper} {k : Nat}, ssaFrom2 l k r = true → ∀ i x, r[i]? = some x → x.guard = none ∧ noSel x = true ∧ pairsFrom2 x (k + i) 0 l = true
  | [], _, _, _, _, h => by simp at h
  | z :: r, k, hc, i, x, h => by
    simp only [ssaFrom2, Bool.and_eq_true, Option.isNone_iff_eq_none] at hc
    cases i with
    | zero => simp only [List.getElem?_cons_zero, Option.some.injEq] at h; subst h; exact ⟨hc.1.1.1, hc.1.1.2, hc.1.2⟩
    | succ i => simp only [List.getElem?_cons_succ] at h; have := ssaFrom_spec2 hc.2 i x h; rwa [Nat.add_right_comm, Nat.add_assoc] at this

theorem ssa_guard2 {l : List Oper} (hs : ssa2 l = true) {i : Nat} {x : Oper} (h : l[i]? = some x) : x.guard = none := (ssaFrom_spec2 hs i x h).1
theorem ssa_sel2 {l : List Oper} (hs : ssa2 l = true) {i : Nat} {x : Oper} (h : l[i]? = some x) (cs : Array SelectCase) (b : Bool) : x.op ≠ .select cs b := by
  have := (ssaFrom_spec2 hs i x h).2.1
  intro he; simp [noSel, he] at this
theorem ssa_pair2 {l : List Oper} (hs : ssa2 l = true) {i j : Nat} {x y : Oper} (hx : l[i]? = some x) (hy : l[j]? = some y) (hne : i ≠ j) {d : Nat} (hd : x.dst = some d) :
    (d ∈ looks y → (∃ e ∈ y.after, Region.binds .any e = true ∧ e.on = i) ∨ ∃ e ∈ x.after, Region.binds .any e = true ∧ e.on = j) ∧ y.dst ≠ some d := by
  have h := pairsFrom_spec2 (ssaFrom_spec2 hs i x hx).2.2 j y hy
  simp only [Nat.zero_add, pairOk2, hd, Bool.or_eq_true, Nat.beq_eq, hne, false_or, Bool.and_eq_true] at h
  refine ⟨fun hm => ?_, fun he => ?_⟩
  · rcases h.1 with (h1 | h1) | h1
    · have := List.all_eq_true.1 h1 d hm; simp at this
    · obtain ⟨e, he, hb⟩ := List.any_eq_true.1 h1
      simp only [Bool.and_eq_true, Nat.beq_eq] at hb
      exact .inl ⟨e, by simpa using he, hb.1, hb.2⟩
    · obtain ⟨e, he, hb⟩ := List.any_eq_true.1 h1
      simp only [Bool.and_eq_true, Nat.beq_eq] at hb
      exact .inr ⟨e, by simpa using he, hb.1, hb.2⟩
  · have := h.2; simp [he] at this

section
variable {P : Program} {l : List Oper} {Q : Exit → Act → World → Prop} {S : World → Prop}
theorem takes_aux2 {n : Nat} (hs : ssa2 l = true) (hQ : ∀ c a d v w, Q (.panic c) (Act.put a (some d) v) w → Q (.panic c) a w) {w : World} (hS : S w) {fuel : Nat} :
    ∀ (is : List (Nat × Value)) (d : List Nat) (a : Act), runChk l n (is.map Prod.fst) d = true →
      RunsThen P l.toArray S is a (fun a' => wpAnyH P .any l.toArray Q S fuel (marks n ((is.map Prod.fst).reverse ++ d)) a' w) → wpAnyH P .any l.toArray Q S (fuel + is.length) (marks n d) a w
  | [], _, _, _, h => h
  | (i, v) :: r, d, a, hc, ⟨o, ho, hy, h⟩ => by
    simp only [List.map_cons, runChk, okTake, Bool.and_eq_true] at hc
    have hol : l[i]? = some o := by simpa using ho
    rw [nth_eq, hol] at hc
    simp only [Bool.and_eq_true, Nat.blt_eq, Bool.not_eq_true', Option.isSome_iff_exists] at hc
    obtain ⟨⟨⟨h1, h2⟩, ⟨dst, h3⟩, h4⟩, h5⟩ := hc
    have hw : Region.wanted o (yielded l.toArray a.tmps) = true := by simp [Region.wanted, ssa_guard2 hs hol]
    have hr := ready_of ho h1 h2 h4
    refine wpAnyH_first ho (fun j x cs b hj => ssa_sel2 hs (i := j) (by simpa using hj) cs b) (fun c a w => by rw [h3]; exact hQ c a _ _ w) _ _ _ _ ?_ hr (Or.inl ⟨hw, hy⟩) hS
      (takes_aux2 hs hQ hS r (i :: d) _ h5 (by simpa using h))
    intro j oj hj hne hun hno
    have hjl : l[j]? = some oj := by simpa using hj
    obtain ⟨p1, p2⟩ := ssa_pair2 hs hol hjl (Ne.symm hne) h3
    have hdone : ∀ e ∈ o.after, Region.binds .any e = true → e.on = j → False := fun e he hb hon => by
      obtain ⟨_, o', ho', hall⟩ := mem_ready.1 hr
      rw [ho] at ho'; cases ho'
      have h6 := hall e he hb
      rw [hon] at h6
      rw [marks_getD] at hun h6
      split at hun
      · rw [if_pos ‹_›] at h6; rw [hun] at h6; cases h6
      · cases hun
    have e1 : (looks oj).contains dst = false := by
      cases hcx : (looks oj).contains dst with
      | false => rfl
      | true =>
        rcases p1 (by simpa using hcx) with ⟨e, he, hb, hon⟩ | ⟨e, he, hb, hon⟩
        · exact absurd hon (hno e he hb)
        · exact (hdone e he hb hon).elim
    have e2 : ∀ d', oj.dst = some d' → (looks o).contains d' = false := fun d' hd' => by
      cases hcx : (looks o).contains d' with
      | false => rfl
      | true =>
        rcases (ssa_pair2 hs hjl hol hne hd').1 (by simpa using hcx) with ⟨e, he, hb, hon⟩ | ⟨e, he, hb, hon⟩
        · exact (hdone e he hb hon).elim
        · exact absurd hon (hno e he hb)
    unfold Oper.apart
    rw [looksAt_eq (ssa_guard2 hs hol), looksAt_eq (ssa_guard2 hs hjl), h3]
    simp only [e1, Bool.not_false, Bool.true_and, Bool.and_eq_true, bne_iff_ne, ne_eq, p2, not_false_iff, true_and]
    split
    · rw [e2 _ ‹_›]; rfl
    · rfl

theorem takes_run2 {n fuel m : Nat} {d d' : List Nat} {a : Act} {w : World} (is : List (Nat × Value)) (hm : m = fuel + is.length) (hs : ssa2 l = true)
    (hc : runChk l n (is.map Prod.fst) d = true) (hd : d' = (is.map Prod.fst).reverse ++ d) (hQ : ∀ c a d v w, Q (.panic c) (Act.put a (some d) v) w → Q (.panic c) a w) (hS : S w)
    (h : ∀ K : Act → Prop, Shut (∀ a', wpAnyH P .any l.toArray Q S fuel (marks n d') a' w → K a') → RunsThen P l.toArray S is a K) : wpAnyH P .any l.toArray Q S m (marks n d) a w := by
  subst hm hd
  exact takes_aux2 hs hQ hS is d a hc (h _ fun _ h => h)

theorem carry_run2 {n i fuel : Nat} {o : Oper} {d : List Nat} {a : Act} {w : World} (hn : l.length = n) (hs : ssa2 l = true) (hr : onlyFrom n d i 0 l = true) (ho : l.toArray[i]? = some o) (hd : d.contains i = false)
    (h : ∀ K' : Act → World → Prop, Shut (∀ a w, S w → wpAnyH P .any l.toArray Q S fuel (marks n (i :: d)) a w → K' a w) → Oper.wp P o a w K' Q) :
    wpAnyH P .any l.toArray Q S (fuel + 1) (marks n d) a w := by
  have hol : l[i]? = some o := by simpa using ho
  have hi : i < n := by rw [← hn]; exact (List.getElem?_eq_some_iff.1 hol).1
  have hfr : freed o n d = true := by
    have := onlyFrom_spec hr i o hol
    rw [Nat.zero_add, hd] at this
    simpa using this
  have hin := ready_of ho hi hd hfr
  refine wpAnyH_ready rfl (fun h0 => by rw [h0] at hin; cases hin) fun j hj => ?_
  have hji : j = i := by
    obtain ⟨_, oj, hoj, _⟩ := mem_ready.1 hj
    have hjl : l[j]? = some oj := by simpa using hoj
    obtain ⟨q1, q2⟩ := freed_of_ready hn hjl hj
    have := onlyFrom_spec hr j oj hjl
    rw [Nat.zero_add, q1, q2] at this
    simpa using this
  subst hji
  have hw : Region.wanted o (yielded l.toArray a.tmps) = true := by simp [Region.wanted, ssa_guard2 hs hol]
  exact AllReadyH.cons ho (fun K' hK => by rw [if_pos hw]; exact h K' fun a w hS hW => hK.out a w hS (fun _ => hW)) AllReadyH.nil j (by simp)

end
end Go.Proofs.Qxb6618727aDoor
