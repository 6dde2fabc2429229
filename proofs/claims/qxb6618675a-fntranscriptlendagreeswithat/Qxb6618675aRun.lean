/-
  A DRAWN REGION OF MANY OPERATIONS, in few and small steps: the region's operations behind a name; that every operation waits for those whose values it looks at is asked ONCE (ssa); a whole run of readings is taken by one Bool (runChk).
-/
import Derived.Deep.RegionHeld3
import Derived.Laws.Rows
namespace Go.Proofs.Qxb6618675a
open Go

/-- Behind a name: no tactic looks into it. -/
def IsOps (l ops : List Oper) : Prop := l = ops
def nth : List Oper → Nat → Option Oper
  | [], _ => none
  | x :: _, 0 => some x
  | _ :: r, n + 1 => nth r n
theorem nth_eq : ∀ (l : List Oper) (i : Nat), nth l i = l[i]?
  | [], _ => rfl
  | _ :: _, 0 => rfl
  | _ :: r, n + 1 => by simp only [nth, List.getElem?_cons_succ]; exact nth_eq r n
theorem IsOps.at {l m : List Oper} {i : Nat} {o : Oper} (h : IsOps l m) (hi : nth m i = some o) : l.toArray[i]? = some o := by
  unfold IsOps at h; subst h; rw [nth_eq] at hi; simpa using hi

/-- What has come up: the list d. -/
def marks (n : Nat) : List Nat → Array Bool
  | [] => Array.replicate n false
  | i :: d => (marks n d).setIfInBounds i true
theorem marks_size (n : Nat) : ∀ d, (marks n d).size = n
  | [] => by simp [marks]
  | _ :: d => by simp [marks, marks_size n d]
theorem marks_get (n : Nat) (j : Nat) : ∀ d, (marks n d)[j]? = if j < n then some (d.contains j) else none
  | [] => by simp [marks, Array.getElem?_replicate]
  | i :: d => by
    simp only [marks, Array.getElem?_setIfInBounds, marks_size, marks_get n j d, List.contains_cons]
    by_cases h1 : i = j
    · subst h1; by_cases h2 : i < n <;> simp [h2]
    · have : (j == i) = false := by simpa using fun h => h1 h.symm
      simp [h1, this]
theorem marks_getD (n j : Nat) (d : List Nat) (b : Bool) : (marks n d).getD j b = if j < n then d.contains j else b := by
  rw [Array.getD_eq_getD_getElem?, marks_get]; split <;> rfl

def looks (o : Oper) : List Nat := o.op.operands.toList.filterMap fun | .tmp t => some t | _ => none
def waits (o : Oper) (i : Nat) : Bool := o.after.toList.any fun e => Region.binds .any e && Nat.beq e.on i
def noSel (o : Oper) : Bool := match o.op with | .select .. => false | _ => true
/-- y (number j) against x (number i): y waits for x if it looks at x's value; they write different slots. -/
def pairOk (x : Oper) (i : Nat) (y : Oper) (j : Nat) : Bool :=
  Nat.beq i j || match x.dst with
  | none => true
  | some d => ((looks y).all (fun t => !Nat.beq t d) || waits y i) && (match y.dst with | some d' => !Nat.beq d' d | none => true)
def pairsFrom (x : Oper) (i : Nat) : Nat → List Oper → Bool
  | _, [] => true
  | j, y :: r => pairOk x i y j && pairsFrom x i (j + 1) r
def ssaFrom (l : List Oper) : Nat → List Oper → Bool
  | _, [] => true
  | i, x :: r => x.guard.isNone && noSel x && pairsFrom x i 0 l && ssaFrom l (i + 1) r
def ssa (l : List Oper) : Bool := ssaFrom l 0 l

theorem pairsFrom_spec {x : Oper} {i : Nat} : ∀ {l : List Oper} {k : Nat}, pairsFrom x i k l = true → ∀ j y, l[j]? = some y → pairOk x i y (k + j) = true
  | [], _, _, _, _, h => by simp at h
  | z :: r, k, hc, j, y, h => by
    simp only [pairsFrom, Bool.and_eq_true] at hc
    cases j with
    | zero => simp only [List.getElem?_cons_zero, Option.some.injEq] at h; subst h; exact hc.1
    | succ j => simp only [List.getElem?_cons_succ] at h; have := pairsFrom_spec hc.2 j y h; rwa [Nat.add_right_comm, Nat.add_assoc] at this
theorem ssaFrom_spec {l : List Oper} : ∀ {r : List Oper} {k : Nat}, ssaFrom l k r = true → ∀ i x, r[i]? = some x → x.guard = none ∧ noSel x = true ∧ pairsFrom x (k + i) 0 l = true
  | [], _, _, _, _, h => by simp at h
  | z :: r, k, hc, i, x, h => by
    simp only [ssaFrom, Bool.and_eq_true, Option.isNone_iff_eq_none] at hc
    cases i with
    | zero => simp only [List.getElem?_cons_zero, Option.some.injEq] at h; subst h; exact ⟨hc.1.1.1, hc.1.1.2, hc.1.2⟩
    | succ i => simp only [List.getElem?_cons_succ] at h; have := ssaFrom_spec hc.2 i x h; rwa [Nat.add_right_comm, Nat.add_assoc] at this

theorem ssa_guard {l : List Oper} (hs : ssa l = true) {i : Nat} {x : Oper} (h : l[i]? = some x) : x.guard = none := (ssaFrom_spec hs i x h).1
theorem ssa_sel {l : List Oper} (hs : ssa l = true) {i : Nat} {x : Oper} (h : l[i]? = some x) (cs : Array SelectCase) (b : Bool) : x.op ≠ .select cs b := by
  have := (ssaFrom_spec hs i x h).2.1
  intro he; simp [noSel, he] at this
theorem ssa_pair {l : List Oper} (hs : ssa l = true) {i j : Nat} {x y : Oper} (hx : l[i]? = some x) (hy : l[j]? = some y) (hne : i ≠ j) {d : Nat} (hd : x.dst = some d) :
    (d ∈ looks y → ∃ e ∈ y.after, Region.binds .any e = true ∧ e.on = i) ∧ y.dst ≠ some d := by
  have h := pairsFrom_spec (ssaFrom_spec hs i x hx).2.2 j y hy
  simp only [Nat.zero_add, pairOk, hd, Bool.or_eq_true, Nat.beq_eq, hne, false_or, Bool.and_eq_true] at h
  refine ⟨fun hm => ?_, fun he => ?_⟩
  · rcases h.1 with h1 | h1
    · have := List.all_eq_true.1 h1 d hm; simp at this
    · obtain ⟨e, he, hb⟩ := List.any_eq_true.1 h1
      simp only [Bool.and_eq_true, Nat.beq_eq] at hb
      exact ⟨e, by simpa using he, hb.1, hb.2⟩
  · have := h.2; simp [he] at this

theorem looksAt_eq {R : Array Oper} {o : Oper} (hg : o.guard = none) : o.looksAt R = looks o := by
  unfold Oper.looksAt looks; rw [hg]; exact List.append_nil _

def freed (o : Oper) (n : Nat) (d : List Nat) : Bool := o.after.toList.all fun e => !Region.binds .any e || (Nat.blt e.on n && d.contains e.on)
def okTake (l : List Oper) (n : Nat) (d : List Nat) (i : Nat) : Bool :=
  Nat.blt i n && !d.contains i && (match nth l i with | some o => o.dst.isSome && freed o n d | none => false)
def runChk (l : List Oper) (n : Nat) : List Nat → List Nat → Bool
  | [], _ => true
  | i :: r, d => okTake l n d i && runChk l n r (i :: d)
/-- The readings 'is', one after the other from the state 'a' on, each with its value in every world that meets S; then K. -/
def RunsThen (P : Program) (R : Array Oper) (S : World → Prop) : List (Nat × Value) → Act → (Act → Prop) → Prop
  | [], a, K => K a
  | (i, v) :: r, a, K => ∃ o, R[i]? = some o ∧ (∀ w, S w → (execOp a.eval o).run P w = .ok (.value v) w) ∧ RunsThen P R S r (a.put o.dst v) K

section
variable {P : Program} {l : List Oper} {Q : Exit → Act → World → Prop} {S : World → Prop}

theorem RunsThen.cons {R : Array Oper} {i : Nat} {v : Value} {r : List (Nat × Value)} {a : Act} {K : Act → Prop} {o : Oper} (ho : R[i]? = some o)
    (hy : ∀ w, S w → (execOp a.eval o).run P w = .ok (.value v) w) (h : RunsThen P R S r (a.put o.dst v) K) : RunsThen P R S ((i, v) :: r) a K := ⟨o, ho, hy, h⟩
theorem RunsThen.nil {R : Array Oper} {a : Act} {K : Act → Prop} (h : K a) : RunsThen P R S [] a K := h

theorem region_named {id n : Nat} {ops : List Oper} {a : Act} {w : World} (hm : P.follows .mixedOrders = true) (hn : ops.length = n) (hS : S w.drew)
    (h : ∀ l, IsOps l ops → wpAnyH P .any l.toArray Q S n (marks n []) a w.drew) : (Code.region id ops.toArray true).wp P Q a w :=
  wp_region_held_drew hm hS fun _ => by
    have := h ops rfl
    simp only [List.size_toArray, hn]
    exact this

theorem ready_of {n i : Nat} {d : List Nat} {o : Oper} (ho : l.toArray[i]? = some o) (hi : i < n) (hd : d.contains i = false) (hf : freed o n d = true) :
    i ∈ Region.ready .any l.toArray (marks n d) := by
  refine mem_ready.2 ⟨by rw [marks_getD, if_pos hi, hd], o, ho, fun e he hb => ?_⟩
  have := List.all_eq_true.1 hf e (by simpa using he)
  simp only [hb, Bool.not_true, Bool.false_or, Bool.and_eq_true, Nat.blt_eq] at this
  rw [marks_getD, if_pos this.1, this.2]

theorem takes_aux {n : Nat} (hs : ssa l = true) (hQ : ∀ c a d v w, Q (.panic c) (Act.put a (some d) v) w → Q (.panic c) a w) {w : World} (hS : S w) {fuel : Nat} :
    ∀ (is : List (Nat × Value)) (d : List Nat) (a : Act), runChk l n (is.map Prod.fst) d = true →
      RunsThen P l.toArray S is a (fun a' => wpAnyH P .any l.toArray Q S fuel (marks n ((is.map Prod.fst).reverse ++ d)) a' w) → wpAnyH P .any l.toArray Q S (fuel + is.length) (marks n d) a w
  | [], _, _, _, h => h
  | (i, v) :: r, d, a, hc, ⟨o, ho, hy, h⟩ => by
    simp only [List.map_cons, runChk, okTake, Bool.and_eq_true] at hc
    have hol : l[i]? = some o := by simpa using ho
    rw [nth_eq, hol] at hc
    simp only [Bool.and_eq_true, Nat.blt_eq, Bool.not_eq_true', Option.isSome_iff_exists] at hc
    obtain ⟨⟨⟨h1, h2⟩, ⟨dst, h3⟩, h4⟩, h5⟩ := hc
    have hw : Region.wanted o (yielded l.toArray a.tmps) = true := by simp [Region.wanted, ssa_guard hs hol]
    have hr := ready_of ho h1 h2 h4
    refine wpAnyH_first ho (fun j x cs b hj => ssa_sel hs (i := j) (by simpa using hj) cs b) (fun c a w => by rw [h3]; exact hQ c a _ _ w) _ _ _ _ ?_ hr (Or.inl ⟨hw, hy⟩) hS
      (takes_aux hs hQ hS r (i :: d) _ h5 (by simpa using h))
    intro j oj hj hne hun hno
    have hjl : l[j]? = some oj := by simpa using hj
    obtain ⟨p1, p2⟩ := ssa_pair hs hol hjl (Ne.symm hne) h3
    have e1 : (looks oj).contains dst = false := by
      cases hcx : (looks oj).contains dst with
      | false => rfl
      | true => obtain ⟨e, he, hb, hon⟩ := p1 (by simpa using hcx); exact absurd hon (hno e he hb)
    have e2 : ∀ d', oj.dst = some d' → (looks o).contains d' = false := fun d' hd' => by
      cases hcx : (looks o).contains d' with
      | false => rfl
      | true =>
        obtain ⟨e, he, hb, hon⟩ := (ssa_pair hs hjl hol hne hd').1 (by simpa using hcx)
        obtain ⟨_, o', ho', hall⟩ := mem_ready.1 hr
        rw [ho] at ho'; cases ho'
        have h6 := hall e he hb
        rw [hon] at h6
        rw [marks_getD] at hun h6
        split at hun
        · rw [if_pos ‹_›] at h6; rw [hun] at h6; cases h6
        · cases hun
    unfold Oper.apart
    rw [looksAt_eq (ssa_guard hs hol), looksAt_eq (ssa_guard hs hjl), h3]
    simp only [e1, Bool.not_false, Bool.true_and, Bool.and_eq_true, bne_iff_ne, ne_eq, p2, not_false_iff, true_and]
    split
    · rw [e2 _ ‹_›]; rfl
    · rfl

theorem takes_run {n fuel m : Nat} {d d' : List Nat} {a : Act} {w : World} (is : List (Nat × Value)) (hm : m = fuel + is.length) (hs : ssa l = true)
    (hc : runChk l n (is.map Prod.fst) d = true) (hd : d' = (is.map Prod.fst).reverse ++ d) (hQ : ∀ c a d v w, Q (.panic c) (Act.put a (some d) v) w → Q (.panic c) a w) (hS : S w)
    (h : ∀ K : Act → Prop, Shut (∀ a', wpAnyH P .any l.toArray Q S fuel (marks n d') a' w → K a') → RunsThen P l.toArray S is a K) : wpAnyH P .any l.toArray Q S m (marks n d) a w := by
  subst hm hd
  exact takes_aux hs hQ hS is d a hc (h _ fun _ h => h)

/-- Number i alone may come up. -/
def onlyFrom (n : Nat) (d : List Nat) (i : Nat) : Nat → List Oper → Bool
  | _, [] => true
  | j, o :: r => (d.contains j || (if Nat.beq j i then freed o n d else !freed o n d)) && onlyFrom n d i (j + 1) r
theorem onlyFrom_spec {n : Nat} {d : List Nat} {i : Nat} : ∀ {l : List Oper} {k : Nat}, onlyFrom n d i k l = true → ∀ j o, l[j]? = some o → d.contains (k + j) = true ∨ (if Nat.beq (k + j) i then freed o n d else !freed o n d) = true
  | [], _, _, _, _, h => by simp at h
  | z :: r, k, hc, j, y, h => by
    simp only [onlyFrom, Bool.and_eq_true, Bool.or_eq_true] at hc
    cases j with
    | zero => simp only [List.getElem?_cons_zero, Option.some.injEq] at h; subst h; exact hc.1
    | succ j => simp only [List.getElem?_cons_succ] at h; have := onlyFrom_spec hc.2 j y h; rwa [Nat.add_right_comm, Nat.add_assoc] at this

theorem freed_of_ready {n j : Nat} {d : List Nat} {o : Oper} (hn : l.length = n) (ho : l[j]? = some o) (hj : j ∈ Region.ready .any l.toArray (marks n d)) : d.contains j = false ∧ freed o n d = true := by
  obtain ⟨h1, o', h2, h3⟩ := mem_ready.1 hj
  rw [show l.toArray[j]? = some o by simpa using ho] at h2; cases h2
  have hjn : j < n := by rw [← hn]; exact (List.getElem?_eq_some_iff.1 ho).1
  rw [marks_getD, if_pos hjn] at h1
  refine ⟨h1, List.all_eq_true.2 fun e he => ?_⟩
  by_cases hb : Region.binds .any e = true
  · have := h3 e (by simpa using he) hb
    rw [marks_getD] at this
    split at this
    · simp only [hb, Bool.not_true, Bool.false_or, Bool.and_eq_true, Nat.blt_eq]; exact ⟨‹_›, this⟩
    · cases this
  · simp [hb]

theorem carry_run {n i fuel : Nat} {o : Oper} {d : List Nat} {a : Act} {w : World} (hn : l.length = n) (hs : ssa l = true) (hr : onlyFrom n d i 0 l = true) (ho : l.toArray[i]? = some o) (hd : d.contains i = false)
    (h : ∀ K' : Act → World → Prop, Shut (∀ a w, S w → wpAnyH P .any l.toArray Q S fuel (marks n (i :: d)) a w → K' a w) → Oper.wp P o a w K' Q) :
    wpAnyH P .any l.toArray Q S (fuel + 1) (marks n d) a w := by
  have hol : l[i]? = some o := by simpa using ho
  have hi : i < n := by rw [← hn]; exact (List.getElem?_eq_some_iff.1 hol).1
  have hfr : freed o n d = true := by
    have := onlyFrom_spec hr i o hol
    rw [Nat.zero_add, hd] at this
    simpa using this
  have hin := ready_of ho hi hd hfr
  refine wpAnyH_ready rfl (fun h0 => by rw [h0] at hin; cases hin) fun j hj => ?_
  have hji : j = i := by
    obtain ⟨_, oj, hoj, _⟩ := mem_ready.1 hj
    have hjl : l[j]? = some oj := by simpa using hoj
    obtain ⟨q1, q2⟩ := freed_of_ready hn hjl hj
    have := onlyFrom_spec hr j oj hjl
    rw [Nat.zero_add, q1, q2] at this
    simpa using this
  subst hji
  have hw : Region.wanted o (yielded l.toArray a.tmps) = true := by simp [Region.wanted, ssa_guard hs hol]
  exact AllReadyH.cons ho (fun K' hK => by rw [if_pos hw]; exact h K' fun a w hS hW => hK.out a w hS (fun _ => hW)) AllReadyH.nil j (by simp)

theorem done_run {n fuel : Nat} {d : List Nat} {a : Act} {w : World} (hn : l.length = n) (hd : (List.range n).all d.contains = true) (h : Q .normal a w) :
    wpAnyH P .any l.toArray Q S fuel (marks n d) a w := by
  refine wpAnyH_done ?_ h _
  refine List.eq_nil_iff_forall_not_mem.2 fun j hj => ?_
  obtain ⟨h1, o, h2, _⟩ := mem_ready.1 hj
  have hjn : j < n := by rw [← hn]; simpa using (Array.getElem?_eq_some_iff.1 h2).1
  rw [marks_getD, if_pos hjn] at h1
  rw [List.all_eq_true.1 hd j (List.mem_range.2 hjn)] at h1
  cases h1
end

/-- y (number j) against x (number i): if y looks at x's slot, one of the two waits for the other; they write different slots. -/
def pairOk2 (x : Oper) (i : Nat) (y : Oper) (j : Nat) : Bool :=
  Nat.beq i j || match x.dst with
  | none => true
  | some d => ((looks y).all (fun t => !Nat.beq t d) || waits y i || waits x j) && (match y.dst with | some d' => !Nat.beq d' d | none => true)
def pairsFrom2 (x : Oper) (i : Nat) : Nat → List Oper → Bool
  | _, [] => true
  | j, y :: r => pairOk2 x i y j && pairsFrom2 x i (j + 1) r
def ssaFrom2 (l : List Oper) : Nat → List Oper → Bool
  | _, [] => true
  | i, x :: r => x.guard.isNone && noSel x && pairsFrom2 x i 0 l && ssaFrom2 l (i + 1) r
def ssa2 (l : List Oper) : Bool := ssaFrom2 l 0 l

theorem pairsFrom_spec2 {x : Oper} {i : Nat} : ∀ {l : List Oper} {k : Nat}, pairsFrom2 x i k l = true → ∀ j y, l[j]? = some y → pairOk2 x i y (k + j) = true
  | [], _, _, _, _, h => by simp at h
  | z :: r, k, hc, j, y, h => by
    simp only [pairsFrom2, Bool.and_eq_true] at hc
    cases j with
    | zero => simp only [List.getElem?_cons_zero, Option.some.injEq] at h; subst h; exact hc.1
    | succ j => simp only [List.getElem?_cons_succ] at h; have := pairsFrom_spec2 hc.2 j y h; rwa [Nat.add_right_comm, Nat.add_assoc] at this
theorem ssaFrom_spec2 {l : List Oper} : ∀ {r : List Oper} {k : Nat}, ssaFrom2 l k r = true → ∀ i x, r[i]? = some x → x.guard = none ∧ noSel x = true ∧ pairsFrom2 x (k + i) 0 l = true
  | [], _, _, _, _, h => by simp at h
  | z :: r, k, hc, i, x, h => by
    simp only [ssaFrom2, Bool.and_eq_true, Option.isNone_iff_eq_none] at hc
    cases i with
    | zero => simp only [List.getElem?_cons_zero, Option.some.injEq] at h; subst h; exact ⟨hc.1.1.1, hc.1.1.2, hc.1.2⟩
    | succ i => simp only [List.getElem?_cons_succ] at h; have := ssaFrom_spec2 hc.2 i x h; rwa [Nat.add_right_comm, Nat.add_assoc] at this

theorem ssa_guard2 {l : List Oper} (hs : ssa2 l = true) {i : Nat} {x : Oper} (h : l[i]? = some x) : x.guard = none := (ssaFrom_spec2 hs i x h).1
theorem ssa_sel2 {l : List Oper} (hs : ssa2 l = true) {i : Nat} {x : Oper} (h : l[i]? = some x) (cs : Array SelectCase) (b : Bool) : x.op ≠ .select cs b := by
  have := (ssaFrom_spec2 hs i x h).2.1
  intro he; simp [noSel, he] at this
theorem ssa_pair2 {l : List Oper} (hs : ssa2 l = true) {i j : Nat} {x y : Oper} (hx : l[i]? = some x) (hy : l[j]? = some y) (hne : i ≠ j) {d : Nat} (hd : x.dst = some d) :
    (d ∈ looks y → (∃ e ∈ y.after, Region.binds .any e = true ∧ e.on = i) ∨ ∃ e ∈ x.after, Region.binds .any e = true ∧ e.on = j) ∧ y.dst ≠ some d := by
  have h := pairsFrom_spec2 (ssaFrom_spec2 hs i x hx).2.2 j y hy
  simp only [Nat.zero_add, pairOk2, hd, Bool.or_eq_true, Nat.beq_eq, hne, false_or, Bool.and_eq_true] at h
  refine ⟨fun hm => ?_, fun he => ?_⟩
  · rcases h.1 with (h1 | h1) | h1
    · have := List.all_eq_true.1 h1 d hm; simp at this
    · obtain ⟨e, he, hb⟩ := List.any_eq_true.1 h1
      simp only [Bool.and_eq_true, Nat.beq_eq] at hb
      exact .inl ⟨e, by simpa using he, hb.1, hb.2⟩
    · obtain ⟨e, he, hb⟩ := List.any_eq_true.1 h1
      simp only [Bool.and_eq_true, Nat.beq_eq] at hb
      exact .inr ⟨e, by simpa using he, hb.1, hb.2⟩
  · have := h.2; simp [he] at this

section
variable {P : Program} {l : List Oper} {Q : Exit → Act → World → Prop} {S : World → Prop}
theorem takes_aux2 {n : Nat} (hs : ssa2 l = true) (hQ : ∀ c a d v w, Q (.panic c) (Act.put a (some d) v) w → Q (.panic c) a w) {w : World} (hS : S w) {fuel : Nat} :
    ∀ (is : List (Nat × Value)) (d : List Nat) (a : Act), runChk l n (is.map Prod.fst) d = true →
      RunsThen P l.toArray S is a (fun a' => wpAnyH P .any l.toArray Q S fuel (marks n ((is.map Prod.fst).reverse ++ d)) a' w) → wpAnyH P .any l.toArray Q S (fuel + is.length) (marks n d) a w
  | [], _, _, _, h => h
  | (i, v) :: r, d, a, hc, ⟨o, ho, hy, h⟩ => by
    simp only [List.map_cons, runChk, okTake, Bool.and_eq_true] at hc
    have hol : l[i]? = some o := by simpa using ho
    rw [nth_eq, hol] at hc
    simp only [Bool.and_eq_true, Nat.blt_eq, Bool.not_eq_true', Option.isSome_iff_exists] at hc
    obtain ⟨⟨⟨h1, h2⟩, ⟨dst, h3⟩, h4⟩, h5⟩ := hc
    have hw : Region.wanted o (yielded l.toArray a.tmps) = true := by simp [Region.wanted, ssa_guard2 hs hol]
    have hr := ready_of ho h1 h2 h4
    refine wpAnyH_first ho (fun j x cs b hj => ssa_sel2 hs (i := j) (by simpa using hj) cs b) (fun c a w => by rw [h3]; exact hQ c a _ _ w) _ _ _ _ ?_ hr (Or.inl ⟨hw, hy⟩) hS
      (takes_aux2 hs hQ hS r (i :: d) _ h5 (by simpa using h))
    intro j oj hj hne hun hno
    have hjl : l[j]? = some oj := by simpa using hj
    obtain ⟨p1, p2⟩ := ssa_pair2 hs hol hjl (Ne.symm hne) h3
    have hdone : ∀ e ∈ o.after, Region.binds .any e = true → e.on = j → False := fun e he hb hon => by
      obtain ⟨_, o', ho', hall⟩ := mem_ready.1 hr
      rw [ho] at ho'; cases ho'
      have h6 := hall e he hb
      rw [hon] at h6
      rw [marks_getD] at hun h6
      split at hun
      · rw [if_pos ‹_›] at h6; rw [hun] at h6; cases h6
      · cases hun
    have e1 : (looks oj).contains dst = false := by
      cases hcx : (looks oj).contains dst with
      | false => rfl
      | true =>
        rcases p1 (by simpa using hcx) with ⟨e, he, hb, hon⟩ | ⟨e, he, hb, hon⟩
        · exact absurd hon (hno e he hb)
        · exact (hdone e he hb hon).elim
    have e2 : ∀ d', oj.dst = some d' → (looks o).contains d' = false := fun d' hd' => by
      cases hcx : (looks o).contains d' with
      | false => rfl
      | true =>
        rcases (ssa_pair2 hs hjl hol hne hd').1 (by simpa using hcx) with ⟨e, he, hb, hon⟩ | ⟨e, he, hb, hon⟩
        · exact (hdone e he hb hon).elim
        · exact absurd hon (hno e he hb)
    unfold Oper.apart
    rw [looksAt_eq (ssa_guard2 hs hol), looksAt_eq (ssa_guard2 hs hjl), h3]
    simp only [e1, Bool.not_false, Bool.true_and, Bool.and_eq_true, bne_iff_ne, ne_eq, p2, not_false_iff, true_and]
    split
    · rw [e2 _ ‹_›]; rfl
    · rfl

theorem takes_run2 {n fuel m : Nat} {d d' : List Nat} {a : Act} {w : World} (is : List (Nat × Value)) (hm : m = fuel + is.length) (hs : ssa2 l = true)
    (hc : runChk l n (is.map Prod.fst) d = true) (hd : d' = (is.map Prod.fst).reverse ++ d) (hQ : ∀ c a d v w, Q (.panic c) (Act.put a (some d) v) w → Q (.panic c) a w) (hS : S w)
    (h : ∀ K : Act → Prop, Shut (∀ a', wpAnyH P .any l.toArray Q S fuel (marks n d') a' w → K a') → RunsThen P l.toArray S is a K) : wpAnyH P .any l.toArray Q S m (marks n d) a w := by
  subst hm hd
  exact takes_aux2 hs hQ hS is d a hc (h _ fun _ h => h)

theorem carry_run2 {n i fuel : Nat} {o : Oper} {d : List Nat} {a : Act} {w : World} (hn : l.length = n) (hs : ssa2 l = true) (hr : onlyFrom n d i 0 l = true) (ho : l.toArray[i]? = some o) (hd : d.contains i = false)
    (h : ∀ K' : Act → World → Prop, Shut (∀ a w, S w → wpAnyH P .any l.toArray Q S fuel (marks n (i :: d)) a w → K' a w) → Oper.wp P o a w K' Q) :
    wpAnyH P .any l.toArray Q S (fuel + 1) (marks n d) a w := by
  have hol : l[i]? = some o := by simpa using ho
  have hi : i < n := by rw [← hn]; exact (List.getElem?_eq_some_iff.1 hol).1
  have hfr : freed o n d = true := by
    have := onlyFrom_spec hr i o hol
    rw [Nat.zero_add, hd] at this
    simpa using this
  have hin := ready_of ho hi hd hfr
  refine wpAnyH_ready rfl (fun h0 => by rw [h0] at hin; cases hin) fun j hj => ?_
  have hji : j = i := by
    obtain ⟨_, oj, hoj, _⟩ := mem_ready.1 hj
    have hjl : l[j]? = some oj := by simpa using hoj
    obtain ⟨q1, q2⟩ := freed_of_ready hn hjl hj
    have := onlyFrom_spec hr j oj hjl
    rw [Nat.zero_add, q1, q2] at this
    simpa using this
  subst hji
  have hw : Region.wanted o (yielded l.toArray a.tmps) = true := by simp [Region.wanted, ssa_guard2 hs hol]
  exact AllReadyH.cons ho (fun K' hK => by rw [if_pos hw]; exact h K' fun a w hS hW => hK.out a w hS (fun _ => hW)) AllReadyH.nil j (by simp)

end
/-- Numbers i and k alone may come up. -/
def twoFrom (n : Nat) (d : List Nat) (i k : Nat) : Nat → List Oper → Bool
  | _, [] => true
  | j, o :: r => (d.contains j || (if Nat.beq j i || Nat.beq j k then freed o n d else !freed o n d)) && twoFrom n d i k (j + 1) r
theorem twoFrom_spec {n : Nat} {d : List Nat} {i k : Nat} : ∀ {l : List Oper} {m : Nat}, twoFrom n d i k m l = true → ∀ j o, l[j]? = some o → d.contains (m + j) = true ∨ (if Nat.beq (m + j) i || Nat.beq (m + j) k then freed o n d else !freed o n d) = true
  | [], _, _, _, _, h => by simp at h
  | z :: r, m, hc, j, y, h => by
    simp only [twoFrom, Bool.and_eq_true, Bool.or_eq_true] at hc
    cases j with
    | zero => simp only [List.getElem?_cons_zero, Option.some.injEq] at h; subst h; simpa using hc.1
    | succ j => simp only [List.getElem?_cons_succ] at h; have := twoFrom_spec hc.2 j y h; rwa [Nat.add_right_comm, Nat.add_assoc] at this

theorem carry_two {P : Program} {l : List Oper} {Q : Exit → Act → World → Prop} {S : World → Prop} {n i k fuel : Nat} {o p : Oper} {d : List Nat} {a : Act} {w : World} (hn : l.length = n) (hs : ssa2 l = true) (hr : twoFrom n d i k 0 l = true)
    (ho : l.toArray[i]? = some o) (hp : l.toArray[k]? = some p) (hd : d.contains i = false)
    (h1 : ∀ K' : Act → World → Prop, Shut (∀ a w, S w → wpAnyH P .any l.toArray Q S fuel (marks n (i :: d)) a w → K' a w) → Oper.wp P o a w K' Q)
    (h2 : ∀ K' : Act → World → Prop, Shut (∀ a w, S w → wpAnyH P .any l.toArray Q S fuel (marks n (k :: d)) a w → K' a w) → Oper.wp P p a w K' Q) :
    wpAnyH P .any l.toArray Q S (fuel + 1) (marks n d) a w := by
  have hol : l[i]? = some o := by simpa using ho
  have hpl : l[k]? = some p := by simpa using hp
  have hi : i < n := by rw [← hn]; exact (List.getElem?_eq_some_iff.1 hol).1
  have hfr : freed o n d = true := by
    have := twoFrom_spec hr i o hol
    rw [Nat.zero_add, hd] at this
    simpa using this
  have hin := ready_of ho hi hd hfr
  refine wpAnyH_ready rfl (fun h0 => by rw [h0] at hin; cases hin) fun j hj => ?_
  have hji : j = i ∨ j = k := by
    obtain ⟨_, oj, hoj, _⟩ := mem_ready.1 hj
    have hjl : l[j]? = some oj := by simpa using hoj
    obtain ⟨q1, q2⟩ := freed_of_ready hn hjl hj
    have := twoFrom_spec hr j oj hjl
    rw [Nat.zero_add, q1, q2] at this
    simpa using this
  have hw : Region.wanted o (yielded l.toArray a.tmps) = true := by simp [Region.wanted, ssa_guard2 hs hol]
  have hw2 : Region.wanted p (yielded l.toArray a.tmps) = true := by simp [Region.wanted, ssa_guard2 hs hpl]
  exact AllReadyH.cons ho (fun K' hK => by rw [if_pos hw]; exact h1 K' fun a w hS hW => hK.out a w hS (fun _ => hW))
    (AllReadyH.cons hp (fun K' hK => by rw [if_pos hw2]; exact h2 K' fun a w hS hW => hK.out a w hS (fun _ => hW)) AllReadyH.nil) j (by simpa using hji)

theorem exec_row {P : Program} {o : Oper} {a : Act} {w : World} (ty : TypeId) (x : Operand) (ho : o.op = .load ty x)
    (g : Nat) (hx : a.eval x = .pointer (some ⟨g, 0, none⟩)) (t : TypeId) (cs : Array Value) (fr : Nat × Nat) (d : TypeDesc) (hg : w.heap[g]? = some (.cells cs t fr))
    (hu : P.underlying ty = some d) (hd : (match d with | .struct _ | .array _ _ => true | _ => false) = true) (hi : (P.info? ty).map (·.size) = some cs.size) : (execOp a.eval o).run P w = .ok (.value (.agg cs)) w := by
  unfold execOp
  simp only [ho, hx, Instr.loadAt, Instr.sureAddr, Sem.run_bind, Sem.run_pure, Result.andThen_ok, run_loadVar_row w g t ty cs fr d hg hu hd hi]
end Go.Proofs.Qxb6618675a
