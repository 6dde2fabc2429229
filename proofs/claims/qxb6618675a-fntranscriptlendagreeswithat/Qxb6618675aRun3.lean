/-
  AS THE RUN OF READINGS, in a function that defers: a reading's slot is not the result's.
-/
import Derived.Test.Qxb6618675aRun
import Derived.Defers
namespace Go.Proofs.Qxb6618675a
open Go

def offBad (bad : Nat) (l : List Oper) (i : Nat) : Bool := match nth l i with | some o => (match o.dst with | some x => !Nat.beq x bad | none => true) | none => true
def runChk3 (bad : Nat) (l : List Oper) (n : Nat) : List Nat → List Nat → Bool
  | [], _ => true
  | i :: r, d => okTake l n d i && offBad bad l i && runChk3 bad l n r (i :: d)
section
variable {P : Program} {l : List Oper} {Q : Exit → Act → World → Prop} {S : World → Prop}
theorem takes_aux3 {n : Nat} (hs : ssa2 l = true) {bad : Nat} (hQ : ∀ c a d v w, d ≠ bad → Q (.panic c) (Act.put a (some d) v) w → Q (.panic c) a w) {w : World} (hS : S w) {fuel : Nat} :
    ∀ (is : List (Nat × Value)) (d : List Nat) (a : Act), runChk3 bad l n (is.map Prod.fst) d = true →
      RunsThen P l.toArray S is a (fun a' => wpAnyH P .any l.toArray Q S fuel (marks n ((is.map Prod.fst).reverse ++ d)) a' w) → wpAnyH P .any l.toArray Q S (fuel + is.length) (marks n d) a w
  | [], _, _, _, h => h
  | (i, v) :: r, d, a, hc, ⟨o, ho, hy, h⟩ => by
    simp only [List.map_cons, runChk3, okTake, offBad, Bool.and_eq_true] at hc
    have hol : l[i]? = some o := by simpa using ho
    rw [nth_eq, hol] at hc
    simp only [Bool.and_eq_true, Nat.blt_eq, Bool.not_eq_true', Option.isSome_iff_exists] at hc
    obtain ⟨⟨⟨⟨h1, h2⟩, ⟨dst, h3⟩, h4⟩, h0⟩, h5⟩ := hc
    rw [h3] at h0
    have hbad : dst ≠ bad := fun e => by rw [e] at h0; simp at h0
    have hw : Region.wanted o (yielded l.toArray a.tmps) = true := by simp [Region.wanted, ssa_guard2 hs hol]
    have hr := ready_of ho h1 h2 h4
    refine wpAnyH_first ho (fun j x cs b hj => ssa_sel2 hs (i := j) (by simpa using hj) cs b) (fun c a w => by rw [h3]; exact hQ c a _ _ w hbad) _ _ _ _ ?_ hr (Or.inl ⟨hw, hy⟩) hS
      (takes_aux3 hs hQ hS r (i :: d) _ h5 (by simpa using h))
    intro j oj hj hne hun hno
    have hjl : l[j]? = some oj := by simpa using hj
    obtain ⟨p1, p2⟩ := ssa_pair2 hs hol hjl (Ne.symm hne) h3
    have hdone : ∀ e ∈ o.after, Region.binds .any e = true → e.on = j → False := fun e he hb hon => by
      obtain ⟨_, o', ho', hall⟩ := mem_ready.1 hr
      rw [ho] at ho'; cases ho'
      have h6 := hall e he hb
      rw [hon] at h6
      rw [marks_getD] at hun h6
      split at hun
      · rw [if_pos ‹_›] at h6; rw [hun] at h6; cases h6
      · cases hun
    have e1 : (looks oj).contains dst = false := by
      cases hcx : (looks oj).contains dst with
      | false => rfl
      | true =>
        rcases p1 (by simpa using hcx) with ⟨e, he, hb, hon⟩ | ⟨e, he, hb, hon⟩
        · exact absurd hon (hno e he hb)
        · exact (hdone e he hb hon).elim
    have e2 : ∀ d', oj.dst = some d' → (looks o).contains d' = false := fun d' hd' => by
      cases hcx : (looks o).contains d' with
      | false => rfl
      | true =>
        rcases (ssa_pair2 hs hjl hol hne hd').1 (by simpa using hcx) with ⟨e, he, hb, hon⟩ | ⟨e, he, hb, hon⟩
        · exact (hdone e he hb hon).elim
        · exact absurd hon (hno e he hb)
    unfold Oper.apart
    rw [looksAt_eq (ssa_guard2 hs hol), looksAt_eq (ssa_guard2 hs hjl), h3]
    simp only [e1, Bool.not_false, Bool.true_and, Bool.and_eq_true, bne_iff_ne, ne_eq, p2, not_false_iff, true_and]
    split
    · rw [e2 _ ‹_›]; rfl
    · rfl

theorem takes_run3 {n fuel m bad : Nat} {d d' : List Nat} {a : Act} {w : World} (is : List (Nat × Value)) (hm : m = fuel + is.length) (hs : ssa2 l = true)
    (hc : runChk3 bad l n (is.map Prod.fst) d = true) (hd : d' = (is.map Prod.fst).reverse ++ d) (hQ : ∀ c a d v w, d ≠ bad → Q (.panic c) (Act.put a (some d) v) w → Q (.panic c) a w) (hS : S w)
    (h : ∀ K : Act → Prop, Shut (∀ a', wpAnyH P .any l.toArray Q S fuel (marks n d') a' w → K a') → RunsThen P l.toArray S is a K) : wpAnyH P .any l.toArray Q S m (marks n d) a w := by
  subst hm hd
  exact takes_aux3 hs hQ hS is d a hc (h _ fun _ h => h)

end
theorem leaves_tmps {P : Program} {fn : Func} {t t' : Array Value} {R : Ending → World → Prop} (he : results fn t = results fn t') : ∀ (ds : List Deferred) (u : FrameMode) (w : World), Leaves P fn t R ds u w → Leaves P fn t' R ds u w
  | [], .returning, w, h => by unfold Leaves at h ⊢; rw [← he]; exact h
  | [], .panicking _, w, h => h
  | [], .run, _, h => h
  | d :: ds, u, w, h => by
    unfold Leaves at h ⊢
    obtain ⟨h1, fv, cap, f, args, h2, h3, h4⟩ := h
    refine ⟨h1, fv, cap, f, args, h2, h3, h4.mono ?_⟩
    intro e u' w' h5
    cases e with
    | returned v => exact leaves_tmps he ds _ _ h5
    | panicked c => exact leaves_tmps he ds _ _ h5
    | outgrown => exact h5
end Go.Proofs.Qxb6618675a
