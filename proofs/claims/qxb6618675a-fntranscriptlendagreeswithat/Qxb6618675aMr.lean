/-
  THE WALK of makeRoom.
-/
import Derived.Test.Qxb6618675aRoom
import Derived.Test.Qxb6618675aRun
namespace Go.Proofs.Qxb6618675a
open Go.RowKit
set_option linter.unusedSimpArgs false

/-- The arena's 7 cells. -/
def ar (st sm : Int) (v1 v2 v3 v4 : Value) : Array Value := #[.int .i32 st, .int .u32 sm, v1, v2, v3, v4, .bool false]
theorem ar_facts (st sm : Int) (v1 v2 v3 v4 : Value) : (ar st sm v1 v2 v3 v4)[0]? = some (.int .i32 st) ∧ (ar st sm v1 v2 v3 v4)[1]? = some (.int .u32 sm) ∧ (ar st sm v1 v2 v3 v4)[2]? = some v1 ∧ (ar st sm v1 v2 v3 v4)[3]? = some v2 ∧ (ar st sm v1 v2 v3 v4)[4]? = some v3 ∧ (ar st sm v1 v2 v3 v4)[5]? = some v4 ∧ (ar st sm v1 v2 v3 v4)[6]? = some (.bool false) := ⟨rfl, rfl, rfl, rfl, rfl, rfl, rfl⟩
/-- All but block P stays. -/
structure Keep (P : Nat) (w w' : World) : Prop where
  os : w'.os = w.os
  tape : w'.tape = w.tape
  output : w'.output = w.output
  hsize : w.heap.size ≤ w'.heap.size
  block : ∀ b, b < w.heap.size → b ≠ P → w'.heap[b]? = w.heap[b]?
theorem Keep.refl (P : Nat) (w : World) : Keep P w w := ⟨rfl, rfl, rfl, Nat.le_refl _, fun _ _ _ => rfl⟩
theorem Keep.trans {P : Nat} {a b c : World} (h : Keep P a b) (k : Keep P b c) : Keep P a c :=
  ⟨k.os.trans h.os, k.tape.trans h.tape, k.output.trans h.output, Nat.le_trans h.hsize k.hsize, fun x hx hne => (k.block x (Nat.lt_of_lt_of_le hx h.hsize) hne).trans (h.block x hx hne)⟩
theorem Keep.of_below {P : Nat} {w w' : World} (h : Below w.heap.size w w') : Keep P w w' := ⟨h.os, h.tape, h.output, h.size, fun b hb _ => h.block b hb⟩
theorem Keep.below {P N : Nat} {w w' : World} (h : Keep P w w') (hN : N ≤ P) (hs : N ≤ w.heap.size) : Below N w w' := ⟨h.os, h.tape, h.output, h.hsize, fun k hk => h.block k (by omega) (by omega)⟩
theorem Keep.grown {P : Nat} {w w' : World} (h : Keep P w w') : w.grownBy w' (some P) := ⟨h.os, h.tape, h.output, h.hsize, fun b hb hne => h.block b hb (fun e => hne (by rw [e]))⟩
theorem ownsRow_type {w : World} {base e size n : Nat} {v : Value} {xs : List Value} {C : Array Value} {P : Nat} (h : w.ownsRow base e size v n xs) (hP : AtP C P w) (he : e ≠ 64) : v.ownBlock ≠ some P := by
  intro hv
  obtain ⟨_, ⟨rfl, _⟩ | ⟨g, cap, cur, rfl, _, hh, _⟩⟩ := h
  · cases hv
  · have : g = P := by cases hv; rfl
    subst this
    unfold AtP at hP
    rw [hh] at hP
    simp at hP
    exact he hP.2
theorem ownsRow_keep {w w' : World} {base e size n : Nat} {v : Value} {xs : List Value} {C : Array Value} {P : Nat} (h : w.ownsRow base e size v n xs) (hP : AtP C P w) (he : e ≠ 64) (hk : Keep P w w') : w'.ownsRow base e size v n xs :=
  h.kept hk.grown (.inr (ownsRow_type h hP he))
/-- A row that is not nil, of n elements at the most. -/
def RowN (A0 e size n : Nat) (w : World) (v : Value) : Prop := ∃ g m cap xs, v = .slice (some ⟨g, 0, none⟩) m cap ∧ w.ownsRow A0 e size v m xs ∧ m ≤ n
theorem RowN.keep {A0 e size n P : Nat} {w w' : World} {v : Value} {C : Array Value} (h : RowN A0 e size n w v) (hP : AtP C P w) (he : e ≠ 64) (hk : Keep P w w') : RowN A0 e size n w' v := by
  obtain ⟨g, m, cap, xs, e1, h, hm⟩ := h
  exact ⟨g, m, cap, xs, e1, ownsRow_keep h hP he hk, hm⟩
def MrPost (A0 P n1 n2 n3 n4 : Nat) (st sm : Int) (w : World) (E : Ending) (w' : World) : Prop :=
  E = .returned (.tuple #[]) ∧ ∃ v1 v2 v3 v4, AtP (ar st sm v1 v2 v3 v4) P w' ∧ RowN A0 35 5 n1 w' v1 ∧ RowN A0 69 3 n2 w' v2 ∧ RowN A0 71 4 n3 w' v3 ∧ RowN A0 5 1 n4 w' v4 ∧ Keep P w w'

/-- The boxed sizes. -/
def SX (X : Nat) (s1 s2 s3 s4 : Int) (wx : World) : Prop := wx.heap[X]? = some (.cells #[.int .i64 s1, .int .i64 s2, .int .i64 s3, .int .i64 s4] 74 (0, 0))

set_option maxRecDepth 100000 in
set_option maxHeartbeats 8000000 in
theorem make_room (A0 P n1 n2 n3 n4 : Nat) (st sm : Int) (v1 v2 v3 v4 : Value) (xs1 xs2 xs3 xs4 : List Value) (s1 s2 s3 s4 : Int) (w : World) (hP : AtP (ar st sm v1 v2 v3 v4) P w)
    (r1 : w.ownsRow A0 35 5 v1 n1 xs1) (r2 : w.ownsRow A0 69 3 v2 n2 xs2) (r3 : w.ownsRow A0 71 4 v3 n3 xs3) (r4 : w.ownsRow A0 5 1 v4 n4 xs4) (hA : A0 ≤ w.heap.size)
    (b1 : 0 ≤ s1 ∧ s1 ≤ 1099511627776) (b2 : 0 ≤ s2 ∧ s2 ≤ 1099511627776) (b3 : 0 ≤ s3 ∧ s3 ≤ 1099511627776) (b4 : 0 ≤ s4 ∧ s4 ≤ 1099511627776) :
    Calls Try.prog 25 #[.pointer (some ⟨P, 2, none⟩), .agg #[.int .i64 s1, .int .i64 s2, .int .i64 s3, .int .i64 s4], .int .i64 256] w (MrPost A0 P n1 n2 n3 n4 st sm w) := by
  have hbx := (Below.refl _ w).alloc (Nat.le_refl _) (.cells #[.int .i64 s1, .int .i64 s2, .int .i64 s3, .int .i64 s4] 74)
  have hlt : P < w.heap.size := lt_of_block hP
  go_enter Try.func25, Try.ntmps25
  go_wp2_with fail
  have hX := heap_alloc_new w (.cells #[.int .i64 s1, .int .i64 s2, .int .i64 s3, .int .i64 s4] 74)
  have hk : Keep P w (w.alloc (.cells #[.int .i64 s1, .int .i64 s2, .int .i64 s3, .int .i64 s4] 74)) := Keep.of_below hbx
  have hne : w.heap.size ≠ P := by omega
  have hA' : A0 ≤ (w.alloc (.cells #[.int .i64 s1, .int .i64 s2, .int .i64 s3, .int .i64 s4] 74)).heap.size := Nat.le_trans hA hk.hsize
  replace r1 := ownsRow_keep r1 hP (by decide) hk
  replace r2 := ownsRow_keep r2 hP (by decide) hk
  replace r3 := ownsRow_keep r3 hP (by decide) hk
  replace r4 := ownsRow_keep r4 hP (by decide) hk
  replace hP : AtP (ar st sm v1 v2 v3 v4) P _ := (hbx.block P hlt).trans hP
  clear hbx hlt hA
  generalize w.heap.size = X at hX hne ⊢
  generalize World.alloc _ _ = w1 at hX hk r1 r2 r3 r4 hP hA' ⊢
  have hS : SX X s1 s2 s3 s4 w1.drew := hX
  refine region_named (S := SX X s1 s2 s3 s4) (n := 7) (by as_aux_lemma => kernel_rfl) (by as_aux_lemma => kernel_rfl) hS (fun R hR => ?_)
  have hns : ssa2 R = true := by as_aux_lemma => (unfold IsOps at hR; subst hR; kernel_rfl)
  have hlen : R.length = 7 := by as_aux_lemma => (unfold IsOps at hR; subst hR; kernel_rfl)
  have hcX : ∀ wx : World, SX X s1 s2 s3 s4 wx → wx.cell? ⟨X, 0, none⟩ = some (.int .i64 s1) := fun wx h => (cell_of_row wx X 0 _ 74 _ h).trans rfl
  refine takes_run2 [(0, .pointer (some ⟨P, 2, none⟩)), (1, .pointer (some ⟨P, 2, none⟩)), (2, .pointer (some ⟨P, 2, none⟩)), (3, .pointer (some ⟨X, 0, none⟩)), (4, .int .i64 s1), (5, .int .i64 256)] (fuel := 1) (d' := [5, 4, 3, 2, 1, 0]) (by as_aux_lemma => kernel_rfl) hns (by as_aux_lemma => (unfold IsOps at hR; subst hR; kernel_rfl)) rfl (fun _ _ _ _ _ h => h) hS (fun K hK => ?_)
  refine RunsThen.cons (hR.at rfl) (by intro wx hSw; go_simp <;> rfl) ?_
  try simp only [Act.put, List.setIfInBounds_toArray, List.set_cons_zero, List.set_cons_succ]
  refine RunsThen.cons (hR.at rfl) (by intro wx hSw; go_simp <;> rfl) ?_
  try simp only [Act.put, List.setIfInBounds_toArray, List.set_cons_zero, List.set_cons_succ]
  refine RunsThen.cons (hR.at rfl) (by intro wx hSw; go_simp <;> rfl) ?_
  try simp only [Act.put, List.setIfInBounds_toArray, List.set_cons_zero, List.set_cons_succ]
  refine RunsThen.cons (hR.at rfl) (by intro wx hSw; go_simp <;> rfl) ?_
  try simp only [Act.put, List.setIfInBounds_toArray, List.set_cons_zero, List.set_cons_succ]
  refine RunsThen.cons (hR.at rfl) (by intro wx hSw; go_simp <;> rfl) ?_
  try simp only [Act.put, List.setIfInBounds_toArray, List.set_cons_zero, List.set_cons_succ]
  refine RunsThen.cons (hR.at rfl) (by intro wx hSw; go_simp <;> rfl) ?_
  try simp only [Act.put, List.setIfInBounds_toArray, List.set_cons_zero, List.set_cons_succ]
  refine RunsThen.nil (hK.out _ ?_)
  clear hK K hcX
  refine carry_run2 (i := 6) (fuel := 0) hlen hns (by as_aux_lemma => (unfold IsOps at hR; subst hR; kernel_rfl)) (hR.at rfl) rfl (fun K hK => ?_)
  go_simp
  refine (room29 A0 P 2 (ar st sm v1 v2 v3 v4) v1 n1 xs1 s1 256 w1.drew hP rfl r1 hA' b1.1 b1.2 (by decide) (by decide)).mono ?_
  rintro E w2 ⟨rfl, g', n', cap', xs', ro, hn', hP', ⟨ho1, ho2, ho3, ho4⟩, hb⟩
  have hk2 : Keep P w1 w2 := ⟨ho1, ho2, ho3, ho4, hb⟩
  have hX2 := (hb X (lt_of_block hX) hne).trans hX
  replace r2 := ownsRow_keep r2 hP (by decide) hk2
  replace r3 := ownsRow_keep r3 hP (by decide) hk2
  replace r4 := ownsRow_keep r4 hP (by decide) hk2
  replace r1 : RowN A0 35 5 n1 w2 (.slice (some ⟨g', 0, none⟩) n' cap') := ⟨g', n', cap', xs', rfl, ro, hn'⟩
  replace hP : AtP (ar st sm (.slice (some ⟨g', 0, none⟩) n' cap') v2 v3 v4) P w2 := hP'
  replace hk := hk.trans hk2
  replace hA' := Nat.le_trans hA' ho4
  go_wp2_with fail
  refine hK.out _ _ hX2 ?_
  clear hK K hX hP' ro hk2 ho1 ho2 ho3 ho4 hb hS
  have hX := hX2
  clear hX2
  generalize Value.slice (some ⟨g', 0, none⟩) n' cap' = u1 at hP r1
  clear g' n' cap' xs' hn'
  try simp only [Act.put, List.setIfInBounds_toArray, List.set_cons_zero, List.set_cons_succ]
  refine done_run hlen (by as_aux_lemma => kernel_rfl) ?_
  clear hR hns hlen R
  go_wp2_with fail
  have hS : SX X s1 s2 s3 s4 w2.drew := hX
  refine region_named (S := SX X s1 s2 s3 s4) (n := 7) (by as_aux_lemma => kernel_rfl) (by as_aux_lemma => kernel_rfl) hS (fun R hR => ?_)
  have hns : ssa2 R = true := by as_aux_lemma => (unfold IsOps at hR; subst hR; kernel_rfl)
  have hlen : R.length = 7 := by as_aux_lemma => (unfold IsOps at hR; subst hR; kernel_rfl)
  have hcX : ∀ wx : World, SX X s1 s2 s3 s4 wx → wx.cell? ⟨X, 1, none⟩ = some (.int .i64 s2) := fun wx h => (cell_of_row wx X 1 _ 74 _ h).trans rfl
  refine takes_run2 [(0, .pointer (some ⟨P, 2, none⟩)), (1, .pointer (some ⟨P, 2, none⟩)), (2, .pointer (some ⟨P, 3, none⟩)), (3, .pointer (some ⟨X, 1, none⟩)), (4, .int .i64 s2), (5, .int .i64 256)] (fuel := 1) (d' := [5, 4, 3, 2, 1, 0]) (by as_aux_lemma => kernel_rfl) hns (by as_aux_lemma => (unfold IsOps at hR; subst hR; kernel_rfl)) rfl (fun _ _ _ _ _ h => h) hS (fun K hK => ?_)
  refine RunsThen.cons (hR.at rfl) (by intro wx hSw; go_simp <;> rfl) ?_
  try simp only [Act.put, List.setIfInBounds_toArray, List.set_cons_zero, List.set_cons_succ]
  refine RunsThen.cons (hR.at rfl) (by intro wx hSw; go_simp <;> rfl) ?_
  try simp only [Act.put, List.setIfInBounds_toArray, List.set_cons_zero, List.set_cons_succ]
  refine RunsThen.cons (hR.at rfl) (by intro wx hSw; go_simp <;> rfl) ?_
  try simp only [Act.put, List.setIfInBounds_toArray, List.set_cons_zero, List.set_cons_succ]
  refine RunsThen.cons (hR.at rfl) (by intro wx hSw; go_simp <;> rfl) ?_
  try simp only [Act.put, List.setIfInBounds_toArray, List.set_cons_zero, List.set_cons_succ]
  refine RunsThen.cons (hR.at rfl) (by intro wx hSw; go_simp <;> rfl) ?_
  try simp only [Act.put, List.setIfInBounds_toArray, List.set_cons_zero, List.set_cons_succ]
  refine RunsThen.cons (hR.at rfl) (by intro wx hSw; go_simp <;> rfl) ?_
  try simp only [Act.put, List.setIfInBounds_toArray, List.set_cons_zero, List.set_cons_succ]
  refine RunsThen.nil (hK.out _ ?_)
  clear hK K hcX
  refine carry_run2 (i := 6) (fuel := 0) hlen hns (by as_aux_lemma => (unfold IsOps at hR; subst hR; kernel_rfl)) (hR.at rfl) rfl (fun K hK => ?_)
  go_simp
  refine (room30 A0 P 3 (ar st sm u1 v2 v3 v4) v2 n2 xs2 s2 256 w2.drew hP rfl r2 hA' b2.1 b2.2 (by decide) (by decide)).mono ?_
  rintro E w3 ⟨rfl, g', n', cap', xs', ro, hn', hP', ⟨ho1, ho2, ho3, ho4⟩, hb⟩
  have hk2 : Keep P w2 w3 := ⟨ho1, ho2, ho3, ho4, hb⟩
  have hX2 := (hb X (lt_of_block hX) hne).trans hX
  replace r1 := r1.keep hP (by decide) hk2
  replace r3 := ownsRow_keep r3 hP (by decide) hk2
  replace r4 := ownsRow_keep r4 hP (by decide) hk2
  replace r2 : RowN A0 69 3 n2 w3 (.slice (some ⟨g', 0, none⟩) n' cap') := ⟨g', n', cap', xs', rfl, ro, hn'⟩
  replace hP : AtP (ar st sm u1 (.slice (some ⟨g', 0, none⟩) n' cap') v3 v4) P w3 := hP'
  replace hk := hk.trans hk2
  replace hA' := Nat.le_trans hA' ho4
  go_wp2_with fail
  refine hK.out _ _ hX2 ?_
  clear hK K hX hP' ro hk2 ho1 ho2 ho3 ho4 hb hS
  have hX := hX2
  clear hX2
  generalize Value.slice (some ⟨g', 0, none⟩) n' cap' = u2 at hP r2
  clear g' n' cap' xs' hn'
  try simp only [Act.put, List.setIfInBounds_toArray, List.set_cons_zero, List.set_cons_succ]
  refine done_run hlen (by as_aux_lemma => kernel_rfl) ?_
  clear hR hns hlen R
  go_wp2_with fail
  have hS : SX X s1 s2 s3 s4 w3.drew := hX
  refine region_named (S := SX X s1 s2 s3 s4) (n := 7) (by as_aux_lemma => kernel_rfl) (by as_aux_lemma => kernel_rfl) hS (fun R hR => ?_)
  have hns : ssa2 R = true := by as_aux_lemma => (unfold IsOps at hR; subst hR; kernel_rfl)
  have hlen : R.length = 7 := by as_aux_lemma => (unfold IsOps at hR; subst hR; kernel_rfl)
  have hcX : ∀ wx : World, SX X s1 s2 s3 s4 wx → wx.cell? ⟨X, 2, none⟩ = some (.int .i64 s3) := fun wx h => (cell_of_row wx X 2 _ 74 _ h).trans rfl
  refine takes_run2 [(0, .pointer (some ⟨P, 2, none⟩)), (1, .pointer (some ⟨P, 2, none⟩)), (2, .pointer (some ⟨P, 4, none⟩)), (3, .pointer (some ⟨X, 2, none⟩)), (4, .int .i64 s3), (5, .int .i64 256)] (fuel := 1) (d' := [5, 4, 3, 2, 1, 0]) (by as_aux_lemma => kernel_rfl) hns (by as_aux_lemma => (unfold IsOps at hR; subst hR; kernel_rfl)) rfl (fun _ _ _ _ _ h => h) hS (fun K hK => ?_)
  refine RunsThen.cons (hR.at rfl) (by intro wx hSw; go_simp <;> rfl) ?_
  try simp only [Act.put, List.setIfInBounds_toArray, List.set_cons_zero, List.set_cons_succ]
  refine RunsThen.cons (hR.at rfl) (by intro wx hSw; go_simp <;> rfl) ?_
  try simp only [Act.put, List.setIfInBounds_toArray, List.set_cons_zero, List.set_cons_succ]
  refine RunsThen.cons (hR.at rfl) (by intro wx hSw; go_simp <;> rfl) ?_
  try simp only [Act.put, List.setIfInBounds_toArray, List.set_cons_zero, List.set_cons_succ]
  refine RunsThen.cons (hR.at rfl) (by intro wx hSw; go_simp <;> rfl) ?_
  try simp only [Act.put, List.setIfInBounds_toArray, List.set_cons_zero, List.set_cons_succ]
  refine RunsThen.cons (hR.at rfl) (by intro wx hSw; go_simp <;> rfl) ?_
  try simp only [Act.put, List.setIfInBounds_toArray, List.set_cons_zero, List.set_cons_succ]
  refine RunsThen.cons (hR.at rfl) (by intro wx hSw; go_simp <;> rfl) ?_
  try simp only [Act.put, List.setIfInBounds_toArray, List.set_cons_zero, List.set_cons_succ]
  refine RunsThen.nil (hK.out _ ?_)
  clear hK K hcX
  refine carry_run2 (i := 6) (fuel := 0) hlen hns (by as_aux_lemma => (unfold IsOps at hR; subst hR; kernel_rfl)) (hR.at rfl) rfl (fun K hK => ?_)
  go_simp
  refine (room31 A0 P 4 (ar st sm u1 u2 v3 v4) v3 n3 xs3 s3 256 w3.drew hP rfl r3 hA' b3.1 b3.2 (by decide) (by decide)).mono ?_
  rintro E w4 ⟨rfl, g', n', cap', xs', ro, hn', hP', ⟨ho1, ho2, ho3, ho4⟩, hb⟩
  have hk2 : Keep P w3 w4 := ⟨ho1, ho2, ho3, ho4, hb⟩
  have hX2 := (hb X (lt_of_block hX) hne).trans hX
  replace r1 := r1.keep hP (by decide) hk2
  replace r2 := r2.keep hP (by decide) hk2
  replace r4 := ownsRow_keep r4 hP (by decide) hk2
  replace r3 : RowN A0 71 4 n3 w4 (.slice (some ⟨g', 0, none⟩) n' cap') := ⟨g', n', cap', xs', rfl, ro, hn'⟩
  replace hP : AtP (ar st sm u1 u2 (.slice (some ⟨g', 0, none⟩) n' cap') v4) P w4 := hP'
  replace hk := hk.trans hk2
  replace hA' := Nat.le_trans hA' ho4
  go_wp2_with fail
  refine hK.out _ _ hX2 ?_
  clear hK K hX hP' ro hk2 ho1 ho2 ho3 ho4 hb hS
  have hX := hX2
  clear hX2
  generalize Value.slice (some ⟨g', 0, none⟩) n' cap' = u3 at hP r3
  clear g' n' cap' xs' hn'
  try simp only [Act.put, List.setIfInBounds_toArray, List.set_cons_zero, List.set_cons_succ]
  refine done_run hlen (by as_aux_lemma => kernel_rfl) ?_
  clear hR hns hlen R
  go_wp2_with fail
  have hS : SX X s1 s2 s3 s4 w4.drew := hX
  refine region_named (S := SX X s1 s2 s3 s4) (n := 8) (by as_aux_lemma => kernel_rfl) (by as_aux_lemma => kernel_rfl) hS (fun R hR => ?_)
  have hns : ssa2 R = true := by as_aux_lemma => (unfold IsOps at hR; subst hR; kernel_rfl)
  have hlen : R.length = 8 := by as_aux_lemma => (unfold IsOps at hR; subst hR; kernel_rfl)
  have hcX : ∀ wx : World, SX X s1 s2 s3 s4 wx → wx.cell? ⟨X, 3, none⟩ = some (.int .i64 s4) := fun wx h => (cell_of_row wx X 3 _ 74 _ h).trans rfl
  refine takes_run2 [(0, .pointer (some ⟨P, 2, none⟩)), (1, .pointer (some ⟨P, 2, none⟩)), (2, .pointer (some ⟨P, 5, none⟩)), (3, .pointer (some ⟨X, 3, none⟩)), (4, .int .i64 s4), (5, .int .i64 256), (6, .int .i64 16384)] (fuel := 1) (d' := [6, 5, 4, 3, 2, 1, 0]) (by as_aux_lemma => kernel_rfl) hns (by as_aux_lemma => (unfold IsOps at hR; subst hR; kernel_rfl)) rfl (fun _ _ _ _ _ h => h) hS (fun K hK => ?_)
  refine RunsThen.cons (hR.at rfl) (by intro wx hSw; go_simp <;> rfl) ?_
  try simp only [Act.put, List.setIfInBounds_toArray, List.set_cons_zero, List.set_cons_succ]
  refine RunsThen.cons (hR.at rfl) (by intro wx hSw; go_simp <;> rfl) ?_
  try simp only [Act.put, List.setIfInBounds_toArray, List.set_cons_zero, List.set_cons_succ]
  refine RunsThen.cons (hR.at rfl) (by intro wx hSw; go_simp <;> rfl) ?_
  try simp only [Act.put, List.setIfInBounds_toArray, List.set_cons_zero, List.set_cons_succ]
  refine RunsThen.cons (hR.at rfl) (by intro wx hSw; go_simp <;> rfl) ?_
  try simp only [Act.put, List.setIfInBounds_toArray, List.set_cons_zero, List.set_cons_succ]
  refine RunsThen.cons (hR.at rfl) (by intro wx hSw; go_simp <;> rfl) ?_
  try simp only [Act.put, List.setIfInBounds_toArray, List.set_cons_zero, List.set_cons_succ]
  refine RunsThen.cons (hR.at rfl) (by intro wx hSw; go_simp <;> rfl) ?_
  try simp only [Act.put, List.setIfInBounds_toArray, List.set_cons_zero, List.set_cons_succ]
  refine RunsThen.cons (hR.at rfl) (by intro wx hSw; go_simp <;> rfl) ?_
  try simp only [Act.put, List.setIfInBounds_toArray, List.set_cons_zero, List.set_cons_succ]
  refine RunsThen.nil (hK.out _ ?_)
  clear hK K hcX
  refine carry_run2 (i := 7) (fuel := 0) hlen hns (by as_aux_lemma => (unfold IsOps at hR; subst hR; kernel_rfl)) (hR.at rfl) rfl (fun K hK => ?_)
  go_simp
  refine (room32 A0 P 5 (ar st sm u1 u2 u3 v4) v4 n4 xs4 s4 16384 w4.drew hP rfl r4 hA' b4.1 b4.2 (by decide) (by decide)).mono ?_
  rintro E w5 ⟨rfl, g', n', cap', xs', ro, hn', hP', ⟨ho1, ho2, ho3, ho4⟩, hb⟩
  have hk2 : Keep P w4 w5 := ⟨ho1, ho2, ho3, ho4, hb⟩
  have hX2 := (hb X (lt_of_block hX) hne).trans hX
  replace r1 := r1.keep hP (by decide) hk2
  replace r2 := r2.keep hP (by decide) hk2
  replace r3 := r3.keep hP (by decide) hk2
  replace r4 : RowN A0 5 1 n4 w5 (.slice (some ⟨g', 0, none⟩) n' cap') := ⟨g', n', cap', xs', rfl, ro, hn'⟩
  replace hP : AtP (ar st sm u1 u2 u3 (.slice (some ⟨g', 0, none⟩) n' cap')) P w5 := hP'
  replace hk := hk.trans hk2
  replace hA' := Nat.le_trans hA' ho4
  go_wp2_with fail
  refine hK.out _ _ hX2 ?_
  clear hK K hX hP' ro hk2 ho1 ho2 ho3 ho4 hb hS
  have hX := hX2
  clear hX2
  generalize Value.slice (some ⟨g', 0, none⟩) n' cap' = u4 at hP r4
  clear g' n' cap' xs' hn'
  try simp only [Act.put, List.setIfInBounds_toArray, List.set_cons_zero, List.set_cons_succ]
  refine done_run hlen (by as_aux_lemma => kernel_rfl) ?_
  clear hR hns hlen R
  go_wp2_with fail
  go_end0
  exact ⟨rfl, u1, u2, u3, u4, hP, r1, r2, r3, r4, hk⟩
end Go.Proofs.Qxb6618675a
