/-
  THE WALK of ZZnewTranscript.
-/
import Derived.Test.Qxb6618675aScrib
namespace Go.Proofs.Qxb6618675a
open Go.RowKit
set_option linter.unusedSimpArgs false
set_option linter.unusedVariables false
theorem i28 : (Try.prog.info? 28).map (·.size) = some 3 := by kernel_rfl
def z64 : Array Value := ar 0 0 (.slice none 0 0) (.slice none 0 0) (.slice none 0 0) (.slice none 0 0)
def NewPost (v : Value) (w : World) (E : Ending) (w' : World) : Prop :=
  ∃ c l, E = .returned (.agg (t3 v c l)) ∧ w'.heap[c]? = some (.cells z64 64 (0, 0)) ∧ w'.heap[l]? = some (.cells z64 64 (0, 0)) ∧ c ≠ l ∧ w.heap.size ≤ c ∧ w.heap.size ≤ l ∧ Below w.heap.size w w'
theorem new_ar {w : World} {A0 P : Nat} (h : w.heap[P]? = some (.cells z64 64 (0, 0))) : ArOk A0 P 0 0 0 w := by
  refine ⟨.slice none 0 0, .slice none 0 0, .slice none 0 0, .slice none 0 0, 0, 0, 0, 0, [], [], [], [], h, ⟨?_, Nat.le_refl _⟩, ⟨?_, Nat.le_refl _⟩, ⟨?_, Nat.le_refl _⟩, ⟨?_, Nat.le_refl _⟩⟩
  all_goals exact ⟨by simp, .inl ⟨rfl, rfl⟩⟩
theorem al3 (w : World) (X Y Z : Obj) : (((w.alloc X).alloc Y).alloc Z).heap[w.heap.size]? = some X ∧ (((w.alloc X).alloc Y).alloc Z).heap[w.heap.size + 1]? = some Y ∧ (((w.alloc X).alloc Y).alloc Z).heap[w.heap.size + 2]? = some Z ∧ Below w.heap.size w (((w.alloc X).alloc Y).alloc Z) := by
  have e1 : (w.alloc X).heap.size = w.heap.size + 1 := Array.size_push ..
  have e2 : ((w.alloc X).alloc Y).heap.size = w.heap.size + 2 := (Array.size_push ..).trans (by rw [e1])
  have b1 := (Below.refl _ w).alloc (Nat.le_refl _) X
  have b2 := (Below.refl _ (w.alloc X)).alloc (Nat.le_refl _) Y
  have b3 := (Below.refl _ ((w.alloc X).alloc Y)).alloc (Nat.le_refl _) Z
  rw [e1] at b2; rw [e2] at b3
  have h1 := heap_alloc_new w X
  have h2 := heap_alloc_new (w.alloc X) Y
  have h3 := heap_alloc_new ((w.alloc X).alloc Y) Z
  rw [e1] at h2; rw [e2] at h3
  exact ⟨(b3.block _ (by omega)).trans ((b2.block _ (by omega)).trans h1), (b3.block _ (by omega)).trans h2, h3, b1.trans ((b2.mono (by omega)).trans (b3.mono (by omega)))⟩
def N3 (C : Array Value) (w wx : World) : Prop := wx.heap[w.heap.size]? = some (.cells C 28 (0, 0)) ∧ wx.heap[w.heap.size + 1]? = some (.cells z64 64 (0, 0)) ∧ wx.heap[w.heap.size + 2]? = some (.cells z64 64 (0, 0)) ∧ Below w.heap.size w wx
set_option maxRecDepth 100000 in
set_option maxHeartbeats 4000000 in
theorem new_transcript (a : Option Addr) (n cap : Nat) (w : World) : Calls Try.prog 8 #[.slice a n cap] w (NewPost (.slice a n cap) w) := by
  go_enter Try.func8, Try.ntmps8
  go_wp2_with fail
  have hL : N3 (t3 (.slice a n cap) (w.heap.size + 1) (w.heap.size + 2)) w _ := al3 w _ _ _
  refine bodyPost_ret (v := .agg (t3 (.slice a n cap) (w.heap.size + 1) (w.heap.size + 2))) ?_ rfl ⟨w.heap.size + 1, w.heap.size + 2, rfl, hL.2.1, hL.2.2.1, by omega, by omega, by omega, hL.2.2.2⟩
  exact results_cell_row rfl _ _ w.heap.size 28 (t3 (.slice a n cap) (w.heap.size + 1) (w.heap.size + 2)) (0, 0) _ rfl hL.1 rfl rfl i28
end Go.Proofs.Qxb6618675a
