/-
  THE WALKS of makeRoomIn, at its four types.
-/
import Derived.Test.Qxb6618675aApp
namespace Go.Proofs.Qxb6618675a
open Go.RowKit
set_option linter.unusedSimpArgs false

/-- What makeRoomIn leaves: a row that is not nil, no longer than it was, in cell o of the arena. -/
def RmPost (A0 P o e size : Nat) (C : Array Value) (n : Nat) (w : World) (E : Ending) (w' : World) : Prop :=
  E = .returned (.tuple #[]) ∧ ∃ g' n' cap' xs', w'.ownsRow A0 e size (.slice (some ⟨g', 0, none⟩) n' cap') n' xs' ∧ n' ≤ n ∧ AtP (C.setIfInBounds o (.slice (some ⟨g', 0, none⟩) n' cap')) P w' ∧
    (w'.os = w.os ∧ w'.tape = w.tape ∧ w'.output = w.output ∧ w.heap.size ≤ w'.heap.size) ∧ ∀ b, b < w.heap.size → b ≠ P → w'.heap[b]? = w.heap[b]?
theorem set_self {C : Array Value} {o : Nat} {v : Value} (h : C[o]? = some v) : C.setIfInBounds o v = C := by
  apply Array.ext_getElem?
  intro i
  rw [Array.getElem?_setIfInBounds]
  split
  · rename_i e
    subst e
    split
    · exact h.symm
    · rename_i h2
      rw [Array.getElem?_eq_none (by omega)] at h; cases h
  · rfl

theorem wpList_make_z {P : Program} (w : World) {ops : Array Oper} {rest : List Oper} {o : Oper} {a : Act} {Q : Exit → Act → World → Prop}
    (hg : o.guard = none) (l c : Operand) (t : TypeId) (hop : o.op = Op.makeSlice t l c)
    (base : Nat) (e : TypeId) (i : TypeInfo) (z : Value) (size : Nat) (h1 : P.underlying t = some (.slice e)) (h2 : P.info? e = some i) (h3 : i.zero = some z) (h4 : i.size = size)
    (kl kc : IntKind) (C : Int) (hl : a.eval l = .int kl 0) (hc : a.eval c = .int kc C) (h0 : 0 ≤ C) (b2 : i.bytes * C.toNat ≤ 281474976710656) (b3 : C.toNat ≤ maxLen) (b4 : base ≤ w.heap.size)
    (hK : ∀ N w', w'.ownsRow base e size (.slice (some ⟨w.heap.size, 0, none⟩) 0 N) 0 [] → w.grownBy w' none → wpList P ops Q rest (a.put o.dst (.slice (some ⟨w.heap.size, 0, none⟩) 0 N)) w') :
    wpList P ops Q (o :: rest) a w :=
  wpList_make_own w hg l c t hop base e i z size h1 h2 h3 h4 kl kc C C.toNat hl hc (Int.toNat_of_nonneg h0).symm b2 b3 b4 fun w' => hK _ w'
theorem room_end {A0 P o e size n N : Nat} {C : Array Value} {w wm : World} (hP1 : AtP C P wm) (hown : wm.ownsRow A0 e size (.slice (some ⟨w.drew.heap.size, 0, none⟩) 0 N) 0 []) (hgr : w.drew.grownBy wm none) (hlt : P < w.heap.size) :
    RmPost A0 P o e size C n w (.returned (.tuple #[])) (wm.setCell ⟨P, o, none⟩ (.slice (some ⟨w.drew.heap.size, 0, none⟩) 0 N)) := by
  refine ⟨rfl, w.heap.size, 0, N, [], hown.kept (grown_setCell wm P o _) (.inr (fun h => ?_)), Nat.zero_le _, heap_setCell_same _ _ _ _ _ _ hP1, ⟨hgr.os, hgr.tape, hgr.output, by rw [size_setCell]; exact hgr.size⟩, fun b hb hne => (block_setCell hne).trans (hgr.block b hb (fun h => by cases h))⟩
  have h1 : w.heap.size = P := by cases h; rfl
  omega

set_option maxRecDepth 100000 in
set_option maxHeartbeats 4000000 in
theorem room29 (A0 P o : Nat) (C : Array Value) (v : Value) (n : Nat) (xs : List Value) (k L : Int) (w : World) (hP : AtP C P w) (ho : C[o]? = some v)
    (hown : w.ownsRow A0 35 5 v n xs) (hA : A0 ≤ w.heap.size) (hk0 : 0 ≤ k) (hk : k ≤ 1099511627776) (hL0 : 0 < L) (hL : L ≤ 16384) :
    Calls Try.prog 29 #[.pointer (some ⟨P, o, none⟩), .int .i64 k, .int .i64 L] w (RmPost A0 P o 35 5 C n w) := by
  obtain ⟨i0, hi, ⟨z, hz, hzs⟩, hsz, hby⟩ : ∃ i, Try.prog.info? 35 = some i ∧ (∃ z, i.zero = some z ∧ z.cells.size = 5) ∧ i.size = 5 ∧ i.bytes = 96 := by as_aux_lemma => exact ⟨_, rfl, ⟨_, rfl, rfl⟩, rfl, rfl⟩
  have hnn := fun (w : World) (a : Option Addr) (n c n' c' : Nat) => run_neq_slice_nil_any (P := Try.prog) w 25 35 a n c n' c' Try.underlying25
  have f1 : w.cell? ⟨P, o, none⟩ = some v := (cell_of_row w P o C 64 _ hP).trans ho
  have f2 : w.frozen? ⟨P, o, none⟩ = false := frozen_of_row w P o C 64 hP
  have hoC : o < C.size := by rcases Nat.lt_or_ge o C.size with h | h; exact h; rw [Array.getElem?_eq_none h] at ho; cases ho
  have HO := hidden hown
  have hlt : P < w.heap.size := lt_of_block hP
  rcases id hown with ⟨_, ⟨rfl, rfl⟩ | ⟨g, cap, cur, rfl, hg, hcur, hnc, hcm, hcs, _⟩⟩
  · clear hown
    go_enter Try.func29, Try.ntmps29
    go_wp2_with fail
    go_region
    go_wp2_with (first
      | (at_make; refine wpList_make_z _ rfl (.const (.int .i64 0)) (.tmp 37) 25 rfl A0 35 i0 z 5 Try.underlying25 hi hz hsz .i64 .i64 _ rfl rfl (by omega) (by rw [hby]; omega) (by unfold maxLen; omega) hA ?_
         intro N wm hown1 hgr
         have hP1 : AtP C P wm := (hgr.block P hlt (fun h => by cases h)).trans hP
         have f3 : wm.cell? ⟨P, o, none⟩ = some (.slice none 0 0) := (cell_of_row wm P o C 64 _ hP1).trans ho
         have f4 : wm.frozen? ⟨P, o, none⟩ = false := frozen_of_row wm P o C 64 hP1)
      | fail)
    all_goals go_end0
    all_goals exact room_end hP1 hown1 hgr hlt
  · clear hown
    unfold maxLen at hcm
    by_cases hroom : k ≤ (cap : Int) - (n : Int)
    · go_enter Try.func29, Try.ntmps29
      go_wp2_with fail
      go_region
      go_wp2_with fail
      go_end0
      refine ⟨rfl, g, n, cap, xs, HO.out, Nat.le_refl _, ?_, ⟨rfl, rfl, rfl, Nat.le_refl _⟩, fun _ _ _ => rfl⟩
      rw [set_self ho]
      exact hP
    · obtain ⟨G, hG⟩ : ∃ G, wrap64 (2 * (cap : Int)) = G := ⟨_, rfl⟩
      go_enter Try.func29, Try.ntmps29
      go_wp2_with fail
      go_region
      go_wp2_with (first
      | (at_make; refine wpList_make_z _ rfl (.const (.int .i64 0)) (.tmp 37) 25 rfl A0 35 i0 z 5 Try.underlying25 hi hz hsz .i64 .i64 _ rfl rfl (by omega) (by rw [hby]; omega) (by unfold maxLen; omega) hA ?_
         intro N wm hown1 hgr
         have hP1 : AtP C P wm := (hgr.block P hlt (fun h => by cases h)).trans hP
         have f3 : wm.cell? ⟨P, o, none⟩ = some (.slice (some ⟨g, 0, none⟩) n cap) := (cell_of_row wm P o C 64 _ hP1).trans ho
         have f4 : wm.frozen? ⟨P, o, none⟩ = false := frozen_of_row wm P o C 64 hP1)
      | fail)
      all_goals go_end0
      all_goals exact room_end hP1 hown1 hgr hlt

set_option maxRecDepth 100000 in
set_option maxHeartbeats 4000000 in
theorem room30 (A0 P o : Nat) (C : Array Value) (v : Value) (n : Nat) (xs : List Value) (k L : Int) (w : World) (hP : AtP C P w) (ho : C[o]? = some v)
    (hown : w.ownsRow A0 69 3 v n xs) (hA : A0 ≤ w.heap.size) (hk0 : 0 ≤ k) (hk : k ≤ 1099511627776) (hL0 : 0 < L) (hL : L ≤ 16384) :
    Calls Try.prog 30 #[.pointer (some ⟨P, o, none⟩), .int .i64 k, .int .i64 L] w (RmPost A0 P o 69 3 C n w) := by
  obtain ⟨i0, hi, ⟨z, hz, hzs⟩, hsz, hby⟩ : ∃ i, Try.prog.info? 69 = some i ∧ (∃ z, i.zero = some z ∧ z.cells.size = 3) ∧ i.size = 3 ∧ i.bytes = 56 := by as_aux_lemma => exact ⟨_, rfl, ⟨_, rfl, rfl⟩, rfl, rfl⟩
  have hnn := fun (w : World) (a : Option Addr) (n c n' c' : Nat) => run_neq_slice_nil_any (P := Try.prog) w 32 69 a n c n' c' Try.underlying32
  have f1 : w.cell? ⟨P, o, none⟩ = some v := (cell_of_row w P o C 64 _ hP).trans ho
  have f2 : w.frozen? ⟨P, o, none⟩ = false := frozen_of_row w P o C 64 hP
  have hoC : o < C.size := by rcases Nat.lt_or_ge o C.size with h | h; exact h; rw [Array.getElem?_eq_none h] at ho; cases ho
  have HO := hidden hown
  have hlt : P < w.heap.size := lt_of_block hP
  rcases id hown with ⟨_, ⟨rfl, rfl⟩ | ⟨g, cap, cur, rfl, hg, hcur, hnc, hcm, hcs, _⟩⟩
  · clear hown
    go_enter Try.func30, Try.ntmps30
    go_wp2_with fail
    go_region
    go_wp2_with (first
      | (at_make; refine wpList_make_z _ rfl (.const (.int .i64 0)) (.tmp 37) 32 rfl A0 69 i0 z 3 Try.underlying32 hi hz hsz .i64 .i64 _ rfl rfl (by omega) (by rw [hby]; omega) (by unfold maxLen; omega) hA ?_
         intro N wm hown1 hgr
         have hP1 : AtP C P wm := (hgr.block P hlt (fun h => by cases h)).trans hP
         have f3 : wm.cell? ⟨P, o, none⟩ = some (.slice none 0 0) := (cell_of_row wm P o C 64 _ hP1).trans ho
         have f4 : wm.frozen? ⟨P, o, none⟩ = false := frozen_of_row wm P o C 64 hP1)
      | fail)
    all_goals go_end0
    all_goals exact room_end hP1 hown1 hgr hlt
  · clear hown
    unfold maxLen at hcm
    by_cases hroom : k ≤ (cap : Int) - (n : Int)
    · go_enter Try.func30, Try.ntmps30
      go_wp2_with fail
      go_region
      go_wp2_with fail
      go_end0
      refine ⟨rfl, g, n, cap, xs, HO.out, Nat.le_refl _, ?_, ⟨rfl, rfl, rfl, Nat.le_refl _⟩, fun _ _ _ => rfl⟩
      rw [set_self ho]
      exact hP
    · obtain ⟨G, hG⟩ : ∃ G, wrap64 (2 * (cap : Int)) = G := ⟨_, rfl⟩
      go_enter Try.func30, Try.ntmps30
      go_wp2_with fail
      go_region
      go_wp2_with (first
      | (at_make; refine wpList_make_z _ rfl (.const (.int .i64 0)) (.tmp 37) 32 rfl A0 69 i0 z 3 Try.underlying32 hi hz hsz .i64 .i64 _ rfl rfl (by omega) (by rw [hby]; omega) (by unfold maxLen; omega) hA ?_
         intro N wm hown1 hgr
         have hP1 : AtP C P wm := (hgr.block P hlt (fun h => by cases h)).trans hP
         have f3 : wm.cell? ⟨P, o, none⟩ = some (.slice (some ⟨g, 0, none⟩) n cap) := (cell_of_row wm P o C 64 _ hP1).trans ho
         have f4 : wm.frozen? ⟨P, o, none⟩ = false := frozen_of_row wm P o C 64 hP1)
      | fail)
      all_goals go_end0
      all_goals exact room_end hP1 hown1 hgr hlt

set_option maxRecDepth 100000 in
set_option maxHeartbeats 4000000 in
theorem room31 (A0 P o : Nat) (C : Array Value) (v : Value) (n : Nat) (xs : List Value) (k L : Int) (w : World) (hP : AtP C P w) (ho : C[o]? = some v)
    (hown : w.ownsRow A0 71 4 v n xs) (hA : A0 ≤ w.heap.size) (hk0 : 0 ≤ k) (hk : k ≤ 1099511627776) (hL0 : 0 < L) (hL : L ≤ 16384) :
    Calls Try.prog 31 #[.pointer (some ⟨P, o, none⟩), .int .i64 k, .int .i64 L] w (RmPost A0 P o 71 4 C n w) := by
  obtain ⟨i0, hi, ⟨z, hz, hzs⟩, hsz, hby⟩ : ∃ i, Try.prog.info? 71 = some i ∧ (∃ z, i.zero = some z ∧ z.cells.size = 4) ∧ i.size = 4 ∧ i.bytes = 56 := by as_aux_lemma => exact ⟨_, rfl, ⟨_, rfl, rfl⟩, rfl, rfl⟩
  have hnn := fun (w : World) (a : Option Addr) (n c n' c' : Nat) => run_neq_slice_nil_any (P := Try.prog) w 33 71 a n c n' c' Try.underlying33
  have f1 : w.cell? ⟨P, o, none⟩ = some v := (cell_of_row w P o C 64 _ hP).trans ho
  have f2 : w.frozen? ⟨P, o, none⟩ = false := frozen_of_row w P o C 64 hP
  have hoC : o < C.size := by rcases Nat.lt_or_ge o C.size with h | h; exact h; rw [Array.getElem?_eq_none h] at ho; cases ho
  have HO := hidden hown
  have hlt : P < w.heap.size := lt_of_block hP
  rcases id hown with ⟨_, ⟨rfl, rfl⟩ | ⟨g, cap, cur, rfl, hg, hcur, hnc, hcm, hcs, _⟩⟩
  · clear hown
    go_enter Try.func31, Try.ntmps31
    go_wp2_with fail
    go_region
    go_wp2_with (first
      | (at_make; refine wpList_make_z _ rfl (.const (.int .i64 0)) (.tmp 37) 33 rfl A0 71 i0 z 4 Try.underlying33 hi hz hsz .i64 .i64 _ rfl rfl (by omega) (by rw [hby]; omega) (by unfold maxLen; omega) hA ?_
         intro N wm hown1 hgr
         have hP1 : AtP C P wm := (hgr.block P hlt (fun h => by cases h)).trans hP
         have f3 : wm.cell? ⟨P, o, none⟩ = some (.slice none 0 0) := (cell_of_row wm P o C 64 _ hP1).trans ho
         have f4 : wm.frozen? ⟨P, o, none⟩ = false := frozen_of_row wm P o C 64 hP1)
      | fail)
    all_goals go_end0
    all_goals exact room_end hP1 hown1 hgr hlt
  · clear hown
    unfold maxLen at hcm
    by_cases hroom : k ≤ (cap : Int) - (n : Int)
    · go_enter Try.func31, Try.ntmps31
      go_wp2_with fail
      go_region
      go_wp2_with fail
      go_end0
      refine ⟨rfl, g, n, cap, xs, HO.out, Nat.le_refl _, ?_, ⟨rfl, rfl, rfl, Nat.le_refl _⟩, fun _ _ _ => rfl⟩
      rw [set_self ho]
      exact hP
    · obtain ⟨G, hG⟩ : ∃ G, wrap64 (2 * (cap : Int)) = G := ⟨_, rfl⟩
      go_enter Try.func31, Try.ntmps31
      go_wp2_with fail
      go_region
      go_wp2_with (first
      | (at_make; refine wpList_make_z _ rfl (.const (.int .i64 0)) (.tmp 37) 33 rfl A0 71 i0 z 4 Try.underlying33 hi hz hsz .i64 .i64 _ rfl rfl (by omega) (by rw [hby]; omega) (by unfold maxLen; omega) hA ?_
         intro N wm hown1 hgr
         have hP1 : AtP C P wm := (hgr.block P hlt (fun h => by cases h)).trans hP
         have f3 : wm.cell? ⟨P, o, none⟩ = some (.slice (some ⟨g, 0, none⟩) n cap) := (cell_of_row wm P o C 64 _ hP1).trans ho
         have f4 : wm.frozen? ⟨P, o, none⟩ = false := frozen_of_row wm P o C 64 hP1)
      | fail)
      all_goals go_end0
      all_goals exact room_end hP1 hown1 hgr hlt

set_option maxRecDepth 100000 in
set_option maxHeartbeats 4000000 in
theorem room32 (A0 P o : Nat) (C : Array Value) (v : Value) (n : Nat) (xs : List Value) (k L : Int) (w : World) (hP : AtP C P w) (ho : C[o]? = some v)
    (hown : w.ownsRow A0 5 1 v n xs) (hA : A0 ≤ w.heap.size) (hk0 : 0 ≤ k) (hk : k ≤ 1099511627776) (hL0 : 0 < L) (hL : L ≤ 16384) :
    Calls Try.prog 32 #[.pointer (some ⟨P, o, none⟩), .int .i64 k, .int .i64 L] w (RmPost A0 P o 5 1 C n w) := by
  obtain ⟨i0, hi, ⟨z, hz, hzs⟩, hsz, hby⟩ : ∃ i, Try.prog.info? 5 = some i ∧ (∃ z, i.zero = some z ∧ z.cells.size = 1) ∧ i.size = 1 ∧ i.bytes = 1 := by as_aux_lemma => exact ⟨_, rfl, ⟨_, rfl, rfl⟩, rfl, rfl⟩
  have hnn := fun (w : World) (a : Option Addr) (n c n' c' : Nat) => run_neq_slice_nil_any (P := Try.prog) w 48 5 a n c n' c' Try.underlying48
  have f1 : w.cell? ⟨P, o, none⟩ = some v := (cell_of_row w P o C 64 _ hP).trans ho
  have f2 : w.frozen? ⟨P, o, none⟩ = false := frozen_of_row w P o C 64 hP
  have hoC : o < C.size := by rcases Nat.lt_or_ge o C.size with h | h; exact h; rw [Array.getElem?_eq_none h] at ho; cases ho
  have HO := hidden hown
  have hlt : P < w.heap.size := lt_of_block hP
  rcases id hown with ⟨_, ⟨rfl, rfl⟩ | ⟨g, cap, cur, rfl, hg, hcur, hnc, hcm, hcs, _⟩⟩
  · clear hown
    go_enter Try.func32, Try.ntmps32
    go_wp2_with fail
    go_region
    go_wp2_with (first
      | (at_make; refine wpList_make_z _ rfl (.const (.int .i64 0)) (.tmp 37) 48 rfl A0 5 i0 z 1 Try.underlying48 hi hz hsz .i64 .i64 _ rfl rfl (by omega) (by rw [hby]; omega) (by unfold maxLen; omega) hA ?_
         intro N wm hown1 hgr
         have hP1 : AtP C P wm := (hgr.block P hlt (fun h => by cases h)).trans hP
         have f3 : wm.cell? ⟨P, o, none⟩ = some (.slice none 0 0) := (cell_of_row wm P o C 64 _ hP1).trans ho
         have f4 : wm.frozen? ⟨P, o, none⟩ = false := frozen_of_row wm P o C 64 hP1)
      | fail)
    all_goals go_end0
    all_goals exact room_end hP1 hown1 hgr hlt
  · clear hown
    unfold maxLen at hcm
    by_cases hroom : k ≤ (cap : Int) - (n : Int)
    · go_enter Try.func32, Try.ntmps32
      go_wp2_with fail
      go_region
      go_wp2_with fail
      go_end0
      refine ⟨rfl, g, n, cap, xs, HO.out, Nat.le_refl _, ?_, ⟨rfl, rfl, rfl, Nat.le_refl _⟩, fun _ _ _ => rfl⟩
      rw [set_self ho]
      exact hP
    · obtain ⟨G, hG⟩ : ∃ G, wrap64 (2 * (cap : Int)) = G := ⟨_, rfl⟩
      go_enter Try.func32, Try.ntmps32
      go_wp2_with fail
      go_region
      go_wp2_with (first
      | (at_make; refine wpList_make_z _ rfl (.const (.int .i64 0)) (.tmp 37) 48 rfl A0 5 i0 z 1 Try.underlying48 hi hz hsz .i64 .i64 _ rfl rfl (by omega) (by rw [hby]; omega) (by unfold maxLen; omega) hA ?_
         intro N wm hown1 hgr
         have hP1 : AtP C P wm := (hgr.block P hlt (fun h => by cases h)).trans hP
         have f3 : wm.cell? ⟨P, o, none⟩ = some (.slice (some ⟨g, 0, none⟩) n cap) := (cell_of_row wm P o C 64 _ hP1).trans ho
         have f4 : wm.frozen? ⟨P, o, none⟩ = false := frozen_of_row wm P o C 64 hP1)
      | fail)
      all_goals go_end0
      all_goals exact room_end hP1 hown1 hgr hlt
end Go.Proofs.Qxb6618675a
