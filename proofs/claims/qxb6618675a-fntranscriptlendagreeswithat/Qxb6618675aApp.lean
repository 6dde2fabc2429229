/-
  THE WALKS of appendClipped, at its four types.
-/
import Derived.Test.Qxb6618675aMks
import Derived.ArgAppend
namespace Go.Proofs.Qxb6618675a
open Go.RowKit
set_option linter.unusedSimpArgs false

/-- What an append to the row at block g, of n elements, leaves: all else as it was; the row's first n elements too. -/
structure ApFr (g n size e : Nat) (w w' : World) : Prop where
  os : w'.os = w.os
  tape : w'.tape = w.tape
  output : w'.output = w.output
  hsize : w.heap.size ≤ w'.heap.size
  block : ∀ b, b < w.heap.size → b ≠ g → w'.heap[b]? = w.heap[b]?
  cell : ∀ k, k < n * size → w'.cell? ⟨g, k, none⟩ = w.cell? ⟨g, k, none⟩
  row : ∀ cur, w.heap[g]? = some (.cells cur e (0, 0)) → ∃ cur', w'.heap[g]? = some (.cells cur' e (0, 0)) ∧ cur'.size = cur.size

theorem ownsRow_lower {w : World} {base base' e size n : Nat} {v : Value} {xs : List Value} (h : w.ownsRow base e size v n xs) (hb : base' ≤ base) : w.ownsRow base' e size v n xs := by
  obtain ⟨h1, h2⟩ := h
  refine ⟨h1, h2.imp id ?_⟩
  rintro ⟨g, cap, cur, e1, e2, r⟩
  exact ⟨g, cap, cur, e1, Nat.le_trans hb e2, r⟩
theorem ownsRow_cell {w : World} {base e size n g cap : Nat} {xs : List Value} (h : w.ownsRow base e size (.slice (some ⟨g, 0, none⟩) n cap) n xs) {k : Nat} (hk : k < n * size) : w.cell? ⟨g, k, none⟩ = xs[k]? := by
  have hx : k < xs.length := by rw [h.1]; exact hk
  have := h.cells (g := g) rfl k xs[k] (List.getElem?_eq_getElem hx)
  rw [Addr.add_mid, Nat.zero_add] at this
  rw [this, List.getElem?_eq_getElem hx]
theorem ownsRow_form {w : World} {base e size n g cap : Nat} {xs : List Value} (h : w.ownsRow base e size (.slice (some ⟨g, 0, none⟩) n cap) n xs) :
    ∃ cur, base ≤ g ∧ w.heap[g]? = some (.cells cur e (0, 0)) ∧ n ≤ cap ∧ cap ≤ maxLen ∧ cur.size = cap * size := by
  obtain ⟨_, ⟨h, _⟩ | ⟨g', cap', cur, e1, e2, e3, e4, e5, e6, _⟩⟩ := h
  · cases h
  · cases e1
    exact ⟨cur, e2, e3, e4, e5, e6⟩

/-- append(row, source...): there is room, or it moves to a new row. -/
theorem wpList_append_cl {P : Program} (w : World) {ops : Array Oper} {rest : List Oper} {o : Oper} {a : Act} {Q : Exit → Act → World → Prop}
    (hg : o.guard = none) (s x : Operand) (t : TypeId) (hop : o.op = Op.call { callee := Callee.builtin Builtin.append, args := #[s, x], argTypes := #[t, t] })
    (A0 : Nat) (e : TypeId) (i : TypeInfo) (z : Value) (size bytes : Nat) (h1 : P.underlying t = some (.slice e)) (h2 : P.info? e = some i) (h3 : i.zero = some z) (h4 : i.size = size) (h5 : i.bytes = bytes) (h6 : z.cells.size = size) (h7 : 0 < size)
    (g n cap : Nat) (xs : List Value) (hs : a.eval s = .slice (some ⟨g, 0, none⟩) n cap) (hown : w.ownsRow A0 e size (.slice (some ⟨g, 0, none⟩) n cap) n xs) (hA : A0 ≤ w.heap.size)
    (ad : Addr) (m c : Nat) (news : List Value) (hx : a.eval x = .slice (some ad) m c) (hn : news.length = m * size) (hc : ∀ j u, news[j]? = some u → w.cell? (ad.add j) = some u) (h1c : ∀ u ∈ news, u.oneCell' = true)
    (b1 : n + m ≤ maxLen) (b2 : (n + m) * bytes ≤ 140737488355328)
    (hK : ∀ g' cap' w', w'.ownsRow A0 e size (.slice (some ⟨g', 0, none⟩) (n + m) cap') (n + m) (xs ++ news) → ApFr g n size e w w' → (g' = g ∨ w.heap.size ≤ g') → wpList P ops Q rest (a.put o.dst (.slice (some ⟨g', 0, none⟩) (n + m) cap')) w') :
    wpList P ops Q (o :: rest) a w := by
  by_cases hf : n + m ≤ cap
  · refine wpList_append_fits w hg s x t hop A0 e i size h1 h2 h4 g n cap xs hs hown ad m c news hx hn hc h1c hf fun w' ho hgr => ?_
    refine hK g cap w' ho ⟨hgr.os, hgr.tape, hgr.output, hgr.size, fun b hb hne => hgr.block b hb (fun h => hne (by cases h; rfl)), fun k hk => ?_, fun cur hcur => ?_⟩ (.inl rfl)
    rotate_left
    · obtain ⟨q1, _, hq1, _, _, hz1⟩ := ownsRow_form hown
      obtain ⟨q2, _, hq2, _, _, hz2⟩ := ownsRow_form ho
      rw [hq1] at hcur
      cases hcur
      exact ⟨q2, hq2, hz2.trans hz1.symm⟩
    rw [ownsRow_cell ho (Nat.lt_of_lt_of_le hk (Nat.mul_le_mul_right _ (Nat.le_add_right _ _))), ownsRow_cell hown hk, List.getElem?_append_left (by rw [hown.1]; exact hk)]
  · have hl := hown.1
    have hcc : ∀ j u, xs[j]? = some u → w.cell? ((⟨g, 0, none⟩ : Addr).add j) = some u := hown.cells rfl
    have hlt := (hown.lt g rfl).2
    refine wpList_append_grows w hg s x t hop e i z size bytes h1 h2 h3 h4 h5 h6 h7 (some ⟨g, 0, none⟩) n cap xs hs (fun h => by cases h) hl (fun b hb => by cases hb; exact hcc) ad m c news hx hn hc h1c (by omega) b1 b2 fun v' w' ho hgr => ?_
    have hall : ∀ b, b < w.heap.size → w'.heap[b]? = w.heap[b]? := fun b hb => hgr.block b hb (fun h => by cases h)
    obtain ⟨_, ⟨rfl, h0⟩ | ⟨g', cap', cur, rfl, hge, _⟩⟩ := id ho
    · obtain ⟨cur, _, _, hcap, _⟩ := ownsRow_form hown
      omega
    · exact hK g' cap' w' (ownsRow_lower ho hA) ⟨hgr.os, hgr.tape, hgr.output, hgr.size, fun b hb _ => hall b hb, fun k _ => World.cell?_of_block (w := w) (a := ⟨g, k, none⟩) (hall g hlt), fun cur hcur => ⟨cur, (hall g hlt).trans hcur, rfl⟩⟩ (.inr hge)

theorem grown_setCell (w : World) (P o : Nat) (v : Value) : w.grownBy (w.setCell ⟨P, o, none⟩ v) (some P) :=
  ⟨rfl, rfl, rfl, Nat.le_of_eq (size_setCell _ _ _).symm, fun b _ h => block_setCell (fun e => h (by rw [e]))⟩
/-- The arena's block, its 7 cells. -/
def AtP (C : Array Value) (P : Nat) (w : World) : Prop := w.heap[P]? = some (.cells C 64 (0, 0))
/-- What appendClipped leaves: the appended part, in the row's (perhaps new) block; the row written back into cell o of the arena. -/
def AcPost (A0 P o e size : Nat) (C : Array Value) (g n m : Nat) (xs news : List Value) (w : World) (E : Ending) (w' : World) : Prop :=
  ∃ g' cap' ra rc, E = .returned (.slice (some ra) m rc) ∧ (0 < m → ra = ⟨g', n * size, none⟩) ∧ w'.ownsRow A0 e size (.slice (some ⟨g', 0, none⟩) (n + m) cap') (n + m) (xs ++ news) ∧
    AtP (C.setIfInBounds o (.slice (some ⟨g', 0, none⟩) (n + m) cap')) P w' ∧ (g' = g ∨ w.heap.size ≤ g') ∧
    (w'.os = w.os ∧ w'.tape = w.tape ∧ w'.output = w.output ∧ w.heap.size ≤ w'.heap.size) ∧ (∀ b, b < w.heap.size → b ≠ P → b ≠ g → w'.heap[b]? = w.heap[b]?) ∧ (∀ k, k < n * size → w'.cell? ⟨g, k, none⟩ = w.cell? ⟨g, k, none⟩) ∧ ∀ cur, w.heap[g]? = some (.cells cur e (0, 0)) → ∃ cur', w'.heap[g]? = some (.cells cur' e (0, 0)) ∧ cur'.size = cur.size

set_option maxRecDepth 100000 in
set_option maxHeartbeats 4000000 in
theorem app33 (A0 P o : Nat) (C : Array Value) (g n cap : Nat) (xs : List Value) (ad : Addr) (m c : Nat) (news : List Value) (w : World) (hP : AtP C P w) (ho : C[o]? = some (.slice (some ⟨g, 0, none⟩) n cap))
    (hown : w.ownsRow A0 35 5 (.slice (some ⟨g, 0, none⟩) n cap) n xs) (hA : A0 ≤ w.heap.size) (hn : n ≤ 1099511627776) (hm : m ≤ 1048576)
    (hl : news.length = m * 5) (hc : ∀ j u, news[j]? = some u → w.cell? (ad.add j) = some u) (h1 : ∀ u ∈ news, u.oneCell' = true) :
    Calls Try.prog 33 #[.pointer (some ⟨P, o, none⟩), .slice (some ad) m c] w (AcPost A0 P o 35 5 C g n m xs news w) := by
  obtain ⟨i0, hi, ⟨z, hz, hzs⟩, hsz, hby⟩ : ∃ i, Try.prog.info? 35 = some i ∧ (∃ z, i.zero = some z ∧ z.cells.size = 5) ∧ i.size = 5 ∧ i.bytes = 96 := by as_aux_lemma => exact ⟨_, rfl, ⟨_, rfl, rfl⟩, rfl, rfl⟩
  obtain ⟨cur, hg, hcur, hnc, hcm, hcs⟩ := ownsRow_form hown
  have hPg : P ≠ g := fun h => by unfold AtP at hP; rw [h, hcur] at hP; simp at hP
  have f1 : w.cell? ⟨P, o, none⟩ = some (.slice (some ⟨g, 0, none⟩) n cap) := (cell_of_row w P o C 64 _ hP).trans ho
  have hoC : o < C.size := by rcases Nat.lt_or_ge o C.size with h | h; exact h; rw [Array.getElem?_eq_none h] at ho; cases ho
  have HO := hidden hown
  have HC := hidden hc
  unfold maxLen at hcm
  clear hown hc ho
  go_enter Try.func33, Try.ntmps33
  go_wp2_with (first
    | (at_builtin; refine wpList_append_cl w rfl (.tmp 13) (.tmp 14) 25 rfl A0 35 i0 z 5 96 Try.underlying25 hi hz hsz hby hzs (by decide) g n cap xs rfl HO.out hA ad m c news rfl hl HC.out h1 (by unfold maxLen; omega) (by omega) ?_
       intro g' cap' w1 ho1 hfr hg'
       have hlt := lt_of_block hP
       have hP1 := (hfr.block P hlt hPg).trans hP
       have f2 : w1.cell? ⟨P, o, none⟩ = some (.slice (some ⟨g, 0, none⟩) n cap) := (World.cell?_of_block (w := w) (a := ⟨P, o, none⟩) (hfr.block P hlt hPg)).trans f1
       have f3 : w1.frozen? ⟨P, o, none⟩ = false := frozen_of_row w1 P o C 64 hP1)
    | fail)
  have hPg' : P ≠ g' := by rcases hg' with h | h; rw [h]; exact hPg; omega
  have hP2 : AtP (C.setIfInBounds o (.slice (some ⟨g', 0, none⟩) (n + m) cap')) P (w1.setCell ⟨P, o, none⟩ (.slice (some ⟨g', 0, none⟩) (n + m) cap')) := heap_setCell_same _ _ _ _ _ _ hP1
  have ho2 := ho1.kept (grown_setCell w1 P o (.slice (some ⟨g', 0, none⟩) (n + m) cap')) (.inr (fun h => hPg' (by cases h; rfl)))
  have hsize2 : w.heap.size ≤ (w1.setCell ⟨P, o, none⟩ (.slice (some ⟨g', 0, none⟩) (n + m) cap')).heap.size := by rw [size_setCell]; exact hfr.hsize
  have hos2 : (w1.setCell ⟨P, o, none⟩ (.slice (some ⟨g', 0, none⟩) (n + m) cap')).os = w.os ∧ (w1.setCell ⟨P, o, none⟩ (.slice (some ⟨g', 0, none⟩) (n + m) cap')).tape = w.tape ∧ (w1.setCell ⟨P, o, none⟩ (.slice (some ⟨g', 0, none⟩) (n + m) cap')).output = w.output := ⟨hfr.os, hfr.tape, hfr.output⟩
  have hbl2 : ∀ b, b < w.heap.size → b ≠ P → b ≠ g → (w1.setCell ⟨P, o, none⟩ (.slice (some ⟨g', 0, none⟩) (n + m) cap')).heap[b]? = w.heap[b]? := fun b hb h h' => (block_setCell h).trans (hfr.block b hb h')
  have hce2 : ∀ k, k < n * 5 → (w1.setCell ⟨P, o, none⟩ (.slice (some ⟨g', 0, none⟩) (n + m) cap')).cell? ⟨g, k, none⟩ = w.cell? ⟨g, k, none⟩ := fun k hk => (World.cell?_of_block (w := w1) (a := ⟨g, k, none⟩) (block_setCell (b := g) (Ne.symm hPg))).trans (hfr.cell k hk)
  have f4 : (w1.setCell ⟨P, o, none⟩ (.slice (some ⟨g', 0, none⟩) (n + m) cap')).cell? ⟨P, o, none⟩ = some (.slice (some ⟨g', 0, none⟩) (n + m) cap') := by
    rw [cell_of_row _ P o _ 64 _ hP2]; simp [hoC]
  obtain ⟨cur', _, _, hnc', hcm', _⟩ := ownsRow_form ho1
  unfold maxLen at hcm'
  have hro2 : ∀ cur, w.heap[g]? = some (.cells cur 35 (0, 0)) → ∃ cur', (w1.setCell ⟨P, o, none⟩ (.slice (some ⟨g', 0, none⟩) (n + m) cap')).heap[g]? = some (.cells cur' 35 (0, 0)) ∧ cur'.size = cur.size := fun cur hc => (hfr.row cur hc).imp fun _ h => ⟨(block_setCell (Ne.symm hPg)).trans h.1, h.2⟩
  clear ho1 hfr hP1 f1 f2 f3 hcur
  generalize World.setCell _ _ _ = w2 at hP2 ho2 hsize2 hos2 hbl2 hce2 hro2 f4 ⊢
  rcases Nat.eq_zero_or_pos m with rfl | hpos
  · go_region
    go_wp2_with fail
    go_ret
    exact ⟨g', cap', ⟨g', 0, none⟩, 0, rfl, fun h => absurd h (Nat.lt_irrefl _), ho2, hP2, hg', ⟨hos2.1, hos2.2.1, hos2.2.2, hsize2⟩, hbl2, hce2, hro2⟩
  · have hm0 : ¬ m = 0 := by omega
    have hsub : n + m - n = m := by omega
    go_region
    go_wp2_with fail
    go_ret
    exact ⟨g', cap', ⟨g', n * 5, none⟩, m, congrArg (fun q => Ending.returned (Value.slice (some ⟨g', n * 5, none⟩) q q)) hsub, (fun _ => rfl), ho2, hP2, hg', ⟨hos2.1, hos2.2.1, hos2.2.2, hsize2⟩, hbl2, hce2, hro2⟩

set_option maxRecDepth 100000 in
set_option maxHeartbeats 4000000 in
theorem app34 (A0 P o : Nat) (C : Array Value) (g n cap : Nat) (xs : List Value) (ad : Addr) (m c : Nat) (news : List Value) (w : World) (hP : AtP C P w) (ho : C[o]? = some (.slice (some ⟨g, 0, none⟩) n cap))
    (hown : w.ownsRow A0 69 3 (.slice (some ⟨g, 0, none⟩) n cap) n xs) (hA : A0 ≤ w.heap.size) (hn : n ≤ 1099511627776) (hm : m ≤ 1048576)
    (hl : news.length = m * 3) (hc : ∀ j u, news[j]? = some u → w.cell? (ad.add j) = some u) (h1 : ∀ u ∈ news, u.oneCell' = true) :
    Calls Try.prog 34 #[.pointer (some ⟨P, o, none⟩), .slice (some ad) m c] w (AcPost A0 P o 69 3 C g n m xs news w) := by
  obtain ⟨i0, hi, ⟨z, hz, hzs⟩, hsz, hby⟩ : ∃ i, Try.prog.info? 69 = some i ∧ (∃ z, i.zero = some z ∧ z.cells.size = 3) ∧ i.size = 3 ∧ i.bytes = 56 := by as_aux_lemma => exact ⟨_, rfl, ⟨_, rfl, rfl⟩, rfl, rfl⟩
  obtain ⟨cur, hg, hcur, hnc, hcm, hcs⟩ := ownsRow_form hown
  have hPg : P ≠ g := fun h => by unfold AtP at hP; rw [h, hcur] at hP; simp at hP
  have f1 : w.cell? ⟨P, o, none⟩ = some (.slice (some ⟨g, 0, none⟩) n cap) := (cell_of_row w P o C 64 _ hP).trans ho
  have hoC : o < C.size := by rcases Nat.lt_or_ge o C.size with h | h; exact h; rw [Array.getElem?_eq_none h] at ho; cases ho
  have HO := hidden hown
  have HC := hidden hc
  unfold maxLen at hcm
  clear hown hc ho
  go_enter Try.func34, Try.ntmps34
  go_wp2_with (first
    | (at_builtin; refine wpList_append_cl w rfl (.tmp 13) (.tmp 14) 32 rfl A0 69 i0 z 3 56 Try.underlying32 hi hz hsz hby hzs (by decide) g n cap xs rfl HO.out hA ad m c news rfl hl HC.out h1 (by unfold maxLen; omega) (by omega) ?_
       intro g' cap' w1 ho1 hfr hg'
       have hlt := lt_of_block hP
       have hP1 := (hfr.block P hlt hPg).trans hP
       have f2 : w1.cell? ⟨P, o, none⟩ = some (.slice (some ⟨g, 0, none⟩) n cap) := (World.cell?_of_block (w := w) (a := ⟨P, o, none⟩) (hfr.block P hlt hPg)).trans f1
       have f3 : w1.frozen? ⟨P, o, none⟩ = false := frozen_of_row w1 P o C 64 hP1)
    | fail)
  have hPg' : P ≠ g' := by rcases hg' with h | h; rw [h]; exact hPg; omega
  have hP2 : AtP (C.setIfInBounds o (.slice (some ⟨g', 0, none⟩) (n + m) cap')) P (w1.setCell ⟨P, o, none⟩ (.slice (some ⟨g', 0, none⟩) (n + m) cap')) := heap_setCell_same _ _ _ _ _ _ hP1
  have ho2 := ho1.kept (grown_setCell w1 P o (.slice (some ⟨g', 0, none⟩) (n + m) cap')) (.inr (fun h => hPg' (by cases h; rfl)))
  have hsize2 : w.heap.size ≤ (w1.setCell ⟨P, o, none⟩ (.slice (some ⟨g', 0, none⟩) (n + m) cap')).heap.size := by rw [size_setCell]; exact hfr.hsize
  have hos2 : (w1.setCell ⟨P, o, none⟩ (.slice (some ⟨g', 0, none⟩) (n + m) cap')).os = w.os ∧ (w1.setCell ⟨P, o, none⟩ (.slice (some ⟨g', 0, none⟩) (n + m) cap')).tape = w.tape ∧ (w1.setCell ⟨P, o, none⟩ (.slice (some ⟨g', 0, none⟩) (n + m) cap')).output = w.output := ⟨hfr.os, hfr.tape, hfr.output⟩
  have hbl2 : ∀ b, b < w.heap.size → b ≠ P → b ≠ g → (w1.setCell ⟨P, o, none⟩ (.slice (some ⟨g', 0, none⟩) (n + m) cap')).heap[b]? = w.heap[b]? := fun b hb h h' => (block_setCell h).trans (hfr.block b hb h')
  have hce2 : ∀ k, k < n * 3 → (w1.setCell ⟨P, o, none⟩ (.slice (some ⟨g', 0, none⟩) (n + m) cap')).cell? ⟨g, k, none⟩ = w.cell? ⟨g, k, none⟩ := fun k hk => (World.cell?_of_block (w := w1) (a := ⟨g, k, none⟩) (block_setCell (b := g) (Ne.symm hPg))).trans (hfr.cell k hk)
  have f4 : (w1.setCell ⟨P, o, none⟩ (.slice (some ⟨g', 0, none⟩) (n + m) cap')).cell? ⟨P, o, none⟩ = some (.slice (some ⟨g', 0, none⟩) (n + m) cap') := by
    rw [cell_of_row _ P o _ 64 _ hP2]; simp [hoC]
  obtain ⟨cur', _, _, hnc', hcm', _⟩ := ownsRow_form ho1
  unfold maxLen at hcm'
  have hro2 : ∀ cur, w.heap[g]? = some (.cells cur 69 (0, 0)) → ∃ cur', (w1.setCell ⟨P, o, none⟩ (.slice (some ⟨g', 0, none⟩) (n + m) cap')).heap[g]? = some (.cells cur' 69 (0, 0)) ∧ cur'.size = cur.size := fun cur hc => (hfr.row cur hc).imp fun _ h => ⟨(block_setCell (Ne.symm hPg)).trans h.1, h.2⟩
  clear ho1 hfr hP1 f1 f2 f3 hcur
  generalize World.setCell _ _ _ = w2 at hP2 ho2 hsize2 hos2 hbl2 hce2 hro2 f4 ⊢
  rcases Nat.eq_zero_or_pos m with rfl | hpos
  · go_region
    go_wp2_with fail
    go_ret
    exact ⟨g', cap', ⟨g', 0, none⟩, 0, rfl, fun h => absurd h (Nat.lt_irrefl _), ho2, hP2, hg', ⟨hos2.1, hos2.2.1, hos2.2.2, hsize2⟩, hbl2, hce2, hro2⟩
  · have hm0 : ¬ m = 0 := by omega
    have hsub : n + m - n = m := by omega
    go_region
    go_wp2_with fail
    go_ret
    exact ⟨g', cap', ⟨g', n * 3, none⟩, m, congrArg (fun q => Ending.returned (Value.slice (some ⟨g', n * 3, none⟩) q q)) hsub, (fun _ => rfl), ho2, hP2, hg', ⟨hos2.1, hos2.2.1, hos2.2.2, hsize2⟩, hbl2, hce2, hro2⟩

set_option maxRecDepth 100000 in
set_option maxHeartbeats 4000000 in
theorem app36 (A0 P o : Nat) (C : Array Value) (g n cap : Nat) (xs : List Value) (ad : Addr) (m c : Nat) (news : List Value) (w : World) (hP : AtP C P w) (ho : C[o]? = some (.slice (some ⟨g, 0, none⟩) n cap))
    (hown : w.ownsRow A0 71 4 (.slice (some ⟨g, 0, none⟩) n cap) n xs) (hA : A0 ≤ w.heap.size) (hn : n ≤ 1099511627776) (hm : m ≤ 1048576)
    (hl : news.length = m * 4) (hc : ∀ j u, news[j]? = some u → w.cell? (ad.add j) = some u) (h1 : ∀ u ∈ news, u.oneCell' = true) :
    Calls Try.prog 36 #[.pointer (some ⟨P, o, none⟩), .slice (some ad) m c] w (AcPost A0 P o 71 4 C g n m xs news w) := by
  obtain ⟨i0, hi, ⟨z, hz, hzs⟩, hsz, hby⟩ : ∃ i, Try.prog.info? 71 = some i ∧ (∃ z, i.zero = some z ∧ z.cells.size = 4) ∧ i.size = 4 ∧ i.bytes = 56 := by as_aux_lemma => exact ⟨_, rfl, ⟨_, rfl, rfl⟩, rfl, rfl⟩
  obtain ⟨cur, hg, hcur, hnc, hcm, hcs⟩ := ownsRow_form hown
  have hPg : P ≠ g := fun h => by unfold AtP at hP; rw [h, hcur] at hP; simp at hP
  have f1 : w.cell? ⟨P, o, none⟩ = some (.slice (some ⟨g, 0, none⟩) n cap) := (cell_of_row w P o C 64 _ hP).trans ho
  have hoC : o < C.size := by rcases Nat.lt_or_ge o C.size with h | h; exact h; rw [Array.getElem?_eq_none h] at ho; cases ho
  have HO := hidden hown
  have HC := hidden hc
  unfold maxLen at hcm
  clear hown hc ho
  go_enter Try.func36, Try.ntmps36
  go_wp2_with (first
    | (at_builtin; refine wpList_append_cl w rfl (.tmp 13) (.tmp 14) 33 rfl A0 71 i0 z 4 56 Try.underlying33 hi hz hsz hby hzs (by decide) g n cap xs rfl HO.out hA ad m c news rfl hl HC.out h1 (by unfold maxLen; omega) (by omega) ?_
       intro g' cap' w1 ho1 hfr hg'
       have hlt := lt_of_block hP
       have hP1 := (hfr.block P hlt hPg).trans hP
       have f2 : w1.cell? ⟨P, o, none⟩ = some (.slice (some ⟨g, 0, none⟩) n cap) := (World.cell?_of_block (w := w) (a := ⟨P, o, none⟩) (hfr.block P hlt hPg)).trans f1
       have f3 : w1.frozen? ⟨P, o, none⟩ = false := frozen_of_row w1 P o C 64 hP1)
    | fail)
  have hPg' : P ≠ g' := by rcases hg' with h | h; rw [h]; exact hPg; omega
  have hP2 : AtP (C.setIfInBounds o (.slice (some ⟨g', 0, none⟩) (n + m) cap')) P (w1.setCell ⟨P, o, none⟩ (.slice (some ⟨g', 0, none⟩) (n + m) cap')) := heap_setCell_same _ _ _ _ _ _ hP1
  have ho2 := ho1.kept (grown_setCell w1 P o (.slice (some ⟨g', 0, none⟩) (n + m) cap')) (.inr (fun h => hPg' (by cases h; rfl)))
  have hsize2 : w.heap.size ≤ (w1.setCell ⟨P, o, none⟩ (.slice (some ⟨g', 0, none⟩) (n + m) cap')).heap.size := by rw [size_setCell]; exact hfr.hsize
  have hos2 : (w1.setCell ⟨P, o, none⟩ (.slice (some ⟨g', 0, none⟩) (n + m) cap')).os = w.os ∧ (w1.setCell ⟨P, o, none⟩ (.slice (some ⟨g', 0, none⟩) (n + m) cap')).tape = w.tape ∧ (w1.setCell ⟨P, o, none⟩ (.slice (some ⟨g', 0, none⟩) (n + m) cap')).output = w.output := ⟨hfr.os, hfr.tape, hfr.output⟩
  have hbl2 : ∀ b, b < w.heap.size → b ≠ P → b ≠ g → (w1.setCell ⟨P, o, none⟩ (.slice (some ⟨g', 0, none⟩) (n + m) cap')).heap[b]? = w.heap[b]? := fun b hb h h' => (block_setCell h).trans (hfr.block b hb h')
  have hce2 : ∀ k, k < n * 4 → (w1.setCell ⟨P, o, none⟩ (.slice (some ⟨g', 0, none⟩) (n + m) cap')).cell? ⟨g, k, none⟩ = w.cell? ⟨g, k, none⟩ := fun k hk => (World.cell?_of_block (w := w1) (a := ⟨g, k, none⟩) (block_setCell (b := g) (Ne.symm hPg))).trans (hfr.cell k hk)
  have f4 : (w1.setCell ⟨P, o, none⟩ (.slice (some ⟨g', 0, none⟩) (n + m) cap')).cell? ⟨P, o, none⟩ = some (.slice (some ⟨g', 0, none⟩) (n + m) cap') := by
    rw [cell_of_row _ P o _ 64 _ hP2]; simp [hoC]
  obtain ⟨cur', _, _, hnc', hcm', _⟩ := ownsRow_form ho1
  unfold maxLen at hcm'
  have hro2 : ∀ cur, w.heap[g]? = some (.cells cur 71 (0, 0)) → ∃ cur', (w1.setCell ⟨P, o, none⟩ (.slice (some ⟨g', 0, none⟩) (n + m) cap')).heap[g]? = some (.cells cur' 71 (0, 0)) ∧ cur'.size = cur.size := fun cur hc => (hfr.row cur hc).imp fun _ h => ⟨(block_setCell (Ne.symm hPg)).trans h.1, h.2⟩
  clear ho1 hfr hP1 f1 f2 f3 hcur
  generalize World.setCell _ _ _ = w2 at hP2 ho2 hsize2 hos2 hbl2 hce2 hro2 f4 ⊢
  rcases Nat.eq_zero_or_pos m with rfl | hpos
  · go_region
    go_wp2_with fail
    go_ret
    exact ⟨g', cap', ⟨g', 0, none⟩, 0, rfl, fun h => absurd h (Nat.lt_irrefl _), ho2, hP2, hg', ⟨hos2.1, hos2.2.1, hos2.2.2, hsize2⟩, hbl2, hce2, hro2⟩
  · have hm0 : ¬ m = 0 := by omega
    have hsub : n + m - n = m := by omega
    go_region
    go_wp2_with fail
    go_ret
    exact ⟨g', cap', ⟨g', n * 4, none⟩, m, congrArg (fun q => Ending.returned (Value.slice (some ⟨g', n * 4, none⟩) q q)) hsub, (fun _ => rfl), ho2, hP2, hg', ⟨hos2.1, hos2.2.1, hos2.2.2, hsize2⟩, hbl2, hce2, hro2⟩

set_option maxRecDepth 100000 in
set_option maxHeartbeats 4000000 in
theorem app35 (A0 P o : Nat) (C : Array Value) (g n cap : Nat) (xs : List Value) (ad : Addr) (m c : Nat) (news : List Value) (w : World) (hP : AtP C P w) (ho : C[o]? = some (.slice (some ⟨g, 0, none⟩) n cap))
    (hown : w.ownsRow A0 5 1 (.slice (some ⟨g, 0, none⟩) n cap) n xs) (hA : A0 ≤ w.heap.size) (hn : n ≤ 1099511627776) (hm : m ≤ 1048576)
    (hl : news.length = m * 1) (hc : ∀ j u, news[j]? = some u → w.cell? (ad.add j) = some u) (h1 : ∀ u ∈ news, u.oneCell' = true) :
    Calls Try.prog 35 #[.pointer (some ⟨P, o, none⟩), .slice (some ad) m c] w (AcPost A0 P o 5 1 C g n m xs news w) := by
  obtain ⟨i0, hi, ⟨z, hz, hzs⟩, hsz, hby⟩ : ∃ i, Try.prog.info? 5 = some i ∧ (∃ z, i.zero = some z ∧ z.cells.size = 1) ∧ i.size = 1 ∧ i.bytes = 1 := by as_aux_lemma => exact ⟨_, rfl, ⟨_, rfl, rfl⟩, rfl, rfl⟩
  obtain ⟨cur, hg, hcur, hnc, hcm, hcs⟩ := ownsRow_form hown
  have hPg : P ≠ g := fun h => by unfold AtP at hP; rw [h, hcur] at hP; simp at hP
  have f1 : w.cell? ⟨P, o, none⟩ = some (.slice (some ⟨g, 0, none⟩) n cap) := (cell_of_row w P o C 64 _ hP).trans ho
  have hoC : o < C.size := by rcases Nat.lt_or_ge o C.size with h | h; exact h; rw [Array.getElem?_eq_none h] at ho; cases ho
  have HO := hidden hown
  have HC := hidden hc
  unfold maxLen at hcm
  clear hown hc ho
  go_enter Try.func35, Try.ntmps35
  go_wp2_with (first
    | (at_builtin; refine wpList_append_cl w rfl (.tmp 13) (.tmp 14) 48 rfl A0 5 i0 z 1 1 Try.underlying48 hi hz hsz hby hzs (by decide) g n cap xs rfl HO.out hA ad m c news rfl hl HC.out h1 (by unfold maxLen; omega) (by omega) ?_
       intro g' cap' w1 ho1 hfr hg'
       have hlt := lt_of_block hP
       have hP1 := (hfr.block P hlt hPg).trans hP
       have f2 : w1.cell? ⟨P, o, none⟩ = some (.slice (some ⟨g, 0, none⟩) n cap) := (World.cell?_of_block (w := w) (a := ⟨P, o, none⟩) (hfr.block P hlt hPg)).trans f1
       have f3 : w1.frozen? ⟨P, o, none⟩ = false := frozen_of_row w1 P o C 64 hP1)
    | fail)
  have hPg' : P ≠ g' := by rcases hg' with h | h; rw [h]; exact hPg; omega
  have hP2 : AtP (C.setIfInBounds o (.slice (some ⟨g', 0, none⟩) (n + m) cap')) P (w1.setCell ⟨P, o, none⟩ (.slice (some ⟨g', 0, none⟩) (n + m) cap')) := heap_setCell_same _ _ _ _ _ _ hP1
  have ho2 := ho1.kept (grown_setCell w1 P o (.slice (some ⟨g', 0, none⟩) (n + m) cap')) (.inr (fun h => hPg' (by cases h; rfl)))
  have hsize2 : w.heap.size ≤ (w1.setCell ⟨P, o, none⟩ (.slice (some ⟨g', 0, none⟩) (n + m) cap')).heap.size := by rw [size_setCell]; exact hfr.hsize
  have hos2 : (w1.setCell ⟨P, o, none⟩ (.slice (some ⟨g', 0, none⟩) (n + m) cap')).os = w.os ∧ (w1.setCell ⟨P, o, none⟩ (.slice (some ⟨g', 0, none⟩) (n + m) cap')).tape = w.tape ∧ (w1.setCell ⟨P, o, none⟩ (.slice (some ⟨g', 0, none⟩) (n + m) cap')).output = w.output := ⟨hfr.os, hfr.tape, hfr.output⟩
  have hbl2 : ∀ b, b < w.heap.size → b ≠ P → b ≠ g → (w1.setCell ⟨P, o, none⟩ (.slice (some ⟨g', 0, none⟩) (n + m) cap')).heap[b]? = w.heap[b]? := fun b hb h h' => (block_setCell h).trans (hfr.block b hb h')
  have hce2 : ∀ k, k < n * 1 → (w1.setCell ⟨P, o, none⟩ (.slice (some ⟨g', 0, none⟩) (n + m) cap')).cell? ⟨g, k, none⟩ = w.cell? ⟨g, k, none⟩ := fun k hk => (World.cell?_of_block (w := w1) (a := ⟨g, k, none⟩) (block_setCell (b := g) (Ne.symm hPg))).trans (hfr.cell k hk)
  have f4 : (w1.setCell ⟨P, o, none⟩ (.slice (some ⟨g', 0, none⟩) (n + m) cap')).cell? ⟨P, o, none⟩ = some (.slice (some ⟨g', 0, none⟩) (n + m) cap') := by
    rw [cell_of_row _ P o _ 64 _ hP2]; simp [hoC]
  obtain ⟨cur', _, _, hnc', hcm', _⟩ := ownsRow_form ho1
  unfold maxLen at hcm'
  have hro2 : ∀ cur, w.heap[g]? = some (.cells cur 5 (0, 0)) → ∃ cur', (w1.setCell ⟨P, o, none⟩ (.slice (some ⟨g', 0, none⟩) (n + m) cap')).heap[g]? = some (.cells cur' 5 (0, 0)) ∧ cur'.size = cur.size := fun cur hc => (hfr.row cur hc).imp fun _ h => ⟨(block_setCell (Ne.symm hPg)).trans h.1, h.2⟩
  clear ho1 hfr hP1 f1 f2 f3 hcur
  generalize World.setCell _ _ _ = w2 at hP2 ho2 hsize2 hos2 hbl2 hce2 hro2 f4 ⊢
  rcases Nat.eq_zero_or_pos m with rfl | hpos
  · go_region
    go_wp2_with fail
    go_ret
    exact ⟨g', cap', ⟨g', 0, none⟩, 0, rfl, fun h => absurd h (Nat.lt_irrefl _), ho2, hP2, hg', ⟨hos2.1, hos2.2.1, hos2.2.2, hsize2⟩, hbl2, hce2, hro2⟩
  · have hm0 : ¬ m = 0 := by omega
    have hsub : n + m - n = m := by omega
    go_region
    go_wp2_with fail
    go_ret
    exact ⟨g', cap', ⟨g', n, none⟩, m, congrArg (fun q => Ending.returned (Value.slice (some ⟨g', n, none⟩) q q)) hsub, (fun _ => by rw [Nat.mul_one]), ho2, hP2, hg', ⟨hos2.1, hos2.2.1, hos2.2.2, hsize2⟩, hbl2, hce2, hro2⟩
end Go.Proofs.Qxb6618675a
