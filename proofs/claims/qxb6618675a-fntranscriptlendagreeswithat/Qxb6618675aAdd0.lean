/-
  MEMORY WHILE THE ARENA COPIES: what an append to one of its rows, and a store into a copy, leave of the copies made before.
-/
import Derived.Test.Qxb6618675aMr
import Derived.Test.Qxb6618675aSizes
namespace Go.Proofs.Qxb6618675a
open Go.RowKit
set_option linter.unusedSimpArgs false
set_option linter.unusedVariables false

def Seg (g lo hi : Nat) : Foot := fun b o => b = g ∧ lo ≤ o ∧ o < hi
def Or2 (F G : Foot) : Foot := fun b o => F b o ∨ G b o
theorem Sub.inl {F G : Foot} : Sub F (Or2 F G) := fun _ _ h => .inl h
theorem Sub.inr {F G : Foot} : Sub G (Or2 F G) := fun _ _ h => .inr h

/-- One append to the row at block g, of l cells: all but the arena's block, the row's free end and new blocks stays. -/
structure AF (P g l e : Nat) (w w' : World) : Prop where
  os : w'.os = w.os
  tape : w'.tape = w.tape
  output : w'.output = w.output
  hsize : w.heap.size ≤ w'.heap.size
  block : ∀ b, b < w.heap.size → b ≠ P → b ≠ g → w'.heap[b]? = w.heap[b]?
  cell : ∀ k, k < l → w'.cell? ⟨g, k, none⟩ = w.cell? ⟨g, k, none⟩
  row : ∀ cur : Array Value, w.heap[g]? = some (.cells cur e (0, 0)) → ∃ cur', w'.heap[g]? = some (.cells cur' e (0, 0)) ∧ cur'.size = cur.size
theorem AF.below {P g l e N : Nat} {w w' : World} (h : AF P g l e w w') (hP : N ≤ P) (hg : N ≤ g) (hs : N ≤ w.heap.size) : Below N w w' :=
  ⟨h.os, h.tape, h.output, h.hsize, fun b hb => h.block b (by omega) (by omega) (by omega)⟩

/-- The frame of clone: what lies below A0 stays; so does every variable but the arena's own and the rows'. -/
structure Fr (A0 P : Nat) (w w' : World) : Prop where
  below : Below A0 w w'
  other : ∀ b cs t fr, w.heap[b]? = some (.cells cs t fr) → b ≠ P → t ≠ 35 → t ≠ 69 → t ≠ 71 → t ≠ 5 → w'.heap[b]? = some (.cells cs t fr)
  shape : ∀ (b : Nat) (cs : Array Value) (t : TypeId), w.heap[b]? = some (.cells cs t (0, 0)) → ∃ cs', w'.heap[b]? = some (.cells cs' t (0, 0)) ∧ cs'.size = cs.size
theorem Fr.refl (A0 P : Nat) (w : World) : Fr A0 P w w := ⟨Below.refl _ _, fun _ _ _ _ h _ _ _ _ _ => h, fun _ cs _ h => ⟨cs, h, rfl⟩⟩
theorem Fr.trans {A0 P : Nat} {a b c : World} (h : Fr A0 P a b) (k : Fr A0 P b c) : Fr A0 P a c := ⟨h.below.trans k.below, fun x cs t fr hx h1 h2 h3 h4 h5 => k.other x cs t fr (h.other x cs t fr hx h1 h2 h3 h4 h5) h1 h2 h3 h4 h5, fun x cs t hx => by
  obtain ⟨cs', h1, h2⟩ := h.shape x cs t hx
  obtain ⟨cs'', h3, h4⟩ := k.shape x cs' t h1
  exact ⟨cs'', h3, h4.trans h2⟩⟩
/-- The arena's block keeps its type and size. -/
def ShP (P : Nat) (w w' : World) : Prop := ∀ (cs : Array Value) (t : TypeId), w.heap[P]? = some (.cells cs t (0, 0)) → ∃ cs', w'.heap[P]? = some (.cells cs' t (0, 0)) ∧ cs'.size = cs.size
theorem AF.fr {A0 P g l e : Nat} {w w' : World} (h : AF P g l e w w') (hP : A0 ≤ P) (hg : A0 ≤ g) (hs : A0 ≤ w.heap.size) {cur : Array Value} (hr : w.heap[g]? = some (.cells cur e (0, 0))) (he : e = 35 ∨ e = 69 ∨ e = 71 ∨ e = 5) (hsp : ShP P w w') : Fr A0 P w w' :=
  ⟨h.below hP hg hs, fun b cs t fr hb h1 h2 h3 h4 h5 => (h.block b (lt_of_block hb) h1 (fun e1 => by
    subst e1
    rw [hr] at hb
    simp at hb
    obtain ⟨_, rfl, _⟩ := hb
    rcases he with rfl | rfl | rfl | rfl <;> contradiction)).trans hb, fun b cs t hb => by
    by_cases e1 : b = P
    · subst e1; exact hsp cs t hb
    · by_cases e2 : b = g
      · subst e2
        rw [hr] at hb
        simp at hb
        obtain ⟨rfl, rfl⟩ := hb
        exact h.row _ hr
      · exact ⟨cs, (h.block b (lt_of_block hb) e1 e2).trans hb, rfl⟩⟩
theorem block_type_setCell {w : World} {g k b : Nat} {v : Value} {cs : Array Value} {t : TypeId} (h : w.heap[b]? = some (.cells cs t (0, 0))) : ∃ cs', (w.setCell ⟨g, k, none⟩ v).heap[b]? = some (.cells cs' t (0, 0)) ∧ cs'.size = cs.size := by
  by_cases e : b = g
  · subst e; exact ⟨_, heap_setCell_same _ _ _ _ _ _ h, by simp⟩
  · exact ⟨cs, (block_setCell e).trans h, rfl⟩
theorem Fr.set {A0 P g k : Nat} {v : Value} {w : World} (hg : A0 ≤ g) {cur : Array Value} {e : TypeId} (hr : w.heap[g]? = some (.cells cur e (0, 0))) (he : e = 35 ∨ e = 69 ∨ e = 71 ∨ e = 5) : Fr A0 P w (w.setCell ⟨g, k, none⟩ v) :=
  ⟨below_setCell (Below.refl _ _) hg k v, fun b cs t fr hb h1 h2 h3 h4 h5 => (block_setCell (fun e1 => by
    subst e1
    rw [hr] at hb
    simp at hb
    obtain ⟨_, rfl, _⟩ := hb
    rcases he with rfl | rfl | rfl | rfl <;> contradiction)).trans hb, fun b cs t hb => block_type_setCell hb⟩
theorem Fr.keep {A0 P : Nat} {w w' : World} (h : Keep P w w') (hP : A0 ≤ P) (hs : A0 ≤ w.heap.size) (hsp : ShP P w w') : Fr A0 P w w' :=
  ⟨h.below hP hs, fun b cs t fr hb h1 _ _ _ _ => (h.block b (lt_of_block hb) h1).trans hb, fun b cs t hb => by
    by_cases e1 : b = P
    · subst e1; exact hsp cs t hb
    · exact ⟨cs, (h.block b (lt_of_block hb) e1).trans hb, rfl⟩⟩
theorem ShP.at {P : Nat} {C C' : Array Value} {w w' : World} (h : AtP C P w) (h' : AtP C' P w') (hs : C'.size = C.size) : ShP P w w' := fun cs t hc => by
  unfold AtP at h h'
  rw [h] at hc
  simp at hc
  obtain ⟨rfl, rfl⟩ := hc
  exact ⟨C', h', hs⟩

/-- Cells that were handed out: apart from the arena's block, from the messages' row, and from the free ends of the three other rows. -/
structure Apart (A0 P g1 g2 l2 g3 l3 g4 l4 : Nat) (F : Foot) (w : World) : Prop where
  ge : ∀ b o, F b o → A0 ≤ b
  neP : ∀ b o, F b o → b ≠ P
  ne1 : ∀ b o, F b o → b ≠ g1
  r2 : ∀ o, F g2 o → o < l2
  r3 : ∀ o, F g3 o → o < l3
  r4 : ∀ o, F g4 o → o < l4
  ty : ∀ b o, F b o → ∃ cs t, w.heap[b]? = some (.cells cs t (0, 0)) ∧ (t = 69 ∨ t = 71 ∨ t = 5)
def Nought : Foot := fun _ _ => False
theorem Apart.nought (A0 P g1 g2 l2 g3 l3 g4 l4 : Nat) (w : World) : Apart A0 P g1 g2 l2 g3 l3 g4 l4 Nought w :=
  ⟨fun _ _ h => h.elim, fun _ _ h => h.elim, fun _ _ h => h.elim, fun _ h => h.elim, fun _ h => h.elim, fun _ h => h.elim, fun _ _ h => h.elim⟩
section
variable {A0 P g1 g2 l2 g3 l3 g4 l4 : Nat} {F : Foot} {w w' : World}
theorem Apart.same {g l e : Nat} (h : Apart A0 P g1 g2 l2 g3 l3 g4 l4 F w) (hf : AF P g l e w w') (hg : ∀ o, F g o → o < l) : SameOn F w w' := fun b o hb => by
  by_cases e1 : b = g
  · subst e1; exact hf.cell o (hg o hb)
  · obtain ⟨cs, t, hh, _⟩ := h.ty b o hb
    exact World.cell?_of_block (w := w) (a := ⟨b, o, none⟩) (hf.block b (lt_of_block hh) (h.neP b o hb) e1)
theorem Apart.tyAF {g l e : Nat} (h : Apart A0 P g1 g2 l2 g3 l3 g4 l4 F w) (hf : AF P g l e w w') (he : e = 69 ∨ e = 71 ∨ e = 5) (hty : ∀ (cs : Array Value) (t : TypeId), w.heap[g]? = some (.cells cs t (0, 0)) → t = e) : ∀ b o, F b o → ∃ cs t, w'.heap[b]? = some (.cells cs t (0, 0)) ∧ (t = 69 ∨ t = 71 ∨ t = 5) := fun b o hb => by
  by_cases e1 : b = g
  · subst e1
    obtain ⟨cs, t, hh, ht⟩ := h.ty b o hb
    by_cases hte : t = e
    · subst hte; obtain ⟨cur, hc, _⟩ := hf.row cs hh; exact ⟨cur, t, hc, he⟩
    · exact (hte (hty cs t hh)).elim
  · obtain ⟨cs, t, hh, ht⟩ := h.ty b o hb
    exact ⟨cs, t, (hf.block b (lt_of_block hh) (h.neP b o hb) e1).trans hh, ht⟩
theorem Apart.new {g' : Nat} (h : Apart A0 P g1 g2 l2 g3 l3 g4 l4 F w) (hn : w.heap.size ≤ g') (o : Nat) : ¬ F g' o := fun hb => by
  obtain ⟨cs, t, hh, _⟩ := h.ty g' o hb
  have := lt_of_block hh
  omega
theorem Apart.app2 {g' : Nat} (h : Apart A0 P g1 g2 l2 g3 l3 g4 l4 F w) (hty : ∀ (cs : Array Value) (t : TypeId), w.heap[g2]? = some (.cells cs t (0, 0)) → t = 69) (hf : AF P g2 l2 69 w w') (hg : g' = g2 ∨ w.heap.size ≤ g') : Apart A0 P g1 g' l2 g3 l3 g4 l4 F w' :=
  ⟨h.ge, h.neP, h.ne1, fun o hb => by rcases hg with rfl | hg; exact h.r2 o hb; exact (h.new hg o hb).elim, h.r3, h.r4, h.tyAF hf (.inl rfl) hty⟩
theorem Apart.app3 {g' : Nat} (h : Apart A0 P g1 g2 l2 g3 l3 g4 l4 F w) (hty : ∀ (cs : Array Value) (t : TypeId), w.heap[g3]? = some (.cells cs t (0, 0)) → t = 71) (hf : AF P g3 l3 71 w w') (hg : g' = g3 ∨ w.heap.size ≤ g') : Apart A0 P g1 g2 l2 g' l3 g4 l4 F w' :=
  ⟨h.ge, h.neP, h.ne1, h.r2, fun o hb => by rcases hg with rfl | hg; exact h.r3 o hb; exact (h.new hg o hb).elim, h.r4, h.tyAF hf (.inr (.inl rfl)) hty⟩
theorem Apart.app4 {g' : Nat} (h : Apart A0 P g1 g2 l2 g3 l3 g4 l4 F w) (hty : ∀ (cs : Array Value) (t : TypeId), w.heap[g4]? = some (.cells cs t (0, 0)) → t = 5) (hf : AF P g4 l4 5 w w') (hg : g' = g4 ∨ w.heap.size ≤ g') : Apart A0 P g1 g2 l2 g3 l3 g' l4 F w' :=
  ⟨h.ge, h.neP, h.ne1, h.r2, h.r3, fun o hb => by rcases hg with rfl | hg; exact h.r4 o hb; exact (h.new hg o hb).elim, h.tyAF hf (.inr (.inr rfl)) hty⟩
theorem Apart.more (h : Apart A0 P g1 g2 l2 g3 l3 g4 l4 F w) {m2 m3 m4 : Nat} (h2 : l2 ≤ m2) (h3 : l3 ≤ m3) (h4 : l4 ≤ m4) : Apart A0 P g1 g2 m2 g3 m3 g4 m4 F w :=
  ⟨h.ge, h.neP, h.ne1, fun o hb => Nat.lt_of_lt_of_le (h.r2 o hb) h2, fun o hb => Nat.lt_of_lt_of_le (h.r3 o hb) h3, fun o hb => Nat.lt_of_lt_of_le (h.r4 o hb) h4, h.ty⟩
/-- A part of a row is handed out. -/
theorem Apart.add {g lo hi : Nat} (h : Apart A0 P g1 g2 l2 g3 l3 g4 l4 F w) (hg : A0 ≤ g) (hP : g ≠ P) (h1 : g ≠ g1) {cs : Array Value} {t : TypeId} (hh : w.heap[g]? = some (.cells cs t (0, 0))) (ht : t = 69 ∨ t = 71 ∨ t = 5)
    (h2 : g = g2 → hi ≤ l2) (h3 : g = g3 → hi ≤ l3) (h4 : g = g4 → hi ≤ l4) : Apart A0 P g1 g2 l2 g3 l3 g4 l4 (Or2 F (Seg g lo hi)) w := by
  refine ⟨?_, ?_, ?_, ?_, ?_, ?_, ?_⟩
  · rintro b o (hb | ⟨rfl, _⟩); exact h.ge b o hb; exact hg
  · rintro b o (hb | ⟨rfl, _⟩); exact h.neP b o hb; exact hP
  · rintro b o (hb | ⟨rfl, _⟩); exact h.ne1 b o hb; exact h1
  · rintro o (hb | ⟨e, _, h'⟩); exact h.r2 o hb; exact Nat.lt_of_lt_of_le h' (h2 e.symm)
  · rintro o (hb | ⟨e, _, h'⟩); exact h.r3 o hb; exact Nat.lt_of_lt_of_le h' (h3 e.symm)
  · rintro o (hb | ⟨e, _, h'⟩); exact h.r4 o hb; exact Nat.lt_of_lt_of_le h' (h4 e.symm)
  · rintro b o (hb | ⟨rfl, _⟩); exact h.ty b o hb; exact ⟨cs, t, hh, ht⟩
end
theorem cell_setCell_ne {w : World} {g k b o : Nat} {v : Value} (h : ¬ (b = g ∧ o = k)) : (w.setCell ⟨g, k, none⟩ v).cell? ⟨b, o, none⟩ = w.cell? ⟨b, o, none⟩ :=
  World.cell?_setCell_other w ⟨g, k, none⟩ ⟨b, o, none⟩ v (fun e => h (by cases e; exact ⟨rfl, rfl⟩))
theorem SameOn.setCell {U : Foot} {w : World} {g k : Nat} {v : Value} (h : ¬ U g k) : SameOn U w (w.setCell ⟨g, k, none⟩ v) := fun b o hb => cell_setCell_ne (fun ⟨e1, e2⟩ => h (by rw [← e1, ← e2]; exact hb))
theorem Apart.set {A0 P g1 g2 l2 g3 l3 g4 l4 : Nat} {F : Foot} {w : World} {g k : Nat} {v : Value} (h : Apart A0 P g1 g2 l2 g3 l3 g4 l4 F w) : Apart A0 P g1 g2 l2 g3 l3 g4 l4 F (w.setCell ⟨g, k, none⟩ v) :=
  ⟨h.ge, h.neP, h.ne1, h.r2, h.r3, h.r4, fun b o hb => by
    obtain ⟨cs, t, hh, ht⟩ := h.ty b o hb
    obtain ⟨cs', hh', _⟩ := block_type_setCell (g := g) (k := k) (v := v) hh
    exact ⟨cs', t, hh', ht⟩⟩

/-- A call being copied: its cells in U, its arguments in V. -/
def CallAt2 (w : World) (U V : Foot) (b off : Nat) (c : CallD) : Prop :=
  (U b off ∧ U b (off + 1) ∧ U b (off + 2)) ∧ w.cell? ⟨b, off, none⟩ = some (.string c.id) ∧ w.cell? ⟨b, off + 1, none⟩ = some (.string c.name) ∧ ∃ va, w.cell? ⟨b, off + 2, none⟩ = some va ∧ IsArgs w V va c.args
theorem CallAt2.go {w w' : World} {U U' V V' : Foot} {b off : Nat} {c : CallD} (h : CallAt2 w U V b off c) (hU : Sub U U') (hs : SameOn U w w') (hV : Sub V V') (hs' : SameOn V w w') : CallAt2 w' U' V' b off c := by
  obtain ⟨⟨u0, u1, u2⟩, c0, c1, va, c2, ha⟩ := h
  exact ⟨⟨hU _ _ u0, hU _ _ u1, hU _ _ u2⟩, (hs _ _ u0).trans c0, (hs _ _ u1).trans c1, va, (hs _ _ u2).trans c2, ha.go hV hs'⟩

/-- The source of an append, as the list that the append's law asks. -/
theorem source {w : World} {b off N : Nat} (h : ∀ i, i < N → ∃ u : Value, w.cell? ⟨b, off + i, none⟩ = some u ∧ u.oneCell' = true) :
    ∃ news : List Value, news.length = N ∧ (∀ j u, news[j]? = some u → w.cell? ((⟨b, off, none⟩ : Addr).add j) = some u) ∧ (∀ u ∈ news, u.oneCell' = true) ∧ ∀ j, j < N → news[j]? = w.cell? ⟨b, off + j, none⟩ := by
  have key : ∀ j, j < N → ((List.range N).map fun i => (w.cell? ⟨b, off + i, none⟩).getD undef)[j]? = w.cell? ⟨b, off + j, none⟩ := fun j hj => by
    obtain ⟨u, hu, _⟩ := h j hj
    simp [hj, hu]
  refine ⟨(List.range N).map fun i => (w.cell? ⟨b, off + i, none⟩).getD undef, by simp, fun j u hj => ?_, fun u hu => ?_, key⟩
  · have hl := (List.getElem?_eq_some_iff.1 hj).1
    simp at hl
    rw [Addr.add_mid, ← key j hl]; exact hj
  · simp at hu
    obtain ⟨i, hi, rfl⟩ := hu
    obtain ⟨u, hu, h1⟩ := h i hi
    rw [hu]; exact h1
/-- What the appended part holds. -/
theorem appended {w w' : World} {A0 e size n m g' cap' : Nat} {xs news : List Value} (h : w'.ownsRow A0 e size (.slice (some ⟨g', 0, none⟩) (n + m) cap') (n + m) (xs ++ news)) (hx : xs.length = n * size) (hnw : news.length = m * size) {j : Nat} (hj : j < m * size) :
    w'.cell? ⟨g', n * size + j, none⟩ = news[j]? := by
  rw [ownsRow_cell h (by rw [Nat.add_mul]; omega), List.getElem?_append_right (by omega), hx]
  congr 1; omega
end Go.Proofs.Qxb6618675a
