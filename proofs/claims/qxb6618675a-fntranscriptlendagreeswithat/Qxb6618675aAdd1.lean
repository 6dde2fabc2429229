/-
  THE STATE OF add, and its steps.
-/
import Derived.Test.Qxb6618675aAdd0
namespace Go.Proofs.Qxb6618675a
open Go.RowKit
set_option linter.unusedSimpArgs false
set_option linter.unusedVariables false

abbrev sl (g n c : Nat) : Value := .slice (some ⟨g, 0, none⟩) n c
/-- add's state: the arena's block, its rows; the messages before number k are copied (their slices in F), those from number t on still hold the transcript's slices. -/
structure AB (A0 P g1 o1 N1 cap1 : Nat) (st sm : Int) (ds : List MsgD) (w : World) (k t : Nat) (F : Foot) (g2 n2 c2 l2 g3 n3 c3 g4 n4 c4 : Nat) (wr : World) : Prop where
  atP : AtP (ar st sm (sl g1 N1 cap1) (sl g2 n2 c2) (sl g3 n3 c3) (sl g4 n4 c4)) P wr
  r2 : ∃ xs, wr.ownsRow A0 69 3 (sl g2 n2 c2) n2 xs
  r3 : ∃ xs, wr.ownsRow A0 71 4 (sl g3 n3 c3) n3 xs
  r4 : ∃ xs, wr.ownsRow A0 5 1 (sl g4 n4 c4) n4 xs
  row1 : ∃ D1, wr.heap[g1]? = some (.cells D1 35 (0, 0)) ∧ D1.size = cap1 * 5
  fr : Fr A0 P w wr
  ap : Apart A0 P g1 g2 l2 g3 (n3 * 4) g4 (n4 * 1) F wr
  hA : A0 ≤ wr.heap.size
  hl : l2 ≤ n2 * 3
  done : ∀ j d, j < k → ds[j]? = some d → MsgAt wr (Seg g1 (o1 + j * 5) (o1 + j * 5 + 5)) F g1 (o1 + j * 5) d
  todo : ∀ j d, t ≤ j → ds[j]? = some d → MsgAt wr (Seg g1 (o1 + j * 5) (o1 + j * 5 + 5)) (Old A0) g1 (o1 + j * 5) d

section
variable {A0 P g1 o1 N1 cap1 : Nat} {st sm : Int} {ds : List MsgD} {w : World} {k t : Nat} {F : Foot} {g2 n2 c2 l2 g3 n3 c3 g4 n4 c4 : Nat} {wr w' : World}
theorem AB.ne (h : AB A0 P g1 o1 N1 cap1 st sm ds w k t F g2 n2 c2 l2 g3 n3 c3 g4 n4 c4 wr) : g1 ≠ P ∧ g2 ≠ P ∧ g3 ≠ P ∧ g4 ≠ P ∧ g1 ≠ g2 ∧ g1 ≠ g3 ∧ g1 ≠ g4 ∧ g2 ≠ g3 ∧ g2 ≠ g4 ∧ g3 ≠ g4 := by
  have hp := h.atP
  unfold AtP at hp
  obtain ⟨D1, h1, _⟩ := h.row1
  obtain ⟨_, r2⟩ := h.r2
  obtain ⟨_, r3⟩ := h.r3
  obtain ⟨_, r4⟩ := h.r4
  obtain ⟨d2, _, h2, _⟩ := ownsRow_form r2
  obtain ⟨d3, _, h3, _⟩ := ownsRow_form r3
  obtain ⟨d4, _, h4, _⟩ := ownsRow_form r4
  refine ⟨?_, ?_, ?_, ?_, ?_, ?_, ?_, ?_, ?_, ?_⟩ <;> (rintro rfl; simp_all)
theorem AB.ge (h : AB A0 P g1 o1 N1 cap1 st sm ds w k t F g2 n2 c2 l2 g3 n3 c3 g4 n4 c4 wr) : A0 ≤ g2 ∧ A0 ≤ g3 ∧ A0 ≤ g4 := by
  obtain ⟨_, r2⟩ := h.r2
  obtain ⟨_, r3⟩ := h.r3
  obtain ⟨_, r4⟩ := h.r4
  obtain ⟨d2, q2, _⟩ := ownsRow_form r2
  obtain ⟨d3, q3, _⟩ := ownsRow_form r3
  obtain ⟨d4, q4, _⟩ := ownsRow_form r4
  exact ⟨q2, q3, q4⟩
/-- Another row's append keeps a row. -/
theorem own_AF {e' size n g l e : Nat} {v : Value} {xs : List Value} (h : wr.ownsRow A0 e' size v n xs) (hP : v.ownBlock ≠ some P) (hg : v.ownBlock ≠ some g) (hf : AF P g l e wr w') : w'.ownsRow A0 e' size v n xs := by
  obtain ⟨h1, h2⟩ := h
  refine ⟨h1, h2.imp id ?_⟩
  rintro ⟨x, cap, cur, rfl, q1, q2, q3⟩
  exact ⟨x, cap, cur, rfl, q1, (hf.block x (lt_of_block q2) (fun e => hP (by rw [← e]; rfl)) (fun e => hg (by rw [← e]; rfl))).trans q2, q3⟩
theorem own_set {e' size n g kk : Nat} {u v : Value} {xs : List Value} (h : wr.ownsRow A0 e' size v n xs) (hg : v.ownBlock ≠ some g) : (wr.setCell ⟨g, kk, none⟩ u).ownsRow A0 e' size v n xs := h.kept (grown_setCell wr g kk u) (.inr hg)
theorem MsgAt.af {V V' : Foot} {g l e b off lo hi : Nat} {d : MsgD} (h : MsgAt wr (Seg b lo hi) V b off d) (hb : b < wr.heap.size) (hP : b ≠ P) (hg : b ≠ g) (hf : AF P g l e wr w') (hV : Sub V V') (hs : SameOn V wr w') : MsgAt w' (Seg b lo hi) V' b off d :=
  h.go (Sub.refl _) (fun x o hx => World.cell?_of_block (w := wr) (a := ⟨x, o, none⟩) (by obtain ⟨rfl, _⟩ := hx; exact hf.block x hb hP hg)) hV hs

/-- The facts out of appendClipped's contract. -/
theorem AcPost.af {o e size g n m : Nat} {C : Array Value} {xs news : List Value} {E : Ending} (h : AcPost A0 P o e size C g n m xs news wr E w') :
    ∃ g' cap' ra rc, E = .returned (.slice (some ra) m rc) ∧ (0 < m → ra = ⟨g', n * size, none⟩) ∧ w'.ownsRow A0 e size (sl g' (n + m) cap') (n + m) (xs ++ news) ∧ AtP (C.setIfInBounds o (sl g' (n + m) cap')) P w' ∧ (g' = g ∨ wr.heap.size ≤ g') ∧ AF P g (n * size) e wr w' := by
  obtain ⟨g', cap', ra, rc, h1, h2, h3, h4, h5, ⟨h6, h7, h8, h9⟩, h10, h11, h12⟩ := h
  exact ⟨g', cap', ra, rc, h1, h2, h3, h4, h5, ⟨h6, h7, h8, h9, h10, h11, h12⟩⟩

/-- The calls of a message are appended: they are not handed out yet. -/
theorem AB.app2 (h : AB A0 P g1 o1 N1 cap1 st sm ds w k t F g2 n2 c2 (n2 * 3) g3 n3 c3 g4 n4 c4 wr) (hP : A0 ≤ P) (h1 : A0 ≤ g1) {g' m cap' : Nat} {xs : List Value} (ho : w'.ownsRow A0 69 3 (sl g' (n2 + m) cap') (n2 + m) xs)
    (hat : AtP ((ar st sm (sl g1 N1 cap1) (sl g2 n2 c2) (sl g3 n3 c3) (sl g4 n4 c4)).setIfInBounds 3 (sl g' (n2 + m) cap')) P w') (hg : g' = g2 ∨ wr.heap.size ≤ g') (hf : AF P g2 (n2 * 3) 69 wr w') :
    AB A0 P g1 o1 N1 cap1 st sm ds w k t F g' (n2 + m) cap' (n2 * 3) g3 n3 c3 g4 n4 c4 w' ∧ SameOn F wr w' ∧ Below A0 wr w' := by
  obtain ⟨e1, e2, e3, e4, e5, e6, e7, e8, e9, e10⟩ := h.ne
  obtain ⟨q2, q3, q4⟩ := h.ge
  obtain ⟨D1, hD1, hz1⟩ := h.row1
  obtain ⟨xs2, r2⟩ := h.r2
  obtain ⟨d2, _, hd2, _⟩ := ownsRow_form r2
  obtain ⟨xs3, r3⟩ := h.r3
  obtain ⟨xs4, r4⟩ := h.r4
  have hs := h.ap.same hf h.ap.r2
  have hb := hf.below hP q2 h.hA
  refine ⟨⟨hat, ⟨xs, ho⟩, ⟨xs3, own_AF r3 (fun e => e3 (by cases e; rfl)) (fun e => e8 (by cases e; rfl)) hf⟩, ⟨xs4, own_AF r4 (fun e => e4 (by cases e; rfl)) (fun e => e9 (by cases e; rfl)) hf⟩, ⟨D1, (hf.block g1 (lt_of_block hD1) e1 e5).trans hD1, hz1⟩, h.fr.trans (hf.fr hP q2 h.hA hd2 (by simp) (ShP.at h.atP hat (by simp))), h.ap.app2 (fun cs t hc => by rw [hd2] at hc; simp at hc; exact hc.2.symm) hf hg, Nat.le_trans h.hA hf.hsize, by omega, ?_, ?_⟩, hs, hb⟩
  · exact fun j d hj hd => (h.done j d hj hd).af (lt_of_block hD1) e1 e5 hf (Sub.refl _) hs
  · exact fun j d hj hd => (h.todo j d hj hd).af (lt_of_block hD1) e1 e5 hf (Sub.refl _) (SameOn.old hb)
/-- Results are appended, and handed out. -/
theorem AB.app3 (h : AB A0 P g1 o1 N1 cap1 st sm ds w k t F g2 n2 c2 l2 g3 n3 c3 g4 n4 c4 wr) (hP : A0 ≤ P) (h1 : A0 ≤ g1) {g' m cap' : Nat} {xs : List Value} (ho : w'.ownsRow A0 71 4 (sl g' (n3 + m) cap') (n3 + m) xs)
    (hat : AtP ((ar st sm (sl g1 N1 cap1) (sl g2 n2 c2) (sl g3 n3 c3) (sl g4 n4 c4)).setIfInBounds 4 (sl g' (n3 + m) cap')) P w') (hg : g' = g3 ∨ wr.heap.size ≤ g') (hf : AF P g3 (n3 * 4) 71 wr w') :
    AB A0 P g1 o1 N1 cap1 st sm ds w k t (Or2 F (Seg g' (n3 * 4) ((n3 + m) * 4))) g2 n2 c2 l2 g' (n3 + m) cap' g4 n4 c4 w' ∧ SameOn F wr w' ∧ Below A0 wr w' := by
  obtain ⟨e1, e2, e3, e4, e5, e6, e7, e8, e9, e10⟩ := h.ne
  obtain ⟨q2, q3, q4⟩ := h.ge
  obtain ⟨D1, hD1, hz1⟩ := h.row1
  obtain ⟨xs2, r2⟩ := h.r2
  obtain ⟨xs3, r3⟩ := h.r3
  obtain ⟨d3, _, hd3, _⟩ := ownsRow_form r3
  obtain ⟨xs4, r4⟩ := h.r4
  obtain ⟨d2, _, hd2, _⟩ := ownsRow_form r2
  obtain ⟨d4, _, hd4, _⟩ := ownsRow_form r4
  have hs := h.ap.same hf h.ap.r3
  have hb := hf.below hP q3 h.hA
  obtain ⟨cu, hgc, hgh, _⟩ := ownsRow_form ho
  have hne : g' ≠ P ∧ g' ≠ g1 ∧ g' ≠ g2 ∧ g' ≠ g4 := by
    rcases hg with rfl | hg
    · exact ⟨e3, Ne.symm e6, Ne.symm e8, e10⟩
    · have a1 := lt_of_block h.atP
      have a2 := lt_of_block hD1
      have a3 := lt_of_block hd2
      have a4 := lt_of_block hd4
      refine ⟨?_, ?_, ?_, ?_⟩ <;> omega
  refine ⟨⟨hat, ⟨xs2, own_AF r2 (fun e => e2 (by cases e; rfl)) (fun e => e8 (by cases e; rfl)) hf⟩, ⟨xs, ho⟩, ⟨xs4, own_AF r4 (fun e => e4 (by cases e; rfl)) (fun e => e10 (by cases e; rfl)) hf⟩, ⟨D1, (hf.block g1 (lt_of_block hD1) e1 e6).trans hD1, hz1⟩, h.fr.trans (hf.fr hP q3 h.hA hd3 (by simp) (ShP.at h.atP hat (by simp))), ?_, Nat.le_trans h.hA hf.hsize, h.hl, ?_, ?_⟩, hs, hb⟩
  · exact ((h.ap.app3 (fun cs t hc => by rw [hd3] at hc; simp at hc; exact hc.2.symm) hf hg).more (Nat.le_refl _) (Nat.mul_le_mul_right 4 (Nat.le_add_right n3 m)) (Nat.le_refl _)).add hgc hne.1 hne.2.1 hgh (.inr (.inl rfl)) (fun e => (hne.2.2.1 e).elim) (fun _ => Nat.le_refl _) (fun e => (hne.2.2.2 e).elim)
  · exact fun j d hj hd => (h.done j d hj hd).af (lt_of_block hD1) e1 e6 hf Sub.inl hs
  · exact fun j d hj hd => (h.todo j d hj hd).af (lt_of_block hD1) e1 e6 hf (Sub.refl _) (SameOn.old hb)
/-- Bytes are appended, and handed out. -/
theorem AB.app4 (h : AB A0 P g1 o1 N1 cap1 st sm ds w k t F g2 n2 c2 l2 g3 n3 c3 g4 n4 c4 wr) (hP : A0 ≤ P) (h1 : A0 ≤ g1) {g' m cap' : Nat} {xs : List Value} (ho : w'.ownsRow A0 5 1 (sl g' (n4 + m) cap') (n4 + m) xs)
    (hat : AtP ((ar st sm (sl g1 N1 cap1) (sl g2 n2 c2) (sl g3 n3 c3) (sl g4 n4 c4)).setIfInBounds 5 (sl g' (n4 + m) cap')) P w') (hg : g' = g4 ∨ wr.heap.size ≤ g') (hf : AF P g4 (n4 * 1) 5 wr w') :
    AB A0 P g1 o1 N1 cap1 st sm ds w k t (Or2 F (Seg g' (n4 * 1) ((n4 + m) * 1))) g2 n2 c2 l2 g3 n3 c3 g' (n4 + m) cap' w' ∧ SameOn F wr w' ∧ Below A0 wr w' ∧ w'.heap[g2]? = wr.heap[g2]? := by
  obtain ⟨e1, e2, e3, e4, e5, e6, e7, e8, e9, e10⟩ := h.ne
  obtain ⟨q2, q3, q4⟩ := h.ge
  obtain ⟨D1, hD1, hz1⟩ := h.row1
  obtain ⟨xs2, r2⟩ := h.r2
  obtain ⟨xs3, r3⟩ := h.r3
  obtain ⟨d3, _, hd3, _⟩ := ownsRow_form r3
  obtain ⟨xs4, r4⟩ := h.r4
  obtain ⟨d2, _, hd2, _⟩ := ownsRow_form r2
  obtain ⟨d4, _, hd4, _⟩ := ownsRow_form r4
  have hs := h.ap.same hf h.ap.r4
  have hb := hf.below hP q4 h.hA
  obtain ⟨cu, hgc, hgh, _⟩ := ownsRow_form ho
  have hne : g' ≠ P ∧ g' ≠ g1 ∧ g' ≠ g2 ∧ g' ≠ g3 := by
    rcases hg with rfl | hg
    · exact ⟨e4, Ne.symm e7, Ne.symm e9, Ne.symm e10⟩
    · have a1 := lt_of_block h.atP
      have a2 := lt_of_block hD1
      have a3 := lt_of_block hd2
      have a4 := lt_of_block hd3
      refine ⟨?_, ?_, ?_, ?_⟩ <;> omega
  refine ⟨⟨hat, ⟨xs2, own_AF r2 (fun e => e2 (by cases e; rfl)) (fun e => e9 (by cases e; rfl)) hf⟩, ⟨xs3, own_AF r3 (fun e => e3 (by cases e; rfl)) (fun e => e10 (by cases e; rfl)) hf⟩, ⟨xs, ho⟩, ⟨D1, (hf.block g1 (lt_of_block hD1) e1 e7).trans hD1, hz1⟩, h.fr.trans (hf.fr hP q4 h.hA hd4 (by simp) (ShP.at h.atP hat (by simp))), ?_, Nat.le_trans h.hA hf.hsize, h.hl, ?_, ?_⟩, hs, hb, hf.block g2 (lt_of_block hd2) e2 e9⟩
  · exact ((h.ap.app4 (fun cs t hc => by rw [hd4] at hc; simp at hc; exact hc.2.symm) hf hg).more (Nat.le_refl _) (Nat.le_refl _) (Nat.mul_le_mul_right 1 (Nat.le_add_right n4 m))).add hgc hne.1 hne.2.1 hgh (.inr (.inr rfl)) (fun e => (hne.2.2.1 e).elim) (fun e => (hne.2.2.2 e).elim) (fun _ => Nat.le_refl _)
  · exact fun j d hj hd => (h.done j d hj hd).af (lt_of_block hD1) e1 e7 hf Sub.inl hs
  · exact fun j d hj hd => (h.todo j d hj hd).af (lt_of_block hD1) e1 e7 hf (Sub.refl _) (SameOn.old hb)
/-- A store into message k's own cells. -/
theorem AB.set1 {x : Nat} {v : Value} (h : AB A0 P g1 o1 N1 cap1 st sm ds w k (k + 1) F g2 n2 c2 l2 g3 n3 c3 g4 n4 c4 wr) (h1 : A0 ≤ g1) (hx : o1 + k * 5 ≤ x) (hx2 : x < o1 + k * 5 + 5) :
    AB A0 P g1 o1 N1 cap1 st sm ds w k (k + 1) F g2 n2 c2 l2 g3 n3 c3 g4 n4 c4 (wr.setCell ⟨g1, x, none⟩ v) ∧ SameOn F wr (wr.setCell ⟨g1, x, none⟩ v) ∧ Below A0 wr (wr.setCell ⟨g1, x, none⟩ v) := by
  obtain ⟨e1, e2, e3, e4, e5, e6, e7, e8, e9, e10⟩ := h.ne
  obtain ⟨D1, hD1, hz1⟩ := h.row1
  obtain ⟨xs2, r2⟩ := h.r2
  obtain ⟨xs3, r3⟩ := h.r3
  obtain ⟨xs4, r4⟩ := h.r4
  have hs : SameOn F wr (wr.setCell ⟨g1, x, none⟩ v) := SameOn.setCell (fun hb => h.ap.ne1 _ _ hb rfl)
  have hb : Below A0 wr (wr.setCell ⟨g1, x, none⟩ v) := below_setCell (Below.refl _ _) h1 x v
  refine ⟨⟨(block_setCell (Ne.symm e1)).trans h.atP, ⟨xs2, own_set r2 (fun e => e5 (by cases e; rfl))⟩, ⟨xs3, own_set r3 (fun e => e6 (by cases e; rfl))⟩, ⟨xs4, own_set r4 (fun e => e7 (by cases e; rfl))⟩, ⟨_, heap_setCell_same _ _ _ _ _ _ hD1, by simpa using hz1⟩, h.fr.trans (Fr.set h1 hD1 (by simp)), h.ap.set, by rw [size_setCell]; exact h.hA, h.hl, ?_, ?_⟩, hs, hb⟩
  · exact fun j d hj hd => (h.done j d hj hd).go (Sub.refl _) (SameOn.setCell (fun ⟨_, h5, h6⟩ => by omega)) (Sub.refl _) hs
  · exact fun j d hj hd => (h.todo j d hj hd).go (Sub.refl _) (SameOn.setCell (fun ⟨_, h5, h6⟩ => by omega)) (Sub.refl _) (SameOn.old hb)
/-- A store into the calls that are being copied. -/
theorem AB.set2 {x : Nat} {v : Value} (h : AB A0 P g1 o1 N1 cap1 st sm ds w k t F g2 n2 c2 l2 g3 n3 c3 g4 n4 c4 wr) (hx : l2 ≤ x) :
    AB A0 P g1 o1 N1 cap1 st sm ds w k t F g2 n2 c2 l2 g3 n3 c3 g4 n4 c4 (wr.setCell ⟨g2, x, none⟩ v) ∧ SameOn F wr (wr.setCell ⟨g2, x, none⟩ v) ∧ Below A0 wr (wr.setCell ⟨g2, x, none⟩ v) := by
  obtain ⟨e1, e2, e3, e4, e5, e6, e7, e8, e9, e10⟩ := h.ne
  obtain ⟨q2, q3, q4⟩ := h.ge
  obtain ⟨D1, hD1, hz1⟩ := h.row1
  obtain ⟨xs2, r2⟩ := h.r2
  obtain ⟨d2, hg2, hd2, hn2, hc2, hs2⟩ := ownsRow_form r2
  obtain ⟨xs3, r3⟩ := h.r3
  obtain ⟨xs4, r4⟩ := h.r4
  have hs : SameOn F wr (wr.setCell ⟨g2, x, none⟩ v) := SameOn.setCell (fun hb => by have := h.ap.r2 _ hb; omega)
  have hb : Below A0 wr (wr.setCell ⟨g2, x, none⟩ v) := below_setCell (Below.refl _ _) q2 x v
  have hd2' := heap_setCell_same wr g2 x d2 69 v hd2
  refine ⟨⟨(block_setCell (Ne.symm e2)).trans h.atP, ⟨(d2.setIfInBounds x v).toList.take (n2 * 3), ?_, .inr ⟨g2, c2, d2.setIfInBounds x v, rfl, hg2, hd2', hn2, hc2, by simpa using hs2, rfl⟩⟩, ⟨xs3, own_set r3 (fun e => e8 (by cases e; rfl))⟩, ⟨xs4, own_set r4 (fun e => e9 (by cases e; rfl))⟩, ⟨D1, (block_setCell e5).trans hD1, hz1⟩, h.fr.trans (Fr.set q2 hd2 (by simp)), h.ap.set, by rw [size_setCell]; exact h.hA, h.hl, ?_, ?_⟩, hs, hb⟩
  · simp; rw [hs2]; exact Nat.min_eq_left (Nat.mul_le_mul_right 3 hn2)
  · exact fun j d hj hd => (h.done j d hj hd).go (Sub.refl _) (SameOn.setCell (fun h5 => e5 h5.1.symm)) (Sub.refl _) hs
  · exact fun j d hj hd => (h.todo j d hj hd).go (Sub.refl _) (SameOn.setCell (fun h5 => e5 h5.1.symm)) (Sub.refl _) (SameOn.old hb)
/-- The calls of a message are handed out. -/
theorem AB.out2 (h : AB A0 P g1 o1 N1 cap1 st sm ds w k t F g2 n2 c2 l2 g3 n3 c3 g4 n4 c4 wr) : AB A0 P g1 o1 N1 cap1 st sm ds w k t (Or2 F (Seg g2 l2 (n2 * 3))) g2 n2 c2 (n2 * 3) g3 n3 c3 g4 n4 c4 wr := by
  obtain ⟨e1, e2, e3, e4, e5, e6, e7, e8, e9, e10⟩ := h.ne
  obtain ⟨q2, q3, q4⟩ := h.ge
  obtain ⟨xs2, r2⟩ := h.r2
  obtain ⟨d2, hg2, hd2, hn2, hc2, hs2⟩ := ownsRow_form r2
  exact ⟨h.atP, h.r2, h.r3, h.r4, h.row1, h.fr, (h.ap.more h.hl (Nat.le_refl _) (Nat.le_refl _)).add hg2 e2 (Ne.symm e5) hd2 (.inl rfl) (fun _ => Nat.le_refl _) (fun e => (e8 e).elim) (fun e => (e9 e).elim), h.hA, Nat.le_refl _,
    fun j d hj hd => (h.done j d hj hd).go (Sub.refl _) (SameOn.refl _ _) Sub.inl (SameOn.refl _ _), h.todo⟩
end
end Go.Proofs.Qxb6618675a
