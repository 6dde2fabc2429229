/-
  What add's appends hand out, as data.
-/
import Derived.Test.Qxb6618675aAdd2
namespace Go.Proofs.Qxb6618675a
open Go.RowKit
set_option linter.unusedSimpArgs false
set_option linter.unusedVariables false

theorem Apart.drew {A0 P g1 g2 l2 g3 l3 g4 l4 : Nat} {F : Foot} {w : World} (h : Apart A0 P g1 g2 l2 g3 l3 g4 l4 F w) : Apart A0 P g1 g2 l2 g3 l3 g4 l4 F w.drew := ⟨h.ge, h.neP, h.ne1, h.r2, h.r3, h.r4, h.ty⟩
theorem Fr.drew {A0 P : Nat} {w w' : World} (h : Fr A0 P w w') : Fr A0 P w w'.drew := ⟨h.below.drew, h.other, h.shape⟩
theorem AB.drew {A0 P g1 o1 N1 cap1 : Nat} {st sm : Int} {ds : List MsgD} {w : World} {k t : Nat} {F : Foot} {g2 n2 c2 l2 g3 n3 c3 g4 n4 c4 : Nat} {wr : World} (h : AB A0 P g1 o1 N1 cap1 st sm ds w k t F g2 n2 c2 l2 g3 n3 c3 g4 n4 c4 wr) : AB A0 P g1 o1 N1 cap1 st sm ds w k t F g2 n2 c2 l2 g3 n3 c3 g4 n4 c4 wr.drew :=
  ⟨h.atP, h.r2, h.r3, h.r4, h.row1, h.fr.drew, h.ap.drew, h.hA, h.hl, h.done, h.todo⟩
theorem sameOn_drew (U : Foot) (w : World) : SameOn U w w.drew := fun _ _ _ => rfl

section
variable {A0 g' n m cap' rc b off : Nat} {xs news : List Value} {w w' : World} {U : Foot} {ra : Addr}
theorem res_out {rs : List ResD} (ho : w'.ownsRow A0 71 4 (sl g' (n + m) cap') (n + m) (xs ++ news)) (hx : xs.length = n * 4) (hl : rs.length = m) (hnl : news.length = m * 4) (hra : 0 < m → ra = ⟨g', n * 4, none⟩)
    (hs : 0 < m → ∃ b off, RessAt w U b off rs ∧ ∀ j, j < m * 4 → news[j]? = w.cell? ⟨b, off + j, none⟩) : IsRes w' (Seg g' (n * 4) ((n + m) * 4)) (.slice (some ra) m rc) (some rs) := by
  subst hl
  refine ⟨ra, rc, rfl, ?_⟩
  rcases Nat.eq_zero_or_pos rs.length with h0 | hp
  · exact .inl (List.eq_nil_of_length_eq_zero h0)
  · obtain ⟨b, off, hat, hn⟩ := hs hp
    refine .inr ⟨g', n * 4, hra hp, fun j r hj => ?_⟩
    have hjl := (List.getElem?_eq_some_iff.1 hj).1
    obtain ⟨_, c0, c1, c2, c3⟩ := hat j r hj
    have hc : ∀ i, i < 4 → w'.cell? ⟨g', n * 4 + j * 4 + i, none⟩ = w.cell? ⟨b, off + j * 4 + i, none⟩ := fun i hi => by
      have h1 := appended (w := w) ho hx hnl (j := j * 4 + i) (by omega)
      rw [← Nat.add_assoc] at h1
      rw [h1, hn _ (by omega), Nat.add_assoc]
    have hu : ∀ i, i < 4 → Seg g' (n * 4) ((n + rs.length) * 4) g' (n * 4 + j * 4 + i) := fun i hi => ⟨rfl, by omega, by omega⟩
    exact ⟨⟨hu 0 (by decide), hu 1 (by decide), hu 2 (by decide), hu 3 (by decide)⟩, (hc 0 (by decide)).trans c0, (hc 1 (by decide)).trans c1, (hc 2 (by decide)).trans c2, (hc 3 (by decide)).trans c3⟩
theorem args_out {bs : List Int} (ho : w'.ownsRow A0 5 1 (sl g' (n + m) cap') (n + m) (xs ++ news)) (hx : xs.length = n * 1) (hl : bs.length = m) (hnl : news.length = m * 1) (hra : 0 < m → ra = ⟨g', n * 1, none⟩)
    (hs : 0 < m → ∃ b off, ArgsAt w U b off bs ∧ ∀ j, j < m * 1 → news[j]? = w.cell? ⟨b, off + j, none⟩) : IsArgs w' (Seg g' (n * 1) ((n + m) * 1)) (.slice (some ra) m rc) (some bs) := by
  subst hl
  refine ⟨ra, rc, rfl, ?_⟩
  rcases Nat.eq_zero_or_pos bs.length with h0 | hp
  · exact .inl (List.eq_nil_of_length_eq_zero h0)
  · obtain ⟨b, off, hat, hn⟩ := hs hp
    refine .inr ⟨g', n * 1, hra hp, fun j r hj => ?_⟩
    have hjl := (List.getElem?_eq_some_iff.1 hj).1
    obtain ⟨_, c0⟩ := hat j r hj
    have h1 := appended (w := w) ho hx hnl (j := j) (by omega)
    exact ⟨⟨rfl, by omega, by omega⟩, by rw [h1, hn _ (by omega)]; exact c0⟩
theorem calls_out {cs : List CallD} (ho : w'.ownsRow A0 69 3 (sl g' (n + m) cap') (n + m) (xs ++ news)) (hx : xs.length = n * 3) (hl : cs.length = m) (hnl : news.length = m * 3)
    (hs : 0 < m → ∃ b off, CallsAt w (Old A0) b off cs ∧ ∀ j, j < m * 3 → news[j]? = w.cell? ⟨b, off + j, none⟩) (hb : Below A0 w w') : ∀ i c, cs[i]? = some c → CallAt2 w' (Seg g' (n * 3) ((n + m) * 3)) (Old A0) g' (n * 3 + i * 3) c := by
  intro j c hj
  have hjl := (List.getElem?_eq_some_iff.1 hj).1
  obtain ⟨b, off, hat, hn⟩ := hs (by omega)
  obtain ⟨_, c0, c1, va, c2, ha⟩ := hat j c hj
  have hc : ∀ i, i < 3 → w'.cell? ⟨g', n * 3 + j * 3 + i, none⟩ = w.cell? ⟨b, off + j * 3 + i, none⟩ := fun i hi => by
    have h1 := appended (w := w) ho hx hnl (j := j * 3 + i) (by omega)
    rw [← Nat.add_assoc] at h1
    rw [h1, hn _ (by omega), Nat.add_assoc]
  have hu : ∀ i, i < 3 → Seg g' (n * 3) ((n + m) * 3) g' (n * 3 + j * 3 + i) := fun i hi => ⟨rfl, by omega, by omega⟩
  exact ⟨⟨hu 0 (by decide), hu 1 (by decide), hu 2 (by decide)⟩, (hc 0 (by decide)).trans c0, (hc 1 (by decide)).trans c1, va, (hc 2 (by decide)).trans c2, ha.go (Sub.refl _) (SameOn.old hb)⟩
/-- The copied calls, handed out. -/
theorem calls_done {cs : List CallD} {F : Foot} {l hi : Nat} (hl : cs.length = m) (hra : 0 < m → ra = ⟨g', l, none⟩) (h : ∀ i c, cs[i]? = some c → CallAt2 w (Seg g' l hi) F g' (l + i * 3) c) : IsCalls w (Or2 F (Seg g' l hi)) (.slice (some ra) m rc) (some cs) := by
  subst hl
  refine ⟨ra, rc, rfl, ?_⟩
  rcases Nat.eq_zero_or_pos cs.length with h0 | hp
  · exact .inl (List.eq_nil_of_length_eq_zero h0)
  · exact .inr ⟨g', l, hra hp, fun j c hj => (h j c hj).both⟩
end
end Go.Proofs.Qxb6618675a
