/-
  The sources of add's appends; the message that is being copied.
-/
import Derived.Test.Qxb6618675aAdd1
namespace Go.Proofs.Qxb6618675a
open Go.RowKit
set_option linter.unusedSimpArgs false
set_option linter.unusedVariables false

theorem IsSl.one {α : Type} {p : Nat → Nat → List α → Prop} {v : Value} {o : Option (List α)} (h : IsSl p v o) : v.oneCell' = true := by
  obtain ⟨a, n, c, rfl, _⟩ := h.view; rfl
/-- What the law on append is given of a source slice; what its cells are. -/
def Src (w : World) (a : Addr) (n size : Nat) (news : List Value) : Prop :=
  news.length = n * size ∧ (∀ j u, news[j]? = some u → w.cell? (a.add j) = some u) ∧ (∀ u ∈ news, u.oneCell' = true)
theorem src_nil (w : World) (a : Addr) (size : Nat) : Src w a 0 size [] := ⟨by simp, fun j u h => by simp at h, fun u h => by simp at h⟩
theorem calls_src {w : World} {U : Foot} {a : Addr} {n c : Nat} {cs : List CallD} (h : IsCalls w U (.slice (some a) n c) (some cs)) :
    ∃ news, Src w a n 3 news ∧ cs.length = n ∧ (0 < n → ∃ b off, a = ⟨b, off, none⟩ ∧ CallsAt w U b off cs ∧ ∀ j, j < n * 3 → news[j]? = w.cell? ⟨b, off + j, none⟩) := by
  obtain ⟨a', c', e, h⟩ := h
  cases e
  rcases h with rfl | ⟨b, off, rfl, h⟩
  · exact ⟨[], src_nil w a 3, rfl, fun h => by simp at h⟩
  · have hall : ∀ i, i < cs.length * 3 → ∃ u : Value, w.cell? ⟨b, off + i, none⟩ = some u ∧ u.oneCell' = true := fun i hi => by
      obtain ⟨x, hx⟩ : ∃ x, cs[i / 3]? = some x := ⟨_, List.getElem?_eq_getElem (by omega)⟩
      obtain ⟨_, c0, c1, va, c2, ha⟩ := h (i / 3) x hx
      have hm : i = i / 3 * 3 + i % 3 := by omega
      have h3 : i % 3 < 3 := by omega
      rcases (by omega : i % 3 = 0 ∨ i % 3 = 1 ∨ i % 3 = 2) with e | e | e
      · exact ⟨_, (by rw [hm, e, Nat.add_zero]; exact c0), rfl⟩
      · exact ⟨_, (by rw [hm, e, ← Nat.add_assoc]; exact c1), rfl⟩
      · exact ⟨_, (by rw [hm, e, ← Nat.add_assoc]; exact c2), ha.one⟩
    obtain ⟨news, s1, s2, s3, s4⟩ := source hall
    exact ⟨news, ⟨s1, s2, s3⟩, rfl, fun _ => ⟨b, off, rfl, h, s4⟩⟩
theorem res_src {w : World} {U : Foot} {a : Addr} {n c : Nat} {cs : List ResD} (h : IsRes w U (.slice (some a) n c) (some cs)) :
    ∃ news, Src w a n 4 news ∧ cs.length = n ∧ (0 < n → ∃ b off, a = ⟨b, off, none⟩ ∧ RessAt w U b off cs ∧ ∀ j, j < n * 4 → news[j]? = w.cell? ⟨b, off + j, none⟩) := by
  obtain ⟨a', c', e, h⟩ := h
  cases e
  rcases h with rfl | ⟨b, off, rfl, h⟩
  · exact ⟨[], src_nil w a 4, rfl, fun h => by simp at h⟩
  · have hall : ∀ i, i < cs.length * 4 → ∃ u : Value, w.cell? ⟨b, off + i, none⟩ = some u ∧ u.oneCell' = true := fun i hi => by
      obtain ⟨x, hx⟩ : ∃ x, cs[i / 4]? = some x := ⟨_, List.getElem?_eq_getElem (by omega)⟩
      obtain ⟨_, c0, c1, c2, c3⟩ := h (i / 4) x hx
      have hm : i = i / 4 * 4 + i % 4 := by omega
      rcases (by omega : i % 4 = 0 ∨ i % 4 = 1 ∨ i % 4 = 2 ∨ i % 4 = 3) with e | e | e | e
      · exact ⟨_, (by rw [hm, e, Nat.add_zero]; exact c0), rfl⟩
      · exact ⟨_, (by rw [hm, e, ← Nat.add_assoc]; exact c1), rfl⟩
      · exact ⟨_, (by rw [hm, e, ← Nat.add_assoc]; exact c2), rfl⟩
      · exact ⟨_, (by rw [hm, e, ← Nat.add_assoc]; exact c3), rfl⟩
    obtain ⟨news, s1, s2, s3, s4⟩ := source hall
    exact ⟨news, ⟨s1, s2, s3⟩, rfl, fun _ => ⟨b, off, rfl, h, s4⟩⟩
theorem args_src {w : World} {U : Foot} {a : Addr} {n c : Nat} {cs : List Int} (h : IsArgs w U (.slice (some a) n c) (some cs)) :
    ∃ news, Src w a n 1 news ∧ cs.length = n ∧ (0 < n → ∃ b off, a = ⟨b, off, none⟩ ∧ ArgsAt w U b off cs ∧ ∀ j, j < n * 1 → news[j]? = w.cell? ⟨b, off + j, none⟩) := by
  obtain ⟨a', c', e, h⟩ := h
  cases e
  rcases h with rfl | ⟨b, off, rfl, h⟩
  · exact ⟨[], src_nil w a 1, rfl, fun h => by simp at h⟩
  · have hall : ∀ i, i < cs.length * 1 → ∃ u : Value, w.cell? ⟨b, off + i, none⟩ = some u ∧ u.oneCell' = true := fun i hi => by
      obtain ⟨x, hx⟩ : ∃ x, cs[i]? = some x := ⟨_, List.getElem?_eq_getElem (by omega)⟩
      exact ⟨_, (h i x hx).2, rfl⟩
    obtain ⟨news, s1, s2, s3, s4⟩ := source hall
    exact ⟨news, ⟨s1, s2, s3⟩, rfl, fun _ => ⟨b, off, rfl, h, s4⟩⟩
theorem msgs_src {w : World} {U V : Foot} {b off : Nat} {ds : List MsgD} (h : MsgsAt w U V b off ds) : ∃ news, Src w ⟨b, off, none⟩ ds.length 5 news ∧ ∀ j, j < ds.length * 5 → news[j]? = w.cell? ⟨b, off + j, none⟩ := by
  have hall : ∀ i, i < ds.length * 5 → ∃ u : Value, w.cell? ⟨b, off + i, none⟩ = some u ∧ u.oneCell' = true := fun i hi => by
    obtain ⟨x, hx⟩ : ∃ x, ds[i / 5]? = some x := ⟨_, List.getElem?_eq_getElem (by omega)⟩
    obtain ⟨_, c0, c1, c2, vc, vr, c3, c4, hm⟩ := h (i / 5) x hx
    have hm' : i = i / 5 * 5 + i % 5 := by omega
    rcases (by omega : i % 5 = 0 ∨ i % 5 = 1 ∨ i % 5 = 2 ∨ i % 5 = 3 ∨ i % 5 = 4) with e | e | e | e | e
    · exact ⟨_, (by rw [hm', e, Nat.add_zero]; exact c0), rfl⟩
    · exact ⟨_, (by rw [hm', e, ← Nat.add_assoc]; exact c1), rfl⟩
    · exact ⟨_, (by rw [hm', e, ← Nat.add_assoc]; exact c2), rfl⟩
    · exact ⟨_, (by rw [hm', e, ← Nat.add_assoc]; exact c3), hm.1.one⟩
    · exact ⟨_, (by rw [hm', e, ← Nat.add_assoc]; exact c4), hm.2.one⟩
  obtain ⟨news, s1, s2, s3, s4⟩ := source hall
  exact ⟨news, ⟨s1, s2, s3⟩, s4⟩

/-- The five cells of the message that is being copied. -/
def Cur (wr : World) (g x : Nat) (d : MsgD) (vc vr : Value) : Prop :=
  wr.cell? ⟨g, x, none⟩ = some (.string d.role) ∧ wr.cell? ⟨g, x + 1, none⟩ = some (.string d.text) ∧ wr.cell? ⟨g, x + 2, none⟩ = some (.string d.ref) ∧ wr.cell? ⟨g, x + 3, none⟩ = some vc ∧ wr.cell? ⟨g, x + 4, none⟩ = some vr
theorem Cur.block {wr w' : World} {g x : Nat} {d : MsgD} {vc vr : Value} (h : Cur wr g x d vc vr) (hb : w'.heap[g]? = wr.heap[g]?) : Cur w' g x d vc vr := by
  have hc : ∀ o, w'.cell? ⟨g, o, none⟩ = wr.cell? ⟨g, o, none⟩ := fun o => World.cell?_of_block (w := wr) (a := ⟨g, o, none⟩) hb
  obtain ⟨h0, h1, h2, h3, h4⟩ := h
  exact ⟨(hc _).trans h0, (hc _).trans h1, (hc _).trans h2, (hc _).trans h3, (hc _).trans h4⟩
theorem Cur.set3 {wr : World} {g x : Nat} {d : MsgD} {vc vr v : Value} (h : Cur wr g x d vc vr) : Cur (wr.setCell ⟨g, x + 3, none⟩ v) g x d v vr := by
  obtain ⟨h0, h1, h2, h3, h4⟩ := h
  exact ⟨(cell_setCell_ne (by omega)).trans h0, (cell_setCell_ne (by omega)).trans h1, (cell_setCell_ne (by omega)).trans h2, World.cell?_setCell_same wr ⟨g, x + 3, none⟩ v h3, (cell_setCell_ne (by omega)).trans h4⟩
theorem Cur.set4 {wr : World} {g x : Nat} {d : MsgD} {vc vr v : Value} (h : Cur wr g x d vc vr) : Cur (wr.setCell ⟨g, x + 4, none⟩ v) g x d vc v := by
  obtain ⟨h0, h1, h2, h3, h4⟩ := h
  exact ⟨(cell_setCell_ne (by omega)).trans h0, (cell_setCell_ne (by omega)).trans h1, (cell_setCell_ne (by omega)).trans h2, (cell_setCell_ne (by omega)).trans h3, World.cell?_setCell_same wr ⟨g, x + 4, none⟩ v h4⟩
theorem Cur.at {wr : World} {V : Foot} {g x : Nat} {d : MsgD} {vc vr : Value} (h : Cur wr g x d vc vr) (hm : MsgSl wr V vc vr d) : MsgAt wr (Seg g x (x + 5)) V g x d := by
  obtain ⟨h0, h1, h2, h3, h4⟩ := h
  have hu : ∀ i, i < 5 → Seg g x (x + 5) g (x + i) := fun i hi => ⟨rfl, by omega, by omega⟩
  exact ⟨⟨hu 0 (by decide), hu 1 (by decide), hu 2 (by decide), hu 3 (by decide), hu 4 (by decide)⟩, h0, h1, h2, vc, vr, h3, h4, hm⟩
theorem MsgAt.cur {wr : World} {U V : Foot} {g x : Nat} {d : MsgD} (h : MsgAt wr U V g x d) : ∃ vc vr, Cur wr g x d vc vr ∧ MsgSl wr V vc vr d := by
  obtain ⟨_, h0, h1, h2, vc, vr, h3, h4, hm⟩ := h
  exact ⟨vc, vr, ⟨h0, h1, h2, h3, h4⟩, hm⟩
/-- Message k is done. -/
theorem AB.next {A0 P g1 o1 N1 cap1 : Nat} {st sm : Int} {ds : List MsgD} {w : World} {k : Nat} {F : Foot} {g2 n2 c2 l2 g3 n3 c3 g4 n4 c4 : Nat} {wr : World} {d : MsgD} {vc vr : Value} (h : AB A0 P g1 o1 N1 cap1 st sm ds w k (k + 1) F g2 n2 c2 l2 g3 n3 c3 g4 n4 c4 wr)
    (hd : ds[k]? = some d) (hc : Cur wr g1 (o1 + k * 5) d vc vr) (hm : MsgSl wr F vc vr d) : AB A0 P g1 o1 N1 cap1 st sm ds w (k + 1) (k + 1) F g2 n2 c2 l2 g3 n3 c3 g4 n4 c4 wr :=
  ⟨h.atP, h.r2, h.r3, h.r4, h.row1, h.fr, h.ap, h.hA, h.hl, fun j d' hj hd' => by
    by_cases e : j = k
    · subst e; rw [hd] at hd'; cases hd'; exact hc.at hm
    · exact h.done j d' (by omega) hd', h.todo⟩
theorem AB.skip {A0 P g1 o1 N1 cap1 : Nat} {st sm : Int} {ds : List MsgD} {w : World} {k : Nat} {F : Foot} {g2 n2 c2 l2 g3 n3 c3 g4 n4 c4 : Nat} {wr : World} (h : AB A0 P g1 o1 N1 cap1 st sm ds w k k F g2 n2 c2 l2 g3 n3 c3 g4 n4 c4 wr) : AB A0 P g1 o1 N1 cap1 st sm ds w k (k + 1) F g2 n2 c2 l2 g3 n3 c3 g4 n4 c4 wr :=
  ⟨h.atP, h.r2, h.r3, h.r4, h.row1, h.fr, h.ap, h.hA, h.hl, h.done, fun j d hj hd => h.todo j d (by omega) hd⟩
/-- A part of the calls' row that is being copied, while bytes are appended or another of its cells is written. -/
theorem CallAt2.block {w w' : World} {V V' : Foot} {g lo hi off : Nat} {c : CallD} (h : CallAt2 w (Seg g lo hi) V g off c) (hb : w'.heap[g]? = w.heap[g]?) (hV : Sub V V') (hs : SameOn V w w') : CallAt2 w' (Seg g lo hi) V' g off c :=
  h.go (Sub.refl _) (fun x o hx => World.cell?_of_block (w := w) (a := ⟨x, o, none⟩) (by obtain ⟨rfl, _⟩ := hx; exact hb)) hV hs
theorem CallAt2.other {w : World} {V : Foot} {g lo hi off x : Nat} {v : Value} {c : CallD} (h : CallAt2 w (Seg g lo hi) V g off c) (hx : x < off ∨ off + 3 ≤ x) (hs : SameOn V w (w.setCell ⟨g, x, none⟩ v)) : CallAt2 (w.setCell ⟨g, x, none⟩ v) (Seg g lo hi) V g off c := by
  obtain ⟨u, c0, c1, va, c2, ha⟩ := h
  exact ⟨u, (cell_setCell_ne (by omega)).trans c0, (cell_setCell_ne (by omega)).trans c1, va, (cell_setCell_ne (by omega)).trans c2, ha.go (Sub.refl _) hs⟩
theorem CallAt2.args {w : World} {V V' : Foot} {g lo hi off : Nat} {v : Value} {c : CallD} (h : CallAt2 w (Seg g lo hi) V g off c) (ha : IsArgs (w.setCell ⟨g, off + 2, none⟩ v) V' v c.args) : CallAt2 (w.setCell ⟨g, off + 2, none⟩ v) (Seg g lo hi) V' g off c := by
  obtain ⟨u, c0, c1, va, c2, _⟩ := h
  exact ⟨u, (cell_setCell_ne (by omega)).trans c0, (cell_setCell_ne (by omega)).trans c1, v, World.cell?_setCell_same w ⟨g, off + 2, none⟩ v c2, ha⟩
theorem CallAt2.both {w : World} {F : Foot} {g lo hi off : Nat} {c : CallD} (h : CallAt2 w (Seg g lo hi) F g off c) : CallAt w (Or2 F (Seg g lo hi)) g off c := by
  obtain ⟨⟨u0, u1, u2⟩, c0, c1, va, c2, ha⟩ := h
  exact ⟨⟨.inr u0, .inr u1, .inr u2⟩, c0, c1, va, c2, ha.go Sub.inl (SameOn.refl _ _)⟩
end Go.Proofs.Qxb6618675a
