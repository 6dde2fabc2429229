/-
  WHAT THE ROW GIVES THE WALK: a slice of the law's messages that can be read as data lies in memory as the walk wants it.
-/
import Derived.Test.Qxb6618675aData
import Derived.ProofKit
import Derived.Below
namespace Go.Proofs.Qxb6618675a
open Go.ChangeShapes Go.WideShapes Go.ChangeAt Go.RowKit
set_option linter.unusedSimpArgs false

theorem own : ownKnob Try.prog.godebug = none := by kernel_rfl
theorem laidOut : laidOutB Try.prog = true := by kernel_rfl
theorem cells5 : Try.prog.cellsOf 5 = 1 := by kernel_rfl
theorem cells9 : Try.prog.cellsOf 9 = 1 := by kernel_rfl
theorem cells4 : Try.prog.cellsOf 4 = 1 := by kernel_rfl
theorem cells48 : Try.prog.cellsOf 48 = 1 := by kernel_rfl
theorem cells50 : Try.prog.cellsOf 50 = 3 := by kernel_rfl
theorem cells52 : Try.prog.cellsOf 52 = 4 := by kernel_rfl
theorem cells38 : Try.prog.cellsOf 38 = 1 := by kernel_rfl
theorem cells39 : Try.prog.cellsOf 39 = 1 := by kernel_rfl
theorem cells41 : Try.prog.cellsOf 41 = 5 := by kernel_rfl

theorem list1 {α : Type} {l : List α} (h : l.length = 1) : ∃ c0, l = [c0] := by
  match l, h with
  | [c0], _ => exact ⟨c0, rfl⟩
theorem list3 {α : Type} {l : List α} (h : l.length = 3) : ∃ c0 c1 c2, l = [c0, c1, c2] := by
  match l, h with
  | [c0, c1, c2], _ => exact ⟨c0, c1, c2, rfl⟩
theorem list4 {α : Type} {l : List α} (h : l.length = 4) : ∃ c0 c1 c2 c3, l = [c0, c1, c2, c3] := by
  match l, h with
  | [c0, c1, c2, c3], _ => exact ⟨c0, c1, c2, c3, rfl⟩
theorem list5 {α : Type} {l : List α} (h : l.length = 5) : ∃ c0 c1 c2 c3 c4, l = [c0, c1, c2, c3, c4] := by
  match l, h with
  | [c0, c1, c2, c3, c4], _ => exact ⟨c0, c1, c2, c3, c4, rfl⟩
theorem cell_lt {w : World} {p : Addr} {v : Value} (h : w.cell? p = some v) : p.block < w.heap.size := by
  unfold World.cell? at h
  split at h
  · rename_i hb
    exact lt_of_block hb
  · cases h
/-- From one of each to a list of all. -/
theorem list_of {α : Type} {P : Nat → α → Prop} : ∀ (n : Nat), (∀ j, j < n → ∃ x, P j x) → ∃ xs : List α, xs.length = n ∧ ∀ j x, xs[j]? = some x → P j x
  | 0, _ => ⟨[], rfl, fun j x h => by simp at h⟩
  | n + 1, h => by
    obtain ⟨xs, hl, hx⟩ := list_of n fun j hj => h j (by omega)
    obtain ⟨y, hy⟩ := h n (by omega)
    refine ⟨xs ++ [y], by simp [hl], fun j x hj => ?_⟩
    by_cases hjn : j < xs.length
    · rw [List.getElem?_append_left hjn] at hj; exact hx j x hj
    · rw [List.getElem?_append_right (by omega)] at hj
      have : j - xs.length = 0 := by
        have := (List.getElem?_eq_some_iff.1 hj).1
        simp at this; omega
      rw [this] at hj
      simp at hj
      subst hj
      have : j = n := by omega
      subst this
      exact hy

section
variable {H : Type} {enc : TypeId × Value → H} {W : World} {base fuel : Nat} {held : Bool} {x : DataW H × List MemPlace}
/-- A slice that can be read as data: its elements lie there. -/
theorem sl_of {α : Type} {T E : TypeId} {sz : Nat} {c : Value} (hT : Try.prog.underlying T = some (.slice E)) (hE : Try.prog.cellsOf E = sz) (hsz : 0 < sz) {at1 : Nat → Nat → α → Prop}
    (hel : ∀ n b off cs y, cs.length = sz → (∀ k, k < sz → W.cell? ⟨b, off + k, none⟩ = cs[k]?) → b < W.heap.size → DataW.trod enc Try.prog W base (fun _ => true) held n E cs = some y → ∃ x, at1 b off x)
    (h : DataW.trod enc Try.prog W base (fun _ => true) held fuel T [c] = some x) :
    ∃ o : Option (List α), IsSl (fun b off xs => ∀ j x, xs[j]? = some x → at1 b (off + j * sz) x) c o ∧ ∃ a n cap, c = .slice a n cap ∧ n ≤ cap ∧ n = (o.getD []).length ∧ (a = none → cap = 0) := by
  subst hE
  rcases DataW.trod_slice hT h with ⟨hcs, _⟩ | ⟨a, len, cap, elems, rest, n, _, hcs, _, _, hl, hm, hlen, hel', _⟩
  · simp at hcs
    exact ⟨none, hcs, none, 0, 0, hcs, Nat.le_refl _, rfl, fun _ => rfl⟩
  · simp at hcs
    subst hcs
    have each : ∀ i, i < len → ∃ cs y, cs.length = Try.prog.cellsOf E ∧ (∀ k, k < Try.prog.cellsOf E → W.cell? ((a.add (i * Try.prog.cellsOf E)).add k) = cs[k]?) ∧ DataW.trod enc Try.prog W base (fun _ => true) held n E cs = some y := fun i hi => by
      have h1 := hel' i hi
      rw [List.getElem?_eq_getElem (by omega)] at h1
      obtain ⟨cs, hc, ht⟩ := Option.bind_eq_some_iff.1 h1
      obtain ⟨_, hcl, hcc⟩ := World.cells?_some hc
      exact ⟨cs, _, hcl, hcc, ht⟩
    rcases Nat.eq_zero_or_pos len with h0 | hp
    · subst h0
      exact ⟨some [], ⟨a, cap, rfl, .inl rfl⟩, some a, 0, cap, rfl, hl, rfl, fun h => by cases h⟩
    · obtain ⟨b, off, spot⟩ := a
      obtain ⟨cs0, y0, l0, c0, _⟩ := each 0 hp
      obtain ⟨v0, hv0⟩ : ∃ v, cs0[0]? = some v := ⟨_, List.getElem?_eq_getElem (by omega)⟩
      have hz : W.cell? (((⟨b, off, spot⟩ : Addr).add (0 * Try.prog.cellsOf E)).add 0) = some v0 := (c0 0 hsz).trans hv0
      have hspot : spot = none := by simpa [Addr.add] using World.cell?_spot hz
      subst hspot
      have hb : b < W.heap.size := by simpa [Addr.add] using cell_lt hz
      obtain ⟨xs, hxl, hx⟩ := list_of (P := fun j x => at1 b (off + j * Try.prog.cellsOf E) x) len fun j hj => by
        obtain ⟨cs, y, hcl, hc, ht⟩ := each j hj
        refine hel n b _ cs y hcl (fun k hk => ?_) hb ht
        rw [← hc k hk, Go.WideShapes.add_plain, Go.WideShapes.add_plain]
      refine ⟨some xs, ⟨⟨b, off, none⟩, cap, by rw [hxl], .inr ⟨b, off, rfl, hx⟩⟩, some ⟨b, off, none⟩, len, cap, rfl, hl, hxl.symm, fun h => by cases h⟩

theorem args_of {c : Value} (h : DataW.trod enc Try.prog W base (fun _ => true) held fuel 48 [c] = some x) : ∃ o, IsArgs W (Old W.heap.size) c o := by
  obtain ⟨o, ho, _⟩ := sl_of (α := Int) (at1 := fun b off x => Old W.heap.size b off ∧ W.cell? ⟨b, off, none⟩ = some (.int .u8 x)) Try.underlying48 cells5 (by decide) (fun n b off cs y hl hc hb ht => by
    obtain ⟨c0, rfl⟩ := list1 hl
    obtain ⟨z, e0, _⟩ := DataW.trod_int Try.underlying5 ht
    simp at e0
    subst e0
    exact ⟨z, hb, hc 0 (by decide)⟩) h
  refine ⟨o, ho.imp fun b off xs _ h j x hj => ?_⟩
  have := h j x hj
  rw [Nat.mul_one] at this
  exact this
theorem calls_of {c : Value} (h : DataW.trod enc Try.prog W base (fun _ => true) held fuel 38 [c] = some x) : ∃ o, IsCalls W (Old W.heap.size) c o := by
  obtain ⟨o, ho, _⟩ := sl_of (α := CallD) (at1 := CallAt W (Old W.heap.size)) Try.underlying38 cells50 (by decide) (fun n b off cs y hl hc hb ht => by
    obtain ⟨c0, c1, c2, rfl⟩ := list3 hl
    obtain ⟨xs, m, _, _, _, hlen, hget⟩ := DataW.trod_struct Try.underlying50 ht
    obtain ⟨y0, y1, y2, rfl⟩ := list3 (l := xs) (by simpa using hlen)
    have g0 := hget 0 _ rfl
    simp [cells9] at g0
    obtain ⟨s0, e0, _⟩ := DataW.trod_string Try.underlying9 g0
    have g1 := hget 1 _ rfl
    simp [cells9] at g1
    obtain ⟨s1, e1, _⟩ := DataW.trod_string Try.underlying9 g1
    have g2 := hget 2 _ rfl
    simp [cells48] at g2
    obtain ⟨o2, h2⟩ := args_of g2
    simp at e0 e1
    subst e0 e1
    exact ⟨⟨s0, s1, o2⟩, ⟨hb, hb, hb⟩, hc 0 (by decide), hc 1 (by decide), c2, hc 2 (by decide), h2⟩) h
  exact ⟨o, ho⟩
theorem ress_of {c : Value} (h : DataW.trod enc Try.prog W base (fun _ => true) held fuel 39 [c] = some x) : ∃ o, IsRes W (Old W.heap.size) c o := by
  obtain ⟨o, ho, _⟩ := sl_of (α := ResD) (at1 := ResAt W (Old W.heap.size)) Try.underlying39 cells52 (by decide) (fun n b off cs y hl hc hb ht => by
    obtain ⟨c0, c1, c2, c3, rfl⟩ := list4 hl
    obtain ⟨xs, m, _, _, _, hlen, hget⟩ := DataW.trod_struct Try.underlying52 ht
    obtain ⟨y0, y1, y2, y3, rfl⟩ := list4 (l := xs) (by simpa using hlen)
    have g0 := hget 0 _ rfl
    simp [cells9] at g0
    obtain ⟨s0, e0, _⟩ := DataW.trod_string Try.underlying9 g0
    have g1 := hget 1 _ rfl
    simp [cells9] at g1
    obtain ⟨s1, e1, _⟩ := DataW.trod_string Try.underlying9 g1
    have g2 := hget 2 _ rfl
    simp [cells9] at g2
    obtain ⟨s2, e2, _⟩ := DataW.trod_string Try.underlying9 g2
    have g3 := hget 3 _ rfl
    simp [cells4] at g3
    obtain ⟨s3, e3, _⟩ := DataW.trod_bool Try.underlying4 g3
    simp at e0 e1 e2 e3
    subst e0 e1 e2 e3
    exact ⟨⟨s0, s1, s2, s3⟩, ⟨hb, hb, hb, hb⟩, hc 0 (by decide), hc 1 (by decide), hc 2 (by decide), hc 3 (by decide)⟩) h
  exact ⟨o, ho⟩
theorem msgs_of {c : Value} (h : DataW.trod enc Try.prog W base (fun _ => true) held fuel 22 [c] = some x) : ∃ ds, IsOld W c ds := by
  obtain ⟨o, ho, a, n, cap, rfl, hl, hn, hnil⟩ := sl_of (α := MsgD) (at1 := MsgAt W (Old W.heap.size) (Old W.heap.size)) Try.underlying22 cells41 (by decide) (fun n b off cs y hl hc hb ht => by
    obtain ⟨c0, c1, c2, c3, c4, rfl⟩ := list5 hl
    obtain ⟨xs, m, _, _, _, hlen, hget⟩ := DataW.trod_struct Try.underlying41 ht
    obtain ⟨y0, y1, y2, y3, y4, rfl⟩ := list5 (l := xs) (by simpa using hlen)
    have g0 := hget 0 _ rfl
    simp [cells9] at g0
    obtain ⟨s0, e0, _⟩ := DataW.trod_string Try.underlying9 g0
    have g1 := hget 1 _ rfl
    simp [cells9] at g1
    obtain ⟨s1, e1, _⟩ := DataW.trod_string Try.underlying9 g1
    have g2 := hget 2 _ rfl
    simp [cells9] at g2
    obtain ⟨s2, e2, _⟩ := DataW.trod_string Try.underlying9 g2
    have g3 := hget 3 _ rfl
    simp [cells38] at g3
    obtain ⟨o3, h3⟩ := calls_of g3
    have g4 := hget 4 _ rfl
    simp [cells39] at g4
    obtain ⟨o4, h4⟩ := ress_of g4
    simp at e0 e1 e2
    subst e0 e1 e2
    exact ⟨⟨s0, s1, s2, o3, o4⟩, ⟨hb, hb, hb, hb, hb⟩, hc 0 (by decide), hc 1 (by decide), hc 2 (by decide), c3, c4, hc 3 (by decide), hc 4 (by decide), h3, h4⟩) h
  refine ⟨o.getD [], a, cap, by rw [hn], ?_, hnil, by omega⟩
  cases o with
  | none => exact .inl rfl
  | some xs =>
    obtain ⟨a', cap', e, hx⟩ := ho
    simp only [Value.slice.injEq] at e
    obtain ⟨rfl, _, _⟩ := e
    exact hx.imp id fun ⟨b, off, e, hx⟩ => ⟨b, off, by rw [e], hx⟩
end
end Go.Proofs.Qxb6618675a
