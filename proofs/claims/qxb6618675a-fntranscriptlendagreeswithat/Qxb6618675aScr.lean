/-
  WHAT SCRIBBLE MAY DO: cells of calls, results and bytes are written over by cells of the same kind. And what it needs to find.
-/
import Derived.Test.Qxb6618675aAt
namespace Go.Proofs.Qxb6618675a
open Go.RowKit
set_option linter.unusedSimpArgs false
set_option linter.unusedVariables false

/-- A cell of the same kind; a string no more than n longer. -/
inductive Kin (n : Nat) : Value → Value → Prop
  | same (v : Value) : Kin n v v
  | str {s s' : ByteArray} (h : s'.size ≤ s.size + n) : Kin n (.string s) (.string s')
  | u8 (x y : Int) : Kin n (.int .u8 x) (.int .u8 y)
  | bl (x y : Bool) : Kin n (.bool x) (.bool y)
theorem Kin.trans {n m : Nat} {a b c : Value} (h : Kin n a b) (k : Kin m b c) : Kin (n + m) a c := by
  cases h with
  | same => cases k with
    | same => exact .same _
    | str h => exact .str (by omega)
    | u8 x y => exact .u8 _ _
    | bl x y => exact .bl _ _
  | str h => cases k with
    | same => exact .str (by omega)
    | str h' => exact .str (by omega)
  | u8 x y => cases k <;> exact .u8 _ _
  | bl x y => cases k <;> exact .bl _ _
theorem Kin.mono {n m : Nat} {a b : Value} (h : Kin n a b) (hn : n ≤ m) : Kin m a b := by
  cases h with
  | same => exact .same _
  | str h => exact .str (by omega)
  | u8 x y => exact .u8 _ _
  | bl x y => exact .bl _ _

/-- A block that may be written over. -/
def W3 (w : World) (A0 b : Nat) : Prop := A0 ≤ b ∧ ∃ cs t, w.heap[b]? = some (.cells cs t (0, 0)) ∧ (t = 69 ∨ t = 71 ∨ t = 5)
structure Scr (A0 n : Nat) (w w' : World) : Prop where
  below : Below A0 w w'
  other : ∀ (b : Nat) (cs : Array Value) (t : TypeId) (fr : Nat × Nat), w.heap[b]? = some (.cells cs t fr) → t ≠ 69 → t ≠ 71 → t ≠ 5 → w'.heap[b]? = some (.cells cs t fr)
  shape : ∀ (b : Nat) (cs : Array Value) (t : TypeId), w.heap[b]? = some (.cells cs t (0, 0)) → ∃ cs', w'.heap[b]? = some (.cells cs' t (0, 0)) ∧ cs'.size = cs.size
  cell : ∀ b o u, w.cell? ⟨b, o, none⟩ = some u → ∃ v, w'.cell? ⟨b, o, none⟩ = some v ∧ Kin n u v
section
variable {A0 n m : Nat} {w w' w'' : World}
theorem Scr.refl : Scr A0 0 w w := ⟨Below.refl _ _, fun _ _ _ _ h _ _ _ => h, fun _ cs _ h => ⟨cs, h, rfl⟩, fun _ _ u h => ⟨u, h, .same _⟩⟩
theorem Scr.trans (h : Scr A0 n w w') (k : Scr A0 m w' w'') : Scr A0 (n + m) w w'' := by
  refine ⟨h.below.trans k.below, fun b cs t fr hb h1 h2 h3 => k.other b cs t fr (h.other b cs t fr hb h1 h2 h3) h1 h2 h3, fun b cs t hb => ?_, fun b o u hu => ?_⟩
  · obtain ⟨c1, e1, z1⟩ := h.shape b cs t hb
    obtain ⟨c2, e2, z2⟩ := k.shape b c1 t e1
    exact ⟨c2, e2, z2.trans z1⟩
  · obtain ⟨v1, e1, k1⟩ := h.cell b o u hu
    obtain ⟨v2, e2, k2⟩ := k.cell b o v1 e1
    exact ⟨v2, e2, k1.trans k2⟩
theorem Scr.mono (h : Scr A0 n w w') (hn : n ≤ m) : Scr A0 m w w' := ⟨h.below, h.other, h.shape, fun b o u hu => by obtain ⟨v, e, k⟩ := h.cell b o u hu; exact ⟨v, e, k.mono hn⟩⟩
theorem Scr.drew (h : Scr A0 n w w') : Scr A0 n w w'.drew := ⟨h.below.drew, h.other, h.shape, h.cell⟩
theorem W3.go {b : Nat} (hb : W3 w A0 b) (h : Scr A0 n w w') : W3 w' A0 b := by
  obtain ⟨h1, cs, t, h2, h3⟩ := hb
  obtain ⟨c1, e1, z1⟩ := h.shape b cs t h2
  exact ⟨h1, c1, t, e1, h3⟩
theorem Scr.set {b o : Nat} {u v : Value} (hb : W3 w A0 b) (hu : w.cell? ⟨b, o, none⟩ = some u) (hk : Kin n u v) : Scr A0 n w (w.setCell ⟨b, o, none⟩ v) := by
  obtain ⟨h1, cs, t, h2, h3⟩ := hb
  refine ⟨below_setCell (Below.refl _ _) h1 o v, fun x cs' t' fr hx n1 n2 n3 => ?_, fun x cs' t' hx => block_type_setCell hx, fun x y u' hu' => ?_⟩
  · refine (block_setCell (fun e => ?_)).trans hx
    rw [e, h2] at hx
    simp at hx
    obtain ⟨_, rfl, _⟩ := hx
    rcases h3 with h3 | h3 | h3
    · exact n1 h3
    · exact n2 h3
    · exact n3 h3
  · by_cases e : x = b ∧ y = o
    · obtain ⟨rfl, rfl⟩ := e
      rw [hu] at hu'
      cases hu'
      exact ⟨v, World.cell?_setCell_same w ⟨x, y, none⟩ v hu, hk⟩
    · refine ⟨u', (cell_setCell_ne (by omega)).trans hu', .same _⟩
theorem W3.at {b o : Nat} {u : Value} (hb : W3 w A0 b) (hu : w.cell? ⟨b, o, none⟩ = some u) : ∃ D t, w.heap[b]? = some (.cells D t (0, 0)) ∧ o < D.size := by
  obtain ⟨h1, cs, t, h2, h3⟩ := hb
  rw [cell_of_row w b o cs t _ h2] at hu
  exact ⟨cs, t, h2, (Array.getElem?_eq_some_iff.1 hu).1⟩
def StrIn (w : World) (N b o : Nat) : Prop := ∃ s, w.cell? ⟨b, o, none⟩ = some (.string s) ∧ s.size ≤ N
theorem StrIn.go {N b o : Nat} (hs : StrIn w N b o) (h : Scr A0 n w w') : StrIn w' (N + n) b o := by
  obtain ⟨s, e, z⟩ := hs
  obtain ⟨v, e', k⟩ := h.cell b o _ e
  cases k with
  | same => exact ⟨s, e', by omega⟩
  | str h => exact ⟨_, e', by omega⟩
theorem Scr.sl {b o k c : Nat} {a : Option Addr} (h : Scr A0 n w w') (e : w.cell? ⟨b, o, none⟩ = some (.slice a k c)) : w'.cell? ⟨b, o, none⟩ = some (.slice a k c) := by
  obtain ⟨v, e', k⟩ := h.cell b o _ e
  cases k with
  | same => exact e'
theorem Scr.byte {b o : Nat} {x : Int} (h : Scr A0 n w w') (e : w.cell? ⟨b, o, none⟩ = some (.int .u8 x)) : ∃ y, w'.cell? ⟨b, o, none⟩ = some (.int .u8 y) := by
  obtain ⟨v, e', k⟩ := h.cell b o _ e
  cases k with
  | same => exact ⟨_, e'⟩
  | u8 _ y => exact ⟨y, e'⟩
theorem Scr.bool {b o : Nat} {x : Bool} (h : Scr A0 n w w') (e : w.cell? ⟨b, o, none⟩ = some (.bool x)) : ∃ y, w'.cell? ⟨b, o, none⟩ = some (.bool y) := by
  obtain ⟨v, e', k⟩ := h.cell b o _ e
  cases k with
  | same => exact ⟨_, e'⟩
  | bl _ y => exact ⟨y, e'⟩

def KArgs (w : World) (A0 : Nat) (va : Value) : Prop := ∃ a k cap, va = .slice a k cap ∧ k ≤ 1048576 ∧ (0 < k → ∃ b off, a = some ⟨b, off, none⟩ ∧ W3 w A0 b ∧ ∀ j, j < k → ∃ x, w.cell? ⟨b, off + j, none⟩ = some (.int .u8 x))
def KCall (w : World) (A0 N b off : Nat) : Prop := W3 w A0 b ∧ StrIn w N b off ∧ StrIn w N b (off + 1) ∧ ∃ va, w.cell? ⟨b, off + 2, none⟩ = some va ∧ KArgs w A0 va
def KCalls (w : World) (A0 N : Nat) (vc : Value) : Prop := ∃ a k cap, vc = .slice a k cap ∧ k ≤ 1048576 ∧ (0 < k → ∃ b off, a = some ⟨b, off, none⟩ ∧ ∀ j, j < k → KCall w A0 N b (off + j * 3))
def KRes (w : World) (A0 N b off : Nat) : Prop := W3 w A0 b ∧ StrIn w N b off ∧ StrIn w N b (off + 2) ∧ ∃ x, w.cell? ⟨b, off + 3, none⟩ = some (.bool x)
def KRess (w : World) (A0 N : Nat) (vr : Value) : Prop := ∃ a k cap, vr = .slice a k cap ∧ k ≤ 1048576 ∧ (0 < k → ∃ b off, a = some ⟨b, off, none⟩ ∧ ∀ j, j < k → KRes w A0 N b (off + j * 4))
theorem KArgs.go {va : Value} (hk : KArgs w A0 va) (h : Scr A0 n w w') : KArgs w' A0 va := by
  obtain ⟨a, k, cap, rfl, hl, hk⟩ := hk
  refine ⟨a, k, cap, rfl, hl, fun h0 => ?_⟩
  obtain ⟨b, off, rfl, hw, hx⟩ := hk h0
  exact ⟨b, off, rfl, hw.go h, fun j hj => by obtain ⟨x, e⟩ := hx j hj; exact h.byte e⟩
theorem KCall.go {N b off : Nat} (hk : KCall w A0 N b off) (h : Scr A0 n w w') : KCall w' A0 (N + n) b off := by
  obtain ⟨hw, h0, h1, va, e, hv⟩ := hk
  have hv' := hv
  obtain ⟨a, k, cap, rfl, _⟩ := hv'
  exact ⟨hw.go h, h0.go h, h1.go h, _, h.sl e, hv.go h⟩
theorem KCalls.go {N : Nat} {vc : Value} (hk : KCalls w A0 N vc) (h : Scr A0 n w w') : KCalls w' A0 (N + n) vc := by
  obtain ⟨a, k, cap, rfl, hl, hk⟩ := hk
  refine ⟨a, k, cap, rfl, hl, fun h0 => ?_⟩
  obtain ⟨b, off, rfl, hx⟩ := hk h0
  exact ⟨b, off, rfl, fun j hj => (hx j hj).go h⟩
theorem KRes.go {N b off : Nat} (hk : KRes w A0 N b off) (h : Scr A0 n w w') : KRes w' A0 (N + n) b off := by
  obtain ⟨hw, h0, h1, x, e⟩ := hk
  exact ⟨hw.go h, h0.go h, h1.go h, h.bool e⟩
theorem KRess.go {N : Nat} {vr : Value} (hk : KRess w A0 N vr) (h : Scr A0 n w w') : KRess w' A0 (N + n) vr := by
  obtain ⟨a, k, cap, rfl, hl, hk⟩ := hk
  refine ⟨a, k, cap, rfl, hl, fun h0 => ?_⟩
  obtain ⟨b, off, rfl, hx⟩ := hk h0
  exact ⟨b, off, rfl, fun j hj => (hx j hj).go h⟩
end

theorem IsArgs.kin {w : World} {A0 : Nat} {F : Foot} {va : Value} {o : Option (List Int)} (h : IsArgs w F va o) (hF : FT A0 F w) (hok : ArgsOk o) : KArgs w A0 va := by
  cases o with
  | none =>
    have e : va = .slice none 0 0 := h
    exact ⟨none, 0, 0, e, by omega, fun h => by omega⟩
  | some xs =>
    obtain ⟨a, cap, rfl, h⟩ := h
    refine ⟨some a, xs.length, cap, rfl, hok xs rfl, fun h0 => ?_⟩
    obtain ⟨b, off, rfl, hat⟩ := h.resolve_left (fun e => by rw [e] at h0; simp at h0)
    exact ⟨b, off, rfl, hF b _ (hat 0 _ (List.getElem?_eq_getElem h0)).1, fun j hj => ⟨_, (hat j _ (List.getElem?_eq_getElem hj)).2⟩⟩
theorem MsgSl.kin {w : World} {A0 : Nat} {F : Foot} {vc vr : Value} {d : MsgD} (h : MsgSl w F vc vr d) (hF : FT A0 F w) (hok : MsgOk d) : KCalls w A0 1048576 vc ∧ KRess w A0 1048576 vr := by
  obtain ⟨hc, hr⟩ := h
  constructor
  · cases e : d.calls with
    | none =>
      rw [e] at hc
      exact ⟨none, 0, 0, hc, by omega, fun h => by omega⟩
    | some xs =>
      rw [e] at hc
      obtain ⟨a, cap, rfl, hc⟩ := hc
      refine ⟨some a, xs.length, cap, rfl, (hok.1 xs e).1, fun h0 => ?_⟩
      obtain ⟨b, off, rfl, hat⟩ := hc.resolve_left (fun e => by rw [e] at h0; simp at h0)
      refine ⟨b, off, rfl, fun j hj => ?_⟩
      have hx := List.getElem?_eq_getElem hj
      obtain ⟨⟨u0, _, _⟩, q0, q1, va, q2, hva⟩ := hat j _ hx
      have hco := (hok.1 xs e).2 _ (List.mem_of_getElem? hx)
      exact ⟨hF b _ u0, ⟨_, q0, hco.1⟩, ⟨_, q1, hco.2.1⟩, va, q2, hva.kin hF hco.2.2⟩
  · cases e : d.res with
    | none =>
      rw [e] at hr
      exact ⟨none, 0, 0, hr, by omega, fun h => by omega⟩
    | some xs =>
      rw [e] at hr
      obtain ⟨a, cap, rfl, hr⟩ := hr
      refine ⟨some a, xs.length, cap, rfl, (hok.2 xs e).1, fun h0 => ?_⟩
      obtain ⟨b, off, rfl, hat⟩ := hr.resolve_left (fun e => by rw [e] at h0; simp at h0)
      refine ⟨b, off, rfl, fun j hj => ?_⟩
      have hx := List.getElem?_eq_getElem hj
      obtain ⟨⟨u0, _, _, _⟩, q0, q1, q2, q3⟩ := hat j _ hx
      have hco := (hok.2 xs e).2 _ (List.mem_of_getElem? hx)
      exact ⟨hF b _ u0, ⟨_, q0, hco.1⟩, ⟨_, q2, hco.2⟩, _, q3⟩
end Go.Proofs.Qxb6618675a
