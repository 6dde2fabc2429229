/-
  '(*Store).widen' over a map of pointers: the state of the store; the loop.
-/
import Derived.Test.Qxb6618666aWalkA
namespace Go.Proofs.Qxb6618666a
open Go.RowKit Go.Maps

/-- How a pointer in the store's map reads: by the number of its block. -/
def ptrElem (v : Value) : Option (DataW Unit × List MemPlace) :=
  match v with
  | .pointer none => some (.nil, [])
  | .pointer (some ⟨b, 0, none⟩) => some (.lit (.int .u64 b), [])
  | _ => none
theorem ptrElem_mk (b : Nat) : ptrElem (.pointer (some ⟨b, 0, none⟩)) = some (.lit (.int .u64 b), []) := rfl
theorem ptrElem_nil : ptrElem (.pointer none) = some (.nil, []) := rfl
theorem ptrElem_nil_inv {v : Value} {ps : List MemPlace} (h : ptrElem v = some (.nil, ps)) : v = .pointer none := by
  unfold ptrElem at h
  split at h <;> simp at h
  rfl
theorem ptrElem_inv {v : Value} {b : Nat} {ps : List MemPlace} (h : ptrElem v = some (.lit (.int .u64 b), ps)) : v = .pointer (some ⟨b, 0, none⟩) := by
  unfold ptrElem at h
  split at h <;> simp at h
  obtain rfl := Int.ofNat.inj h.1
  rfl

theorem law3 : Keyed Try.prog 3 := int_keyed Try.underlying3
theorem zero97 (w : World) : (zeroValue 97).run Try.prog w = .ok (.pointer none) w := by kernel_rfl

/-- What a shard's entry reads as. -/
def dat : Option (Nat × Int × Int) → DataW Unit
  | none => .nil
  | some (b, _, _) => .lit (.int .u64 b)
def lagOf (o : Option (Nat × Int × Int)) : Option (Int × Int) := o.map (·.2)

/-- THE STATE OF THE STORE: its map lies in block N, itself in block N + 1; g says of each shard the block of its lag, and what that holds. -/
structure St (w : World) (N n : Nat) (g : Int → Option (Nat × Int × Int)) : Prop where
  fld : w.cell? ⟨N + 1, 36, none⟩ = some (.map (some N))
  sz : N + 2 ≤ w.heap.size
  own : ∃ D : DataW Unit, IsMap D ∧ w.ownsMap Try.prog 3 ptrElem N n D ∧ ∀ x : Int, D.atKey (.int .i64 x) .nil = dat (g x)
  blk : ∀ x b lo hi, g x = some (b, lo, hi) → N + 2 ≤ b ∧ LagB w b lo hi ∧ 1 ≤ lo
  inj : ∀ x y b l h l' h', g x = some (b, l, h) → g y = some (b, l', h') → x = y

theorem lag_lt {w : World} {b : Nat} {lo hi : Int} (h : LagB w b lo hi) : b < w.heap.size := lt_of_block h

theorem St.start {w : World} {cs : Array Value} (h36 : cs[36]? = some (.map (some w.heap.size))) : St ((w.alloc (.map #[] 0)).alloc (.cells cs 86)) w.heap.size 0 (fun _ => none) where
  fld := by
    have e := World.cell?_alloc_mark (w.alloc (.map #[] 0)) cs 86 (0, 0) 36
    have s1 : (w.alloc (.map #[] 0)).heap.size = w.heap.size + 1 := by simp
    rw [s1] at e
    exact e.trans h36
  sz := by simp
  own := ⟨.map [], isMap_empty, (World.ownsMap_made w _ _ _).alloc _, fun x => rfl⟩
  blk := by intro x b lo hi h; cases h
  inj := by intro x y b l h l' h' hx; cases hx

/-- The look-up of a shard. -/
theorem St.look {w : World} {N n : Nat} {g : Int → Option (Nat × Int × Int)} (h : St w N n g) {x : Int} (hx : (Lit.int .i64 x).wf = true) :
    (Instr.lookup 40 (.map (some N)) (.int .i64 x) false).run Try.prog w = .ok (.pointer ((g x).map fun q => ⟨q.1, 0, none⟩)) w := by
  obtain ⟨D, _, hown, hat⟩ := h.own
  obtain ⟨v, ps, hrun, hv⟩ := hown.lookup law3 Try.underlying40 (zero97 w) ptrElem_nil (keyOf_int_mk Try.underlying3 hx)
  rw [hrun]
  rw [hat x] at hv
  cases hg : g x with
  | none =>
    rw [hg] at hv
    rw [ptrElem_nil_inv hv]; rfl
  | some q =>
    obtain ⟨b, lo, hi⟩ := q
    rw [hg] at hv
    rw [ptrElem_inv hv]; rfl

/-- A lag that is there is widened. -/
theorem St.turn {w w' : World} {N n : Nat} {g : Int → Option (Nat × Int × Int)} (h : St w N n g) {x : Int} {b : Nat} {lo hi lo' hi' : Int} (hg : g x = some (b, lo, hi)) (hw : w.grownBy w' (some b)) (hb : LagB w' b lo' hi') (h1 : 1 ≤ lo') :
    St w' N n (fun y => if y = x then some (b, lo', hi') else g y) ∧ Below N w w' := by
  obtain ⟨hNb, _, _⟩ := h.blk x b lo hi hg
  refine ⟨⟨?_, Nat.le_trans h.sz hw.size, ?_, ?_, ?_⟩, ⟨hw.os, hw.tape, hw.output, hw.size, fun k hk => hw.block k (by have := h.sz; omega) (by simp; omega)⟩⟩
  · exact hw.cell h.fld (by simp; omega)
  · obtain ⟨D, hm, hown, hat⟩ := h.own
    refine ⟨D, hm, hown.kept hw (by simp; omega), fun y => ?_⟩
    by_cases hy : y = x
    · subst hy; rw [hat y, hg]; simp [dat]
    · simp [hy, hat y]
  · intro y c l u hy
    by_cases hyx : y = x
    · simp only [hyx, if_true, Option.some.injEq, Prod.mk.injEq] at hy
      obtain ⟨rfl, rfl, rfl⟩ := hy
      exact ⟨hNb, hb, h1⟩
    · simp only [hyx, if_false] at hy
      obtain ⟨p1, p2, p3⟩ := h.blk y c l u hy
      refine ⟨p1, ?_, p3⟩
      have hne : c ≠ b := fun e => hyx (h.inj y x b l u lo hi (e ▸ hy) hg)
      exact (hw.block c (lag_lt p2) (by simpa using hne)).trans p2
  · intro y z c l u l' u' hy hz
    by_cases hyx : y = x
    · by_cases hzx : z = x
      · rw [hyx, hzx]
      · simp only [hyx, if_true, Option.some.injEq, Prod.mk.injEq] at hy
        simp only [hzx, if_false] at hz
        obtain ⟨rfl, _, _⟩ := hy
        exact absurd (h.inj z x b l' u' lo hi hz hg) hzx
    · by_cases hzx : z = x
      · simp only [hzx, if_true, Option.some.injEq, Prod.mk.injEq] at hz
        simp only [hyx, if_false] at hy
        obtain ⟨rfl, _, _⟩ := hz
        exact absurd (h.inj y x b l u lo hi hy hg) hyx
      · simp only [hyx, if_false] at hy
        simp only [hzx, if_false] at hz
        exact h.inj y z c l u l' u' hy hz

/-- A new lag. -/
theorem St.fresh {w w1 w2 : World} {N n : Nat} {g : Int → Option (Nat × Int × Int)} (h : St w N n g) {x : Int} {o : Obj} {lo' hi' : Int} (hg : g x = none)
    {D : DataW Unit} (hat : ∀ y : Int, D.atKey (.int .i64 y) .nil = dat (g y)) (hm : IsMap D) (hown : w1.ownsMap Try.prog 3 ptrElem N (n + 1) (D.put (.int .i64 x) (.lit (.int .u64 w.heap.size))))
    (hw1 : (w.alloc o).grownBy w1 (some N)) (hw2 : w1.grownBy w2 (some w.heap.size)) (hb : LagB w2 w.heap.size lo' hi') (h1 : 1 ≤ lo') :
    St w2 N (n + 1) (fun y => if y = x then some (w.heap.size, lo', hi') else g y) ∧ Below N w w2 := by
  have hsz := h.sz
  have s1 : w.heap.size + 1 ≤ w1.heap.size := by have := hw1.size; simpa using this
  have old : ∀ k, k < w.heap.size → k ≠ N → w2.heap[k]? = w.heap[k]? := fun k hk hN => by
    rw [hw2.block k (by omega) (by simp; omega), hw1.block k (by simp; omega) (by simpa using hN), Below.heap_alloc w o k hk]
  refine ⟨⟨?_, by have := hw2.size; omega, ?_, ?_, ?_⟩, ⟨?_, ?_, ?_, by have := hw2.size; omega, fun k hk => old k (by omega) (by omega)⟩⟩
  · rw [World.cell?_of_block (w := w) (old (N + 1) (by omega) (by omega))]; exact h.fld
  · refine ⟨_, hm.put _ _, hown.kept hw2 (by simp; omega), fun y => ?_⟩
    by_cases hy : y = x
    · subst hy
      rw [atKey_put_same hm (by trivial)]; simp [dat]
    · rw [atKey_put_other (by simpa using hy), hat y]; simp [hy]
  · intro y c l u hy
    by_cases hyx : y = x
    · simp only [hyx, if_true, Option.some.injEq, Prod.mk.injEq] at hy
      obtain ⟨rfl, rfl, rfl⟩ := hy
      exact ⟨hsz, hb, h1⟩
    · simp only [hyx, if_false] at hy
      obtain ⟨p1, p2, p3⟩ := h.blk y c l u hy
      exact ⟨p1, (old c (lag_lt p2) (by omega)).trans p2, p3⟩
  · intro y z c l u l' u' hy hz
    by_cases hyx : y = x
    · by_cases hzx : z = x
      · rw [hyx, hzx]
      · simp only [hyx, if_true, Option.some.injEq, Prod.mk.injEq] at hy
        simp only [hzx, if_false] at hz
        obtain ⟨rfl, _, _⟩ := hy
        have := lag_lt (h.blk z _ l' u' hz).2.1
        omega
    · by_cases hzx : z = x
      · simp only [hzx, if_true, Option.some.injEq, Prod.mk.injEq] at hz
        simp only [hyx, if_false] at hy
        obtain ⟨rfl, _, _⟩ := hz
        have := lag_lt (h.blk y _ l u hy).2.1
        omega
      · simp only [hyx, if_false] at hy
        simp only [hzx, if_false] at hz
        exact h.inj y z c l u l' u' hy hz
  · rw [hw2.os, hw1.os]; rfl
  · rw [hw2.tape, hw1.tape]; rfl
  · rw [hw2.output, hw1.output]; rfl

end Go.Proofs.Qxb6618666a
