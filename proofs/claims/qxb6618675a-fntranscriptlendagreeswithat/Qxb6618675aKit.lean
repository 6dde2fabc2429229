/-
  A FEW LAWS of memory that the walks share: a store of one cell; variables at the call's first blocks.
-/
import Derived.Test.Qxb6618675aSame
namespace Go.Proofs.Qxb6618675a
open Go.RowKit
set_option linter.unusedSimpArgs false

theorem run_storeVar_one {P : Program} (w : World) (b o : Nat) (ty : TypeId) (v : Value) (D : Array Value) (T : TypeId) (hD : w.heap[b]? = some (.cells D T (0, 0))) (ho : o < D.size) (hi : (P.info? ty).map (·.size) = some 1) (h1 : v.oneCell' = true) :
    (storeVar ty ⟨b, o, none⟩ v).run P w = .ok () (w.setCell ⟨b, o, none⟩ v) := by
  have hc : v.cells = #[v] := by cases v <;> first | rfl | cases h1
  have hz : ∀ j, j < [v].length → w.cell? ⟨b, o + 0 + j, none⟩ = D[o]? ∧ w.frozen? ⟨b, o + 0 + j, none⟩ = false := fun j hj => by
    obtain rfl : j = 0 := by simpa using hj
    exact ⟨cell_of_row w b o D T _ hD, frozen_of_row w b o D T hD⟩
  have := run_storeCells_cells (P := P) b o [v] 0 w (fun j hj => by rw [(hz j hj).1]; simp [ho]) (fun j hj => (hz j hj).2) (fun u hu => by simp at hu; subst hu; exact h1)
  cases hq : P.info? ty with
  | none => simp [hq] at hi
  | some i =>
    have hs : 1 = i.size := by simp [hq] at hi; omega
    simp only [Nat.add_zero, World.setCells] at this
    simp [storeVar, sizeOf, typeInfo, hq, hc, ← hs, this]
theorem wp_store1 {P : Program} {op : Oper} {a : Act} {w : World} {K : Act → World → Prop} {Q : Exit → Act → World → Prop} (ty : TypeId) (x y : Operand) (ho : op.op = .store ty x y)
    (b o : Nat) (v : Value) (hx : a.eval x = .pointer (some ⟨b, o, none⟩)) (hy : a.eval y = v) (D : Array Value) (T : TypeId) (hD : w.heap[b]? = some (.cells D T (0, 0))) (hlt : o < D.size) (hi : (P.info? ty).map (·.size) = some 1) (h1 : v.oneCell' = true)
    (h : K (a.put op.dst undef) (w.setCell ⟨b, o, none⟩ v)) : op.wp P a w K Q := by
  unfold Oper.wp execOp
  simp only [ho, hx, hy, Instr.storeAt, Instr.sureAddr, Sem.run_bind, Sem.run_pure, Result.andThen_ok, run_storeVar_one w b o ty v D T hD hlt hi h1]
  exact h
theorem wpList_store1 {P : Program} {ops : Array Oper} {rest : List Oper} {op : Oper} {a : Act} {w : World} {Q : Exit → Act → World → Prop} (hgd : op.guard = none) (ty : TypeId) (x y : Operand) (ho : op.op = .store ty x y)
    (b o : Nat) (v : Value) (hx : a.eval x = .pointer (some ⟨b, o, none⟩)) (hy : a.eval y = v) (D : Array Value) (T : TypeId) (hD : w.heap[b]? = some (.cells D T (0, 0))) (hlt : o < D.size) (hi : (P.info? ty).map (·.size) = some 1) (h1 : v.oneCell' = true)
    (h : wpList P ops Q rest (a.put op.dst undef) (w.setCell ⟨b, o, none⟩ v)) : wpList P ops Q (op :: rest) a w :=
  wpList_plain hgd fun _ hK => wp_store1 ty x y ho b o v hx hy D T hD hlt hi h1 (hK _ _ h)
theorem i9 : (Try.prog.info? 9).map (·.size) = some 1 := by kernel_rfl
theorem i31 : (Try.prog.info? 31).map (·.size) = some 1 := by kernel_rfl
theorem i67 : (Try.prog.info? 67).map (·.size) = some 1 := by kernel_rfl
theorem i32 : (Try.prog.info? 32).map (·.size) = some 1 := by kernel_rfl
theorem i33 : (Try.prog.info? 33).map (·.size) = some 1 := by kernel_rfl
theorem i25 : (Try.prog.info? 25).map (·.size) = some 1 := by kernel_rfl
theorem i48 : (Try.prog.info? 48).map (·.size) = some 1 := by kernel_rfl
theorem i4 : (Try.prog.info? 4).map (·.size) = some 1 := by kernel_rfl
theorem i5 : (Try.prog.info? 5).map (·.size) = some 1 := by kernel_rfl
theorem i35 : (Try.prog.info? 35).map (·.size) = some 5 := by kernel_rfl
theorem i41 : (Try.prog.info? 41).map (·.size) = some 5 := by kernel_rfl

theorem block_setCell {w : World} {g b k : Nat} {v : Value} (h : b ≠ g) : (w.setCell ⟨g, k, none⟩ v).heap[b]? = w.heap[b]? := Below.heap_setCell w ⟨g, k, none⟩ v b h
theorem size_setCell (w : World) (p : Addr) (v : Value) : (w.setCell p v).heap.size = w.heap.size := by unfold World.setCell; simp
theorem SameOn.but {M g N k : Nat} {w : World} {v : Value} : SameOn (But M g N) w (w.setCell ⟨g, k, none⟩ v) := fun b o h => World.cell?_of_block (w := w) (a := ⟨b, o, none⟩) (block_setCell h.2.2)
theorem SameOn.fresh {M N : Nat} {w w' : World} (hb : Below N w w') : SameOn (Fresh M N) w w' := fun b o h => hb.cell (p := ⟨b, o, none⟩) h.2
theorem SameOn.butB {M g N : Nat} {w w' : World} (hb : Below N w w') : SameOn (But M g N) w w' := fun b o h => hb.cell (p := ⟨b, o, none⟩) h.2.1
theorem below_setCell {B : Nat} {a wx : World} (h : Below B a wx) {g : Nat} (hg : B ≤ g) (k : Nat) (v : Value) : Below B a (wx.setCell ⟨g, k, none⟩ v) := h.setCell hg v

def z35 : Array Value := #[.string ⟨#[]⟩, .string ⟨#[]⟩, .string ⟨#[]⟩, .slice none 0 0, .slice none 0 0]
/-- ToMessage's own blocks: the boxed message, the result's variable, the message that is being made. -/
def Tm (Z C : Array Value) (w wx : World) : Prop := wx.heap[w.heap.size]? = some (.cells Z 41 (0, 0)) ∧ wx.heap[w.heap.size + 1]? = some (.cells z35 35 (0, 0)) ∧ wx.heap[w.heap.size + 2]? = some (.cells C 35 (0, 0)) ∧ Below w.heap.size w wx
section
variable {Z C : Array Value} {w wx wy : World}
theorem Tm.start : Tm Z z35 w (((w.alloc (.cells Z 41)).alloc (.cells z35 35)).alloc (.cells z35 35)) := by
  have e1 : (w.alloc (.cells Z 41)).heap.size = w.heap.size + 1 := Array.size_push ..
  have e2 : ((w.alloc (.cells Z 41)).alloc (.cells z35 35)).heap.size = w.heap.size + 2 := (Array.size_push ..).trans (by rw [e1])
  have b1 := (Below.refl _ w).alloc (Nat.le_refl _) (.cells Z 41)
  have b2 := (Below.refl _ (w.alloc (.cells Z 41))).alloc (Nat.le_refl _) (.cells z35 35)
  have b3 := (Below.refl _ ((w.alloc (.cells Z 41)).alloc (.cells z35 35))).alloc (Nat.le_refl _) (.cells z35 35)
  rw [e1] at b2; rw [e2] at b3
  have h1 := heap_alloc_new w (.cells Z 41)
  have h2 := heap_alloc_new (w.alloc (.cells Z 41)) (.cells z35 35)
  have h3 := heap_alloc_new ((w.alloc (.cells Z 41)).alloc (.cells z35 35)) (.cells z35 35)
  rw [e1] at h2; rw [e2] at h3
  exact ⟨(b3.block _ (by omega)).trans ((b2.block _ (by omega)).trans h1), (b3.block _ (by omega)).trans h2, h3, b1.trans ((b2.mono (by omega)).trans (b3.mono (by omega)))⟩
theorem Tm.step (h : Tm Z C w wx) (hb : Below wx.heap.size wx wy) : Tm Z C w wy :=
  ⟨(hb.block _ (lt_of_block h.1)).trans h.1, (hb.block _ (lt_of_block h.2.1)).trans h.2.1, (hb.block _ (lt_of_block h.2.2.1)).trans h.2.2.1, h.2.2.2.trans (hb.mono h.2.2.2.size)⟩
theorem Tm.lt (h : Tm Z C w wx) : w.heap.size + 3 ≤ wx.heap.size := lt_of_block h.2.2.1
theorem Tm.other {g k : Nat} {v : Value} (h : Tm Z C w wx) (hg : w.heap.size + 3 ≤ g) : Tm Z C w (wx.setCell ⟨g, k, none⟩ v) :=
  ⟨(block_setCell (by omega)).trans h.1, (block_setCell (by omega)).trans h.2.1, (block_setCell (by omega)).trans h.2.2.1, below_setCell h.2.2.2 (by omega) k v⟩
theorem Tm.set {k : Nat} {v : Value} (h : Tm Z C w wx) : Tm Z (C.setIfInBounds k v) w (wx.setCell ⟨w.heap.size + 2, k, none⟩ v) :=
  ⟨(block_setCell (by omega)).trans h.1, (block_setCell (by omega)).trans h.2.1, heap_setCell_same _ _ _ _ _ _ h.2.2.1, below_setCell h.2.2.2 (by omega) k v⟩
theorem Tm.c0 (h : Tm Z C w wx) (k : Nat) : wx.cell? ⟨w.heap.size, k, none⟩ = Z[k]? := cell_of_row _ _ _ _ _ _ h.1
end
end Go.Proofs.Qxb6618675a
