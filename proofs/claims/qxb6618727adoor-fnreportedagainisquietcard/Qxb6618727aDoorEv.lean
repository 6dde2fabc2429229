/-
  THE WALKS of Exit.Reason, Exit.Detail: each hands back some string; what lay before the call lies as it did.
-/
import Derived.Test.Qxb6618727aDoorMake
import Derived.Test.Qxb6618727aDoorShelf
namespace Go.Proofs.Qxb6618727aDoor
open Go.RowKit
set_option linter.unusedSimpArgs false

def StrB (w : World) (e : Ending) (w' : World) : Prop := ∃ s : ByteArray, e = .returned (.string s) ∧ Below w.heap.size w w'
/-- strconv's table of powers of ten lies as it was laid at the start. -/
def Tab (w : World) : Prop := Lib.TabIs Tryd.prog w "internal/strconv.uint64pow10" .u64 Lib.pow10Tab
theorem Tab.below {w w' : World} (h : Tab w) (hb : Below w.heap.size w w') : Tab w' := by
  unfold Tab Lib.TabIs World.var? at h ⊢
  cases hg : Tryd.prog.globalNamed "internal/strconv.uint64pow10" with
  | none => rw [hg] at h; cases h
  | some g =>
    rw [hg] at h
    rcases Nat.lt_or_ge g w.heap.size with hl | hl
    · simpa only [Option.bind_some, hb.block g hl] using h
    · simp only [Option.bind_some, Array.getElem?_eq_none hl] at h; cases h

set_option maxRecDepth 100000 in
theorem reason_any (c : Int) (g : ByteArray) (o : Bool) (x y : Int) (w : World) : Calls Tryd.prog 23 #[.agg #[.int .i64 c, .string g, .bool o, .int .u64 x, .int .i64 y, .pointer none]] w (StrB w) := by
  have hb : ∀ o, Below w.heap.size w (w.alloc o) := fun o => (Below.refl _ _).alloc (Nat.le_refl _) o
  go_enter Tryd.func23, Tryd.ntmps23
  go_wp2
  all_goals go_ret
  all_goals exact ⟨_, rfl, hb _⟩

set_option maxRecDepth 100000 in
theorem detail_any (c : Int) (g : ByteArray) (o : Bool) (x y : Int) (w : World) (hc : I64 c) (ht : Tab w) : Calls Tryd.prog 24 #[.agg #[.int .i64 c, .string g, .bool o, .int .u64 x, .int .i64 y, .pointer none]] w (StrB w) := by
  have hb : ∀ o, Below w.heap.size w (w.alloc o) := fun o => (Below.refl _ _).alloc (Nat.le_refl _) o
  have ht' : ∀ o, Tab (w.alloc o) := fun o => ht.below (hb o)
  have hg : ∀ o k os, Below w.heap.size w (Sort.grow ((w.alloc o).drewN k) os) := fun o k os => (hb o).trans ((below_grow (w.alloc o) os k).mono (hb o).size)
  go_enter Tryd.func24, Tryd.ntmps24
  go_wp2_with (first
    | (go_at_call 28; refine (Tryd.strconv_Itoa _ hc.1 hc.2 _ (ht' _)).mono ?_; rintro e w' ⟨rfl, k, os, rfl⟩)
    | fail)
  all_goals go_ret
  · exact ⟨_, rfl, hb _⟩
  · exact ⟨_, rfl, hg _ _ _⟩
end Go.Proofs.Qxb6618727aDoor
