/-
  THE WALKS of the callees: the store that the call makes, its map of pointers, '(*Lag).widen', '(*Store).widen'.
-/
import Derived.Test.Qxb6618666aProg
import Derived.Test.Qxb6618666aLaw
import Derived.WalkKit
import Derived.WalkSpells
import Derived.BigRegion
import Derived.BigQuiet
import Derived.Deep.QuietTactic
import Derived.Maps.OwnSet
namespace Go.Proofs.Qxb6618666a
open Go.RowKit Go.Maps

/-! ### the new store -/
theorem build_store (b : Nat) : ∃ cs : Array Value, cs[36]? = some (.map (some b)) ∧ ∀ w : World, (Instr.build 86 #[(23, .map (some b))]).run Try.prog w = .ok (.agg cs) w := by
  refine ⟨(match (Instr.build 86 #[(23, .map (some b))]).run Try.prog default with | .ok (.agg cs) _ => cs | _ => #[]), ?_, fun w => ?_⟩
  · kernel_rfl
  · kernel_rfl

theorem wpList_build1 {P : Program} (w : World) {ops : Array Oper} {rest : List Oper} {o : Oper} {a : Act} {Q : Exit → Act → World → Prop}
    (hg : o.guard = none) (t : TypeId) (i : Nat) (x : Operand) (hop : o.op = Op.build t #[(i, x)]) (u v : Value) (hx : a.eval x = u) (hrun : ∀ w : World, (Instr.build t #[(i, u)]).run P w = .ok v w)
    (hK : wpList P ops Q rest (a.put o.dst v) w) : wpList P ops Q (o :: rest) a w := by
  refine wpList_plain hg fun K' hK' => ?_
  unfold Oper.wp
  simp [execOp, hop, hx, hrun, Result.andThen]
  exact hK' _ _ hK

theorem newStore (w : World) : Calls Try.prog 8 #[] w fun e w' => e = .returned (.pointer (some ⟨w.heap.size + 1, 0, none⟩)) ∧ ∃ cs : Array Value, cs[36]? = some (.map (some w.heap.size)) ∧ w' = (w.alloc (.map #[] 0)).alloc (.cells cs 86) := by
  have hmm := @run_makeMap Try.prog
  obtain ⟨cs, h36, hb⟩ := build_store w.heap.size
  have Hb : Hid (∀ w_1 : World, (Instr.build 86 #[(23, .map (some w.heap.size))]).run Try.prog w_1 = .ok (.agg cs) w_1) := hb
  clear hb
  go_enter Try.func8, Try.ntmps8
  iterate 14 go_step
  refine wpList_build1 _ rfl 86 23 (.tmp 1) rfl _ _ rfl Hb.out ?_
  go_wp2
  go_ret
  exact ⟨rfl, cs, h36, rfl⟩

/-! ### (*Lag).widen -/
theorem lagw_new (b off : Nat) (t : Int) (w : World) (c0 : w.cell? ⟨b, off, none⟩ = some (.int .u64 0)) (c1 : w.cell? ⟨b, off + 1, none⟩ = some (.int .u64 0)) (f0 : w.frozen? ⟨b, off, none⟩ = false) (f1 : w.frozen? ⟨b, off + 1, none⟩ = false) :
    Calls Try.prog 26 #[.pointer (some ⟨b, off, none⟩), .int .u64 t] w fun e w' => e = .returned (.bool true) ∧ w' = (w.setCell ⟨b, off, none⟩ (.int .u64 t)).setCell ⟨b, off + 1, none⟩ (.int .u64 t) := by
  go_enter Try.func26, Try.ntmps26
  go_wp2
  go_ret
  exact ⟨rfl, rfl⟩

theorem lagw_old (b off : Nat) (t lo hi : Int) (w : World) (h1 : 1 ≤ lo) (c0 : w.cell? ⟨b, off, none⟩ = some (.int .u64 lo)) (c1 : w.cell? ⟨b, off + 1, none⟩ = some (.int .u64 hi)) (f0 : w.frozen? ⟨b, off, none⟩ = false) (f1 : w.frozen? ⟨b, off + 1, none⟩ = false) :
    Calls Try.prog 26 #[.pointer (some ⟨b, off, none⟩), .int .u64 t] w fun e w' => e = .returned (.bool (decide (t < lo) || decide (hi < t))) ∧ w' = ((w.setCell ⟨b, off, none⟩ (.int .u64 (min lo t))).setCell ⟨b, off + 1, none⟩ (.int .u64 (max hi t))).drew := by
  have hne : (lo == 0) = false := beq_eq_false_iff_ne.2 (by omega)
  by_cases a1 : t < lo
  · by_cases a2 : hi < t
    · have m1 : Hid (min lo t = t) := show min lo t = t by omega
      have m2 : Hid (max hi t = t) := show max hi t = t by omega
      go_enter Try.func26, Try.ntmps26
      go_wp2
      go_region
      go_wp2
      go_ret
      rw [m1.out, m2.out]
      exact ⟨by simp [a1], rfl⟩
    · have m1 : Hid (min lo t = t) := show min lo t = t by omega
      have m2 : Hid (max hi t = hi) := show max hi t = hi by omega
      go_enter Try.func26, Try.ntmps26
      go_wp2
      go_region
      go_wp2
      go_ret
      rw [m1.out, m2.out]
      exact ⟨by simp [a1], rfl⟩
  · by_cases a2 : hi < t
    · have m1 : Hid (min lo t = lo) := show min lo t = lo by omega
      have m2 : Hid (max hi t = t) := show max hi t = t by omega
      go_enter Try.func26, Try.ntmps26
      go_wp2
      go_region
      go_wp2
      go_ret
      rw [m1.out, m2.out]
      exact ⟨by simp [a2], rfl⟩
    · have m1 : Hid (min lo t = lo) := show min lo t = lo by omega
      have m2 : Hid (max hi t = hi) := show max hi t = hi by omega
      go_enter Try.func26, Try.ntmps26
      go_wp2
      go_region
      go_wp2
      go_ret
      rw [m1.out, m2.out]
      exact ⟨by simp [a1, a2], rfl⟩

/-- Block b is a lag: not copying, nothing since. -/
def LagB (w : World) (b : Nat) (lo hi : Int) : Prop := w.heap[b]? = some (.cells #[.int .u64 lo, .int .u64 hi, .bool false, .int .u64 0, .int .u64 0] 101 (0, 0))

theorem setCell_block {w : World} {g i : Nat} {cs : Array Value} {t : TypeId} {fr : Nat × Nat} (h : w.heap[g]? = some (.cells cs t fr)) (v : Value) : (w.setCell ⟨g, i, none⟩ v).heap[g]? = some (.cells (cs.setIfInBounds i v) t fr) := by
  rw [setCell_eq_setRow w g i cs t fr v h]
  exact setRow_heap w g _ _ t _ h

theorem lagB_set {w : World} {b : Nat} {lo hi : Int} (h : LagB w b lo hi) (lo' hi' : Int) : LagB ((w.setCell ⟨b, 0, none⟩ (.int .u64 lo')).setCell ⟨b, 1, none⟩ (.int .u64 hi')) b lo' hi' := by
  have h1 := setCell_block (i := 0) h (.int .u64 lo')
  exact setCell_block (i := 1) h1 (.int .u64 hi')

theorem grown_set (w : World) (b : Nat) (u v : Value) : w.grownBy ((w.setCell ⟨b, 0, none⟩ u).setCell ⟨b, 1, none⟩ v) (some b) :=
  ⟨rfl, rfl, rfl, by simp, fun k _ hne => by
    have hk : k ≠ b := fun e => hne (by rw [e])
    rw [Below.heap_setCell _ _ _ _ hk, Below.heap_setCell _ _ _ _ hk]⟩

theorem lagB_cells {w : World} {b : Nat} {lo hi : Int} (h : LagB w b lo hi) : w.cell? ⟨b, 0, none⟩ = some (.int .u64 lo) ∧ w.cell? ⟨b, 1, none⟩ = some (.int .u64 hi) ∧ w.cell? ⟨b, 2, none⟩ = some (.bool false) ∧ w.cell? ⟨b, 3, none⟩ = some (.int .u64 0) ∧ w.cell? ⟨b, 4, none⟩ = some (.int .u64 0) ∧
    w.frozen? ⟨b, 0, none⟩ = false ∧ w.frozen? ⟨b, 1, none⟩ = false := by
  unfold LagB at h
  simp [World.cell?, World.frozen?, h]

theorem lagw_zero (b : Nat) (t : Int) (w : World) (h : LagB w b 0 0) :
    Calls Try.prog 26 #[.pointer (some ⟨b, 0, none⟩), .int .u64 t] w fun e w' => e = .returned (.bool true) ∧ LagB w' b t t ∧ w.grownBy w' (some b) := by
  obtain ⟨c0, c1, _, _, _, f0, f1⟩ := lagB_cells h
  refine (lagw_new b 0 t w c0 c1 f0 f1).mono ?_
  rintro e w' ⟨rfl, rfl⟩
  exact ⟨rfl, lagB_set h t t, grown_set w b _ _⟩

theorem lagw_any (b : Nat) (t lo hi : Int) (w : World) (h : LagB w b lo hi) (h1 : 1 ≤ lo) :
    Calls Try.prog 26 #[.pointer (some ⟨b, 0, none⟩), .int .u64 t] w fun e w' => e = .returned (.bool (chg t (some (lo, hi)))) ∧ LagB w' b (min lo t) (max hi t) ∧ w.grownBy w' (some b) := by
  obtain ⟨c0, c1, _, _, _, f0, f1⟩ := lagB_cells h
  refine (lagw_old b 0 t lo hi w h1 c0 c1 f0 f1).mono ?_
  rintro e w' ⟨rfl, rfl⟩
  exact ⟨rfl, lagB_set h _ _, ⟨rfl, rfl, rfl, (grown_set w b _ _).size, (grown_set w b (.int .u64 (min lo t)) (.int .u64 (max hi t))).block⟩⟩

end Go.Proofs.Qxb6618666a
