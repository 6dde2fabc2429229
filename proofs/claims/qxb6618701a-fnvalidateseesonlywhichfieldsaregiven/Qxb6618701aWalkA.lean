/-
  THE WALKS of the law's helpers.
-/
import Derived.Test.Qxb6618701aProg
import Derived.WalkKit
import Derived.WalkSpells
import Derived.BigRegion
import Derived.BigQuiet
import Derived.Deep.QuietTactic
import Derived.Outline
namespace Go.Proofs.Qxb6618701a
open Go.RowKit

/-- Is the string given? -/
def gv (s : ByteArray) : Int := if s.toList.isEmpty then 0 else 1
theorem gv_01 (s : ByteArray) : gv s = 0 ∨ gv s = 1 := by unfold gv; split <;> simp
theorem gv_no {s : ByteArray} (h : s.toList.isEmpty = true) : gv s = 0 := by simp [gv, h]
theorem gv_yes {s : ByteArray} (h : s.toList.isEmpty = false) : gv s = 1 := by simp [gv, h]

theorem given_any (s : ByteArray) (w : World) : Calls Try.prog 11 #[.string s] w fun e w' => e = .returned (.int .i64 (gv s)) ∧ w' = w := by
  cases h : s.toList.isEmpty with
  | true =>
    have hg := gv_no h
    go_enter Try.func11, Try.ntmps11
    go_wp2
    go_ret
    exact ⟨congrArg (fun n => Ending.returned (Value.int .i64 n)) hg.symm, rfl⟩
  | false =>
    have hg := gv_yes h
    go_enter Try.func11, Try.ntmps11
    go_wp2
    go_ret
    exact ⟨congrArg (fun n => Ending.returned (Value.int .i64 n)) hg.symm, rfl⟩

theorem mask_eq {a b c d e f g : Int} (ha : a = 0 ∨ a = 1) (hb : b = 0 ∨ b = 1) (hc : c = 0 ∨ c = 1) (hd : d = 0 ∨ d = 1) (he : e = 0 ∨ e = 1) (hf : f = 0 ∨ f = 1) (hg : g = 0 ∨ g = 1) :
    bits BinOp.or .i64 (bits BinOp.or .i64 (bits BinOp.or .i64 (bits BinOp.or .i64 (bits BinOp.or .i64 (bits BinOp.or .i64 a (wrap64 (b * 2))) (wrap64 (c * 4))) (wrap64 (d * 8))) (wrap64 (e * 16))) (wrap64 (f * 32))) (wrap64 (g * 64)) =
      a + 2 * b + 4 * c + 8 * d + 16 * e + 32 * f + 64 * g := by
  rcases ha with rfl | rfl <;> rcases hb with rfl | rfl <;> rcases hc with rfl | rfl <;> rcases hd with rfl | rfl <;> rcases he with rfl | rfl <;> rcases hf with rfl | rfl <;> rcases hg with rfl | rfl <;> decide +kernel

/-- The block in which a request's fields lie. -/
def Fld (s0 s1 s2 s3 s4 s5 s6 s7 s8 : ByteArray) : Obj := .cells #[.string s0, .string s1, .string s2, .string s3, .string s4, .string s5, .string s6, .string s7, .string s8] 23

theorem ret_i64 {a b : Int} (h : a = b) : Ending.returned (.int .i64 a) = .returned (.int .i64 b) := by rw [h]

set_option maxRecDepth 100000 in
theorem mask_any (s0 s1 s2 s3 s4 s5 s6 s7 s8 : ByteArray) (w : World) : Calls Try.prog 6 #[.agg #[.string s0, .string s1, .string s2, .string s3, .string s4, .string s5, .string s6, .string s7, .string s8]] w fun e w' =>
    e = .returned (.int .i64 (gv s0 + 2 * gv s2 + 4 * gv s3 + 8 * gv s4 + 16 * gv s5 + 32 * gv s6 + 64 * gv s7)) ∧ ∃ n, w' = (w.alloc (Fld s0 s1 s2 s3 s4 s5 s6 s7 s8)).drewN n := by
  go_enter Try.func6, Try.ntmps6
  go_wp2_with fail
  go_quiet ((go_at_call 11; exact Calls.quiet_of_same (given_any _ _)))
  go_wp2
  go_ret
  exact ⟨ret_i64 (mask_eq (gv_01 s0) (gv_01 s2) (gv_01 s3) (gv_01 s4) (gv_01 s5) (gv_01 s6) (gv_01 s7)), nq, rfl⟩

/-- The rule of shape. -/
def shp (g0 g2 g3 g4 g5 g6 g7 : Int) : Bool := g0 * g2 == 1 && g3 + g5 == 1 && decide (g6 + g7 ≤ g5) && decide (g4 ≤ g3)

theorem mul_01 {a b : Int} (ha : a = 0 ∨ a = 1) (hb : b = 0 ∨ b = 1) : wrap64 (a * b) = a * b := by
  rcases ha with rfl | rfl <;> rcases hb with rfl | rfl <;> decide +kernel
theorem ge_01 {a : Int} (h : a = 0 ∨ a = 1) : 0 ≤ a ∧ a ≤ 1 := by omega

theorem fld_cells (s0 s1 s2 s3 s4 s5 s6 s7 s8 : ByteArray) (w : World) (n : Nat) :
    ((w.alloc (Fld s0 s1 s2 s3 s4 s5 s6 s7 s8)).drewN n).cell? ⟨w.heap.size, 0, none⟩ = some (.string s0) ∧ ((w.alloc (Fld s0 s1 s2 s3 s4 s5 s6 s7 s8)).drewN n).cell? ⟨w.heap.size, 2, none⟩ = some (.string s2) ∧
    ((w.alloc (Fld s0 s1 s2 s3 s4 s5 s6 s7 s8)).drewN n).cell? ⟨w.heap.size, 3, none⟩ = some (.string s3) ∧ ((w.alloc (Fld s0 s1 s2 s3 s4 s5 s6 s7 s8)).drewN n).cell? ⟨w.heap.size, 4, none⟩ = some (.string s4) ∧
    ((w.alloc (Fld s0 s1 s2 s3 s4 s5 s6 s7 s8)).drewN n).cell? ⟨w.heap.size, 5, none⟩ = some (.string s5) ∧ ((w.alloc (Fld s0 s1 s2 s3 s4 s5 s6 s7 s8)).drewN n).cell? ⟨w.heap.size, 6, none⟩ = some (.string s6) ∧
    ((w.alloc (Fld s0 s1 s2 s3 s4 s5 s6 s7 s8)).drewN n).cell? ⟨w.heap.size, 7, none⟩ = some (.string s7) := by
  unfold Fld
  simp [go_sem]

set_option maxRecDepth 100000 in
set_option maxHeartbeats 1000000 in
theorem shape_any (s0 s1 s2 s3 s4 s5 s6 s7 s8 : ByteArray) (w : World) : Calls Try.prog 9 #[.agg #[.string s0, .string s1, .string s2, .string s3, .string s4, .string s5, .string s6, .string s7, .string s8]] w fun e w' =>
    e = .returned (.bool (shp (gv s0) (gv s2) (gv s3) (gv s4) (gv s5) (gv s6) (gv s7))) ∧ ∃ n, w' = (w.alloc (Fld s0 s1 s2 s3 s4 s5 s6 s7 s8)).drewN n := by
  have m := mul_01 (gv_01 s0) (gv_01 s2)
  obtain ⟨b3, c3⟩ := ge_01 (gv_01 s3)
  obtain ⟨b4, c4⟩ := ge_01 (gv_01 s4)
  obtain ⟨b5, c5⟩ := ge_01 (gv_01 s5)
  obtain ⟨b6, c6⟩ := ge_01 (gv_01 s6)
  obtain ⟨b7, c7⟩ := ge_01 (gv_01 s7)
  generalize hsh : shp (gv s0) (gv s2) (gv s3) (gv s4) (gv s5) (gv s6) (gv s7) = sh
  have Hsh : Hid (shp (gv s0) (gv s2) (gv s3) (gv s4) (gv s5) (gv s6) (gv s7) = sh) := hsh
  clear hsh
  go_enter Try.func9, Try.ntmps9
  go_wp2_with fail
  go_quiet ((go_at_call 11; exact Calls.quiet_of_same (given_any _ _)))
  obtain ⟨f0, f2, f3, f4, f5, f6, f7⟩ := fld_cells s0 s1 s2 s3 s4 s5 s6 s7 s8 w nq
  obtain ⟨w1, hw1⟩ : ∃ w1, (w.alloc (Fld s0 s1 s2 s3 s4 s5 s6 s7 s8)).drewN nq = w1 := ⟨_, rfl⟩
  have HW1 : Hid ((w.alloc (Fld s0 s1 s2 s3 s4 s5 s6 s7 s8)).drewN nq = w1) := hw1
  unfold Fld at hw1
  rw [hw1]
  unfold Fld at f0 f2 f3 f4 f5 f6 f7
  rw [hw1] at f0 f2 f3 f4 f5 f6 f7
  clear hw1
  go_wp2_with fail
  go_quiet ((go_at_call 11; exact Calls.quiet_of_same (given_any _ _)))
  obtain ⟨w2, hw2⟩ : ∃ w2, w1.drewN nq = w2 := ⟨_, rfl⟩
  have HW2 : Hid (∃ n, w2 = (w.alloc (Fld s0 s1 s2 s3 s4 s5 s6 s7 s8)).drewN n) := show ∃ n, _ from ⟨_, by rw [← hw2, ← HW1.out, World.drewN_drewN]⟩
  have p0 : w2.cell? ⟨w.heap.size, 0, none⟩ = some (.string s0) := by rw [← hw2]; exact f0
  have p2 : w2.cell? ⟨w.heap.size, 2, none⟩ = some (.string s2) := by rw [← hw2]; exact f2
  have p3 : w2.cell? ⟨w.heap.size, 3, none⟩ = some (.string s3) := by rw [← hw2]; exact f3
  have p4 : w2.cell? ⟨w.heap.size, 4, none⟩ = some (.string s4) := by rw [← hw2]; exact f4
  have p5 : w2.cell? ⟨w.heap.size, 5, none⟩ = some (.string s5) := by rw [← hw2]; exact f5
  rw [hw2]
  clear hw2 HW1 f0 f2 f3 f4 f5 f6 f7
  cases k1 : (gv s0 * gv s2 == 1) with
  | false =>
    have hr : Hid (sh = false) := by show sh = false; rw [← Hsh.out]; simp [shp, k1]
    go_wp2_with fail
    go_quiet ((go_at_call 11; exact Calls.quiet_of_same (given_any _ _)))
    go_wp2
    go_ret
    obtain ⟨n2, h2⟩ := HW2.out
    exact ⟨by rw [hr.out]; rfl, _, by rw [h2, World.drewN_drewN]⟩
  | true =>
    cases k2 : (gv s3 + gv s5 == 1) with
    | false =>
      have hr : Hid (sh = false) := by show sh = false; rw [← Hsh.out]; simp [shp, k2]
      go_wp2_with fail
      go_quiet ((go_at_call 11; exact Calls.quiet_of_same (given_any _ _)))
      go_wp2
      go_ret
      obtain ⟨n2, h2⟩ := HW2.out
      exact ⟨by rw [hr.out]; rfl, _, by rw [h2, World.drewN_drewN]⟩
    | true =>
      cases k3 : decide (gv s6 + gv s7 ≤ gv s5) with
      | false =>
        have hr : Hid (sh = false) := by show sh = false; rw [← Hsh.out]; simp [shp, k3]
        go_wp2_with fail
        go_quiet ((go_at_call 11; exact Calls.quiet_of_same (given_any _ _)))
        go_wp2
        go_ret
        obtain ⟨n2, h2⟩ := HW2.out
        exact ⟨by rw [hr.out]; rfl, _, by rw [h2, World.drewN_drewN]⟩
      | true =>
        have hr : Hid (sh = decide (gv s4 ≤ gv s3)) := by show sh = _; rw [← Hsh.out]; simp only [shp, k1, k2, k3, Bool.true_and]
        go_wp2_with fail
        go_quiet ((go_at_call 11; exact Calls.quiet_of_same (given_any _ _)))
        go_wp2
        go_ret
        obtain ⟨n2, h2⟩ := HW2.out
        exact ⟨by rw [hr.out]; rfl, _, by rw [h2, World.drewN_drewN]⟩
end Go.Proofs.Qxb6618701a
