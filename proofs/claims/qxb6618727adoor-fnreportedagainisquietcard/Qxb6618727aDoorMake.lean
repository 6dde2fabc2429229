/-
  THE WALKS of the makers: fb1Exit, fb1Inst, fb1Report (fb1Exits: the next text).
-/
import Derived.Test.Qxb6618727aDoorEq2
import Derived.Deep.RegionHeld3
import Derived.Sort.Walk7
import Derived.Test.Qxb6618727aDoorRun
namespace Go.Proofs.Qxb6618727aDoor
open Go.RowKit
set_option linter.unusedSimpArgs false

set_option maxRecDepth 100000 in
set_option maxHeartbeats 1000000 in
theorem exit_any (c : Int) (g : ByteArray) (o : Bool) (ns : Int) (w : World) (h0 : -9223372036854775808 ≤ ns) (h1 : ns ≤ 9223372036854775807) : Calls Tryd.prog 19 #[.agg #[.int .i64 c, .string g, .bool o, .int .i64 ns]] w fun e w' =>
    e = .returned (.agg #[.int .i64 c, .string g, .bool o, .int .u64 (tN ns), .int .i64 (tS ns), .pointer none]) ∧ ∃ o1 o2 o3 o4 o5, (((((w.alloc o1).alloc o2).alloc o3).alloc o4).alloc o5).drew = w' := by
  go_enter Tryd.func19, Tryd.ntmps19
  go_wp2_with fail
  go_region_held3 (fun w' => w'.cell? ⟨w.heap.size, 0, none⟩ = some (.int .i64 c) ∧ w'.cell? ⟨w.heap.size, 1, none⟩ = some (.string g) ∧ w'.cell? ⟨w.heap.size, 2, none⟩ = some (.bool o) ∧ w'.cell? ⟨w.heap.size, 3, none⟩ = some (.int .i64 ns)) (simp [go_sem, World.cell?_alloc_past])
    ((go_at_call 20; refine (at_any ns _ h0 h1).mono ?_; rintro e w' ⟨rfl, o1, o2, o3, rfl⟩))
  go_wp2
  exact bodyPost_ret (v := .agg #[.int .i64 c, .string g, .bool o, .int .u64 (tN ns), .int .i64 (tS ns), .pointer none]) (by simp [results, Tryd.results19, go_sem]) rfl ⟨rfl, _, _, _, _, _, rfl⟩

theorem grow_drewN (w : World) (n : Nat) (os : Array Obj) : Sort.grow (w.drewN n) os = (Sort.grow w os).drewN n := rfl
theorem grow_drew (w : World) (os : Array Obj) : Sort.grow w.drew os = (Sort.grow w os).drew := rfl
theorem below_grow (w : World) (os : Array Obj) (n : Nat) : Below w.heap.size w ((Sort.grow w os).drewN n) := ⟨rfl, rfl, rfl, by simp [Sort.grow], fun k hk => Sort.heap_grow_old w os hk⟩

theorem at_grow (ns : Int) (w : World) (h : -9223372036854775808 ≤ ns ∧ ns ≤ 9223372036854775807) : Calls Tryd.prog 20 #[.int .i64 ns] w fun e w' => e = .returned (.agg #[.int .u64 (tN ns), .int .i64 (tS ns), .pointer none]) ∧ ∃ os, Sort.grow w os = w' := by
  refine (at_any ns w h.1 h.2).mono ?_
  rintro e w' ⟨rfl, o1, o2, o3, rfl⟩
  exact ⟨rfl, #[o1] ++ #[o2] ++ #[o3], by simp only [Sort.alloc_eq_grow, Sort.grow_grow]⟩
theorem exit_grow (c : Int) (g : ByteArray) (o : Bool) (ns : Int) (w : World) (h : -9223372036854775808 ≤ ns ∧ ns ≤ 9223372036854775807) : Calls Tryd.prog 19 #[.agg #[.int .i64 c, .string g, .bool o, .int .i64 ns]] w fun e w' =>
    e = .returned (.agg #[.int .i64 c, .string g, .bool o, .int .u64 (tN ns), .int .i64 (tS ns), .pointer none]) ∧ ∃ os, (Sort.grow w os).drew = w' := by
  refine (exit_any c g o ns w h.1 h.2).mono ?_
  rintro e w' ⟨rfl, o1, o2, o3, o4, o5, rfl⟩
  exact ⟨rfl, #[o1] ++ #[o2] ++ #[o3] ++ #[o4] ++ #[o5], by simp only [Sort.alloc_eq_grow, Sort.grow_grow]⟩

attribute [local go_sem] Sort.cell?_grow Sort.frozen?_grow Go.Proofs.setCell_grow Sort.grow_grow grow_drewN grow_drew Sort.size_grow

/-- The law's instance, field by field; its cells; the fleet's instance that is made of it. -/
structure Fin where
  nm : ByteArray
  ho : ByteArray
  cma : Option Addr
  cml : Nat
  cmc : Nat
  cp : Int
  me : Int
  de : ByteArray
  cu : ByteArray
  pi : Int
  re : Int
  lc : Int
  lg : ByteArray
  lo : Bool
  la : Int
  rs : ByteArray
  id : Int
  sn : Int
  fn : Int
def Fin.arr (j : Fin) : Array Value := #[.string j.nm, .string j.ho, .slice j.cma j.cml j.cmc, .int .i64 j.cp, .int .u64 j.me, .string j.de, .string j.cu, .int .i64 j.pi, .int .i64 j.re, .int .i64 j.lc, .string j.lg, .bool j.lo, .int .i64 j.la, .string j.rs, .int .u64 j.id, .int .i64 j.sn, .int .i64 j.fn]
theorem Fin.facts (j : Fin) : j.arr[0]? = some (.string j.nm) ∧ j.arr[1]? = some (.string j.ho) ∧ j.arr[2]? = some (.slice j.cma j.cml j.cmc) ∧ j.arr[3]? = some (.int .i64 j.cp) ∧ j.arr[4]? = some (.int .u64 j.me) ∧ j.arr[5]? = some (.string j.de) ∧ j.arr[6]? = some (.string j.cu) ∧ j.arr[7]? = some (.int .i64 j.pi) ∧ j.arr[8]? = some (.int .i64 j.re) ∧ j.arr[9]? = some (.int .i64 j.lc) ∧ j.arr[10]? = some (.string j.lg) ∧ j.arr[11]? = some (.bool j.lo) ∧ j.arr[12]? = some (.int .i64 j.la) ∧ j.arr[13]? = some (.string j.rs) ∧ j.arr[14]? = some (.int .u64 j.id) ∧ j.arr[15]? = some (.int .i64 j.sn) ∧ j.arr[16]? = some (.int .i64 j.fn) := ⟨rfl, rfl, rfl, rfl, rfl, rfl, rfl, rfl, rfl, rfl, rfl, rfl, rfl, rfl, rfl, rfl, rfl⟩
def Fin.ins (j : Fin) : Ins := { nm := j.nm, ho := j.ho, cma := j.cma, cml := j.cml, cmc := j.cmc, cp := j.cp, me := j.me, de := j.de, cu := j.cu, pi := j.pi, re := j.re, xc := j.lc, xg := j.lg, xo := j.lo, xw := tN j.la, xe := tS j.la, rs := j.rs, id := j.id, sw := tN j.sn, se := tS j.sn, fw := tN j.fn, fe := tS j.fn }
def I64 (n : Int) : Prop := -9223372036854775808 ≤ n ∧ n ≤ 9223372036854775807

/-- The boxed argument lies in the call's first block. (Behind a name: the region's tactic then carries one short condition.) -/
def Bx (C : Array Value) (T : TypeId) (w wx : World) : Prop := wx.heap[w.heap.size]? = some (.cells C T (0, 0))
theorem Bx.cell {C : Array Value} {T : TypeId} {w wx : World} (h : Bx C T w wx) (i : Nat) : wx.cell? ⟨w.heap.size, i, none⟩ = C[i]? := by unfold Bx at h; simp [World.cell?, h]
theorem Bx.start (C : Array Value) (T : TypeId) (w : World) (o : Obj) : Bx C T w ((w.alloc (.cells C T)).alloc o) := heap_alloc2_old w _ _
theorem Bx.drew {C : Array Value} {T : TypeId} {w wx : World} (h : Bx C T w wx) : Bx C T w wx.drew := h
theorem Bx.drewN {C : Array Value} {T : TypeId} {w wx : World} (h : Bx C T w wx) (n : Nat) : Bx C T w (wx.drewN n) := h
theorem Bx.grow {C : Array Value} {T : TypeId} {w wx : World} (h : Bx C T w wx) (os : Array Obj) : Bx C T w (Sort.grow wx os) := (Sort.heap_grow_old wx os (lt_of_block h)).trans h

end Go.Proofs.Qxb6618727aDoor
