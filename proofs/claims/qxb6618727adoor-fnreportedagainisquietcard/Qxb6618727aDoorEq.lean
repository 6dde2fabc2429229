/-
  THE WALKS of the comparisons: at equal values they say true.
-/
import Derived.Test.Qxb6618727aDoorTime
import Derived.Laws.StructEq
namespace Go.Proofs.Qxb6618727aDoor
open Go.RowKit

theorem and_and_top (x y : Int) (h0 : 0 ≤ x) (h1 : x < 1073741824) (k0 : 0 ≤ y) (k1 : y < 1073741824) : bits .and .u64 (bits .and .u64 x y) 9223372036854775808 = 0 := by
  rw [u64_and x y h0 (by omega) k0 (by omega)]
  have := Nat.and_le_left (n := x.toNat) (m := y.toNat)
  exact and_top _ (by omega) (by omega)

set_option maxRecDepth 100000 in
theorem timeEqual_any (xw xe yw ye : Int) (w : World) (h0 : 0 ≤ xw) (h1 : xw < 1073741824) (k0 : 0 ≤ yw) (k1 : yw < 1073741824) :
    Calls Tryd.prog 25 #[.agg #[.int .u64 xw, .int .i64 xe, .pointer none], .agg #[.int .u64 yw, .int .i64 ye, .pointer none]] w fun e w' => e = .returned (.bool ((xe == ye) && (xw == yw))) ∧ ∃ o1 o2, (w.alloc o1).alloc o2 = w' := by
  have e := and_and_top xw yw h0 h1 k0 k1
  cases g : (xe == ye) with
  | true =>
    go_enter Tryd.func25, Tryd.ntmps25
    go_wp2_with fail
    refine (sec_any _ xw xe _ h0 h1 (by go_simp) (by go_simp)).mono ?_
    rintro e w' ⟨rfl, rfl⟩
    go_wp2_with fail
    refine (sec_any _ yw ye _ k0 k1 (by go_simp) (by go_simp)).mono ?_
    rintro e w' ⟨rfl, rfl⟩
    go_wp2_with fail
    refine (nsec_any _ xw _ h0 h1 (by go_simp)).mono ?_
    rintro e w' ⟨rfl, rfl⟩
    go_wp2_with fail
    refine (nsec_any _ yw _ k0 k1 (by go_simp)).mono ?_
    rintro e w' ⟨rfl, rfl⟩
    go_wp2_with fail
    go_ret
    exact ⟨rfl, _, _, rfl⟩
  | false =>
    go_enter Tryd.func25, Tryd.ntmps25
    go_wp2_with fail
    refine (sec_any _ xw xe _ h0 h1 (by go_simp) (by go_simp)).mono ?_
    rintro e w' ⟨rfl, rfl⟩
    go_wp2_with fail
    refine (sec_any _ yw ye _ k0 k1 (by go_simp) (by go_simp)).mono ?_
    rintro e w' ⟨rfl, rfl⟩
    go_wp2_with fail
    go_ret
    exact ⟨rfl, _, _, rfl⟩

set_option maxRecDepth 100000 in
theorem exitEqual_same (xc : Int) (xg : ByteArray) (xo : Bool) (xw : Int) (xe : Int) (w : World) (h0 : 0 ≤ xw) (h1 : xw < 1073741824) : Calls Tryd.prog 27 #[.agg #[.int .i64 xc, .string xg, .bool xo, .int .u64 xw, .int .i64 xe, .pointer none], .agg #[.int .i64 xc, .string xg, .bool xo, .int .u64 xw, .int .i64 xe, .pointer none]] w fun e w' => e = .returned (.bool true) ∧ ∃ o1 o2 o3 o4, (((w.alloc o1).alloc o2).alloc o3).alloc o4 = w' := by
  have g1 : ((xe == xe) && (xw == xw)) = true := by simp
  have H := fun w => timeEqual_any xw xe xw xe w h0 h1 h0 h1
  rw [g1] at H
  have HH := hidden H
  clear H g1
  go_enter Tryd.func27, Tryd.ntmps27
  go_wp2_with (go_at_call 25; refine (HH.out _).mono ?_; rintro e w' ⟨rfl, o1, o2, rfl⟩)
  go_ret
  exact ⟨rfl, _, _, _, _, rfl⟩

/-- An instance, field by field; its cells. -/
structure Ins where
  nm : ByteArray
  ho : ByteArray
  cma : Option Addr
  cml : Nat
  cmc : Nat
  cp : Int
  me : Int
  de : ByteArray
  cu : ByteArray
  pi : Int
  re : Int
  xc : Int
  xg : ByteArray
  xo : Bool
  xw : Int
  xe : Int
  rs : ByteArray
  id : Int
  sw : Int
  se : Int
  fw : Int
  fe : Int
def Ins.arr (i : Ins) : Array Value := #[.string i.nm, .string i.ho, .slice i.cma i.cml i.cmc, .int .i64 i.cp, .int .u64 i.me, .string i.de, .string i.cu, .int .i64 i.pi, .int .i64 i.re, .int .i64 i.xc, .string i.xg, .bool i.xo, .int .u64 i.xw, .int .i64 i.xe, .pointer none, .string i.rs, .int .u64 i.id, .int .u64 i.sw, .int .i64 i.se, .pointer none, .int .u64 i.fw, .int .i64 i.fe, .pointer none]
theorem Ins.facts (i : Ins) : i.arr[0]? = some (.string i.nm) ∧ i.arr[1]? = some (.string i.ho) ∧ i.arr[2]? = some (.slice i.cma i.cml i.cmc) ∧ i.arr[3]? = some (.int .i64 i.cp) ∧ i.arr[4]? = some (.int .u64 i.me) ∧ i.arr[5]? = some (.string i.de) ∧ i.arr[6]? = some (.string i.cu) ∧ i.arr[7]? = some (.int .i64 i.pi) ∧ i.arr[8]? = some (.int .i64 i.re) ∧ i.arr[9]? = some (.int .i64 i.xc) ∧ i.arr[10]? = some (.string i.xg) ∧ i.arr[11]? = some (.bool i.xo) ∧ i.arr[12]? = some (.int .u64 i.xw) ∧ i.arr[13]? = some (.int .i64 i.xe) ∧ i.arr[14]? = some (.pointer none) ∧ i.arr[15]? = some (.string i.rs) ∧ i.arr[16]? = some (.int .u64 i.id) ∧ i.arr[17]? = some (.int .u64 i.sw) ∧ i.arr[18]? = some (.int .i64 i.se) ∧ i.arr[19]? = some (.pointer none) ∧ i.arr[20]? = some (.int .u64 i.fw) ∧ i.arr[21]? = some (.int .i64 i.fe) ∧ i.arr[22]? = some (.pointer none) := ⟨rfl, rfl, rfl, rfl, rfl, rfl, rfl, rfl, rfl, rfl, rfl, rfl, rfl, rfl, rfl, rfl, rfl, rfl, rfl, rfl, rfl, rfl, rfl⟩
theorem Ins.size (i : Ins) : i.arr.size = 23 := rfl
theorem info48 : (Tryd.prog.info? 48).map (·.size) = some 23 := by kernel_rfl

set_option maxRecDepth 100000 in
theorem sameRep_same (i : Ins) (w : World) (h0 : 0 ≤ i.xw) (h1 : i.xw < 1073741824) (k0 : 0 ≤ i.fw) (k1 : i.fw < 1073741824) : Calls Tryd.prog 21 #[.agg i.arr, .agg i.arr] w fun e w' => e = .returned (.bool true) ∧ ∃ o1 o2 o3 o4 o5 o6 o7 o8, (((((((w.alloc o1).alloc o2).alloc o3).alloc o4).alloc o5).alloc o6).alloc o7).alloc o8 = w' := by
  have g1 : ((i.fe == i.fe) && (i.fw == i.fw)) = true := by simp
  have H := fun w => timeEqual_any i.fw i.fe i.fw i.fe w k0 k1 k0 k1
  rw [g1] at H
  have HH := hidden H
  clear H g1
  obtain ⟨a0, a1, a2, a3, a4, a5, a6, a7, a8, a9, a10, a11, a12, a13, a14, a15, a16, a17, a18, a19, a20, a21, a22⟩ := i.facts
  go_enter Tryd.func21, Tryd.ntmps21
  go_wp2_with (first
    | (go_at_call 27; refine (exitEqual_same _ _ _ _ _ _ h0 h1).mono ?_; rintro e w' ⟨rfl, o1, o2, o3, o4, rfl⟩)
    | (go_at_call 25; refine (HH.out _).mono ?_; rintro e w' ⟨rfl, o5, o6, rfl⟩))
  go_ret
  exact ⟨rfl, _, _, _, _, _, _, _, _, rfl⟩
end Go.Proofs.Qxb6618727aDoor
