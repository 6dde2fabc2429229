/-
  THE WALKS: (room).less, ZZless, zzBytes; the plain arithmetic.
-/
import Derived.Test.Qxb6618727aWalkA
namespace Go.Proofs.Qxb6618727a
open Go.RowKit

theorem below_n {B : Nat} {a w : World} (h : Below B a w) (n : Nat) : Below B a (w.drewN n) := ⟨h.os, h.tape, h.output, h.size, h.block⟩

/-- What is left of the CPUs, of the memory: Go's wrapping arithmetic. -/
def subC (c cp : Int) : Int := wrap64 (c - cp)
def subM (m me : Int) : Int := IntKind.u64.wrap (m - me)

theorem less_any (c m : Int) (nm ho : ByteArray) (a : Option Addr) (len cap : Nat) (cp me : Int) (w : World) :
    Calls Try.prog 23 #[.agg #[.int .i64 c, .int .u64 m], .agg #[.string nm, .string ho, .slice a len cap, .int .i64 cp, .int .u64 me]] w fun e w' =>
      e = .returned (.agg #[.int .i64 (subC c cp), .int .u64 (subM m me)]) ∧ ∃ o1 o2 o3, ((w.alloc o1).alloc o2).alloc o3 = w' := by
  go_enter Try.func23, Try.ntmps23
  go_wp2
  exact bodyPost_ret (v := .agg #[.int .i64 (subC c cp), .int .u64 (subM m me)]) (by simp [results, Try.results23, go_sem, subC, subM]) rfl ⟨rfl, _, _, _, rfl⟩

set_option maxRecDepth 100000 in
theorem zzless_any (c m : Int) (nm ho : ByteArray) (a : Option Addr) (len cap : Nat) (cp me : Int) (w : World) :
    Calls Try.prog 8 #[.int .i64 c, .int .u64 m, .agg #[.string nm, .string ho, .slice a len cap, .int .i64 cp, .int .u64 me]] w fun e w' =>
      e = .returned (.tuple #[.int .i64 (subC c cp), .int .u64 (subM m me)]) ∧ Below w.heap.size w w' := by
  go_enter Try.func8, Try.ntmps8
  go_wp2_with (go_at_call 23; refine (less_any _ _ _ _ _ _ _ _ _ _).mono ?_; rintro e w' ⟨rfl, o1, o2, o3, rfl⟩)
  go_quiet (fail)
  go_wp2
  go_ret2
  refine ⟨rfl, ?_⟩
  exact below_n ((((((Below.refl _ _).alloc (Nat.le_refl _) _).alloc (by simp) _).alloc (by simp; omega) _).alloc (by simp; omega) _).alloc (by simp; omega) _) _

/-! ### the plain arithmetic -/
theorem wrapU_is (x : Int) : IntKind.u64.wrap x = x % 18446744073709551616 := by
  simp [IntKind.wrap, IntKind.signed, IntKind.bits]
theorem c_same (c p q : Int) : subC (subC c p) q = subC c (wrap64 (p + q)) := by
  unfold subC wrap64
  omega
theorem m_same (c p q : Int) : subM (subM c p) q = subM c (IntKind.u64.wrap (p + q)) := by
  unfold subM
  simp only [wrapU_is]
  omega
theorem c_back (c p q : Int) (h : -9223372036854775808 ≤ c ∧ c ≤ 9223372036854775807) : wrap64 (wrap64 (subC (subC c p) q + p) + q) = c := by
  unfold subC wrap64
  omega
theorem m_back (c p q : Int) (h : 0 ≤ c ∧ c ≤ 18446744073709551615) : IntKind.u64.wrap (IntKind.u64.wrap (subM (subM c p) q + p) + q) = c := by
  unfold subM
  simp only [wrapU_is]
  omega

end Go.Proofs.Qxb6618727a
