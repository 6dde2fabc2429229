/-
  THE WALK of zzBytes.
-/
import Derived.Test.Qxb6618701aWalkB
namespace Go.Proofs.Qxb6618701a
open Go.RowKit

set_option maxRecDepth 100000 in
set_option maxHeartbeats 4000000 in
theorem bytes_any (s0 s1 s2 s3 s4 s5 s6 s7 s8 t0 t1 t2 t3 t4 t5 t6 t7 t8 : ByteArray) (w : World) :
    Calls Try.prog 4 #[.agg #[.string s0, .string s1, .string s2, .string s3, .string s4, .string s5, .string s6, .string s7, .string s8], .agg #[.string t0, .string t1, .string t2, .string t3, .string t4, .string t5, .string t6, .string t7, .string t8]] w fun e w' => ∃ r : Bool, e = .returned (.bool r) ∧ (w.alloc (Fld s0 s1 s2 s3 s4 s5 s6 s7 s8)).alloc (Fld t0 t1 t2 t3 t4 t5 t6 t7 t8) = w' := by
  go_enter Try.func4, Try.ntmps4
  go_wp2
  all_goals (go_ret; exact ⟨_, rfl, rfl⟩)
end Go.Proofs.Qxb6618701a
