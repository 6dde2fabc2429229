/-
  zzLagAfterTwo; zzBytes.
-/
import Derived.Test.Qxb6618666aWalkD
namespace Go.Proofs.Qxb6618666a
open Go.RowKit Go.Maps

theorem hidden {p : Prop} (h : p) : Hid p := h

set_option maxRecDepth 100000 in
theorem lagAfter (N n la ca lb cb : Nat) (a b : Option Addr) (A B : List Int) (x t1 t2 : Int) (w : World) (g : Int → Option (Nat × Int × Int)) (hst : St w N n g) (ha : IsArr w N a la A) (hb : IsArr w N b lb B) (hca : a = none → ca = 0) (hcb : b = none → cb = 0) (hla : la ≤ 4096) (hlb : lb ≤ 4096)
    (hx : (Lit.int .i64 x).wf = true) (hlag : lagOf (g x) = hullOf (A.contains x) t1 (B.contains x) t2) :
    Calls Try.prog 11 #[.pointer (some ⟨N + 1, 0, none⟩), .int .i64 x, .slice a la ca, .int .u64 t1, .slice b lb cb, .int .u64 t2] w fun e w' => e = .returned (.bool true) ∧ ∃ n, w' = w.drewN n := by
  have h1 := has_any N la ca a A x w ha hca hla
  have h2 := has_any N lb cb b B x w hb hcb hlb
  have h4 := lagOf_any N n x w g hst hx
  rw [hlag] at h4
  clear hst ha hb hca hcb hlag hx
  generalize A.contains x = ia at h1 h4
  generalize B.contains x = ib at h2 h4
  have h3 := hull_any ia ib t1 t2 w
  generalize hullOf ia t1 ib t2 = o at h3 h4
  have H1 := hidden h1
  have H2 := hidden h2
  clear h1 h2
  cases o with
  | none =>
    simp only [hullRes, lagRes] at h3 h4
    have H3 := hidden h3
    have H4 := hidden h4
    clear h3 h4
    go_enter Try.func11, Try.ntmps11
    go_wp2_with fail
    refine (Hid.out H1).mono ?_
    rintro e w' ⟨rfl, rfl⟩
    go_wp2_with fail
    refine (Hid.out H2).mono ?_
    rintro e w' ⟨rfl, rfl⟩
    go_wp2_with fail
    refine (Hid.out H3).mono ?_
    rintro e w' ⟨rfl, rfl⟩
    go_wp2_with fail
    refine (Hid.out H4).mono ?_
    rintro e w' ⟨rfl, nd, rfl⟩
    go_wp2_with fail
    go_ret
    exact ⟨rfl, _, rfl⟩
  | some q =>
    obtain ⟨lo, hi⟩ := q
    simp only [hullRes, lagRes] at h3 h4
    have H3 := hidden h3
    have H4 := hidden h4
    clear h3 h4
    go_enter Try.func11, Try.ntmps11
    go_wp2_with fail
    refine (Hid.out H1).mono ?_
    rintro e w' ⟨rfl, rfl⟩
    go_wp2_with fail
    refine (Hid.out H2).mono ?_
    rintro e w' ⟨rfl, rfl⟩
    go_wp2_with fail
    refine (Hid.out H3).mono ?_
    rintro e w' ⟨rfl, rfl⟩
    go_wp2_with fail
    refine (Hid.out H4).mono ?_
    rintro e w' ⟨rfl, nd, rfl⟩
    go_wp2_with fail
    go_ret
    exact ⟨rfl, _, rfl⟩

theorem bytes_any (a b : Option Addr) (la ca lb cb : Nat) (t1 t2 p : Int) (w : World) : ∃ r : Bool, Calls Try.prog 7 #[.slice a la ca, .int .u64 t1, .slice b lb cb, .int .u64 t2, .int .i64 p] w fun e w' => e = .returned (.bool r) ∧ w = w' := by
  by_cases h1 : (1048576 : Int) < la
  · refine ⟨false, ?_⟩
    go_enter Try.func7, Try.ntmps7
    go_wp2
    go_ret
    exact ⟨rfl, rfl⟩
  · by_cases h2 : (1048576 : Int) < lb
    · refine ⟨false, ?_⟩
      go_enter Try.func7, Try.ntmps7
      go_wp2
      go_ret
      exact ⟨rfl, rfl⟩
    · by_cases h3 : (1048576 : Int) < la + lb
      · refine ⟨false, ?_⟩
        go_enter Try.func7, Try.ntmps7
        go_wp2
        go_ret
        exact ⟨rfl, rfl⟩
      · refine ⟨true, ?_⟩
        go_enter Try.func7, Try.ntmps7
        go_wp2
        go_ret
        exact ⟨rfl, rfl⟩
end Go.Proofs.Qxb6618666a
