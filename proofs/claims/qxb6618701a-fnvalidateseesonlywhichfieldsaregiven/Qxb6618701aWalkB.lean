/-
  THE WALKS: zzAddLen, zzAddFields, zzRequest, Validate, zzBytes.
-/
import Derived.Test.Qxb6618701aWalkA
namespace Go.Proofs.Qxb6618701a
open Go.RowKit

theorem hidden {p : Prop} (h : p) : Hid p := h

theorem addLen_any (t : Int) (s : ByteArray) (h0 : 0 ≤ t) (h1 : t ≤ 2097152) : ∃ n : Int, 0 ≤ n ∧ n ≤ 2097152 ∧ ∀ w : World, Calls Try.prog 10 #[.int .i64 t, .string s] w fun e w' => e = .returned (.int .i64 n) ∧ w = w' := by
  by_cases g1 : (1048576 : Int) < t
  · refine ⟨1048577, by omega, by omega, fun w => ?_⟩
    go_enter Try.func10, Try.ntmps10
    go_wp2
    go_ret
    exact ⟨rfl, rfl⟩
  · by_cases g2 : (1048576 : Int) < s.size
    · refine ⟨1048577, by omega, by omega, fun w => ?_⟩
      go_enter Try.func10, Try.ntmps10
      go_wp2
      go_ret
      exact ⟨rfl, rfl⟩
    · refine ⟨t + s.size, by omega, by omega, fun w => ?_⟩
      go_enter Try.func10, Try.ntmps10
      go_wp2
      go_ret
      exact ⟨rfl, rfl⟩

set_option maxRecDepth 100000 in
theorem addFields_any (t : Int) (s0 s1 s2 s3 s4 s5 s6 s7 s8 : ByteArray) (h0 : 0 ≤ t) (h1 : t ≤ 2097152) : ∃ n : Int, 0 ≤ n ∧ n ≤ 2097152 ∧ ∀ w : World,
    Calls Try.prog 5 #[.int .i64 t, .agg #[.string s0, .string s1, .string s2, .string s3, .string s4, .string s5, .string s6, .string s7, .string s8]] w fun e w' => e = .returned (.int .i64 n) ∧ w.alloc (Fld s0 s1 s2 s3 s4 s5 s6 s7 s8) = w' := by
  obtain ⟨n0, a0, b0, c0⟩ := addLen_any t s0 h0 h1
  obtain ⟨n1, a1, b1, c1⟩ := addLen_any n0 s1 a0 b0
  obtain ⟨n2, a2, b2, c2⟩ := addLen_any n1 s2 a1 b1
  obtain ⟨n3, a3, b3, c3⟩ := addLen_any n2 s3 a2 b2
  obtain ⟨n4, a4, b4, c4⟩ := addLen_any n3 s4 a3 b3
  obtain ⟨n5, a5, b5, c5⟩ := addLen_any n4 s5 a4 b4
  obtain ⟨n6, a6, b6, c6⟩ := addLen_any n5 s6 a5 b5
  obtain ⟨n7, a7, b7, c7⟩ := addLen_any n6 s7 a6 b6
  obtain ⟨n8, a8, b8, c8⟩ := addLen_any n7 s8 a7 b7
  refine ⟨n8, a8, b8, fun w => ?_⟩
  have H0 := hidden c0
  have H1 := hidden c1
  have H2 := hidden c2
  have H3 := hidden c3
  have H4 := hidden c4
  have H5 := hidden c5
  have H6 := hidden c6
  have H7 := hidden c7
  have H8 := hidden c8
  clear c0 c1 c2 c3 c4 c5 c6 c7 c8
  go_enter Try.func5, Try.ntmps5
  go_wp2_with fail
  refine (H0.out _).mono ?_
  rintro e w' ⟨rfl, rfl⟩
  go_wp2_with fail
  refine (H1.out _).mono ?_
  rintro e w' ⟨rfl, rfl⟩
  go_wp2_with fail
  refine (H2.out _).mono ?_
  rintro e w' ⟨rfl, rfl⟩
  go_wp2_with fail
  refine (H3.out _).mono ?_
  rintro e w' ⟨rfl, rfl⟩
  go_wp2_with fail
  refine (H4.out _).mono ?_
  rintro e w' ⟨rfl, rfl⟩
  go_wp2_with fail
  refine (H5.out _).mono ?_
  rintro e w' ⟨rfl, rfl⟩
  go_wp2_with fail
  refine (H6.out _).mono ?_
  rintro e w' ⟨rfl, rfl⟩
  go_wp2_with fail
  refine (H7.out _).mono ?_
  rintro e w' ⟨rfl, rfl⟩
  go_wp2_with fail
  refine (H8.out _).mono ?_
  rintro e w' ⟨rfl, rfl⟩
  go_wp2_with fail
  go_ret
  exact ⟨rfl, rfl⟩

theorem request_any (s0 s1 s2 s3 s4 s5 s6 s7 s8 : ByteArray) (w : World) :
    Calls Try.prog 7 #[.agg #[.string s0, .string s1, .string s2, .string s3, .string s4, .string s5, .string s6, .string s7, .string s8]] w fun e w' =>
      e = .returned (.agg #[.string s0, .string s1, .string s2, .string s3, .string s4, .string s5, .string s6, .string s7, .string s8, .map none, .map none, .map none, .map none]) ∧ ∃ o1 o2, (w.alloc o1).alloc o2 = w' := by
  go_enter Try.func7, Try.ntmps7
  go_wp2
  exact bodyPost_ret (v := .agg #[.string s0, .string s1, .string s2, .string s3, .string s4, .string s5, .string s6, .string s7, .string s8, .map none, .map none, .map none, .map none]) (by simp [results, Try.results7, go_sem]) rfl ⟨rfl, _, _, rfl⟩

/-- Validate's verdict: nil? -/
def okOf (s0 s2 s3 s4 s5 s6 s7 : ByteArray) : Bool :=
  !s0.toList.isEmpty && !s2.toList.isEmpty && (if s3.toList.isEmpty then !s5.toList.isEmpty && s4.toList.isEmpty && (s6.toList.isEmpty || s7.toList.isEmpty) else s5.toList.isEmpty && s6.toList.isEmpty && s7.toList.isEmpty)

set_option maxRecDepth 100000 in
set_option maxHeartbeats 1000000 in
theorem validate_any (s0 s1 s2 s3 s4 s5 s6 s7 s8 : ByteArray) (w : World) :
    Calls Try.prog 8 #[.agg #[.string s0, .string s1, .string s2, .string s3, .string s4, .string s5, .string s6, .string s7, .string s8, .map none, .map none, .map none, .map none]] w fun e w' =>
      (Hid (okOf s0 s2 s3 s4 s5 s6 s7 = true) ∧ e = .returned .nilIface ∧ ∃ o1, w.alloc o1 = w') ∨ (Hid (okOf s0 s2 s3 s4 s5 s6 s7 = false) ∧ ∃ p, e = .returned (.iface 39 (.pointer (some p))) ∧ ∃ o1 o2, (w.alloc o1).alloc o2 = w') := by
  cases e0 : s0.toList.isEmpty with
  | true =>
    have hk := hidden (show okOf s0 s2 s3 s4 s5 s6 s7 = false by simp [okOf, e0])
    go_enter Try.func8, Try.ntmps8
    go_wp2
    go_ret
    exact .inr ⟨hk, _, rfl, _, _, rfl⟩
  | false =>
    cases e2 : s2.toList.isEmpty with
    | true =>
      have hk := hidden (show okOf s0 s2 s3 s4 s5 s6 s7 = false by simp [okOf, e2])
      go_enter Try.func8, Try.ntmps8
      go_wp2
      go_ret
      exact .inr ⟨hk, _, rfl, _, _, rfl⟩
    | false =>
      cases e3 : s3.toList.isEmpty with
      | false =>
        cases e5 : s5.toList.isEmpty with
        | false =>
          have hk := hidden (show okOf s0 s2 s3 s4 s5 s6 s7 = false by simp [okOf, e3, e5])
          go_enter Try.func8, Try.ntmps8
          go_wp2
          go_ret
          exact .inr ⟨hk, _, rfl, _, _, rfl⟩
        | true =>
          cases e6 : s6.toList.isEmpty with
          | false =>
            have hk := hidden (show okOf s0 s2 s3 s4 s5 s6 s7 = false by simp [okOf, e3, e6])
            go_enter Try.func8, Try.ntmps8
            go_wp2
            go_ret
            exact .inr ⟨hk, _, rfl, _, _, rfl⟩
          | true =>
            cases e7 : s7.toList.isEmpty with
            | false =>
              have hk := hidden (show okOf s0 s2 s3 s4 s5 s6 s7 = false by simp [okOf, e3, e7])
              go_enter Try.func8, Try.ntmps8
              go_wp2
              go_ret
              exact .inr ⟨hk, _, rfl, _, _, rfl⟩
            | true =>
              have hk := hidden (show okOf s0 s2 s3 s4 s5 s6 s7 = true by simp [okOf, e0, e2, e3, e5, e6, e7])
              go_enter Try.func8, Try.ntmps8
              go_wp2
              go_ret
              exact .inl ⟨hk, rfl, _, rfl⟩
      | true =>
        cases e5 : s5.toList.isEmpty with
        | true =>
          have hk := hidden (show okOf s0 s2 s3 s4 s5 s6 s7 = false by simp [okOf, e3, e5])
          go_enter Try.func8, Try.ntmps8
          go_wp2
          go_ret
          exact .inr ⟨hk, _, rfl, _, _, rfl⟩
        | false =>
          cases e4 : s4.toList.isEmpty with
          | false =>
            have hk := hidden (show okOf s0 s2 s3 s4 s5 s6 s7 = false by simp [okOf, e3, e4])
            go_enter Try.func8, Try.ntmps8
            go_wp2
            go_ret
            exact .inr ⟨hk, _, rfl, _, _, rfl⟩
          | true =>
            cases e6 : s6.toList.isEmpty with
            | true =>
              have hk := hidden (show okOf s0 s2 s3 s4 s5 s6 s7 = true by simp [okOf, e0, e2, e3, e4, e5, e6])
              go_enter Try.func8, Try.ntmps8
              go_wp2
              go_ret
              exact .inl ⟨hk, rfl, _, rfl⟩
            | false =>
              cases e7 : s7.toList.isEmpty with
              | true =>
                have hk := hidden (show okOf s0 s2 s3 s4 s5 s6 s7 = true by simp [okOf, e0, e2, e3, e4, e5, e7])
                go_enter Try.func8, Try.ntmps8
                go_wp2
                go_ret
                exact .inl ⟨hk, rfl, _, rfl⟩
              | false =>
                have hk := hidden (show okOf s0 s2 s3 s4 s5 s6 s7 = false by simp [okOf, e3, e6, e7])
                go_enter Try.func8, Try.ntmps8
                go_wp2
                go_ret
                exact .inr ⟨hk, _, rfl, _, _, rfl⟩

end Go.Proofs.Qxb6618701a
