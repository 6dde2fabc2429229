/-
  THE WALKS of the helpers: fb1Add, fb1StrsBytes, fb1SpecBytes, fb1Spec, less, ZZless.
-/
import Derived.Test.Qxb6618727aProg
import Derived.WalkKit
import Derived.WalkSpells
import Derived.BigRegion
import Derived.BigQuiet
import Derived.Deep.QuietTactic
namespace Go.Proofs.Qxb6618727a
open Go.RowKit

theorem hidden {p : Prop} (h : p) : Hid p := h

theorem add_any (n k : Int) (h0 : 0 ≤ n) (h1 : 0 ≤ k) : ∃ m : Int, 0 ≤ m ∧ m ≤ 2097152 ∧ ∀ w : World, Calls Try.prog 17 #[.int .i64 n, .int .i64 k] w fun e w' => e = .returned (.int .i64 m) ∧ w = w' := by
  by_cases g1 : (1048576 : Int) < n
  · refine ⟨1048577, by omega, by omega, fun w => ?_⟩
    go_enter Try.func17, Try.ntmps17
    go_wp2
    go_ret
    exact ⟨rfl, rfl⟩
  · by_cases g2 : (1048576 : Int) < k
    · refine ⟨1048577, by omega, by omega, fun w => ?_⟩
      go_enter Try.func17, Try.ntmps17
      go_wp2
      go_ret
      exact ⟨rfl, rfl⟩
    · refine ⟨n + k, by omega, by omega, fun w => ?_⟩
      go_enter Try.func17, Try.ntmps17
      go_wp2
      go_ret
      exact ⟨rfl, rfl⟩

/-- A slice of strings that came in (below block N), or one of no length. -/
def IsStrs (w : World) (N : Nat) (a : Option Addr) (len : Nat) : Prop :=
  len ≤ maxLen ∧ (len = 0 ∨ ∃ b off, a = some ⟨b, off, none⟩ ∧ b < N ∧ ∀ j, j < len → ∃ s : ByteArray, w.cell? ⟨b, off + j, none⟩ = some (.string s) ∧ s.size ≤ maxLen)
theorem IsStrs.below {w w' : World} {N : Nat} {a : Option Addr} {len : Nat} (h : IsStrs w N a len) (hb : Below N w w') : IsStrs w' N a len := by
  obtain ⟨h1, h2⟩ := h
  refine ⟨h1, h2.elim .inl ?_⟩
  rintro ⟨b, off, e, hN, hc⟩
  refine .inr ⟨b, off, e, hN, fun j hj => ?_⟩
  obtain ⟨s, hs, hl⟩ := hc j hj
  exact ⟨s, (hb.cell (p := ⟨b, off + j, none⟩) hN).trans hs, hl⟩

theorem IsStrs.up {w : World} {N M : Nat} {a : Option Addr} {len : Nat} (h : IsStrs w N a len) (hM : N ≤ M) : IsStrs w M a len := by
  obtain ⟨h1, h2⟩ := h
  refine ⟨h1, h2.elim .inl ?_⟩
  rintro ⟨b, off, e, hN, hc⟩
  exact .inr ⟨b, off, e, Nat.lt_of_lt_of_le hN hM, hc⟩

set_option maxRecDepth 100000 in
theorem strs_nil (n : Int) (w : World) (h0 : 0 ≤ n) (a : Option Addr) (cap : Nat) :
    Calls Try.prog 22 #[.int .i64 n, .slice a 0 cap] w fun e w' => ∃ m : Int, 0 ≤ m ∧ m ≤ 2097152 ∧ e = .returned (.int .i64 m) ∧ w = w' := by
  obtain ⟨m, m0, m1, hm⟩ := add_any n 0 h0 (by decide)
  have HM := hidden hm
  clear hm
  by_cases g1 : (1048576 : Int) < n
  · go_enter Try.func22, Try.ntmps22
    go_wp2_with fail
    go_ret
    exact ⟨1048577, by decide, by decide, rfl, rfl⟩
  · go_enter Try.func22, Try.ntmps22
    go_wp2_with (go_at_call 17; refine (HM.out _).mono ?_; rintro e w' ⟨rfl, rfl⟩)
    refine wp_loop_rounds 1 ?_
    rw [rounds_succ]
    go_wp2_with fail
    go_ret
    exact ⟨m, m0, m1, rfl, rfl⟩

set_option maxRecDepth 100000 in
set_option maxHeartbeats 1000000 in
theorem strs_some (n : Int) (b off len cap : Nat) (w : World) (h0 : 0 ≤ n) (hlen : len ≤ maxLen) (hc : ∀ j, j < len → ∃ s : ByteArray, w.cell? ⟨b, off + j, none⟩ = some (.string s) ∧ s.size ≤ maxLen) :
    Calls Try.prog 22 #[.int .i64 n, .slice (some ⟨b, off, none⟩) len cap] w fun e w' => ∃ m : Int, 0 ≤ m ∧ m ≤ 2097152 ∧ e = .returned (.int .i64 m) ∧ w = w' := by
  unfold maxLen at hlen
  have HC := hidden hc
  clear hc
  by_cases g1 : (1048576 : Int) < n
  · go_enter Try.func22, Try.ntmps22
    go_wp2_with fail
    go_ret
    exact ⟨1048577, by decide, by decide, rfl, rfl⟩
  · by_cases g2 : (1048576 : Int) < len
    · go_enter Try.func22, Try.ntmps22
      go_wp2_with fail
      go_ret
      exact ⟨1048577, by decide, by decide, rfl, rfl⟩
    · obtain ⟨m, m0, m1, hm⟩ := add_any n (16 * len) h0 (by omega)
      have HM := hidden hm
      clear hm
      go_enter Try.func22, Try.ntmps22
      go_wp2_with (go_at_call 17; refine (HM.out _).mono ?_; rintro e w' ⟨rfl, rfl⟩)
      go_loopw [0, 5] (fun t i wr => ∃ k : Nat, k ≤ len ∧ i = .int .i64 k ∧ ∃ x : Int, 0 ≤ x ∧ x ≤ 2097152 ∧ t = .int .i64 x ∧ wr = w) (fun _ i _ => len - (intOf i).toNat)
      case atStart => exact ⟨0, Nat.zero_le _, rfl, m, m0, m1, rfl, rfl⟩
      case round =>
        obtain ⟨k, hk, rfl, x, x0, x1, rfl, rfl⟩ := hrel
        by_cases hlt : k < len
        · by_cases g3 : (1048576 : Int) < x
          · go_wp2_with fail
            go_ret
            exact ⟨x, x0, x1, rfl, rfl⟩
          · obtain ⟨s, hs, _⟩ := HC.out k hlt
            obtain ⟨y, y0, y1, hy⟩ := add_any x s.size x0 (by omega)
            have HY := hidden hy
            clear hy
            go_wp2_with (go_at_call 17; refine (HY.out _).mono ?_; rintro e w' ⟨rfl, rfl⟩)
            go_roundw
            case rel => exact ⟨k + 1, by omega, by go_num, y, y0, y1, rfl, by trivial⟩
            case measure => simp [intOf]; omega
        · go_wp2_with fail
          go_ret
          exact ⟨x, x0, x1, rfl, rfl⟩

theorem strs_any (n : Int) (N len cap : Nat) (a : Option Addr) (w : World) (h0 : 0 ≤ n) (ha : IsStrs w N a len) :
    Calls Try.prog 22 #[.int .i64 n, .slice a len cap] w fun e w' => ∃ m : Int, 0 ≤ m ∧ m ≤ 2097152 ∧ e = .returned (.int .i64 m) ∧ w = w' := by
  obtain ⟨hl, ha⟩ := ha
  rcases ha with rfl | ⟨b, off, rfl, hN, hc⟩
  · exact strs_nil n w h0 a cap
  · exact strs_some n b off len cap w h0 hl hc

/-- A spec's block. -/
def Spc (nm ho : ByteArray) (a : Option Addr) (len cap : Nat) (cp me : Int) : Obj := .cells #[.string nm, .string ho, .slice a len cap, .int .i64 cp, .int .u64 me] 25

set_option maxRecDepth 100000 in
theorem specBytes_any (n : Int) (N : Nat) (nm ho : ByteArray) (a : Option Addr) (len cap : Nat) (cp me : Int) (w : World) (h0 : 0 ≤ n) (ha : IsStrs w N a len) (hN : N ≤ w.heap.size) :
    Calls Try.prog 7 #[.int .i64 n, .agg #[.string nm, .string ho, .slice a len cap, .int .i64 cp, .int .u64 me]] w fun e w' => ∃ m : Int, 0 ≤ m ∧ m ≤ 2097152 ∧ e = .returned (.int .i64 m) ∧ w.alloc (Spc nm ho a len cap cp me) = w' := by
  obtain ⟨m1, a1, b1, c1⟩ := add_any n nm.size h0 (by omega)
  obtain ⟨m2, a2, b2, c2⟩ := add_any m1 ho.size a1 (by omega)
  have H1 := hidden c1
  have H2 := hidden c2
  have H3 := hidden (strs_any m2 N len cap a (w.alloc (Spc nm ho a len cap cp me)) a2 (ha.below ((Below.refl _ _).alloc hN _)))
  clear c1 c2 ha
  go_enter Try.func7, Try.ntmps7
  go_wp2_with fail
  refine (H1.out _).mono ?_
  rintro e w' ⟨rfl, rfl⟩
  go_wp2_with fail
  refine (H2.out _).mono ?_
  rintro e w' ⟨rfl, rfl⟩
  go_wp2_with fail
  refine H3.out.mono ?_
  rintro e w' ⟨m, m0, m1, rfl, rfl⟩
  go_wp2_with fail
  go_ret
  exact ⟨m, m0, m1, rfl, rfl⟩

theorem spec_any (nm ho : ByteArray) (a : Option Addr) (len cap : Nat) (cp me : Int) (w : World) :
    Calls Try.prog 9 #[.agg #[.string nm, .string ho, .slice a len cap, .int .i64 cp, .int .u64 me]] w fun e w' =>
      e = .returned (.agg #[.string nm, .string ho, .slice a len cap, .int .i64 cp, .int .u64 me]) ∧ Below w.heap.size w w' := by
  go_enter Try.func9, Try.ntmps9
  go_wp2
  exact bodyPost_ret (v := .agg #[.string nm, .string ho, .slice a len cap, .int .i64 cp, .int .u64 me]) (by simp [results, Try.results9, go_sem]) rfl ⟨rfl, ((Below.refl _ _).alloc (Nat.le_refl _) _).alloc (by simp) _⟩

end Go.Proofs.Qxb6618727a
