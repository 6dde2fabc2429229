/-
  THE WALKS of fb1Add, fb1StrsBytes, fb1ExitsBytes: what they say of the sizes.
-/
import Derived.Test.Qxb6618727aDoorReport
namespace Go.Proofs.Qxb6618727aDoor
open Go.RowKit
set_option linter.unusedSimpArgs false

/-- m is a sum that has taken in n: where m is within the bound, so was n. -/
def Took (n m : Int) : Prop := 0 ≤ m ∧ m ≤ 2097152 ∧ (m ≤ 1048576 → n ≤ 1048576)
theorem Took.trans {n m k : Int} (h : Took n m) (g : Took m k) : Took n k := ⟨g.1, g.2.1, fun hk => h.2.2 (g.2.2 hk)⟩

theorem add16 (n k : Int) (h0 : 0 ≤ n) (h1 : 0 ≤ k) : ∃ m : Int, Took n m ∧ (m ≤ 1048576 → k ≤ 1048576) ∧ ∀ w : World, Calls Tryd.prog 16 #[.int .i64 n, .int .i64 k] w fun e w' => e = .returned (.int .i64 m) ∧ w = w' := by
  by_cases g1 : (1048576 : Int) < n
  · refine ⟨1048577, ⟨by omega, by omega, by omega⟩, by omega, fun w => ?_⟩
    go_enter Tryd.func16, Tryd.ntmps16
    go_wp2
    go_ret
    exact ⟨rfl, rfl⟩
  · by_cases g2 : (1048576 : Int) < k
    · refine ⟨1048577, ⟨by omega, by omega, by omega⟩, by omega, fun w => ?_⟩
      go_enter Tryd.func16, Tryd.ntmps16
      go_wp2
      go_ret
      exact ⟨rfl, rfl⟩
    · refine ⟨n + k, ⟨by omega, by omega, by omega⟩, by omega, fun w => ?_⟩
      go_enter Tryd.func16, Tryd.ntmps16
      go_wp2
      go_ret
      exact ⟨rfl, rfl⟩

def SumPost (n : Int) (w : World) (e : Ending) (w' : World) : Prop := ∃ m : Int, Took n m ∧ e = .returned (.int .i64 m) ∧ w = w'

set_option maxRecDepth 100000 in
theorem strs_nil (n : Int) (w : World) (h0 : 0 ≤ n) (a : Option Addr) (cap : Nat) :
    Calls Tryd.prog 17 #[.int .i64 n, .slice a 0 cap] w (SumPost n w) := by
  obtain ⟨m, hm0, _, hm⟩ := add16 n 0 h0 (by decide)
  have HM := hidden hm
  have HM0 := hidden hm0
  clear hm hm0
  by_cases g1 : (1048576 : Int) < n
  · go_enter Tryd.func17, Tryd.ntmps17
    go_wp2_with fail
    go_ret
    exact ⟨1048577, ⟨by omega, by omega, by omega⟩, rfl, rfl⟩
  · go_enter Tryd.func17, Tryd.ntmps17
    go_wp2_with (go_at_call 16; refine (HM.out _).mono ?_; rintro e w' ⟨rfl, rfl⟩)
    refine wp_loop_rounds 1 ?_
    rw [rounds_succ]
    go_wp2_with fail
    go_ret
    exact ⟨m, HM0.out, rfl, rfl⟩

set_option maxRecDepth 100000 in
set_option maxHeartbeats 1000000 in
theorem strs_some (n : Int) (b off len cap : Nat) (w : World) (h0 : 0 ≤ n) (hlen : len ≤ maxLen) (hc : ∀ j, j < len → ∃ s : ByteArray, w.cell? ⟨b, off + j, none⟩ = some (.string s) ∧ s.size ≤ maxLen) :
    Calls Tryd.prog 17 #[.int .i64 n, .slice (some ⟨b, off, none⟩) len cap] w (SumPost n w) := by
  unfold maxLen at hlen
  have HC := hidden hc
  clear hc
  by_cases g1 : (1048576 : Int) < n
  · go_enter Tryd.func17, Tryd.ntmps17
    go_wp2_with fail
    go_ret
    exact ⟨1048577, ⟨by omega, by omega, by omega⟩, rfl, rfl⟩
  · by_cases g2 : (1048576 : Int) < len
    · go_enter Tryd.func17, Tryd.ntmps17
      go_wp2_with fail
      go_ret
      exact ⟨1048577, ⟨by omega, by omega, by omega⟩, rfl, rfl⟩
    · obtain ⟨m, hm0, _, hm⟩ := add16 n (16 * len) h0 (by omega)
      have HM := hidden hm
      clear hm
      go_enter Tryd.func17, Tryd.ntmps17
      go_wp2_with (go_at_call 16; refine (HM.out _).mono ?_; rintro e w' ⟨rfl, rfl⟩)
      go_loopw [0, 5] (fun t i wr => ∃ k : Nat, k ≤ len ∧ i = .int .i64 k ∧ ∃ x : Int, Took n x ∧ t = .int .i64 x ∧ wr = w) (fun _ i _ => len - (intOf i).toNat)
      case atStart => exact ⟨0, Nat.zero_le _, rfl, m, hm0, rfl, rfl⟩
      case round =>
        obtain ⟨k, hk, rfl, x, x0, rfl, rfl⟩ := hrel
        by_cases hlt : k < len
        · by_cases g3 : (1048576 : Int) < x
          · go_wp2_with fail
            go_ret
            exact ⟨x, x0, rfl, rfl⟩
          · obtain ⟨s, hs, _⟩ := HC.out k hlt
            obtain ⟨y, y0, _, hy⟩ := add16 x s.size x0.1 (by omega)
            have HY := hidden hy
            clear hy
            go_wp2_with (go_at_call 16; refine (HY.out _).mono ?_; rintro e w' ⟨rfl, rfl⟩)
            go_roundw
            case rel => exact ⟨k + 1, by omega, by go_num, y, x0.trans y0, rfl, by trivial⟩
            case measure => simp [intOf]; omega
        · go_wp2_with fail
          go_ret
          exact ⟨x, x0, rfl, rfl⟩

theorem strs_any (n : Int) (N len cap : Nat) (a : Option Addr) (w : World) (h0 : 0 ≤ n) (ha : IsStrs w N a len) :
    Calls Tryd.prog 17 #[.int .i64 n, .slice a len cap] w (SumPost n w) := by
  obtain ⟨hl, ha⟩ := ha
  rcases ha with rfl | ⟨b, off, rfl, hN, hc⟩
  · exact strs_nil n w h0 a cap
  · exact strs_some n b off len cap w h0 hl hc

/-- The law's slice of exits as it comes in, before its bounds are known. -/
def RawEs (w : World) (N : Nat) (a : Option Addr) (len : Nat) : Prop :=
  len ≤ maxLen ∧ (len = 0 ∨ ∃ b off, a = some ⟨b, off, none⟩ ∧ b < N ∧ ∀ j, j < len → ∃ (c : Int) (g : ByteArray) (o : Bool) (ns : Int), I64 c ∧ g.size ≤ maxLen ∧ I64 ns ∧
    w.cell? ⟨b, off + j * 4, none⟩ = some (.int .i64 c) ∧ w.cell? ⟨b, off + j * 4 + 1, none⟩ = some (.string g) ∧ w.cell? ⟨b, off + j * 4 + 2, none⟩ = some (.bool o) ∧ w.cell? ⟨b, off + j * 4 + 3, none⟩ = some (.int .i64 ns))
theorem RawEs.below {w w' : World} {N : Nat} {a : Option Addr} {len : Nat} (h : RawEs w N a len) (hb : Below N w w') : RawEs w' N a len := by
  obtain ⟨h1, h2⟩ := h
  refine ⟨h1, h2.elim .inl ?_⟩
  rintro ⟨b, off, e, hN, hc⟩
  refine .inr ⟨b, off, e, hN, fun j hj => ?_⟩
  obtain ⟨c, g, o, ns, g1, g2, g3, c0, c1, c2, c3⟩ := hc j hj
  exact ⟨c, g, o, ns, g1, g2, g3, (hb.cell (p := ⟨b, _, none⟩) hN).trans c0, (hb.cell (p := ⟨b, _, none⟩) hN).trans c1, (hb.cell (p := ⟨b, _, none⟩) hN).trans c2, (hb.cell (p := ⟨b, _, none⟩) hN).trans c3⟩

/-- The sum over the exits: within the bound, the exits are within theirs. -/
def EsSum (n : Int) (N : Nat) (a : Option Addr) (len : Nat) (w : World) (e : Ending) (w' : World) : Prop :=
  ∃ m : Int, Took n m ∧ (m ≤ 1048576 → IsFEs w N a len) ∧ e = .returned (.int .i64 m) ∧ w = w'
/-- The first k exits' strings are within the bound if m is. -/
def UpTo (w : World) (b off k : Nat) (m : Int) : Prop := m ≤ 1048576 → ∀ j, j < k → ∀ g, w.cell? ⟨b, off + j * 4 + 1, none⟩ = some (.string g) → g.size ≤ 1048576

set_option maxRecDepth 100000 in
theorem es_nil (n : Int) (N : Nat) (w : World) (h0 : 0 ≤ n) (a : Option Addr) (cap : Nat) :
    Calls Tryd.prog 6 #[.int .i64 n, .slice a 0 cap] w (EsSum n N a 0 w) := by
  obtain ⟨m, hm0, _, hm⟩ := add16 n 0 h0 (by decide)
  have HM := hidden hm
  have HM0 := hidden hm0
  clear hm hm0
  by_cases g1 : (1048576 : Int) < n
  · go_enter Tryd.func6, Tryd.ntmps6
    go_wp2_with fail
    go_ret
    exact ⟨1048577, ⟨by omega, by omega, by omega⟩, by omega, rfl, rfl⟩
  · go_enter Tryd.func6, Tryd.ntmps6
    go_wp2_with (go_at_call 16; refine (HM.out _).mono ?_; rintro e w' ⟨rfl, rfl⟩)
    refine wp_loop_rounds 1 ?_
    rw [rounds_succ]
    go_wp2_with fail
    go_ret
    exact ⟨m, HM0.out, fun _ => ⟨by omega, .inl rfl⟩, rfl, rfl⟩

set_option maxRecDepth 100000 in
set_option maxHeartbeats 1000000 in
theorem es_some (n : Int) (N b off len cap : Nat) (w : World) (h0 : 0 ≤ n) (hb : b < N) (hlen : len ≤ maxLen) (hc : ∀ j, j < len → ∃ (c : Int) (g : ByteArray) (o : Bool) (ns : Int), I64 c ∧ g.size ≤ maxLen ∧ I64 ns ∧
    w.cell? ⟨b, off + j * 4, none⟩ = some (.int .i64 c) ∧ w.cell? ⟨b, off + j * 4 + 1, none⟩ = some (.string g) ∧ w.cell? ⟨b, off + j * 4 + 2, none⟩ = some (.bool o) ∧ w.cell? ⟨b, off + j * 4 + 3, none⟩ = some (.int .i64 ns)) :
    Calls Tryd.prog 6 #[.int .i64 n, .slice (some ⟨b, off, none⟩) len cap] w (EsSum n N (some ⟨b, off, none⟩) len w) := by
  unfold maxLen at hlen
  have HC := hidden hc
  clear hc
  by_cases g1 : (1048576 : Int) < n
  · go_enter Tryd.func6, Tryd.ntmps6
    go_wp2_with fail
    go_ret
    exact ⟨1048577, ⟨by omega, by omega, by omega⟩, by omega, rfl, rfl⟩
  · by_cases g2 : (1048576 : Int) < len
    · go_enter Tryd.func6, Tryd.ntmps6
      go_wp2_with fail
      go_ret
      exact ⟨1048577, ⟨by omega, by omega, by omega⟩, by omega, rfl, rfl⟩
    · obtain ⟨m, hm0, _, hm⟩ := add16 n (32 * len) h0 (by omega)
      have HM := hidden hm
      clear hm
      go_enter Tryd.func6, Tryd.ntmps6
      go_wp2_with (go_at_call 16; refine (HM.out _).mono ?_; rintro e w' ⟨rfl, rfl⟩)
      go_loopw [0, 5] (fun t i wr => ∃ k : Nat, k ≤ len ∧ i = .int .i64 k ∧ ∃ x : Int, Took n x ∧ UpTo w b off k x ∧ t = .int .i64 x ∧ wr = w) (fun _ i _ => len - (intOf i).toNat)
      case atStart => exact ⟨0, Nat.zero_le _, rfl, m, hm0, (fun _ j hj => by omega), rfl, rfl⟩
      case round =>
        obtain ⟨k, hk, rfl, x, x0, hup, rfl, rfl⟩ := hrel
        by_cases hlt : k < len
        · by_cases g3 : (1048576 : Int) < x
          · go_wp2_with fail
            go_ret
            exact ⟨x, x0, by omega, rfl, rfl⟩
          · obtain ⟨c, g, o, ns, _, _, _, c0, c1, c2, c3⟩ := HC.out k hlt
            obtain ⟨y, y0, y1, hy⟩ := add16 x g.size x0.1 (by omega)
            have HY := hidden hy
            clear hy
            go_wp2_with (go_at_call 16; refine (HY.out _).mono ?_; rintro e w' ⟨rfl, rfl⟩)
            go_roundw
            case rel =>
              refine ⟨k + 1, by omega, by go_num, y, x0.trans y0, ?_, rfl, by trivial⟩
              intro hy j hj g' hg'
              by_cases hjk : j = k
              · subst hjk; rw [c1] at hg'; simp at hg'; subst hg'; have := y1 hy; omega
              · exact hup (y0.2.2 hy) j (by omega) g' hg'
            case measure => simp [intOf]; omega
        · go_wp2_with fail
          go_ret
          refine ⟨x, x0, fun hx => ⟨by omega, .inr ⟨b, off, rfl, hb, fun j hj => ?_⟩⟩, rfl, rfl⟩
          obtain ⟨c, g, o, ns, q1, _, q3, c0, c1, c2, c3⟩ := HC.out j hj
          exact ⟨c, g, o, ns, q1, hup hx j (by omega) g c1, q3, c0, c1, c2, c3⟩

theorem es_any (n : Int) (N len cap : Nat) (a : Option Addr) (w : World) (h0 : 0 ≤ n) (ha : RawEs w N a len) :
    Calls Tryd.prog 6 #[.int .i64 n, .slice a len cap] w (EsSum n N a len w) := by
  obtain ⟨hl, ha⟩ := ha
  rcases ha with rfl | ⟨b, off, rfl, hN, hc⟩
  · exact es_nil n N w h0 a cap
  · exact es_some n N b off len cap w h0 hN hl hc
end Go.Proofs.Qxb6618727aDoor
