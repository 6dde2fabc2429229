/-
  THE WALK of zzBytes.
-/
import Derived.Test.Qxb6618727aWalkB
namespace Go.Proofs.Qxb6618727a
open Go.RowKit

theorem IsStrs.at {w : World} {N : Nat} {a : Option Addr} {len : Nat} (h : IsStrs w N a len) {k : Nat} (hk : k < len) : ∃ b off, a = some ⟨b, off, none⟩ ∧ b < N ∧ ∃ s : ByteArray, w.cell? ⟨b, off + k, none⟩ = some (.string s) ∧ s.size ≤ maxLen := by
  obtain ⟨_, h⟩ := h
  rcases h with rfl | ⟨b, off, rfl, hN, hc⟩
  · omega
  · exact ⟨b, off, rfl, hN, hc k hk⟩
theorem IsStrs.form {w : World} {N : Nat} {a : Option Addr} {len : Nat} (h : IsStrs w N a len) : len = 0 ∨ ∃ b off, a = some ⟨b, off, none⟩ := by
  obtain ⟨_, h⟩ := h
  rcases h with h | ⟨b, off, rfl, _, _⟩
  · exact .inl h
  · exact .inr ⟨b, off, rfl⟩

/-- It returned a bool. (Behind a name, which the walk does not open.) -/
def IsB (e : Ending) : Prop := ∃ r : Bool, e = .returned (.bool r)
theorem isB (r : Bool) : IsB (.returned (.bool r)) := ⟨r, rfl⟩

set_option maxRecDepth 100000 in
set_option maxHeartbeats 4000000 in
theorem bytes_any (c m : Int) (nm ho : ByteArray) (a : Option Addr) (la ca : Nat) (cp me : Int) (nm' ho' : ByteArray) (b : Option Addr) (lb cb : Nat) (cp' me' : Int) (w : World) (ha : IsStrs w w.heap.size a la) (hb : IsStrs w w.heap.size b lb) :
    Calls Try.prog 6 #[.int .i64 c, .int .u64 m, .agg #[.string nm, .string ho, .slice a la ca, .int .i64 cp, .int .u64 me], .agg #[.string nm', .string ho', .slice b lb cb, .int .i64 cp', .int .u64 me']] w fun e w' =>
      IsB e ∧ (w.alloc (Spc nm ho a la ca cp me)).alloc (Spc nm' ho' b lb cb cp' me') = w' := by
  have fa := ha.form
  have fb := hb.form
  have HA := hidden ha
  have HB := hidden hb
  clear ha hb
  rcases fa with fa | ⟨ba, oa, rfl⟩ <;> rcases fb with fb | ⟨bb, ob, rfl⟩
  all_goals (try clear fa)
  all_goals (try clear fb)
  all_goals
    go_enter Try.func6, Try.ntmps6
    go_wp2
    all_goals (try (go_ret; exact ⟨isB _, rfl⟩))
    go_loop [9, 10] (fun z i => ∃ k : Nat, k ≤ la ∧ i = .int .i64 k ∧ ∃ x : Int, 0 ≤ x ∧ x ≤ 1048576 ∧ z = .int .i64 x) (fun _ i => la - (intOf i).toNat)
    case atStart => exact ⟨0, Nat.zero_le _, rfl, _, by omega, by omega, rfl⟩
    case round =>
      obtain ⟨k, hk, rfl, x, x0, x1, rfl⟩ := hrel
      by_cases hlt : k < la
      · obtain ⟨b', o', e', hbw, s, hs, hsl⟩ := HA.out.at hlt
        unfold maxLen at hsl
        cases e' <;> (
          go_wp2
          all_goals first
            | (go_ret; exact ⟨isB _, rfl⟩)
            | (go_round
               case rel => exact ⟨k + 1, by omega, by go_num, _, by omega, by omega, rfl⟩
               case measure => simp [intOf]; omega))
      · go_wp2
        all_goals (try (go_ret; exact ⟨isB _, rfl⟩))
        go_loop [9, 11] (fun z i => ∃ k : Nat, k ≤ lb ∧ i = .int .i64 k ∧ ∃ x : Int, 0 ≤ x ∧ x ≤ 1048576 ∧ z = .int .i64 x) (fun _ i => lb - (intOf i).toNat)
        case atStart => exact ⟨0, Nat.zero_le _, rfl, _, by omega, by omega, rfl⟩
        case round =>
          obtain ⟨k2, hk2, rfl, y, y0, y1, rfl⟩ := hrel
          by_cases hlt2 : k2 < lb
          · obtain ⟨b', o', e', hbw, s, hs, hsl⟩ := HB.out.at hlt2
            unfold maxLen at hsl
            cases e' <;> (
              go_wp2
              all_goals first
                | (go_ret; exact ⟨isB _, rfl⟩)
                | (go_round
                   case rel => exact ⟨k2 + 1, by omega, by go_num, _, by omega, by omega, rfl⟩
                   case measure => simp [intOf]; omega))
          · go_wp2
            go_ret
            exact ⟨isB _, rfl⟩
end Go.Proofs.Qxb6618727a
