/-
  THE WALKS of ZZsameReported, fb1SameStrs, fb1SameInst at equal values.
-/
import Derived.Test.Qxb6618727aDoorEq
import Derived.Deep.Cut
import Derived.Laws.Rows
namespace Go.Proofs.Qxb6618727aDoor
open Go.RowKit

set_option maxRecDepth 100000 in
theorem zzsame_same (i : Ins) (w : World) (h0 : 0 ≤ i.xw) (h1 : i.xw < 1073741824) (k0 : 0 ≤ i.fw) (k1 : i.fw < 1073741824) : Calls Tryd.prog 13 #[.agg i.arr, .agg i.arr] w fun e w' => e = .returned (.bool true) ∧ Below w.heap.size w w' := by
  go_enter Tryd.func13, Tryd.ntmps13
  go_upto_region 1 with fail
  go_step
  refine wpList_load_row rfl 48 (.tmp 2) rfl w.heap.size rfl 48 i.arr (0, 0) _ (heap_alloc2_old w _ _) Tryd.underlying48 rfl info48 ?_
  refine wpList_load_row rfl 48 (.tmp 3) rfl (w.heap.size + 1) rfl 48 i.arr (0, 0) _ (heap_alloc2_new w _ _) Tryd.underlying48 rfl info48 ?_
  go_wp2_with (go_at_call 21; refine (sameRep_same i _ h0 h1 k0 k1).mono ?_; rintro e w' ⟨rfl, o1, o2, o3, o4, o5, o6, o7, o8, rfl⟩)
  go_ret
  refine ⟨rfl, ?_⟩
  repeat (first | exact Below.refl _ _ | refine Below.alloc ?_ (by simp <;> omega) _)

/-- A slice of strings that came in (below block N), or one of no length; a nil one has no length. -/
def IsStrs (w : World) (N : Nat) (a : Option Addr) (len : Nat) : Prop :=
  len ≤ maxLen ∧ (len = 0 ∨ ∃ b off, a = some ⟨b, off, none⟩ ∧ b < N ∧ ∀ j, j < len → ∃ s : ByteArray, w.cell? ⟨b, off + j, none⟩ = some (.string s) ∧ s.size ≤ maxLen)
theorem IsStrs.below {w w' : World} {N : Nat} {a : Option Addr} {len : Nat} (h : IsStrs w N a len) (hb : Below N w w') : IsStrs w' N a len := by
  obtain ⟨h1, h2⟩ := h
  refine ⟨h1, h2.elim .inl ?_⟩
  rintro ⟨b, off, e, hN, hc⟩
  refine .inr ⟨b, off, e, hN, fun j hj => ?_⟩
  obtain ⟨s, hs, hl⟩ := hc j hj
  exact ⟨s, (hb.cell (p := ⟨b, off + j, none⟩) hN).trans hs, hl⟩
theorem IsStrs.up {w : World} {N M : Nat} {a : Option Addr} {len : Nat} (h : IsStrs w N a len) (hM : N ≤ M) : IsStrs w M a len := by
  obtain ⟨h1, h2⟩ := h
  refine ⟨h1, h2.elim .inl ?_⟩
  rintro ⟨b, off, e, hN, hc⟩
  exact .inr ⟨b, off, e, Nat.lt_of_lt_of_le hN hM, hc⟩
theorem IsStrs.at {w : World} {N : Nat} {a : Option Addr} {len : Nat} (h : IsStrs w N a len) {k : Nat} (hk : k < len) : ∃ b off, a = some ⟨b, off, none⟩ ∧ b < N ∧ ∃ s : ByteArray, w.cell? ⟨b, off + k, none⟩ = some (.string s) ∧ s.size ≤ maxLen := by
  obtain ⟨_, h⟩ := h
  rcases h with rfl | ⟨b, off, rfl, hN, hc⟩
  · omega
  · exact ⟨b, off, rfl, hN, hc k hk⟩
theorem IsStrs.form {w : World} {N : Nat} {a : Option Addr} {len : Nat} (h : IsStrs w N a len) : len = 0 ∨ ∃ b off, a = some ⟨b, off, none⟩ := by
  obtain ⟨_, h⟩ := h
  rcases h with h | ⟨b, off, rfl, _, _⟩
  · exact .inl h
  · exact .inr ⟨b, off, rfl⟩

set_option maxRecDepth 100000 in
theorem strs_same (N len cap : Nat) (a : Option Addr) (w : World) (ha : IsStrs w N a len) : Calls Tryd.prog 22 #[.slice a len cap, .slice a len cap] w fun e w' => e = .returned (.bool true) ∧ Below w.heap.size w w' := by
  have hl := ha.1
  unfold maxLen at hl
  have fa := ha.form
  have HA := hidden ha
  have hnn := fun (w : World) (a : Option Addr) (n c n' c' : Nat) => Lib.run_eql_slice_nil (P := Tryd.prog) w 22 9 a n c n' c' Tryd.underlying22
  clear ha
  rcases fa with fa | ⟨ba, oa, rfl⟩
  all_goals (try clear fa)
  all_goals
    go_enter Tryd.func22, Tryd.ntmps22
    go_wp2_with fail
    go_loopw [5] (fun v wr => ∃ k : Nat, k ≤ len ∧ v = .int .i64 k ∧ ∃ nd, wr = w.drewN nd) (fun v _ => len - (intOf v).toNat)
    case atStart => exact ⟨0, Nat.zero_le _, rfl, 0, rfl⟩
    case round =>
      obtain ⟨k, hk, rfl, nd, rfl⟩ := hrel
      by_cases hlt : k < len
      · obtain ⟨b', o', e', hbw, s, hs, hsl⟩ := HA.out.at hlt
        have hi : (k : Int) < (len : Int) := by omega
        cases e' <;> (
          go_wp2_with fail
          go_quiet (fail)
          go_wp2_with fail
          go_roundw
          case rel => exact ⟨k + 1, by omega, by go_num, _, rfl⟩
          case measure => simp [intOf]; omega)
      · go_wp2_with fail
        go_ret
        exact ⟨rfl, ⟨rfl, rfl, rfl, Nat.le_refl _, fun _ _ => rfl⟩⟩

theorem eqp (d : Nat) (w : World) : (Op.equalIn (d + 1) 38 (.pointer none) (.pointer none)).run Tryd.prog w = .ok true w := by
  simp [Op.equalIn, run_underlying Tryd.underlying38]

set_option maxRecDepth 100000 in
set_option maxHeartbeats 1000000 in
theorem sameInst_same (i : Ins) (N : Nat) (w : World) (hst : IsStrs w N i.cma i.cml) (hN : N ≤ w.heap.size) : Calls Tryd.prog 14 #[.agg i.arr, .agg i.arr] w fun e w' => e = .returned (.bool true) ∧ Below w.heap.size w w' := by
  obtain ⟨a0, a1, a2, a3, a4, a5, a6, a7, a8, a9, a10, a11, a12, a13, a14, a15, a16, a17, a18, a19, a20, a21, a22⟩ := i.facts
  have hst2 := hst.below ((((Below.refl _ _).alloc hN (.cells i.arr 48))).alloc (Nat.le_trans hN (by simp)) (.cells i.arr 48))
  have H := hidden (strs_same N i.cml i.cmc i.cma _ hst2)
  clear hst hst2
  have p1 := fun w => eqp 9998 w
  have p2 := fun w => eqp 9997 w
  have p3 := fun w => eqp 9996 w
  have p4 := fun w => eqp 9995 w
  go_enter Tryd.func14, Tryd.ntmps14
  go_wp2_with (go_at_call 22; refine H.out.mono ?_; rintro e w' ⟨rfl, bel⟩)
  go_ret
  exact ⟨rfl, (((Below.refl _ _).alloc (Nat.le_refl _) _).alloc (by simp) _).trans (bel.mono (by simp <;> omega))⟩
end Go.Proofs.Qxb6618727aDoor
