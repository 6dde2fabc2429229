/-
  THE WALK of zzBytes.
-/
import Derived.Test.Qxb6618727aDoorBytes2
namespace Go.Proofs.Qxb6618727aDoor
open Go.RowKit
set_option linter.unusedSimpArgs false

/-- It returned a bool. (Behind a name, which the walk does not open.) -/
def IsB (e : Ending) : Prop := ∃ r : Bool, e = .returned (.bool r)
theorem isB (r : Bool) : IsB (.returned (.bool r)) := ⟨r, rfl⟩
theorem RawEs.at {w : World} {N : Nat} {a : Option Addr} {len : Nat} (h : RawEs w N a len) {j : Nat} (hj : j < len) : ∃ b off, a = some ⟨b, off, none⟩ ∧ b < N ∧ ∃ (c : Int) (g : ByteArray) (o : Bool) (ns : Int), I64 c ∧ g.size ≤ maxLen ∧ I64 ns ∧
    w.cell? ⟨b, off + j * 4, none⟩ = some (.int .i64 c) ∧ w.cell? ⟨b, off + j * 4 + 1, none⟩ = some (.string g) ∧ w.cell? ⟨b, off + j * 4 + 2, none⟩ = some (.bool o) ∧ w.cell? ⟨b, off + j * 4 + 3, none⟩ = some (.int .i64 ns) := by
  obtain ⟨_, h⟩ := h
  rcases h with rfl | ⟨b, off, rfl, hN, hc⟩
  · omega
  · exact ⟨b, off, rfl, hN, hc j hj⟩

set_option maxRecDepth 100000 in
set_option maxHeartbeats 4000000 in
theorem zz_any (j : Fin) (q : Frep) (a : Option Addr) (len cap : Nat) (w : World) (hs : IsStrs w w.heap.size j.cma j.cml) (hq : RawEs w w.heap.size q.ena q.enl) (ha : RawEs w w.heap.size a len) :
    Calls Tryd.prog 5 #[.agg j.arr, .agg q.arr, .slice a len cap] w fun e w' => IsB e ∧ (w.alloc (.cells j.arr 27)).alloc (.cells q.arr 30) = w' := by
  obtain ⟨a0, a1, a2, a3, a4, a5, a6, a7, a8, a9, a10, a11, a12, a13, a14, a15, a16⟩ := j.facts
  obtain ⟨b0, b1, b2, b3, b4, b5, b6, b7, b8, b9, b10, b11⟩ := q.facts
  have hc1 : ∀ i : Nat, ((w.alloc (.cells j.arr 27)).alloc (.cells q.arr 30)).cell? ⟨w.heap.size, i, none⟩ = j.arr[i]? := fun i => cell_of_row _ _ _ _ 27 (0, 0) (heap_alloc2_old w _ _)
  have hc2 : ∀ i : Nat, ((w.alloc (.cells j.arr 27)).alloc (.cells q.arr 30)).cell? ⟨w.heap.size + 1, i, none⟩ = q.arr[i]? := fun i => cell_of_row _ _ _ _ 30 (0, 0) (heap_alloc2_new w _ _)
  have hb := ((Below.refl w.heap.size w).alloc (Nat.le_refl _) (.cells j.arr 27)).alloc (by show _ ≤ (w.heap.push _).size; rw [Array.size_push]; exact Nat.le_succ _) (.cells q.arr 30)
  have HS := hidden (hs.below hb)
  have HQ := hidden (hq.below hb)
  have HA := hidden (ha.below hb)
  clear hs hq ha hb
  go_enter Tryd.func5, Tryd.ntmps5
  go_wp2
  all_goals (try (go_ret; exact ⟨isB _, rfl⟩))
  go_loop [7, 8] (fun z i => ∃ k : Nat, k ≤ j.cml ∧ i = .int .i64 k ∧ ∃ x : Int, 0 ≤ x ∧ x ≤ 1048576 ∧ z = .int .i64 x) (fun _ i => j.cml - (intOf i).toNat)
  case atStart => exact ⟨0, Nat.zero_le _, rfl, _, by omega, by omega, rfl⟩
  case round =>
    obtain ⟨k, hk, rfl, x, x0, x1, rfl⟩ := hrel
    by_cases hlt : k < j.cml
    · obtain ⟨b', o', e', hbw, s, hs, hsl⟩ := HS.out.at hlt
      unfold maxLen at hsl
      go_wp2
      all_goals first
        | (go_ret; exact ⟨isB _, rfl⟩)
        | (go_round
           case rel => exact ⟨k + 1, by omega, by go_num, _, by omega, by omega, rfl⟩
           case measure => simp [intOf]; omega)
    · go_wp2
      all_goals (try (go_ret; exact ⟨isB _, rfl⟩))
      go_loop [7, 9] (fun z i => ∃ k : Nat, k ≤ q.enl ∧ i = .int .i64 k ∧ ∃ x : Int, 0 ≤ x ∧ x ≤ 1048576 ∧ z = .int .i64 x) (fun _ i => q.enl - (intOf i).toNat)
      case atStart => exact ⟨0, Nat.zero_le _, rfl, _, by omega, by omega, rfl⟩
      case round =>
        obtain ⟨k2, hk2, rfl, y, y0, y1, rfl⟩ := hrel
        by_cases hlt2 : k2 < q.enl
        · obtain ⟨b', o', e', hbw, c', g', ob', ns', _, hgs, _, d0, d1, d2, d3⟩ := HQ.out.at hlt2
          unfold maxLen at hgs
          go_wp2
          all_goals first
            | (go_ret; exact ⟨isB _, rfl⟩)
            | (go_round
               case rel => exact ⟨k2 + 1, by omega, by go_num, _, by omega, by omega, rfl⟩
               case measure => simp [intOf]; omega)
        · go_wp2
          all_goals (try (go_ret; exact ⟨isB _, rfl⟩))
          go_loop [7, 10] (fun z i => ∃ k : Nat, k ≤ len ∧ i = .int .i64 k ∧ ∃ x : Int, 0 ≤ x ∧ x ≤ 1048576 ∧ z = .int .i64 x) (fun _ i => len - (intOf i).toNat)
          case atStart => exact ⟨0, Nat.zero_le _, rfl, _, by omega, by omega, rfl⟩
          case round =>
            obtain ⟨k3, hk3, rfl, z, z0, z1, rfl⟩ := hrel
            by_cases hlt3 : k3 < len
            · obtain ⟨b', o', e', hbw, c', g', ob', ns', _, hgs, _, d0, d1, d2, d3⟩ := HA.out.at hlt3
              unfold maxLen at hgs
              go_wp2
              all_goals first
                | (go_ret; exact ⟨isB _, rfl⟩)
                | (go_round
                   case rel => exact ⟨k3 + 1, by omega, by go_num, _, by omega, by omega, rfl⟩
                   case measure => simp [intOf]; omega)
            · go_wp2
              go_ret
              exact ⟨isB _, rfl⟩
end Go.Proofs.Qxb6618727aDoor
