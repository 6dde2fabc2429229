/-
  THE WALKS of both zzBytes: each returns a bool and writes nothing.
-/
import Derived.Test.Qxb6618675aSame
namespace Go.Proofs.Qxb6618675a
open Go.RowKit
set_option linter.unusedSimpArgs false
set_option linter.unusedVariables false

/-- It returned a bool. (Behind a name, which the walk does not open.) -/
def IsB (e : Ending) : Prop := ∃ r : Bool, e = .returned (.bool r)
theorem isB (r : Bool) : IsB (.returned (.bool r)) := ⟨r, rfl⟩

set_option maxRecDepth 100000 in
set_option maxHeartbeats 8000000 in
theorem zz_at (ds : List MsgD) (v : Value) (i : Int) (w : World) (h : IsOld w v ds) : Calls Try.prog 6 #[v, .int .i64 i] w fun e w' => IsB e ∧ w = w' := by
  obtain ⟨a, cap, rfl, hds, _, _⟩ := h
  have HB := hidden hds
  clear hds
  obtain ⟨len, hlen⟩ : ∃ len, ds.length = len := ⟨_, rfl⟩
  rw [hlen]
  go_enter Try.func6, Try.ntmps6
  go_wp2
  all_goals (try (go_ret; exact ⟨isB _, rfl⟩))
  go_loop [5, 6] (fun z i => ∃ k : Nat, k ≤ len ∧ i = .int .i64 k ∧ ∃ x : Int, 0 ≤ x ∧ x ≤ 1048576 ∧ z = .int .i64 x) (fun _ i => len - (intOf i).toNat)
  case atStart => exact ⟨0, Nat.zero_le _, rfl, _, by omega, by omega, rfl⟩
  case round =>
    obtain ⟨k, hk, rfl, x, x0, x1, rfl⟩ := hrel
    by_cases hlt : k < len
    · obtain ⟨b, off, rfl, hat⟩ : ∃ b off, a = some ⟨b, off, none⟩ ∧ MsgsAt w (Old w.heap.size) (Old w.heap.size) b off ds := HB.out.resolve_left (fun h => by rw [h] at hlen; simp at hlen; omega)
      obtain ⟨d, hx⟩ : ∃ d, ds[k]? = some d := ⟨_, List.getElem?_eq_getElem (by omega)⟩
      obtain ⟨⟨u0, u1, u2, u3, u4⟩, q0, q1, q2, vc, vr, q3, q4, hm⟩ := hat k d hx
      obtain ⟨p, n, cp, rfl, ln, en, hcs⟩ := IsSl.view hm.1
      obtain ⟨s, m, kp, rfl, lm, em, hrs⟩ := IsSl.view hm.2
      obtain ⟨z0, hz0⟩ : ∃ z : Nat, d.role.size = z := ⟨_, rfl⟩
      obtain ⟨z1, hz1⟩ : ∃ z : Nat, d.text.size = z := ⟨_, rfl⟩
      obtain ⟨z2, hz2⟩ : ∃ z : Nat, d.ref.size = z := ⟨_, rfl⟩
      have HC := hidden hcs
      have HR := hidden hrs
      have HLn := hidden ln
      have HLm := hidden lm
      clear hcs hrs ln lm en em hat hm hx u0 u1 u2 u3 u4
      have hi : (k : Int) < (len : Int) := by omega
      go_wp2
      all_goals (try (go_ret; exact ⟨isB _, rfl⟩))
      go_loop [5, 7] (fun z i => ∃ j : Nat, j ≤ n ∧ i = .int .i64 j ∧ ∃ x : Int, 0 ≤ x ∧ x ≤ 1048576 ∧ z = .int .i64 x) (fun _ i => n - (intOf i).toNat)
      case atStart => exact ⟨0, Nat.zero_le _, rfl, _, by omega, by omega, rfl⟩
      case round =>
        obtain ⟨j, hj, rfl, y, y0, y1, rfl⟩ := hrel
        by_cases hjn : j < n
        · obtain ⟨b2, off2, cs, rfl, ec, hcat⟩ := HC.out (by omega)
          have hcl : cs.length = n := by have := HLn.out; rw [ec] at this; exact this.symm
          obtain ⟨c, hc⟩ : ∃ c, cs[j]? = some c := ⟨_, List.getElem?_eq_getElem (by omega)⟩
          obtain ⟨⟨u0, u1, u2⟩, r0, r1, va, r2, hva⟩ := hcat j c hc
          obtain ⟨pa, na, ca, rfl, lna, _, _⟩ := IsSl.view hva
          obtain ⟨e0, he0⟩ : ∃ z : Nat, c.id.size = z := ⟨_, rfl⟩
          obtain ⟨e1, he1⟩ : ∃ z : Nat, c.name.size = z := ⟨_, rfl⟩
          have hi2 : (j : Int) < (n : Int) := by omega
          clear hva lna ec hcat hc u0 u1 u2 hcl
          go_wp2
          all_goals first
            | (go_ret; exact ⟨isB _, rfl⟩)
            | (go_round
               case rel => exact ⟨j + 1, by omega, by go_num, _, by omega, by omega, rfl⟩
               case measure => simp [intOf]; omega)
        · have hi2 : ¬ (j : Int) < (n : Int) := by omega
          go_wp2
          all_goals (try (go_ret; exact ⟨isB _, rfl⟩))
          go_loop [5, 8] (fun z i => ∃ j : Nat, j ≤ m ∧ i = .int .i64 j ∧ ∃ x : Int, 0 ≤ x ∧ x ≤ 1048576 ∧ z = .int .i64 x) (fun _ i => m - (intOf i).toNat)
          case atStart => exact ⟨0, Nat.zero_le _, rfl, _, by omega, by omega, rfl⟩
          case round =>
            obtain ⟨i', hi', rfl, t, t0, t1, rfl⟩ := hrel
            by_cases him : i' < m
            · obtain ⟨b2, off2, cs, rfl, ec, hcat⟩ := HR.out (by omega)
              have hcl : cs.length = m := by have := HLm.out; rw [ec] at this; exact this.symm
              obtain ⟨c, hc⟩ : ∃ c, cs[i']? = some c := ⟨_, List.getElem?_eq_getElem (by omega)⟩
              obtain ⟨⟨u0, u1, u2, u3⟩, r0, r1, r2, r3⟩ := hcat i' c hc
              obtain ⟨e0, he0⟩ : ∃ z : Nat, c.cid.size = z := ⟨_, rfl⟩
              obtain ⟨e1, he1⟩ : ∃ z : Nat, c.name.size = z := ⟨_, rfl⟩
              obtain ⟨e2, he2⟩ : ∃ z : Nat, c.con.size = z := ⟨_, rfl⟩
              have hi3 : (i' : Int) < (m : Int) := by omega
              clear ec hcat hc u0 u1 u2 u3 r3 hcl
              go_wp2
              all_goals first
                | (go_ret; exact ⟨isB _, rfl⟩)
                | (go_round
                   case rel => exact ⟨i' + 1, by omega, by go_num, _, by omega, by omega, rfl⟩
                   case measure => simp [intOf]; omega)
            · have hi3 : ¬ (i' : Int) < (m : Int) := by omega
              go_wp2
              go_round
              case rel => exact ⟨k + 1, by omega, by go_num, _, by omega, by omega, rfl⟩
              case measure => simp [intOf]; omega
    · have hi : ¬ (k : Int) < (len : Int) := by omega
      go_wp2
      go_ret
      exact ⟨isB _, rfl⟩

set_option maxRecDepth 100000 in
set_option maxHeartbeats 8000000 in
theorem zz_lend (ds : List MsgD) (v : Value) (i j : Int) (w : World) (h : IsOld w v ds) : Calls Try.prog 13 #[v, .int .i64 i, .int .i64 j] w fun e w' => IsB e ∧ w = w' := by
  obtain ⟨a, cap, rfl, hds, _, _⟩ := h
  have HB := hidden hds
  clear hds
  obtain ⟨len, hlen⟩ : ∃ len, ds.length = len := ⟨_, rfl⟩
  rw [hlen]
  go_enter Try.func13, Try.ntmps13
  go_wp2
  all_goals (try (go_ret; exact ⟨isB _, rfl⟩))
  go_loop [7, 8] (fun z i => ∃ k : Nat, k ≤ len ∧ i = .int .i64 k ∧ ∃ x : Int, 0 ≤ x ∧ x ≤ 1048576 ∧ z = .int .i64 x) (fun _ i => len - (intOf i).toNat)
  case atStart => exact ⟨0, Nat.zero_le _, rfl, _, by omega, by omega, rfl⟩
  case round =>
    obtain ⟨k, hk, rfl, x, x0, x1, rfl⟩ := hrel
    by_cases hlt : k < len
    · obtain ⟨b, off, rfl, hat⟩ : ∃ b off, a = some ⟨b, off, none⟩ ∧ MsgsAt w (Old w.heap.size) (Old w.heap.size) b off ds := HB.out.resolve_left (fun h => by rw [h] at hlen; simp at hlen; omega)
      obtain ⟨d, hx⟩ : ∃ d, ds[k]? = some d := ⟨_, List.getElem?_eq_getElem (by omega)⟩
      obtain ⟨⟨u0, u1, u2, u3, u4⟩, q0, q1, q2, vc, vr, q3, q4, hm⟩ := hat k d hx
      obtain ⟨p, n, cp, rfl, ln, en, hcs⟩ := IsSl.view hm.1
      obtain ⟨s, m, kp, rfl, lm, em, hrs⟩ := IsSl.view hm.2
      obtain ⟨z0, hz0⟩ : ∃ z : Nat, d.role.size = z := ⟨_, rfl⟩
      obtain ⟨z1, hz1⟩ : ∃ z : Nat, d.text.size = z := ⟨_, rfl⟩
      obtain ⟨z2, hz2⟩ : ∃ z : Nat, d.ref.size = z := ⟨_, rfl⟩
      have HC := hidden hcs
      have HR := hidden hrs
      have HLn := hidden ln
      have HLm := hidden lm
      clear hcs hrs ln lm en em hat hm hx u0 u1 u2 u3 u4
      have hi : (k : Int) < (len : Int) := by omega
      go_wp2
      all_goals (try (go_ret; exact ⟨isB _, rfl⟩))
      go_loop [7, 9] (fun z i => ∃ j : Nat, j ≤ n ∧ i = .int .i64 j ∧ ∃ x : Int, 0 ≤ x ∧ x ≤ 1048576 ∧ z = .int .i64 x) (fun _ i => n - (intOf i).toNat)
      case atStart => exact ⟨0, Nat.zero_le _, rfl, _, by omega, by omega, rfl⟩
      case round =>
        obtain ⟨j, hj, rfl, y, y0, y1, rfl⟩ := hrel
        by_cases hjn : j < n
        · obtain ⟨b2, off2, cs, rfl, ec, hcat⟩ := HC.out (by omega)
          have hcl : cs.length = n := by have := HLn.out; rw [ec] at this; exact this.symm
          obtain ⟨c, hc⟩ : ∃ c, cs[j]? = some c := ⟨_, List.getElem?_eq_getElem (by omega)⟩
          obtain ⟨⟨u0, u1, u2⟩, r0, r1, va, r2, hva⟩ := hcat j c hc
          obtain ⟨pa, na, ca, rfl, lna, _, _⟩ := IsSl.view hva
          obtain ⟨e0, he0⟩ : ∃ z : Nat, c.id.size = z := ⟨_, rfl⟩
          obtain ⟨e1, he1⟩ : ∃ z : Nat, c.name.size = z := ⟨_, rfl⟩
          have hi2 : (j : Int) < (n : Int) := by omega
          clear hva lna ec hcat hc u0 u1 u2 hcl
          go_wp2
          all_goals first
            | (go_ret; exact ⟨isB _, rfl⟩)
            | (go_round
               case rel => exact ⟨j + 1, by omega, by go_num, _, by omega, by omega, rfl⟩
               case measure => simp [intOf]; omega)
        · have hi2 : ¬ (j : Int) < (n : Int) := by omega
          go_wp2
          all_goals (try (go_ret; exact ⟨isB _, rfl⟩))
          go_loop [7, 10] (fun z i => ∃ j : Nat, j ≤ m ∧ i = .int .i64 j ∧ ∃ x : Int, 0 ≤ x ∧ x ≤ 1048576 ∧ z = .int .i64 x) (fun _ i => m - (intOf i).toNat)
          case atStart => exact ⟨0, Nat.zero_le _, rfl, _, by omega, by omega, rfl⟩
          case round =>
            obtain ⟨i', hi', rfl, t, t0, t1, rfl⟩ := hrel
            by_cases him : i' < m
            · obtain ⟨b2, off2, cs, rfl, ec, hcat⟩ := HR.out (by omega)
              have hcl : cs.length = m := by have := HLm.out; rw [ec] at this; exact this.symm
              obtain ⟨c, hc⟩ : ∃ c, cs[i']? = some c := ⟨_, List.getElem?_eq_getElem (by omega)⟩
              obtain ⟨⟨u0, u1, u2, u3⟩, r0, r1, r2, r3⟩ := hcat i' c hc
              obtain ⟨e0, he0⟩ : ∃ z : Nat, c.cid.size = z := ⟨_, rfl⟩
              obtain ⟨e1, he1⟩ : ∃ z : Nat, c.name.size = z := ⟨_, rfl⟩
              obtain ⟨e2, he2⟩ : ∃ z : Nat, c.con.size = z := ⟨_, rfl⟩
              have hi3 : (i' : Int) < (m : Int) := by omega
              clear ec hcat hc u0 u1 u2 u3 r3 hcl
              go_wp2
              all_goals first
                | (go_ret; exact ⟨isB _, rfl⟩)
                | (go_round
                   case rel => exact ⟨i' + 1, by omega, by go_num, _, by omega, by omega, rfl⟩
                   case measure => simp [intOf]; omega)
            · have hi3 : ¬ (i' : Int) < (m : Int) := by omega
              go_wp2
              go_round
              case rel => exact ⟨k + 1, by omega, by go_num, _, by omega, by omega, rfl⟩
              case measure => simp [intOf]; omega
    · have hi : ¬ (k : Int) < (len : Int) := by omega
      go_wp2
      go_ret
      exact ⟨isB _, rfl⟩
end Go.Proofs.Qxb6618675a
