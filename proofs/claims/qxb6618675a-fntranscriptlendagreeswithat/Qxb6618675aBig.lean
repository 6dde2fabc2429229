/-
  THE WALK of zzb1MsgsTooBig: where it answers false, all is within the bound.
-/
import Derived.Test.Qxb6618675aSizes
namespace Go.Proofs.Qxb6618675a
open Go.RowKit
set_option linter.unusedSimpArgs false
set_option linter.unusedVariables false

theorem add_sum (n k : Int) (h0 : 0 ≤ n) (h1 : 0 ≤ k) : ∃ m : Int, 0 ≤ m ∧ (m ≤ 1048576 → m = n + k) ∧ m ≤ 1048577 ∧ ∀ w : World, Calls Try.prog 17 #[.int .i64 n, .int .i64 k] w fun e w' => e = .returned (.int .i64 m) ∧ w = w' := by
  by_cases g1 : (1048576 : Int) < k
  · refine ⟨1048577, by omega, by omega, by omega, fun w => ?_⟩
    have g2 : ¬ k < 0 := by omega
    go_enter Try.func17, Try.ntmps17
    go_wp2
    go_ret
    exact ⟨rfl, rfl⟩
  · have g2 : ¬ k < 0 := by omega
    by_cases g3 : 1048576 - k < n
    · refine ⟨1048577, by omega, by omega, by omega, fun w => ?_⟩
      go_enter Try.func17, Try.ntmps17
      go_wp2
      go_ret
      exact ⟨rfl, rfl⟩
    · refine ⟨n + k, by omega, by omega, by omega, fun w => ?_⟩
      go_enter Try.func17, Try.ntmps17
      go_wp2
      go_ret
      exact ⟨rfl, rfl⟩
def sumL {α : Type} (f : α → Nat) (l : List α) : Nat := (l.map f).sum
section
variable {α : Type} {f g : α → Nat} {l : List α} {k : Nat} {x : α}
theorem sumL_take (h : l[k]? = some x) : sumL f (l.take (k + 1)) = sumL f (l.take k) + f x := by
  unfold sumL; rw [take_succ h]; simp
theorem sumL_le (f : α → Nat) (l : List α) (k : Nat) : sumL f (l.take k) ≤ sumL f l := by
  unfold sumL; rw [List.map_take]; exact sum_take_le _ _
theorem sumL_one (h : x ∈ l) : f x ≤ sumL f l := by
  obtain ⟨k, hk⟩ := List.mem_iff_getElem?.1 h
  have := sumL_take (f := f) hk
  have := sumL_le f l (k + 1)
  omega
theorem sumL_mono (h : ∀ x, f x ≤ g x) (l : List α) : sumL f l ≤ sumL g l := by
  unfold sumL
  induction l with
  | nil => simp
  | cons x r ih => have := h x; simp; omega
end
def wC (c : CallD) : Nat := c.id.size + c.name.size + lenO c.args
def wR (r : ResD) : Nat := r.cid.size + r.name.size + r.con.size
def wM (d : MsgD) : Nat := d.role.size + d.text.size + d.ref.size + 64 * callsN d + 64 * resN d + sumL wC (d.calls.getD []) + sumL wR (d.res.getD [])
theorem small_of {ds : List MsgD} (h : 96 * ds.length + sumL wM ds ≤ 1048576) : Small ds := by
  have hs : ∀ f : MsgD → Nat, (∀ d, f d ≤ wM d) → sumN f ds ≤ 1048576 := fun f hf => by
    have : sumN f ds ≤ sumL wM ds := sumL_mono hf ds
    omega
  refine ⟨by omega, fun d hd => ?_, hs _ fun d => by unfold wM; omega, hs _ fun d => by unfold wM; omega, hs _ fun d => ?_⟩
  · have h1 : wM d ≤ 1048576 := by have : wM d ≤ sumL wM ds := sumL_one hd; omega
    refine ⟨fun cs e => ?_, fun rs e => ?_⟩
    · have e1 : callsN d = cs.length := by unfold callsN lenO; rw [e]; rfl
      have e2 : sumL wC (d.calls.getD []) = sumL wC cs := by rw [e]; rfl
      unfold wM at h1
      refine ⟨by omega, fun c hc => ?_⟩
      have h2 : wC c ≤ 1048576 := by have : wC c ≤ sumL wC cs := sumL_one hc; omega
      unfold wC at h2
      refine ⟨by omega, by omega, fun bs eb => ?_⟩
      have : lenO c.args = bs.length := by unfold lenO; rw [eb]; rfl
      omega
    · have e1 : resN d = rs.length := by unfold resN lenO; rw [e]; rfl
      have e2 : sumL wR (d.res.getD []) = sumL wR rs := by rw [e]; rfl
      unfold wM at h1
      refine ⟨by omega, fun c hc => ?_⟩
      have h2 : wR c ≤ 1048576 := by have : wR c ≤ sumL wR rs := sumL_one hc; omega
      unfold wR at h2
      exact ⟨by omega, by omega⟩
  · have : argsN d ≤ sumL wC (d.calls.getD []) := sumL_mono (fun c => by unfold wC; omega) _
    unfold wM; omega
/-- Big or not: false only where all is within the bound. -/
def BigPost (ds : List MsgD) (w : World) (E : Ending) (w' : World) : Prop := ∃ b : Bool, E = .returned (.bool b) ∧ (b = false → Small ds) ∧ Below w.heap.size w w'

set_option maxRecDepth 100000 in
set_option maxHeartbeats 8000000 in
theorem too_big (ds : List MsgD) (v : Value) (w : World) (h : IsOld w v ds) : Calls Try.prog 7 #[v] w (BigPost ds w) := by
  obtain ⟨a, cap, rfl, hds, _, _⟩ := h
  have HB := hidden hds
  clear hds
  obtain ⟨len, hlen⟩ : ∃ len, ds.length = len := ⟨_, rfl⟩
  rw [hlen]
  by_cases hbig : (10922 : Int) < (len : Int)
  · go_enter Try.func7, Try.ntmps7
    go_wp2_with fail
    go_ret
    exact ⟨true, rfl, (fun h => by cases h), Below.refl _ _⟩
  · go_enter Try.func7, Try.ntmps7
    go_wp2_with fail
    go_loopw [3, 4] (fun tv iv wr => ∃ k : Nat, k ≤ len ∧ iv = .int .i64 k ∧ ∃ t : Nat, tv = .int .i64 t ∧ t ≤ 1048576 ∧ t = 96 * len + sumL wM (ds.take k) ∧ Below w.heap.size w wr) (fun _ iv _ => len - (intOf iv).toNat)
    case atStart => exact ⟨0, Nat.zero_le _, rfl, 96 * len, by go_num, by omega, by simp [sumL], Below.refl _ _⟩
    case round =>
      obtain ⟨k, hk, rfl, t, rfl, ht, hts, hbel⟩ := hrel
      by_cases hlt : k < len
      · obtain ⟨b, off, rfl, hat⟩ : ∃ b off, a = some ⟨b, off, none⟩ ∧ MsgsAt w (Old w.heap.size) (Old w.heap.size) b off ds := HB.out.resolve_left (fun h => by rw [h] at hlen; simp at hlen; omega)
        obtain ⟨d, hx⟩ : ∃ d, ds[k]? = some d := ⟨_, List.getElem?_eq_getElem (by omega)⟩
        obtain ⟨⟨u0, u1, u2, u3, u4⟩, q0, q1, q2, vc, vr, q3, q4, hm⟩ := hat k d hx
        replace q0 := (hbel.cell (p := ⟨b, _, none⟩) u0).trans q0
        replace q1 := (hbel.cell (p := ⟨b, _, none⟩) u1).trans q1
        replace q2 := (hbel.cell (p := ⟨b, _, none⟩) u2).trans q2
        replace q3 := (hbel.cell (p := ⟨b, _, none⟩) u3).trans q3
        replace q4 := (hbel.cell (p := ⟨b, _, none⟩) u4).trans q4
        obtain ⟨p, n, cp, rfl, ln, en, hcs⟩ := IsSl.view hm.1
        obtain ⟨s, m, kp, rfl, lm, em, hrs⟩ := IsSl.view hm.2
        have e2 := sumL_take (f := wM) hx
        have y2 : callsN d = n := ln.symm
        have y3 : resN d = m := lm.symm
        obtain ⟨m1, a1, b1, c1, f1⟩ := add_sum t d.role.size (by omega) (by omega)
        obtain ⟨m2, a2, b2, c2, f2⟩ := add_sum m1 d.text.size (by omega) (by omega)
        obtain ⟨m3, a3, b3, c3', f3⟩ := add_sum m2 d.ref.size (by omega) (by omega)
        obtain ⟨m4, a4, b4, c4, f4⟩ := add_sum m3 (64 * (n : Int)) (by omega) (by omega)
        obtain ⟨m5', a5, b5, c5, f5⟩ := add_sum m4 (64 * (m : Int)) (by omega) (by omega)
        have G1 := hidden f1
        have G2 := hidden f2
        have G3 := hidden f3
        have G4 := hidden f4
        have G5 := hidden f5
        have HC := hidden hcs
        have HR := hidden hrs
        have HX := hidden hx
        have HW := hidden (show wM d = d.role.size + d.text.size + d.ref.size + 64 * n + 64 * m + sumL wC (d.calls.getD []) + sumL wR (d.res.getD []) by unfold wM; rw [y2, y3])
        have HE := hidden e2
        have HT := hidden hts
        have HLn := hidden ln
        have HLm := hidden lm
        clear hcs hrs ln lm en em hat hm hx u0 u1 u2 u3 u4 f1 f2 f3 f4 f5 y2 y3 e2 hts
        have hi : (k : Int) < (len : Int) := by omega
        by_cases g3 : (1048576 : Int) < m3
        · go_wp2_with (first
            | (refine wpList_store_row rfl 41 (.tmp 5) (.tmp 23) rfl wr.heap.size (m5 d (.slice p n cp) (.slice s m kp)) rfl rfl 41 _ (heap_alloc_new wr _) i41 rfl (one5 d rfl rfl) ?_
               obtain ⟨hX, hBX⟩ := var_row wr z35 (m5 d (.slice p n cp) (.slice s m kp)) 41
               unfold z35 at hX hBX
               generalize World.setRow _ _ _ = w3 at hX hBX ⊢
               have z0 := (cell_of_row _ wr.heap.size 0 _ 41 _ hX).trans (show _ = some (Value.string d.role) from rfl)
               have z1 := (cell_of_row _ wr.heap.size 1 _ 41 _ hX).trans (show _ = some (Value.string d.text) from rfl)
               have z2 := (cell_of_row _ wr.heap.size 2 _ 41 _ hX).trans (show _ = some (Value.string d.ref) from rfl)
               have z3 := (cell_of_row _ wr.heap.size 3 _ 41 _ hX).trans (show _ = some (Value.slice p n cp) from rfl)
               have z4 := (cell_of_row _ wr.heap.size 4 _ 41 _ hX).trans (show _ = some (Value.slice s m kp) from rfl))
            | (go_at_call 17; with_reducible refine (G1.out w3).mono ?_; rintro E w' ⟨rfl, rfl⟩)
            | (go_at_call 17; with_reducible refine (G2.out w3).mono ?_; rintro E w' ⟨rfl, rfl⟩)
            | (go_at_call 17; with_reducible refine (G3.out w3).mono ?_; rintro E w' ⟨rfl, rfl⟩)
            | (go_at_call 17; with_reducible refine (G4.out w3).mono ?_; rintro E w' ⟨rfl, rfl⟩)
            | (go_at_call 17; with_reducible refine (G5.out w3).mono ?_; rintro E w' ⟨rfl, rfl⟩)
            | fail)
          go_ret
          exact ⟨true, rfl, (fun h => by cases h), hbel.trans (hBX.mono hbel.size)⟩
        · by_cases gn : (16384 : Int) < (n : Int)
          · go_wp2_with (first
              | (refine wpList_store_row rfl 41 (.tmp 5) (.tmp 23) rfl wr.heap.size (m5 d (.slice p n cp) (.slice s m kp)) rfl rfl 41 _ (heap_alloc_new wr _) i41 rfl (one5 d rfl rfl) ?_
                 obtain ⟨hX, hBX⟩ := var_row wr z35 (m5 d (.slice p n cp) (.slice s m kp)) 41
                 unfold z35 at hX hBX
                 generalize World.setRow _ _ _ = w3 at hX hBX ⊢
                 have z0 := (cell_of_row _ wr.heap.size 0 _ 41 _ hX).trans (show _ = some (Value.string d.role) from rfl)
                 have z1 := (cell_of_row _ wr.heap.size 1 _ 41 _ hX).trans (show _ = some (Value.string d.text) from rfl)
                 have z2 := (cell_of_row _ wr.heap.size 2 _ 41 _ hX).trans (show _ = some (Value.string d.ref) from rfl)
                 have z3 := (cell_of_row _ wr.heap.size 3 _ 41 _ hX).trans (show _ = some (Value.slice p n cp) from rfl)
                 have z4 := (cell_of_row _ wr.heap.size 4 _ 41 _ hX).trans (show _ = some (Value.slice s m kp) from rfl))
              | (go_at_call 17; with_reducible refine (G1.out w3).mono ?_; rintro E w' ⟨rfl, rfl⟩)
              | (go_at_call 17; with_reducible refine (G2.out w3).mono ?_; rintro E w' ⟨rfl, rfl⟩)
              | (go_at_call 17; with_reducible refine (G3.out w3).mono ?_; rintro E w' ⟨rfl, rfl⟩)
              | (go_at_call 17; with_reducible refine (G4.out w3).mono ?_; rintro E w' ⟨rfl, rfl⟩)
              | (go_at_call 17; with_reducible refine (G5.out w3).mono ?_; rintro E w' ⟨rfl, rfl⟩)
              | fail)
            go_ret
            exact ⟨true, rfl, (fun h => by cases h), hbel.trans (hBX.mono hbel.size)⟩
          · by_cases gm : (16384 : Int) < (m : Int)
            · go_wp2_with (first
                | (refine wpList_store_row rfl 41 (.tmp 5) (.tmp 23) rfl wr.heap.size (m5 d (.slice p n cp) (.slice s m kp)) rfl rfl 41 _ (heap_alloc_new wr _) i41 rfl (one5 d rfl rfl) ?_
                   obtain ⟨hX, hBX⟩ := var_row wr z35 (m5 d (.slice p n cp) (.slice s m kp)) 41
                   unfold z35 at hX hBX
                   generalize World.setRow _ _ _ = w3 at hX hBX ⊢
                   have z0 := (cell_of_row _ wr.heap.size 0 _ 41 _ hX).trans (show _ = some (Value.string d.role) from rfl)
                   have z1 := (cell_of_row _ wr.heap.size 1 _ 41 _ hX).trans (show _ = some (Value.string d.text) from rfl)
                   have z2 := (cell_of_row _ wr.heap.size 2 _ 41 _ hX).trans (show _ = some (Value.string d.ref) from rfl)
                   have z3 := (cell_of_row _ wr.heap.size 3 _ 41 _ hX).trans (show _ = some (Value.slice p n cp) from rfl)
                   have z4 := (cell_of_row _ wr.heap.size 4 _ 41 _ hX).trans (show _ = some (Value.slice s m kp) from rfl))
                | (go_at_call 17; with_reducible refine (G1.out w3).mono ?_; rintro E w' ⟨rfl, rfl⟩)
                | (go_at_call 17; with_reducible refine (G2.out w3).mono ?_; rintro E w' ⟨rfl, rfl⟩)
                | (go_at_call 17; with_reducible refine (G3.out w3).mono ?_; rintro E w' ⟨rfl, rfl⟩)
                | (go_at_call 17; with_reducible refine (G4.out w3).mono ?_; rintro E w' ⟨rfl, rfl⟩)
                | (go_at_call 17; with_reducible refine (G5.out w3).mono ?_; rintro E w' ⟨rfl, rfl⟩)
                | fail)
              go_ret
              exact ⟨true, rfl, (fun h => by cases h), hbel.trans (hBX.mono hbel.size)⟩
            · by_cases g5 : (1048576 : Int) < m5'
              · go_wp2_with (first
                  | (refine wpList_store_row rfl 41 (.tmp 5) (.tmp 23) rfl wr.heap.size (m5 d (.slice p n cp) (.slice s m kp)) rfl rfl 41 _ (heap_alloc_new wr _) i41 rfl (one5 d rfl rfl) ?_
                     obtain ⟨hX, hBX⟩ := var_row wr z35 (m5 d (.slice p n cp) (.slice s m kp)) 41
                     unfold z35 at hX hBX
                     generalize World.setRow _ _ _ = w3 at hX hBX ⊢
                     have z0 := (cell_of_row _ wr.heap.size 0 _ 41 _ hX).trans (show _ = some (Value.string d.role) from rfl)
                     have z1 := (cell_of_row _ wr.heap.size 1 _ 41 _ hX).trans (show _ = some (Value.string d.text) from rfl)
                     have z2 := (cell_of_row _ wr.heap.size 2 _ 41 _ hX).trans (show _ = some (Value.string d.ref) from rfl)
                     have z3 := (cell_of_row _ wr.heap.size 3 _ 41 _ hX).trans (show _ = some (Value.slice p n cp) from rfl)
                     have z4 := (cell_of_row _ wr.heap.size 4 _ 41 _ hX).trans (show _ = some (Value.slice s m kp) from rfl))
                  | (go_at_call 17; with_reducible refine (G1.out w3).mono ?_; rintro E w' ⟨rfl, rfl⟩)
                  | (go_at_call 17; with_reducible refine (G2.out w3).mono ?_; rintro E w' ⟨rfl, rfl⟩)
                  | (go_at_call 17; with_reducible refine (G3.out w3).mono ?_; rintro E w' ⟨rfl, rfl⟩)
                  | (go_at_call 17; with_reducible refine (G4.out w3).mono ?_; rintro E w' ⟨rfl, rfl⟩)
                  | (go_at_call 17; with_reducible refine (G5.out w3).mono ?_; rintro E w' ⟨rfl, rfl⟩)
                  | fail)
                go_ret
                exact ⟨true, rfl, (fun h => by cases h), hbel.trans (hBX.mono hbel.size)⟩
              · go_wp2_with (first
                  | (refine wpList_store_row rfl 41 (.tmp 5) (.tmp 23) rfl wr.heap.size (m5 d (.slice p n cp) (.slice s m kp)) rfl rfl 41 _ (heap_alloc_new wr _) i41 rfl (one5 d rfl rfl) ?_
                     obtain ⟨hX, hBX⟩ := var_row wr z35 (m5 d (.slice p n cp) (.slice s m kp)) 41
                     unfold z35 at hX hBX
                     generalize World.setRow _ _ _ = w3 at hX hBX ⊢
                     have z0 := (cell_of_row _ wr.heap.size 0 _ 41 _ hX).trans (show _ = some (Value.string d.role) from rfl)
                     have z1 := (cell_of_row _ wr.heap.size 1 _ 41 _ hX).trans (show _ = some (Value.string d.text) from rfl)
                     have z2 := (cell_of_row _ wr.heap.size 2 _ 41 _ hX).trans (show _ = some (Value.string d.ref) from rfl)
                     have z3 := (cell_of_row _ wr.heap.size 3 _ 41 _ hX).trans (show _ = some (Value.slice p n cp) from rfl)
                     have z4 := (cell_of_row _ wr.heap.size 4 _ 41 _ hX).trans (show _ = some (Value.slice s m kp) from rfl))
                  | (go_at_call 17; with_reducible refine (G1.out w3).mono ?_; rintro E w' ⟨rfl, rfl⟩)
                  | (go_at_call 17; with_reducible refine (G2.out w3).mono ?_; rintro E w' ⟨rfl, rfl⟩)
                  | (go_at_call 17; with_reducible refine (G3.out w3).mono ?_; rintro E w' ⟨rfl, rfl⟩)
                  | (go_at_call 17; with_reducible refine (G4.out w3).mono ?_; rintro E w' ⟨rfl, rfl⟩)
                  | (go_at_call 17; with_reducible refine (G5.out w3).mono ?_; rintro E w' ⟨rfl, rfl⟩)
                  | fail)
                have hB3 := hbel.trans (hBX.mono hbel.size)
                have hm5 : ∃ t5 : Nat, m5' = t5 ∧ t5 ≤ 1048576 ∧ t5 = t + d.role.size + d.text.size + d.ref.size + 64 * n + 64 * m := ⟨m5'.toNat, by omega, by omega, by omega⟩
                obtain ⟨t5, rfl, ht5, e5⟩ := hm5
                have HE5 := hidden e5
                clear e5
                clear a1 b1 c1 a2 b2 c2 a3 b3 c3' a4 b4 c4 a5 b5 c5 G1 G2 G3 G4 G5 q0 q1 q2 q3 q4 z0 z1 z2 g3 g5
                generalize wr.heap.size = X at hX z3 z4 ⊢
                clear hBX hbel
                go_loopw [3, 6] (fun tv jv wq => ∃ j : Nat, j ≤ n ∧ jv = .int .i64 j ∧ wq = w3 ∧ ∃ t' : Nat, tv = .int .i64 t' ∧ t' ≤ 1048576 ∧ t' = t5 + sumL wC ((d.calls.getD []).take j)) (fun _ jv _ => n - (intOf jv).toNat)
                case atStart => exact ⟨0, Nat.zero_le _, rfl, rfl, t5, rfl, ht5, by simp [sumL]⟩
                case round =>
                  obtain ⟨j, hj, rfl, rfl, t', rfl, ht', hts'⟩ := hrel
                  by_cases hjn : j < n
                  · obtain ⟨b2, off2, cs, rfl, ec, hcat⟩ := HC.out (by omega)
                    have hcl : cs.length = n := by have := HLn.out; rw [ec] at this; exact this.symm
                    obtain ⟨c, hc⟩ : ∃ c, cs[j]? = some c := ⟨_, List.getElem?_eq_getElem (by omega)⟩
                    obtain ⟨⟨u0, u1, u2⟩, q0, q1, va, q2, hva⟩ := hcat j c hc
                    replace q0 := (hB3.cell (p := ⟨b2, _, none⟩) u0).trans q0
                    replace q1 := (hB3.cell (p := ⟨b2, _, none⟩) u1).trans q1
                    replace q2 := (hB3.cell (p := ⟨b2, _, none⟩) u2).trans q2
                    obtain ⟨pa, na, ca, rfl, lna, _, _⟩ := IsSl.view hva
                    have e1 : sumL wC ((d.calls.getD []).take (j + 1)) = sumL wC ((d.calls.getD []).take j) + (c.id.size + c.name.size + na) := by rw [ec, lna]; exact sumL_take hc
                    obtain ⟨m1, a1, b1, c1, f1⟩ := add_sum t' c.id.size (by omega) (by omega)
                    obtain ⟨m2, a2, b2', c2, f2⟩ := add_sum m1 c.name.size (by omega) (by omega)
                    obtain ⟨m3, a3, b3, c3', f3⟩ := add_sum m2 na (by omega) (by omega)
                    have G1 := hidden f1
                    have G2 := hidden f2
                    have G3 := hidden f3
                    have HE1 := hidden e1
                    have HT' := hidden hts'
                    clear hva lna ec hcat hc e1 u0 u1 u2 hcl f1 f2 f3 hts'
                    have hi2 : (j : Int) < (n : Int) := by omega
                    by_cases g3 : (1048576 : Int) < m3
                    · go_wp2_with (first
                        | (go_at_call 17; with_reducible refine (G1.out _).mono ?_; rintro E w' ⟨rfl, rfl⟩)
                        | (go_at_call 17; with_reducible refine (G2.out _).mono ?_; rintro E w' ⟨rfl, rfl⟩)
                        | (go_at_call 17; with_reducible refine (G3.out _).mono ?_; rintro E w' ⟨rfl, rfl⟩)
                        | fail)
                      go_ret
                      exact ⟨true, rfl, (fun h => by cases h), hB3⟩
                    · go_wp2_with (first
                        | (go_at_call 17; with_reducible refine (G1.out _).mono ?_; rintro E w' ⟨rfl, rfl⟩)
                        | (go_at_call 17; with_reducible refine (G2.out _).mono ?_; rintro E w' ⟨rfl, rfl⟩)
                        | (go_at_call 17; with_reducible refine (G3.out _).mono ?_; rintro E w' ⟨rfl, rfl⟩)
                        | fail)
                      go_roundw
                      case rel => exact ⟨j + 1, by omega, by go_num, trivial, m3.toNat, by congr 1; omega, by omega, by rw [HE1.out]; have := HT'.out; omega⟩
                      case measure => simp [intOf]; omega
                  · have hi2 : ¬ (j : Int) < (n : Int) := by omega
                    have hfull : sumL wC ((d.calls.getD []).take j) = sumL wC (d.calls.getD []) := by rw [List.take_of_length_le]; have := HLn.out; omega
                    rw [hfull] at hts'
                    have HT' := hidden hts'
                    clear hts'
                    go_wp2_with fail
                    go_loopw [3, 7] (fun tv jv wq => ∃ j : Nat, j ≤ m ∧ jv = .int .i64 j ∧ wq = wr ∧ ∃ t2 : Nat, tv = .int .i64 t2 ∧ t2 ≤ 1048576 ∧ t2 = t' + sumL wR ((d.res.getD []).take j)) (fun _ jv _ => m - (intOf jv).toNat)
                    case atStart => exact ⟨0, Nat.zero_le _, rfl, rfl, t', rfl, ht', by simp [sumL]⟩
                    case round =>
                      clear hi2 hjn hj
                      obtain ⟨i, hi', rfl, rfl, t2, rfl, ht2, hts2⟩ := hrel
                      by_cases him : i < m
                      · obtain ⟨b2, off2, cs, rfl, ec, hcat⟩ := HR.out (by omega)
                        have hcl : cs.length = m := by have := HLm.out; rw [ec] at this; exact this.symm
                        obtain ⟨c, hc⟩ : ∃ c, cs[i]? = some c := ⟨_, List.getElem?_eq_getElem (by omega)⟩
                        obtain ⟨⟨u0, u1, u2, u3⟩, q0, q1, q2, q3⟩ := hcat i c hc
                        replace q0 := (hB3.cell (p := ⟨b2, _, none⟩) u0).trans q0
                        replace q1 := (hB3.cell (p := ⟨b2, _, none⟩) u1).trans q1
                        replace q2 := (hB3.cell (p := ⟨b2, _, none⟩) u2).trans q2
                        have e1 : sumL wR ((d.res.getD []).take (i + 1)) = sumL wR ((d.res.getD []).take i) + (c.cid.size + c.name.size + c.con.size) := by rw [ec]; exact sumL_take hc
                        obtain ⟨m1, a1, b1, c1, f1⟩ := add_sum t2 c.cid.size (by omega) (by omega)
                        obtain ⟨m2, a2, b2', c2, f2⟩ := add_sum m1 c.name.size (by omega) (by omega)
                        obtain ⟨m3, a3, b3, c3', f3⟩ := add_sum m2 c.con.size (by omega) (by omega)
                        have G1 := hidden f1
                        have G2 := hidden f2
                        have G3 := hidden f3
                        have HE1 := hidden e1
                        have HT2 := hidden hts2
                        clear ec hcat hc e1 u0 u1 u2 u3 q3 hcl f1 f2 f3 hts2
                        have hi2 : (i : Int) < (m : Int) := by omega
                        by_cases g3 : (1048576 : Int) < m3
                        · go_wp2_with (first
                            | (go_at_call 17; with_reducible refine (G1.out _).mono ?_; rintro E w' ⟨rfl, rfl⟩)
                            | (go_at_call 17; with_reducible refine (G2.out _).mono ?_; rintro E w' ⟨rfl, rfl⟩)
                            | (go_at_call 17; with_reducible refine (G3.out _).mono ?_; rintro E w' ⟨rfl, rfl⟩)
                            | fail)
                          go_ret
                          exact ⟨true, rfl, (fun h => by cases h), hB3⟩
                        · go_wp2_with (first
                            | (go_at_call 17; with_reducible refine (G1.out _).mono ?_; rintro E w' ⟨rfl, rfl⟩)
                            | (go_at_call 17; with_reducible refine (G2.out _).mono ?_; rintro E w' ⟨rfl, rfl⟩)
                            | (go_at_call 17; with_reducible refine (G3.out _).mono ?_; rintro E w' ⟨rfl, rfl⟩)
                            | fail)
                          go_roundw
                          case rel => exact ⟨i + 1, by omega, by go_num, trivial, m3.toNat, by congr 1; omega, by omega, by rw [HE1.out]; have := HT2.out; omega⟩
                          case measure => simp [intOf]; omega
                      · have hi2 : ¬ (i : Int) < (m : Int) := by omega
                        have hfull2 : sumL wR ((d.res.getD []).take i) = sumL wR (d.res.getD []) := by rw [List.take_of_length_le]; have := HLm.out; omega
                        rw [hfull2] at hts2
                        have HT2 := hidden hts2
                        clear hts2
                        go_wp2_with fail
                        go_roundw
                        case rel => exact ⟨k + 1, by omega, by go_num, t2, rfl, ht2, by rw [HE.out, HW.out]; have := HT.out; have := HT'.out; have := HT2.out; have := HE5.out; omega, hB3⟩
                        case measure => simp [intOf]; omega
      · have hi : ¬ (k : Int) < (len : Int) := by omega
        obtain rfl : k = len := by omega
        rw [take_all hlen.symm] at hts
        go_wp2_with fail
        go_ret
        exact ⟨false, rfl, fun _ => small_of (by omega), hbel⟩
end Go.Proofs.Qxb6618675a
