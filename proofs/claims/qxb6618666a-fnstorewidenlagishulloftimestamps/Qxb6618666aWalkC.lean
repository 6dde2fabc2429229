/-
  '(*Store).widen': the loop's walk.
-/
import Derived.Test.Qxb6618666aWalkB
namespace Go.Proofs.Qxb6618666a
open Go.RowKit Go.Maps

theorem take_snoc (zs : List Int) (k : Nat) (h : k < zs.length) : zs.take (k + 1) = zs.take k ++ [zs.getD k 0] := by
  rw [List.take_succ_eq_append_getElem h]; simp [h]

/-- A round at a shard that has a lag. -/
theorem step_old {w w' : World} {N n k : Nat} {g : Int → Option (Nat × Int × Int)} {s0 : Int → Option (Int × Int)} {t : Int} {zs : List Int} (h : St w N n g) (hs : ∀ x, lagOf (g x) = widL s0 t (zs.take k) x) (hk : k < zs.length) (ht : 1 ≤ t)
    {b : Nat} {lo hi : Int} (hg : g (zs.getD k 0) = some (b, lo, hi)) (hw : w.grownBy w' (some b)) (hb : LagB w' b (min lo t) (max hi t)) :
    ∃ g', St w' N (n + 1) g' ∧ (∀ x, lagOf (g' x) = widL s0 t (zs.take (k + 1)) x) ∧ Below N w w' ∧ chgL s0 t (zs.take (k + 1)) = (chg t (some (lo, hi)) || chgL s0 t (zs.take k)) := by
  have h1 := (h.blk _ _ _ _ hg).2.2
  obtain ⟨hst, hbel⟩ := h.turn hg hw hb (by omega)
  have hs' : widL s0 t (zs.take k) (zs.getD k 0) = some (lo, hi) := by rw [← hs, hg]; rfl
  refine ⟨_, ⟨hst.fld, hst.sz, ?_, hst.blk, hst.inj⟩, fun x => ?_, hbel, ?_⟩
  · obtain ⟨D, hm, hown, hat⟩ := hst.own
    exact ⟨D, hm, hown.mono (by omega), hat⟩
  · rw [take_snoc zs k hk, widL_snoc]
    by_cases hx : x = zs.getD k 0
    · rw [if_pos hx, if_pos hx, hs']; rfl
    · rw [if_neg hx, if_neg hx]; exact hs x
  · rw [take_snoc zs k hk, chgL_snoc, hs']

/-- A round at a shard that has none. -/
theorem step_new {w w1 w2 : World} {N n k : Nat} {g : Int → Option (Nat × Int × Int)} {s0 : Int → Option (Int × Int)} {t : Int} {zs : List Int} (h : St w N n g) (hs : ∀ x, lagOf (g x) = widL s0 t (zs.take k) x) (hk : k < zs.length) (ht : 1 ≤ t)
    (hg : g (zs.getD k 0) = none) {D : DataW Unit} (hat : ∀ y : Int, D.atKey (.int .i64 y) .nil = dat (g y)) (hm : IsMap D) {o : Obj} (hown : w1.ownsMap Try.prog 3 ptrElem N (n + 1) (D.put (.int .i64 (zs.getD k 0)) (.lit (.int .u64 w.heap.size))))
    (hw1 : (w.alloc o).grownBy w1 (some N)) (hw2 : w1.grownBy w2 (some w.heap.size)) (hb : LagB w2 w.heap.size t t) :
    ∃ g', St w2 N (n + 1) g' ∧ (∀ x, lagOf (g' x) = widL s0 t (zs.take (k + 1)) x) ∧ Below N w w2 ∧ chgL s0 t (zs.take (k + 1)) = true := by
  obtain ⟨hst, hbel⟩ := h.fresh hg hat hm hown hw1 hw2 hb ht
  have hs' : widL s0 t (zs.take k) (zs.getD k 0) = none := by rw [← hs, hg]; rfl
  refine ⟨_, hst, fun x => ?_, hbel, ?_⟩
  · rw [take_snoc zs k hk, widL_snoc]
    by_cases hx : x = zs.getD k 0
    · rw [if_pos hx, if_pos hx, hs']; rfl
    · rw [if_neg hx, if_neg hx]; exact hs x
  · rw [take_snoc zs k hk, chgL_snoc, hs']; rfl

theorem wf_at {zs : List Int} (h : ∀ n ∈ zs, (Lit.int .i64 n).wf = true) (k : Nat) : (Lit.int .i64 (zs.getD k 0)).wf = true := by
  by_cases hk : k < zs.length
  · have : zs.getD k 0 ∈ zs := by simp [hk]
    exact h _ this
  · have : zs.getD k 0 = 0 := by simp [Nat.not_lt.1 hk]
    rw [this]; decide

theorem new_lag {w w1 : World} {N : Nat} (h : (w.alloc (.cells #[.int .u64 0, .int .u64 0, .bool false, .int .u64 0, .int .u64 0] 101)).grownBy w1 (some N)) (hN : N < w.heap.size) : LagB w1 w.heap.size 0 0 := by
  unfold LagB
  rw [h.block w.heap.size (by simp) (by simp; omega)]
  exact (MapKept.heap_alloc w _).1

set_option maxRecDepth 100000 in
set_option maxHeartbeats 1000000 in
theorem widen_some (N n b off len cap : Nat) (zs : List Int) (t : Int) (w : World) (g : Int → Option (Nat × Int × Int)) (hst : St w N n g) (ht : 1 ≤ t) (hz : zs.length = len) (hlen : len ≤ 4096) (hn : n ≤ 4096) (hb : b < N)
    (hc : ∀ j, j < len → w.cell? ⟨b, off + j, none⟩ = some (.int .i64 (zs.getD j 0))) (hwz : ∀ x ∈ zs, (Lit.int .i64 x).wf = true) :
    Calls Try.prog 20 #[.pointer (some ⟨N + 1, 0, none⟩), .slice (some ⟨b, off, none⟩) len cap, .int .u64 t] w fun e w' => e = .returned (.bool (chgL (fun x => lagOf (g x)) t zs)) ∧
      ∃ g', St w' N (n + len) g' ∧ (∀ x, lagOf (g' x) = widL (fun x => lagOf (g x)) t zs x) ∧ Below N w w' := by
  have HZ : Hid (zs.length = len) := hz
  clear hz
  generalize hs0 : (fun x => lagOf (g x)) = s0
  have Hs0 : Hid ((fun x => lagOf (g x)) = s0) := hs0
  clear hs0
  go_enter Try.func20, Try.ntmps20
  go_wp2
  go_loopw [7, 13] (fun c i wr => ∃ k : Nat, k ≤ len ∧ i = .int .i64 k ∧ ∃ ch : Bool, c = .bool ch ∧ Hid (ch = chgL s0 t (zs.take k)) ∧ Hid (∃ gk, St wr N (n + k) gk ∧ (∀ x, lagOf (gk x) = widL s0 t (zs.take k) x) ∧ Below N w wr)) (fun _ i _ => len - (intOf i).toNat)
  case atStart => exact ⟨0, Nat.zero_le _, rfl, false, rfl, show false = chgL s0 t (zs.take 0) by simp [chgL], show ∃ gk, _ from ⟨g, hst, fun x => by rw [← Hs0.out]; simp [widL], Below.refl _ _⟩⟩
  case round =>
    obtain ⟨k, hk, rfl, ch, rfl, Hch, Hgk⟩ := hrel
    obtain ⟨gk, hstk, hgk0, hbel⟩ := Hgk.out
    have Hgk1 : Hid (∀ x, lagOf (gk x) = widL s0 t (zs.take k) x) := hgk0
    clear hgk0
    by_cases hlt : k < len
    · obtain ⟨x, hx⟩ : ∃ x, x = zs.getD k 0 := ⟨_, rfl⟩
      have hcx : wr.cell? ⟨b, off + k, none⟩ = some (.int .i64 x) := by rw [hx]; exact (hbel.cell (by exact hb)).trans (hc k hlt)
      have hfld := hstk.fld
      have hlook := hstk.look (x := x) (by rw [hx]; exact wf_at hwz k)
      have hkey : keyOf Try.prog 3 (.int .i64 x) = some (.int .i64 x) := keyOf_int_mk Try.underlying3 (by rw [hx]; exact wf_at hwz k)
      have Hx : Hid (x = zs.getD k 0) := hx
      clear hx
      cases hg : gk x with
      | none =>
        rw [hg] at hlook
        simp only [Option.map_none] at hlook
        obtain ⟨D, hm, hown, hat⟩ := hstk.own
        have Hg : Hid (gk x = none) := hg
        have Hat : Hid (∀ y : Int, D.atKey (.int .i64 y) .nil = dat (gk y)) := hat
        clear hg hat
        have hsz : N + 1 < wr.heap.size := by have := hstk.sz; omega
        have hfld2 : (wr.alloc (.cells #[.int .u64 0, .int .u64 0, .bool false, .int .u64 0, .int .u64 0] 101)).cell? ⟨N + 1, 36, none⟩ = some (.map (some N)) := by rw [World.cell?_alloc_past _ _ _ (by simpa using hsz)]; exact hfld
        go_wp2_with (first
          | (at_mapUpdate; refine wpList_mapUpdate_own _ rfl _ _ _ 40 rfl 3 97 law3 Try.underlying40 _ N (n + k) D rfl (hown.alloc _) (by unfold maxLen; omega) _ _ _ rfl rfl hkey _ [] (ptrElem_mk wr.heap.size) ?_; intro w1 hown1 hgrow1; have hl1 : LagB w1 wr.heap.size 0 0 := new_lag hgrow1 (by omega); have hc2 := (lagB_cells hl1).2.2.1; have HL1 : Hid (LagB w1 wr.heap.size 0 0) := hl1; clear hl1)
          | (go_at_call 26; refine (lagw_zero wr.heap.size t _ HL1.out).mono ?_; rintro e w2 ⟨rfl, hl2, hg2⟩))
        go_roundw
        case rel =>
          obtain ⟨g', st', hs', bel', hch'⟩ := step_new hstk Hgk1.out (by have := HZ.out; omega) ht (by rw [← Hx.out]; exact Hg.out) Hat.out hm (by rw [← Hx.out]; exact hown1) hgrow1 hg2 hl2
          exact ⟨k + 1, by omega, by go_num, true, rfl, hch'.symm, show ∃ gk, _ from ⟨g', st', hs', hbel.trans bel'⟩⟩
        case measure => simp [intOf]; omega
      | some q =>
        obtain ⟨bl, lo, hi⟩ := q
        rw [hg] at hlook
        simp only [Option.map_some] at hlook
        obtain ⟨hNb, hl0, h1⟩ := hstk.blk _ _ _ _ hg
        have hc2 := (lagB_cells hl0).2.2.1
        have HL0 : Hid (LagB wr bl lo hi) := hl0
        have Hg : Hid (gk x = some (bl, lo, hi)) := hg
        clear hg hl0
        cases hcg : chg t (some (lo, hi)) with
        | false =>
          go_wp2_with (go_at_call 26; refine (lagw_any bl t lo hi _ HL0.out h1).mono ?_; rintro e w2 ⟨rfl, hl2, hg2⟩)
          go_roundw
          case rel =>
            obtain ⟨g', st', hs', bel', hch'⟩ := step_old hstk Hgk1.out (by have := HZ.out; omega) ht (by rw [← Hx.out]; exact Hg.out) hg2 hl2
            exact ⟨k + 1, by omega, by go_num, ch, rfl, show ch = _ by rw [hch', hcg, Bool.false_or]; exact Hch.out, show ∃ gk, _ from ⟨g', st', hs', hbel.trans bel'⟩⟩
          case measure => simp [intOf]; omega
        | true =>
          go_wp2_with (go_at_call 26; refine (lagw_any bl t lo hi _ HL0.out h1).mono ?_; rintro e w2 ⟨rfl, hl2, hg2⟩)
          go_roundw
          case rel =>
            obtain ⟨g', st', hs', bel', hch'⟩ := step_old hstk Hgk1.out (by have := HZ.out; omega) ht (by rw [← Hx.out]; exact Hg.out) hg2 hl2
            exact ⟨k + 1, by omega, by go_num, true, rfl, show true = _ by rw [hch', hcg, Bool.true_or], show ∃ gk, _ from ⟨g', st', hs', hbel.trans bel'⟩⟩
          case measure => simp [intOf]; omega
    · have hke : k = len := by omega
      subst hke
      have hzt : Hid (zs.take k = zs) := show zs.take k = zs from List.take_of_length_le (by have := HZ.out; omega)
      go_wp2
      go_ret
      rw [hzt.out] at Hch Hgk
      exact ⟨congrArg (fun b => Ending.returned (Value.bool b)) Hch.out, Hgk.out⟩
end Go.Proofs.Qxb6618666a
