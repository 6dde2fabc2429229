/-
  THE WALK of fb1Exits.
-/
import Derived.Test.Qxb6618727aDoorInst
import Derived.OwnWalk
namespace Go.Proofs.Qxb6618727aDoor
open Go.RowKit
set_option linter.unusedSimpArgs false


/-- The law's slice of exits, that came in (below block N), or one of no length. -/
def IsFEs (w : World) (N : Nat) (a : Option Addr) (len : Nat) : Prop :=
  len ≤ 1048576 ∧ (len = 0 ∨ ∃ b off, a = some ⟨b, off, none⟩ ∧ b < N ∧ ∀ j, j < len → ∃ (c : Int) (g : ByteArray) (o : Bool) (ns : Int), I64 c ∧ g.size ≤ 1048576 ∧ I64 ns ∧
    w.cell? ⟨b, off + j * 4, none⟩ = some (.int .i64 c) ∧ w.cell? ⟨b, off + j * 4 + 1, none⟩ = some (.string g) ∧ w.cell? ⟨b, off + j * 4 + 2, none⟩ = some (.bool o) ∧ w.cell? ⟨b, off + j * 4 + 3, none⟩ = some (.int .i64 ns))
theorem IsFEs.below {w w' : World} {N : Nat} {a : Option Addr} {len : Nat} (h : IsFEs w N a len) (hb : Below N w w') : IsFEs w' N a len := by
  obtain ⟨h1, h2⟩ := h
  refine ⟨h1, h2.elim .inl ?_⟩
  rintro ⟨b, off, e, hN, hc⟩
  refine .inr ⟨b, off, e, hN, fun j hj => ?_⟩
  obtain ⟨c, g, o, ns, g1, g2, g3, c0, c1, c2, c3⟩ := hc j hj
  exact ⟨c, g, o, ns, g1, g2, g3, (hb.cell (p := ⟨b, _, none⟩) hN).trans c0, (hb.cell (p := ⟨b, _, none⟩) hN).trans c1, (hb.cell (p := ⟨b, _, none⟩) hN).trans c2, (hb.cell (p := ⟨b, _, none⟩) hN).trans c3⟩
theorem IsFEs.at {w : World} {N : Nat} {a : Option Addr} {len : Nat} (h : IsFEs w N a len) {j : Nat} (hj : j < len) : ∃ b off, a = some ⟨b, off, none⟩ ∧ b < N ∧ ∃ (c : Int) (g : ByteArray) (o : Bool) (ns : Int), I64 c ∧ g.size ≤ 1048576 ∧ I64 ns ∧
    w.cell? ⟨b, off + j * 4, none⟩ = some (.int .i64 c) ∧ w.cell? ⟨b, off + j * 4 + 1, none⟩ = some (.string g) ∧ w.cell? ⟨b, off + j * 4 + 2, none⟩ = some (.bool o) ∧ w.cell? ⟨b, off + j * 4 + 3, none⟩ = some (.int .i64 ns) := by
  obtain ⟨_, h⟩ := h
  rcases h with rfl | ⟨b, off, rfl, hN, hc⟩
  · omega
  · exact ⟨b, off, rfl, hN, hc j hj⟩

/-- The first k exits of a row of six cells each. -/
def GoodEs (D : Array Value) (k : Nat) : Prop := ∀ j, j < k → ∃ (c : Int) (g : ByteArray) (o : Bool) (ns : Int), I64 c ∧ g.size ≤ 1048576 ∧ I64 ns ∧
    D[j * 6]? = some (.int .i64 c) ∧ D[j * 6 + 1]? = some (.string g) ∧ D[j * 6 + 2]? = some (.bool o) ∧ D[j * 6 + 3]? = some (.int .u64 (tN ns)) ∧ D[j * 6 + 4]? = some (.int .i64 (tS ns)) ∧ D[j * 6 + 5]? = some (.pointer none)
/-- The fleet's slice of exits, as fb1Exits leaves it. -/
def IsEs (w : World) (N : Nat) (a : Option Addr) (len : Nat) : Prop :=
  len ≤ 1048576 ∧ (len = 0 ∨ ∃ b D, a = some ⟨b, 0, none⟩ ∧ b < N ∧ w.heap[b]? = some (.cells D 44 (0, 0)) ∧ GoodEs D len)
theorem IsEs.below {w w' : World} {N : Nat} {a : Option Addr} {len : Nat} (h : IsEs w N a len) (hb : Below N w w') : IsEs w' N a len := by
  obtain ⟨h1, h2⟩ := h
  refine ⟨h1, h2.elim .inl ?_⟩
  rintro ⟨b, D, e, hN, hc, hg⟩
  exact .inr ⟨b, D, e, hN, (hb.block b hN).trans hc, hg⟩

def put6 (D : Array Value) (i : Nat) (v0 v1 v2 v3 v4 v5 : Value) : Array Value :=
  (((((D.setIfInBounds i v0).setIfInBounds (i + 1) v1).setIfInBounds (i + 2) v2).setIfInBounds (i + 3) v3).setIfInBounds (i + 4) v4).setIfInBounds (i + 5) v5
theorem put6_size (D : Array Value) (i : Nat) (v0 v1 v2 v3 v4 v5 : Value) : (put6 D i v0 v1 v2 v3 v4 v5).size = D.size := by simp [put6]
theorem GoodEs.put {D : Array Value} {k n : Nat} (h : GoodEs D k) (hk : k < n) (hD : D.size = n * 6) (c : Int) (g : ByteArray) (o : Bool) (ns : Int) (g1 : I64 c) (g2 : g.size ≤ 1048576) (g3 : I64 ns) :
    GoodEs (put6 D (k * 6) (.int .i64 c) (.string g) (.bool o) (.int .u64 (tN ns)) (.int .i64 (tS ns)) (.pointer none)) (k + 1) := by
  intro j hj
  by_cases hjk : j = k
  · subst hjk
    refine ⟨c, g, o, ns, g1, g2, g3, ?_, ?_, ?_, ?_, ?_, ?_⟩ <;> (unfold put6; simp only [Array.getElem?_setIfInBounds, Array.size_setIfInBounds]; simp <;> omega)
  · obtain ⟨c', g', o', ns', q1, q2, q3, c0, c1, c2, c3, c4, c5⟩ := h j (by omega)
    have hne : ∀ a b, b < 6 → a < 6 → ¬ (k * 6 + a = j * 6 + b) := fun a b _ _ => by omega
    refine ⟨c', g', o', ns', q1, q2, q3, ?_, ?_, ?_, ?_, ?_, ?_⟩
    · rw [← c0]; unfold put6; simp only [Array.getElem?_setIfInBounds]; repeat rw [if_neg (by omega)]
    · rw [← c1]; unfold put6; simp only [Array.getElem?_setIfInBounds]; repeat rw [if_neg (by omega)]
    · rw [← c2]; unfold put6; simp only [Array.getElem?_setIfInBounds]; repeat rw [if_neg (by omega)]
    · rw [← c3]; unfold put6; simp only [Array.getElem?_setIfInBounds]; repeat rw [if_neg (by omega)]
    · rw [← c4]; unfold put6; simp only [Array.getElem?_setIfInBounds]; repeat rw [if_neg (by omega)]
    · rw [← c5]; unfold put6; simp only [Array.getElem?_setIfInBounds]; repeat rw [if_neg (by omega)]

theorem made44 {wm : World} {B g n : Nat} {xs : List Value} (h : wm.ownsRow B 44 6 (.slice (some ⟨g, 0, none⟩) n n) n xs) : ∃ cur : Array Value, wm.heap[g]? = some (.cells cur 44 (0, 0)) ∧ cur.size = n * 6 := by
  obtain ⟨_, h⟩ := h
  rcases h with ⟨h, _⟩ | ⟨g', cap, cur, hv, _, hh, r⟩
  · cases h
  · simp at hv
    obtain ⟨rfl, rfl⟩ := hv
    exact ⟨cur, hh, by omega⟩

/-- The loop's state: the new row at block B, its first k exits laid. -/
def EsAt (w : World) (B n k : Nat) (wr : World) : Prop := ∃ D, wr.heap[B]? = some (.cells D 44 (0, 0)) ∧ D.size = n * 6 ∧ GoodEs D k ∧ Below w.heap.size w wr ∧ w.heap.size ≤ B
def EsPost (w : World) (len : Nat) (e : Ending) (w' : World) : Prop := ∃ a' c', e = .returned (.slice a' len c') ∧ IsEs w' w'.heap.size a' len ∧ Below w.heap.size w w'

theorem six_row {w : World} {B i : Nat} {D : Array Value} (v0 v1 v2 v3 v4 v5 : Value) (h : w.heap[B]? = some (.cells D 44 (0, 0))) :
    (w.setCells B i [v0, v1, v2, v3, v4, v5]).heap[B]? = some (.cells (put6 D i v0 v1 v2 v3 v4 v5) 44 (0, 0)) := by
  simp only [World.setCells]
  exact heap_setCell_same _ _ _ _ _ _ (heap_setCell_same _ _ _ _ _ _ (heap_setCell_same _ _ _ _ _ _ (heap_setCell_same _ _ _ _ _ _ (heap_setCell_same _ _ _ _ _ _ (heap_setCell_same _ _ _ _ _ _ h)))))
theorem six_there {w : World} {B i n : Nat} {D : Array Value} (h : w.heap[B]? = some (.cells D 44 (0, 0))) (hn : i + n ≤ D.size) : w.there B i n := fun j hj => by
  refine ⟨?_, frozen_of_row w B _ D 44 h⟩
  rw [cell_of_row w B _ D 44 (0, 0) h]
  simp; omega

theorem six_below {w0 w : World} {B N : Nat} (hN : N ≤ B) (h : Below N w0 w) : ∀ (i : Nat) (vs : List Value), Below N w0 (w.setCells B i vs) := fun i vs => by
  induction vs generalizing i w with
  | nil => exact h
  | cons v r ih => exact ih (h.setCell (p := ⟨B, i, none⟩) hN v) (i + 1)
theorem one6 (c : Int) (g : ByteArray) (o : Bool) (x y : Int) : (#[.int .i64 c, .string g, .bool o, .int .u64 x, .int .i64 y, .pointer none] : Array Value).all (·.oneCell') = true := by kernel_rfl
theorem six_le {D : Array Value} {n k : Nat} (h : D.size = n * 6) (hk : k < n) : k * 6 + 6 ≤ D.size := by omega
theorem i44 : (Tryd.prog.info? 44).map (·.size) = some 6 := by kernel_rfl

set_option maxRecDepth 100000 in
set_option maxHeartbeats 1000000 in
theorem exits_any (len cap : Nat) (a : Option Addr) (w : World) (ha : IsFEs w w.heap.size a len) : Calls Tryd.prog 12 #[.slice a len cap] w (EsPost w len) := by
  have hl := ha.1
  have HA := hidden ha
  have hnn := fun (w : World) (a : Option Addr) (n c n' c' : Nat) => Lib.run_eql_slice_nil (P := Tryd.prog) w 28 25 a n c n' c' Tryd.underlying28
  obtain ⟨i0, hi, hz0, hz1, hz2⟩ : ∃ i, Tryd.prog.info? 44 = some i ∧ i.zero = some (.agg #[.int .i64 0, .string ⟨#[]⟩, .bool false, .int .u64 0, .int .i64 0, .pointer none]) ∧ i.size = 6 ∧ i.bytes = 56 := by as_aux_lemma => exact ⟨_, rfl, rfl, rfl, rfl⟩
  cases a with
  | none =>
    have hlen : len = 0 := by
      rcases ha.2 with h | ⟨b, off, h, _⟩
      · exact h
      · cases h
    subst hlen
    clear ha HA
    go_enter Tryd.func12, Tryd.ntmps12
    go_wp2_with fail
    go_ret
    exact ⟨none, 0, rfl, ⟨by omega, .inl rfl⟩, Below.refl _ _⟩
  | some x =>
    clear ha
    go_enter Tryd.func12, Tryd.ntmps12
    go_wp2_with (first
        | (at_make; refine wpList_make_full _ rfl (.tmp 8) (.tmp 8) 53 rfl w.heap.size 44 i0 _ 6 Tryd.underlying53 hi hz0 hz1 .i64 .i64 _ _ len rfl rfl rfl rfl (by rw [hz2]; omega) (by unfold maxLen; omega) (Nat.le_refl _) ?_; intro wm hown hgr; obtain ⟨cur, hcur, hcs⟩ := made44 hown)
        | fail)
    have hE : EsAt w w.heap.size len 0 wm := ⟨cur, hcur, hcs, (fun j hj => by omega), Below.grown (Below.refl _ _) hgr (Nat.le_refl _) (fun k h => by cases h), Nat.le_refl _⟩
    clear hown hcur hcs hgr
    go_loopw [4] (fun v wr => ∃ k : Nat, k ≤ len ∧ v = .int .i64 k ∧ EsAt w w.heap.size len k wr) (fun v _ => len - (intOf v).toNat)
    case atStart => exact ⟨0, Nat.zero_le _, rfl, hE⟩
    case round =>
      obtain ⟨k, hk, rfl, D, hD, hsz, hgood, hbel, _⟩ := hrel
      by_cases hlt : k < len
      · obtain ⟨b', o', e', hbw, c, g, o, ns, g1, g2, g3, c0, c1, c2, c3⟩ := (HA.out.below hbel).at hlt
        have hi : (k : Int) < (len : Int) := by omega
        cases e'
        go_wp2_with (first
          | (go_at_call 19; refine (exit_below c g o ns _ g3).mono ?_; rintro e w' ⟨rfl, hB⟩)
          | (refine wpList_store_mid rfl 44 (.tmp 23) (.tmp 22) rfl w.heap.size (k * 6) #[.int .i64 c, .string g, .bool o, .int .u64 (tN ns), .int .i64 (tS ns), .pointer none] rfl rfl (six_there ((hB.block _ (lt_of_block hD)).trans hD) (six_le hsz hlt)) i44 (one6 c g o _ _) ?_
             have hrow := six_row (i := k * 6) (.int .i64 c) (.string g) (.bool o) (.int .u64 (tN ns)) (.int .i64 (tS ns)) (.pointer none) ((hB.block _ (lt_of_block hD)).trans hD)
             have hb2 := six_below (Nat.le_refl w.heap.size) (hbel.trans (hB.mono hbel.size)) (k * 6) [.int .i64 c, .string g, .bool o, .int .u64 (tN ns), .int .i64 (tS ns), .pointer none]
             generalize World.setCells _ _ _ _ = ws at hrow hb2 ⊢)
          | fail)
        go_roundw
        case rel => exact ⟨k + 1, by omega, by go_num, _, hrow, (put6_size ..).trans hsz, hgood.put hlt hsz c g o ns g1 g2 g3, hb2, Nat.le_refl _⟩
        case measure => simp [intOf]; omega
      · go_wp2_with fail
        go_ret
        exact ⟨_, _, rfl, ⟨hl, .inr ⟨_, D, rfl, lt_of_block hD, hD, by rwa [show k = len by omega] at hgood⟩⟩, hbel⟩
end Go.Proofs.Qxb6618727aDoor
