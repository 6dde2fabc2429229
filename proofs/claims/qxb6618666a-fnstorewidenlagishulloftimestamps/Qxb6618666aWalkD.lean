/-
  The law's own helpers: ZZwiden, zzHasInt, zzHull, ZZlagOf, zzLagAfterTwo.
-/
import Derived.Test.Qxb6618666aWalkC
namespace Go.Proofs.Qxb6618666a
open Go.RowKit Go.Maps

/-- A slice of numbers that lies below block N (or is nil). -/
def IsArr (w : World) (N : Nat) (a : Option Addr) (len : Nat) (zs : List Int) : Prop :=
  zs.length = len ∧ (∀ x ∈ zs, (Lit.int .i64 x).wf = true) ∧ ((a = none ∧ len = 0) ∨ ∃ b off, a = some ⟨b, off, none⟩ ∧ b < N ∧ ∀ j, j < len → w.cell? ⟨b, off + j, none⟩ = some (.int .i64 (zs.getD j 0)))

theorem IsArr.below {w w' : World} {N : Nat} {a : Option Addr} {len : Nat} {zs : List Int} (h : IsArr w N a len zs) (hb : Below N w w') : IsArr w' N a len zs := by
  obtain ⟨h1, h2, h3⟩ := h
  refine ⟨h1, h2, ?_⟩
  rcases h3 with h3 | ⟨b, off, rfl, hN, hc⟩
  · exact .inl h3
  · exact .inr ⟨b, off, rfl, hN, fun j hj => (hb.cell (p := ⟨b, off + j, none⟩) hN).trans (hc j hj)⟩

theorem widen_nil (N : Nat) (t : Int) (w : World) : Calls Try.prog 20 #[.pointer (some ⟨N + 1, 0, none⟩), .slice none 0 0, .int .u64 t] w fun e w' => e = .returned (.bool false) ∧ w = w' := by
  go_enter Try.func20, Try.ntmps20
  go_wp2
  refine wp_loop_rounds 1 ?_
  rw [rounds_succ]
  go_wp2
  go_ret
  exact ⟨rfl, rfl⟩

theorem widen_any (N n len cap : Nat) (a : Option Addr) (zs : List Int) (t : Int) (w : World) (g : Int → Option (Nat × Int × Int)) (hst : St w N n g) (ht : 1 ≤ t) (ha : IsArr w N a len zs) (hcap : a = none → cap = 0) (hlen : len ≤ 4096) (hn : n ≤ 4096) :
    Calls Try.prog 20 #[.pointer (some ⟨N + 1, 0, none⟩), .slice a len cap, .int .u64 t] w fun e w' => e = .returned (.bool (chgL (fun x => lagOf (g x)) t zs)) ∧
      ∃ g', St w' N (n + len) g' ∧ (∀ x, lagOf (g' x) = widL (fun x => lagOf (g x)) t zs x) ∧ Below N w w' := by
  obtain ⟨h1, h2, h3⟩ := ha
  rcases h3 with ⟨rfl, rfl⟩ | ⟨b, off, rfl, hN, hc⟩
  · obtain rfl := hcap rfl
    obtain rfl := List.length_eq_zero_iff.1 h1
    refine (widen_nil N t w).mono ?_
    rintro e w' ⟨rfl, rfl⟩
    exact ⟨by simp [chgL], g, hst, fun x => by simp [widL], Below.refl _ _⟩
  · exact widen_some N n b off len cap zs t w g hst ht h1 hlen hn hN hc h2

theorem zzwiden_any (N n len cap : Nat) (a : Option Addr) (zs : List Int) (t : Int) (w : World) (g : Int → Option (Nat × Int × Int)) (hst : St w N n g) (ht : 1 ≤ t) (ha : IsArr w N a len zs) (hcap : a = none → cap = 0) (hlen : len ≤ 4096) (hn : n ≤ 4096) :
    Calls Try.prog 9 #[.pointer (some ⟨N + 1, 0, none⟩), .slice a len cap, .int .u64 t] w fun e w' => e = .returned (.bool (chgL (fun x => lagOf (g x)) t zs)) ∧
      ∃ g', St w' N (n + len) g' ∧ (∀ x, lagOf (g' x) = widL (fun x => lagOf (g x)) t zs x) ∧ Below N w w' := by
  have H := widen_any N n len cap a zs t w g hst ht ha hcap hlen hn
  generalize chgL (fun x => lagOf (g x)) t zs = c at H ⊢
  generalize hP : (fun w' => ∃ g', St w' N (n + len) g' ∧ (∀ x, lagOf (g' x) = widL (fun x => lagOf (g x)) t zs x) ∧ Below N w w') = P at H ⊢
  have HP : Hid ((fun w' => ∃ g', St w' N (n + len) g' ∧ (∀ x, lagOf (g' x) = widL (fun x => lagOf (g x)) t zs x) ∧ Below N w w') = P) := hP
  clear hP
  have H2 : Hid (Calls Try.prog 20 #[.pointer (some ⟨N + 1, 0, none⟩), .slice a len cap, .int .u64 t] w fun e w' => e = .returned (.bool c) ∧ ∃ g', St w' N (n + len) g' ∧ (∀ x, lagOf (g' x) = widL (fun x => lagOf (g x)) t zs x) ∧ Below N w w') := H
  clear H
  go_enter Try.func9, Try.ntmps9
  go_wp2_with (go_at_call 20; refine (H2.out).mono ?_; rintro e w' ⟨rfl, hp⟩)
  go_ret
  exact ⟨rfl, by assumption⟩

/-! ### zzHasInt -/
theorem has_miss {zs zs' : List Int} {x y : Int} (h : zs' = zs ++ [y]) (h0 : zs.contains x = false) (h1 : (y == x) = false) : Hid (zs'.contains x = false) := by
  show zs'.contains x = false
  subst h
  have h2 : ¬ x = y := fun e => by simp [e] at h1
  simp at h0 ⊢
  exact ⟨h0, h2⟩
set_option maxRecDepth 100000 in
theorem has_some (b off len cap : Nat) (zs : List Int) (x : Int) (w : World) (hz : zs.length = len) (hlen : len ≤ 4096) (hc : ∀ j, j < len → w.cell? ⟨b, off + j, none⟩ = some (.int .i64 (zs.getD j 0))) :
    Calls Try.prog 10 #[.slice (some ⟨b, off, none⟩) len cap, .int .i64 x] w fun e w' => e = .returned (.bool (zs.contains x)) ∧ w = w' := by
  have HZ : Hid (zs.length = len) := hz
  have HC : Hid (∀ j, j < len → w.cell? ⟨b, off + j, none⟩ = some (.int .i64 (zs.getD j 0))) := hc
  clear hz hc
  generalize hcc : zs.contains x = cc
  have HCC : Hid (zs.contains x = cc) := hcc
  clear hcc
  go_enter Try.func10, Try.ntmps10
  go_wp2
  go_loop [5] (fun i => ∃ k : Nat, k ≤ len ∧ i = .int .i64 k ∧ Hid ((zs.take k).contains x = false)) (fun i => len - (intOf i).toNat)
  case atStart => exact ⟨0, Nat.zero_le _, rfl, show (zs.take 0).contains x = false by simp⟩
  case round =>
    obtain ⟨k, hk, rfl, Hno⟩ := hrel
    by_cases hlt : k < len
    · obtain ⟨y, hy⟩ : ∃ y, y = zs.getD k 0 := ⟨_, rfl⟩
      have hcx : w.cell? ⟨b, off + k, none⟩ = some (.int .i64 y) := by rw [hy]; exact HC.out k hlt
      have Hy : Hid (y = zs.getD k 0) := hy
      clear hy
      have hts : Hid (zs.take (k + 1) = zs.take k ++ [y]) := show _ = _ by rw [take_snoc zs k (by have := HZ.out; omega), Hy.out]
      cases he : (y == x) with
      | true =>
        go_wp2
        go_ret
        refine ⟨congrArg (fun b => Ending.returned (Value.bool b)) ?_, rfl⟩
        have h1 : x ∈ zs := by
          rw [← beq_iff_eq.1 he, Hy.out]
          have hl : k < zs.length := by have := HZ.out; omega
          simp [hl]
        rw [← HCC.out]
        simp [h1]
      | false =>
        have Hne : Hid ((y == x) = false) := he
        go_wp2
        go_round
        case rel => exact ⟨k + 1, by omega, by go_num, has_miss hts.out Hno.out Hne.out⟩
        case measure => simp [intOf]; omega
    · have hke : k = len := by omega
      subst hke
      have hzt : Hid (zs.take k = zs) := show zs.take k = zs from List.take_of_length_le (by have := HZ.out; omega)
      go_wp2
      go_ret
      rw [hzt.out] at Hno
      exact ⟨congrArg (fun b => Ending.returned (Value.bool b)) (Hno.out.symm.trans HCC.out), rfl⟩

theorem has_nil (x : Int) (w : World) : Calls Try.prog 10 #[.slice none 0 0, .int .i64 x] w fun e w' => e = .returned (.bool false) ∧ w = w' := by
  go_enter Try.func10, Try.ntmps10
  go_wp2
  refine wp_loop_rounds 1 ?_
  rw [rounds_succ]
  go_wp2
  go_ret
  exact ⟨rfl, rfl⟩

theorem has_any (N len cap : Nat) (a : Option Addr) (zs : List Int) (x : Int) (w : World) (ha : IsArr w N a len zs) (hcap : a = none → cap = 0) (hlen : len ≤ 4096) :
    Calls Try.prog 10 #[.slice a len cap, .int .i64 x] w fun e w' => e = .returned (.bool (zs.contains x)) ∧ w = w' := by
  obtain ⟨h1, h2, h3⟩ := ha
  rcases h3 with ⟨rfl, rfl⟩ | ⟨b, off, rfl, hN, hc⟩
  · obtain rfl := hcap rfl
    obtain rfl := List.length_eq_zero_iff.1 h1
    exact has_nil x w
  · exact has_some b off len cap zs x w h1 hlen hc

/-! ### zzHull -/
/-- What zzHull hands back. -/
def hullRes : Option (Int × Int) → Value
  | none => .tuple #[.int .u64 0, .int .u64 0, .bool false]
  | some (lo, hi) => .tuple #[.int .u64 lo, .int .u64 hi, .bool true]

theorem hull_any (ia ib : Bool) (t1 t2 : Int) (w : World) : Calls Try.prog 21 #[.bool ia, .int .u64 t1, .bool ib, .int .u64 t2, .bool false, .int .u64 0] w fun e w' => e = .returned (hullRes (hullOf ia t1 ib t2)) ∧ w = w' := by
  cases ia
  · cases ib
    · go_enter Try.func21, Try.ntmps21
      go_wp2
      go_ret3
      exact ⟨rfl, rfl⟩
    · go_enter Try.func21, Try.ntmps21
      go_wp2
      go_ret3
      exact ⟨rfl, rfl⟩
  · cases ib
    · go_enter Try.func21, Try.ntmps21
      go_wp2
      go_ret3
      exact ⟨rfl, rfl⟩
    · by_cases h1 : t2 < t1
      · have h2 : ¬ t1 < t2 := by omega
        have e : Hid (hullOf true t1 true t2 = some (t2, t1)) := show _ = _ by simp [hullOf]; omega
        go_enter Try.func21, Try.ntmps21
        go_wp2
        go_ret3
        rw [e.out]
        exact ⟨rfl, rfl⟩
      · by_cases h2 : t1 < t2
        · have e : Hid (hullOf true t1 true t2 = some (t1, t2)) := show _ = _ by simp [hullOf]; omega
          go_enter Try.func21, Try.ntmps21
          go_wp2
          go_ret3
          rw [e.out]
          exact ⟨rfl, rfl⟩
        · have e : Hid (hullOf true t1 true t2 = some (t1, t1)) := show _ = _ by simp [hullOf]; omega
          go_enter Try.func21, Try.ntmps21
          go_wp2
          go_ret3
          rw [e.out]
          exact ⟨rfl, rfl⟩

/-! ### ZZlagOf -/
def lagRes : Option (Int × Int) → Value
  | none => .tuple #[.bool false, .int .u64 0, .int .u64 0, .bool false, .int .u64 0, .int .u64 0]
  | some (lo, hi) => .tuple #[.bool true, .int .u64 lo, .int .u64 hi, .bool false, .int .u64 0, .int .u64 0]

set_option maxRecDepth 100000 in
theorem lagOf_any (N n : Nat) (x : Int) (w : World) (g : Int → Option (Nat × Int × Int)) (hst : St w N n g) (hx : (Lit.int .i64 x).wf = true) :
    Calls Try.prog 22 #[.pointer (some ⟨N + 1, 0, none⟩), .int .i64 x] w fun e w' => e = .returned (lagRes (lagOf (g x))) ∧ ∃ n, w' = w.drewN n := by
  have hfld := hst.fld
  have hlook := hst.look hx
  cases hg : g x with
  | none =>
    rw [hg] at hlook
    simp only [Option.map_none] at hlook
    clear hg
    go_enter Try.func22, Try.ntmps22
    go_wp2
    exact bodyPost_ret (v := .tuple #[.bool false, .int .u64 0, .int .u64 0, .bool false, .int .u64 0, .int .u64 0]) (by simp [results, Try.results22, go_sem]) rfl ⟨rfl, 0, rfl⟩
  | some q =>
    obtain ⟨b, lo, hi⟩ := q
    rw [hg] at hlook
    simp only [Option.map_some] at hlook
    obtain ⟨_, hl, _⟩ := hst.blk _ _ _ _ hg
    obtain ⟨c0, c1, c2, c3, c4, _, _⟩ := lagB_cells hl
    clear hg hl
    go_enter Try.func22, Try.ntmps22
    go_wp2
    go_quiet (fail)
    go_wp2
    exact bodyPost_ret (v := .tuple #[.bool true, .int .u64 lo, .int .u64 hi, .bool false, .int .u64 0, .int .u64 0]) (by simp [results, Try.results22, go_sem]) rfl ⟨rfl, _, rfl⟩

end Go.Proofs.Qxb6618666a
