/-
  THE WALKS of zzb1Add, zzb1CloneBytes, zzb1SameBytes.
-/
import Derived.Test.Qxb6618675aData
import Derived.Lib.SliceRun
namespace Go.Proofs.Qxb6618675a
open Go.RowKit
set_option linter.unusedSimpArgs false

/-- m came of n by adding: it is within the bound only where n was. -/
def Took (n m : Int) : Prop := 0 ≤ m ∧ m ≤ 2097152 ∧ (m ≤ 1048576 → n ≤ 1048576)
theorem Took.trans {n m k : Int} (h : Took n m) (g : Took m k) : Took n k := ⟨g.1, g.2.1, fun hk => h.2.2 (g.2.2 hk)⟩
theorem add_any (n k : Int) (h0 : 0 ≤ n) (h1 : 0 ≤ k) : ∃ m : Int, Took n m ∧ (m ≤ 1048576 → k ≤ 1048576) ∧ ∀ w : World, Calls Try.prog 17 #[.int .i64 n, .int .i64 k] w fun e w' => e = .returned (.int .i64 m) ∧ w = w' := by
  by_cases g1 : (1048576 : Int) < k
  · refine ⟨1048577, ⟨by omega, by omega, by omega⟩, by omega, fun w => ?_⟩
    have g2 : ¬ k < 0 := by omega
    go_enter Try.func17, Try.ntmps17
    go_wp2
    go_ret
    exact ⟨rfl, rfl⟩
  · have g2 : ¬ k < 0 := by omega
    by_cases g3 : 1048576 - k < n
    · refine ⟨1048577, ⟨by omega, by omega, by omega⟩, by omega, fun w => ?_⟩
      go_enter Try.func17, Try.ntmps17
      go_wp2
      go_ret
      exact ⟨rfl, rfl⟩
    · refine ⟨n + k, ⟨by omega, by omega, by omega⟩, by omega, fun w => ?_⟩
      go_enter Try.func17, Try.ntmps17
      go_wp2
      go_ret
      exact ⟨rfl, rfl⟩

theorem made {wm : World} {B e size g n : Nat} {xs : List Value} (h : wm.ownsRow B e size (.slice (some ⟨g, 0, none⟩) n n) n xs) : ∃ cur : Array Value, wm.heap[g]? = some (.cells cur e (0, 0)) ∧ cur.size = n * size := by
  obtain ⟨_, h⟩ := h
  rcases h with ⟨h, _⟩ | ⟨g', cap, cur, hv, _, hh, r⟩
  · cases h
  · simp at hv
    obtain ⟨rfl, rfl⟩ := hv
    exact ⟨cur, hh, r.2.2.1⟩

theorem put_one {bs : List Int} {D : Array Value} {k : Nat} {x : Int} (h : ∀ j x, j < k → bs[j]? = some x → D[j]? = some (.int .u8 x)) (hx : bs[k]? = some x) (hk : k < D.size) :
    ∀ j y, j < k + 1 → bs[j]? = some y → (D.setIfInBounds k (.int .u8 x))[j]? = some (.int .u8 y) := by
  intro j y hj hy
  by_cases e : j = k
  · subst e
    rw [hx] at hy; cases hy
    simp [hk]
  · rw [Array.getElem?_setIfInBounds, if_neg (fun h => e h.symm)]
    exact h j y (by omega) hy
/-- The first k bytes are laid. -/
def Laid (w : World) (B : Nat) (bs : List Int) (k : Nat) (wr : World) : Prop :=
  ∃ D : Array Value, wr.heap[B]? = some (.cells D 5 (0, 0)) ∧ D.size = bs.length ∧ (∀ j x, j < k → bs[j]? = some x → D[j]? = some (.int .u8 x)) ∧ Below w.heap.size w wr ∧ w.heap.size ≤ B
def ArgsPost (w : World) (o : Option (List Int)) (e : Ending) (w' : World) : Prop := ∃ v', e = .returned v' ∧ IsArgs w' (Fresh w.heap.size w'.heap.size) v' o ∧ Below w.heap.size w w'

set_option maxRecDepth 100000 in
set_option maxHeartbeats 1000000 in
theorem clone_bytes (o : Option (List Int)) (v : Value) (w : World) (h : IsArgs w (Old w.heap.size) v o) (hok : ArgsOk o) : Calls Try.prog 21 #[v] w (ArgsPost w o) := by
  have hnn := fun (w : World) (a : Option Addr) (n c n' c' : Nat) => Lib.run_eql_slice_nil (P := Try.prog) w 48 5 a n c n' c' Try.underlying48
  obtain ⟨i0, hi, hz0, hz1, hz2⟩ : ∃ i, Try.prog.info? 5 = some i ∧ i.zero = some (.int .u8 0) ∧ i.size = 1 ∧ i.bytes = 1 := by as_aux_lemma => exact ⟨_, rfl, rfl, rfl, rfl⟩
  cases o with
  | none =>
    cases h
    go_enter Try.func21, Try.ntmps21
    go_wp2_with fail
    go_ret
    exact ⟨_, rfl, rfl, Below.refl _ _⟩
  | some bs =>
    have hl := hok bs rfl
    obtain ⟨a, cap, rfl, hbs⟩ := h
    have HB := hidden hbs
    clear hbs
    obtain ⟨len, hlen⟩ : ∃ len, bs.length = len := ⟨_, rfl⟩
    rw [hlen] at hl ⊢
    go_enter Try.func21, Try.ntmps21
    go_wp2_with (first
        | (at_make; refine wpList_make_full _ rfl (.tmp 8) (.tmp 8) 48 rfl w.heap.size 5 i0 _ 1 Try.underlying48 hi hz0 hz1 .i64 .i64 _ _ len rfl rfl rfl rfl (by rw [hz2]; omega) (by unfold maxLen; omega) (Nat.le_refl _) ?_; intro wm hown hgr; obtain ⟨cur, hcur, hcs⟩ := made hown)
        | fail)
    have hE : Laid w w.heap.size bs 0 wm := ⟨cur, hcur, by omega, (fun j x hj => by omega), Below.grown (Below.refl _ _) hgr (Nat.le_refl _) (fun k h => by cases h), Nat.le_refl _⟩
    clear hown hcur hcs hgr
    go_loopw [4] (fun v wr => ∃ k : Nat, k ≤ len ∧ v = .int .i64 k ∧ Laid w w.heap.size bs k wr) (fun v _ => len - (intOf v).toNat)
    case atStart => exact ⟨0, Nat.zero_le _, rfl, hE⟩
    case round =>
      obtain ⟨k, hk, rfl, D, hD, hsz, hgood, hbel, _⟩ := hrel
      by_cases hlt : k < len
      · obtain ⟨b, off, rfl, hat⟩ : ∃ b off, a = ⟨b, off, none⟩ ∧ ArgsAt w (Old w.heap.size) b off bs := HB.out.resolve_left (fun h => by rw [h] at hlen; simp at hlen; omega)
        obtain ⟨x, hx⟩ : ∃ x, bs[k]? = some x := ⟨_, List.getElem?_eq_getElem (by omega)⟩
        obtain ⟨hu, hc⟩ := hat k x hx
        have hcx : wr.cell? ⟨b, off + k, none⟩ = some (.int .u8 x) := (hbel.cell (p := ⟨b, off + k, none⟩) hu).trans hc
        have hi : (k : Int) < (len : Int) := by omega
        obtain ⟨y, hy⟩ : ∃ y, D[k]? = some y := ⟨_, Array.getElem?_eq_getElem (by omega)⟩
        have hck : wr.cell? ⟨w.heap.size, k, none⟩ = some y := (cell_of_row wr _ k D 5 _ hD).trans hy
        have hfk := frozen_of_row wr w.heap.size k D 5 hD
        go_wp2_with fail
        go_roundw
        case rel =>
          exact ⟨k + 1, by omega, by go_num, D.setIfInBounds k (.int .u8 x), heap_setCell_same _ _ _ _ _ _ hD, by simpa using hsz, put_one hgood hx (by omega), hbel.setCell (Nat.le_refl _) _, Nat.le_refl _⟩
        case measure => simp [intOf]; omega
      · go_wp2_with fail
        go_ret
        refine ⟨.slice (some ⟨w.heap.size, 0, none⟩) len len, rfl, ⟨_, len, by rw [hlen], .inr ⟨w.heap.size, 0, rfl, fun j x hj => ⟨⟨Nat.le_refl _, lt_of_block hD⟩, ?_⟩⟩⟩, hbel⟩
        have hj' := (List.getElem?_eq_some_iff.1 hj).1
        rw [Nat.zero_add, cell_of_row wr _ j D 5 _ hD]
        exact hgood j x (by omega) hj

set_option maxRecDepth 100000 in
set_option maxHeartbeats 1000000 in
theorem same_bytes (U V : Foot) (o : Option (List Int)) (v v' : Value) (w : World) (h : IsArgs w U v o) (h' : IsArgs w V v' o) (hok : ArgsOk o) : Calls Try.prog 20 #[v, v'] w fun e w' => e = .returned (.bool true) ∧ Below w.heap.size w w' := by
  have hnn := fun (w : World) (a : Option Addr) (n c n' c' : Nat) => Lib.run_eql_slice_nil (P := Try.prog) w 48 5 a n c n' c' Try.underlying48
  cases o with
  | none =>
    cases h
    cases h'
    go_enter Try.func20, Try.ntmps20
    go_wp2_with fail
    go_loopw [5] (fun v wr => v = .int .i64 0 ∧ wr = w) (fun _ _ => 0)
    case atStart => exact ⟨rfl, rfl⟩
    case round =>
      obtain ⟨rfl, rfl⟩ := hrel
      go_wp2_with fail
      go_ret
      exact ⟨rfl, Below.refl _ _⟩
  | some bs =>
    have hl := hok bs rfl
    obtain ⟨a, cap, rfl, hbs⟩ := h
    obtain ⟨a', cap', rfl, hbs'⟩ := h'
    have HB := hidden hbs
    have HB' := hidden hbs'
    clear hbs hbs'
    obtain ⟨len, hlen⟩ : ∃ len, bs.length = len := ⟨_, rfl⟩
    rw [hlen] at hl ⊢
    go_enter Try.func20, Try.ntmps20
    go_wp2_with fail
    go_loopw [5] (fun v wr => ∃ k : Nat, k ≤ len ∧ v = .int .i64 k ∧ Below w.heap.size w wr ∧ SameOn U w wr ∧ SameOn V w wr) (fun v _ => len - (intOf v).toNat)
    case atStart => exact ⟨0, Nat.zero_le _, rfl, Below.refl _ _, SameOn.refl _ _, SameOn.refl _ _⟩
    case round =>
      obtain ⟨k, hk, rfl, hbel, hsu, hsv⟩ := hrel
      by_cases hlt : k < len
      · obtain ⟨b, off, rfl, hat⟩ : ∃ b off, a = ⟨b, off, none⟩ ∧ ArgsAt w U b off bs := HB.out.resolve_left (fun h => by rw [h] at hlen; simp at hlen; omega)
        obtain ⟨b', off', rfl, hat'⟩ : ∃ b off, a' = ⟨b, off, none⟩ ∧ ArgsAt w V b off bs := HB'.out.resolve_left (fun h => by rw [h] at hlen; simp at hlen; omega)
        obtain ⟨x, hx⟩ : ∃ x, bs[k]? = some x := ⟨_, List.getElem?_eq_getElem (by omega)⟩
        obtain ⟨hu, hc⟩ := hat k x hx
        obtain ⟨hu', hc'⟩ := hat' k x hx
        have hcx : wr.cell? ⟨b, off + k, none⟩ = some (.int .u8 x) := (hsu _ _ hu).trans hc
        have hcy : wr.cell? ⟨b', off' + k, none⟩ = some (.int .u8 x) := (hsv _ _ hu').trans hc'
        have hi : (k : Int) < (len : Int) := by omega
        go_wp2_with go_region
        go_roundw
        case rel => exact ⟨k + 1, by omega, by go_num, hbel.drew, hsu, hsv⟩
        case measure => simp [intOf]; omega
      · go_wp2_with fail
        go_ret
        exact ⟨rfl, hbel⟩
end Go.Proofs.Qxb6618675a
