/-
  THE WALK of zzb1ToMessages.
-/
import Derived.Test.Qxb6618675aMk
namespace Go.Proofs.Qxb6618675a
open Go.RowKit
set_option linter.unusedSimpArgs false

theorem there_row {wx : World} {B k n : Nat} {D : Array Value} {T : TypeId} (h : wx.heap[B]? = some (.cells D T (0, 0))) (hn : k + n ≤ D.size) : wx.there B k n := fun j hj => by
  refine ⟨?_, frozen_of_row wx B _ D T h⟩
  rw [cell_of_row wx B _ D T (0, 0) h]
  simp; omega
theorem setCells_block {B k : Nat} (hk : k ≠ B) : ∀ (vs : List Value) (j : Nat) (wx : World), (wx.setCells B j vs).heap[k]? = wx.heap[k]?
  | [], _, _ => rfl
  | v :: r, j, wx => (setCells_block hk r (j + 1) (wx.setCell ⟨B, j, none⟩ v)).trans (Below.heap_setCell wx ⟨B, j, none⟩ v k hk)
theorem size_setCells {B : Nat} : ∀ (vs : List Value) (j : Nat) (wx : World), (wx.setCells B j vs).heap.size = wx.heap.size
  | [], _, _ => rfl
  | v :: r, j, wx => (size_setCells r (j + 1) (wx.setCell ⟨B, j, none⟩ v)).trans (size_setCell _ _ _)
theorem below_setCells {B g : Nat} {a : World} (hg : B ≤ g) : ∀ (vs : List Value) (j : Nat) (wx : World), Below B a wx → Below B a (wx.setCells g j vs)
  | [], _, _, h => h
  | v :: r, j, _, h => below_setCells hg r (j + 1) _ (below_setCell h hg j v)
def put5 (D : Array Value) (i : Nat) (v0 v1 v2 v3 v4 : Value) : Array Value := ((((D.setIfInBounds i v0).setIfInBounds (i + 1) v1).setIfInBounds (i + 2) v2).setIfInBounds (i + 3) v3).setIfInBounds (i + 4) v4
theorem five_row {w : World} {B i : Nat} {D : Array Value} {T : TypeId} (v0 v1 v2 v3 v4 : Value) (h : w.heap[B]? = some (.cells D T (0, 0))) :
    (w.setCells B i [v0, v1, v2, v3, v4]).heap[B]? = some (.cells (put5 D i v0 v1 v2 v3 v4) T (0, 0)) := by
  simp only [World.setCells]
  exact heap_setCell_same _ _ _ _ _ _ (heap_setCell_same _ _ _ _ _ _ (heap_setCell_same _ _ _ _ _ _ (heap_setCell_same _ _ _ _ _ _ (heap_setCell_same _ _ _ _ _ _ h))))
/-- The first k messages are laid in block g. -/
def LaidM (g : Nat) (ds : List MsgD) (k : Nat) (D : Array Value) (wr : World) : Prop :=
  D.size = ds.length * 5 ∧ ∀ j d, j < k → ds[j]? = some d → D[j * 5]? = some (.string d.role) ∧ D[j * 5 + 1]? = some (.string d.text) ∧ D[j * 5 + 2]? = some (.string d.ref) ∧ ∃ vc vr, D[j * 5 + 3]? = some vc ∧ D[j * 5 + 4]? = some vr ∧ MsgSl wr (But 0 g wr.heap.size) vc vr d
theorem LaidM.go {g k : Nat} {ds : List MsgD} {D : Array Value} {wr ws : World} (h : LaidM g ds k D wr) (hs : SameOn (But 0 g wr.heap.size) wr ws) (hz : wr.heap.size ≤ ws.heap.size) : LaidM g ds k D ws := by
  refine ⟨h.1, fun j c hj hc => ?_⟩
  obtain ⟨h0, h1, h2, vc, vr, h3, h4, h5⟩ := h.2 j c hj hc
  exact ⟨h0, h1, h2, vc, vr, h3, h4, h5.go (Sub.but hz) hs⟩
theorem LaidM.put {g k : Nat} {ds : List MsgD} {D : Array Value} {wr : World} {d : MsgD} {vc vr : Value} (h : LaidM g ds k D wr) (hc : ds[k]? = some d) (hv : MsgSl wr (But 0 g wr.heap.size) vc vr d) :
    LaidM g ds (k + 1) (put5 D (k * 5) (.string d.role) (.string d.text) (.string d.ref) vc vr) wr := by
  obtain ⟨hz, h⟩ := h
  have hk : k < ds.length := (List.getElem?_eq_some_iff.1 hc).1
  refine ⟨by simpa [put5] using hz, fun j c' hj hc' => ?_⟩
  by_cases e : j = k
  · subst e
    rw [hc] at hc'; cases hc'
    refine ⟨?_, ?_, ?_, vc, vr, ?_, ?_, hv⟩ <;> (unfold put5; simp only [Array.getElem?_setIfInBounds, Array.size_setIfInBounds]; simp <;> omega)
  · obtain ⟨h0, h1, h2, vc', vr', h3, h4, h5⟩ := h j c' (by omega) hc'
    refine ⟨?_, ?_, ?_, vc', vr', ?_, ?_, h5⟩
    · rw [← h0]; unfold put5; simp only [Array.getElem?_setIfInBounds]; repeat rw [if_neg (by omega)]
    · rw [← h1]; unfold put5; simp only [Array.getElem?_setIfInBounds]; repeat rw [if_neg (by omega)]
    · rw [← h2]; unfold put5; simp only [Array.getElem?_setIfInBounds]; repeat rw [if_neg (by omega)]
    · rw [← h3]; unfold put5; simp only [Array.getElem?_setIfInBounds]; repeat rw [if_neg (by omega)]
    · rw [← h4]; unfold put5; simp only [Array.getElem?_setIfInBounds]; repeat rw [if_neg (by omega)]
theorem SameOn.buts {M g N j : Nat} {w : World} {vs : List Value} : SameOn (But M g N) w (w.setCells g j vs) := fun b o h => World.cell?_of_block (w := w) (a := ⟨b, o, none⟩) (setCells_block h.2.2 vs j w)
def MsgsPost (ds : List MsgD) (w : World) (e : Ending) (w' : World) : Prop := ∃ v, e = .returned v ∧ IsOld w' v ds ∧ Below w.heap.size w w'

set_option maxRecDepth 100000 in
set_option maxHeartbeats 8000000 in
theorem to_msgs (ds : List MsgD) (v : Value) (w : World) (h : IsOld w v ds) (hn : ds.length ≤ 1048576) (hok : ∀ d ∈ ds, MsgOk d) : Calls Try.prog 9 #[v] w (MsgsPost ds w) := by
  have hnn := fun (w : World) (a : Option Addr) (n c n' c' : Nat) => Lib.run_eql_slice_nil (P := Try.prog) w 22 41 a n c n' c' Try.underlying22
  obtain ⟨i0, hi0, hz00, hz01, hz02⟩ : ∃ i, Try.prog.info? 35 = some i ∧ i.zero = some (.agg z35) ∧ i.size = 5 ∧ i.bytes = 96 := by as_aux_lemma => exact ⟨_, rfl, rfl, rfl, rfl⟩
  obtain ⟨a, cap, rfl, hds, hca, hcap⟩ := h
  cases a with
  | none =>
    obtain rfl : ds = [] := hds.resolve_right (by rintro ⟨b, off, h, _⟩; cases h)
    go_enter Try.func9, Try.ntmps9
    go_wp2_with fail
    go_ret
    exact ⟨_, rfl, ⟨none, 0, rfl, .inl rfl, fun _ => rfl, Nat.le_refl _⟩, Below.refl _ _⟩
  | some x =>
    have HB := hidden hds
    have HO := hidden hok
    clear hds hok hca
    obtain ⟨len, hlen⟩ : ∃ len, ds.length = len := ⟨_, rfl⟩
    rw [hlen] at hn hcap ⊢
    go_enter Try.func9, Try.ntmps9
    go_wp2_with (first
        | (at_make; refine wpList_make_full _ rfl (.tmp 8) (.tmp 8) 25 rfl w.heap.size 35 i0 _ 5 Try.underlying25 hi0 hz00 hz01 .i64 .i64 _ _ len rfl rfl rfl rfl (by rw [hz02]; omega) (by unfold maxLen; omega) (Nat.le_refl _) ?_; intro wm hown hgr; obtain ⟨cur, hcur, hcs⟩ := made hown)
        | fail)
    have hbm := Below.grown (Below.refl _ _) hgr (Nat.le_refl _) (fun k h => by cases h)
    clear hown hgr
    go_loopw [4] (fun v wr => ∃ k : Nat, k ≤ len ∧ v = .int .i64 k ∧ Below w.heap.size w wr ∧ ∃ D, wr.heap[w.heap.size]? = some (.cells D 35 (0, 0)) ∧ LaidM w.heap.size ds k D wr) (fun v _ => len - (intOf v).toNat)
    case atStart => exact ⟨0, Nat.zero_le _, rfl, hbm, cur, hcur, by rw [hlen]; exact hcs, fun j x hj => by omega⟩
    case round =>
      clear hbm hcur hcs
      obtain ⟨k, hk, rfl, hbel, D, hD, hLM⟩ := hrel
      by_cases hlt : k < len
      · obtain ⟨b, off, ex, hat⟩ : ∃ b off, some x = some ⟨b, off, none⟩ ∧ MsgsAt w (Old w.heap.size) (Old w.heap.size) b off ds := HB.out.resolve_left (fun h => by rw [h] at hlen; simp at hlen; omega)
        cases ex
        obtain ⟨d, hx⟩ : ∃ d, ds[k]? = some d := ⟨_, List.getElem?_eq_getElem (by omega)⟩
        obtain ⟨⟨u0, u1, u2, u3, u4⟩, q0, q1, q2, vc, vr, q3, q4, hm⟩ := hat k d hx
        replace q0 := (hbel.cell (p := ⟨b, _, none⟩) u0).trans q0
        replace q1 := (hbel.cell (p := ⟨b, _, none⟩) u1).trans q1
        replace q2 := (hbel.cell (p := ⟨b, _, none⟩) u2).trans q2
        replace q3 := (hbel.cell (p := ⟨b, _, none⟩) u3).trans q3
        replace q4 := (hbel.cell (p := ⟨b, _, none⟩) u4).trans q4
        have hcall := hidden (to_msg d vc vr wr (hm.now hbel) (HO.out d (List.mem_of_getElem? hx)))
        have hi : (k : Int) < (len : Int) := by omega
        have hDz : k * 5 + 5 ≤ D.size := by rw [hLM.1, hlen]; omega
        go_wp2_with (first
          | (go_at_call 18; refine hcall.out.mono ?_
             rintro e w3 ⟨vc', vr', rfl, hm', hB, o1, o2⟩
             have hlt3 : w.heap.size < wr.heap.size := lt_of_block hD
             replace hbel := hbel.trans (hB.mono hbel.size)
             replace hLM := hLM.go (SameOn.butB hB) hB.size
             replace hD := (hB.block _ hlt3).trans hD
             replace hm' := hm'.go (Sub.fresh_but (K := 0) hlt3 (Nat.zero_le _)) (SameOn.refl _ _))
          | (refine wpList_store_mid rfl 35 (.tmp 23) (.tmp 22) rfl w.heap.size (k * 5) #[.string d.role, .string d.text, .string d.ref, vc', vr'] rfl rfl (there_row (n := 5) hD hDz) i35 (one5 d o1 o2) ?_
             have hrow := five_row (i := k * 5) (.string d.role) (.string d.text) (.string d.ref) vc' vr' hD
             have hb2 := below_setCells (Nat.le_refl w.heap.size) [.string d.role, .string d.text, .string d.ref, vc', vr'] (k * 5) _ hbel
             have hz := size_setCells (B := w.heap.size) [.string d.role, .string d.text, .string d.ref, vc', vr'] (k * 5) w3
             have hL2 := hLM.go (SameOn.buts (j := k * 5) (vs := [.string d.role, .string d.text, .string d.ref, vc', vr'])) (Nat.le_of_eq hz.symm)
             have hm2 := hm'.go (Sub.but (Nat.le_of_eq hz.symm)) (SameOn.buts (j := k * 5) (vs := [.string d.role, .string d.text, .string d.ref, vc', vr']))
             generalize World.setCells _ _ _ _ = ws at hrow hb2 hL2 hm2 ⊢)
          | fail)
        go_roundw
        case rel => exact ⟨k + 1, by omega, by go_num, hb2, _, hrow, hL2.put hx hm2⟩
        case measure => simp [intOf]; omega
      · have hi : ¬ (k : Int) < (len : Int) := by omega
        go_wp2_with fail
        go_ret
        refine ⟨.slice (some ⟨w.heap.size, 0, none⟩) len len, rfl, ⟨some ⟨w.heap.size, 0, none⟩, len, by rw [hlen], .inr ⟨w.heap.size, 0, rfl, fun j d hj => ?_⟩, (fun h => by cases h), (by rw [hlen]; exact Nat.le_refl _)⟩, hbel⟩
        have hj' : j < k := by have := (List.getElem?_eq_some_iff.1 hj).1; omega
        obtain ⟨h0, h1, h2, vc, vr, h3, h4, h5⟩ := hLM.2 j d hj' hj
        have hu : ∀ o, Old wr.heap.size w.heap.size o := fun o => lt_of_block hD
        have hcl : ∀ o, wr.cell? ⟨w.heap.size, o, none⟩ = D[o]? := fun o => cell_of_row wr w.heap.size o D 35 _ hD
        rw [Nat.zero_add]
        exact ⟨⟨hu _, hu _, hu _, hu _, hu _⟩, (hcl _).trans h0, (hcl _).trans h1, (hcl _).trans h2, vc, vr, (hcl _).trans h3, (hcl _).trans h4, h5.go (fun _ _ h => h.2.1) (SameOn.refl _ _)⟩
end Go.Proofs.Qxb6618675a
