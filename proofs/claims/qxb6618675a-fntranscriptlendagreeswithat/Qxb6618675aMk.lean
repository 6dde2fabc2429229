/-
  THE WALKS of zzb1ToMessage and zzb1ToMessages.
-/
import Derived.Test.Qxb6618675aKit
namespace Go.Proofs.Qxb6618675a
open Go.RowKit
set_option linter.unusedSimpArgs false

/-- The first k calls are laid in block g. -/
def LaidC (M g : Nat) (cs : List CallD) (k : Nat) (D : Array Value) (wr : World) : Prop :=
  D.size = cs.length * 3 ∧ ∀ j c, j < k → cs[j]? = some c → D[j * 3]? = some (.string c.id) ∧ D[j * 3 + 1]? = some (.string c.name) ∧ ∃ va, D[j * 3 + 2]? = some va ∧ IsArgs wr (But M g wr.heap.size) va c.args
theorem LaidC.go {M g k : Nat} {cs : List CallD} {D : Array Value} {wr ws : World} (h : LaidC M g cs k D wr) (hs : SameOn (But M g wr.heap.size) wr ws) (hz : wr.heap.size ≤ ws.heap.size) : LaidC M g cs k D ws := by
  refine ⟨h.1, fun j c hj hc => ?_⟩
  obtain ⟨h0, h1, va, h2, h3⟩ := h.2 j c hj hc
  exact ⟨h0, h1, va, h2, h3.go (Sub.but hz) hs⟩
def put3 (D : Array Value) (i : Nat) (v0 v1 v2 : Value) : Array Value := ((D.setIfInBounds i v0).setIfInBounds (i + 1) v1).setIfInBounds (i + 2) v2
theorem LaidC.put {M g k : Nat} {cs : List CallD} {D : Array Value} {wr : World} {c : CallD} {va : Value} (h : LaidC M g cs k D wr) (hc : cs[k]? = some c) (hv : IsArgs wr (But M g wr.heap.size) va c.args) : LaidC M g cs (k + 1) (put3 D (k * 3) (.string c.id) (.string c.name) va) wr := by
  obtain ⟨hz, h⟩ := h
  have hk : k < cs.length := (List.getElem?_eq_some_iff.1 hc).1
  refine ⟨by simpa [put3] using hz, fun j c' hj hc' => ?_⟩
  by_cases e : j = k
  · subst e
    rw [hc] at hc'; cases hc'
    refine ⟨?_, ?_, va, ?_, hv⟩ <;> (unfold put3; simp only [Array.getElem?_setIfInBounds, Array.size_setIfInBounds]; simp <;> omega)
  · obtain ⟨h0, h1, va', h2, h3⟩ := h j c' (by omega) hc'
    refine ⟨?_, ?_, va', ?_, h3⟩
    · rw [← h0]; unfold put3; simp only [Array.getElem?_setIfInBounds]; repeat rw [if_neg (by omega)]
    · rw [← h1]; unfold put3; simp only [Array.getElem?_setIfInBounds]; repeat rw [if_neg (by omega)]
    · rw [← h2]; unfold put3; simp only [Array.getElem?_setIfInBounds]; repeat rw [if_neg (by omega)]
/-- The first k results are laid. -/
def LaidR (rs : List ResD) (k : Nat) (D : Array Value) : Prop :=
  D.size = rs.length * 4 ∧ ∀ j r, j < k → rs[j]? = some r → D[j * 4]? = some (.string r.cid) ∧ D[j * 4 + 1]? = some (.string r.name) ∧ D[j * 4 + 2]? = some (.string r.con) ∧ D[j * 4 + 3]? = some (.bool r.err)
def put4 (D : Array Value) (i : Nat) (v0 v1 v2 v3 : Value) : Array Value := (((D.setIfInBounds i v0).setIfInBounds (i + 1) v1).setIfInBounds (i + 2) v2).setIfInBounds (i + 3) v3
theorem LaidR.put {k : Nat} {rs : List ResD} {D : Array Value} {r : ResD} (h : LaidR rs k D) (hr : rs[k]? = some r) : LaidR rs (k + 1) (put4 D (k * 4) (.string r.cid) (.string r.name) (.string r.con) (.bool r.err)) := by
  obtain ⟨hz, h⟩ := h
  have hk : k < rs.length := (List.getElem?_eq_some_iff.1 hr).1
  refine ⟨by simpa [put4] using hz, fun j r' hj hr' => ?_⟩
  by_cases e : j = k
  · subst e
    rw [hr] at hr'; cases hr'
    refine ⟨?_, ?_, ?_, ?_⟩ <;> (unfold put4; simp only [Array.getElem?_setIfInBounds, Array.size_setIfInBounds]; simp <;> omega)
  · obtain ⟨h0, h1, h2, h3⟩ := h j r' (by omega) hr'
    refine ⟨?_, ?_, ?_, ?_⟩
    · rw [← h0]; unfold put4; simp only [Array.getElem?_setIfInBounds]; repeat rw [if_neg (by omega)]
    · rw [← h1]; unfold put4; simp only [Array.getElem?_setIfInBounds]; repeat rw [if_neg (by omega)]
    · rw [← h2]; unfold put4; simp only [Array.getElem?_setIfInBounds]; repeat rw [if_neg (by omega)]
    · rw [← h3]; unfold put4; simp only [Array.getElem?_setIfInBounds]; repeat rw [if_neg (by omega)]

theorem lt5 (k : Nat) (h : k < 5) (d : MsgD) (a b : Value) : k < (m5 d a b).size := h
theorem one5 (d : MsgD) {vc vr : Value} (h1 : vc.oneCell' = true) (h2 : vr.oneCell' = true) : (m5 d vc vr).all (·.oneCell') = true := by
  refine Array.all_eq_true_iff_forall_mem.2 fun v hv => ?_
  simp [m5] at hv
  rcases hv with rfl | rfl | rfl | rfl | rfl
  · rfl
  · rfl
  · rfl
  · exact h1
  · exact h2
theorem SameOn.low {M N g k : Nat} {w : World} {v : Value} (h : N ≤ g) : SameOn (Fresh M N) w (w.setCell ⟨g, k, none⟩ v) := fun b o hb => World.cell?_of_block (w := w) (a := ⟨b, o, none⟩) (block_setCell (b := b) (by have h1 : b < N := hb.2; omega))
/-- What ToMessage leaves: a message of the same data, its slices in new memory. -/
def MsgPost (d : MsgD) (w : World) (e : Ending) (w' : World) : Prop := ∃ vc vr, e = .returned (.agg (m5 d vc vr)) ∧ MsgSl w' (Fresh w.heap.size w'.heap.size) vc vr d ∧ Below w.heap.size w w' ∧ vc.oneCell' = true ∧ vr.oneCell' = true

set_option maxRecDepth 100000 in
set_option maxHeartbeats 8000000 in
theorem to_msg (d : MsgD) (vc vr : Value) (w : World) (h : MsgSl w (Old w.heap.size) vc vr d) (hok : MsgOk d) : Calls Try.prog 18 #[.agg (m5 d vc vr)] w (MsgPost d w) := by
  have hn2 := fun (w : World) (a : Option Addr) (n c n' c' : Nat) => run_neq_slice_nil_any (P := Try.prog) w 38 50 a n c n' c' Try.underlying38
  have hn4 := fun (w : World) (a : Option Addr) (n c n' c' : Nat) => run_neq_slice_nil_any (P := Try.prog) w 39 52 a n c n' c' Try.underlying39
  obtain ⟨i0, hi0, hz00, hz01, hz02⟩ : ∃ i, Try.prog.info? 69 = some i ∧ i.zero = some (.agg #[.string ⟨#[]⟩, .string ⟨#[]⟩, .slice none 0 0]) ∧ i.size = 3 ∧ i.bytes = 56 := by as_aux_lemma => exact ⟨_, rfl, rfl, rfl, rfl⟩
  obtain ⟨i1, hi1, hz10, hz11, hz12⟩ : ∃ i, Try.prog.info? 71 = some i ∧ i.zero = some (.agg #[.string ⟨#[]⟩, .string ⟨#[]⟩, .string ⟨#[]⟩, .bool false]) ∧ i.size = 4 ∧ i.bytes = 56 := by as_aux_lemma => exact ⟨_, rfl, rfl, rfl, rfl⟩
  obtain ⟨hc, hr⟩ := h
  obtain ⟨p, n, cap, rfl, ln, en, hcs⟩ := hc.view
  obtain ⟨s, m, kap, rfl, lm, em, hrs⟩ := hr.view
  have nl : n ≤ 1048576 := by
    cases e : d.calls with
    | none => rw [e] at ln; simp at ln; omega
    | some cs => rw [e] at ln; have := (hok.1 cs e).1; simp at ln; omega
  have ml : m ≤ 1048576 := by
    cases e : d.res with
    | none => rw [e] at lm; simp at lm; omega
    | some cs => rw [e] at lm; have := (hok.2 cs e).1; simp at lm; omega
  have H1 := hidden hcs
  have H3 := hidden hrs
  have L1 := hidden ln
  have L3 := hidden lm
  have HO := hidden hok
  have HC := hidden hc
  have HR := hidden hr
  clear hcs hrs ln lm hok hc hr
  obtain ⟨a0, a1, a2, a3, a4⟩ := m5_facts d (.slice p n cap) (.slice s m kap)
  go_enter Try.func18, Try.ntmps18
  go_upto_region 2 with fail
  have hT : Tm (m5 d (.slice p n cap) (.slice s m kap)) z35 w _ := Tm.start
  unfold z35 at hT
  generalize World.alloc _ _ = w2 at hT ⊢
  have f0 := (hT.c0 0).trans a0
  go_upto_if 19 with (first
    | (refine wpList_store1 rfl 31 (.tmp 10) (.tmp 9) rfl (w.heap.size + 2) 0 (.string d.role) rfl rfl _ 35 hT.2.2.1 (by simp) i31 rfl ?_
       replace hT := hT.set (k := 0) (v := .string d.role)
       generalize World.setCell _ _ _ = wa at hT ⊢
       have f1 := (hT.c0 1).trans a1)
    | (refine wpList_store1 rfl 9 (.tmp 13) (.tmp 12) rfl (w.heap.size + 2) 1 (.string d.text) rfl rfl _ 35 hT.2.2.1 (by simp) i9 rfl ?_
       replace hT := hT.set (k := 1) (v := .string d.text)
       generalize World.setCell _ _ _ = wb at hT ⊢
       have f2 := (hT.c0 2).trans a2)
    | (refine wpList_store1 rfl 9 (.tmp 16) (.tmp 15) rfl (w.heap.size + 2) 2 (.string d.ref) rfl rfl _ 35 hT.2.2.1 (by simp) i9 rfl ?_
       replace hT := hT.set (k := 2) (v := .string d.ref)
       generalize World.setCell _ _ _ = wc at hT ⊢
       have f3 := (hT.c0 3).trans a3)
    | fail)
  replace hT : Tm (m5 d (.slice p n cap) (.slice s m kap)) (m5 d (.slice none 0 0) (.slice none 0 0)) w wc := hT
  clear f0 f1 f2
  obtain ⟨bs, hbs⟩ : ∃ bs, d.calls.isSome = bs := ⟨_, rfl⟩
  rw [hbs]
  go_cut [4, 5] from 20 to 63 (fun _ _ wx => ∃ vc', Tm (m5 d (.slice p n cap) (.slice s m kap)) (m5 d vc' (.slice none 0 0)) w wx ∧ IsCalls wx (Fresh (w.heap.size + 3) wx.heap.size) vc' d.calls ∧ vc'.oneCell' = true)
  case first =>
    cases bs with
    | false =>
      have e : d.calls = none := by simpa using hbs
      go_wp2_with fail
      go_meet
      case rel => exact ⟨.slice none 0 0, hT, by rw [e]; rfl, rfl⟩
    | true =>
      obtain ⟨cs, e⟩ := Option.isSome_iff_exists.1 hbs
      have hl : cs.length = n := by have := L1.out; rw [e] at this; exact this.symm
      go_wp2_with (first
        | (at_make; refine wpList_make_full _ rfl (.tmp 22) (.tmp 22) 32 rfl wc.heap.size 69 i0 _ 3 Try.underlying32 hi0 hz00 hz01 .i64 .i64 _ _ n rfl rfl rfl rfl (by rw [hz02]; omega) (by unfold maxLen; omega) (Nat.le_refl _) ?_; intro wm hown hgr; obtain ⟨cur, hcur, hcs⟩ := made hown)
        | fail)
      have hG := hT.lt
      replace hT := hT.step (Below.grown (Below.refl _ _) hgr (Nat.le_refl _) (fun k h => by cases h))
      clear hown hgr
      generalize wc.heap.size = G at hcur hG ⊢
      clear wc f3
      go_loopw [5] (fun v wr => ∃ k : Nat, k ≤ n ∧ v = .int .i64 k ∧ Tm (m5 d (.slice p n cap) (.slice s m kap)) (m5 d (.slice none 0 0) (.slice none 0 0)) w wr ∧ ∃ D, wr.heap[G]? = some (.cells D 69 (0, 0)) ∧ LaidC (w.heap.size + 3) G cs k D wr) (fun v _ => n - (intOf v).toNat)
      case atStart => exact ⟨0, Nat.zero_le _, rfl, hT, cur, hcur, by rw [hl]; exact hcs, fun j c hj => by omega⟩
      case round =>
        clear hT hcur hcs
        obtain ⟨k, hk, rfl, hT, D, hD, hLC⟩ := hrel
        by_cases hlt : k < n
        · obtain ⟨b, off, cs', rfl, e2, hat⟩ := H1.out (by omega)
          obtain rfl : cs' = cs := by rw [e] at e2; cases e2; rfl
          obtain ⟨c, hx⟩ : ∃ c, cs'[k]? = some c := ⟨_, List.getElem?_eq_getElem (by omega)⟩
          have hco : ArgsOk c.args := ((HO.out.1 cs' e).2 c (List.mem_of_getElem? hx)).2.2
          obtain ⟨⟨u0, u1, u2⟩, q0, q1, va, q2, hva⟩ := hat k c hx
          have x0 := (hT.2.2.2.cell (p := ⟨b, _, none⟩) u0).trans q0
          have x1 : ∀ wx : World, Below w.heap.size w wx → wx.cell? ⟨b, off + k * 3 + 1, none⟩ = some (.string c.name) := fun wx h => (h.cell (p := ⟨b, _, none⟩) u1).trans q1
          have x2 : ∀ wx : World, Below w.heap.size w wx → wx.cell? ⟨b, off + k * 3 + 2, none⟩ = some va := fun wx h => (h.cell (p := ⟨b, _, none⟩) u2).trans q2
          have HV := hidden hva
          clear hva q0 q1 q2 u0 u1 u2 hat e2
          have hi : (k : Int) < (n : Int) := by omega
          have hDz : k * 3 + 2 < D.size := by rw [hLC.1, hl]; omega
          have f3 := (hT.c0 3).trans a3
          go_wp2_with (first
            | (refine wpList_store1 rfl 9 (.tmp 40) (.tmp 38) rfl G (k * 3) (.string c.id) rfl rfl D 69 hD (by omega) i9 rfl ?_
               replace hT := hT.other (g := G) (k := k * 3) (v := .string c.id) hG
               have hL1 := hLC.go (SameOn.but (g := G) (k := k * 3) (v := .string c.id)) (Nat.le_of_eq (size_setCell _ _ _).symm)
               have hD1 := heap_setCell_same wr G (k * 3) D 69 (.string c.id) hD
               clear hLC hD x0
               generalize World.setCell _ _ _ = ws1 at hT hL1 hD1 ⊢
               replace f3 := (hT.c0 3).trans a3
               replace x1 := x1 ws1 hT.2.2.2)
            | (refine wpList_store1 rfl 9 (.tmp 50) (.tmp 48) rfl G (k * 3 + 1) (.string c.name) rfl rfl _ 69 hD1 (by simp; omega) i9 rfl ?_
               replace hT := hT.other (g := G) (k := k * 3 + 1) (v := .string c.name) hG
               have hL2 := hL1.go (SameOn.but (g := G) (k := k * 3 + 1) (v := .string c.name)) (Nat.le_of_eq (size_setCell _ _ _).symm)
               have hD2 := heap_setCell_same ws1 G (k * 3 + 1) _ 69 (.string c.name) hD1
               clear hL1 hD1 x1
               generalize World.setCell _ _ _ = ws2 at hT hL2 hD2 ⊢
               replace f3 := (hT.c0 3).trans a3
               replace x2 := x2 ws2 hT.2.2.2)
            | (go_at_call 21; refine (clone_bytes c.args va _ (HV.out.now hT.2.2.2) hco).mono ?_
               rintro e w3 ⟨v', rfl, hv', hB⟩
               have hG2 : G < ws2.heap.size := lt_of_block hD2
               replace hT := hT.step hB
               replace hL2 := hL2.go (SameOn.butB hB) hB.size
               replace hD2 := (hB.block _ hG2).trans hD2
               replace hv' := hv'.go (Sub.fresh_but (K := w.heap.size + 3) hG2 (by omega)) (SameOn.refl _ _)
               obtain ⟨pa, na, ca, rfl, hna, hnb, hnc⟩ := IsSl.view hv'
               clear hna hnb hnc)
            | (refine wpList_store1 rfl 67 (.tmp 61) (.tmp 59) rfl G (k * 3 + 2) (.slice pa na ca) rfl rfl _ 69 hD2 (by simp; omega) i67 rfl ?_
               replace hT := hT.other (g := G) (k := k * 3 + 2) (v := .slice pa na ca) hG
               have hL3 := hL2.go (SameOn.but (g := G) (k := k * 3 + 2) (v := .slice pa na ca)) (Nat.le_of_eq (size_setCell _ _ _).symm)
               replace hv' := hv'.go (Sub.but (Nat.le_of_eq (size_setCell w3 ⟨G, k * 3 + 2, none⟩ (.slice pa na ca)).symm)) (SameOn.but (g := G) (k := k * 3 + 2) (v := .slice pa na ca))
               have hD3 := heap_setCell_same w3 G (k * 3 + 2) _ 69 (.slice pa na ca) hD2
               clear hL2 hD2
               generalize World.setCell _ _ _ = ws3 at hT hL3 hD3 hv' ⊢)
            | fail)
          go_roundw
          case rel => exact ⟨k + 1, by omega, by go_num, hT, _, hD3, hL3.put hx hv'⟩
          case measure => simp [intOf]; omega
        · have hi : ¬ (k : Int) < (n : Int) := by omega
          have f3 := (hT.c0 3).trans a3
          have fc : wr.cell? ⟨w.heap.size + 1 + 1, 3, none⟩ = some (.slice none 0 0) := (cell_of_row wr (w.heap.size + 2) 3 _ 35 _ hT.2.2.1).trans rfl
          have ff : wr.frozen? ⟨w.heap.size + 1 + 1, 3, none⟩ = false := frozen_of_row wr (w.heap.size + 2) 3 _ 35 hT.2.2.1
          go_wp2_with fail
          go_meet
          case rel =>
            have hGr : G < wr.heap.size := lt_of_block hD
            replace hT := hT.set (k := 3) (v := .slice (some ⟨G, 0, none⟩) n n)
            replace hD := (block_setCell (w := wr) (g := w.heap.size + 2) (k := 3) (v := .slice (some ⟨G, 0, none⟩) n n) (by omega)).trans hD
            have hs2 : SameOn (Fresh (w.heap.size + 3) wr.heap.size) wr (wr.setCell ⟨w.heap.size + 2, 3, none⟩ (.slice (some ⟨G, 0, none⟩) n n)) := fun b o h => World.cell?_of_block (w := wr) (a := ⟨b, o, none⟩) (block_setCell (b := b) (by have h1 : w.heap.size + 3 ≤ b := h.1; omega))
            have hz2 := size_setCell wr ⟨w.heap.size + 2, 3, none⟩ (.slice (some ⟨G, 0, none⟩) n n)
            show ∃ vc', Tm _ _ w (wr.setCell ⟨w.heap.size + 2, 3, none⟩ (.slice (some ⟨G, 0, none⟩) n n)) ∧ IsCalls (wr.setCell ⟨w.heap.size + 2, 3, none⟩ (.slice (some ⟨G, 0, none⟩) n n)) _ vc' d.calls ∧ _
            generalize World.setCell _ _ _ = wq at hT hD hs2 hz2 ⊢
            refine ⟨.slice (some ⟨G, 0, none⟩) n n, hT, ?_, rfl⟩
            rw [e]
            refine ⟨⟨G, 0, none⟩, n, by rw [hl], .inr ⟨G, 0, rfl, fun j c hj => ?_⟩⟩
            have hj' : j < k := by have := (List.getElem?_eq_some_iff.1 hj).1; omega
            obtain ⟨w0, w1, va, w2', hva⟩ := hLC.2 j c hj' hj
            have hu : ∀ o, Fresh (w.heap.size + 3) wq.heap.size G o := fun o => ⟨hG, lt_of_block hD⟩
            have hcl : ∀ o, wq.cell? ⟨G, o, none⟩ = D[o]? := fun o => cell_of_row wq G o D 69 _ hD
            rw [Nat.zero_add]
            exact ⟨⟨hu _, hu _, hu _⟩, (hcl _).trans w0, (hcl _).trans w1, va, (hcl _).trans w2', hva.go (fun b o h => ⟨h.1, by rw [hz2]; exact h.2.1⟩) (fun b o h => hs2 b o ⟨h.1, h.2.1⟩)⟩
  case rest =>
  clear hT f3
  obtain ⟨vc', hT, hIC, hv1⟩ := hcut
  have f4 := (hT.c0 4).trans a4
  go_upto_if 66 with fail
  obtain ⟨br, hbr⟩ : ∃ br, d.res.isSome = br := ⟨_, rfl⟩
  rw [hbr]
  go_cut [6, 7] from 67 to 119 (fun _ _ wx => ∃ vr', Tm (m5 d (.slice p n cap) (.slice s m kap)) (m5 d vc' vr') w wx ∧ IsCalls wx (Fresh (w.heap.size + 3) wx.heap.size) vc' d.calls ∧ IsRes wx (Fresh (w.heap.size + 3) wx.heap.size) vr' d.res ∧ vr'.oneCell' = true)
  case first =>
    cases br with
    | false =>
      have e : d.res = none := by simpa using hbr
      go_wp2_with fail
      go_meet
      case rel => exact ⟨.slice none 0 0, hT, hIC, by rw [e]; rfl, rfl⟩
    | true =>
      obtain ⟨cs, e⟩ := Option.isSome_iff_exists.1 hbr
      have hl : cs.length = m := by have := L3.out; rw [e] at this; exact this.symm
      go_wp2_with (first
        | (at_make; refine wpList_make_full _ rfl (.tmp 69) (.tmp 69) 33 rfl wc.heap.size 71 i1 _ 4 Try.underlying33 hi1 hz10 hz11 .i64 .i64 _ _ m rfl rfl rfl rfl (by rw [hz12]; omega) (by unfold maxLen; omega) (Nat.le_refl _) ?_; intro wm hown hgr; obtain ⟨cur, hcur, hcs⟩ := made hown)
        | fail)
      have hG := hT.lt
      have hBm := Below.grown (Below.refl _ _) hgr (Nat.le_refl _) (fun k h => by cases h)
      replace hT := hT.step hBm
      replace hIC := hIC.go (Sub.refl _) (SameOn.fresh hBm)
      clear hown hgr hBm
      generalize wc.heap.size = G at hcur hG hIC ⊢
      clear wc f4
      go_loopw [7] (fun v wr => ∃ k : Nat, k ≤ m ∧ v = .int .i64 k ∧ Tm (m5 d (.slice p n cap) (.slice s m kap)) (m5 d vc' (.slice none 0 0)) w wr ∧ IsCalls wr (Fresh (w.heap.size + 3) G) vc' d.calls ∧ ∃ D, wr.heap[G]? = some (.cells D 71 (0, 0)) ∧ LaidR cs k D) (fun v _ => m - (intOf v).toNat)
      case atStart => exact ⟨0, Nat.zero_le _, rfl, hT, hIC, cur, hcur, by rw [hl]; exact hcs, fun j c hj => by omega⟩
      case round =>
        clear hT hcur hcs hIC
        obtain ⟨k, hk, rfl, hT, hIC, D, hD, hLR⟩ := hrel
        by_cases hlt : k < m
        · obtain ⟨b, off, cs', rfl, e2, hat⟩ := H3.out (by omega)
          obtain rfl : cs' = cs := by rw [e] at e2; cases e2; rfl
          obtain ⟨c, hx⟩ : ∃ c, cs'[k]? = some c := ⟨_, List.getElem?_eq_getElem (by omega)⟩
          obtain ⟨⟨u0, u1, u2, u3⟩, q0, q1, q2, q3⟩ := hat k c hx
          have x0 : ∀ wx : World, Below w.heap.size w wx → wx.cell? ⟨b, off + k * 4, none⟩ = some (.string c.cid) := fun wx h => (h.cell (p := ⟨b, _, none⟩) u0).trans q0
          have x1 : ∀ wx : World, Below w.heap.size w wx → wx.cell? ⟨b, off + k * 4 + 1, none⟩ = some (.string c.name) := fun wx h => (h.cell (p := ⟨b, _, none⟩) u1).trans q1
          have x2 : ∀ wx : World, Below w.heap.size w wx → wx.cell? ⟨b, off + k * 4 + 2, none⟩ = some (.string c.con) := fun wx h => (h.cell (p := ⟨b, _, none⟩) u2).trans q2
          have x3 : ∀ wx : World, Below w.heap.size w wx → wx.cell? ⟨b, off + k * 4 + 3, none⟩ = some (.bool c.err) := fun wx h => (h.cell (p := ⟨b, _, none⟩) u3).trans q3
          replace x0 := x0 wr hT.2.2.2
          clear q0 q1 q2 q3 u0 u1 u2 u3 hat e2
          have hi : (k : Int) < (m : Int) := by omega
          have hDz : k * 4 + 3 < D.size := by rw [hLR.1, hl]; omega
          have f4 := (hT.c0 4).trans a4
          go_wp2_with (first
            | (refine wpList_store1 rfl 9 (.tmp 87) (.tmp 85) rfl G (k * 4) (.string c.cid) rfl rfl _ 71 hD (by first | omega | (simp; omega)) i9 rfl ?_
               replace hT := hT.other (g := G) (k := k * 4) (v := .string c.cid) hG
               replace hIC := hIC.go (Sub.refl _) (SameOn.low (g := G) (k := k * 4) (v := .string c.cid) (Nat.le_refl _))
               have hD1 := heap_setCell_same wr G (k * 4) _ 71 (.string c.cid) hD
               clear hD x0
               generalize World.setCell _ _ _ = ws1 at hT hIC hD1 ⊢
               replace f4 := (hT.c0 4).trans a4
               replace x1 := x1 ws1 hT.2.2.2)
            | (refine wpList_store1 rfl 9 (.tmp 97) (.tmp 95) rfl G (k * 4 + 1) (.string c.name) rfl rfl _ 71 hD1 (by first | omega | (simp; omega)) i9 rfl ?_
               replace hT := hT.other (g := G) (k := k * 4 + 1) (v := .string c.name) hG
               replace hIC := hIC.go (Sub.refl _) (SameOn.low (g := G) (k := k * 4 + 1) (v := .string c.name) (Nat.le_refl _))
               have hD2 := heap_setCell_same ws1 G (k * 4 + 1) _ 71 (.string c.name) hD1
               clear hD1 x1
               generalize World.setCell _ _ _ = ws2 at hT hIC hD2 ⊢
               replace f4 := (hT.c0 4).trans a4
               replace x2 := x2 ws2 hT.2.2.2)
            | (refine wpList_store1 rfl 9 (.tmp 107) (.tmp 105) rfl G (k * 4 + 2) (.string c.con) rfl rfl _ 71 hD2 (by first | omega | (simp; omega)) i9 rfl ?_
               replace hT := hT.other (g := G) (k := k * 4 + 2) (v := .string c.con) hG
               replace hIC := hIC.go (Sub.refl _) (SameOn.low (g := G) (k := k * 4 + 2) (v := .string c.con) (Nat.le_refl _))
               have hD3 := heap_setCell_same ws2 G (k * 4 + 2) _ 71 (.string c.con) hD2
               clear hD2 x2
               generalize World.setCell _ _ _ = ws3 at hT hIC hD3 ⊢
               replace f4 := (hT.c0 4).trans a4
               replace x3 := x3 ws3 hT.2.2.2)
            | (refine wpList_store1 rfl 4 (.tmp 117) (.tmp 115) rfl G (k * 4 + 3) (.bool c.err) rfl rfl _ 71 hD3 (by first | omega | (simp; omega)) i4 rfl ?_
               replace hT := hT.other (g := G) (k := k * 4 + 3) (v := .bool c.err) hG
               replace hIC := hIC.go (Sub.refl _) (SameOn.low (g := G) (k := k * 4 + 3) (v := .bool c.err) (Nat.le_refl _))
               have hD4 := heap_setCell_same ws3 G (k * 4 + 3) _ 71 (.bool c.err) hD3
               clear hD3 x3
               generalize World.setCell _ _ _ = ws4 at hT hIC hD4 ⊢
               replace f4 := (hT.c0 4).trans a4
)
            | fail)
          go_roundw
          case rel => exact ⟨k + 1, by omega, by go_num, hT, hIC, _, hD4, hLR.put hx⟩
          case measure => simp [intOf]; omega
        · have hi : ¬ (k : Int) < (m : Int) := by omega
          have f4 := (hT.c0 4).trans a4
          have fc : wr.cell? ⟨w.heap.size + 1 + 1, 4, none⟩ = some (.slice none 0 0) := (cell_of_row wr (w.heap.size + 2) 4 _ 35 _ hT.2.2.1).trans rfl
          have ff : wr.frozen? ⟨w.heap.size + 1 + 1, 4, none⟩ = false := frozen_of_row wr (w.heap.size + 2) 4 _ 35 hT.2.2.1
          go_wp2_with fail
          go_meet
          case rel =>
            have hGr : G < wr.heap.size := lt_of_block hD
            replace hT := hT.set (k := 4) (v := .slice (some ⟨G, 0, none⟩) m m)
            replace hD := (block_setCell (w := wr) (g := w.heap.size + 2) (k := 4) (v := .slice (some ⟨G, 0, none⟩) m m) (by omega)).trans hD
            have hs2 : SameOn (Fresh (w.heap.size + 3) G) wr (wr.setCell ⟨w.heap.size + 2, 4, none⟩ (.slice (some ⟨G, 0, none⟩) m m)) := fun b o h => World.cell?_of_block (w := wr) (a := ⟨b, o, none⟩) (block_setCell (b := b) (by have h1 : w.heap.size + 3 ≤ b := h.1; omega))
            show ∃ vr', Tm _ _ w (wr.setCell ⟨w.heap.size + 2, 4, none⟩ (.slice (some ⟨G, 0, none⟩) m m)) ∧ IsCalls (wr.setCell ⟨w.heap.size + 2, 4, none⟩ (.slice (some ⟨G, 0, none⟩) m m)) _ vc' d.calls ∧ IsRes (wr.setCell ⟨w.heap.size + 2, 4, none⟩ (.slice (some ⟨G, 0, none⟩) m m)) _ vr' d.res ∧ _
            generalize World.setCell _ _ _ = wq at hT hD hs2 ⊢
            refine ⟨.slice (some ⟨G, 0, none⟩) m m, hT, hIC.go (Sub.fresh (Nat.le_refl _) (Nat.le_of_lt (lt_of_block hD))) hs2, ?_, rfl⟩
            rw [e]
            refine ⟨⟨G, 0, none⟩, m, by rw [hl], .inr ⟨G, 0, rfl, fun j c hj => ?_⟩⟩
            have hj' : j < k := by have := (List.getElem?_eq_some_iff.1 hj).1; omega
            obtain ⟨w0, w1, w2', w3'⟩ := hLR.2 j c hj' hj
            have hu : ∀ o, Fresh (w.heap.size + 3) wq.heap.size G o := fun o => ⟨hG, lt_of_block hD⟩
            have hcl : ∀ o, wq.cell? ⟨G, o, none⟩ = D[o]? := fun o => cell_of_row wq G o D 71 _ hD
            rw [Nat.zero_add]
            exact ⟨⟨hu _, hu _, hu _, hu _⟩, (hcl _).trans w0, (hcl _).trans w1, (hcl _).trans w2', (hcl _).trans w3'⟩
  case rest =>
  clear hT f4 hIC
  obtain ⟨vr', hT, hIC, hIR, hv2⟩ := hcut
  have h1 := one5 d hv1 hv2
  go_wp2_with (first
    | (refine wpList_load_row rfl 35 (.tmp 3) rfl (w.heap.size + 2) rfl 35 (m5 d vc' vr') (0, 0) _ hT.2.2.1 Try.underlying35 rfl i35 ?_)
    | (refine wpList_store_row rfl 35 (.tmp 2) (.tmp 120) rfl (w.heap.size + 1) (m5 d vc' vr') rfl rfl 35 _ hT.2.1 i35 rfl h1 ?_)
    | fail)
  have hrow := setRow_heap wc (w.heap.size + 1) z35 (m5 d vc' vr') 35 _ hT.2.1
  have hs3 : SameOn (Fresh (w.heap.size + 3) wc.heap.size) wc (wc.setRow (w.heap.size + 1) (m5 d vc' vr')) := fun b o h => World.cell?_of_block (w := wc) (a := ⟨b, o, none⟩) (by
    have h1 : w.heap.size + 3 ≤ b := h.1
    simp only [World.setRow, Array.getElem?_modify]; rw [if_neg (by omega)])
  have hz3 := size_setRow wc (w.heap.size + 1) (m5 d vc' vr')
  have hsub : Sub (Fresh (w.heap.size + 3) wc.heap.size) (Fresh w.heap.size (wc.setRow (w.heap.size + 1) (m5 d vc' vr')).heap.size) := Sub.fresh (by omega) (Nat.le_of_eq hz3.symm)
  refine bodyPost_ret (v := .agg (m5 d vc' vr')) ?_ rfl ⟨vc', vr', rfl, ⟨hIC.go hsub hs3, hIR.go hsub hs3⟩, below_setRow hT.2.2.2 _ (by omega) _, hv1, hv2⟩
  exact results_cell_row rfl _ _ (w.heap.size + 1) 35 (m5 d vc' vr') (0, 0) _ rfl hrow rfl rfl i35
end Go.Proofs.Qxb6618675a
