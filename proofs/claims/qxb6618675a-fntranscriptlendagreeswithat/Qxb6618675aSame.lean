/-
  THE WALK of zzb1SameMessage.
-/
import Derived.Test.Qxb6618675aSmall
import Derived.Deep.CutRange
namespace Go.Proofs.Qxb6618675a
open Go.RowKit
set_option linter.unusedSimpArgs false

theorem below_setRow {B : Nat} {a wx : World} (h : Below B a wx) (g : Nat) (hg : B ≤ g) (cs : Array Value) : Below B a (wx.setRow g cs) :=
  ⟨h.os, h.tape, h.output, by rw [size_setRow]; exact h.size, fun k hk => by
    have : (wx.setRow g cs).heap[k]? = wx.heap[k]? := by
      simp only [World.setRow, Array.getElem?_modify]; rw [if_neg (by omega)]
    rw [this]; exact h.block k hk⟩
/-- A new variable, written whole. -/
theorem var_row (w : World) (Z C : Array Value) (T : TypeId) : ((w.alloc (.cells Z T)).setRow w.heap.size C).heap[w.heap.size]? = some (.cells C T (0, 0)) ∧ Below w.heap.size w ((w.alloc (.cells Z T)).setRow w.heap.size C) :=
  ⟨setRow_heap _ w.heap.size _ C T _ (heap_alloc_new w _), below_setRow ((Below.refl _ w).alloc (Nat.le_refl _) _) _ (Nat.le_refl _) C⟩

theorem IsSl.view {α : Type} {p : Nat → Nat → List α → Prop} {v : Value} {o : Option (List α)} (h : IsSl p v o) :
    ∃ ao n cap, v = .slice ao n cap ∧ n = (o.getD []).length ∧ ao.isNone = o.isNone ∧ (0 < n → ∃ b off xs, ao = some ⟨b, off, none⟩ ∧ o = some xs ∧ p b off xs) := by
  cases o with
  | none => exact ⟨none, 0, 0, h, rfl, rfl, fun h => by omega⟩
  | some xs =>
    obtain ⟨a, cap, rfl, h⟩ := h
    refine ⟨some a, _, cap, rfl, rfl, rfl, fun hp => ?_⟩
    rcases h with rfl | ⟨b, off, rfl, h⟩
    · simp at hp
    · exact ⟨b, off, xs, rfl, rfl, h⟩

/-- Two boxed arguments. -/
def Bx2 (C1 : Array Value) (T1 : TypeId) (C2 : Array Value) (T2 : TypeId) (w wx : World) : Prop := wx.heap[w.heap.size]? = some (.cells C1 T1 (0, 0)) ∧ wx.heap[w.heap.size + 1]? = some (.cells C2 T2 (0, 0)) ∧ Below w.heap.size w wx
section
variable {C1 C2 : Array Value} {T1 T2 : TypeId} {w wx wy : World}
theorem Bx2.start : Bx2 C1 T1 C2 T2 w ((w.alloc (.cells C1 T1)).alloc (.cells C2 T2)) :=
  ⟨heap_alloc2_old w _ _, heap_alloc2_new w _ _, ((Below.refl w.heap.size w).alloc (Nat.le_refl _) _).alloc (by show _ ≤ (w.heap.push _).size; rw [Array.size_push]; exact Nat.le_succ _) _⟩
theorem Bx2.step (h : Bx2 C1 T1 C2 T2 w wx) (hb : Below wx.heap.size wx wy) : Bx2 C1 T1 C2 T2 w wy :=
  ⟨(hb.block _ (lt_of_block h.1)).trans h.1, (hb.block _ (lt_of_block h.2.1)).trans h.2.1, h.2.2.trans (hb.mono h.2.2.size)⟩
theorem Bx2.c0 (h : Bx2 C1 T1 C2 T2 w wx) (k : Nat) : wx.cell? ⟨w.heap.size, k, none⟩ = C1[k]? := cell_of_row _ _ _ _ _ _ h.1
theorem Bx2.c1 (h : Bx2 C1 T1 C2 T2 w wx) (k : Nat) : wx.cell? ⟨w.heap.size + 1, k, none⟩ = C2[k]? := cell_of_row _ _ _ _ _ _ h.2.1
end
def m5 (d : MsgD) (vc vr : Value) : Array Value := #[.string d.role, .string d.text, .string d.ref, vc, vr]
theorem m5_facts (d : MsgD) (vc vr : Value) : (m5 d vc vr)[0]? = some (.string d.role) ∧ (m5 d vc vr)[1]? = some (.string d.text) ∧ (m5 d vc vr)[2]? = some (.string d.ref) ∧ (m5 d vc vr)[3]? = some vc ∧ (m5 d vc vr)[4]? = some vr := ⟨rfl, rfl, rfl, rfl, rfl⟩
def TrueB (w : World) (e : Ending) (w' : World) : Prop := e = .returned (.bool true) ∧ Below w.heap.size w w'
def c3 (c : CallD) (va : Value) : Array Value := #[.string c.id, .string c.name, va]
def r4 (r : ResD) : Array Value := #[.string r.cid, .string r.name, .string r.con, .bool r.err]
theorem i69 : (Try.prog.info? 69).map (·.size) = some 3 := by kernel_rfl
theorem i50 : (Try.prog.info? 50).map (·.size) = some 3 := by kernel_rfl
theorem i71 : (Try.prog.info? 71).map (·.size) = some 4 := by kernel_rfl
theorem i52 : (Try.prog.info? 52).map (·.size) = some 4 := by kernel_rfl
theorem sl_one (a : Option Addr) (n c : Nat) : (Value.slice a n c).oneCell' = true := rfl
theorem one3 (c : CallD) (a : Option Addr) (n k : Nat) : (c3 c (.slice a n k)).all (·.oneCell') = true := by kernel_rfl
theorem one4 (r : ResD) : (r4 r).all (·.oneCell') = true := by kernel_rfl

set_option maxRecDepth 100000 in
set_option maxHeartbeats 4000000 in
theorem same_msg (d : MsgD) (vc vr vc' vr' : Value) (w : World) (h : MsgSl w (Old w.heap.size) vc vr d) (h' : MsgSl w (Old w.heap.size) vc' vr' d) (hok : MsgOk d) :
    Calls Try.prog 11 #[.agg (m5 d vc vr), .agg (m5 d vc' vr')] w (TrueB w) := by
  have hn1 := fun (w : World) (a : Option Addr) (n c n' c' : Nat) => Lib.run_eql_slice_nil (P := Try.prog) w 32 69 a n c n' c' Try.underlying32
  have hn2 := fun (w : World) (a : Option Addr) (n c n' c' : Nat) => Lib.run_eql_slice_nil (P := Try.prog) w 38 50 a n c n' c' Try.underlying38
  have hn3 := fun (w : World) (a : Option Addr) (n c n' c' : Nat) => Lib.run_eql_slice_nil (P := Try.prog) w 33 71 a n c n' c' Try.underlying33
  have hn4 := fun (w : World) (a : Option Addr) (n c n' c' : Nat) => Lib.run_eql_slice_nil (P := Try.prog) w 39 52 a n c n' c' Try.underlying39
  obtain ⟨hc, hr⟩ := h
  obtain ⟨hc', hr'⟩ := h'
  obtain ⟨p, n, cap, rfl, ln, en, hcs⟩ := hc.view
  obtain ⟨p', n', cap', rfl, ln', en', hcs'⟩ := hc'.view
  obtain ⟨s, m, kap, rfl, lm, em, hrs⟩ := hr.view
  obtain ⟨s', m', kap', rfl, lm', em', hrs'⟩ := hr'.view
  obtain rfl : n' = n := ln'.trans ln.symm
  obtain rfl : m' = m := lm'.trans lm.symm
  have nl : n' ≤ 1048576 := by
    cases e : d.calls with
    | none => rw [e] at ln; simp at ln; omega
    | some cs => rw [e] at ln; have := (hok.1 cs e).1; simp at ln; omega
  have ml : m' ≤ 1048576 := by
    cases e : d.res with
    | none => rw [e] at lm; simp at lm; omega
    | some cs => rw [e] at lm; have := (hok.2 cs e).1; simp at lm; omega
  have H1 := hidden hcs
  have H2 := hidden hcs'
  have H3 := hidden hrs
  have H4 := hidden hrs'
  have L1 := hidden ln
  have L3 := hidden lm
  have HO := hidden hok
  clear hcs hcs' hrs hrs' ln ln' lm lm' hc hr hc' hr' hok
  obtain ⟨a0, a1, a2, a3, a4⟩ := m5_facts d (.slice p n' cap) (.slice s m' kap)
  obtain ⟨b0, b1, b2, b3, b4⟩ := m5_facts d (.slice p' n' cap') (.slice s' m' kap')
  go_enter Try.func11, Try.ntmps11
  go_upto_region 1 with fail
  have hL : Bx2 (m5 d (.slice p n' cap) (.slice s m' kap)) 35 (m5 d (.slice p' n' cap') (.slice s' m' kap')) 41 w _ := Bx2.start
  generalize World.alloc _ _ = w2 at hL ⊢
  have hcel0 : ∀ (wx : World) (k : Nat), Bx2 (m5 d (.slice p n' cap) (.slice s m' kap)) 35 (m5 d (.slice p' n' cap') (.slice s' m' kap')) 41 w wx → wx.cell? ⟨w.heap.size, k, none⟩ = (m5 d (.slice p n' cap) (.slice s m' kap))[k]? := fun wx k h => h.c0 k
  have hcel1 : ∀ (wx : World) (k : Nat), Bx2 (m5 d (.slice p n' cap) (.slice s m' kap)) 35 (m5 d (.slice p' n' cap') (.slice s' m' kap')) 41 w wx → wx.cell? ⟨w.heap.size + 1, k, none⟩ = (m5 d (.slice p' n' cap') (.slice s' m' kap'))[k]? := fun wx k h => h.c1 k
  go_wp2_with fail
  go_loopw [5] (fun v wr => ∃ k : Nat, k ≤ n' ∧ v = .int .i64 k ∧ Bx2 (m5 d (.slice p n' cap) (.slice s m' kap)) 35 (m5 d (.slice p' n' cap') (.slice s' m' kap')) 41 w wr) (fun v _ => n' - (intOf v).toNat)
  case atStart => exact ⟨0, Nat.zero_le _, rfl, hL⟩
  case round =>
    clear hL
    obtain ⟨k, hk, rfl, hL⟩ := hrel
    by_cases hlt : k < n'
    · obtain ⟨b, off, cs, rfl, e1, hat⟩ := H1.out (by omega)
      obtain ⟨b', off', cs', rfl, e2, hat'⟩ := H2.out (by omega)
      obtain rfl : cs' = cs := by rw [e1] at e2; cases e2; rfl
      have ll : cs'.length = n' := by have := L1.out; rw [e1] at this; exact this.symm
      obtain ⟨c, hx⟩ : ∃ c, cs'[k]? = some c := ⟨_, List.getElem?_eq_getElem (by omega)⟩
      have hco : ArgsOk c.args := ((HO.out.1 cs' e1).2 c (List.mem_of_getElem? hx)).2.2
      obtain ⟨⟨u0, u1, u2⟩, q0, q1, va, q2, hva⟩ := hat k c hx
      obtain ⟨⟨u0', u1', u2'⟩, q0', q1', va', q2', hva'⟩ := hat' k c hx
      have x0 : wr.cell? ⟨b, off + k * 3, none⟩ = some (.string c.id) := (hL.2.2.cell (p := ⟨b, _, none⟩) u0).trans q0
      have x1 : wr.cell? ⟨b, off + k * 3 + 1, none⟩ = some (.string c.name) := (hL.2.2.cell (p := ⟨b, _, none⟩) u1).trans q1
      have x2 : wr.cell? ⟨b, off + k * 3 + 2, none⟩ = some va := (hL.2.2.cell (p := ⟨b, _, none⟩) u2).trans q2
      have y0 : ∀ wx : World, Below w.heap.size w wx → wx.cell? ⟨b', off' + k * 3, none⟩ = some (.string c.id) := fun wx h => (h.cell (p := ⟨b', _, none⟩) u0').trans q0'
      have y1 : ∀ wx : World, Below w.heap.size w wx → wx.cell? ⟨b', off' + k * 3 + 1, none⟩ = some (.string c.name) := fun wx h => (h.cell (p := ⟨b', _, none⟩) u1').trans q1'
      have y2 : ∀ wx : World, Below w.heap.size w wx → wx.cell? ⟨b', off' + k * 3 + 2, none⟩ = some va' := fun wx h => (h.cell (p := ⟨b', _, none⟩) u2').trans q2'
      have HV := hidden hva
      have HV' := hidden hva'
      obtain ⟨pa, na, ca, rfl, hna, hnb, hnc⟩ := hva.view
      obtain ⟨pa', na', ca', rfl, hna', hnb', hnc'⟩ := hva'.view
      clear hna hnb hnc hna' hnb' hnc'
      clear hva hva' q0 q1 q2 q0' q1' q2' u0 u1 u2 u0' u1' u2' hat hat' e1 e2
      have hi : (k : Int) < (n' : Int) := by omega
      have f3 := (hL.c0 3).trans a3
      clear hcel0 hcel1
      go_wp2_with (first
        | (refine wpList_store_row rfl 69 (.tmp 6) (.tmp 57) rfl wr.heap.size (c3 c (.slice pa na ca)) rfl rfl 69 _ (heap_alloc_new wr _) i69 rfl (one3 c _ _ _) ?_
           obtain ⟨hX, hBX⟩ := var_row wr #[.string ⟨#[]⟩, .string ⟨#[]⟩, .slice none 0 0] (c3 c (.slice pa na ca)) 69
           generalize World.setRow _ _ _ = w3 at hX hBX ⊢
           replace hL := hL.step hBX
           replace y0 := y0 w3 hL.2.2
           replace y1 := y1 w3 hL.2.2
           replace y2 := y2 w3 hL.2.2
           have g3 := (hL.c1 3).trans b3)
        | (refine wpList_store_row rfl 50 (.tmp 7) (.tmp 62) rfl w3.heap.size (c3 c (.slice pa' na' ca')) rfl rfl 50 _ (heap_alloc_new w3 _) i50 rfl (one3 c _ _ _) ?_
           obtain ⟨hY, hBY⟩ := var_row w3 #[.string ⟨#[]⟩, .string ⟨#[]⟩, .slice none 0 0] (c3 c (.slice pa' na' ca')) 50
           generalize World.setRow _ _ _ = w4 at hY hBY ⊢
           replace hL := hL.step hBY
           replace hX := (hBY.block _ (lt_of_block hX)).trans hX
           have z0 := (cell_of_row _ wr.heap.size 0 _ 69 _ hX).trans (show _ = some (Value.string c.id) from rfl)
           have z1 := (cell_of_row _ wr.heap.size 1 _ 69 _ hX).trans (show _ = some (Value.string c.name) from rfl)
           have z2 := (cell_of_row _ wr.heap.size 2 _ 69 _ hX).trans (show _ = some (Value.slice pa na ca) from rfl)
           have t0 := (cell_of_row _ w3.heap.size 0 _ 50 _ hY).trans (show _ = some (Value.string c.id) from rfl)
           have t1 := (cell_of_row _ w3.heap.size 1 _ 50 _ hY).trans (show _ = some (Value.string c.name) from rfl)
           have t2 := (cell_of_row _ w3.heap.size 2 _ 50 _ hY).trans (show _ = some (Value.slice pa' na' ca') from rfl))
        | (go_at_call 20; refine (same_bytes _ _ c.args _ _ _ (HV.out.now hL.2.2) (HV'.out.now hL.2.2) hco).mono ?_; rintro e w5 ⟨rfl, hB5⟩; replace hL := hL.step hB5)
        | fail)
      go_roundw
      case rel => exact ⟨k + 1, by omega, by go_num, hL⟩
      case measure => simp [intOf]; omega
    · have hi : ¬ (k : Int) < (n' : Int) := by omega
      go_wp2_with fail
      clear hk hlt hi
      go_loopw [8] (fun v wr => ∃ k : Nat, k ≤ m' ∧ v = .int .i64 k ∧ Bx2 (m5 d (.slice p n' cap) (.slice s m' kap)) 35 (m5 d (.slice p' n' cap') (.slice s' m' kap')) 41 w wr) (fun v _ => m' - (intOf v).toNat)
      case atStart => exact ⟨0, Nat.zero_le _, rfl, hL⟩
      case round =>
        clear hL
        obtain ⟨k2, hk2, rfl, hL⟩ := hrel
        by_cases hlt : k2 < m'
        · obtain ⟨b, off, cs, rfl, e1, hat⟩ := H3.out (by omega)
          obtain ⟨b', off', cs', rfl, e2, hat'⟩ := H4.out (by omega)
          obtain rfl : cs' = cs := by rw [e1] at e2; cases e2; rfl
          have ll : cs'.length = m' := by have := L3.out; rw [e1] at this; exact this.symm
          obtain ⟨c, hx⟩ : ∃ c, cs'[k2]? = some c := ⟨_, List.getElem?_eq_getElem (by omega)⟩
          obtain ⟨⟨u0, u1, u2, u3⟩, q0, q1, q2, q3⟩ := hat k2 c hx
          obtain ⟨⟨u0', u1', u2', u3'⟩, q0', q1', q2', q3'⟩ := hat' k2 c hx
          have x0 : wr.cell? ⟨b, off + k2 * 4, none⟩ = some (.string c.cid) := (hL.2.2.cell (p := ⟨b, _, none⟩) u0).trans q0
          have x1 : wr.cell? ⟨b, off + k2 * 4 + 1, none⟩ = some (.string c.name) := (hL.2.2.cell (p := ⟨b, _, none⟩) u1).trans q1
          have x2 : wr.cell? ⟨b, off + k2 * 4 + 2, none⟩ = some (.string c.con) := (hL.2.2.cell (p := ⟨b, _, none⟩) u2).trans q2
          have x3 : wr.cell? ⟨b, off + k2 * 4 + 3, none⟩ = some (.bool c.err) := (hL.2.2.cell (p := ⟨b, _, none⟩) u3).trans q3
          have y0 : ∀ wx : World, Below w.heap.size w wx → wx.cell? ⟨b', off' + k2 * 4, none⟩ = some (.string c.cid) := fun wx h => (h.cell (p := ⟨b', _, none⟩) u0').trans q0'
          have y1 : ∀ wx : World, Below w.heap.size w wx → wx.cell? ⟨b', off' + k2 * 4 + 1, none⟩ = some (.string c.name) := fun wx h => (h.cell (p := ⟨b', _, none⟩) u1').trans q1'
          have y2 : ∀ wx : World, Below w.heap.size w wx → wx.cell? ⟨b', off' + k2 * 4 + 2, none⟩ = some (.string c.con) := fun wx h => (h.cell (p := ⟨b', _, none⟩) u2').trans q2'
          have y3 : ∀ wx : World, Below w.heap.size w wx → wx.cell? ⟨b', off' + k2 * 4 + 3, none⟩ = some (.bool c.err) := fun wx h => (h.cell (p := ⟨b', _, none⟩) u3').trans q3'
          clear q0 q1 q2 q3 q0' q1' q2' q3' u0 u1 u2 u3 u0' u1' u2' u3' hat hat' e1 e2
          have hi : (k2 : Int) < (m' : Int) := by omega
          have f4 := (hL.c0 4).trans a4
          clear hcel0 hcel1
          go_wp2_with (first
            | (refine wpList_store_row rfl 71 (.tmp 9) (.tmp 110) rfl wr.heap.size (r4 c) rfl rfl 71 _ (heap_alloc_new wr _) i71 rfl (one4 c) ?_
               obtain ⟨hX, hBX⟩ := var_row wr #[.string ⟨#[]⟩, .string ⟨#[]⟩, .string ⟨#[]⟩, .bool false] (r4 c) 71
               generalize World.setRow _ _ _ = w3 at hX hBX ⊢
               replace hL := hL.step hBX
               replace y0 := y0 w3 hL.2.2
               replace y1 := y1 w3 hL.2.2
               replace y2 := y2 w3 hL.2.2
               replace y3 := y3 w3 hL.2.2
               have g4 := (hL.c1 4).trans b4)
            | (refine wpList_store_row rfl 52 (.tmp 10) (.tmp 115) rfl w3.heap.size (r4 c) rfl rfl 52 _ (heap_alloc_new w3 _) i52 rfl (one4 c) ?_
               obtain ⟨hY, hBY⟩ := var_row w3 #[.string ⟨#[]⟩, .string ⟨#[]⟩, .string ⟨#[]⟩, .bool false] (r4 c) 52
               generalize World.setRow _ _ _ = w4 at hY hBY ⊢
               replace hL := hL.step hBY
               replace hX := (hBY.block _ (lt_of_block hX)).trans hX
               have z0 := (cell_of_row _ wr.heap.size 0 _ 71 _ hX).trans (show _ = some (Value.string c.cid) from rfl)
               have z1 := (cell_of_row _ wr.heap.size 1 _ 71 _ hX).trans (show _ = some (Value.string c.name) from rfl)
               have z2 := (cell_of_row _ wr.heap.size 2 _ 71 _ hX).trans (show _ = some (Value.string c.con) from rfl)
               have z3 := (cell_of_row _ wr.heap.size 3 _ 71 _ hX).trans (show _ = some (Value.bool c.err) from rfl)
               have t0 := (cell_of_row _ w3.heap.size 0 _ 52 _ hY).trans (show _ = some (Value.string c.cid) from rfl)
               have t1 := (cell_of_row _ w3.heap.size 1 _ 52 _ hY).trans (show _ = some (Value.string c.name) from rfl)
               have t2 := (cell_of_row _ w3.heap.size 2 _ 52 _ hY).trans (show _ = some (Value.string c.con) from rfl)
               have t3 := (cell_of_row _ w3.heap.size 3 _ 52 _ hY).trans (show _ = some (Value.bool c.err) from rfl))
            | fail)
          go_roundw
          case rel => exact ⟨k2 + 1, by omega, by go_num, hL⟩
          case measure => simp [intOf]; omega
        · have hi : ¬ (k2 : Int) < (m' : Int) := by omega
          go_wp2_with fail
          go_ret
          exact ⟨rfl, hL.2.2⟩
end Go.Proofs.Qxb6618675a
