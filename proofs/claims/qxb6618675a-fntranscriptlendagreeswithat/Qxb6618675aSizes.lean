/-
  THE WALK of sizesOf; what a list of messages counts in all.
-/
import Derived.Test.Qxb6618675aMks
namespace Go.Proofs.Qxb6618675a
open Go.RowKit
set_option linter.unusedSimpArgs false

def lenO {α : Type} (o : Option (List α)) : Nat := (o.getD []).length
def argsL (cs : List CallD) : Nat := (cs.map fun c => lenO c.args).sum
def callsN (d : MsgD) : Nat := lenO d.calls
def resN (d : MsgD) : Nat := lenO d.res
def argsN (d : MsgD) : Nat := argsL (d.calls.getD [])
def sumN (f : MsgD → Nat) (ds : List MsgD) : Nat := (ds.map f).sum
theorem take_succ {α : Type} {l : List α} {k : Nat} {x : α} (h : l[k]? = some x) : l.take (k + 1) = l.take k ++ [x] := by
  rw [List.take_add_one, h]; rfl
theorem sumN_take {f : MsgD → Nat} {ds : List MsgD} {k : Nat} {d : MsgD} (h : ds[k]? = some d) : sumN f (ds.take (k + 1)) = sumN f (ds.take k) + f d := by
  unfold sumN; rw [take_succ h]; simp
theorem sum_take_le (l : List Nat) (k : Nat) : (l.take k).sum ≤ l.sum := by
  have := congrArg List.sum (List.take_append_drop k l)
  rw [List.sum_append] at this
  omega
theorem sumN_le (f : MsgD → Nat) (ds : List MsgD) (k : Nat) : sumN f (ds.take k) ≤ sumN f ds := by
  unfold sumN; rw [List.map_take]; exact sum_take_le _ _
theorem argsL_take {cs : List CallD} {k : Nat} {c : CallD} (h : cs[k]? = some c) : argsL (cs.take (k + 1)) = argsL (cs.take k) + lenO c.args := by
  unfold argsL; rw [take_succ h]; simp
theorem argsL_le (cs : List CallD) (k : Nat) : argsL (cs.take k) ≤ argsL cs := by
  unfold argsL; rw [List.map_take]; exact sum_take_le _ _
theorem argsL_one {cs : List CallD} {c : CallD} (h : c ∈ cs) : lenO c.args ≤ argsL cs := by
  obtain ⟨k, hk⟩ := List.mem_iff_getElem?.1 h
  have := argsL_take hk
  have := argsL_le cs (k + 1)
  omega
theorem sumN_one {f : MsgD → Nat} {ds : List MsgD} {d : MsgD} (h : d ∈ ds) : f d ≤ sumN f ds := by
  obtain ⟨k, hk⟩ := List.mem_iff_getElem?.1 h
  have := sumN_take (f := f) hk
  have := sumN_le f ds (k + 1)
  omega
/-- Within the bound, each and in all. -/
def Small (ds : List MsgD) : Prop := ds.length ≤ 1048576 ∧ (∀ d ∈ ds, MsgOk d) ∧ sumN callsN ds ≤ 1048576 ∧ sumN resN ds ≤ 1048576 ∧ sumN argsN ds ≤ 1048576

def n4 (s1 s2 s3 s4 : Nat) : Array Value := #[.int .i64 s1, .int .i64 s2, .int .i64 s3, .int .i64 s4]
/-- sizesOf's own blocks: the result's variable and the counts. -/
def Sz (s1 s2 s3 s4 : Nat) (w wx : World) : Prop := wx.heap[w.heap.size]? = some (.cells (n4 0 0 0 0) 74 (0, 0)) ∧ wx.heap[w.heap.size + 1]? = some (.cells (n4 s1 s2 s3 s4) 74 (0, 0)) ∧ Below w.heap.size w wx
section
variable {s1 s2 s3 s4 : Nat} {w wx wy : World}
theorem Sz.step (h : Sz s1 s2 s3 s4 w wx) (hb : Below wx.heap.size wx wy) : Sz s1 s2 s3 s4 w wy :=
  ⟨(hb.block _ (lt_of_block h.1)).trans h.1, (hb.block _ (lt_of_block h.2.1)).trans h.2.1, h.2.2.trans (hb.mono h.2.2.size)⟩
theorem Sz.c (h : Sz s1 s2 s3 s4 w wx) (k : Nat) : wx.cell? ⟨w.heap.size + 1, k, none⟩ = (n4 s1 s2 s3 s4)[k]? := cell_of_row _ _ _ _ _ _ h.2.1
theorem Sz.f (h : Sz s1 s2 s3 s4 w wx) (k : Nat) : wx.frozen? ⟨w.heap.size + 1, k, none⟩ = false := frozen_of_row _ _ _ _ _ h.2.1
theorem Sz.lt (h : Sz s1 s2 s3 s4 w wx) : w.heap.size + 2 ≤ wx.heap.size := lt_of_block h.2.1
theorem Sz.set {t1 t2 t3 t4 : Nat} {k : Nat} {v : Value} (h : Sz s1 s2 s3 s4 w wx) (e : (n4 s1 s2 s3 s4).setIfInBounds k v = n4 t1 t2 t3 t4) : Sz t1 t2 t3 t4 w (wx.setCell ⟨w.heap.size + 1, k, none⟩ v) :=
  ⟨(block_setCell (by omega)).trans h.1, e ▸ heap_setCell_same _ _ _ _ _ _ h.2.1, below_setCell h.2.2 (by omega) k v⟩
end
theorem i74 : (Try.prog.info? 74).map (·.size) = some 4 := by kernel_rfl
theorem Sz.start (s : Nat) (w : World) : Sz s 0 0 0 w (((w.alloc (.cells (n4 0 0 0 0) 74)).alloc (.cells (n4 0 0 0 0) 74)).setRow (w.heap.size + 1) (n4 s 0 0 0)) := by
  have h0 := heap_alloc2_old w (.cells (n4 0 0 0 0) 74) (.cells (n4 0 0 0 0) 74)
  have h1 := heap_alloc2_new w (.cells (n4 0 0 0 0) 74) (.cells (n4 0 0 0 0) 74)
  have hb : Below w.heap.size w ((w.alloc (.cells (n4 0 0 0 0) 74)).alloc (.cells (n4 0 0 0 0) 74)) := ((Below.refl w.heap.size w).alloc (Nat.le_refl _) _).alloc (by show _ ≤ (w.heap.push _).size; rw [Array.size_push]; exact Nat.le_succ _) _
  refine ⟨?_, setRow_heap _ _ _ _ 74 _ h1, below_setRow hb _ (by omega) _⟩
  exact ((below_setRow (Below.refl (w.heap.size + 1) _) (w.heap.size + 1) (Nat.le_refl _) _).block _ (Nat.lt_succ_self _)).trans h0
def SzPost (ds : List MsgD) (w : World) (E : Ending) (w' : World) : Prop := E = .returned (.agg (n4 ds.length (sumN callsN ds) (sumN resN ds) (sumN argsN ds))) ∧ Below w.heap.size w w'
theorem take_all {ds : List MsgD} {k : Nat} (h : k = ds.length) : ds.take k = ds := by rw [h]; exact List.take_length

set_option maxRecDepth 100000 in
set_option maxHeartbeats 8000000 in
theorem sizes_of (ds : List MsgD) (v : Value) (w : World) (h : IsOld w v ds) (hsm : Small ds) : Calls Try.prog 22 #[v] w (SzPost ds w) := by
  obtain ⟨a, cap, rfl, hds, _, _⟩ := h
  have HB := hidden hds
  have HS := hidden hsm
  have hn := hsm.1
  clear hds hsm
  obtain ⟨len, hlen⟩ : ∃ len, ds.length = len := ⟨_, rfl⟩
  rw [hlen] at hn ⊢
  go_enter Try.func22, Try.ntmps22
  go_wp2_with (first
    | (refine wpList_store_row rfl 74 (.tmp 3) (.tmp 10) rfl (w.heap.size + 1) (n4 len 0 0 0) rfl rfl 74 _ (heap_alloc2_new w _ _) i74 rfl (by kernel_rfl) ?_
       have hZ := Sz.start len w)
    | fail)
  go_loopw [13] (fun iv wr => ∃ k : Nat, k ≤ len ∧ iv = .int .i64 k ∧ Sz len (sumN callsN (ds.take k)) (sumN resN (ds.take k)) (sumN argsN (ds.take k)) w wr) (fun iv _ => len - (intOf iv).toNat)
  case atStart => exact ⟨0, Nat.zero_le _, rfl, hZ⟩
  case round =>
    clear hZ
    obtain ⟨k, hk, rfl, hZ⟩ := hrel
    by_cases hlt : k < len
    · obtain ⟨b, off, rfl, hat⟩ : ∃ b off, a = some ⟨b, off, none⟩ ∧ MsgsAt w (Old w.heap.size) (Old w.heap.size) b off ds := HB.out.resolve_left (fun h => by rw [h] at hlen; simp at hlen; omega)
      obtain ⟨d, hx⟩ : ∃ d, ds[k]? = some d := ⟨_, List.getElem?_eq_getElem (by omega)⟩
      obtain ⟨⟨u0, u1, u2, u3, u4⟩, q0, q1, q2, vc, vr, q3, q4, hm⟩ := hat k d hx
      have hbel := hZ.2.2
      replace q0 := (hbel.cell (p := ⟨b, _, none⟩) u0).trans q0
      replace q1 := (hbel.cell (p := ⟨b, _, none⟩) u1).trans q1
      replace q2 := (hbel.cell (p := ⟨b, _, none⟩) u2).trans q2
      replace q3 := (hbel.cell (p := ⟨b, _, none⟩) u3).trans q3
      replace q4 := (hbel.cell (p := ⟨b, _, none⟩) u4).trans q4
      obtain ⟨p, n, cp, rfl, ln, en, hcs⟩ := IsSl.view hm.1
      obtain ⟨s, m, kp, rfl, lm, em, hrs⟩ := IsSl.view hm.2
      have e2 := sumN_take (f := callsN) hx
      have e3 := sumN_take (f := resN) hx
      have e4 := sumN_take (f := argsN) hx
      have m2 := sumN_le callsN ds (k + 1)
      have m3 := sumN_le resN ds (k + 1)
      have m4 := sumN_le argsN ds (k + 1)
      obtain ⟨_, _, c2, c3, c4⟩ := HS.out
      have y2 : callsN d = n := ln.symm
      have y3 : resN d = m := lm.symm
      generalize hs2 : sumN callsN (ds.take k) = t2 at hZ e2
      generalize hs3 : sumN resN (ds.take k) = t3 at hZ e3
      generalize hs4 : sumN argsN (ds.take k) = t4 at hZ e4
      have HC := hidden hcs
      have HX := hidden hx
      have bn : t2 + n ≤ 1048576 := by omega
      have bm : t3 + m ≤ 1048576 := by omega
      have ba : t4 + argsN d ≤ 1048576 := by omega
      have HE := hidden (And.intro e2 (And.intro e3 e4))
      have HY := hidden (And.intro y2 y3)
      have HL := hidden ln
      clear hcs hrs ln lm en em hat hm e2 e3 e4 m2 m3 m4 c2 c3 c4 y2 y3 hs2 hs3 hs4 hx u0 u1 u2 u3 u4
      have hi : (k : Int) < (len : Int) := by omega
      go_wp2_with (first
        | (refine wpList_store_row rfl 35 (.tmp 5) (.tmp 16) rfl wr.heap.size (m5 d (.slice p n cp) (.slice s m kp)) rfl rfl 35 _ (heap_alloc_new wr _) i35 rfl (one5 d rfl rfl) ?_
           obtain ⟨hX, hBX⟩ := var_row wr z35 (m5 d (.slice p n cp) (.slice s m kp)) 35
           unfold z35 at hX hBX
           generalize World.setRow _ _ _ = w3 at hX hBX ⊢
           have hXne : wr.heap.size ≠ w.heap.size + 1 := by have := hZ.lt; omega
           replace hZ := hZ.step hBX
           have f1 := (hZ.c 1).trans (show _ = some (Value.int .i64 (t2 : Int)) from rfl)
           have f2 := (hZ.c 2).trans (show _ = some (Value.int .i64 (t3 : Int)) from rfl)
           have g1 := hZ.f 1
           have g2 := hZ.f 2
           have z3 := (cell_of_row _ wr.heap.size 3 _ 35 _ hX).trans (show _ = some (Value.slice p n cp) from rfl)
           have z4 := (cell_of_row _ wr.heap.size 4 _ 35 _ hX).trans (show _ = some (Value.slice s m kp) from rfl))
        | fail)
      have hZ1 := (hZ.set (k := 1) (v := .int .i64 ((t2 : Int) + (n : Int))) (t1 := len) (t2 := t2 + n) (t3 := t3) (t4 := t4) (by simp [n4])).set (k := 2) (v := .int .i64 ((t3 : Int) + (m : Int))) (t1 := len) (t2 := t2 + n) (t3 := t3 + m) (t4 := t4) (by simp [n4])
      clear hZ hX hBX f1 f2 g1 g2 z3 z4 hXne
      go_loopw [34] (fun jv wq => ∃ j : Nat, j ≤ n ∧ jv = .int .i64 j ∧ Sz len (t2 + n) (t3 + m) (t4 + argsL ((d.calls.getD []).take j)) w wq) (fun jv _ => n - (intOf jv).toNat)
      case atStart => exact ⟨0, Nat.zero_le _, rfl, hZ1⟩
      case round =>
        clear hZ1
        obtain ⟨j, hj, rfl, hZ⟩ := hrel
        by_cases hjn : j < n
        · obtain ⟨b2, off2, cs, rfl, ec, hcat⟩ := HC.out (by omega)
          have hcl : cs.length = n := by have := HL.out; rw [ec] at this; exact this.symm
          obtain ⟨c, hc⟩ : ∃ c, cs[j]? = some c := ⟨_, List.getElem?_eq_getElem (by omega)⟩
          obtain ⟨⟨u0, u1, u2⟩, q0, q1, va, q2, hva⟩ := hcat j c hc
          have hbel := hZ.2.2
          replace q0 := (hbel.cell (p := ⟨b2, _, none⟩) u0).trans q0
          replace q1 := (hbel.cell (p := ⟨b2, _, none⟩) u1).trans q1
          replace q2 := (hbel.cell (p := ⟨b2, _, none⟩) u2).trans q2
          obtain ⟨pa, na, ca, rfl, lna, _, _⟩ := IsSl.view hva
          have e1 : argsL ((d.calls.getD []).take (j + 1)) = argsL ((d.calls.getD []).take j) + na := by rw [ec]; rw [lna]; exact argsL_take hc
          have e2 : argsL ((d.calls.getD []).take (j + 1)) ≤ argsN d := argsL_le _ _
          generalize argsL ((d.calls.getD []).take j) = tj at hZ e1
          have bj : t4 + tj + na ≤ 1048576 := by omega
          have HE2 := hidden e1
          clear hva lna ec hcat hc e1 e2 u0 u1 u2 hcl
          have hi2 : (j : Int) < (n : Int) := by omega
          go_wp2_with (first
            | (refine wpList_store_row rfl 69 (.tmp 7) (.tmp 37) rfl wr.heap.size (c3 c (.slice pa na ca)) rfl rfl 69 _ (heap_alloc_new wr _) i69 rfl (one3 c _ _ _) ?_
               obtain ⟨hX, hBX⟩ := var_row wr #[.string ⟨#[]⟩, .string ⟨#[]⟩, .slice none 0 0] (c3 c (.slice pa na ca)) 69
               generalize World.setRow _ _ _ = w3' at hX hBX ⊢
               have hXne : wr.heap.size ≠ w.heap.size + 1 := by have := hZ.lt; omega
               replace hZ := hZ.step hBX
               have f3 := (hZ.c 3).trans (show _ = some (Value.int .i64 ((t4 + tj : Nat) : Int)) from rfl)
               have g3 := hZ.f 3
               have z2 := (cell_of_row _ wr.heap.size 2 _ 69 _ hX).trans (show _ = some (Value.slice pa na ca) from rfl))
            | fail)
          go_roundw
          case rel =>
            refine ⟨j + 1, by omega, by go_num, ?_⟩
            rw [HE2.out]
            exact hZ.set (k := 3) (v := .int .i64 ((t4 : Int) + (tj : Int) + (na : Int))) (by simp [n4]; omega)
          case measure => simp [intOf]; omega
        · have hi2 : ¬ (j : Int) < (n : Int) := by omega
          have hjn' : j = n := by omega
          have ea : argsL ((d.calls.getD []).take j) = argsN d := by
            unfold argsN
            rw [List.take_of_length_le]
            have := HL.out
            omega
          rw [ea] at hZ
          go_wp2_with fail
          go_roundw
          case rel =>
            refine ⟨k + 1, by omega, by go_num, ?_⟩
            obtain ⟨e2, e3, e4⟩ := HE.out
            obtain ⟨y2, y3⟩ := HY.out
            rw [e2, e3, e4, y2, y3]
            exact hZ
          case measure => simp [intOf]; omega
    · have hi : ¬ (k : Int) < (len : Int) := by omega
      obtain rfl : k = len := by omega
      rw [take_all hlen.symm] at hZ
      go_wp2_with (first
        | (refine wpList_load_row rfl 74 (.tmp 3) rfl (w.heap.size + 1) rfl 74 (n4 k (sumN callsN ds) (sumN resN ds) (sumN argsN ds)) (0, 0) _ hZ.2.1 Try.underlying74 rfl i74 ?_)
        | (refine wpList_store_row rfl 74 (.tmp 2) (.tmp 47) rfl w.heap.size (n4 k (sumN callsN ds) (sumN resN ds) (sumN argsN ds)) rfl rfl 74 _ hZ.1 i74 rfl (by kernel_rfl) ?_)
        | fail)
      have hrow := setRow_heap wr w.heap.size _ (n4 k (sumN callsN ds) (sumN resN ds) (sumN argsN ds)) 74 _ hZ.1
      refine bodyPost_ret (v := .agg (n4 k (sumN callsN ds) (sumN resN ds) (sumN argsN ds))) ?_ rfl ⟨by rw [hlen], below_setRow hZ.2.2 _ (Nat.le_refl _) _⟩
      exact results_cell_row rfl _ _ w.heap.size 74 (n4 k (sumN callsN ds) (sumN resN ds) (sumN argsN ds)) (0, 0) _ rfl hrow rfl rfl i74
end Go.Proofs.Qxb6618675a
