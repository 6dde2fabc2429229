/-
  THE LAW's OWN WALK.
-/
import Derived.Test.Qxb6618727aWalkC
import Derived.Deep.RegionWith
import Derived.Deep.DeepCutAuto
import Derived.OpenShut
namespace Go.Proofs.Qxb6618727a
open Go.RowKit

/-- The two boxed arguments lie in the call's first two blocks; nothing old has turned. -/
def Boxed (oa ob : Obj) (w wx : World) : Prop := wx.heap[w.heap.size]? = some oa ∧ wx.heap[w.heap.size + 1]? = some ob ∧ Below w.heap.size w wx
theorem Boxed.start (oa ob : Obj) (w : World) : Boxed oa ob w ((w.alloc oa).alloc ob) := by
  refine ⟨?_, ?_, ((Below.refl _ _).alloc (Nat.le_refl _) _).alloc (by simp) _⟩
  · rw [Below.heap_alloc _ _ _ (by simp)]; exact heap_alloc_new _ _
  · have := heap_alloc_new (w.alloc oa) ob
    simpa using this
theorem Boxed.below {oa ob : Obj} {w wx wy : World} (h : Boxed oa ob w wx) (hb : Below wx.heap.size wx wy) : Boxed oa ob w wy := by
  obtain ⟨h1, h2, h3⟩ := h
  exact ⟨(hb.block _ (lt_of_block h1)).trans h1, (hb.block _ (lt_of_block h2)).trans h2, h3.trans (hb.mono h3.size)⟩
theorem Boxed.alloc {oa ob : Obj} {w wx : World} (h : Boxed oa ob w wx) (o : Obj) : Boxed oa ob w (wx.alloc o) := h.below ((Below.refl _ _).alloc (Nat.le_refl _) _)
theorem Boxed.drew {oa ob : Obj} {w wx : World} (h : Boxed oa ob w wx) : Boxed oa ob w wx.drew := h.below (Below.drew (Below.refl _ _))
theorem Boxed.cells {nm ho : ByteArray} {a : Option Addr} {la ca : Nat} {cp me : Int} {nm' ho' : ByteArray} {b : Option Addr} {lb cb : Nat} {cp' me' : Int} {w wx : World} (h : Boxed (Spc nm ho a la ca cp me) (Spc nm' ho' b lb cb cp' me') w wx) :
    wx.cell? ⟨w.heap.size, 0, none⟩ = some (.string nm) ∧ wx.cell? ⟨w.heap.size, 1, none⟩ = some (.string ho) ∧ wx.cell? ⟨w.heap.size, 2, none⟩ = some (.slice a la ca) ∧ wx.cell? ⟨w.heap.size, 3, none⟩ = some (.int .i64 cp) ∧ wx.cell? ⟨w.heap.size, 4, none⟩ = some (.int .u64 me) ∧
    wx.cell? ⟨w.heap.size + 1, 0, none⟩ = some (.string nm') ∧ wx.cell? ⟨w.heap.size + 1, 1, none⟩ = some (.string ho') ∧ wx.cell? ⟨w.heap.size + 1, 2, none⟩ = some (.slice b lb cb) ∧ wx.cell? ⟨w.heap.size + 1, 3, none⟩ = some (.int .i64 cp') ∧ wx.cell? ⟨w.heap.size + 1, 4, none⟩ = some (.int .u64 me') := by
  obtain ⟨h1, h2, _⟩ := h
  unfold Spc at h1 h2
  simp [World.cell?, h1, h2]

set_option maxRecDepth 100000 in
set_option maxHeartbeats 4000000 in
theorem walk (c m : Int) (nm ho : ByteArray) (a : Option Addr) (la ca : Nat) (cp me : Int) (nm' ho' : ByteArray) (b : Option Addr) (lb cb : Nat) (cp' me' : Int) (w : World) (ha : IsStrs w w.heap.size a la) (hb : IsStrs w w.heap.size b lb)
    (wc_wf : (Lit.int .i64 c).wf = true) (wm : (Lit.int .u64 m).wf = true) :
    Calls Try.prog 3 #[.int .i64 c, .int .u64 m, .agg #[.string nm, .string ho, .slice a la ca, .int .i64 cp, .int .u64 me], .agg #[.string nm', .string ho', .slice b lb cb, .int .i64 cp', .int .u64 me']] w fun e w' => e = .returned (.bool true) ∧ Below w.heap.size w w' := by
  have b0 := Boxed.start (Spc nm ho a la ca cp me) (Spc nm' ho' b lb cb cp' me') w
  have H6 := hidden (bytes_any c m nm ho a la ca cp me nm' ho' b lb cb cp' me' ((w.alloc (Spc nm ho a la ca cp me)).alloc (Spc nm' ho' b lb cb cp' me')) ((ha.below b0.2.2).up b0.2.2.size) ((hb.below b0.2.2).up b0.2.2.size))
  have HA := hidden ha
  have HB := hidden hb
  clear ha hb
  go_enter Try.func3, Try.ntmps3
  go_wp2_with fail
  refine H6.out.mono ?_
  rintro e w1 ⟨⟨r, rfl⟩, rfl⟩
  have b1 := (b0.alloc (Spc nm ho a la ca cp me)).alloc (Spc nm' ho' b lb cb cp' me')
  generalize (((w.alloc (Spc nm ho a la ca cp me)).alloc (Spc nm' ho' b lb cb cp' me')).alloc (Spc nm ho a la ca cp me)).alloc (Spc nm' ho' b lb cb cp' me') = w1 at b1 ⊢
  obtain ⟨p0, p1, p2, p3, p4, q0, q1, q2, q3, q4⟩ := b1.cells
  have B1 := hidden b1
  have hsz : w.heap.size + 1 < w1.heap.size := lt_of_block b1.2.1
  clear b0 b1 H6
  cases r with
  | false =>
    go_wp2_with fail
    go_ret
    exact ⟨rfl, B1.out.2.2⟩
  | true =>
  go_upto_region 3 with fail
  go_cut [26] (fun s wx => ∃ r : Bool, s = .bool r ∧ Hid (Boxed (Spc nm ho a la ca cp me) (Spc nm' ho' b lb cb cp' me') w wx))
  case first =>
    have S1 : Hid (∀ (n : Int) (wx : World), 0 ≤ n → Boxed (Spc nm ho a la ca cp me) (Spc nm' ho' b lb cb cp' me') w wx → Calls Try.prog 7 #[.int .i64 n, .agg #[.string nm, .string ho, .slice a la ca, .int .i64 cp, .int .u64 me]] wx fun e w' => ∃ x : Int, 0 ≤ x ∧ x ≤ 2097152 ∧ e = .returned (.int .i64 x) ∧ wx.alloc (Spc nm ho a la ca cp me) = w') := by
      show ∀ (n : Int) (wx : World), _
      intro n wx hn hbx
      exact specBytes_any n w.heap.size nm ho a la ca cp me wx hn (HA.out.below hbx.2.2) hbx.2.2.size
    have S2 : Hid (∀ (n : Int) (wx : World), 0 ≤ n → Boxed (Spc nm ho a la ca cp me) (Spc nm' ho' b lb cb cp' me') w wx → Calls Try.prog 7 #[.int .i64 n, .agg #[.string nm', .string ho', .slice b lb cb, .int .i64 cp', .int .u64 me']] wx fun e w' => ∃ x : Int, 0 ≤ x ∧ x ≤ 2097152 ∧ e = .returned (.int .i64 x) ∧ wx.alloc (Spc nm' ho' b lb cb cp' me') = w') := by
      show ∀ (n : Int) (wx : World), _
      intro n wx hn hbx
      exact specBytes_any n w.heap.size nm' ho' b lb cb cp' me' wx hn (HB.out.below hbx.2.2) hbx.2.2.size
    go_region_with (first
      | (go_at_call_of 7 (Value.string nm); refine (S1.out _ _ (by decide) B1.out.drew).mono ?_; rintro e w' ⟨x, x0, x1, rfl, rfl⟩)
      | (go_at_call_of 7 (Value.string nm'); refine (S2.out _ _ (by assumption) (B1.out.drew.alloc _)).mono ?_; rintro e w' ⟨y, y0, y1, rfl, rfl⟩))
    all_goals (go_wp2_with fail; go_meet; exact ⟨_, rfl, ((B1.out.alloc _).alloc _).drew⟩)
  case rest =>
  obtain ⟨r, rfl, HBX⟩ := hcut
  clear B1 HA HB hsz p0 p1 p2 p3 p4 q0 q1 q2 q3 q4
  obtain ⟨p0, p1, p2, p3, p4, q0, q1, q2, q3, q4⟩ := HBX.out.cells
  cases r with
  | true =>
    go_wp2_with fail
    go_ret
    exact ⟨rfl, HBX.out.2.2⟩
  | false =>
  go_wp2_with fail
  refine (spec_any _ _ _ _ _ _ _ _).mono ?_
  rintro e w2 ⟨rfl, bel⟩
  have K1 := hidden (HBX.out.below bel)
  clear HBX bel p0 p1 p2 p3 p4 q0 q1 q2 q3 q4
  obtain ⟨p0, p1, p2, p3, p4, q0, q1, q2, q3, q4⟩ := K1.out.cells
  go_wp2_with fail
  refine (zzless_any _ _ _ _ _ _ _ _ _ _).mono ?_
  rintro e w3 ⟨rfl, bel⟩
  have K2 := hidden (K1.out.below bel)
  clear K1 bel p0 p1 p2 p3 p4 q0 q1 q2 q3 q4
  obtain ⟨p0, p1, p2, p3, p4, q0, q1, q2, q3, q4⟩ := K2.out.cells
  go_wp2_with fail
  refine (spec_any _ _ _ _ _ _ _ _).mono ?_
  rintro e w4 ⟨rfl, bel⟩
  have K3 := hidden (K2.out.below bel)
  clear K2 bel p0 p1 p2 p3 p4 q0 q1 q2 q3 q4
  obtain ⟨p0, p1, p2, p3, p4, q0, q1, q2, q3, q4⟩ := K3.out.cells
  go_wp2_with fail
  refine (zzless_any _ _ _ _ _ _ _ _ _ _).mono ?_
  rintro e w5 ⟨rfl, bel⟩
  have K4 := hidden (K3.out.below bel)
  clear K3 bel p0 p1 p2 p3 p4 q0 q1 q2 q3 q4
  obtain ⟨p0, p1, p2, p3, p4, q0, q1, q2, q3, q4⟩ := K4.out.cells
  obtain ⟨c2, hc2⟩ : ∃ c2, subC (subC c cp) cp' = c2 := ⟨_, rfl⟩
  obtain ⟨m2, hm2⟩ : ∃ m2, subM (subM m me) me' = m2 := ⟨_, rfl⟩
  rw [hc2, hm2]
  have Hc := hidden hc2
  have Hm := hidden hm2
  clear hc2 hm2
  go_wp2_with fail
  refine (spec_any _ _ _ _ _ _ _ _).mono ?_
  rintro e w6 ⟨rfl, bel⟩
  have K5 := hidden (K4.out.below bel)
  clear K4 bel p0 p1 p2 p3 p4 q0 q1 q2 q3 q4
  obtain ⟨p0, p1, p2, p3, p4, q0, q1, q2, q3, q4⟩ := K5.out.cells
  have r3 : ∀ o : Obj, (w6.alloc o).cell? ⟨w.heap.size, 3, none⟩ = some (.int .i64 cp) := fun o => (K5.out.alloc o).cells.2.2.2.1
  have r4 : ∀ o : Obj, (w6.alloc o).cell? ⟨w.heap.size, 4, none⟩ = some (.int .u64 me) := fun o => (K5.out.alloc o).cells.2.2.2.2.1
  have t3 : ∀ o : Obj, (w6.alloc o).cell? ⟨w.heap.size + 1, 3, none⟩ = some (.int .i64 cp') := fun o => (K5.out.alloc o).cells.2.2.2.2.2.2.2.2.1
  have t4 : ∀ o : Obj, (w6.alloc o).cell? ⟨w.heap.size + 1, 4, none⟩ = some (.int .u64 me') := fun o => (K5.out.alloc o).cells.2.2.2.2.2.2.2.2.2
  clear p0 p1 p2 p3 p4 q0 q1 q2 q3 q4
  go_wp2_with fail
  refine (zzless_any _ _ _ _ _ _ _ _ _ _).mono ?_
  rintro e w7 ⟨rfl, bel⟩
  have K6 := hidden ((K5.out.alloc _).below bel)
  clear K5 bel r3 r4 t3 t4
  obtain ⟨p0, p1, p2, p3, p4, q0, q1, q2, q3, q4⟩ := K6.out.cells
  rw [← c_same, ← m_same, Hc.out, Hm.out]
  have h1 := c_back c cp cp' (bounds_i64 wc_wf)
  have h2 := m_back m me me' (bounds_u64 wm)
  rw [Hc.out] at h1
  rw [Hm.out] at h2
  have H1 := hidden h1
  have H2 := hidden h2
  clear h1 h2 Hc Hm
  go_wp2_with fail
  go_ret
  exact ⟨congrArg (fun b => Ending.returned (Value.bool b)) (beq_iff_eq.2 H2.out), K6.out.2.2⟩
end Go.Proofs.Qxb6618727a
