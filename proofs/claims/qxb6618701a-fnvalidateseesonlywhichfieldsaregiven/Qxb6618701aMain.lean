/-
  THE LAW's OWN WALK.
-/
import Derived.Test.Qxb6618701aWalkC
import Derived.Deep.RegionWith
import Derived.Deep.RegionHeld3
import Derived.Deep.DeepCutAuto
import Derived.WideLaws
namespace Go.Proofs.Qxb6618701a
open Go.RowKit

set_option maxHeartbeats 1000000 in
theorem ok_shp (s0 s2 s3 s4 s5 s6 s7 : ByteArray) : okOf s0 s2 s3 s4 s5 s6 s7 = shp (gv s0) (gv s2) (gv s3) (gv s4) (gv s5) (gv s6) (gv s7) := by
  unfold okOf gv
  cases s0.toList.isEmpty <;> cases s2.toList.isEmpty <;> cases s3.toList.isEmpty <;> cases s4.toList.isEmpty <;> cases s5.toList.isEmpty <;> cases s6.toList.isEmpty <;> cases s7.toList.isEmpty <;> decide +kernel

theorem ok_same {s0 s2 s3 s4 s5 s6 s7 t0 t2 t3 t4 t5 t6 t7 : ByteArray} (h : gv s0 + 2 * gv s2 + 4 * gv s3 + 8 * gv s4 + 16 * gv s5 + 32 * gv s6 + 64 * gv s7 = gv t0 + 2 * gv t2 + 4 * gv t3 + 8 * gv t4 + 16 * gv t5 + 32 * gv t6 + 64 * gv t7) :
    okOf s0 s2 s3 s4 s5 s6 s7 = okOf t0 t2 t3 t4 t5 t6 t7 := by
  rw [ok_shp, ok_shp]
  obtain ⟨a0, a0'⟩ := ge_01 (gv_01 s0)
  obtain ⟨b0, b0'⟩ := ge_01 (gv_01 t0)
  obtain ⟨a2, a2'⟩ := ge_01 (gv_01 s2)
  obtain ⟨b2, b2'⟩ := ge_01 (gv_01 t2)
  obtain ⟨a3, a3'⟩ := ge_01 (gv_01 s3)
  obtain ⟨b3, b3'⟩ := ge_01 (gv_01 t3)
  obtain ⟨a4, a4'⟩ := ge_01 (gv_01 s4)
  obtain ⟨b4, b4'⟩ := ge_01 (gv_01 t4)
  obtain ⟨a5, a5'⟩ := ge_01 (gv_01 s5)
  obtain ⟨b5, b5'⟩ := ge_01 (gv_01 t5)
  obtain ⟨a6, a6'⟩ := ge_01 (gv_01 s6)
  obtain ⟨b6, b6'⟩ := ge_01 (gv_01 t6)
  obtain ⟨a7, a7'⟩ := ge_01 (gv_01 s7)
  obtain ⟨b7, b7'⟩ := ge_01 (gv_01 t7)
  generalize gv s0 = x0 at *
  generalize gv t0 = y0 at *
  generalize gv s2 = x2 at *
  generalize gv t2 = y2 at *
  generalize gv s3 = x3 at *
  generalize gv t3 = y3 at *
  generalize gv s4 = x4 at *
  generalize gv t4 = y4 at *
  generalize gv s5 = x5 at *
  generalize gv t5 = y5 at *
  generalize gv s6 = x6 at *
  generalize gv t6 = y6 at *
  generalize gv s7 = x7 at *
  generalize gv t7 = y7 at *
  obtain rfl : x0 = y0 := by omega
  obtain rfl : x2 = y2 := by omega
  obtain rfl : x3 = y3 := by omega
  obtain rfl : x4 = y4 := by omega
  obtain rfl : x5 = y5 := by omega
  obtain rfl : x6 = y6 := by omega
  obtain rfl : x7 = y7 := by omega
  rfl

/-- What the walk keeps of the world: the two boxed arguments; that nothing old has turned. -/
def Boxed (s0 s1 s2 s3 s4 s5 s6 s7 s8 t0 t1 t2 t3 t4 t5 t6 t7 t8 : ByteArray) (w wx : World) : Prop :=
  wx.heap[w.heap.size]? = some (Fld s0 s1 s2 s3 s4 s5 s6 s7 s8) ∧ wx.heap[w.heap.size + 1]? = some (Fld t0 t1 t2 t3 t4 t5 t6 t7 t8) ∧ Below w.heap.size w wx

theorem Boxed.start (s0 s1 s2 s3 s4 s5 s6 s7 s8 t0 t1 t2 t3 t4 t5 t6 t7 t8 : ByteArray) (w : World) : Boxed s0 s1 s2 s3 s4 s5 s6 s7 s8 t0 t1 t2 t3 t4 t5 t6 t7 t8 w ((w.alloc (Fld s0 s1 s2 s3 s4 s5 s6 s7 s8)).alloc (Fld t0 t1 t2 t3 t4 t5 t6 t7 t8)) := by
  refine ⟨?_, ?_, ((Below.refl _ _).alloc (Nat.le_refl _) _).alloc (by simp) _⟩
  · rw [Below.heap_alloc _ _ _ (by simp)]; exact heap_alloc_new _ _
  · have := heap_alloc_new (w.alloc (Fld s0 s1 s2 s3 s4 s5 s6 s7 s8)) (Fld t0 t1 t2 t3 t4 t5 t6 t7 t8)
    simpa using this
theorem Boxed.alloc {s0 s1 s2 s3 s4 s5 s6 s7 s8 t0 t1 t2 t3 t4 t5 t6 t7 t8 : ByteArray} {w wx : World} (h : Boxed s0 s1 s2 s3 s4 s5 s6 s7 s8 t0 t1 t2 t3 t4 t5 t6 t7 t8 w wx) (o : Obj) : Boxed s0 s1 s2 s3 s4 s5 s6 s7 s8 t0 t1 t2 t3 t4 t5 t6 t7 t8 w (wx.alloc o) := by
  obtain ⟨h1, h2, h3⟩ := h
  exact ⟨(Below.heap_alloc wx o _ (lt_of_block h1)).trans h1, (Below.heap_alloc wx o _ (lt_of_block h2)).trans h2, h3.alloc h3.size o⟩
theorem Boxed.drewN {s0 s1 s2 s3 s4 s5 s6 s7 s8 t0 t1 t2 t3 t4 t5 t6 t7 t8 : ByteArray} {w wx : World} (h : Boxed s0 s1 s2 s3 s4 s5 s6 s7 s8 t0 t1 t2 t3 t4 t5 t6 t7 t8 w wx) (n : Nat) : Boxed s0 s1 s2 s3 s4 s5 s6 s7 s8 t0 t1 t2 t3 t4 t5 t6 t7 t8 w (wx.drewN n) :=
  ⟨h.1, h.2.1, h.2.2.os, h.2.2.tape, h.2.2.output, h.2.2.size, h.2.2.block⟩
theorem Boxed.drew {s0 s1 s2 s3 s4 s5 s6 s7 s8 t0 t1 t2 t3 t4 t5 t6 t7 t8 : ByteArray} {w wx : World} (h : Boxed s0 s1 s2 s3 s4 s5 s6 s7 s8 t0 t1 t2 t3 t4 t5 t6 t7 t8 w wx) : Boxed s0 s1 s2 s3 s4 s5 s6 s7 s8 t0 t1 t2 t3 t4 t5 t6 t7 t8 w wx.drew := h.drewN 1
theorem Boxed.cells {s0 s1 s2 s3 s4 s5 s6 s7 s8 t0 t1 t2 t3 t4 t5 t6 t7 t8 : ByteArray} {w wx : World} (h : Boxed s0 s1 s2 s3 s4 s5 s6 s7 s8 t0 t1 t2 t3 t4 t5 t6 t7 t8 w wx) : wx.cell? ⟨w.heap.size, 0, none⟩ = some (.string s0) ∧ wx.cell? ⟨w.heap.size, 1, none⟩ = some (.string s1) ∧ wx.cell? ⟨w.heap.size, 2, none⟩ = some (.string s2) ∧ wx.cell? ⟨w.heap.size, 3, none⟩ = some (.string s3) ∧ wx.cell? ⟨w.heap.size, 4, none⟩ = some (.string s4) ∧ wx.cell? ⟨w.heap.size, 5, none⟩ = some (.string s5) ∧ wx.cell? ⟨w.heap.size, 6, none⟩ = some (.string s6) ∧ wx.cell? ⟨w.heap.size, 7, none⟩ = some (.string s7) ∧ wx.cell? ⟨w.heap.size, 8, none⟩ = some (.string s8) ∧ wx.cell? ⟨w.heap.size + 1, 0, none⟩ = some (.string t0) ∧ wx.cell? ⟨w.heap.size + 1, 1, none⟩ = some (.string t1) ∧ wx.cell? ⟨w.heap.size + 1, 2, none⟩ = some (.string t2) ∧ wx.cell? ⟨w.heap.size + 1, 3, none⟩ = some (.string t3) ∧ wx.cell? ⟨w.heap.size + 1, 4, none⟩ = some (.string t4) ∧ wx.cell? ⟨w.heap.size + 1, 5, none⟩ = some (.string t5) ∧ wx.cell? ⟨w.heap.size + 1, 6, none⟩ = some (.string t6) ∧ wx.cell? ⟨w.heap.size + 1, 7, none⟩ = some (.string t7) ∧ wx.cell? ⟨w.heap.size + 1, 8, none⟩ = some (.string t8) := by
  obtain ⟨h1, h2, _⟩ := h
  unfold Fld at h1 h2
  simp [World.cell?, h1, h2]

set_option maxRecDepth 100000 in
set_option maxHeartbeats 4000000 in
theorem walk (s0 s1 s2 s3 s4 s5 s6 s7 s8 t0 t1 t2 t3 t4 t5 t6 t7 t8 : ByteArray) (w : World) :
    Calls Try.prog 3 #[.agg #[.string s0, .string s1, .string s2, .string s3, .string s4, .string s5, .string s6, .string s7, .string s8], .agg #[.string t0, .string t1, .string t2, .string t3, .string t4, .string t5, .string t6, .string t7, .string t8]] w fun e w' => e = .returned (.bool true) ∧ Below w.heap.size w w' := by
  obtain ⟨n1, l1, u1, h5a⟩ := addFields_any 0 s0 s1 s2 s3 s4 s5 s6 s7 s8 (by decide) (by decide)
  obtain ⟨n2, l2, u2, h5b⟩ := addFields_any n1 t0 t1 t2 t3 t4 t5 t6 t7 t8 l1 u1
  have H5a := hidden h5a
  have H5b := hidden h5b
  clear h5a h5b
  have hbx := Boxed.start s0 s1 s2 s3 s4 s5 s6 s7 s8 t0 t1 t2 t3 t4 t5 t6 t7 t8 w
  have HBX := hidden hbx
  go_enter Try.func3, Try.ntmps3
  go_wp2_with fail
  refine (bytes_any s0 s1 s2 s3 s4 s5 s6 s7 s8 t0 t1 t2 t3 t4 t5 t6 t7 t8 _).mono ?_
  rintro e w' ⟨r, rfl, rfl⟩
  have hb1 := (hbx.alloc (Fld s0 s1 s2 s3 s4 s5 s6 s7 s8)).alloc (Fld t0 t1 t2 t3 t4 t5 t6 t7 t8)
  have hb2 := hb1.alloc (Fld s0 s1 s2 s3 s4 s5 s6 s7 s8)
  have hb3 := hb2.alloc (Fld t0 t1 t2 t3 t4 t5 t6 t7 t8)
  cases r with
  | false =>
    go_wp2_with fail
    go_ret
    exact ⟨rfl, hb1.2.2⟩
  | true =>
  go_wp2_with fail
  refine (H5a.out _).mono ?_
  rintro e w' ⟨rfl, rfl⟩
  go_wp2_with fail
  refine (H5b.out _).mono ?_
  rintro e w' ⟨rfl, rfl⟩
  by_cases hbig : (1048576 : Int) < n2
  · go_wp2_with fail
    go_ret
    exact ⟨rfl, hb3.2.2⟩
  go_upto_region 7 with fail
  go_cut [23] (fun s wc => s = .bool ((gv s0 + 2 * gv s2 + 4 * gv s3 + 8 * gv s4 + 16 * gv s5 + 32 * gv s6 + 64 * gv s7) != (gv t0 + 2 * gv t2 + 4 * gv t3 + 8 * gv t4 + 16 * gv t5 + 32 * gv t6 + 64 * gv t7)) ∧ Hid (Boxed s0 s1 s2 s3 s4 s5 s6 s7 s8 t0 t1 t2 t3 t4 t5 t6 t7 t8 w wc))
  case first =>
    go_region_with (go_at_call 6; refine (mask_any _ _ _ _ _ _ _ _ _ _).mono ?_; rintro e w' ⟨rfl, n, rfl⟩)
    all_goals (go_wp2_with fail; go_meet; exact ⟨rfl, Boxed.drewN (Boxed.alloc (Boxed.drewN (Boxed.alloc hb3 _) _) _) _⟩)
  case rest =>
  obtain ⟨rfl, hbc⟩ := hcut
  cases hm : (gv s0 + 2 * gv s2 + 4 * gv s3 + 8 * gv s4 + 16 * gv s5 + 32 * gv s6 + 64 * gv s7) != (gv t0 + 2 * gv t2 + 4 * gv t3 + 8 * gv t4 + 16 * gv t5 + 32 * gv t6 + 64 * gv t7) with
  | true =>
    go_wp2_with fail
    go_ret
    exact ⟨rfl, hbc.out.2.2⟩
  | false =>
  have hsame : Hid (okOf s0 s2 s3 s4 s5 s6 s7 = okOf t0 t2 t3 t4 t5 t6 t7) := ok_same (by simpa [bne] using hm)
  clear hb1 hb2 hb3 hbx HBX H5a H5b
  obtain ⟨p0, p1, p2, p3, p4, p5, p6, p7, p8, q0, q1, q2, q3, q4, q5, q6, q7, q8⟩ := hbc.out.cells
  have hsz : w.heap.size + 1 < wc.heap.size := lt_of_block hbc.out.2.1
  have H9 : Hid (∀ wx : World, Calls Try.prog 9 #[.agg #[.string s0, .string s1, .string s2, .string s3, .string s4, .string s5, .string s6, .string s7, .string s8]] wx fun e w' => e = .returned (.bool (okOf s0 s2 s3 s4 s5 s6 s7)) ∧ ∃ n, w' = (wx.alloc (Fld s0 s1 s2 s3 s4 s5 s6 s7 s8)).drewN n) := by
    show ∀ wx : World, _
    intro wx
    rw [ok_shp]
    exact shape_any _ _ _ _ _ _ _ _ _ wx
  go_wp2_with fail
  refine (request_any _ _ _ _ _ _ _ _ _ _).mono ?_
  rintro e w' ⟨rfl, o1, o2, rfl⟩
  go_wp2_with fail
  refine (validate_any _ _ _ _ _ _ _ _ _ _).mono ?_
  rintro e w' (⟨hk, rfl, o3, rfl⟩ | ⟨hk, p, rfl, o3, o4, rfl⟩)
  · rw [hk.out] at H9
    have hb8 := ((hbc.out.alloc o1).alloc o2).alloc o3
    generalize (((wc.alloc o1).alloc o2).alloc o3) = wx at hb8 ⊢
    clear p0 p1 p2 p3 p4 p5 p6 p7 p8 q0 q1 q2 q3 q4 q5 q6 q7 q8
    obtain ⟨p0, p1, p2, p3, p4, p5, p6, p7, p8, q0, q1, q2, q3, q4, q5, q6, q7, q8⟩ := hb8.cells
    have HB8 := hidden hb8
    clear hb8
    go_wp2_with fail
    refine (request_any _ _ _ _ _ _ _ _ _ _).mono ?_
    rintro e w' ⟨rfl, o5, o6, rfl⟩
    go_wp2_with fail
    refine (validate_any _ _ _ _ _ _ _ _ _ _).mono ?_
    rintro e w' (⟨hk2, rfl, o7, rfl⟩ | ⟨hk2, p', rfl, o7, o8, rfl⟩)
    · have hb9 := ((HB8.out.alloc o5).alloc o6).alloc o7
      generalize (((wx.alloc o5).alloc o6).alloc o7) = wy at hb9 ⊢
      clear p0 p1 p2 p3 p4 p5 p6 p7 p8 q0 q1 q2 q3 q4 q5 q6 q7 q8
      obtain ⟨p0, p1, p2, p3, p4, p5, p6, p7, p8, q0, q1, q2, q3, q4, q5, q6, q7, q8⟩ := hb9.cells
      have HB9 := hidden hb9
      clear hb9
      go_wp2_with fail
      have hszy : w.heap.size < wy.heap.size := lt_of_block HB9.out.1
      go_region_held3 (fun w' => w'.cell? ⟨w.heap.size, 0, none⟩ = some (.string s0) ∧ w'.cell? ⟨w.heap.size, 1, none⟩ = some (.string s1) ∧ w'.cell? ⟨w.heap.size, 2, none⟩ = some (.string s2) ∧ w'.cell? ⟨w.heap.size, 3, none⟩ = some (.string s3) ∧ w'.cell? ⟨w.heap.size, 4, none⟩ = some (.string s4) ∧ w'.cell? ⟨w.heap.size, 5, none⟩ = some (.string s5) ∧ w'.cell? ⟨w.heap.size, 6, none⟩ = some (.string s6) ∧ w'.cell? ⟨w.heap.size, 7, none⟩ = some (.string s7) ∧ w'.cell? ⟨w.heap.size, 8, none⟩ = some (.string s8) ∧ w.heap.size < w'.heap.size) (simp [*, go_sem, World.cell?_alloc_past]) ((go_at_call 9; refine (H9.out _).mono ?_; rintro e w' ⟨rfl, n, rfl⟩))
      all_goals (go_wp2_with fail; go_ret; exact ⟨rfl, (Boxed.drewN (Boxed.alloc HB9.out _) _).2.2⟩)
    · have hz := hsame.out
      rw [hk.out, hk2.out] at hz
      cases hz
  · rw [hk.out] at H9
    have hb8 := ((hbc.out.alloc o1).alloc o2).alloc o3 |>.alloc o4
    generalize (((wc.alloc o1).alloc o2).alloc o3).alloc o4 = wx at hb8 ⊢
    clear p0 p1 p2 p3 p4 p5 p6 p7 p8 q0 q1 q2 q3 q4 q5 q6 q7 q8
    obtain ⟨p0, p1, p2, p3, p4, p5, p6, p7, p8, q0, q1, q2, q3, q4, q5, q6, q7, q8⟩ := hb8.cells
    have HB8 := hidden hb8
    clear hb8
    go_wp2_with fail
    refine (request_any _ _ _ _ _ _ _ _ _ _).mono ?_
    rintro e w' ⟨rfl, o5, o6, rfl⟩
    go_wp2_with fail
    refine (validate_any _ _ _ _ _ _ _ _ _ _).mono ?_
    rintro e w' (⟨hk2, rfl, o7, rfl⟩ | ⟨hk2, p', rfl, o7, o8, rfl⟩)
    · have hz := hsame.out
      rw [hk.out, hk2.out] at hz
      cases hz
    · have hb9 := ((HB8.out.alloc o5).alloc o6).alloc o7 |>.alloc o8
      generalize (((wx.alloc o5).alloc o6).alloc o7).alloc o8 = wy at hb9 ⊢
      clear p0 p1 p2 p3 p4 p5 p6 p7 p8 q0 q1 q2 q3 q4 q5 q6 q7 q8
      obtain ⟨p0, p1, p2, p3, p4, p5, p6, p7, p8, q0, q1, q2, q3, q4, q5, q6, q7, q8⟩ := hb9.cells
      have HB9 := hidden hb9
      clear hb9
      go_wp2_with fail
      have hszy : w.heap.size < wy.heap.size := lt_of_block HB9.out.1
      go_region_held3 (fun w' => w'.cell? ⟨w.heap.size, 0, none⟩ = some (.string s0) ∧ w'.cell? ⟨w.heap.size, 1, none⟩ = some (.string s1) ∧ w'.cell? ⟨w.heap.size, 2, none⟩ = some (.string s2) ∧ w'.cell? ⟨w.heap.size, 3, none⟩ = some (.string s3) ∧ w'.cell? ⟨w.heap.size, 4, none⟩ = some (.string s4) ∧ w'.cell? ⟨w.heap.size, 5, none⟩ = some (.string s5) ∧ w'.cell? ⟨w.heap.size, 6, none⟩ = some (.string s6) ∧ w'.cell? ⟨w.heap.size, 7, none⟩ = some (.string s7) ∧ w'.cell? ⟨w.heap.size, 8, none⟩ = some (.string s8) ∧ w.heap.size < w'.heap.size) (simp [*, go_sem, World.cell?_alloc_past]) ((go_at_call 9; refine (H9.out _).mono ?_; rintro e w' ⟨rfl, n, rfl⟩))
      all_goals (go_wp2_with fail; go_ret; exact ⟨rfl, (Boxed.drewN (Boxed.alloc HB9.out _) _).2.2⟩)
end Go.Proofs.Qxb6618701a
