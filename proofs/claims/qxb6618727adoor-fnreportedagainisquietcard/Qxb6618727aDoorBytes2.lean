/-
  THE WALKS of fb1InstBytes, fb1ReportBytes.
-/
import Derived.Test.Qxb6618727aDoorBytes
namespace Go.Proofs.Qxb6618727aDoor
open Go.RowKit
set_option linter.unusedSimpArgs false

def SumB (n : Int) (w : World) (e : Ending) (w' : World) : Prop := ∃ m : Int, Took n m ∧ e = .returned (.int .i64 m) ∧ Below w.heap.size w w'

set_option maxRecDepth 100000 in
set_option maxHeartbeats 1000000 in
theorem instBytes_any (n : Int) (j : Fin) (w : World) (h0 : 0 ≤ n) (ha : IsStrs w w.heap.size j.cma j.cml) : Calls Tryd.prog 8 #[.int .i64 n, .agg j.arr] w (SumB n w) := by
  obtain ⟨a0, a1, a2, a3, a4, a5, a6, a7, a8, a9, a10, a11, a12, a13, a14, a15, a16⟩ := j.facts
  have hcell : ∀ i : Nat, (w.alloc (.cells j.arr 27)).cell? ⟨w.heap.size, i, none⟩ = j.arr[i]? := fun i => cell_of_row _ _ _ _ 27 (0, 0) (heap_alloc_new w _)
  obtain ⟨m1, t1, _, c1⟩ := add16 n j.nm.size h0 (by omega)
  obtain ⟨m2, t2, _, c2⟩ := add16 m1 j.ho.size t1.1 (by omega)
  obtain ⟨m3, t3, _, c3⟩ := add16 m2 j.de.size t2.1 (by omega)
  obtain ⟨m4, t4, _, c4⟩ := add16 m3 j.cu.size t3.1 (by omega)
  obtain ⟨m5, t5, _, c5⟩ := add16 m4 j.rs.size t4.1 (by omega)
  obtain ⟨m6, t6, _, c6⟩ := add16 m5 j.lg.size t5.1 (by omega)
  have hb := (Below.refl w.heap.size w).alloc (Nat.le_refl _) (.cells j.arr 27)
  have H7 := hidden (strs_any m6 _ j.cml j.cmc j.cma _ t6.1 (ha.below hb))
  have H1 := hidden c1
  have H2 := hidden c2
  have H3 := hidden c3
  have H4 := hidden c4
  have H5 := hidden c5
  have H6 := hidden c6
  have HT := hidden (t1.trans (t2.trans (t3.trans (t4.trans (t5.trans t6)))))
  clear c1 c2 c3 c4 c5 c6 ha t1 t2 t3 t4 t5 t6
  go_enter Tryd.func8, Tryd.ntmps8
  go_wp2_with fail
  refine (H1.out _).mono ?_
  rintro e w' ⟨rfl, rfl⟩
  go_wp2_with fail
  refine (H2.out _).mono ?_
  rintro e w' ⟨rfl, rfl⟩
  go_wp2_with fail
  refine (H3.out _).mono ?_
  rintro e w' ⟨rfl, rfl⟩
  go_wp2_with fail
  refine (H4.out _).mono ?_
  rintro e w' ⟨rfl, rfl⟩
  go_wp2_with fail
  refine (H5.out _).mono ?_
  rintro e w' ⟨rfl, rfl⟩
  go_wp2_with fail
  refine (H6.out _).mono ?_
  rintro e w' ⟨rfl, rfl⟩
  go_wp2_with fail
  refine H7.out.mono ?_
  rintro e w' ⟨m, hm, rfl, rfl⟩
  go_wp2_with fail
  go_ret
  exact ⟨m, HT.out.trans hm, rfl, hb⟩

def EsSumB (n : Int) (a : Option Addr) (len : Nat) (w : World) (e : Ending) (w' : World) : Prop :=
  ∃ m : Int, Took n m ∧ (m ≤ 1048576 → IsFEs w w.heap.size a len) ∧ e = .returned (.int .i64 m) ∧ Below w.heap.size w w'

theorem IsFEs.down {w w' : World} {N : Nat} {a : Option Addr} {len : Nat} (h : IsFEs w' N a len) (hb : Below N w w') : IsFEs w N a len := by
  obtain ⟨h1, h2⟩ := h
  refine ⟨h1, h2.elim .inl ?_⟩
  rintro ⟨b, off, e, hN, hc⟩
  refine .inr ⟨b, off, e, hN, fun j hj => ?_⟩
  obtain ⟨c, g, o, ns, g1, g2, g3, c0, c1, c2, c3⟩ := hc j hj
  exact ⟨c, g, o, ns, g1, g2, g3, (hb.cell (p := ⟨b, _, none⟩) hN).symm.trans c0, (hb.cell (p := ⟨b, _, none⟩) hN).symm.trans c1, (hb.cell (p := ⟨b, _, none⟩) hN).symm.trans c2, (hb.cell (p := ⟨b, _, none⟩) hN).symm.trans c3⟩

set_option maxRecDepth 100000 in
set_option maxHeartbeats 1000000 in
theorem repBytes_any (n : Int) (q : Frep) (w : World) (h0 : 0 ≤ n) (ha : RawEs w w.heap.size q.ena q.enl) : Calls Tryd.prog 7 #[.int .i64 n, .agg q.arr] w (EsSumB n q.ena q.enl w) := by
  obtain ⟨a0, a1, a2, a3, a4, a5, a6, a7, a8, a9, a10, a11⟩ := q.facts
  have hcell : ∀ i : Nat, (w.alloc (.cells q.arr 30)).cell? ⟨w.heap.size, i, none⟩ = q.arr[i]? := fun i => cell_of_row _ _ _ _ 30 (0, 0) (heap_alloc_new w _)
  obtain ⟨m1, t1, _, c1⟩ := add16 n q.rn.size h0 (by omega)
  obtain ⟨m2, t2, _, c2⟩ := add16 m1 q.rc.size t1.1 (by omega)
  obtain ⟨m3, t3, _, c3⟩ := add16 m2 q.rz.size t2.1 (by omega)
  obtain ⟨m4, t4, _, c4⟩ := add16 m3 q.lg.size t3.1 (by omega)
  have hb := (Below.refl w.heap.size w).alloc (Nat.le_refl _) (.cells q.arr 30)
  have H7 := hidden (es_any m4 _ q.enl q.enc q.ena _ t4.1 (ha.below hb))
  have H1 := hidden c1
  have H2 := hidden c2
  have H3 := hidden c3
  have H4 := hidden c4
  have HT := hidden (t1.trans (t2.trans (t3.trans t4)))
  clear c1 c2 c3 c4 ha t1 t2 t3 t4
  go_enter Tryd.func7, Tryd.ntmps7
  go_wp2_with fail
  refine (H1.out _).mono ?_
  rintro e w' ⟨rfl, rfl⟩
  go_wp2_with fail
  refine (H2.out _).mono ?_
  rintro e w' ⟨rfl, rfl⟩
  go_wp2_with fail
  refine (H3.out _).mono ?_
  rintro e w' ⟨rfl, rfl⟩
  go_wp2_with fail
  refine (H4.out _).mono ?_
  rintro e w' ⟨rfl, rfl⟩
  go_wp2_with fail
  refine H7.out.mono ?_
  rintro e w' ⟨m, hm, hes, rfl, rfl⟩
  go_wp2_with fail
  go_ret
  exact ⟨m, HT.out.trans hm, fun h => (hes h).down hb, rfl, hb⟩
end Go.Proofs.Qxb6618727aDoor
