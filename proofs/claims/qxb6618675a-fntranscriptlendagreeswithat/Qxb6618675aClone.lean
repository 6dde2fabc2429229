/-
  THE WALK of clone.
-/
import Derived.Test.Qxb6618675aAdd
import Derived.Test.Qxb6618675aRun3
import Derived.Defers
namespace Go.Proofs.Qxb6618675a
open Go.RowKit Go.MuLone
set_option linter.unusedSimpArgs false
set_option linter.unusedVariables false

theorem ArOk.below {A0 P K : Nat} {st sm : Int} {w w' : World} (h : ArOk A0 P st sm K w) (hb : Below w.heap.size w w') : ArOk A0 P st sm K w' := by
  obtain ⟨v1, v2, v3, v4, n1, n2, n3, n4, xs1, xs2, xs3, xs4, hP, ⟨r1, k1⟩, ⟨r2, k2⟩, ⟨r3, k3⟩, ⟨r4, k4⟩⟩ := h
  have hk : Keep P w w' := Keep.of_below hb
  exact ⟨v1, v2, v3, v4, n1, n2, n3, n4, xs1, xs2, xs3, xs4, (hb.block P (lt_of_block hP)).trans hP, ⟨ownsRow_keep r1 hP (by decide) hk, k1⟩, ⟨ownsRow_keep r2 hP (by decide) hk, k2⟩, ⟨ownsRow_keep r3 hP (by decide) hk, k3⟩, ⟨ownsRow_keep r4 hP (by decide) hk, k4⟩⟩
/-- The lock's state word is written. -/
theorem ArOk.lock {A0 P K : Nat} {st st' sm : Int} {w : World} (h : ArOk A0 P st sm K w) : ArOk A0 P st' sm K (w.setCell ⟨P, 0, none⟩ (.int .i32 st')) := by
  obtain ⟨v1, v2, v3, v4, n1, n2, n3, n4, xs1, xs2, xs3, xs4, hP, ⟨r1, k1⟩, ⟨r2, k2⟩, ⟨r3, k3⟩, ⟨r4, k4⟩⟩ := h
  have hk : Keep P w (w.setCell ⟨P, 0, none⟩ (.int .i32 st')) := ⟨rfl, rfl, rfl, Nat.le_of_eq (size_setCell _ _ _).symm, fun b _ hne => block_setCell hne⟩
  exact ⟨v1, v2, v3, v4, n1, n2, n3, n4, xs1, xs2, xs3, xs4, heap_setCell_same _ _ _ _ _ _ hP, ⟨ownsRow_keep r1 hP (by decide) hk, k1⟩, ⟨ownsRow_keep r2 hP (by decide) hk, k2⟩, ⟨ownsRow_keep r3 hP (by decide) hk, k3⟩, ⟨ownsRow_keep r4 hP (by decide) hk, k4⟩⟩
theorem ArOk.cell {A0 P K : Nat} {st sm : Int} {w : World} (h : ArOk A0 P st sm K w) : w.cell? ⟨P, 0, none⟩ = some (.int .i32 st) ∧ (∀ k, w.frozen? ⟨P, k, none⟩ = false) ∧ w.cell? ⟨P, 6, none⟩ = some (.bool false) ∧ P < w.heap.size := by
  obtain ⟨v1, v2, v3, v4, n1, n2, n3, n4, xs1, xs2, xs3, xs4, hP, _⟩ := h
  exact ⟨(cell_of_row w P 0 _ 64 _ hP).trans rfl, fun k => frozen_of_row w P k _ 64 hP, (cell_of_row w P 6 _ 64 _ hP).trans rfl, lt_of_block hP⟩
theorem ArOk.more {A0 P K K' : Nat} {st sm : Int} {w : World} (h : ArOk A0 P st sm K w) (hK : K ≤ K') : ArOk A0 P st sm K' w := by
  obtain ⟨v1, v2, v3, v4, n1, n2, n3, n4, xs1, xs2, xs3, xs4, hP, ⟨r1, k1⟩, ⟨r2, k2⟩, ⟨r3, k3⟩, ⟨r4, k4⟩⟩ := h
  exact ⟨v1, v2, v3, v4, n1, n2, n3, n4, xs1, xs2, xs3, xs4, hP, ⟨r1, by omega⟩, ⟨r2, by omega⟩, ⟨r3, by omega⟩, ⟨r4, by omega⟩⟩
theorem ArOk.type {A0 P K : Nat} {st sm : Int} {w : World} (h : ArOk A0 P st sm K w) : ∃ C, w.heap[P]? = some (.cells C 64 (0, 0)) := by
  obtain ⟨v1, v2, v3, v4, n1, n2, n3, n4, xs1, xs2, xs3, xs4, hP, _⟩ := h
  exact ⟨_, hP⟩
theorem Fr.of_below {A0 P : Nat} {w w' : World} (h : Below w.heap.size w w') (hA : A0 ≤ w.heap.size) : Fr A0 P w w' := ⟨h.mono hA, fun b cs t fr hb _ _ _ _ _ => (h.block b (lt_of_block hb)).trans hb, fun b cs t hb => ⟨cs, (h.block b (lt_of_block hb)).trans hb, rfl⟩⟩
theorem Fr.setP {A0 P k : Nat} {v : Value} {w : World} (hP : A0 ≤ P) : Fr A0 P w (w.setCell ⟨P, k, none⟩ v) := ⟨below_setCell (Below.refl _ _) hP k v, fun b cs t fr hb h _ _ _ _ => (block_setCell h).trans hb, fun b cs t hb => block_type_setCell hb⟩
theorem Fr.size {A0 P : Nat} {w w' : World} (h : Fr A0 P w w') : w.heap.size ≤ w'.heap.size := h.below.size

theorem results_off19 (t : Array Value) (d : Nat) (v : Value) (hd : d ≠ 4) : results Try.f19 (t.setIfInBounds d v) = results Try.f19 t := by
  have h : (t.setIfInBounds d v)[4]? = t[4]? := by rw [Array.getElem?_setIfInBounds, if_neg hd]
  simp [results, Try.results19, h]
/-- What clone leaves: copies of the messages, in the arena's rows; the arena as it was, but for the rows. -/
def ClPost (A0 P : Nat) (sm : Int) (K : Nat) (ds : List MsgD) (w : World) (E : Ending) (w' : World) : Prop :=
  ∃ a rc F g1 o1, E = .returned (.slice a ds.length rc) ∧ (0 < ds.length → a = some ⟨g1, o1, none⟩ ∧ A0 ≤ g1 ∧ ∃ D, w'.heap[g1]? = some (.cells D 35 (0, 0))) ∧ (∀ j d, ds[j]? = some d → MsgAt w' (Seg g1 (o1 + j * 5) (o1 + j * 5 + 5)) F g1 (o1 + j * 5) d) ∧ ArOk A0 P 0 sm (K + 1048576) w' ∧ Fr A0 P w w' ∧ FT A0 F w'

set_option maxRecDepth 100000 in
set_option maxHeartbeats 8000000 in
theorem clone_msgs (A0 P K : Nat) (sm : Int) (v : Value) (ds : List MsgD) (w : World) (hAr : ArOk A0 P 0 sm K w) (hA : A0 ≤ w.heap.size) (hPA : A0 ≤ P) (hK : K ≤ 549755813888) (hm : IsMsgs w (Old A0) (Old A0) v ds) (hsm : Small ds) :
    Calls Try.prog 19 #[.pointer (some ⟨P, 0, none⟩), v] w (ClPost A0 P sm K ds w) := by
  have hold : IsOld w v ds := hm.go (Sub.old hA) (SameOn.refl _ _) (Sub.old hA) (SameOn.refl _ _)
  have hsz := hidden (sizes_of ds v w hold hsm)
  obtain ⟨a, cap, rfl, hds, hca, hcap⟩ := hm
  have HS := hidden hsm
  obtain ⟨hl, _, z2, z3, z4⟩ := hsm
  rcases Nat.eq_zero_or_pos ds.length with h0 | hpos
  · rw [h0] at hcap ⊢
    clear hsz
    go_enter_defers Try.func19, Try.ntmps19
    go_wp2_with fail
    refine ⟨_, results_tmp rfl _ _ _, a, 0, Nought, 0, 0, by rw [h0]; rfl, fun h => by omega, fun j d hj => ?_, hAr.more (by omega), Fr.refl _ _ _, fun b o h => h.elim⟩
    have := (List.getElem?_eq_some_iff.1 hj).1
    omega
  · obtain ⟨b, off, rfl, hat⟩ : ∃ b off, a = some ⟨b, off, none⟩ ∧ MsgsAt w (Old A0) (Old A0) b off ds := hds.resolve_left (fun h => by rw [h] at hpos; simp at hpos)
    obtain ⟨len, hlen⟩ : ∃ len, ds.length = len := ⟨_, rfl⟩
    rw [hlen] at hl hpos hcap hsz ⊢
    clear hca hds hold
    have hp0 : ¬ len = 0 := by omega
    obtain ⟨hc0, hfz, hc6, hPlt⟩ := hAr.cell
    go_enter_defers Try.func19, Try.ntmps19
    go_wp2_with (first
      | (go_at_call 22; refine hsz.out.mono ?_; rintro E w1 ⟨rfl, hB1⟩)
      | (refine wpList_store_row rfl 74 (.tmp 5) (.tmp 13) rfl w1.heap.size (n4 len (sumN callsN ds) (sumN resN ds) (sumN argsN ds)) rfl rfl 74 _ (heap_alloc_new w1 _) i74 rfl (by kernel_rfl) ?_
         obtain ⟨hX, hBX⟩ := var_row w1 (n4 0 0 0 0) (n4 len (sumN callsN ds) (sumN resN ds) (sumN argsN ds)) 74
         replace hBX := hB1.trans (hBX.mono hB1.size)
         replace hX : ((w1.alloc (.cells #[.int .i64 0, .int .i64 0, .int .i64 0, .int .i64 0] 74)).setRow w1.heap.size (n4 len (sumN callsN ds) (sumN resN ds) (sumN argsN ds))).heap[w1.heap.size]? = some (.cells (n4 len (sumN callsN ds) (sumN resN ds) (sumN argsN ds)) 74 (0, 0)) := hX
         replace hBX : Below w.heap.size w ((w1.alloc (.cells #[.int .i64 0, .int .i64 0, .int .i64 0, .int .i64 0] 74)).setRow w1.heap.size (n4 len (sumN callsN ds) (sumN resN ds) (sumN argsN ds))) := hBX
         have hge : w.heap.size ≤ w1.heap.size := hB1.size
         generalize World.setRow _ _ _ = w2 at hX hBX ⊢
         generalize w1.heap.size = X at hX hge ⊢
         have hAr2 := hAr.below hBX
         obtain ⟨hd0, hfz2, hd6, hPl2⟩ := hAr2.cell)
      | (go_at_call 23; refine (lock_free Try.muLib ⟨P, 0, none⟩ w2 hd0 (hfz2 0)).mono ?_; rintro E w3 ⟨rfl, hw3⟩
         have hAr3 : ArOk A0 P 1 sm K w3 := by rw [hw3]; exact hAr2.lock
         have hX3 : w3.heap[X]? = some (.cells (n4 len (sumN callsN ds) (sumN resN ds) (sumN argsN ds)) 74 (0, 0)) := by rw [hw3]; exact (block_setCell (by omega)).trans hX
         have hF3 : Fr A0 P w w3 := by rw [hw3]; exact (Fr.of_below hBX hA).trans (Fr.setP hPA)
         obtain ⟨hk0, hfz3, hk6, hPl3⟩ := hAr3.cell
         clear hw3)
      | fail)
    have hS : SX X len (sumN callsN ds) (sumN resN ds) (sumN argsN ds) w3.drew := hX3
    refine region_named (S := SX X len (sumN callsN ds) (sumN resN ds) (sumN argsN ds)) (n := 6) (by as_aux_lemma => kernel_rfl) (by as_aux_lemma => kernel_rfl) hS (fun R hR => ?_)
    have hns : ssa2 R = true := by as_aux_lemma => (unfold IsOps at hR; subst hR; kernel_rfl)
    have hlenR : R.length = 6 := by as_aux_lemma => (unfold IsOps at hR; subst hR; kernel_rfl)
    refine takes_run3 (bad := 4) [(0, .pointer (some ⟨P, 0, none⟩)), (1, .pointer (some ⟨P, 0, none⟩)), (2, .pointer (some ⟨P, 2, none⟩)), (3, .agg (n4 len (sumN callsN ds) (sumN resN ds) (sumN argsN ds))), (4, .int .i64 256)] (fuel := 1) (d' := [4, 3, 2, 1, 0]) (by as_aux_lemma => kernel_rfl) hns (by as_aux_lemma => (unfold IsOps at hR; subst hR; kernel_rfl)) rfl (fun c a d v w hd h => leaves_tmps (results_off19 a.tmps d v hd) _ _ _ h) hS (fun K' hK' => ?_)
    refine RunsThen.cons (hR.at rfl) (by intro wx hSw; go_simp <;> rfl) ?_
    try simp only [Act.put, List.setIfInBounds_toArray, List.set_cons_zero, List.set_cons_succ]
    refine RunsThen.cons (hR.at rfl) (by intro wx hSw; go_simp <;> rfl) ?_
    try simp only [Act.put, List.setIfInBounds_toArray, List.set_cons_zero, List.set_cons_succ]
    refine RunsThen.cons (hR.at rfl) (by intro wx hSw; go_simp <;> rfl) ?_
    try simp only [Act.put, List.setIfInBounds_toArray, List.set_cons_zero, List.set_cons_succ]
    refine RunsThen.cons (hR.at rfl) (by intro wx hSw; exact exec_row 74 (.tmp 5) rfl X rfl 74 (n4 len (sumN callsN ds) (sumN resN ds) (sumN argsN ds)) (0, 0) _ hSw Try.underlying74 rfl i74) ?_
    try simp only [Act.put, List.setIfInBounds_toArray, List.set_cons_zero, List.set_cons_succ]
    refine RunsThen.cons (hR.at rfl) (by intro wx hSw; go_simp <;> rfl) ?_
    try simp only [Act.put, List.setIfInBounds_toArray, List.set_cons_zero, List.set_cons_succ]
    refine RunsThen.nil (hK'.out _ ?_)
    clear hK' K'
    refine carry_run2 (i := 5) (fuel := 0) hlenR hns (by as_aux_lemma => (unfold IsOps at hR; subst hR; kernel_rfl)) (hR.at rfl) rfl (fun K' hK' => ?_)
    go_simp
    obtain ⟨v1, v2, v3, v4, q1, q2, q3, q4, xs1, xs2, xs3, xs4, hP3, ⟨r1, k1⟩, ⟨r2, k2⟩, ⟨r3, k3⟩, ⟨r4, k4⟩⟩ := hAr3
    have hA3 : A0 ≤ w3.drew.heap.size := Nat.le_trans hA hF3.size
    refine (make_room A0 P q1 q2 q3 q4 1 sm v1 v2 v3 v4 xs1 xs2 xs3 xs4 len (sumN callsN ds) (sumN resN ds) (sumN argsN ds) w3.drew hP3 r1 r2 r3 r4 hA3 (by omega) (by omega) (by omega) (by omega)).mono ?_
    rintro E w4 ⟨rfl, u1, u2, u3, u4, hP4, ⟨a1, m1, d1, ys1, rfl, ro1, km1⟩, ⟨g2, n2, c2, ys2, rfl, ro2, km2⟩, ⟨g3, n3, c3, ys3, rfl, ro3, km3⟩, ⟨g4, n4', c4, ys4, rfl, ro4, km4⟩, hkp⟩
    have hF4 : Fr A0 P w w4 := (hF3.drew).trans (Fr.keep hkp hPA hA3 (ShP.at (w := w3.drew) hP3 hP4 rfl))
    have hX4 : w4.heap[X]? = _ := (hkp.block X (lt_of_block hX3) (by omega)).trans hX3
    go_wp2_with fail
    refine hK'.out _ _ hX4 ?_
    clear hK' K' hS hX3 hX4 hP3 r1 r2 r3 r4 hkp
    try simp only [Act.put, List.setIfInBounds_toArray, List.set_cons_zero, List.set_cons_succ]
    refine done_run hlenR (by as_aux_lemma => kernel_rfl) ?_
    clear hR hns hlenR R
    have hat4 : MsgsAt w4 (Old A0) (Old A0) b off ds := fun j d hj => (hat j d hj).go (Sub.refl _) (SameOn.old hF4.below) (Sub.refl _) (SameOn.old hF4.below)
    have hadd := hidden (add_msgs A0 P 1 sm a1 m1 d1 g2 n2 c2 g3 n3 c3 g4 n4' c4 K ys1 ys2 ys3 ys4 b off len cap ds w4 hP4 ro1 ro2 ro3 ro4 (Nat.le_trans hA hF4.size) hPA hK (by omega) (by omega) (by omega) (by omega) hlen hpos hat4 HS.out)
    go_wp2_with (first | (go_at_call 26; refine hadd.out.mono ?_; rintro E w5 ⟨g1, o1, rc, F, rfl, hmsgs, hAr5, hF5, hFT, hg1A, D, hD⟩) | fail)
    obtain ⟨hj0, hfz5, _, hPl5⟩ := hAr5.cell
    obtain ⟨CP, hCP⟩ := hAr5.type
    refine leaves_cons (f := 24) (args := #[.pointer (some ⟨P, 0, none⟩)]) (by simp) (by simp [go_sem]) ?_
    refine (unlock_deferred Try.muLib ⟨P, 0, none⟩ .returning w5 hj0 (hfz5 0)).mono ?_
    rintro E u' w6 ⟨rfl, rfl, rfl⟩
    have hne1 : g1 ≠ P := fun e => by rw [e, hCP] at hD; simp at hD
    have hFP : ∀ o, ¬ F P o := fun o h => by obtain ⟨_, cs, t, hh, ht⟩ := hFT P o h; rw [hCP] at hh; simp at hh; obtain ⟨_, rfl⟩ := hh; simp at ht
    refine ⟨_, results_tmp rfl _ _ _, some ⟨g1, o1, none⟩, rc, F, g1, o1, by rw [hlen]; rfl, fun _ => ⟨rfl, hg1A, D, (block_setCell hne1).trans hD⟩, fun j d hj => (hmsgs j d hj).go (Sub.refl _) (SameOn.setCell (fun h => hne1 h.1.symm)) (Sub.refl _) (SameOn.setCell (hFP 0)), hAr5.lock, (hF4.trans hF5).trans (Fr.setP hPA), fun b o h => ?_⟩
    obtain ⟨h1, cs, t, hh, ht⟩ := hFT b o h
    exact ⟨h1, cs, t, (block_setCell (fun e => hFP o (by rw [← e]; exact h))).trans hh, ht⟩
end Go.Proofs.Qxb6618675a
