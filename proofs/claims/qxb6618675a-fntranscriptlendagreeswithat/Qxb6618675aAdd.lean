/-
  THE WALK of add.
-/
import Derived.Test.Qxb6618675aAdd3
namespace Go.Proofs.Qxb6618675a
open Go.RowKit
set_option linter.unusedSimpArgs false
set_option linter.unusedVariables false

/-- The arena, its lock's state word st: four rows, each nil or its own, of K elements at the most. -/
def ArOk (A0 P : Nat) (st sm : Int) (K : Nat) (w : World) : Prop := ∃ v1 v2 v3 v4 n1 n2 n3 n4 xs1 xs2 xs3 xs4, AtP (ar st sm v1 v2 v3 v4) P w ∧
  (w.ownsRow A0 35 5 v1 n1 xs1 ∧ n1 ≤ K) ∧ (w.ownsRow A0 69 3 v2 n2 xs2 ∧ n2 ≤ K) ∧ (w.ownsRow A0 71 4 v3 n3 xs3 ∧ n3 ≤ K) ∧ (w.ownsRow A0 5 1 v4 n4 xs4 ∧ n4 ≤ K)
/-- The handed-out cells are cells of calls, results and bytes, from block A0 on. -/
def FT (A0 : Nat) (F : Foot) (w : World) : Prop := ∀ b o, F b o → A0 ≤ b ∧ ∃ cs t, w.heap[b]? = some (.cells cs t (0, 0)) ∧ (t = 69 ∨ t = 71 ∨ t = 5)
def AddPost (A0 P : Nat) (st sm : Int) (K : Nat) (ds : List MsgD) (w : World) (E : Ending) (w' : World) : Prop :=
  ∃ g1 o1 rc F, E = .returned (.slice (some ⟨g1, o1, none⟩) ds.length rc) ∧ (∀ j d, ds[j]? = some d → MsgAt w' (Seg g1 (o1 + j * 5) (o1 + j * 5 + 5)) F g1 (o1 + j * 5) d) ∧ ArOk A0 P st sm (K + 1048576) w' ∧ Fr A0 P w w' ∧ FT A0 F w' ∧ A0 ≤ g1 ∧ ∃ D, w'.heap[g1]? = some (.cells D 35 (0, 0))

theorem add_start {A0 P : Nat} {st sm : Int} {a1 m1 d1 g2 n2 c2 g3 n3 c3 g4 n4 c4 g1 cap1 b off : Nat} {xs1 xs2 xs3 xs4 news : List Value} {ds : List MsgD} {w w1 : World}
    (hP : AtP (ar st sm (sl a1 m1 d1) (sl g2 n2 c2) (sl g3 n3 c3) (sl g4 n4 c4)) P w) (ro1 : w.ownsRow A0 35 5 (sl a1 m1 d1) m1 xs1) (ro2 : w.ownsRow A0 69 3 (sl g2 n2 c2) n2 xs2) (ro3 : w.ownsRow A0 71 4 (sl g3 n3 c3) n3 xs3) (ro4 : w.ownsRow A0 5 1 (sl g4 n4 c4) n4 xs4)
    (hA : A0 ≤ w.heap.size) (hPA : A0 ≤ P) (hat : MsgsAt w (Old A0) (Old A0) b off ds) (s1 : news.length = ds.length * 5) (s4 : ∀ j, j < ds.length * 5 → news[j]? = w.cell? ⟨b, off + j, none⟩)
    (ho : w1.ownsRow A0 35 5 (sl g1 (m1 + ds.length) cap1) (m1 + ds.length) (xs1 ++ news)) (hat1 : AtP ((ar st sm (sl a1 m1 d1) (sl g2 n2 c2) (sl g3 n3 c3) (sl g4 n4 c4)).setIfInBounds 2 (sl g1 (m1 + ds.length) cap1)) P w1) (hf : AF P a1 (m1 * 5) 35 w w1) :
    AB A0 P g1 (m1 * 5) (m1 + ds.length) cap1 st sm ds w 0 0 Nought g2 n2 c2 (n2 * 3) g3 n3 c3 g4 n4 c4 w1 := by
  obtain ⟨q1, hq1, hh1, _⟩ := ownsRow_form ro1
  obtain ⟨q2, hq2, hh2, _⟩ := ownsRow_form ro2
  obtain ⟨q3, hq3, hh3, _⟩ := ownsRow_form ro3
  obtain ⟨q4, hq4, hh4, _⟩ := ownsRow_form ro4
  obtain ⟨D1, _, hD1, _, _, hz1⟩ := ownsRow_form ho
  have hp := hP
  unfold AtP at hp
  have e2 : g2 ≠ P ∧ g2 ≠ a1 := by constructor <;> (rintro rfl; simp_all)
  have e3 : g3 ≠ P ∧ g3 ≠ a1 := by constructor <;> (rintro rfl; simp_all)
  have e4 : g4 ≠ P ∧ g4 ≠ a1 := by constructor <;> (rintro rfl; simp_all)
  have hb := hf.below hPA hq1 hA
  refine ⟨hat1, ⟨xs2, own_AF ro2 (fun e => e2.1 (by cases e; rfl)) (fun e => e2.2 (by cases e; rfl)) hf⟩, ⟨xs3, own_AF ro3 (fun e => e3.1 (by cases e; rfl)) (fun e => e3.2 (by cases e; rfl)) hf⟩, ⟨xs4, own_AF ro4 (fun e => e4.1 (by cases e; rfl)) (fun e => e4.2 (by cases e; rfl)) hf⟩, ⟨D1, hD1, hz1⟩, hf.fr hPA hq1 hA hh1 (.inl rfl) (ShP.at hP hat1 (by simp)), Apart.nought .., Nat.le_trans hA hf.hsize, Nat.le_refl _, fun j d hj => by omega, fun j d _ hd => ?_⟩
  have hj : j < ds.length := (List.getElem?_eq_some_iff.1 hd).1
  obtain ⟨_, c0, c1, c2', vc, vr, c3', c4', hm⟩ := hat j d hd
  have hc : ∀ i, i < 5 → w1.cell? ⟨g1, m1 * 5 + j * 5 + i, none⟩ = w.cell? ⟨b, off + j * 5 + i, none⟩ := fun i hi => by
    have h1 := appended (w := w) ho ro1.1 s1 (j := j * 5 + i) (by omega)
    rw [← Nat.add_assoc] at h1
    rw [h1, s4 _ (by omega), Nat.add_assoc]
  have hcur : Cur w1 g1 (m1 * 5 + j * 5) d vc vr := ⟨(hc 0 (by decide)).trans c0, (hc 1 (by decide)).trans c1, (hc 2 (by decide)).trans c2', (hc 3 (by decide)).trans c3', (hc 4 (by decide)).trans c4'⟩
  exact hcur.at (hm.go (Sub.refl _) (SameOn.old hb))

set_option maxRecDepth 100000 in
set_option maxHeartbeats 40000000 in
theorem add_msgs (A0 P : Nat) (st sm : Int) (a1 m1 d1 g2 n2 c2 g3 n3 c3 g4 n4 c4 K : Nat) (xs1 xs2 xs3 xs4 : List Value) (b off len cap : Nat) (ds : List MsgD) (w : World)
    (hP : AtP (ar st sm (sl a1 m1 d1) (sl g2 n2 c2) (sl g3 n3 c3) (sl g4 n4 c4)) P w) (ro1 : w.ownsRow A0 35 5 (sl a1 m1 d1) m1 xs1) (ro2 : w.ownsRow A0 69 3 (sl g2 n2 c2) n2 xs2) (ro3 : w.ownsRow A0 71 4 (sl g3 n3 c3) n3 xs3) (ro4 : w.ownsRow A0 5 1 (sl g4 n4 c4) n4 xs4)
    (hA : A0 ≤ w.heap.size) (hPA : A0 ≤ P) (hK : K ≤ 549755813888) (k1 : m1 ≤ K) (k2 : n2 ≤ K) (k3 : n3 ≤ K) (k4 : n4 ≤ K) (hlen : ds.length = len) (hpos : 0 < len) (hat : MsgsAt w (Old A0) (Old A0) b off ds) (hsm : Small ds) :
    Calls Try.prog 26 #[.pointer (some ⟨P, 2, none⟩), .slice (some ⟨b, off, none⟩) len cap] w (AddPost A0 P st sm K ds w) := by
  have hn1 := fun (w : World) (a : Option Addr) (n c n' c' : Nat) => run_neq_slice_nil_any (P := Try.prog) w 32 69 a n c n' c' Try.underlying32
  have hn2 := fun (w : World) (a : Option Addr) (n c n' c' : Nat) => run_neq_slice_nil_any (P := Try.prog) w 33 71 a n c n' c' Try.underlying33
  have hn3 := fun (w : World) (a : Option Addr) (n c n' c' : Nat) => run_neq_slice_nil_any (P := Try.prog) w 67 5 a n c n' c' Try.underlying67
  obtain ⟨news, ⟨s1, s2, s3⟩, s4⟩ := msgs_src hat
  have hl20 : len ≤ 1048576 := by have := hsm.1; omega
  have hcall := hidden (app33 A0 P 2 _ a1 m1 d1 xs1 ⟨b, off, none⟩ len cap news w hP rfl ro1 hA (by omega) hl20 (by rw [← hlen]; exact s1) s2 s3)
  have HS := hidden hsm
  go_enter Try.func26, Try.ntmps26
  go_wp2_with (first
    | (go_at_call 33; refine hcall.out.mono ?_; intro E w1 hac; obtain ⟨g1, cap1, ra, rc, rfl, hra, ho, hat1, hg, hf⟩ := hac.af; obtain rfl := hra hpos)
    | fail)
  obtain ⟨_, hg1A, _, hcap, hcapm, _⟩ := ownsRow_form ho
  rw [← hlen] at ho hat1
  have hB := add_start hP ro1 ro2 ro3 ro4 hA hPA hat s1 s4 ho hat1 hf
  clear hcall hac hra ho hat1 hg hf ro1 ro2 ro3 ro4 hP hat s1 s2 s3 s4 news hsm
  obtain ⟨N1, hN1⟩ : ∃ N1, m1 + ds.length = N1 := ⟨_, rfl⟩
  obtain ⟨o1, ho1⟩ : ∃ o1, m1 * 5 = o1 := ⟨_, rfl⟩
  rw [hN1, ho1] at hB
  rw [ho1]
  have hroom : o1 + len * 5 ≤ cap1 * 5 := by omega
  have hfin : m1 + len = N1 := by omega
  clear ho1 hN1
  go_loopw [17] (fun iv wr => ∃ k : Nat, k ≤ len ∧ iv = .int .i64 k ∧ ∃ F g2 n2 c2 g3 n3 c3 g4 n4 c4, AB A0 P g1 o1 N1 cap1 st sm ds w k k F g2 n2 c2 (n2 * 3) g3 n3 c3 g4 n4 c4 wr ∧ n2 ≤ K + sumN callsN (ds.take k) ∧ n3 ≤ K + sumN resN (ds.take k) ∧ n4 ≤ K + sumN argsN (ds.take k)) (fun iv _ => len - (intOf iv).toNat)
  case atStart => exact ⟨0, Nat.zero_le _, rfl, Nought, g2, n2, c2, g3, n3, c3, g4, n4, c4, hB, by omega, by omega, by omega⟩
  case round =>
    clear hB
    obtain ⟨k, hk, rfl, F, g2, n2, c2, g3, n3, c3, g4, n4, c4, hB, b2, b3, b4⟩ := hrel
    by_cases hlt : k < len
    · obtain ⟨d, hx⟩ : ∃ d, ds[k]? = some d := ⟨_, List.getElem?_eq_getElem (by omega)⟩
      obtain ⟨vc, vr, hcur, hmc, hmr⟩ := (hB.todo k d (Nat.le_refl _) hx).cur
      replace hB := hB.skip
      have e2 := sumN_take (f := callsN) hx
      have e3 := sumN_take (f := resN) hx
      have e4 := sumN_take (f := argsN) hx
      have j2 := sumN_le callsN ds (k + 1)
      have j3 := sumN_le resN ds (k + 1)
      have j4 := sumN_le argsN ds (k + 1)
      obtain ⟨_, hok, z2, z3, z4⟩ := HS.out
      replace hok := hok d (List.mem_of_getElem? hx)
      have hi : (k : Int) < (len : Int) := by omega
      have f3 := hcur.2.2.2.1
      have f4 := hcur.2.2.2.2
      cases hdc : d.calls with
      | none =>
        have evc : vc = .slice none 0 0 := by unfold IsCalls at hmc; rw [hdc] at hmc; exact hmc
        subst evc
        clear hmc
        have hmcF : IsCalls wr F (.slice none 0 0) d.calls := by rw [hdc]; rfl
        have ey2 : callsN d = 0 := by unfold callsN lenO; rw [hdc]; rfl
        have ey4 : argsN d = 0 := by unfold argsN argsL; rw [hdc]; rfl
        cases hdr : d.res with
        | none =>
          have evr : vr = .slice none 0 0 := by unfold IsRes at hmr; rw [hdr] at hmr; exact hmr
          subst evr
          go_wp2_with fail
          go_roundw
          case rel => exact ⟨k + 1, by omega, by go_num, F, g2, n2, c2, g3, n3, c3, g4, n4, c4, hB.next hx hcur ⟨hmcF, by rw [hdr]; rfl⟩, (by omega), by omega, (by omega)⟩
          case measure => simp [intOf]; omega
        | some rs =>
          obtain ⟨aR, m, kp, rfl⟩ : ∃ a m kp, vr = .slice (some a) m kp := by unfold IsRes at hmr; rw [hdr] at hmr; obtain ⟨a, c, e, _⟩ := hmr; exact ⟨a, _, c, e⟩
          have hmr2 := hmr
          rw [hdr] at hmr2
          clear hmr
          have hm20 : m ≤ 1048576 := by obtain ⟨a, c, e, _⟩ := id hmr2; cases e; exact (hok.2 rs hdr).1
          have ey3 : resN d = m := by obtain ⟨a, c, e, _⟩ := id hmr2; cases e; unfold resN lenO; rw [hdr]; rfl
          go_wp2_with fail
          refine region_named (S := fun _ => True) (n := 12) (by as_aux_lemma => kernel_rfl) (by as_aux_lemma => kernel_rfl) trivial (fun R hR => ?_)
          replace hB := hB.drew
          replace hcur : Cur wr.drew g1 (o1 + k * 5) d (.slice none 0 0) (.slice (some aR) m kp) := hcur
          replace hmr2 : IsRes wr.drew (Old A0) (.slice (some aR) m kp) (some rs) := hmr2
          replace hmcF : IsCalls wr.drew F (.slice none 0 0) d.calls := hmcF
          generalize wr.drew = wd at hB hcur hmr2 hmcF ⊢
          obtain ⟨newsR, ⟨t1, t2, t3⟩, hrl, hrn⟩ := res_src hmr2
          have f4 := hcur.2.2.2.2
          obtain ⟨xs3, r3⟩ := hB.r3
          obtain ⟨y1, y2, y3, y4, y5, y6, y7, y8, y9, y10⟩ := hB.ne
          obtain ⟨D0, hD0, _⟩ := hB.row1
          have hns : ssa2 R = true := by as_aux_lemma => (unfold IsOps at hR; subst hR; kernel_rfl)
          have hlenR : R.length = 12 := by as_aux_lemma => (unfold IsOps at hR; subst hR; kernel_rfl)
          refine takes_run2 [(0, .pointer (some ⟨g1, o1 + k * 5, none⟩)), (1, .pointer (some ⟨P, 2, none⟩)), (2, .pointer (some ⟨P, 2, none⟩)), (3, .pointer (some ⟨P, 4, none⟩)), (4, .pointer (some ⟨g1, o1 + k * 5, none⟩)), (5, .pointer (some ⟨g1, o1 + k * 5, none⟩)), (6, .pointer (some ⟨g1, o1 + k * 5 + 4, none⟩))] (fuel := 5) (d' := [6, 5, 4, 3, 2, 1, 0]) (by as_aux_lemma => kernel_rfl) hns (by as_aux_lemma => (unfold IsOps at hR; subst hR; kernel_rfl)) rfl (fun _ _ _ _ _ h => h) trivial (fun K' hK' => ?_)
          refine RunsThen.cons (hR.at rfl) (by intro wx hSw; go_simp <;> rfl) ?_
          try simp only [Act.put, List.setIfInBounds_toArray, List.set_cons_zero, List.set_cons_succ]
          refine RunsThen.cons (hR.at rfl) (by intro wx hSw; go_simp <;> rfl) ?_
          try simp only [Act.put, List.setIfInBounds_toArray, List.set_cons_zero, List.set_cons_succ]
          refine RunsThen.cons (hR.at rfl) (by intro wx hSw; go_simp <;> rfl) ?_
          try simp only [Act.put, List.setIfInBounds_toArray, List.set_cons_zero, List.set_cons_succ]
          refine RunsThen.cons (hR.at rfl) (by intro wx hSw; go_simp <;> rfl) ?_
          try simp only [Act.put, List.setIfInBounds_toArray, List.set_cons_zero, List.set_cons_succ]
          refine RunsThen.cons (hR.at rfl) (by intro wx hSw; go_simp <;> rfl) ?_
          try simp only [Act.put, List.setIfInBounds_toArray, List.set_cons_zero, List.set_cons_succ]
          refine RunsThen.cons (hR.at rfl) (by intro wx hSw; go_simp <;> rfl) ?_
          try simp only [Act.put, List.setIfInBounds_toArray, List.set_cons_zero, List.set_cons_succ]
          refine RunsThen.cons (hR.at rfl) (by intro wx hSw; go_simp <;> rfl) ?_
          try simp only [Act.put, List.setIfInBounds_toArray, List.set_cons_zero, List.set_cons_succ]
          refine RunsThen.nil (hK'.out _ ?_)
          clear hK' K'
          refine carry_run2 (i := 7) (fuel := 4) hlenR hns (by as_aux_lemma => (unfold IsOps at hR; subst hR; kernel_rfl)) (hR.at rfl) rfl (fun K' hK' => ?_)
          go_simp
          refine hK'.out _ _ trivial ?_
          clear hK' K'
          try simp only [Act.put, List.setIfInBounds_toArray, List.set_cons_zero, List.set_cons_succ]
          refine carry_run2 (i := 8) (fuel := 3) hlenR hns (by as_aux_lemma => (unfold IsOps at hR; subst hR; kernel_rfl)) (hR.at rfl) rfl (fun K' hK' => ?_)
          go_simp
          refine (app36 A0 P 4 _ g3 n3 c3 xs3 aR m kp newsR wd hB.atP rfl r3 hB.hA (by omega) hm20 t1 t2 t3).mono ?_
          intro E wE hac
          obtain ⟨g3', c3', raR, rcR, rfl, hraR, ho, hatE, hgE, hf⟩ := hac.af
          obtain ⟨hB2, hsF, hbE⟩ := hB.app3 hPA hg1A ho hatE hgE hf
          have hcur2 := hcur.block (hf.block g1 (lt_of_block hD0) y1 y6)
          have hmc2 := hmcF.go (Sub.inl (G := Seg g3' (n3 * 4) ((n3 + m) * 4))) hsF
          have hres := (res_out (rc := rcR) (w := wd) (U := Old A0) ho r3.1 hrl t1 hraR (fun hp => by obtain ⟨b', off', _, q1, q2⟩ := hrn hp; exact ⟨b', off', q1, q2⟩)).go (Sub.inr (F := F)) (SameOn.refl _ _)
          obtain ⟨D1, hD1, hz1⟩ := hB2.row1
          clear hac hB hcur hf hatE hD0 r3
          go_wp2_with fail
          refine hK'.out _ _ trivial ?_
          clear hK' K'
          try simp only [Act.put, List.setIfInBounds_toArray, List.set_cons_zero, List.set_cons_succ]
          refine takes_run2 [(9, .pointer (some ⟨g1, o1 + k * 5, none⟩)), (10, .pointer (some ⟨g1, o1 + k * 5 + 4, none⟩))] (fuel := 1) (d' := [10, 9, 8, 7, 6, 5, 4, 3, 2, 1, 0]) (by as_aux_lemma => kernel_rfl) hns (by as_aux_lemma => (unfold IsOps at hR; subst hR; kernel_rfl)) rfl (fun _ _ _ _ _ h => h) trivial (fun K' hK' => ?_)
          refine RunsThen.cons (hR.at rfl) (by intro wx hSw; go_simp <;> rfl) ?_
          try simp only [Act.put, List.setIfInBounds_toArray, List.set_cons_zero, List.set_cons_succ]
          refine RunsThen.cons (hR.at rfl) (by intro wx hSw; go_simp <;> rfl) ?_
          try simp only [Act.put, List.setIfInBounds_toArray, List.set_cons_zero, List.set_cons_succ]
          refine RunsThen.nil (hK'.out _ ?_)
          clear hK' K'
          refine carry_run2 (i := 11) (fuel := 0) hlenR hns (by as_aux_lemma => (unfold IsOps at hR; subst hR; kernel_rfl)) (hR.at rfl) rfl (fun K' hK' => ?_)
          refine wp_store1 33 (.tmp 85) (.tmp 83) rfl g1 (o1 + k * 5 + 4) (.slice (some raR) m rcR) rfl rfl D1 35 hD1 (by omega) i33 rfl ?_
          refine hK'.out _ _ trivial ?_
          clear hK' K'
          obtain ⟨hB3, hsF3, hb3⟩ := hB2.set1 (x := o1 + k * 5 + 4) (v := .slice (some raR) m rcR) hg1A (by omega) (by omega)
          have hcur3 := hcur2.set4 (v := .slice (some raR) m rcR)
          replace hmc2 := hmc2.go (Sub.refl _) hsF3
          replace hres := hres.go (Sub.refl _) hsF3
          clear hB2 hcur2 hsF3 hb3 hD1 hz1 hsF hbE
          generalize World.setCell _ _ _ = wS at hB3 hcur3 hmc2 hres ⊢
          try simp only [Act.put, List.setIfInBounds_toArray, List.set_cons_zero, List.set_cons_succ]
          refine done_run hlenR (by as_aux_lemma => kernel_rfl) ?_
          clear hR hns hlenR R
          go_wp2_with fail
          go_roundw
          case rel => exact ⟨k + 1, by omega, by go_num, _, g2, n2, c2, g3', n3 + m, c3', g4, n4, c4, hB3.next hx hcur3 ⟨hmc2, by rw [hdr]; exact hres⟩, (by omega), by omega, (by omega)⟩
          case measure => simp [intOf]; omega
      | some cs =>
        obtain ⟨aC, n, cp, rfl⟩ : ∃ a n cp, vc = .slice (some a) n cp := by unfold IsCalls at hmc; rw [hdc] at hmc; obtain ⟨a, c, e, _⟩ := hmc; exact ⟨a, _, c, e⟩
        have hmc2 := hmc
        rw [hdc] at hmc2
        clear hmc
        have hn20 : n ≤ 1048576 := by obtain ⟨a, c, e, _⟩ := id hmc2; cases e; exact (hok.1 cs hdc).1
        have ey2 : callsN d = n := by obtain ⟨a, c, e, _⟩ := id hmc2; cases e; unfold callsN lenO; rw [hdc]; rfl
        have ey4 : argsN d = argsL cs := by unfold argsN; rw [hdc]; rfl
        go_wp2_with fail
        refine region_named (S := fun _ => True) (n := 12) (by as_aux_lemma => kernel_rfl) (by as_aux_lemma => kernel_rfl) trivial (fun R hR => ?_)
        replace hB := hB.drew
        replace hcur : Cur wr.drew g1 (o1 + k * 5) d (.slice (some aC) n cp) vr := hcur
        replace hmc2 : IsCalls wr.drew (Old A0) (.slice (some aC) n cp) (some cs) := hmc2
        replace hmr : IsRes wr.drew (Old A0) vr d.res := hmr
        generalize wr.drew = wd at hB hcur hmc2 hmr ⊢
        obtain ⟨newsC, ⟨t1, t2, t3⟩, hcl, hcn⟩ := calls_src hmc2
        have f3 := hcur.2.2.2.1
        obtain ⟨xs2, r2⟩ := hB.r2
        obtain ⟨y1, y2, y3, y4, y5, y6, y7, y8, y9, y10⟩ := hB.ne
        obtain ⟨D0, hD0, _⟩ := hB.row1
        have hns : ssa2 R = true := by as_aux_lemma => (unfold IsOps at hR; subst hR; kernel_rfl)
        have hlenR : R.length = 12 := by as_aux_lemma => (unfold IsOps at hR; subst hR; kernel_rfl)
        refine takes_run2 [(0, .pointer (some ⟨g1, o1 + k * 5, none⟩)), (1, .pointer (some ⟨P, 2, none⟩)), (2, .pointer (some ⟨P, 2, none⟩)), (3, .pointer (some ⟨P, 3, none⟩)), (4, .pointer (some ⟨g1, o1 + k * 5, none⟩)), (5, .pointer (some ⟨g1, o1 + k * 5, none⟩)), (6, .pointer (some ⟨g1, o1 + k * 5 + 3, none⟩))] (fuel := 5) (d' := [6, 5, 4, 3, 2, 1, 0]) (by as_aux_lemma => kernel_rfl) hns (by as_aux_lemma => (unfold IsOps at hR; subst hR; kernel_rfl)) rfl (fun _ _ _ _ _ h => h) trivial (fun K' hK' => ?_)
        refine RunsThen.cons (hR.at rfl) (by intro wx hSw; go_simp <;> rfl) ?_
        try simp only [Act.put, List.setIfInBounds_toArray, List.set_cons_zero, List.set_cons_succ]
        refine RunsThen.cons (hR.at rfl) (by intro wx hSw; go_simp <;> rfl) ?_
        try simp only [Act.put, List.setIfInBounds_toArray, List.set_cons_zero, List.set_cons_succ]
        refine RunsThen.cons (hR.at rfl) (by intro wx hSw; go_simp <;> rfl) ?_
        try simp only [Act.put, List.setIfInBounds_toArray, List.set_cons_zero, List.set_cons_succ]
        refine RunsThen.cons (hR.at rfl) (by intro wx hSw; go_simp <;> rfl) ?_
        try simp only [Act.put, List.setIfInBounds_toArray, List.set_cons_zero, List.set_cons_succ]
        refine RunsThen.cons (hR.at rfl) (by intro wx hSw; go_simp <;> rfl) ?_
        try simp only [Act.put, List.setIfInBounds_toArray, List.set_cons_zero, List.set_cons_succ]
        refine RunsThen.cons (hR.at rfl) (by intro wx hSw; go_simp <;> rfl) ?_
        try simp only [Act.put, List.setIfInBounds_toArray, List.set_cons_zero, List.set_cons_succ]
        refine RunsThen.cons (hR.at rfl) (by intro wx hSw; go_simp <;> rfl) ?_
        try simp only [Act.put, List.setIfInBounds_toArray, List.set_cons_zero, List.set_cons_succ]
        refine RunsThen.nil (hK'.out _ ?_)
        clear hK' K'
        refine carry_run2 (i := 7) (fuel := 4) hlenR hns (by as_aux_lemma => (unfold IsOps at hR; subst hR; kernel_rfl)) (hR.at rfl) rfl (fun K' hK' => ?_)
        go_simp
        refine hK'.out _ _ trivial ?_
        clear hK' K'
        try simp only [Act.put, List.setIfInBounds_toArray, List.set_cons_zero, List.set_cons_succ]
        refine carry_run2 (i := 8) (fuel := 3) hlenR hns (by as_aux_lemma => (unfold IsOps at hR; subst hR; kernel_rfl)) (hR.at rfl) rfl (fun K' hK' => ?_)
        go_simp
        refine (app34 A0 P 3 _ g2 n2 c2 xs2 aC n cp newsC wd hB.atP rfl r2 hB.hA (by omega) hn20 t1 t2 t3).mono ?_
        intro E wE hac
        obtain ⟨g2', c2', ra, rcc, rfl, hra, ho, hatE, hgE, hf⟩ := hac.af
        obtain ⟨hB2, hsF, hbE⟩ := hB.app2 hPA hg1A ho hatE hgE hf
        have hcur2 := hcur.block (hf.block g1 (lt_of_block hD0) y1 y5)
        have hmr2 := hmr.go (Sub.refl _) (SameOn.old hbE)
        have hq := calls_out (w := wd) ho r2.1 hcl t1 (fun hp => by obtain ⟨b', off', _, q1, q2⟩ := hcn hp; exact ⟨b', off', q1, q2⟩) hbE
        obtain ⟨D1, hD1, hz1⟩ := hB2.row1
        have y11 : g2' ≠ g1 := Ne.symm hB2.ne.2.2.2.2.1
        clear hac hB hcur hf hatE hD0 r2 hmr hmc2 ho hcn t1 t2 t3
        go_wp2_with fail
        refine hK'.out _ _ trivial ?_
        clear hK' K'
        try simp only [Act.put, List.setIfInBounds_toArray, List.set_cons_zero, List.set_cons_succ]
        refine takes_run2 [(9, .pointer (some ⟨g1, o1 + k * 5, none⟩)), (10, .pointer (some ⟨g1, o1 + k * 5 + 3, none⟩))] (fuel := 1) (d' := [10, 9, 8, 7, 6, 5, 4, 3, 2, 1, 0]) (by as_aux_lemma => kernel_rfl) hns (by as_aux_lemma => (unfold IsOps at hR; subst hR; kernel_rfl)) rfl (fun _ _ _ _ _ h => h) trivial (fun K' hK' => ?_)
        refine RunsThen.cons (hR.at rfl) (by intro wx hSw; go_simp <;> rfl) ?_
        try simp only [Act.put, List.setIfInBounds_toArray, List.set_cons_zero, List.set_cons_succ]
        refine RunsThen.cons (hR.at rfl) (by intro wx hSw; go_simp <;> rfl) ?_
        try simp only [Act.put, List.setIfInBounds_toArray, List.set_cons_zero, List.set_cons_succ]
        refine RunsThen.nil (hK'.out _ ?_)
        clear hK' K'
        refine carry_run2 (i := 11) (fuel := 0) hlenR hns (by as_aux_lemma => (unfold IsOps at hR; subst hR; kernel_rfl)) (hR.at rfl) rfl (fun K' hK' => ?_)
        refine wp_store1 32 (.tmp 38) (.tmp 36) rfl g1 (o1 + k * 5 + 3) (.slice (some ra) n rcc) rfl rfl D1 35 hD1 (by omega) i32 rfl ?_
        refine hK'.out _ _ trivial ?_
        clear hK' K'
        obtain ⟨hB3, hsF3, hb3⟩ := hB2.set1 (x := o1 + k * 5 + 3) (v := (.slice (some ra) n rcc)) hg1A (by omega) (by omega)
        have hcur3 := hcur2.set3 (v := (.slice (some ra) n rcc))
        replace hmr2 := hmr2.go (Sub.refl _) (SameOn.old hb3)
        have hq3 : ∀ i c, cs[i]? = some c → CallAt2 (wE.setCell ⟨g1, o1 + k * 5 + 3, none⟩ (.slice (some ra) n rcc)) (Seg g2' (n2 * 3) ((n2 + n) * 3)) (Old A0) g2' (n2 * 3 + i * 3) c := fun i c hc => (hq i c hc).block (block_setCell y11) (Sub.refl _) (SameOn.old hb3)
        clear hB2 hcur2 hsF3 hb3 hD1 hz1 hsF hbE hq
        generalize World.setCell _ _ _ = wS at hB3 hcur3 hmr2 hq3 ⊢
        try simp only [Act.put, List.setIfInBounds_toArray, List.set_cons_zero, List.set_cons_succ]
        refine done_run hlenR (by as_aux_lemma => kernel_rfl) ?_
        clear hR hns hlenR R
        have f3 := hcur3.2.2.2.1
        go_wp2_with fail
        go_loopw [44] (fun jv wq => ∃ j : Nat, j ≤ n ∧ jv = .int .i64 j ∧ ∃ F g4 n4 c4, AB A0 P g1 o1 N1 cap1 st sm ds w k (k + 1) F g2' (n2 + n) c2' (n2 * 3) g3 n3 c3 g4 n4 c4 wq ∧ n4 ≤ K + sumN argsN (ds.take k) + argsL (cs.take j) ∧ Cur wq g1 (o1 + k * 5) d (.slice (some ra) n rcc) vr ∧ IsRes wq (Old A0) vr d.res ∧ (∀ i c, i < j → cs[i]? = some c → CallAt2 wq (Seg g2' (n2 * 3) ((n2 + n) * 3)) F g2' (n2 * 3 + i * 3) c) ∧ ∀ i c, j ≤ i → cs[i]? = some c → CallAt2 wq (Seg g2' (n2 * 3) ((n2 + n) * 3)) (Old A0) g2' (n2 * 3 + i * 3) c) (fun jv _ => n - (intOf jv).toNat)
        case atStart => exact ⟨0, Nat.zero_le _, rfl, F, g4, n4, c4, hB3, by omega, hcur3, hmr2, fun i c hi => by omega, fun i c _ hc => hq3 i c hc⟩
        case round =>
          clear hB3 hcur3 hmr2 hq3 f3 f4 b4
          obtain ⟨j, hj, rfl, F, g4, n4, c4, hB, b4, hcur, hmr, hqd, hqt⟩ := hrel
          have f3 := hcur.2.2.2.1
          have f4 := hcur.2.2.2.2
          by_cases hjn : j < n
          · obtain rfl := hra (by omega)
            obtain ⟨c, hc⟩ : ∃ c, cs[j]? = some c := ⟨_, List.getElem?_eq_getElem (by omega)⟩
            have hcok : CallOk c := (hok.1 cs hdc).2 c (List.mem_of_getElem? hc)
            have ea := argsL_take hc
            have eb := argsL_le cs (j + 1)
            have hq0 := hqt j c (Nat.le_refl _) hc
            obtain ⟨_, x0, x1, va, x2, hva⟩ := id hq0
            have hi2 : (j : Int) < (n : Int) := by omega
            cases hca : c.args with
            | none =>
              have eva : va = .slice none 0 0 := by unfold IsArgs at hva; rw [hca] at hva; exact hva
              subst eva
              have el : lenO c.args = 0 := by rw [hca]; rfl
              go_wp2_with fail
              go_roundw
              case rel =>
                refine ⟨j + 1, by omega, by go_num, F, g4, n4, c4, hB, by omega, hcur, hmr, fun i c' hi hc' => ?_, fun i c' hi hc' => hqt i c' (by omega) hc'⟩
                by_cases e : i = j
                · subst e; rw [hc] at hc'; cases hc'
                  obtain ⟨u, x0, x1, _, _, _⟩ := hq0
                  exact ⟨u, x0, x1, _, x2, by rw [hca]; rfl⟩
                · exact hqd i c' (by omega) hc'
              case measure => simp [intOf]; omega
            | some bs =>
              obtain ⟨aA, na, ca, rfl⟩ : ∃ a n cp, va = .slice (some a) n cp := by unfold IsArgs at hva; rw [hca] at hva; obtain ⟨a, c, e, _⟩ := hva; exact ⟨a, _, c, e⟩
              have hva2 := hva
              rw [hca] at hva2
              clear hva
              have ha20 : na ≤ 1048576 := by obtain ⟨a, c, e, _⟩ := id hva2; cases e; exact hcok.2.2 bs hca
              have el : lenO c.args = na := by obtain ⟨a, c', e, _⟩ := id hva2; cases e; rw [hca]; rfl
              go_wp2_with fail
              refine region_named (S := fun _ => True) (n := 12) (by as_aux_lemma => kernel_rfl) (by as_aux_lemma => kernel_rfl) trivial (fun R hR => ?_)
              replace hB := hB.drew
              replace hcur : Cur wr.drew g1 (o1 + k * 5) d (.slice (some ⟨g2', n2 * 3, none⟩) n rcc) vr := hcur
              replace hmr : IsRes wr.drew (Old A0) vr d.res := hmr
              replace hva2 : IsArgs wr.drew (Old A0) (.slice (some aA) na ca) (some bs) := hva2
              replace x2 : wr.drew.cell? ⟨g2', n2 * 3 + j * 3 + 2, none⟩ = some (.slice (some aA) na ca) := x2
              replace hqd : ∀ i c, i < j → cs[i]? = some c → CallAt2 wr.drew (Seg g2' (n2 * 3) ((n2 + n) * 3)) F g2' (n2 * 3 + i * 3) c := hqd
              replace hqt : ∀ i c, j ≤ i → cs[i]? = some c → CallAt2 wr.drew (Seg g2' (n2 * 3) ((n2 + n) * 3)) (Old A0) g2' (n2 * 3 + i * 3) c := hqt
              generalize wr.drew = wd at hB hcur hmr hva2 x2 hqd hqt ⊢
              obtain ⟨newsA, ⟨t1, t2, t3⟩, hal, han⟩ := args_src hva2
              obtain ⟨xs4, r4⟩ := hB.r4
              obtain ⟨y1, y2, y3, y4, y5, y6, y7, y8, y9, y10⟩ := hB.ne
              obtain ⟨D0, hD0, _⟩ := hB.row1
              have hns : ssa2 R = true := by as_aux_lemma => (unfold IsOps at hR; subst hR; kernel_rfl)
              have hlenR : R.length = 12 := by as_aux_lemma => (unfold IsOps at hR; subst hR; kernel_rfl)
              refine takes_run2 [(0, .pointer (some ⟨g2', n2 * 3 + j * 3, none⟩)), (1, .pointer (some ⟨P, 2, none⟩)), (2, .pointer (some ⟨P, 2, none⟩)), (3, .pointer (some ⟨P, 5, none⟩)), (4, .pointer (some ⟨g2', n2 * 3 + j * 3, none⟩)), (5, .pointer (some ⟨g2', n2 * 3 + j * 3, none⟩)), (6, .pointer (some ⟨g2', n2 * 3 + j * 3 + 2, none⟩))] (fuel := 5) (d' := [6, 5, 4, 3, 2, 1, 0]) (by as_aux_lemma => kernel_rfl) hns (by as_aux_lemma => (unfold IsOps at hR; subst hR; kernel_rfl)) rfl (fun _ _ _ _ _ h => h) trivial (fun K' hK' => ?_)
              refine RunsThen.cons (hR.at rfl) (by intro wx hSw; go_simp <;> rfl) ?_
              try simp only [Act.put, List.setIfInBounds_toArray, List.set_cons_zero, List.set_cons_succ]
              refine RunsThen.cons (hR.at rfl) (by intro wx hSw; go_simp <;> rfl) ?_
              try simp only [Act.put, List.setIfInBounds_toArray, List.set_cons_zero, List.set_cons_succ]
              refine RunsThen.cons (hR.at rfl) (by intro wx hSw; go_simp <;> rfl) ?_
              try simp only [Act.put, List.setIfInBounds_toArray, List.set_cons_zero, List.set_cons_succ]
              refine RunsThen.cons (hR.at rfl) (by intro wx hSw; go_simp <;> rfl) ?_
              try simp only [Act.put, List.setIfInBounds_toArray, List.set_cons_zero, List.set_cons_succ]
              refine RunsThen.cons (hR.at rfl) (by intro wx hSw; go_simp <;> rfl) ?_
              try simp only [Act.put, List.setIfInBounds_toArray, List.set_cons_zero, List.set_cons_succ]
              refine RunsThen.cons (hR.at rfl) (by intro wx hSw; go_simp <;> rfl) ?_
              try simp only [Act.put, List.setIfInBounds_toArray, List.set_cons_zero, List.set_cons_succ]
              refine RunsThen.cons (hR.at rfl) (by intro wx hSw; go_simp <;> rfl) ?_
              try simp only [Act.put, List.setIfInBounds_toArray, List.set_cons_zero, List.set_cons_succ]
              refine RunsThen.nil (hK'.out _ ?_)
              clear hK' K'
              refine carry_run2 (i := 7) (fuel := 4) hlenR hns (by as_aux_lemma => (unfold IsOps at hR; subst hR; kernel_rfl)) (hR.at rfl) rfl (fun K' hK' => ?_)
              go_simp
              refine hK'.out _ _ trivial ?_
              clear hK' K'
              try simp only [Act.put, List.setIfInBounds_toArray, List.set_cons_zero, List.set_cons_succ]
              refine carry_run2 (i := 8) (fuel := 3) hlenR hns (by as_aux_lemma => (unfold IsOps at hR; subst hR; kernel_rfl)) (hR.at rfl) rfl (fun K' hK' => ?_)
              go_simp
              refine (app35 A0 P 5 _ g4 n4 c4 xs4 aA na ca newsA wd hB.atP rfl r4 hB.hA (by omega) ha20 t1 t2 t3).mono ?_
              intro E wE hac
              obtain ⟨g4', c4', raA, rcA, rfl, hraA, ho, hatE, hgE, hf⟩ := hac.af
              obtain ⟨hB2, hsF, hbE, hg2E⟩ := hB.app4 hPA hg1A ho hatE hgE hf
              have hcur2 := hcur.block (hf.block g1 (lt_of_block hD0) y1 y7)
              have hmr2 := hmr.go (Sub.refl _) (SameOn.old hbE)
              have har := (args_out (rc := rcA) (w := wd) (U := Old A0) ho r4.1 hal t1 hraA (fun hp => by obtain ⟨b', off', _, q1, q2⟩ := han hp; exact ⟨b', off', q1, q2⟩)).go (Sub.inr (F := F)) (SameOn.refl _ _)
              have hqd2 : ∀ i c, i < j → cs[i]? = some c → CallAt2 wE (Seg g2' (n2 * 3) ((n2 + n) * 3)) (Or2 F (Seg g4' (n4 * 1) ((n4 + na) * 1))) g2' (n2 * 3 + i * 3) c := fun i c' hi hc' => (hqd i c' hi hc').block hg2E Sub.inl hsF
              have hqt2 : ∀ i c, j ≤ i → cs[i]? = some c → CallAt2 wE (Seg g2' (n2 * 3) ((n2 + n) * 3)) (Old A0) g2' (n2 * 3 + i * 3) c := fun i c' hi hc' => (hqt i c' hi hc').block hg2E (Sub.refl _) (SameOn.old hbE)
              obtain ⟨xs2', r2'⟩ := hB2.r2
              obtain ⟨D2, _, hD2, hn2c, _, hz2⟩ := ownsRow_form r2'
              have y11 : g1 ≠ g2' := hB2.ne.2.2.2.2.1
              clear hac hB hcur hf hatE hD0 r4 hmr hva2 ho han t1 t2 t3 hqd hqt hg2E
              go_wp2_with fail
              refine hK'.out _ _ trivial ?_
              clear hK' K'
              try simp only [Act.put, List.setIfInBounds_toArray, List.set_cons_zero, List.set_cons_succ]
              refine takes_run2 [(9, .pointer (some ⟨g2', n2 * 3 + j * 3, none⟩)), (10, .pointer (some ⟨g2', n2 * 3 + j * 3 + 2, none⟩))] (fuel := 1) (d' := [10, 9, 8, 7, 6, 5, 4, 3, 2, 1, 0]) (by as_aux_lemma => kernel_rfl) hns (by as_aux_lemma => (unfold IsOps at hR; subst hR; kernel_rfl)) rfl (fun _ _ _ _ _ h => h) trivial (fun K' hK' => ?_)
              refine RunsThen.cons (hR.at rfl) (by intro wx hSw; go_simp <;> rfl) ?_
              try simp only [Act.put, List.setIfInBounds_toArray, List.set_cons_zero, List.set_cons_succ]
              refine RunsThen.cons (hR.at rfl) (by intro wx hSw; go_simp <;> rfl) ?_
              try simp only [Act.put, List.setIfInBounds_toArray, List.set_cons_zero, List.set_cons_succ]
              refine RunsThen.nil (hK'.out _ ?_)
              clear hK' K'
              refine carry_run2 (i := 11) (fuel := 0) hlenR hns (by as_aux_lemma => (unfold IsOps at hR; subst hR; kernel_rfl)) (hR.at rfl) rfl (fun K' hK' => ?_)
              refine wp_store1 67 (.tmp 68) (.tmp 66) rfl g2' (n2 * 3 + j * 3 + 2) (.slice (some raA) na rcA) rfl rfl D2 69 hD2 (by rw [hz2]; omega) i67 rfl ?_
              refine hK'.out _ _ trivial ?_
              clear hK' K'
              obtain ⟨hB3, hsF3, hb3⟩ := hB2.set2 (x := n2 * 3 + j * 3 + 2) (v := .slice (some raA) na rcA) (by omega)
              have hcur3 := hcur2.block (w' := wE.setCell ⟨g2', n2 * 3 + j * 3 + 2, none⟩ (.slice (some raA) na rcA)) (block_setCell y11)
              replace hmr2 := hmr2.go (Sub.refl _) (SameOn.old hb3)
              replace har := har.go (Sub.refl _) hsF3
              have hqd3 : ∀ i c, i < j + 1 → cs[i]? = some c → CallAt2 (wE.setCell ⟨g2', n2 * 3 + j * 3 + 2, none⟩ (.slice (some raA) na rcA)) (Seg g2' (n2 * 3) ((n2 + n) * 3)) (Or2 F (Seg g4' (n4 * 1) ((n4 + na) * 1))) g2' (n2 * 3 + i * 3) c := fun i c' hi hc' => by
                by_cases e : i = j
                · subst e; rw [hc] at hc'; cases hc'; exact (hqt2 i c (Nat.le_refl _) hc).args (by rw [hca]; exact har)
                · exact (hqd2 i c' (by omega) hc').other (by omega) hsF3
              have hqt3 : ∀ i c, j + 1 ≤ i → cs[i]? = some c → CallAt2 (wE.setCell ⟨g2', n2 * 3 + j * 3 + 2, none⟩ (.slice (some raA) na rcA)) (Seg g2' (n2 * 3) ((n2 + n) * 3)) (Old A0) g2' (n2 * 3 + i * 3) c := fun i c' hi hc' => (hqt2 i c' (by omega) hc').other (by omega) (SameOn.old hb3)
              clear hB2 hcur2 hsF3 hb3 hD2 hz2 hsF hbE hqd2 hqt2 har r2' hq0 x0 x1 x2
              generalize World.setCell _ _ _ = wS at hB3 hcur3 hmr2 hqd3 hqt3 ⊢
              try simp only [Act.put, List.setIfInBounds_toArray, List.set_cons_zero, List.set_cons_succ]
              refine done_run hlenR (by as_aux_lemma => kernel_rfl) ?_
              clear hR hns hlenR R
              go_wp2_with fail
              go_roundw
              case rel => exact ⟨j + 1, by omega, by go_num, _, g4', n4 + na, c4', hB3, by omega, hcur3, hmr2, hqd3, hqt3⟩
              case measure => simp [intOf]; omega
          · have hi2 : ¬ (j : Int) < (n : Int) := by omega
            have eall : cs.take j = cs := List.take_of_length_le (by omega)
            rw [eall] at b4
            replace hB := hB.out2
            have hmcF := calls_done (rc := rcc) hcl hra (fun i c hc => hqd i c (by have := (List.getElem?_eq_some_iff.1 hc).1; omega) hc)
            rw [← hdc] at hmcF
            cases hdr : d.res with
            | none =>
              have evr : vr = .slice none 0 0 := by unfold IsRes at hmr; rw [hdr] at hmr; exact hmr
              subst evr
              go_wp2_with fail
              go_roundw
              case rel => exact ⟨k + 1, by omega, by go_num, (Or2 F (Seg g2' (n2 * 3) ((n2 + n) * 3))), g2', (n2 + n), c2', g3, n3, c3, g4, n4, c4, hB.next hx hcur ⟨hmcF, by rw [hdr]; rfl⟩, (by omega), by omega, (by omega)⟩
              case measure => simp [intOf]; omega
            | some rs =>
              obtain ⟨aR, m, kp, rfl⟩ : ∃ a m kp, vr = .slice (some a) m kp := by unfold IsRes at hmr; rw [hdr] at hmr; obtain ⟨a, c, e, _⟩ := hmr; exact ⟨a, _, c, e⟩
              have hmr2 := hmr
              rw [hdr] at hmr2
              clear hmr
              have hm20 : m ≤ 1048576 := by obtain ⟨a, c, e, _⟩ := id hmr2; cases e; exact (hok.2 rs hdr).1
              have ey3 : resN d = m := by obtain ⟨a, c, e, _⟩ := id hmr2; cases e; unfold resN lenO; rw [hdr]; rfl
              go_wp2_with fail
              refine region_named (S := fun _ => True) (n := 12) (by as_aux_lemma => kernel_rfl) (by as_aux_lemma => kernel_rfl) trivial (fun R hR => ?_)
              replace hB := hB.drew
              replace hcur : Cur wr.drew g1 (o1 + k * 5) d (.slice (some ra) n rcc) (.slice (some aR) m kp) := hcur
              replace hmr2 : IsRes wr.drew (Old A0) (.slice (some aR) m kp) (some rs) := hmr2
              replace hmcF : IsCalls wr.drew (Or2 F (Seg g2' (n2 * 3) ((n2 + n) * 3))) (.slice (some ra) n rcc) d.calls := hmcF
              generalize wr.drew = wd at hB hcur hmr2 hmcF ⊢
              obtain ⟨newsR, ⟨t1, t2, t3⟩, hrl, hrn⟩ := res_src hmr2
              have f4 := hcur.2.2.2.2
              obtain ⟨xs3, r3⟩ := hB.r3
              obtain ⟨y1, y2, y3, y4, y5, y6, y7, y8, y9, y10⟩ := hB.ne
              obtain ⟨D0, hD0, _⟩ := hB.row1
              have hns : ssa2 R = true := by as_aux_lemma => (unfold IsOps at hR; subst hR; kernel_rfl)
              have hlenR : R.length = 12 := by as_aux_lemma => (unfold IsOps at hR; subst hR; kernel_rfl)
              refine takes_run2 [(0, .pointer (some ⟨g1, o1 + k * 5, none⟩)), (1, .pointer (some ⟨P, 2, none⟩)), (2, .pointer (some ⟨P, 2, none⟩)), (3, .pointer (some ⟨P, 4, none⟩)), (4, .pointer (some ⟨g1, o1 + k * 5, none⟩)), (5, .pointer (some ⟨g1, o1 + k * 5, none⟩)), (6, .pointer (some ⟨g1, o1 + k * 5 + 4, none⟩))] (fuel := 5) (d' := [6, 5, 4, 3, 2, 1, 0]) (by as_aux_lemma => kernel_rfl) hns (by as_aux_lemma => (unfold IsOps at hR; subst hR; kernel_rfl)) rfl (fun _ _ _ _ _ h => h) trivial (fun K' hK' => ?_)
              refine RunsThen.cons (hR.at rfl) (by intro wx hSw; go_simp <;> rfl) ?_
              try simp only [Act.put, List.setIfInBounds_toArray, List.set_cons_zero, List.set_cons_succ]
              refine RunsThen.cons (hR.at rfl) (by intro wx hSw; go_simp <;> rfl) ?_
              try simp only [Act.put, List.setIfInBounds_toArray, List.set_cons_zero, List.set_cons_succ]
              refine RunsThen.cons (hR.at rfl) (by intro wx hSw; go_simp <;> rfl) ?_
              try simp only [Act.put, List.setIfInBounds_toArray, List.set_cons_zero, List.set_cons_succ]
              refine RunsThen.cons (hR.at rfl) (by intro wx hSw; go_simp <;> rfl) ?_
              try simp only [Act.put, List.setIfInBounds_toArray, List.set_cons_zero, List.set_cons_succ]
              refine RunsThen.cons (hR.at rfl) (by intro wx hSw; go_simp <;> rfl) ?_
              try simp only [Act.put, List.setIfInBounds_toArray, List.set_cons_zero, List.set_cons_succ]
              refine RunsThen.cons (hR.at rfl) (by intro wx hSw; go_simp <;> rfl) ?_
              try simp only [Act.put, List.setIfInBounds_toArray, List.set_cons_zero, List.set_cons_succ]
              refine RunsThen.cons (hR.at rfl) (by intro wx hSw; go_simp <;> rfl) ?_
              try simp only [Act.put, List.setIfInBounds_toArray, List.set_cons_zero, List.set_cons_succ]
              refine RunsThen.nil (hK'.out _ ?_)
              clear hK' K'
              refine carry_run2 (i := 7) (fuel := 4) hlenR hns (by as_aux_lemma => (unfold IsOps at hR; subst hR; kernel_rfl)) (hR.at rfl) rfl (fun K' hK' => ?_)
              go_simp
              refine hK'.out _ _ trivial ?_
              clear hK' K'
              try simp only [Act.put, List.setIfInBounds_toArray, List.set_cons_zero, List.set_cons_succ]
              refine carry_run2 (i := 8) (fuel := 3) hlenR hns (by as_aux_lemma => (unfold IsOps at hR; subst hR; kernel_rfl)) (hR.at rfl) rfl (fun K' hK' => ?_)
              go_simp
              refine (app36 A0 P 4 _ g3 n3 c3 xs3 aR m kp newsR wd hB.atP rfl r3 hB.hA (by omega) hm20 t1 t2 t3).mono ?_
              intro E wE hac
              obtain ⟨g3', c3', raR, rcR, rfl, hraR, ho, hatE, hgE, hf⟩ := hac.af
              obtain ⟨hB2, hsF, hbE⟩ := hB.app3 hPA hg1A ho hatE hgE hf
              have hcur2 := hcur.block (hf.block g1 (lt_of_block hD0) y1 y6)
              have hmc2 := hmcF.go (Sub.inl (G := Seg g3' (n3 * 4) ((n3 + m) * 4))) hsF
              have hres := (res_out (rc := rcR) (w := wd) (U := Old A0) ho r3.1 hrl t1 hraR (fun hp => by obtain ⟨b', off', _, q1, q2⟩ := hrn hp; exact ⟨b', off', q1, q2⟩)).go (Sub.inr (F := (Or2 F (Seg g2' (n2 * 3) ((n2 + n) * 3))))) (SameOn.refl _ _)
              obtain ⟨D1, hD1, hz1⟩ := hB2.row1
              clear hac hB hcur hf hatE hD0 r3
              go_wp2_with fail
              refine hK'.out _ _ trivial ?_
              clear hK' K'
              try simp only [Act.put, List.setIfInBounds_toArray, List.set_cons_zero, List.set_cons_succ]
              refine takes_run2 [(9, .pointer (some ⟨g1, o1 + k * 5, none⟩)), (10, .pointer (some ⟨g1, o1 + k * 5 + 4, none⟩))] (fuel := 1) (d' := [10, 9, 8, 7, 6, 5, 4, 3, 2, 1, 0]) (by as_aux_lemma => kernel_rfl) hns (by as_aux_lemma => (unfold IsOps at hR; subst hR; kernel_rfl)) rfl (fun _ _ _ _ _ h => h) trivial (fun K' hK' => ?_)
              refine RunsThen.cons (hR.at rfl) (by intro wx hSw; go_simp <;> rfl) ?_
              try simp only [Act.put, List.setIfInBounds_toArray, List.set_cons_zero, List.set_cons_succ]
              refine RunsThen.cons (hR.at rfl) (by intro wx hSw; go_simp <;> rfl) ?_
              try simp only [Act.put, List.setIfInBounds_toArray, List.set_cons_zero, List.set_cons_succ]
              refine RunsThen.nil (hK'.out _ ?_)
              clear hK' K'
              refine carry_run2 (i := 11) (fuel := 0) hlenR hns (by as_aux_lemma => (unfold IsOps at hR; subst hR; kernel_rfl)) (hR.at rfl) rfl (fun K' hK' => ?_)
              refine wp_store1 33 (.tmp 85) (.tmp 83) rfl g1 (o1 + k * 5 + 4) (.slice (some raR) m rcR) rfl rfl D1 35 hD1 (by omega) i33 rfl ?_
              refine hK'.out _ _ trivial ?_
              clear hK' K'
              obtain ⟨hB3, hsF3, hb3⟩ := hB2.set1 (x := o1 + k * 5 + 4) (v := .slice (some raR) m rcR) hg1A (by omega) (by omega)
              have hcur3 := hcur2.set4 (v := .slice (some raR) m rcR)
              replace hmc2 := hmc2.go (Sub.refl _) hsF3
              replace hres := hres.go (Sub.refl _) hsF3
              clear hB2 hcur2 hsF3 hb3 hD1 hz1 hsF hbE
              generalize World.setCell _ _ _ = wS at hB3 hcur3 hmc2 hres ⊢
              try simp only [Act.put, List.setIfInBounds_toArray, List.set_cons_zero, List.set_cons_succ]
              refine done_run hlenR (by as_aux_lemma => kernel_rfl) ?_
              clear hR hns hlenR R
              go_wp2_with fail
              go_roundw
              case rel => exact ⟨k + 1, by omega, by go_num, _, g2', (n2 + n), c2', g3', n3 + m, c3', g4, n4, c4, hB3.next hx hcur3 ⟨hmc2, by rw [hdr]; exact hres⟩, (by omega), by omega, (by omega)⟩
              case measure => simp [intOf]; omega
    · have hi : ¬ (k : Int) < (len : Int) := by omega
      obtain rfl : k = len := by omega
      have ek : ds.take k = ds := List.take_of_length_le (by omega)
      rw [ek] at b2 b3 b4
      obtain ⟨_, hok, z2, z3, z4⟩ := HS.out
      go_wp2_with fail
      go_ret
      obtain ⟨D1, hD1, hz1⟩ := hB.row1
      obtain ⟨xs2, r2⟩ := hB.r2
      obtain ⟨xs3, r3⟩ := hB.r3
      obtain ⟨xs4, r4⟩ := hB.r4
      refine ⟨g1, o1, rc, F, by rw [hlen]; rfl, fun j d hj => hB.done j d (by have := (List.getElem?_eq_some_iff.1 hj).1; omega) hj, ?_, hB.fr, fun b o h => ⟨hB.ap.ge b o h, hB.ap.ty b o h⟩, hg1A, D1, hD1⟩
      refine ⟨_, _, _, _, N1, n2, n3, n4, D1.toList.take (N1 * 5), xs2, xs3, xs4, hB.atP, ⟨⟨?_, .inr ⟨g1, cap1, D1, rfl, hg1A, hD1, by omega, hcapm, hz1, rfl⟩⟩, by omega⟩, ⟨r2, by omega⟩, ⟨r3, by omega⟩, ⟨r4, by omega⟩⟩
      simp; rw [hz1]; exact Nat.min_eq_left (by omega)
end Go.Proofs.Qxb6618675a
