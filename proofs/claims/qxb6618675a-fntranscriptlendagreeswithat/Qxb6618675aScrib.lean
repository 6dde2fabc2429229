/-
  THE WALK of Scribble.
-/
import Derived.Test.Qxb6618675aScr
namespace Go.Proofs.Qxb6618675a
open Go.RowKit
set_option linter.unusedSimpArgs false
set_option linter.unusedVariables false
def SC (b o : Nat) (v : Value) (wx : World) : Prop := wx.cell? ⟨b, o, none⟩ = some v

set_option maxRecDepth 100000 in
set_option maxHeartbeats 8000000 in
theorem scribble (A0 N b off : Nat) (vc vr : Value) (w : World) (h3 : w.cell? ⟨b, off + 3, none⟩ = some vc) (h4 : w.cell? ⟨b, off + 4, none⟩ = some vr) (hc : KCalls w A0 N vc) (hr : KRess w A0 N vr) (hN : N ≤ 1152921504606846976) :
    Calls Try.prog 12 #[.pointer (some ⟨b, off, none⟩)] w (fun E w' => E = .returned (.tuple #[]) ∧ Scr A0 4194304 w w') := by
  obtain ⟨a, n, cap, rfl, nl, hc⟩ := hc
  obtain ⟨s, m, kap, rfl, ml, hr⟩ := hr
  have HC := hidden hc
  have HR := hidden hr
  clear hc hr
  go_enter Try.func12, Try.ntmps12
  go_wp2_with fail
  go_loopw [2] (fun v wr => ∃ k : Nat, k ≤ n ∧ v = .int .i64 k ∧ Scr A0 (k * 2) w wr) (fun v _ => n - (intOf v).toNat)
  case atStart => exact ⟨0, Nat.zero_le _, rfl, Scr.refl.mono (by omega)⟩
  case round =>
    obtain ⟨k, hk, rfl, hS⟩ := hrel
    by_cases hlt : k < n
    · obtain ⟨q, o, rfl, hat⟩ := HC.out (by omega)
      obtain ⟨hqw, hx0, hx1, va, hx2, hva⟩ := hat k hlt
      have hb3 := hS.sl h3
      have hi : (k : Int) < (n : Int) := by omega
      go_wp2_with fail
      clear hb3
      refine region_named (S := SC b (off + 3) (.slice (some ⟨q, o, none⟩) n cap)) (n := 17) (by as_aux_lemma => kernel_rfl) (by as_aux_lemma => kernel_rfl) (show wr.drew.cell? _ = _ from hS.sl h3) (fun R hR => ?_)
      replace hS := hS.drew
      generalize wr.drew = wrd at hS ⊢
      have hSC : SC b (off + 3) (.slice (some ⟨q, o, none⟩) n cap) wrd := hS.sl h3
      have hns : ssa2 R = true := by as_aux_lemma => (unfold IsOps at hR; subst hR; kernel_rfl)
      have hlenR : R.length = 17 := by as_aux_lemma => (unfold IsOps at hR; subst hR; kernel_rfl)
      have hcS : ∀ wx : World, SC b (off + 3) (.slice (some ⟨q, o, none⟩) n cap) wx → wx.cell? ⟨b, off + 3, none⟩ = some (.slice (some ⟨q, o, none⟩) n cap) := fun _ h => h
      refine takes_run2 [(0, .pointer (some ⟨b, off, none⟩)), (1, .pointer (some ⟨b, off, none⟩)), (2, .pointer (some ⟨b, off + 3, none⟩)), (3, .slice (some ⟨q, o, none⟩) n cap), (4, .int .i64 k), (5, .pointer (some ⟨b, off, none⟩)), (6, .pointer (some ⟨b, off, none⟩)), (7, .pointer (some ⟨b, off + 3, none⟩)), (8, .slice (some ⟨q, o, none⟩) n cap), (9, .int .i64 k), (10, .pointer (some ⟨q, o + k * 3, none⟩)), (11, .pointer (some ⟨q, o + k * 3, none⟩))] (fuel := 5) (d' := [11, 10, 9, 8, 7, 6, 5, 4, 3, 2, 1, 0]) (by as_aux_lemma => kernel_rfl) hns (by as_aux_lemma => (unfold IsOps at hR; subst hR; kernel_rfl)) rfl (fun _ _ _ _ _ h => h) hSC (fun K' hK' => ?_)
      refine RunsThen.cons (hR.at rfl) (by intro wx hSw; go_simp <;> rfl) ?_
      try simp only [Act.put, List.setIfInBounds_toArray, List.set_cons_zero, List.set_cons_succ]
      refine RunsThen.cons (hR.at rfl) (by intro wx hSw; go_simp <;> rfl) ?_
      try simp only [Act.put, List.setIfInBounds_toArray, List.set_cons_zero, List.set_cons_succ]
      refine RunsThen.cons (hR.at rfl) (by intro wx hSw; go_simp <;> rfl) ?_
      try simp only [Act.put, List.setIfInBounds_toArray, List.set_cons_zero, List.set_cons_succ]
      refine RunsThen.cons (hR.at rfl) (by intro wx hSw; go_simp <;> rfl) ?_
      try simp only [Act.put, List.setIfInBounds_toArray, List.set_cons_zero, List.set_cons_succ]
      refine RunsThen.cons (hR.at rfl) (by intro wx hSw; go_simp <;> rfl) ?_
      try simp only [Act.put, List.setIfInBounds_toArray, List.set_cons_zero, List.set_cons_succ]
      refine RunsThen.cons (hR.at rfl) (by intro wx hSw; go_simp <;> rfl) ?_
      try simp only [Act.put, List.setIfInBounds_toArray, List.set_cons_zero, List.set_cons_succ]
      refine RunsThen.cons (hR.at rfl) (by intro wx hSw; go_simp <;> rfl) ?_
      try simp only [Act.put, List.setIfInBounds_toArray, List.set_cons_zero, List.set_cons_succ]
      refine RunsThen.cons (hR.at rfl) (by intro wx hSw; go_simp <;> rfl) ?_
      try simp only [Act.put, List.setIfInBounds_toArray, List.set_cons_zero, List.set_cons_succ]
      refine RunsThen.cons (hR.at rfl) (by intro wx hSw; go_simp <;> rfl) ?_
      try simp only [Act.put, List.setIfInBounds_toArray, List.set_cons_zero, List.set_cons_succ]
      refine RunsThen.cons (hR.at rfl) (by intro wx hSw; go_simp <;> rfl) ?_
      try simp only [Act.put, List.setIfInBounds_toArray, List.set_cons_zero, List.set_cons_succ]
      refine RunsThen.cons (hR.at rfl) (by intro wx hSw; go_simp <;> rfl) ?_
      try simp only [Act.put, List.setIfInBounds_toArray, List.set_cons_zero, List.set_cons_succ]
      refine RunsThen.cons (hR.at rfl) (by intro wx hSw; go_simp <;> rfl) ?_
      try simp only [Act.put, List.setIfInBounds_toArray, List.set_cons_zero, List.set_cons_succ]
      refine RunsThen.nil (hK'.out _ ?_)
      clear hK' K'
      obtain ⟨s, hy, hsz⟩ := hx0.go hS
      have hw3 := hqw.go hS
      refine carry_run2 (i := 12) (fuel := 4) hlenR hns (by as_aux_lemma => (unfold IsOps at hR; subst hR; kernel_rfl)) (hR.at rfl) rfl (fun K' hK' => ?_)
      go_simp
      refine hK'.out _ _ hSC ?_
      clear hK' K'
      try simp only [Act.put, List.setIfInBounds_toArray, List.set_cons_zero, List.set_cons_succ]
      have hadd : s.size ≤ 9223372036854775806 := by omega
      refine takes_run2 [(13, .string (s ++ ⟨#[35]⟩)), (14, .pointer (some ⟨q, o + k * 3, none⟩)), (15, .pointer (some ⟨q, o + k * 3, none⟩))] (fuel := 1) (d' := [15, 14, 13, 12, 11, 10, 9, 8, 7, 6, 5, 4, 3, 2, 1, 0]) (by as_aux_lemma => kernel_rfl) hns (by as_aux_lemma => (unfold IsOps at hR; subst hR; kernel_rfl)) rfl (fun _ _ _ _ _ h => h) hSC (fun K' hK' => ?_)
      refine RunsThen.cons (hR.at rfl) (by intro wx hSw; go_simp <;> rfl) ?_
      try simp only [Act.put, List.setIfInBounds_toArray, List.set_cons_zero, List.set_cons_succ]
      refine RunsThen.cons (hR.at rfl) (by intro wx hSw; go_simp <;> rfl) ?_
      try simp only [Act.put, List.setIfInBounds_toArray, List.set_cons_zero, List.set_cons_succ]
      refine RunsThen.cons (hR.at rfl) (by intro wx hSw; go_simp <;> rfl) ?_
      try simp only [Act.put, List.setIfInBounds_toArray, List.set_cons_zero, List.set_cons_succ]
      refine RunsThen.nil (hK'.out _ ?_)
      clear hK' K'
      obtain ⟨D, tD, hD, hlD⟩ := hw3.at hy
      refine carry_run2 (i := 16) (fuel := 0) hlenR hns (by as_aux_lemma => (unfold IsOps at hR; subst hR; kernel_rfl)) (hR.at rfl) rfl (fun K' hK' => ?_)
      refine wp_store1 9 (.tmp 30) (.tmp 28) rfl q (o + k * 3) (.string (s ++ ⟨#[35]⟩)) rfl rfl D tD hD hlD i9 rfl ?_
      have hS1 : Scr A0 (k * 2 + 1) w (wrd.setCell ⟨q, o + k * 3, none⟩ (.string (s ++ ⟨#[35]⟩))) := hS.trans (Scr.set hw3 hy (.str (by rw [ByteArray.size_append]; exact Nat.le_refl _)))
      refine hK'.out _ _ (hS1.sl h3) ?_
      clear hK' K'
      try simp only [Act.put, List.setIfInBounds_toArray, List.set_cons_zero, List.set_cons_succ]
      refine done_run hlenR (by as_aux_lemma => kernel_rfl) ?_
      clear hR hns hlenR hcS R hD hlD
      clear hS hy hw3 hSC hsz hadd
      generalize World.setCell _ _ _ = ws1 at hS1 ⊢
      go_wp2_with fail
      refine region_named (S := SC b (off + 3) (.slice (some ⟨q, o, none⟩) n cap)) (n := 17) (by as_aux_lemma => kernel_rfl) (by as_aux_lemma => kernel_rfl) (show ws1.drew.cell? _ = _ from hS1.sl h3) (fun R hR => ?_)
      replace hS1 := hS1.drew
      generalize ws1.drew = ws1d at hS1 ⊢
      have hSC : SC b (off + 3) (.slice (some ⟨q, o, none⟩) n cap) ws1d := hS1.sl h3
      have hns : ssa2 R = true := by as_aux_lemma => (unfold IsOps at hR; subst hR; kernel_rfl)
      have hlenR : R.length = 17 := by as_aux_lemma => (unfold IsOps at hR; subst hR; kernel_rfl)
      have hcS : ∀ wx : World, SC b (off + 3) (.slice (some ⟨q, o, none⟩) n cap) wx → wx.cell? ⟨b, off + 3, none⟩ = some (.slice (some ⟨q, o, none⟩) n cap) := fun _ h => h
      refine takes_run2 [(0, .pointer (some ⟨b, off, none⟩)), (1, .pointer (some ⟨b, off, none⟩)), (2, .pointer (some ⟨b, off + 3, none⟩)), (3, .slice (some ⟨q, o, none⟩) n cap), (4, .int .i64 k), (5, .pointer (some ⟨b, off, none⟩)), (6, .pointer (some ⟨b, off, none⟩)), (7, .pointer (some ⟨b, off + 3, none⟩)), (8, .slice (some ⟨q, o, none⟩) n cap), (9, .int .i64 k), (10, .pointer (some ⟨q, o + k * 3, none⟩)), (11, .pointer (some ⟨q, o + k * 3 + 1, none⟩))] (fuel := 5) (d' := [11, 10, 9, 8, 7, 6, 5, 4, 3, 2, 1, 0]) (by as_aux_lemma => kernel_rfl) hns (by as_aux_lemma => (unfold IsOps at hR; subst hR; kernel_rfl)) rfl (fun _ _ _ _ _ h => h) hSC (fun K' hK' => ?_)
      refine RunsThen.cons (hR.at rfl) (by intro wx hSw; go_simp <;> rfl) ?_
      try simp only [Act.put, List.setIfInBounds_toArray, List.set_cons_zero, List.set_cons_succ]
      refine RunsThen.cons (hR.at rfl) (by intro wx hSw; go_simp <;> rfl) ?_
      try simp only [Act.put, List.setIfInBounds_toArray, List.set_cons_zero, List.set_cons_succ]
      refine RunsThen.cons (hR.at rfl) (by intro wx hSw; go_simp <;> rfl) ?_
      try simp only [Act.put, List.setIfInBounds_toArray, List.set_cons_zero, List.set_cons_succ]
      refine RunsThen.cons (hR.at rfl) (by intro wx hSw; go_simp <;> rfl) ?_
      try simp only [Act.put, List.setIfInBounds_toArray, List.set_cons_zero, List.set_cons_succ]
      refine RunsThen.cons (hR.at rfl) (by intro wx hSw; go_simp <;> rfl) ?_
      try simp only [Act.put, List.setIfInBounds_toArray, List.set_cons_zero, List.set_cons_succ]
      refine RunsThen.cons (hR.at rfl) (by intro wx hSw; go_simp <;> rfl) ?_
      try simp only [Act.put, List.setIfInBounds_toArray, List.set_cons_zero, List.set_cons_succ]
      refine RunsThen.cons (hR.at rfl) (by intro wx hSw; go_simp <;> rfl) ?_
      try simp only [Act.put, List.setIfInBounds_toArray, List.set_cons_zero, List.set_cons_succ]
      refine RunsThen.cons (hR.at rfl) (by intro wx hSw; go_simp <;> rfl) ?_
      try simp only [Act.put, List.setIfInBounds_toArray, List.set_cons_zero, List.set_cons_succ]
      refine RunsThen.cons (hR.at rfl) (by intro wx hSw; go_simp <;> rfl) ?_
      try simp only [Act.put, List.setIfInBounds_toArray, List.set_cons_zero, List.set_cons_succ]
      refine RunsThen.cons (hR.at rfl) (by intro wx hSw; go_simp <;> rfl) ?_
      try simp only [Act.put, List.setIfInBounds_toArray, List.set_cons_zero, List.set_cons_succ]
      refine RunsThen.cons (hR.at rfl) (by intro wx hSw; go_simp <;> rfl) ?_
      try simp only [Act.put, List.setIfInBounds_toArray, List.set_cons_zero, List.set_cons_succ]
      refine RunsThen.cons (hR.at rfl) (by intro wx hSw; go_simp <;> rfl) ?_
      try simp only [Act.put, List.setIfInBounds_toArray, List.set_cons_zero, List.set_cons_succ]
      refine RunsThen.nil (hK'.out _ ?_)
      clear hK' K'
      obtain ⟨s, hy, hsz⟩ := hx1.go hS1
      have hw3 := hqw.go hS1
      refine carry_run2 (i := 12) (fuel := 4) hlenR hns (by as_aux_lemma => (unfold IsOps at hR; subst hR; kernel_rfl)) (hR.at rfl) rfl (fun K' hK' => ?_)
      go_simp
      refine hK'.out _ _ hSC ?_
      clear hK' K'
      try simp only [Act.put, List.setIfInBounds_toArray, List.set_cons_zero, List.set_cons_succ]
      have hadd : s.size ≤ 9223372036854775806 := by omega
      refine takes_run2 [(13, .string (s ++ ⟨#[35]⟩)), (14, .pointer (some ⟨q, o + k * 3, none⟩)), (15, .pointer (some ⟨q, o + k * 3 + 1, none⟩))] (fuel := 1) (d' := [15, 14, 13, 12, 11, 10, 9, 8, 7, 6, 5, 4, 3, 2, 1, 0]) (by as_aux_lemma => kernel_rfl) hns (by as_aux_lemma => (unfold IsOps at hR; subst hR; kernel_rfl)) rfl (fun _ _ _ _ _ h => h) hSC (fun K' hK' => ?_)
      refine RunsThen.cons (hR.at rfl) (by intro wx hSw; go_simp <;> rfl) ?_
      try simp only [Act.put, List.setIfInBounds_toArray, List.set_cons_zero, List.set_cons_succ]
      refine RunsThen.cons (hR.at rfl) (by intro wx hSw; go_simp <;> rfl) ?_
      try simp only [Act.put, List.setIfInBounds_toArray, List.set_cons_zero, List.set_cons_succ]
      refine RunsThen.cons (hR.at rfl) (by intro wx hSw; go_simp <;> rfl) ?_
      try simp only [Act.put, List.setIfInBounds_toArray, List.set_cons_zero, List.set_cons_succ]
      refine RunsThen.nil (hK'.out _ ?_)
      clear hK' K'
      obtain ⟨D, tD, hD, hlD⟩ := hw3.at hy
      refine carry_run2 (i := 16) (fuel := 0) hlenR hns (by as_aux_lemma => (unfold IsOps at hR; subst hR; kernel_rfl)) (hR.at rfl) rfl (fun K' hK' => ?_)
      refine wp_store1 9 (.tmp 46) (.tmp 44) rfl q (o + k * 3 + 1) (.string (s ++ ⟨#[35]⟩)) rfl rfl D tD hD hlD i9 rfl ?_
      have hS2 : Scr A0 (k * 2 + 1 + 1) w (ws1d.setCell ⟨q, o + k * 3 + 1, none⟩ (.string (s ++ ⟨#[35]⟩))) := hS1.trans (Scr.set hw3 hy (.str (by rw [ByteArray.size_append]; exact Nat.le_refl _)))
      refine hK'.out _ _ (hS2.sl h3) ?_
      clear hK' K'
      try simp only [Act.put, List.setIfInBounds_toArray, List.set_cons_zero, List.set_cons_succ]
      refine done_run hlenR (by as_aux_lemma => kernel_rfl) ?_
      clear hR hns hlenR hcS R hD hlD
      clear hS1 hy hw3 hSC hsz hadd
      generalize World.setCell _ _ _ = ws2 at hS2 ⊢
      obtain ⟨pa, na, ca, rfl, nal, hva⟩ := hva
      have hb3 := hS2.sl h3
      have hb2 := hS2.sl hx2
      go_wp2_with fail
      clear hb3 hb2
      replace hS2 : Scr A0 (k * 2 + 2) w ws2 := hS2
      go_loopw [4] (fun v wr => ∃ j : Nat, j ≤ na ∧ v = .int .i64 j ∧ Scr A0 (k * 2 + 2) w wr) (fun v _ => na - (intOf v).toNat)
      case atStart => exact ⟨0, Nat.zero_le _, rfl, hS2⟩
      case round =>
        clear hS2
        obtain ⟨j, hj, rfl, hS3⟩ := hrel
        by_cases hjl : j < na
        · obtain ⟨p, u, rfl, hpw, hbs⟩ := hva (by omega)
          obtain ⟨x, hx⟩ := hbs j hjl
          obtain ⟨y, hy⟩ := hS3.byte hx
          have hw3 := hpw.go hS3
          obtain ⟨D, tD, hD, hlD⟩ := hw3.at hy
          have hjI : (j : Int) < (na : Int) := by omega
          have hfz := frozen_of_row wr p (u + j) D tD hD
          go_wp2_with fail
          go_roundw
          case rel => exact ⟨j + 1, by omega, by go_num, hS3.trans (Scr.set (n := 0) hw3 hy (.u8 _ _))⟩
          case measure => simp [intOf]; omega
        · have hjI : ¬ (j : Int) < (na : Int) := by omega
          go_wp2_with fail
          go_roundw
          case rel => exact ⟨k + 1, by omega, by go_num, hS3.mono (by omega)⟩
          case measure => simp [intOf]; omega
    · have hi : ¬ (k : Int) < (n : Int) := by omega
      have hb3 := hS.sl h3
      go_wp2_with fail
      obtain rfl : k = n := by omega
      clear hb3 hlt hi hk HC
      go_loopw [5] (fun v wr => ∃ j : Nat, j ≤ m ∧ v = .int .i64 j ∧ Scr A0 (k * 2 + j * 2) w wr) (fun v _ => m - (intOf v).toNat)
      case atStart => exact ⟨0, Nat.zero_le _, rfl, hS.mono (by omega)⟩
      case round =>
        clear hS
        obtain ⟨j, hj, rfl, hS⟩ := hrel
        by_cases hlt : j < m
        · obtain ⟨q, o, rfl, hat⟩ := HR.out (by omega)
          obtain ⟨hqw, hx0, hx2, x3, hx3⟩ := hat j hlt
          have hb4 := hS.sl h4
          have hi : (j : Int) < (m : Int) := by omega
          go_wp2_with fail
          clear hb4
          refine region_named (S := SC b (off + 4) (.slice (some ⟨q, o, none⟩) m kap)) (n := 17) (by as_aux_lemma => kernel_rfl) (by as_aux_lemma => kernel_rfl) (show wr.drew.cell? _ = _ from hS.sl h4) (fun R hR => ?_)
          replace hS := hS.drew
          generalize wr.drew = wrd at hS ⊢
          have hSC : SC b (off + 4) (.slice (some ⟨q, o, none⟩) m kap) wrd := hS.sl h4
          have hns : ssa2 R = true := by as_aux_lemma => (unfold IsOps at hR; subst hR; kernel_rfl)
          have hlenR : R.length = 17 := by as_aux_lemma => (unfold IsOps at hR; subst hR; kernel_rfl)
          have hcS : ∀ wx : World, SC b (off + 4) (.slice (some ⟨q, o, none⟩) m kap) wx → wx.cell? ⟨b, off + 4, none⟩ = some (.slice (some ⟨q, o, none⟩) m kap) := fun _ h => h
          refine takes_run2 [(0, .pointer (some ⟨b, off, none⟩)), (1, .pointer (some ⟨b, off, none⟩)), (2, .pointer (some ⟨b, off + 4, none⟩)), (3, .slice (some ⟨q, o, none⟩) m kap), (4, .int .i64 j), (5, .pointer (some ⟨b, off, none⟩)), (6, .pointer (some ⟨b, off, none⟩)), (7, .pointer (some ⟨b, off + 4, none⟩)), (8, .slice (some ⟨q, o, none⟩) m kap), (9, .int .i64 j), (10, .pointer (some ⟨q, o + j * 4, none⟩)), (11, .pointer (some ⟨q, o + j * 4, none⟩))] (fuel := 5) (d' := [11, 10, 9, 8, 7, 6, 5, 4, 3, 2, 1, 0]) (by as_aux_lemma => kernel_rfl) hns (by as_aux_lemma => (unfold IsOps at hR; subst hR; kernel_rfl)) rfl (fun _ _ _ _ _ h => h) hSC (fun K' hK' => ?_)
          refine RunsThen.cons (hR.at rfl) (by intro wx hSw; go_simp <;> rfl) ?_
          try simp only [Act.put, List.setIfInBounds_toArray, List.set_cons_zero, List.set_cons_succ]
          refine RunsThen.cons (hR.at rfl) (by intro wx hSw; go_simp <;> rfl) ?_
          try simp only [Act.put, List.setIfInBounds_toArray, List.set_cons_zero, List.set_cons_succ]
          refine RunsThen.cons (hR.at rfl) (by intro wx hSw; go_simp <;> rfl) ?_
          try simp only [Act.put, List.setIfInBounds_toArray, List.set_cons_zero, List.set_cons_succ]
          refine RunsThen.cons (hR.at rfl) (by intro wx hSw; go_simp <;> rfl) ?_
          try simp only [Act.put, List.setIfInBounds_toArray, List.set_cons_zero, List.set_cons_succ]
          refine RunsThen.cons (hR.at rfl) (by intro wx hSw; go_simp <;> rfl) ?_
          try simp only [Act.put, List.setIfInBounds_toArray, List.set_cons_zero, List.set_cons_succ]
          refine RunsThen.cons (hR.at rfl) (by intro wx hSw; go_simp <;> rfl) ?_
          try simp only [Act.put, List.setIfInBounds_toArray, List.set_cons_zero, List.set_cons_succ]
          refine RunsThen.cons (hR.at rfl) (by intro wx hSw; go_simp <;> rfl) ?_
          try simp only [Act.put, List.setIfInBounds_toArray, List.set_cons_zero, List.set_cons_succ]
          refine RunsThen.cons (hR.at rfl) (by intro wx hSw; go_simp <;> rfl) ?_
          try simp only [Act.put, List.setIfInBounds_toArray, List.set_cons_zero, List.set_cons_succ]
          refine RunsThen.cons (hR.at rfl) (by intro wx hSw; go_simp <;> rfl) ?_
          try simp only [Act.put, List.setIfInBounds_toArray, List.set_cons_zero, List.set_cons_succ]
          refine RunsThen.cons (hR.at rfl) (by intro wx hSw; go_simp <;> rfl) ?_
          try simp only [Act.put, List.setIfInBounds_toArray, List.set_cons_zero, List.set_cons_succ]
          refine RunsThen.cons (hR.at rfl) (by intro wx hSw; go_simp <;> rfl) ?_
          try simp only [Act.put, List.setIfInBounds_toArray, List.set_cons_zero, List.set_cons_succ]
          refine RunsThen.cons (hR.at rfl) (by intro wx hSw; go_simp <;> rfl) ?_
          try simp only [Act.put, List.setIfInBounds_toArray, List.set_cons_zero, List.set_cons_succ]
          refine RunsThen.nil (hK'.out _ ?_)
          clear hK' K'
          obtain ⟨s, hy, hsz⟩ := hx0.go hS
          have hw3 := hqw.go hS
          refine carry_run2 (i := 12) (fuel := 4) hlenR hns (by as_aux_lemma => (unfold IsOps at hR; subst hR; kernel_rfl)) (hR.at rfl) rfl (fun K' hK' => ?_)
          go_simp
          refine hK'.out _ _ hSC ?_
          clear hK' K'
          try simp only [Act.put, List.setIfInBounds_toArray, List.set_cons_zero, List.set_cons_succ]
          have hadd : s.size ≤ 9223372036854775806 := by omega
          refine takes_run2 [(13, .string (s ++ ⟨#[35]⟩)), (14, .pointer (some ⟨q, o + j * 4, none⟩)), (15, .pointer (some ⟨q, o + j * 4, none⟩))] (fuel := 1) (d' := [15, 14, 13, 12, 11, 10, 9, 8, 7, 6, 5, 4, 3, 2, 1, 0]) (by as_aux_lemma => kernel_rfl) hns (by as_aux_lemma => (unfold IsOps at hR; subst hR; kernel_rfl)) rfl (fun _ _ _ _ _ h => h) hSC (fun K' hK' => ?_)
          refine RunsThen.cons (hR.at rfl) (by intro wx hSw; go_simp <;> rfl) ?_
          try simp only [Act.put, List.setIfInBounds_toArray, List.set_cons_zero, List.set_cons_succ]
          refine RunsThen.cons (hR.at rfl) (by intro wx hSw; go_simp <;> rfl) ?_
          try simp only [Act.put, List.setIfInBounds_toArray, List.set_cons_zero, List.set_cons_succ]
          refine RunsThen.cons (hR.at rfl) (by intro wx hSw; go_simp <;> rfl) ?_
          try simp only [Act.put, List.setIfInBounds_toArray, List.set_cons_zero, List.set_cons_succ]
          refine RunsThen.nil (hK'.out _ ?_)
          clear hK' K'
          obtain ⟨D, tD, hD, hlD⟩ := hw3.at hy
          refine carry_run2 (i := 16) (fuel := 0) hlenR hns (by as_aux_lemma => (unfold IsOps at hR; subst hR; kernel_rfl)) (hR.at rfl) rfl (fun K' hK' => ?_)
          refine wp_store1 9 (.tmp 93) (.tmp 91) rfl q (o + j * 4) (.string (s ++ ⟨#[35]⟩)) rfl rfl D tD hD hlD i9 rfl ?_
          have hS1 : Scr A0 (k * 2 + j * 2 + 1) w (wrd.setCell ⟨q, o + j * 4, none⟩ (.string (s ++ ⟨#[35]⟩))) := hS.trans (Scr.set hw3 hy (.str (by rw [ByteArray.size_append]; exact Nat.le_refl _)))
          refine hK'.out _ _ (hS1.sl h4) ?_
          clear hK' K'
          try simp only [Act.put, List.setIfInBounds_toArray, List.set_cons_zero, List.set_cons_succ]
          refine done_run hlenR (by as_aux_lemma => kernel_rfl) ?_
          clear hR hns hlenR hcS R hD hlD
          clear hS hy hw3 hSC hsz hadd
          generalize World.setCell _ _ _ = ws1 at hS1 ⊢
          go_wp2_with fail
          refine region_named (S := SC b (off + 4) (.slice (some ⟨q, o, none⟩) m kap)) (n := 17) (by as_aux_lemma => kernel_rfl) (by as_aux_lemma => kernel_rfl) (show ws1.drew.cell? _ = _ from hS1.sl h4) (fun R hR => ?_)
          replace hS1 := hS1.drew
          generalize ws1.drew = ws1d at hS1 ⊢
          have hSC : SC b (off + 4) (.slice (some ⟨q, o, none⟩) m kap) ws1d := hS1.sl h4
          have hns : ssa2 R = true := by as_aux_lemma => (unfold IsOps at hR; subst hR; kernel_rfl)
          have hlenR : R.length = 17 := by as_aux_lemma => (unfold IsOps at hR; subst hR; kernel_rfl)
          have hcS : ∀ wx : World, SC b (off + 4) (.slice (some ⟨q, o, none⟩) m kap) wx → wx.cell? ⟨b, off + 4, none⟩ = some (.slice (some ⟨q, o, none⟩) m kap) := fun _ h => h
          refine takes_run2 [(0, .pointer (some ⟨b, off, none⟩)), (1, .pointer (some ⟨b, off, none⟩)), (2, .pointer (some ⟨b, off + 4, none⟩)), (3, .slice (some ⟨q, o, none⟩) m kap), (4, .int .i64 j), (5, .pointer (some ⟨b, off, none⟩)), (6, .pointer (some ⟨b, off, none⟩)), (7, .pointer (some ⟨b, off + 4, none⟩)), (8, .slice (some ⟨q, o, none⟩) m kap), (9, .int .i64 j), (10, .pointer (some ⟨q, o + j * 4, none⟩)), (11, .pointer (some ⟨q, o + j * 4 + 2, none⟩))] (fuel := 5) (d' := [11, 10, 9, 8, 7, 6, 5, 4, 3, 2, 1, 0]) (by as_aux_lemma => kernel_rfl) hns (by as_aux_lemma => (unfold IsOps at hR; subst hR; kernel_rfl)) rfl (fun _ _ _ _ _ h => h) hSC (fun K' hK' => ?_)
          refine RunsThen.cons (hR.at rfl) (by intro wx hSw; go_simp <;> rfl) ?_
          try simp only [Act.put, List.setIfInBounds_toArray, List.set_cons_zero, List.set_cons_succ]
          refine RunsThen.cons (hR.at rfl) (by intro wx hSw; go_simp <;> rfl) ?_
          try simp only [Act.put, List.setIfInBounds_toArray, List.set_cons_zero, List.set_cons_succ]
          refine RunsThen.cons (hR.at rfl) (by intro wx hSw; go_simp <;> rfl) ?_
          try simp only [Act.put, List.setIfInBounds_toArray, List.set_cons_zero, List.set_cons_succ]
          refine RunsThen.cons (hR.at rfl) (by intro wx hSw; go_simp <;> rfl) ?_
          try simp only [Act.put, List.setIfInBounds_toArray, List.set_cons_zero, List.set_cons_succ]
          refine RunsThen.cons (hR.at rfl) (by intro wx hSw; go_simp <;> rfl) ?_
          try simp only [Act.put, List.setIfInBounds_toArray, List.set_cons_zero, List.set_cons_succ]
          refine RunsThen.cons (hR.at rfl) (by intro wx hSw; go_simp <;> rfl) ?_
          try simp only [Act.put, List.setIfInBounds_toArray, List.set_cons_zero, List.set_cons_succ]
          refine RunsThen.cons (hR.at rfl) (by intro wx hSw; go_simp <;> rfl) ?_
          try simp only [Act.put, List.setIfInBounds_toArray, List.set_cons_zero, List.set_cons_succ]
          refine RunsThen.cons (hR.at rfl) (by intro wx hSw; go_simp <;> rfl) ?_
          try simp only [Act.put, List.setIfInBounds_toArray, List.set_cons_zero, List.set_cons_succ]
          refine RunsThen.cons (hR.at rfl) (by intro wx hSw; go_simp <;> rfl) ?_
          try simp only [Act.put, List.setIfInBounds_toArray, List.set_cons_zero, List.set_cons_succ]
          refine RunsThen.cons (hR.at rfl) (by intro wx hSw; go_simp <;> rfl) ?_
          try simp only [Act.put, List.setIfInBounds_toArray, List.set_cons_zero, List.set_cons_succ]
          refine RunsThen.cons (hR.at rfl) (by intro wx hSw; go_simp <;> rfl) ?_
          try simp only [Act.put, List.setIfInBounds_toArray, List.set_cons_zero, List.set_cons_succ]
          refine RunsThen.cons (hR.at rfl) (by intro wx hSw; go_simp <;> rfl) ?_
          try simp only [Act.put, List.setIfInBounds_toArray, List.set_cons_zero, List.set_cons_succ]
          refine RunsThen.nil (hK'.out _ ?_)
          clear hK' K'
          obtain ⟨s, hy, hsz⟩ := hx2.go hS1
          have hw3 := hqw.go hS1
          refine carry_run2 (i := 12) (fuel := 4) hlenR hns (by as_aux_lemma => (unfold IsOps at hR; subst hR; kernel_rfl)) (hR.at rfl) rfl (fun K' hK' => ?_)
          go_simp
          refine hK'.out _ _ hSC ?_
          clear hK' K'
          try simp only [Act.put, List.setIfInBounds_toArray, List.set_cons_zero, List.set_cons_succ]
          have hadd : s.size ≤ 9223372036854775806 := by omega
          refine takes_run2 [(13, .string (s ++ ⟨#[35]⟩)), (14, .pointer (some ⟨q, o + j * 4, none⟩)), (15, .pointer (some ⟨q, o + j * 4 + 2, none⟩))] (fuel := 1) (d' := [15, 14, 13, 12, 11, 10, 9, 8, 7, 6, 5, 4, 3, 2, 1, 0]) (by as_aux_lemma => kernel_rfl) hns (by as_aux_lemma => (unfold IsOps at hR; subst hR; kernel_rfl)) rfl (fun _ _ _ _ _ h => h) hSC (fun K' hK' => ?_)
          refine RunsThen.cons (hR.at rfl) (by intro wx hSw; go_simp <;> rfl) ?_
          try simp only [Act.put, List.setIfInBounds_toArray, List.set_cons_zero, List.set_cons_succ]
          refine RunsThen.cons (hR.at rfl) (by intro wx hSw; go_simp <;> rfl) ?_
          try simp only [Act.put, List.setIfInBounds_toArray, List.set_cons_zero, List.set_cons_succ]
          refine RunsThen.cons (hR.at rfl) (by intro wx hSw; go_simp <;> rfl) ?_
          try simp only [Act.put, List.setIfInBounds_toArray, List.set_cons_zero, List.set_cons_succ]
          refine RunsThen.nil (hK'.out _ ?_)
          clear hK' K'
          obtain ⟨D, tD, hD, hlD⟩ := hw3.at hy
          refine carry_run2 (i := 16) (fuel := 0) hlenR hns (by as_aux_lemma => (unfold IsOps at hR; subst hR; kernel_rfl)) (hR.at rfl) rfl (fun K' hK' => ?_)
          refine wp_store1 9 (.tmp 109) (.tmp 107) rfl q (o + j * 4 + 2) (.string (s ++ ⟨#[35]⟩)) rfl rfl D tD hD hlD i9 rfl ?_
          have hS2 : Scr A0 (k * 2 + j * 2 + 1 + 1) w (ws1d.setCell ⟨q, o + j * 4 + 2, none⟩ (.string (s ++ ⟨#[35]⟩))) := hS1.trans (Scr.set hw3 hy (.str (by rw [ByteArray.size_append]; exact Nat.le_refl _)))
          refine hK'.out _ _ (hS2.sl h4) ?_
          clear hK' K'
          try simp only [Act.put, List.setIfInBounds_toArray, List.set_cons_zero, List.set_cons_succ]
          refine done_run hlenR (by as_aux_lemma => kernel_rfl) ?_
          clear hR hns hlenR hcS R hD hlD
          clear hS1 hy hw3 hSC hsz hadd
          generalize World.setCell _ _ _ = ws2 at hS2 ⊢
          go_wp2_with fail
          refine region_named (S := SC b (off + 4) (.slice (some ⟨q, o, none⟩) m kap)) (n := 17) (by as_aux_lemma => kernel_rfl) (by as_aux_lemma => kernel_rfl) (show ws2.drew.cell? _ = _ from hS2.sl h4) (fun R hR => ?_)
          replace hS2 := hS2.drew
          generalize ws2.drew = ws2d at hS2 ⊢
          have hSC : SC b (off + 4) (.slice (some ⟨q, o, none⟩) m kap) ws2d := hS2.sl h4
          have hns : ssa2 R = true := by as_aux_lemma => (unfold IsOps at hR; subst hR; kernel_rfl)
          have hlenR : R.length = 17 := by as_aux_lemma => (unfold IsOps at hR; subst hR; kernel_rfl)
          have hcS : ∀ wx : World, SC b (off + 4) (.slice (some ⟨q, o, none⟩) m kap) wx → wx.cell? ⟨b, off + 4, none⟩ = some (.slice (some ⟨q, o, none⟩) m kap) := fun _ h => h
          refine takes_run2 [(0, .pointer (some ⟨b, off, none⟩)), (1, .pointer (some ⟨b, off, none⟩)), (2, .pointer (some ⟨b, off + 4, none⟩)), (3, .slice (some ⟨q, o, none⟩) m kap), (4, .int .i64 j), (5, .pointer (some ⟨b, off, none⟩)), (6, .pointer (some ⟨b, off, none⟩)), (7, .pointer (some ⟨b, off + 4, none⟩)), (8, .slice (some ⟨q, o, none⟩) m kap), (9, .int .i64 j), (10, .pointer (some ⟨q, o + j * 4, none⟩)), (11, .pointer (some ⟨q, o + j * 4 + 3, none⟩))] (fuel := 5) (d' := [11, 10, 9, 8, 7, 6, 5, 4, 3, 2, 1, 0]) (by as_aux_lemma => kernel_rfl) hns (by as_aux_lemma => (unfold IsOps at hR; subst hR; kernel_rfl)) rfl (fun _ _ _ _ _ h => h) hSC (fun K' hK' => ?_)
          refine RunsThen.cons (hR.at rfl) (by intro wx hSw; go_simp <;> rfl) ?_
          try simp only [Act.put, List.setIfInBounds_toArray, List.set_cons_zero, List.set_cons_succ]
          refine RunsThen.cons (hR.at rfl) (by intro wx hSw; go_simp <;> rfl) ?_
          try simp only [Act.put, List.setIfInBounds_toArray, List.set_cons_zero, List.set_cons_succ]
          refine RunsThen.cons (hR.at rfl) (by intro wx hSw; go_simp <;> rfl) ?_
          try simp only [Act.put, List.setIfInBounds_toArray, List.set_cons_zero, List.set_cons_succ]
          refine RunsThen.cons (hR.at rfl) (by intro wx hSw; go_simp <;> rfl) ?_
          try simp only [Act.put, List.setIfInBounds_toArray, List.set_cons_zero, List.set_cons_succ]
          refine RunsThen.cons (hR.at rfl) (by intro wx hSw; go_simp <;> rfl) ?_
          try simp only [Act.put, List.setIfInBounds_toArray, List.set_cons_zero, List.set_cons_succ]
          refine RunsThen.cons (hR.at rfl) (by intro wx hSw; go_simp <;> rfl) ?_
          try simp only [Act.put, List.setIfInBounds_toArray, List.set_cons_zero, List.set_cons_succ]
          refine RunsThen.cons (hR.at rfl) (by intro wx hSw; go_simp <;> rfl) ?_
          try simp only [Act.put, List.setIfInBounds_toArray, List.set_cons_zero, List.set_cons_succ]
          refine RunsThen.cons (hR.at rfl) (by intro wx hSw; go_simp <;> rfl) ?_
          try simp only [Act.put, List.setIfInBounds_toArray, List.set_cons_zero, List.set_cons_succ]
          refine RunsThen.cons (hR.at rfl) (by intro wx hSw; go_simp <;> rfl) ?_
          try simp only [Act.put, List.setIfInBounds_toArray, List.set_cons_zero, List.set_cons_succ]
          refine RunsThen.cons (hR.at rfl) (by intro wx hSw; go_simp <;> rfl) ?_
          try simp only [Act.put, List.setIfInBounds_toArray, List.set_cons_zero, List.set_cons_succ]
          refine RunsThen.cons (hR.at rfl) (by intro wx hSw; go_simp <;> rfl) ?_
          try simp only [Act.put, List.setIfInBounds_toArray, List.set_cons_zero, List.set_cons_succ]
          refine RunsThen.cons (hR.at rfl) (by intro wx hSw; go_simp <;> rfl) ?_
          try simp only [Act.put, List.setIfInBounds_toArray, List.set_cons_zero, List.set_cons_succ]
          refine RunsThen.nil (hK'.out _ ?_)
          clear hK' K'
          obtain ⟨y, hy⟩ := hS2.bool hx3
          have hw3 := hqw.go hS2
          refine carry_run2 (i := 12) (fuel := 4) hlenR hns (by as_aux_lemma => (unfold IsOps at hR; subst hR; kernel_rfl)) (hR.at rfl) rfl (fun K' hK' => ?_)
          go_simp
          refine hK'.out _ _ hSC ?_
          clear hK' K'
          try simp only [Act.put, List.setIfInBounds_toArray, List.set_cons_zero, List.set_cons_succ]
          refine takes_run2 [(13, .bool (!y)), (14, .pointer (some ⟨q, o + j * 4, none⟩)), (15, .pointer (some ⟨q, o + j * 4 + 3, none⟩))] (fuel := 1) (d' := [15, 14, 13, 12, 11, 10, 9, 8, 7, 6, 5, 4, 3, 2, 1, 0]) (by as_aux_lemma => kernel_rfl) hns (by as_aux_lemma => (unfold IsOps at hR; subst hR; kernel_rfl)) rfl (fun _ _ _ _ _ h => h) hSC (fun K' hK' => ?_)
          refine RunsThen.cons (hR.at rfl) (by intro wx hSw; go_simp <;> rfl) ?_
          try simp only [Act.put, List.setIfInBounds_toArray, List.set_cons_zero, List.set_cons_succ]
          refine RunsThen.cons (hR.at rfl) (by intro wx hSw; go_simp <;> rfl) ?_
          try simp only [Act.put, List.setIfInBounds_toArray, List.set_cons_zero, List.set_cons_succ]
          refine RunsThen.cons (hR.at rfl) (by intro wx hSw; go_simp <;> rfl) ?_
          try simp only [Act.put, List.setIfInBounds_toArray, List.set_cons_zero, List.set_cons_succ]
          refine RunsThen.nil (hK'.out _ ?_)
          clear hK' K'
          obtain ⟨D, tD, hD, hlD⟩ := hw3.at hy
          refine carry_run2 (i := 16) (fuel := 0) hlenR hns (by as_aux_lemma => (unfold IsOps at hR; subst hR; kernel_rfl)) (hR.at rfl) rfl (fun K' hK' => ?_)
          refine wp_store1 4 (.tmp 125) (.tmp 123) rfl q (o + j * 4 + 3) (.bool (!y)) rfl rfl D tD hD hlD i4 rfl ?_
          have hS3 : Scr A0 (k * 2 + j * 2 + 1 + 1 + 0) w (ws2d.setCell ⟨q, o + j * 4 + 3, none⟩ (.bool (!y))) := hS2.trans (Scr.set hw3 hy (.bl (n := 0) _ _))
          refine hK'.out _ _ (hS3.sl h4) ?_
          clear hK' K'
          try simp only [Act.put, List.setIfInBounds_toArray, List.set_cons_zero, List.set_cons_succ]
          refine done_run hlenR (by as_aux_lemma => kernel_rfl) ?_
          clear hR hns hlenR hcS R hD hlD
          clear hS2 hy hw3 hSC
          generalize World.setCell _ _ _ = ws3 at hS3 ⊢
          go_wp2_with fail
          go_roundw
          case rel => exact ⟨j + 1, by omega, by go_num, hS3.mono (by omega)⟩
          case measure => simp [intOf]; omega
        · have hi : ¬ (j : Int) < (m : Int) := by omega
          have hb4 := hS.sl h4
          go_wp2_with fail
          go_end0
          exact ⟨rfl, hS.mono (by omega)⟩
end Go.Proofs.Qxb6618675a
