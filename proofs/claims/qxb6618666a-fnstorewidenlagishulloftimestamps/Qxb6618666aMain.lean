/-
  THE LAW's OWN WALK.
-/
import Derived.Test.Qxb6618666aWalkF
import Derived.Deep.DeepCutAuto
namespace Go.Proofs.Qxb6618666a
open Go.RowKit Go.Maps

theorem Try.info3 : (Try.prog.info? 3).map (fun i => (i.zero, i.size, i.bytes)) = some (some (.int .i64 0), 1, 8) := by kernel_rfl

set_option maxRecDepth 100000 in
set_option maxHeartbeats 2000000 in
theorem walk (a0 : Option Addr) (len0 cap0 : Nat) (z0 : List Int) (a1 : Int) (a2 : Option Addr) (len2 cap2 : Nat) (z2 : List Int) (a3 : Int) (a4 : Int) (w : World) (w0 : IsRow .i64 w a0 len0 cap0 z0) (w1 : (Lit.int .u64 a1).wf = true) (w2 : IsRow .i64 w a2 len2 cap2 z2) (w3 : (Lit.int .u64 a3).wf = true) (w4 : (Lit.int .i64 a4).wf = true) :
    Calls Try.prog 3 #[.slice a0 len0 cap0, .int .u64 a1, .slice a2 len2 cap2, .int .u64 a3, .int .i64 a4] w fun e w' => e = .returned (.bool true) ∧ Below w.heap.size w w' := by
  obtain ⟨r, hr⟩ := bytes_any a0 a2 len0 cap0 len2 cap2 a1 a3 a4 w
  have HR := hidden hr
  clear hr
  cases r with
  | false =>
    go_enter Try.func3, Try.ntmps3
    go_wp2_with (go_at_call 7; refine HR.out.mono ?_; rintro e w' ⟨rfl, rfl⟩)
    go_ret
    exact ⟨rfl, Below.refl _ _⟩
  | true =>
  by_cases h1 : (4096 : Int) < len0
  · go_enter Try.func3, Try.ntmps3
    go_wp2_with (go_at_call 7; refine HR.out.mono ?_; rintro e w' ⟨rfl, rfl⟩)
    go_ret
    exact ⟨rfl, Below.refl _ _⟩
  by_cases h2 : (4096 : Int) < len2
  · go_enter Try.func3, Try.ntmps3
    go_wp2_with (go_at_call 7; refine HR.out.mono ?_; rintro e w' ⟨rfl, rfl⟩)
    go_ret
    exact ⟨rfl, Below.refl _ _⟩
  by_cases h3 : a1 = 0
  · subst h3
    go_enter Try.func3, Try.ntmps3
    go_wp2_with (go_at_call 7; refine HR.out.mono ?_; rintro e w' ⟨rfl, rfl⟩)
    go_ret
    exact ⟨rfl, Below.refl _ _⟩
  by_cases h4 : a3 = 0
  · subst h4
    have h3' : (a1 == 0) = false := beq_eq_false_iff_ne.2 h3
    go_enter Try.func3, Try.ntmps3
    go_wp2_with (go_at_call 7; refine HR.out.mono ?_; rintro e w' ⟨rfl, rfl⟩)
    go_ret
    exact ⟨rfl, Below.refl _ _⟩
  have h3' : (a1 == 0) = false := beq_eq_false_iff_ne.2 h3
  have h4' : (a3 == 0) = false := beq_eq_false_iff_ne.2 h4
  have ht1 : 1 ≤ a1 := by have := bounds_u64 w1; omega
  have ht2 : 1 ≤ a3 := by have := bounds_u64 w3; omega
  have hnn := fun (w : World) (a : Option Addr) (n c n' c' : Nat) => run_neq_slice_nil_any (P := Try.prog) w 22 3 a n c n' c' Try.underlying22
  obtain ⟨i0, hi, hz0, hz1, hz2⟩ := info_parts Try.info3
  have hl0 : len0 ≤ 4096 := by omega
  have hl2 : len2 ≤ 4096 := by omega
  obtain ⟨A, hA⟩ : ∃ A, z0.take len0 = A := ⟨_, rfl⟩
  obtain ⟨B, hB⟩ : ∃ B, z2.take len2 = B := ⟨_, rfl⟩
  have HA := hidden hA
  have HB := hidden hB
  clear hA hB
  go_enter Try.func3, Try.ntmps3
  go_upto_if 49 with (go_at_call 7; refine HR.out.mono ?_; rintro e w' ⟨rfl, rfl⟩)
  go_cut [0] (fun s0 wc => ∃ a ca, s0 = .slice a len0 ca ∧ Hid (IsArr wc wc.heap.size a len0 A ∧ (a = none → ca = 0) ∧ Below w.heap.size w wc))
  case first =>
    rcases w0 with ⟨rfl, rfl, rfl, rfl⟩ | ⟨x, rfl, hlc, hm0, hzl, hc0, hwf0⟩
    · go_wp2
      go_meet
      exact ⟨none, 0, rfl, show _ ∧ _ from ⟨⟨by rw [← HA.out]; rfl, by rw [← HA.out]; simp, .inl ⟨rfl, rfl⟩⟩, fun _ => rfl, Below.refl _ _⟩⟩
    · have HC := hidden hc0
      clear hc0
      go_wp2_with (first
        | (at_make; refine wpList_make_full _ rfl (.tmp 51) (.tmp 51) 22 rfl w.heap.size 3 i0 (.int .i64 0) 1 Try.underlying22 hi hz0 hz1 .i64 .i64 _ _ len0 rfl rfl rfl rfl (by rw [hz2]; omega) (by unfold maxLen; omega) (Nat.le_refl _) ?_; intro wm hown hgr; obtain ⟨cur, hcur, hcs⟩ := made_block hown; have hcp := copy_run hcur hcs hzl hlc HA.out HC.out hgr)
        | fail)
      go_meet
      refine ⟨some ⟨w.heap.size, 0, none⟩, len0, rfl, show _ ∧ _ from ⟨copied hcur (by rw [← HA.out]; simp; omega) (fun x hx => hwf0 x (by rw [← HA.out] at hx; exact List.mem_of_mem_take hx)), (fun h => by cases h), copied_below (Below.refl _ _) hgr _ rfl⟩⟩
  case rest =>
  obtain ⟨a, ca, rfl, HA1⟩ := hcut
  go_upto_if 58 with fail
  go_cut [2] (fun s2 wd => ∃ b cb, s2 = .slice b len2 cb ∧ Hid (IsArr wd wd.heap.size b len2 B ∧ (b = none → cb = 0) ∧ IsArr wd wd.heap.size a len0 A ∧ Below w.heap.size w wd))
  case first =>
    obtain ⟨hA1, _, hbel⟩ := HA1.out
    have w2' := w2.below hbel
    rcases w2' with ⟨rfl, rfl, rfl, rfl⟩ | ⟨x, rfl, hlc, hm0, hzl, hc0, hwf0⟩
    · go_wp2
      go_meet
      exact ⟨none, 0, rfl, show _ ∧ _ from ⟨⟨by rw [← HB.out]; rfl, by rw [← HB.out]; simp, .inl ⟨rfl, rfl⟩⟩, fun _ => rfl, hA1, hbel⟩⟩
    · have HC := hidden hc0
      clear hc0
      go_wp2_with (first
        | (at_make; refine wpList_make_full _ rfl (.tmp 60) (.tmp 60) 22 rfl wc.heap.size 3 i0 (.int .i64 0) 1 Try.underlying22 hi hz0 hz1 .i64 .i64 _ _ len2 rfl rfl rfl rfl (by rw [hz2]; omega) (by unfold maxLen; omega) (Nat.le_refl _) ?_; intro wm hown hgr; obtain ⟨cur, hcur, hcs⟩ := made_block hown; have hcp := copy_run hcur hcs hzl hlc HB.out HC.out hgr)
        | fail)
      go_meet
      have hb2 : Below wc.heap.size wc (wm.setRow wc.heap.size (B.map (Value.int .i64)).toArray) := copied_below (Below.refl _ _) hgr _ rfl
      refine ⟨some ⟨wc.heap.size, 0, none⟩, len2, rfl, show _ ∧ _ from ⟨copied hcur (by rw [← HB.out]; simp; omega) (fun x hx => hwf0 x (by rw [← HB.out] at hx; exact List.mem_of_mem_take hx)), (fun h => by cases h), (hA1.below hb2).up hb2.size, copied_below hbel hgr _ rfl⟩⟩
  case rest =>
  obtain ⟨b, cb, rfl, HB1⟩ := hcut
  obtain ⟨_, hca, _⟩ := HA1.out
  obtain ⟨hB1, hcb, hA1, hbel⟩ := HB1.out
  have ea := hA1.form hca
  have eb := hB1.form hcb
  have HCA := CapOk.mk hca
  have HCB := CapOk.mk hcb
  have HAA := hidden hA1
  have HBB := hidden hB1
  clear hca hcb hA1 hB1 HA1 HB1 w0 w2
  obtain ⟨ab, hab⟩ : ∃ ab : Option Addr × Option Addr, ab = (a, b) := ⟨_, rfl⟩
  have HAB := hidden hab
  clear hab
  rcases ea with ⟨rfl, e0, e1⟩ | ⟨ba, oa, rfl⟩ <;> rcases eb with ⟨rfl, e2, e3⟩ | ⟨bb, ob, rfl⟩
  all_goals (try clear e0 e1)
  all_goals (try clear e2 e3)
  all_goals
    go_wp2_with fail
    refine (newStore _).mono ?_
    rintro e ws ⟨rfl, cs, h36, rfl⟩
    have hst := St.start (w := wc) h36
    have hws : Below wc.heap.size wc ((wc.alloc (.map #[] 0)).alloc (.cells cs 86)) := ((Below.refl _ _).alloc (Nat.le_refl _) _).alloc (by simp) _
    have hA2 := HAA.out.below hws
    have hB2 := HBB.out.below hws
    have hbel2 := hbel.trans (hws.mono hbel.size)
    have hNw := hbel.size
    clear HAA HBB hws h36 hbel
    generalize (wc.alloc (.map #[] 0)).alloc (.cells cs 86) = ws at hst hA2 hB2 hbel2 ⊢
    generalize wc.heap.size = N at hst hA2 hB2 hNw ⊢
    have H9 := hidden (first_call hst ht1 hA2 HCA hl0)
    have HX := hidden (And.intro hA2 (And.intro hB2 hbel2))
    clear hst hA2 hB2 hbel2
    go_wp2_with fail
    refine H9.out.mono ?_
    rintro e wf ⟨rfl, g, hst1, hg1, hb1⟩
    obtain ⟨hA2, hB2, hbel2⟩ := HX.out
    have H9b := hidden (second_call hst1 hg1 ht2 (hA2.below hb1) (hB2.below hb1) HCB hl0 hl2 (hbel2.trans (hb1.mono hNw)) hNw)
    clear hst1 hg1 hA2 hB2 hbel2 HX H9 hb1
    generalize hc2 : want2 A a1 a3 B = c2 at H9b
    have HC2 := hidden hc2
    clear hc2
    go_wp2_with fail
    refine H9b.out.mono ?_
    rintro e wg ⟨rfl, hfin⟩
    have HF := hidden hfin
    clear hfin H9b
    go_wp2_with fail
    go_loopw [16, 17] (fun v i wr => ∃ k : Nat, k ≤ len2 ∧ i = .int .i64 k ∧ ∃ u : Bool, v = .bool u ∧ Hid (u = want2 A a1 a3 (B.take k)) ∧ wr = wg) (fun _ i _ => len2 - (intOf i).toNat)
    case atStart => exact ⟨0, Nat.zero_le _, rfl, false, rfl, show false = want2 A a1 a3 (B.take 0) by simp [want2], rfl⟩
    case round =>
      obtain ⟨k, hk, rfl, u, rfl, Hu, rfl⟩ := hrel
      by_cases hlt : k < len2
      · obtain ⟨b', o', e', hcx⟩ := HF.out.2.2.1.at hlt
        cases e' <;> (
          have hk1 := hidden (HF.out.hasA HCA hl0 (B.getD k 0))
          obtain ⟨x, hx⟩ : ∃ x, B.getD k 0 = x := ⟨_, rfl⟩
          rw [hx] at hcx hk1
          have hstep := hidden (want2_snoc A a1 a3 (B.take k) x)
          have hts := hidden (take_snoc B k (by rw [HF.out.2.2.1.1]; exact hlt))
          rw [hx] at hts
          clear hx
          have hr := hidden (show want2 A a1 a3 (B.take (k + 1)) = (u || (!(a3 == a1) || !A.contains x)) by rw [hts.out, hstep.out, Hu.out])
          clear hstep hts
          generalize A.contains x = cx at hk1 hr
          cases hne : (a3 == a1) with
          | false =>
            have hne' : (a3 != a1) = true := by simp [bne, hne]
            go_wp2_with fail
            go_roundw
            case rel => exact ⟨k + 1, by omega, by go_num, true, rfl, show true = _ by rw [hr.out, hne]; simp, by trivial⟩
            case measure => simp [intOf]; omega
          | true =>
            have hne' : (a3 != a1) = false := by simp [bne, hne]
            cases cx with
            | false =>
              go_wp2_with (go_at_call 10; refine hk1.out.mono ?_; rintro e w' ⟨rfl, rfl⟩)
              go_roundw
              case rel => exact ⟨k + 1, by omega, by go_num, true, rfl, show true = _ by rw [hr.out]; simp, by trivial⟩
              case measure => simp [intOf]; omega
            | true =>
              go_wp2_with (go_at_call 10; refine hk1.out.mono ?_; rintro e w' ⟨rfl, rfl⟩)
              go_roundw
              case rel => exact ⟨k + 1, by omega, by go_num, u, rfl, show u = _ by rw [hr.out, hne]; simp, by trivial⟩
              case measure => simp [intOf]; omega)
      · have hu : u = c2 := by rw [Hu.out, ← HC2.out, List.take_of_length_le (by rw [HF.out.2.2.1.1]; omega)]
        subst hu
        clear Hu HC2
        have HG : Hid (Fin w wr N ab.1 ab.2 len0 len2 A B a1 a3) := by show Fin w wr N ab.1 ab.2 len0 len2 A B a1 a3; rw [HAB.out]; exact HF.out
        clear HF
        go_wp2_with fail
        go_loopw [18] (fun i wx => ∃ k : Nat, k ≤ len0 ∧ i = .int .i64 k ∧ Hid (Fin w wx N ab.1 ab.2 len0 len2 A B a1 a3)) (fun i _ => len0 - (intOf i).toNat)
        case atStart => exact ⟨0, Nat.zero_le _, rfl, HG⟩
        case round =>
          obtain ⟨k, hk, rfl, HF⟩ := hrel
          rename_i wx
          by_cases hlt : k < len0
          · have hf := HF.out
            rw [HAB.out] at hf
            obtain ⟨b', o', e', hcx⟩ := hf.2.1.at hlt
            cases e' <;> (
              have hk1 := hidden (hf.after HCA HCB hl0 hl2 (A.getD k 0) (hf.2.1.wfAt k))
              obtain ⟨x, hx⟩ : ∃ x, A.getD k 0 = x := ⟨_, rfl⟩
              rw [hx] at hcx hk1
              clear hx hf HF
              go_wp2_with (go_at_call 11; refine hk1.out.mono ?_; rintro e w' ⟨rfl, hf2⟩)
              go_roundw
              case rel => exact ⟨k + 1, by omega, by go_num, show Fin _ _ _ _ _ _ _ _ _ _ _ by rw [HAB.out]; exact hf2⟩
              case measure => simp [intOf]; omega)
          · clear HG
            go_wp2_with fail
            go_loopw [19] (fun i wy => ∃ k : Nat, k ≤ len2 ∧ i = .int .i64 k ∧ Hid (Fin w wy N ab.1 ab.2 len0 len2 A B a1 a3)) (fun i _ => len2 - (intOf i).toNat)
            case atStart => exact ⟨0, Nat.zero_le _, rfl, HF⟩
            case round =>
              clear HF
              obtain ⟨k2, hk2, rfl, HF⟩ := hrel
              by_cases hlt2 : k2 < len2
              · have hf := HF.out
                rw [HAB.out] at hf
                obtain ⟨b', o', e', hcx⟩ := hf.2.2.1.at hlt2
                cases e' <;> (
                  have hk1 := hidden (hf.after HCA HCB hl0 hl2 (B.getD k2 0) (hf.2.2.1.wfAt k2))
                  obtain ⟨x, hx⟩ : ∃ x, B.getD k2 0 = x := ⟨_, rfl⟩
                  rw [hx] at hcx hk1
                  clear hx hf HF
                  go_wp2_with (go_at_call 11; refine hk1.out.mono ?_; rintro e w' ⟨rfl, hf2⟩)
                  go_roundw
                  case rel => exact ⟨k2 + 1, by omega, by go_num, show Fin _ _ _ _ _ _ _ _ _ _ _ by rw [HAB.out]; exact hf2⟩
                  case measure => simp [intOf]; omega)
              · have hf := HF.out
                rw [HAB.out] at hf
                have hk1 := hidden (hf.after HCA HCB hl0 hl2 a4 w4)
                clear hf HF
                go_wp2_with (go_at_call 11; refine hk1.out.mono ?_; rintro e w' ⟨rfl, hf2⟩)
                go_ret
                exact ⟨rfl, hf2.2.2.2⟩
end Go.Proofs.Qxb6618666a
