/-
  THE WALKS of package time's functions that the law comes to: Add at the zero time, Equal at such times.
-/
import Derived.Test.Qxb6618727aDoorProg
import Derived.WalkKit
import Derived.WalkSpells
import Derived.BigRegion
import Derived.BigQuiet
import Derived.Deep.QuietTactic
import Derived.Laws.BitsAllLaws
namespace Go.Proofs.Qxb6618727aDoor
open Go.RowKit

theorem hidden {p : Prop} (h : p) : Hid p := h

theorem or_in (x : Int) (h0 : 0 ≤ x) (h1 : x < 1073741824) : bits .or .u64 (bits .andNot .u64 0 1073741823) x = x := by
  have e : bits .andNot .u64 0 1073741823 = 0 := by decide +kernel
  rw [e, u64_or 0 x (by decide) (by decide) h0 (by omega)]
  simp
  omega
theorem and_top (x : Int) (h0 : 0 ≤ x) (h1 : x < 1073741824) : bits .and .u64 x 9223372036854775808 = 0 := by
  rw [u64_and x _ h0 (by omega) (by decide) (by decide)]
  have e : (9223372036854775808 : Int).toNat = 2 ^ 63 := by decide
  rw [e]
  have h2 : x.toNat.testBit 63 = false := Nat.testBit_lt_two_pow (by have : (2 : Nat) ^ 63 = 9223372036854775808 := by decide
                                                                     omega)
  have h3 : x.toNat &&& 2 ^ 63 = 0 := by
    apply Nat.eq_of_testBit_eq
    intro i
    rw [Nat.testBit_and, Nat.testBit_two_pow, Nat.zero_testBit]
    by_cases h : 63 = i
    · subst h; simp [h2]
    · simp [h]
  rw [h3]
  rfl
theorem and_low (x : Int) (h0 : 0 ≤ x) (h1 : x < 1073741824) : bits .and .u64 x 1073741823 = x := by
  rw [u64_and x _ h0 (by omega) (by decide) (by decide)]
  have e : (1073741823 : Int).toNat = 2 ^ 30 - 1 := by decide
  rw [e, Nat.and_two_pow_sub_one_eq_mod]
  omega

theorem nsec_any (b : Nat) (x : Int) (w : World) (h0 : 0 ≤ x) (h1 : x < 1073741824) (c0 : w.cell? ⟨b, 0, none⟩ = some (.int .u64 x)) : Calls Tryd.prog 31 #[.pointer (some ⟨b, 0, none⟩)] w fun e w' => e = .returned (.int .i32 x) ∧ w = w' := by
  have e := and_low x h0 h1
  go_enter Tryd.func31, Tryd.ntmps31
  go_wp2
  go_ret
  exact ⟨rfl, rfl⟩

theorem sec_any (b : Nat) (x y : Int) (w : World) (h0 : 0 ≤ x) (h1 : x < 1073741824) (c0 : w.cell? ⟨b, 0, none⟩ = some (.int .u64 x)) (c1 : w.cell? ⟨b, 1, none⟩ = some (.int .i64 y)) : Calls Tryd.prog 30 #[.pointer (some ⟨b, 0, none⟩)] w fun e w' => e = .returned (.int .i64 y) ∧ w = w' := by
  have e := and_top x h0 h1
  go_enter Tryd.func30, Tryd.ntmps30
  go_wp2
  go_ret
  exact ⟨rfl, rfl⟩

theorem addSec_any (b : Nat) (x d : Int) (w : World) (h0 : 0 ≤ x) (h1 : x < 1073741824) (d0 : -9223372036854775808 ≤ d) (d1 : d ≤ 9223372036854775807) (c0 : w.cell? ⟨b, 0, none⟩ = some (.int .u64 x)) (c1 : w.cell? ⟨b, 1, none⟩ = some (.int .i64 0)) (f1 : w.frozen? ⟨b, 1, none⟩ = false) :
    Calls Tryd.prog 32 #[.pointer (some ⟨b, 0, none⟩), .int .i64 d] w fun e w' => e = .returned (.tuple #[]) ∧ w.setCell ⟨b, 1, none⟩ (.int .i64 d) = w' := by
  have e := and_top x h0 h1
  by_cases hd : 0 < d
  · go_enter Tryd.func32, Tryd.ntmps32
    go_wp2
    go_end0
    exact ⟨rfl, rfl⟩
  · go_enter Tryd.func32, Tryd.ntmps32
    go_wp2
    go_end0
    exact ⟨rfl, rfl⟩

/-- The nanoseconds and the seconds of the time that is ns nanoseconds after the zero time. -/
def tN (ns : Int) : Int := ns % 1000000000
def tS (ns : Int) : Int := ns / 1000000000
theorem tN_bd (ns : Int) : 0 ≤ tN ns ∧ tN ns < 1000000000 := by unfold tN; omega

theorem neg_parts (ns : Int) (h : ns < 0) : ns.tdiv 1000000000 = -((-ns) / 1000000000) ∧ ns.tmod 1000000000 = -((-ns) % 1000000000) := by
  obtain ⟨m, rfl⟩ : ∃ m, ns = -m := ⟨-ns, by omega⟩
  rw [Int.neg_tdiv, Int.neg_tmod, Int.neg_neg, Int.tdiv_eq_ediv_of_nonneg (by omega), Int.tmod_eq_emod_of_nonneg (by omega)]
  exact ⟨rfl, rfl⟩

set_option maxRecDepth 100000 in
theorem add_any (ns : Int) (w : World) (h0 : -9223372036854775808 ≤ ns) (h1 : ns ≤ 9223372036854775807) : Calls Tryd.prog 26 #[.agg #[.int .u64 0, .int .i64 0, .pointer none], .int .i64 ns] w fun e w' => e = .returned (.agg #[.int .u64 (tN ns), .int .i64 (tS ns), .pointer none]) ∧ ∃ o1 o2, (w.alloc o1).alloc o2 = w' := by
  obtain ⟨x, hx⟩ : ∃ x, tN ns = x := ⟨_, rfl⟩
  obtain ⟨d, hd⟩ : ∃ d, tS ns = d := ⟨_, rfl⟩
  rw [hx, hd]
  by_cases g : 0 ≤ ns
  · have q : ns / 1000000000 = d := hd
    have r : ns % 1000000000 = x := hx
    have x0 : 0 ≤ x := by omega
    have x1 : x < 1000000000 := by omega
    have d0 : 0 ≤ d := by omega
    have d1 : d ≤ 9223372037 := by omega
    have e1 := or_in x x0 (by omega)
    have e2 := and_top x x0 (by omega)
    clear hx hd
    go_enter Tryd.func26, Tryd.ntmps26
    go_wp2_with (first
      | (go_at_call 31; refine (nsec_any _ 0 _ (by decide) (by decide) (by go_simp)).mono ?_; rintro e w' ⟨rfl, rfl⟩)
      | (go_at_call 32; refine (addSec_any _ x d _ x0 (by omega) (by omega) (by omega) (by go_simp) (by go_simp) (by go_simp)).mono ?_; rintro e w' ⟨rfl, rfl⟩))
    exact bodyPost_ret (v := .agg #[.int .u64 x, .int .i64 d, .pointer none]) (by simp [results, Tryd.results26, go_sem]) rfl ⟨rfl, _, _, rfl⟩
  · have hng : ns < 0 := by omega
    obtain ⟨p1, p2⟩ := neg_parts ns hng
    obtain ⟨qq, q⟩ : ∃ qq, ns.tdiv 1000000000 = qq := ⟨_, rfl⟩
    obtain ⟨rr, r⟩ : ∃ rr, ns.tmod 1000000000 = rr := ⟨_, rfl⟩
    rw [q] at p1
    rw [r] at p2
    unfold tN at hx
    unfold tS at hd
    have q0 : -9223372037 ≤ qq := by omega
    have q1 : qq ≤ 0 := by omega
    have r0 : -1000000000 < rr := by omega
    have r1 : rr ≤ 0 := by omega
    by_cases z : rr = 0
    · obtain rfl : d = qq := by omega
      obtain rfl : x = 0 := by omega
      subst z
      have e1 := or_in 0 (by decide) (by decide)
      have e2 := and_top 0 (by decide) (by decide)
      clear hx hd p1 p2
      go_enter Tryd.func26, Tryd.ntmps26
      go_wp2_with (first
        | (go_at_call 31; refine (nsec_any _ 0 _ (by decide) (by decide) (by go_simp)).mono ?_; rintro e w' ⟨rfl, rfl⟩)
        | (go_at_call 32; refine (addSec_any _ 0 d _ (by decide) (by decide) (by omega) (by omega) (by go_simp) (by go_simp) (by go_simp)).mono ?_; rintro e w' ⟨rfl, rfl⟩))
      exact bodyPost_ret (v := .agg #[.int .u64 0, .int .i64 d, .pointer none]) (by simp [results, Tryd.results26, go_sem]) rfl ⟨rfl, _, _, rfl⟩
    · obtain rfl : d = qq - 1 := by omega
      obtain rfl : x = rr + 1000000000 := by omega
      have r2 : rr < 0 := by omega
      have e1 := or_in (rr + 1000000000) (by omega) (by omega)
      have e2 := and_top (rr + 1000000000) (by omega) (by omega)
      clear hx hd p1 p2 z
      go_enter Tryd.func26, Tryd.ntmps26
      go_wp2_with (first
        | (go_at_call 31; refine (nsec_any _ 0 _ (by decide) (by decide) (by go_simp)).mono ?_; rintro e w' ⟨rfl, rfl⟩)
        | (go_at_call 32; refine (addSec_any _ (rr + 1000000000) (qq - 1) _ (by omega) (by omega) (by omega) (by omega) (by go_simp) (by go_simp) (by go_simp)).mono ?_; rintro e w' ⟨rfl, rfl⟩))
      exact bodyPost_ret (v := .agg #[.int .u64 (rr + 1000000000), .int .i64 (qq - 1), .pointer none]) (by simp [results, Tryd.results26, go_sem]) rfl ⟨rfl, _, _, rfl⟩

theorem at_any (ns : Int) (w : World) (h0 : -9223372036854775808 ≤ ns) (h1 : ns ≤ 9223372036854775807) : Calls Tryd.prog 20 #[.int .i64 ns] w fun e w' => e = .returned (.agg #[.int .u64 (tN ns), .int .i64 (tS ns), .pointer none]) ∧ ∃ o1 o2 o3, ((w.alloc o1).alloc o2).alloc o3 = w' := by
  go_enter Tryd.func20, Tryd.ntmps20
  go_wp2_with (go_at_call 26; refine (add_any _ _ h0 h1).mono ?_; rintro e w' ⟨rfl, o1, o2, rfl⟩)
  exact bodyPost_ret (v := .agg #[.int .u64 (tN ns), .int .i64 (tS ns), .pointer none]) (by simp [results, Tryd.results20, go_sem]) rfl ⟨rfl, _, _, _, rfl⟩
end Go.Proofs.Qxb6618727aDoor
