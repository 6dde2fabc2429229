/-
  THE STATEMENT 'Rows.FnValidateSeesOnlyWhichFieldsAreGivenSaid', PROVED: after the kit's template; the arguments are two structs of nine strings, by value.
-/
import Derived.Test.Qxb6618701aRows
import Derived.Test.Qxb6618701aMain
import Derived.ProofKit
import Derived.Below
namespace Go.Proofs.Qxb6618701a
open Go.ChangeShapes Go.WideShapes Go.ChangeAt Go.RowKit

theorem own : ownKnob Try.prog.godebug = none := by kernel_rfl
theorem laidOut : laidOutB Try.prog = true := by kernel_rfl
theorem cells23 : Try.prog.cellsOf 23 = 9 := by kernel_rfl
theorem cells9 : Try.prog.cellsOf 9 = 1 := by kernel_rfl

theorem list9 {α : Type} {l : List α} (h : l.length = 9) : ∃ c0 c1 c2 c3 c4 c5 c6 c7 c8, l = [c0, c1, c2, c3, c4, c5, c6, c7, c8] := by
  match l, h with
  | [c0, c1, c2, c3, c4, c5, c6, c7, c8], _ => exact ⟨c0, c1, c2, c3, c4, c5, c6, c7, c8, rfl⟩

theorem open_req {H : Type} {enc : TypeId × Value → H} {W : World} {r : Reach} {b0 base : Nat} {spare : Nat → Bool} {held : Bool} {v : Value} {d : DataW H} {p : List MemPlace}
    (hv : Value.okWide Try.prog W r b0 23 v) (h : DataW.Trod enc Try.prog W base spare held 23 v d p) : ∃ s0 s1 s2 s3 s4 s5 s6 s7 s8 : ByteArray, v = .agg #[.string s0, .string s1, .string s2, .string s3, .string s4, .string s5, .string s6, .string s7, .string s8] := by
  obtain ⟨cs, rfl, hsz⟩ := okWide_struct Try.underlying23 hv
  obtain ⟨l⟩ := cs
  obtain ⟨c0, c1, c2, c3, c4, c5, c6, c7, c8, rfl⟩ := list9 (l := l) (by simpa [cells23] using hsz)
  obtain ⟨fuel, hf⟩ := h
  obtain ⟨xs, n, _, _, _, hlen, hget⟩ := DataW.trod_struct Try.underlying23 hf
  obtain ⟨y0, y1, y2, y3, y4, y5, y6, y7, y8, rfl⟩ := list9 (l := xs) (by simpa using hlen)
  have g0 := hget 0 _ rfl
  simp [Value.cells, cells9] at g0
  obtain ⟨s0, e0, _⟩ := DataW.trod_string Try.underlying9 g0
  have g1 := hget 1 _ rfl
  simp [Value.cells, cells9] at g1
  obtain ⟨s1, e1, _⟩ := DataW.trod_string Try.underlying9 g1
  have g2 := hget 2 _ rfl
  simp [Value.cells, cells9] at g2
  obtain ⟨s2, e2, _⟩ := DataW.trod_string Try.underlying9 g2
  have g3 := hget 3 _ rfl
  simp [Value.cells, cells9] at g3
  obtain ⟨s3, e3, _⟩ := DataW.trod_string Try.underlying9 g3
  have g4 := hget 4 _ rfl
  simp [Value.cells, cells9] at g4
  obtain ⟨s4, e4, _⟩ := DataW.trod_string Try.underlying9 g4
  have g5 := hget 5 _ rfl
  simp [Value.cells, cells9] at g5
  obtain ⟨s5, e5, _⟩ := DataW.trod_string Try.underlying9 g5
  have g6 := hget 6 _ rfl
  simp [Value.cells, cells9] at g6
  obtain ⟨s6, e6, _⟩ := DataW.trod_string Try.underlying9 g6
  have g7 := hget 7 _ rfl
  simp [Value.cells, cells9] at g7
  obtain ⟨s7, e7, _⟩ := DataW.trod_string Try.underlying9 g7
  have g8 := hget 8 _ rfl
  simp [Value.cells, cells9] at g8
  obtain ⟨s8, e8, _⟩ := DataW.trod_string Try.underlying9 g8
  simp at e0 e1 e2 e3 e4 e5 e6 e7 e8
  exact ⟨s0, s1, s2, s3, s4, s5, s6, s7, s8, by rw [e0, e1, e2, e3, e4, e5, e6, e7, e8]⟩

set_option maxRecDepth 100000 in
theorem lifted (os : Os) (started : os.Started) (H : Type) (enc : TypeId × Value → H) :
    ReturnsInHanded {} Try.checked os 3 .any (Rows.fnValidateSeesOnlyWhichFieldsAreGivenSpec.pre6 enc Try.prog Try.f3 Rows.fnValidateSeesOnlyWhichFieldsAreGivenRow.domain false) (Rows.fnValidateSeesOnlyWhichFieldsAreGivenSpec.post enc Try.prog Try.f3 false true false false) := by
  refine returnsInHanded_of_change (C := Try.checked) own started (by kernel_rfl) Try.func3
    (ChangeSpec.witness6 (enc := enc) (C := Try.checked) false ⟨#[], #[.agg #[.string ByteArray.empty, .string ByteArray.empty, .string ByteArray.empty, .string ByteArray.empty, .string ByteArray.empty, .string ByteArray.empty, .string ByteArray.empty, .string ByteArray.empty, .string ByteArray.empty], .agg #[.string ByteArray.empty, .string ByteArray.empty, .string ByteArray.empty, .string ByteArray.empty, .string ByteArray.empty, .string ByteArray.empty, .string ByteArray.empty, .string ByteArray.empty, .string ByteArray.empty]], []⟩ 8 (by kernel_rfl) (by kernel_rfl) (by kernel_rfl) (by kernel_rfl)) ?_
  intro W base args ds gs before hval0 hW hcnd _
  have hval : ∀ (j : Nat) t v, Try.f3.params[j]? = some t → args[j]? = some v → Value.okWide Try.prog W .any base t v := hval0
  have hW' := hW
  obtain ⟨p, q, hA0, hV, rfl, hfz, hnd⟩ := hW
  have hA : DataW.TrodAll enc Try.prog W 0 (fun _ => true) true Try.f3.params.toList args.toList ds p := hA0
  rw [Try.params3] at hA hval
  obtain ⟨v0, v1, d0, d1, p0, p1, rfl, rfl, rfl, h0, h1⟩ := trodAll_two hA
  obtain ⟨rfl, rfl⟩ := trodVars_none hV
  obtain ⟨s0, s1, s2, s3, s4, s5, s6, s7, s8, rfl⟩ := open_req (hval 0 23 v0 rfl rfl) h0
  obtain ⟨t0, t1, t2, t3, t4, t5, t6, t7, t8, rfl⟩ := open_req (hval 1 23 v1 rfl rfl) h1
  have lt0 : ∀ x ∈ p0, x.block < W.heap.size := by obtain ⟨m, hm⟩ := h0; exact DataW.trod_lt m _ _ _ hm
  have lt1 : ∀ x ∈ p1, x.block < W.heap.size := by obtain ⟨m, hm⟩ := h1; exact DataW.trod_lt m _ _ _ hm
  clear hA0 hval0
  refine (walk s0 s1 s2 s3 s4 s5 s6 s7 s8 t0 t1 t2 t3 t4 t5 t6 t7 t8 W).mono fun e W' ⟨he, bel⟩ => ?_
  subst he
  exact ⟨_, rfl, _, _, _, [], _, [], hW', trodAll_mk1 (shut_bool Try.underlying4 _), trodAll_mk2 (Below.trod laidOut (by kernel_rfl) (of_decide_eq_true (by kernel_rfl)) h0 bel lt0) (Below.trod laidOut (by kernel_rfl) (of_decide_eq_true (by kernel_rfl)) h1 bel lt1), rfl, bel.frame _, fun h => by cases h⟩

/-- THE STATEMENT. -/
theorem proved : Rows.FnValidateSeesOnlyWhichFieldsAreGivenSaid :=
  OpenClaim.holds_of_wide 3 Try.f3 rfl rfl rfl rfl rfl rfl rfl ⟨rfl, rfl, rfl, rfl, rfl⟩ rfl rfl rfl rfl rfl (by kernel_rfl) Try.func3 (by kernel_rfl)
    (of_decide_eq_true (by kernel_rfl)) (by unfold Func.isWrapper; first | (rw [if_pos (by decide +kernel)]; kernel_rfl) | (rw [if_neg (by decide +kernel)]; exact ⟨rfl, rfl⟩))
    (fun os started H enc _ => lifted os started H enc)

end Go.Proofs.Qxb6618701a
