/-
  THE STATEMENT 'Rows.FnRoomLessBySumSaid', PROVED: after the kit's template; two of the arguments are structs of two strings, a slice of strings, an int and a uint64, by value.
-/
import Derived.Test.Qxb6618727aRows
import Derived.Test.Qxb6618727aMain
import Derived.ProofKit
import Derived.Below
import Derived.SliceStrings
namespace Go.Proofs.Qxb6618727a
open Go.ChangeShapes Go.WideShapes Go.ChangeAt Go.RowKit

theorem own : ownKnob Try.prog.godebug = none := by kernel_rfl
theorem laidOut : laidOutB Try.prog = true := by kernel_rfl
theorem cells25 : Try.prog.cellsOf 25 = 5 := by kernel_rfl
theorem cells9 : Try.prog.cellsOf 9 = 1 := by kernel_rfl
theorem cells23 : Try.prog.cellsOf 23 = 1 := by kernel_rfl
theorem cells3 : Try.prog.cellsOf 3 = 1 := by kernel_rfl
theorem cells22 : Try.prog.cellsOf 22 = 1 := by kernel_rfl

theorem list5 {α : Type} {l : List α} (h : l.length = 5) : ∃ c0 c1 c2 c3 c4, l = [c0, c1, c2, c3, c4] := by
  match l, h with
  | [c0, c1, c2, c3, c4], _ => exact ⟨c0, c1, c2, c3, c4, rfl⟩

theorem cell_lt {w : World} {p : Addr} {v : Value} (h : w.cell? p = some v) : p.block < w.heap.size := by
  unfold World.cell? at h
  split at h
  · rename_i hb
    exact lt_of_block hb
  · cases h

/-- A slice of strings that can be read as data: what the walk is told of it. -/
theorem strs_of {H : Type} {enc : TypeId × Value → H} {W : World} {base fuel : Nat} {held : Bool} {c : Value} {x : DataW H × List MemPlace}
    (h : DataW.trod enc Try.prog W base (fun _ => true) held fuel 23 [c] = some x) : ∃ a len cap, c = .slice a len cap ∧ IsStrs W W.heap.size a len := by
  rcases open_strings Try.underlying23 Try.underlying9 cells9 h with ⟨hcs, _⟩ | ⟨a, len, cap, ss, hcs, _, hl, hm, hz, _, hcell, hws⟩
  · simp at hcs
    exact ⟨none, 0, 0, hcs, Nat.zero_le _, .inl rfl⟩
  · simp at hcs hz
    refine ⟨some a, len, cap, hcs, Nat.le_trans hl hm, ?_⟩
    rcases Nat.eq_zero_or_pos len with h0 | hp
    · exact .inl h0
    · obtain ⟨b, off, spot⟩ := a
      have h0 := hcell 0 (by omega)
      have hspot : spot = none := by simpa [Addr.add] using World.cell?_spot h0
      subst hspot
      refine .inr ⟨b, off, rfl, by simpa [Addr.add] using cell_lt h0, fun j hj => ?_⟩
      have hj' : j < ss.length := by omega
      refine ⟨ss.getD j ByteArray.empty, ?_, hws _ (by simp [hj'])⟩
      rw [← Go.WideShapes.add_plain]
      exact hcell j hj'

set_option maxRecDepth 100000 in
theorem open_spec {H : Type} {enc : TypeId × Value → H} {W : World} {r : Reach} {b0 base : Nat} {held : Bool} {v : Value} {d : DataW H} {p : List MemPlace}
    (hv : Value.okWide Try.prog W r b0 25 v) (h : DataW.Trod enc Try.prog W base (fun _ => true) held 25 v d p) :
    ∃ (nm ho : ByteArray) (a : Option Addr) (len cap : Nat) (cp me : Int), v = .agg #[.string nm, .string ho, .slice a len cap, .int .i64 cp, .int .u64 me] ∧ IsStrs W W.heap.size a len := by
  obtain ⟨cs, rfl, hsz⟩ := okWide_struct Try.underlying25 hv
  obtain ⟨l⟩ := cs
  obtain ⟨c0, c1, c2, c3, c4, rfl⟩ := list5 (l := l) (by simpa [cells25] using hsz)
  obtain ⟨fuel, hf⟩ := h
  obtain ⟨xs, n, _, _, _, hlen, hget⟩ := DataW.trod_struct Try.underlying25 hf
  obtain ⟨y0, y1, y2, y3, y4, rfl⟩ := list5 (l := xs) (by simpa using hlen)
  have g0 := hget 0 _ rfl
  simp [Value.cells, cells9] at g0
  obtain ⟨nm, e0, _⟩ := DataW.trod_string Try.underlying9 g0
  have g1 := hget 1 _ rfl
  simp [Value.cells, cells9] at g1
  obtain ⟨ho, e1, _⟩ := DataW.trod_string Try.underlying9 g1
  have g2 := hget 2 _ rfl
  simp [Value.cells, cells23] at g2
  obtain ⟨a, len, cap, e2, hstr⟩ := strs_of g2
  have g3 := hget 3 _ rfl
  simp [Value.cells, cells3] at g3
  obtain ⟨cp, e3, _⟩ := DataW.trod_int Try.underlying3 g3
  have g4 := hget 4 _ rfl
  simp [Value.cells, cells22] at g4
  obtain ⟨me, e4, _⟩ := DataW.trod_int Try.underlying22 g4
  simp at e0 e1 e3 e4
  exact ⟨nm, ho, a, len, cap, cp, me, by rw [e0, e1, e2, e3, e4], hstr⟩

set_option maxRecDepth 100000 in
theorem lifted (os : Os) (started : os.Started) (H : Type) (enc : TypeId × Value → H) :
    ReturnsInHanded {} Try.checked os 3 .any (Rows.fnRoomLessBySumSpec.pre6 enc Try.prog Try.f3 Rows.fnRoomLessBySumRow.domain false) (Rows.fnRoomLessBySumSpec.post enc Try.prog Try.f3 false true false false) := by
  refine returnsInHanded_of_change (C := Try.checked) own started (by kernel_rfl) Try.func3
    (ChangeSpec.witness6 (enc := enc) (C := Try.checked) false ⟨#[], #[.int .i64 0, .int .u64 0, .agg #[.string ByteArray.empty, .string ByteArray.empty, .slice none 0 0, .int .i64 0, .int .u64 0], .agg #[.string ByteArray.empty, .string ByteArray.empty, .slice none 0 0, .int .i64 0, .int .u64 0]], []⟩ 8 (by kernel_rfl) (by kernel_rfl) (by kernel_rfl) (by kernel_rfl)) ?_
  intro W base args ds gs before hval0 hW hcnd _
  have hval : ∀ (j : Nat) t v, Try.f3.params[j]? = some t → args[j]? = some v → Value.okWide Try.prog W .any base t v := hval0
  have hW' := hW
  obtain ⟨p, q, hA0, hV, rfl, hfz, hnd⟩ := hW
  have hA : DataW.TrodAll enc Try.prog W 0 (fun _ => true) true Try.f3.params.toList args.toList ds p := hA0
  rw [Try.params3] at hA hval
  obtain ⟨v0, v1, v2, v3, d0, d1, d2, d3, p0, p1, p2, p3, rfl, rfl, rfl, h0, h1, h2, h3⟩ := trodAll_four hA
  obtain ⟨rfl, rfl⟩ := trodVars_none hV
  obtain ⟨c, rfl, rfl, rfl, wc⟩ := open_int Try.underlying3 (hval 0 3 v0 rfl rfl) h0
  obtain ⟨m, rfl, rfl, rfl, wm⟩ := open_int Try.underlying22 (hval 1 22 v1 rfl rfl) h1
  obtain ⟨nm, ho, a, la, ca, cp, me, rfl, ha⟩ := open_spec (hval 2 25 v2 rfl rfl) h2
  obtain ⟨nm', ho', b, lb, cb, cp', me', rfl, hb⟩ := open_spec (hval 3 25 v3 rfl rfl) h3
  have lt2 : ∀ x ∈ p2, x.block < W.heap.size := by obtain ⟨m, hm⟩ := h2; exact DataW.trod_lt m _ _ _ hm
  have lt3 : ∀ x ∈ p3, x.block < W.heap.size := by obtain ⟨m, hm⟩ := h3; exact DataW.trod_lt m _ _ _ hm
  clear hA0 hval0
  refine (walk c m nm ho a la ca cp me nm' ho' b lb cb cp' me' W ha hb wc wm).mono fun e W' ⟨he, bel⟩ => ?_
  subst he
  exact ⟨_, rfl, _, _, _, [], _, [], hW', trodAll_mk1 (shut_bool Try.underlying4 _), trodAll_mk4 (shut_int Try.underlying3 wc) (shut_int Try.underlying22 wm) (Below.trod laidOut (by kernel_rfl) (of_decide_eq_true (by kernel_rfl)) h2 bel lt2) (Below.trod laidOut (by kernel_rfl) (of_decide_eq_true (by kernel_rfl)) h3 bel lt3), rfl, bel.frame _, fun h => by cases h⟩

/-- THE STATEMENT. -/
theorem proved : Rows.FnRoomLessBySumSaid :=
  OpenClaim.holds_of_wide 3 Try.f3 rfl rfl rfl rfl rfl rfl rfl ⟨rfl, rfl, rfl, rfl, rfl⟩ rfl rfl rfl rfl rfl (by kernel_rfl) Try.func3 (by kernel_rfl)
    (of_decide_eq_true (by kernel_rfl)) (by unfold Func.isWrapper; first | (rw [if_pos (by decide +kernel)]; kernel_rfl) | (rw [if_neg (by decide +kernel)]; exact ⟨rfl, rfl⟩))
    (fun os started H enc _ => lifted os started H enc)

end Go.Proofs.Qxb6618727a
