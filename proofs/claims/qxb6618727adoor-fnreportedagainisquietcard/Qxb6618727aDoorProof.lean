/-
  THE STATEMENT 'Rows.FnReportedAgainIsQuietCardSaid', PROVED: the row (after the kit's template: structs by value, a slice of strings, slices of structs; three tables listed), then the tied card.
-/
import Derived.Test.Qxb6618727aDoorRows
import Derived.Test.Qxb6618727aDoorCards
import Derived.Test.Qxb6618727aDoorTie
import Derived.Test.Qxb6618727aDoorLaw
import Derived.ProofKit
import Derived.Below
import Derived.SliceStrings
import Derived.LaidMore
import Derived.OpenShut
import Derived.Stop.Joined
import Derived.Stop.LaidErr
import Derived.SevenTiedAt
namespace Go.Proofs.Qxb6618727aDoor
open Go.ChangeShapes Go.WideShapes Go.ChangeAt Go.RowKit
set_option linter.unusedSimpArgs false

theorem own : ownKnob Tryd.prog.godebug = none := by kernel_rfl
theorem laidOut : laidOutB Tryd.prog = true := by kernel_rfl
theorem cells27 : Tryd.prog.cellsOf 27 = 17 := by kernel_rfl
theorem cells9 : Tryd.prog.cellsOf 9 = 1 := by kernel_rfl
theorem cells22 : Tryd.prog.cellsOf 22 = 1 := by kernel_rfl
theorem cells3 : Tryd.prog.cellsOf 3 = 1 := by kernel_rfl
theorem cells23 : Tryd.prog.cellsOf 23 = 1 := by kernel_rfl
theorem cells25 : Tryd.prog.cellsOf 25 = 4 := by kernel_rfl
theorem cells2 : Tryd.prog.cellsOf 2 = 1 := by kernel_rfl
theorem cells4 : Tryd.prog.cellsOf 4 = 1 := by kernel_rfl
theorem cells30 : Tryd.prog.cellsOf 30 = 12 := by kernel_rfl
theorem cells28 : Tryd.prog.cellsOf 28 = 1 := by kernel_rfl

theorem list17 {α : Type} {l : List α} (h : l.length = 17) : ∃ c0 c1 c2 c3 c4 c5 c6 c7 c8 c9 c10 c11 c12 c13 c14 c15 c16, l = [c0, c1, c2, c3, c4, c5, c6, c7, c8, c9, c10, c11, c12, c13, c14, c15, c16] := by
  match l, h with
  | [c0, c1, c2, c3, c4, c5, c6, c7, c8, c9, c10, c11, c12, c13, c14, c15, c16], _ => exact ⟨c0, c1, c2, c3, c4, c5, c6, c7, c8, c9, c10, c11, c12, c13, c14, c15, c16, rfl⟩
theorem list14 {α : Type} {l : List α} (h : l.length = 14) : ∃ c0 c1 c2 c3 c4 c5 c6 c7 c8 c9 c10 c11 c12 c13, l = [c0, c1, c2, c3, c4, c5, c6, c7, c8, c9, c10, c11, c12, c13] := by
  match l, h with
  | [c0, c1, c2, c3, c4, c5, c6, c7, c8, c9, c10, c11, c12, c13], _ => exact ⟨c0, c1, c2, c3, c4, c5, c6, c7, c8, c9, c10, c11, c12, c13, rfl⟩
theorem list12 {α : Type} {l : List α} (h : l.length = 12) : ∃ c0 c1 c2 c3 c4 c5 c6 c7 c8 c9 c10 c11, l = [c0, c1, c2, c3, c4, c5, c6, c7, c8, c9, c10, c11] := by
  match l, h with
  | [c0, c1, c2, c3, c4, c5, c6, c7, c8, c9, c10, c11], _ => exact ⟨c0, c1, c2, c3, c4, c5, c6, c7, c8, c9, c10, c11, rfl⟩
theorem list9 {α : Type} {l : List α} (h : l.length = 9) : ∃ c0 c1 c2 c3 c4 c5 c6 c7 c8, l = [c0, c1, c2, c3, c4, c5, c6, c7, c8] := by
  match l, h with
  | [c0, c1, c2, c3, c4, c5, c6, c7, c8], _ => exact ⟨c0, c1, c2, c3, c4, c5, c6, c7, c8, rfl⟩
theorem list4 {α : Type} {l : List α} (h : l.length = 4) : ∃ c0 c1 c2 c3, l = [c0, c1, c2, c3] := by
  match l, h with
  | [c0, c1, c2, c3], _ => exact ⟨c0, c1, c2, c3, rfl⟩

theorem cell_lt {w : World} {p : Addr} {v : Value} (h : w.cell? p = some v) : p.block < w.heap.size := by
  unfold World.cell? at h
  split at h
  · rename_i hb
    exact lt_of_block hb
  · cases h
theorem wf64 {n : Int} (h : (Lit.int .i64 n).wf = true) : I64 n := by
  have e1 : IntKind.i64.min = -9223372036854775808 := rfl
  have e2 : IntKind.i64.max = 9223372036854775807 := rfl
  simp [Lit.wf, e1, e2] at h
  exact h

/-- A slice of strings that can be read as data: what the walk is told of it. -/
theorem strs_of {H : Type} {enc : TypeId × Value → H} {W : World} {base fuel : Nat} {held : Bool} {c : Value} {x : DataW H × List MemPlace}
    (h : DataW.trod enc Tryd.prog W base (fun _ => true) held fuel 22 [c] = some x) : ∃ a len cap, c = .slice a len cap ∧ IsStrs W W.heap.size a len := by
  rcases open_strings Tryd.underlying22 Tryd.underlying9 cells9 h with ⟨hcs, _⟩ | ⟨a, len, cap, ss, hcs, _, hl, hm, hz, _, hcell, hws⟩
  · simp at hcs
    exact ⟨none, 0, 0, hcs, Nat.zero_le _, .inl rfl⟩
  · simp at hcs hz
    refine ⟨some a, len, cap, hcs, Nat.le_trans hl hm, ?_⟩
    rcases Nat.eq_zero_or_pos len with h0 | hp
    · exact .inl h0
    · obtain ⟨b, off, spot⟩ := a
      have h0 := hcell 0 (by omega)
      have hspot : spot = none := by simpa [Addr.add] using World.cell?_spot h0
      subst hspot
      refine .inr ⟨b, off, rfl, by simpa [Addr.add] using cell_lt h0, fun j hj => ?_⟩
      have hj' : j < ss.length := by omega
      refine ⟨ss.getD j ByteArray.empty, ?_, hws _ (by simp [hj'])⟩
      rw [← Go.WideShapes.add_plain]
      exact hcell j hj'

set_option maxRecDepth 100000 in
/-- The law's exit, its four cells. -/
theorem ex_of {H : Type} {enc : TypeId × Value → H} {W : World} {base fuel : Nat} {held : Bool} {c0 c1 c2 c3 : Value} {x : DataW H × List MemPlace}
    (h : DataW.trod enc Tryd.prog W base (fun _ => true) held fuel 25 [c0, c1, c2, c3] = some x) :
    ∃ (c : Int) (g : ByteArray) (o : Bool) (ns : Int), c0 = .int .i64 c ∧ c1 = .string g ∧ c2 = .bool o ∧ c3 = .int .i64 ns ∧ I64 c ∧ g.size ≤ maxLen ∧ I64 ns := by
  obtain ⟨xs, n, _, _, _, hlen, hget⟩ := DataW.trod_struct Tryd.underlying25 h
  obtain ⟨y0, y1, y2, y3, rfl⟩ := list4 (l := xs) (by simpa using hlen)
  have g0 := hget 0 _ rfl
  simp [cells3] at g0
  obtain ⟨c, e0, _, w0⟩ := DataW.trod_int Tryd.underlying3 g0
  have g1 := hget 1 _ rfl
  simp [cells9] at g1
  obtain ⟨g, e1, _, w1⟩ := DataW.trod_string Tryd.underlying9 g1
  have g2 := hget 2 _ rfl
  simp [cells4] at g2
  obtain ⟨o, e2, _⟩ := DataW.trod_bool Tryd.underlying4 g2
  have g3 := hget 3 _ rfl
  simp [cells2] at g3
  obtain ⟨ns, e3, _, w3⟩ := DataW.trod_int Tryd.underlying2 g3
  simp at e0 e1 e2 e3
  exact ⟨c, g, o, ns, e0, e1, e2, e3, wf64 w0, w1, wf64 w3⟩

/-- A slice of exits that can be read as data: what the walk is told of it. -/
theorem es_of {H : Type} {enc : TypeId × Value → H} {W : World} {base fuel : Nat} {held : Bool} {c : Value} {x : DataW H × List MemPlace}
    (h : DataW.trod enc Tryd.prog W base (fun _ => true) held fuel 28 [c] = some x) : ∃ a len cap, c = .slice a len cap ∧ RawEs W W.heap.size a len := by
  rcases DataW.trod_slice Tryd.underlying28 h with ⟨hcs, _⟩ | ⟨a, len, cap, elems, rest, n, _, hcs, _, _, hl, hm, hlen, hel, _⟩
  · simp at hcs
    exact ⟨none, 0, 0, hcs, Nat.zero_le _, .inl rfl⟩
  · simp at hcs
    refine ⟨some a, len, cap, hcs, Nat.le_trans hl hm, ?_⟩
    rcases Nat.eq_zero_or_pos len with h0 | hp
    · exact .inl h0
    · rw [cells25] at hel
      have each : ∀ i, i < len → ∃ c0 c1 c2 c3 y, (∀ k, k < 4 → W.cell? ((a.add (i * 4)).add k) = [c0, c1, c2, c3][k]?) ∧ DataW.trod enc Tryd.prog W base (fun _ => true) held n 25 [c0, c1, c2, c3] = some y := fun i hi => by
        have h1 := hel i hi
        rw [List.getElem?_eq_getElem (by omega)] at h1
        obtain ⟨cs, hc, ht⟩ := Option.bind_eq_some_iff.1 h1
        obtain ⟨_, hcl, hcc⟩ := World.cells?_some hc
        obtain ⟨c0, c1, c2, c3, rfl⟩ := list4 hcl
        exact ⟨c0, c1, c2, c3, _, hcc, ht⟩
      obtain ⟨b, off, spot⟩ := a
      have hspot : spot = none := by
        obtain ⟨c0, _, _, _, _, hc, _⟩ := each 0 hp
        have h0 : W.cell? (((⟨b, off, spot⟩ : Addr).add (0 * 4)).add 0) = some c0 := hc 0 (by decide)
        simpa [Addr.add] using World.cell?_spot h0
      subst hspot
      have hb : b < W.heap.size := by
        obtain ⟨c0, _, _, _, _, hc, _⟩ := each 0 hp
        have h0 : W.cell? (((⟨b, off, none⟩ : Addr).add (0 * 4)).add 0) = some c0 := hc 0 (by decide)
        simpa [Addr.add] using cell_lt h0
      refine .inr ⟨b, off, rfl, hb, fun j hj => ?_⟩
      obtain ⟨c0, c1, c2, c3, y, hc, ht⟩ := each j hj
      obtain ⟨cc, g, o, ns, rfl, rfl, rfl, rfl, q1, q2, q3⟩ := ex_of ht
      have hc' : ∀ k, k < 4 → W.cell? ⟨b, off + j * 4 + k, none⟩ = ([.int .i64 cc, .string g, .bool o, .int .i64 ns] : List Value)[k]? := fun k hk => by
        rw [← hc k hk, Go.WideShapes.add_plain, Go.WideShapes.add_plain]
      exact ⟨cc, g, o, ns, q1, q2, q3, hc' 0 (by decide), hc' 1 (by decide), hc' 2 (by decide), hc' 3 (by decide)⟩

set_option maxRecDepth 100000 in
theorem open_fin {H : Type} {enc : TypeId × Value → H} {W : World} {r : Reach} {b0 base : Nat} {held : Bool} {v : Value} {d : DataW H} {p : List MemPlace}
    (hv : Value.okWide Tryd.prog W r b0 27 v) (h : DataW.Trod enc Tryd.prog W base (fun _ => true) held 27 v d p) :
    ∃ j : Fin, v = .agg j.arr ∧ I64 j.la ∧ I64 j.sn ∧ I64 j.fn ∧ IsStrs W W.heap.size j.cma j.cml := by
  obtain ⟨cs, rfl, hsz⟩ := okWide_struct Tryd.underlying27 hv
  obtain ⟨l⟩ := cs
  obtain ⟨c0, c1, c2, c3, c4, c5, c6, c7, c8, c9, c10, c11, c12, c13, c14, c15, c16, rfl⟩ := list17 (l := l) (by simpa [cells27] using hsz)
  obtain ⟨fuel, hf⟩ := h
  obtain ⟨xs, n, _, _, _, hlen, hget⟩ := DataW.trod_struct Tryd.underlying27 hf
  obtain ⟨y0, y1, y2, y3, y4, y5, y6, y7, y8, y9, y10, y11, y12, y13, rfl⟩ := list14 (l := xs) (by simpa using hlen)
  have g0 := hget 0 _ rfl
  simp [Value.cells, cells9] at g0
  obtain ⟨nm, e0, _⟩ := DataW.trod_string Tryd.underlying9 g0
  simp at e0
  have g1 := hget 1 _ rfl
  simp [Value.cells, cells9] at g1
  obtain ⟨ho, e1, _⟩ := DataW.trod_string Tryd.underlying9 g1
  simp at e1
  have g2 := hget 2 _ rfl
  simp [Value.cells, cells22] at g2
  obtain ⟨cma, cml, cmc, e2, hst⟩ := strs_of g2
  have g3 := hget 3 _ rfl
  simp [Value.cells, cells3] at g3
  obtain ⟨cp, e3, _, w3⟩ := DataW.trod_int Tryd.underlying3 g3
  simp at e3
  have g4 := hget 4 _ rfl
  simp [Value.cells, cells23] at g4
  obtain ⟨me, e4, _, w4⟩ := DataW.trod_int Tryd.underlying23 g4
  simp at e4
  have g5 := hget 5 _ rfl
  simp [Value.cells, cells9] at g5
  obtain ⟨de, e5, _⟩ := DataW.trod_string Tryd.underlying9 g5
  simp at e5
  have g6 := hget 6 _ rfl
  simp [Value.cells, cells9] at g6
  obtain ⟨cu, e6, _⟩ := DataW.trod_string Tryd.underlying9 g6
  simp at e6
  have g7 := hget 7 _ rfl
  simp [Value.cells, cells3] at g7
  obtain ⟨pi, e7, _, w7⟩ := DataW.trod_int Tryd.underlying3 g7
  simp at e7
  have g8 := hget 8 _ rfl
  simp [Value.cells, cells3] at g8
  obtain ⟨re, e8, _, w8⟩ := DataW.trod_int Tryd.underlying3 g8
  simp at e8
  have g9 := hget 9 _ rfl
  simp [Value.cells, cells25] at g9
  obtain ⟨lc, lg, lo, la, e9a, e9b, e9c, e9d, _, _, wla⟩ := ex_of g9
  have g10 := hget 10 _ rfl
  simp [Value.cells, cells9] at g10
  obtain ⟨rs, e10, _⟩ := DataW.trod_string Tryd.underlying9 g10
  simp at e10
  have g11 := hget 11 _ rfl
  simp [Value.cells, cells23] at g11
  obtain ⟨id, e11, _, w11⟩ := DataW.trod_int Tryd.underlying23 g11
  simp at e11
  have g12 := hget 12 _ rfl
  simp [Value.cells, cells2] at g12
  obtain ⟨sn, e12, _, w12⟩ := DataW.trod_int Tryd.underlying2 g12
  simp at e12
  have g13 := hget 13 _ rfl
  simp [Value.cells, cells2] at g13
  obtain ⟨fn, e13, _, w13⟩ := DataW.trod_int Tryd.underlying2 g13
  simp at e13
  subst e0 e1 e2 e3 e4 e5 e6 e7 e8 e9a e9b e9c e9d e10 e11 e12 e13
  exact ⟨⟨nm, ho, cma, cml, cmc, cp, me, de, cu, pi, re, lc, lg, lo, la, rs, id, sn, fn⟩, rfl, wla, wf64 w12, wf64 w13, hst⟩

set_option maxRecDepth 100000 in
theorem open_frep {H : Type} {enc : TypeId × Value → H} {W : World} {r : Reach} {b0 base : Nat} {held : Bool} {v : Value} {d : DataW H} {p : List MemPlace}
    (hv : Value.okWide Tryd.prog W r b0 30 v) (h : DataW.Trod enc Tryd.prog W base (fun _ => true) held 30 v d p) :
    ∃ j : Frep, v = .agg j.arr ∧ I64 j.la ∧ I64 j.fn ∧ RawEs W W.heap.size j.ena j.enl := by
  obtain ⟨cs, rfl, hsz⟩ := okWide_struct Tryd.underlying30 hv
  obtain ⟨l⟩ := cs
  obtain ⟨c0, c1, c2, c3, c4, c5, c6, c7, c8, c9, c10, c11, rfl⟩ := list12 (l := l) (by simpa [cells30] using hsz)
  obtain ⟨fuel, hf⟩ := h
  obtain ⟨xs, n, _, _, _, hlen, hget⟩ := DataW.trod_struct Tryd.underlying30 hf
  obtain ⟨y0, y1, y2, y3, y4, y5, y6, y7, y8, rfl⟩ := list9 (l := xs) (by simpa using hlen)
  have g0 := hget 0 _ rfl
  simp [Value.cells, cells9] at g0
  obtain ⟨rn, e0, _⟩ := DataW.trod_string Tryd.underlying9 g0
  simp at e0
  have g1 := hget 1 _ rfl
  simp [Value.cells, cells23] at g1
  obtain ⟨ri, e1, _, w1⟩ := DataW.trod_int Tryd.underlying23 g1
  simp at e1
  have g2 := hget 2 _ rfl
  simp [Value.cells, cells9] at g2
  obtain ⟨rc, e2, _⟩ := DataW.trod_string Tryd.underlying9 g2
  simp at e2
  have g3 := hget 3 _ rfl
  simp [Value.cells, cells3] at g3
  obtain ⟨rp, e3, _, w3⟩ := DataW.trod_int Tryd.underlying3 g3
  simp at e3
  have g4 := hget 4 _ rfl
  simp [Value.cells, cells3] at g4
  obtain ⟨rr, e4, _, w4⟩ := DataW.trod_int Tryd.underlying3 g4
  simp at e4
  have g5 := hget 5 _ rfl
  simp [Value.cells, cells25] at g5
  obtain ⟨lc, lg, lo, la, e5a, e5b, e5c, e5d, _, _, wla⟩ := ex_of g5
  have g6 := hget 6 _ rfl
  simp [Value.cells, cells28] at g6
  obtain ⟨ena, enl, enc, e6, hes⟩ := es_of g6
  have g7 := hget 7 _ rfl
  simp [Value.cells, cells9] at g7
  obtain ⟨rz, e7, _⟩ := DataW.trod_string Tryd.underlying9 g7
  simp at e7
  have g8 := hget 8 _ rfl
  simp [Value.cells, cells2] at g8
  obtain ⟨fn, e8, _, w8⟩ := DataW.trod_int Tryd.underlying2 g8
  simp at e8
  subst e0 e1 e2 e3 e4 e5a e5b e5c e5d e6 e7 e8
  exact ⟨⟨rn, ri, rc, rp, rr, lc, lg, lo, la, ena, enl, enc, rz, fn⟩, rfl, wla, wf64 w8, hes⟩

theorem gPow : Tryd.prog.globalNamed "internal/strconv.uint64pow10" = some 0 := by kernel_rfl
theorem tPow : (Tryd.prog.globals[0]?).map (·.type) = some 88 := by kernel_rfl
theorem cellsPow : Tryd.prog.cellsOf 88 = 20 := by kernel_rfl
theorem datPow : Rows.laid_internal_strconv_uint64pow10 (H := Unit) = Lib.tabData .u64 Lib.pow10Tab := by kernel_rfl
/-- What the row's condition gives the walk: strconv's table. -/
theorem tab_of {W : World} (h : laidMetH Tryd.prog Rows.fnReportedAgainIsQuietRow.laid W) : Tab W := by
  rw [MakeChecks.laidMetH_plain _ _ _ (by kernel_rfl)] at h
  have h2 : laidMet Tryd.prog (("internal/strconv.uint64pow10", Lib.tabData .u64 Lib.pow10Tab) :: []) W := by rw [← datPow]; exact h.tail.tail
  exact Lib.tabIs_of_head gPow tPow Tryd.underlying88 Tryd.underlying23 cells23 cellsPow h2
theorem door_met (os : Os) (args : Array Value) : laidMetH Tryd.prog Rows.fnReportedAgainIsQuietRow.laid ((World.doorLaid Tryd.prog 24 os).forCall (fun _ _ => 0) ⟨#[], args, []⟩).memory :=
  laidMetH_of_parts3 (fuel := 8) (laidMet_of_run' 8 (by kernel_rfl) (by kernel_rfl)) (by kernel_rfl) (by kernel_rfl)

def fin0 : Value := .agg #[.string ⟨#[]⟩, .string ⟨#[]⟩, .slice none 0 0, .int .i64 0, .int .u64 0, .string ⟨#[]⟩, .string ⟨#[]⟩, .int .i64 0, .int .i64 0, .int .i64 0, .string ⟨#[]⟩, .bool false, .int .i64 0, .string ⟨#[]⟩, .int .u64 0, .int .i64 0, .int .i64 0]
def frep0 : Value := .agg #[.string ⟨#[]⟩, .int .u64 0, .string ⟨#[]⟩, .int .i64 0, .int .i64 0, .int .i64 0, .string ⟨#[]⟩, .bool false, .int .i64 0, .slice none 0 0, .string ⟨#[]⟩, .int .i64 0]

set_option maxRecDepth 100000 in
theorem lifted (os : Os) (started : os.Started) (H : Type) (enc : TypeId × Value → H) :
    ReturnsInHanded {} Tryd.checked os 3 .any (fun w args => (Rows.fnReportedAgainIsQuietSpec.pre enc Tryd.prog Tryd.f3 [] false w args ∧ laidMetH Tryd.prog Rows.fnReportedAgainIsQuietRow.laid w) ∧ sizedMet enc Tryd.prog Tryd.f3 (OpenSpec.ofChange Rows.fnReportedAgainIsQuietSpec) false w args)
      (Rows.fnReportedAgainIsQuietSpec.post enc Tryd.prog Tryd.f3 false true false false) := by
  refine returnsInHanded_of_change_and (C := Tryd.checked) (X := fun w _ => laidMetH Tryd.prog Rows.fnReportedAgainIsQuietRow.laid w) (fun _ _ _ hh h => h.of_heap hh) own started (by kernel_rfl) Tryd.func3
    (ChangeSpec.witness_shaped (enc := enc) (C := Tryd.checked) (os := os) (X := fun w _ => laidMetH Tryd.prog Rows.fnReportedAgainIsQuietRow.laid w) false (World.doorLaid Tryd.prog 24 os) #[fin0, frep0, .slice none 0 0] 8 rfl (World.shaped_of_RefB (by kernel_rfl) (by kernel_rfl)) (by kernel_rfl) (by kernel_rfl) (by kernel_rfl) (door_met os _)) ?_
  intro W base args ds gs before hval0 hW _ _ hL _
  have hval : ∀ (j : Nat) t v, Tryd.f3.params[j]? = some t → args[j]? = some v → Value.okWide Tryd.prog W .any base t v := hval0
  have hW' := hW
  obtain ⟨p, q, hA0, hV, rfl, hfz, hnd⟩ := hW
  have hA : DataW.TrodAll enc Tryd.prog W 0 (fun _ => true) true Tryd.f3.params.toList args.toList ds p := hA0
  rw [Tryd.params3] at hA hval
  obtain ⟨v0, v1, v2, d0, d1, d2, p0, p1, p2, rfl, rfl, rfl, h0, h1, h2⟩ := trodAll_three hA
  obtain ⟨rfl, rfl⟩ := trodVars_none hV
  have lt0 : ∀ x ∈ p0, x.block < W.heap.size := by obtain ⟨m, hm⟩ := h0; exact DataW.trod_lt m _ _ _ hm
  have lt1 : ∀ x ∈ p1, x.block < W.heap.size := by obtain ⟨m, hm⟩ := h1; exact DataW.trod_lt m _ _ _ hm
  have lt2 : ∀ x ∈ p2, x.block < W.heap.size := by obtain ⟨m, hm⟩ := h2; exact DataW.trod_lt m _ _ _ hm
  obtain ⟨j, rfl, k0, k1, k2, hs⟩ := open_fin (hval 0 27 v0 rfl rfl) h0
  obtain ⟨r, rfl, k3, k4, hq⟩ := open_frep (hval 1 30 v1 rfl rfl) h1
  obtain ⟨a, len, cap, rfl, ha⟩ : ∃ a len cap, v2 = .slice a len cap ∧ RawEs W W.heap.size a len := by
    obtain ⟨m, hm⟩ := h2
    obtain ⟨a, len, cap, rfl⟩ := okWide_slice Tryd.underlying28 (hval 2 28 v2 rfl rfl)
    obtain ⟨a', len', cap', e, hr⟩ := es_of (c := .slice a len cap) (by simpa [Value.cells] using hm)
    cases e
    exact ⟨a, len, cap, rfl, hr⟩
  have hT := tab_of hL
  clear hA0 hval0
  refine (law_any j r a len cap W hT k0 k1 k2 k3 k4 hs hq ha).mono fun e W' ⟨he, bel⟩ => ?_
  subst he
  exact ⟨_, rfl, _, _, _, [], _, [], hW', trodAll_mk1 (shut_bool Tryd.underlying4 _), trodAll_mk3 (Below.trod laidOut (by kernel_rfl) (of_decide_eq_true (by kernel_rfl)) h0 bel lt0) (Below.trod laidOut (by kernel_rfl) (of_decide_eq_true (by kernel_rfl)) h1 bel lt1) (Below.trod laidOut (by kernel_rfl) (of_decide_eq_true (by kernel_rfl)) h2 bel lt2), rfl, bel.frame _, fun h => by cases h⟩

/-- The row. -/
theorem row_holds : Rows.FnReportedAgainIsQuietSaid :=
  OpenClaim.holds_of_wide 3 Tryd.f3 rfl rfl rfl rfl rfl rfl rfl ⟨rfl, rfl, rfl, rfl, rfl⟩ rfl rfl rfl rfl rfl (by kernel_rfl) Tryd.func3 (by kernel_rfl)
    (of_decide_eq_true (by kernel_rfl)) (by unfold Func.isWrapper; first | (rw [if_pos (by decide +kernel)]; kernel_rfl) | (rw [if_neg (by decide +kernel)]; exact ⟨rfl, rfl⟩))
    (fun os started H enc _ => lifted os started H enc)

/-- THE STATEMENT: the tied card. -/
theorem proved : Rows.FnReportedAgainIsQuietCardSaid :=
  Claim7.holds_tied_plain_at .later [] [.data, .data, .data] true (true, "f65d34f6ae8a562942ba5e13fa4f20dd34c5a768d9bcd0d26bd24b46066452ec") false
    row_holds (fun _ h => by cases h) (by kernel_rfl) (fun _ h => by cases h) fnReportedAgainIsQuiet_row_tie rfl ⟨rfl, rfl⟩ (by kernel_rfl) rfl
    (fun f fn hf hfn => by
      obtain rfl : f = 3 := Option.some.inj ((show Tryd.prog.funcNamed "example.com/holdfast/holdfast/zzlaws_internal_fleet_b1.FnReportedAgainIsQuiet" = some 3 by kernel_rfl).symm.trans hf) |>.symm
      obtain rfl : fn = Tryd.f3 := (Option.some.inj (Tryd.func3.symm.trans hfn)).symm
      exact ⟨by kernel_rfl, fun j t ht => by
        rw [Tryd.params3] at ht
        have h3 : t = 27 ∨ t = 30 ∨ t = 28 := by
          rcases j with _ | _ | _ | j
          · exact .inl (by simpa using ht.symm)
          · exact .inr (.inl (by simpa using ht.symm))
          · exact .inr (.inr (by simpa using ht.symm))
          · simp at ht
        rcases h3 with rfl | rfl | rfl
        · exact (show Tryd.prog.wantsStandIn 27 = false by kernel_rfl)
        · exact (show Tryd.prog.wantsStandIn 30 = false by kernel_rfl)
        · exact (show Tryd.prog.wantsStandIn 28 = false by kernel_rfl)⟩)
    (by kernel_rfl)
end Go.Proofs.Qxb6618727aDoor
