/-
  What the main walk wants: the arguments as they come in; their copies; the state behind both calls of 'widen'.
-/
import Derived.Test.Qxb6618666aWalkE
import Derived.Laws.CopyOwn
import Derived.OpenShut
namespace Go.Proofs.Qxb6618666a
open Go.RowKit Go.Maps

/-- WHAT THE WALK IS TOLD OF A SLICE OF INTEGERS THAT CAME IN: it is nil; or it leads to a row of 'cap' cells, the numbers 'zs' (the first 'len' are its elements, the rest its spare room), each fitting its kind. -/
def IsRow (k : IntKind) (w : World) (a : Option Addr) (len cap : Nat) (zs : List Int) : Prop :=
  (a = none ∧ len = 0 ∧ cap = 0 ∧ zs = []) ∨
  ∃ x, a = some x ∧ len ≤ cap ∧ cap ≤ maxLen ∧ zs.length = cap ∧ (∀ i, i < zs.length → w.cell? (x.add i) = some (.int k (zs.getD i 0))) ∧ ∀ n ∈ zs, (Lit.int k n).wf = true

theorem cell_lt {w : World} {p : Addr} {v : Value} (h : w.cell? p = some v) : p.block < w.heap.size := by
  unfold World.cell? at h
  split at h
  · rename_i hb
    exact lt_of_block hb
  · cases h

theorem IsRow.below {w w' : World} {a : Option Addr} {len cap : Nat} {zs : List Int} (h : IsRow .i64 w a len cap zs) (hb : Below w.heap.size w w') : IsRow .i64 w' a len cap zs := by
  rcases h with h | ⟨x, e, h1, h2, h3, h4, h5⟩
  · exact .inl h
  · exact .inr ⟨x, e, h1, h2, h3, fun i hi => (hb.cell (p := x.add i) (cell_lt (h4 i hi))).trans (h4 i hi), h5⟩

theorem made_block {wm : World} {B g n : Nat} {xs : List Value} (h : wm.ownsRow B 3 1 (.slice (some ⟨g, 0, none⟩) n n) n xs) : ∃ cur : Array Value, wm.heap[g]? = some (.cells cur 3 (0, 0)) ∧ cur.size = n := by
  obtain ⟨_, h⟩ := h
  rcases h with ⟨h, _⟩ | ⟨g', cap, cur, hv, _, hh, r⟩
  · cases h
  · simp at hv
    obtain ⟨rfl, rfl⟩ := hv
    exact ⟨cur, hh, by omega⟩

theorem copied {wm : World} {g : Nat} {cur : Array Value} {zs : List Int} {len : Nat} (hcur : wm.heap[g]? = some (.cells cur 3 (0, 0))) (hz : zs.length = len) (hwf : ∀ x ∈ zs, (Lit.int .i64 x).wf = true) :
    IsArr (wm.setRow g (zs.map (Value.int .i64)).toArray) (wm.setRow g (zs.map (Value.int .i64)).toArray).heap.size (some ⟨g, 0, none⟩) len zs := by
  refine ⟨hz, hwf, .inr ⟨g, 0, rfl, by have := lt_of_block hcur; simpa [World.setRow] using this, fun j hj => ?_⟩⟩
  have e := setRow_heap wm g cur (zs.map (Value.int .i64)).toArray 3 (0, 0) hcur
  simp only [World.cell?, e]
  have hj' : j < zs.length := by omega
  simp [hj']

theorem copy_run {w wm : World} {x : Addr} {g len cap : Nat} {zs A : List Int} {cur : Array Value} (hcur : wm.heap[g]? = some (.cells cur 3 (0, 0))) (hs : cur.size = len) (hz : zs.length = cap) (hl : len ≤ cap) (hA : zs.take len = A)
    (hc : ∀ i, i < zs.length → w.cell? (x.add i) = some (.int .i64 (zs.getD i 0))) (hgr : w.grownBy wm none) :
    (Builtin.copy_ #[22, 22] 3 #[.slice (some ⟨g, 0, none⟩) len len, .slice (some x) len cap]).run Try.prog wm = .ok (.int .i64 len) (wm.setRow g (A.map (Value.int .i64)).toArray) := by
  have hal : A.length = len := by rw [← hA]; simp; omega
  have h := run_copy_row (P := Try.prog) wm 22 22 3 3 g 0 len len x len cap cur 3 (A.map (Value.int .i64)) Try.underlying22 (by kernel_rfl) hcur (by simp; omega)
    (fun j v hv => by
      rw [List.getElem?_map] at hv
      cases hz' : A[j]? with
      | none => rw [hz'] at hv; cases hv
      | some z =>
        rw [hz'] at hv
        obtain rfl : Value.int .i64 z = v := by simpa using hv
        have hj : j < A.length := (List.getElem?_eq_some_iff.1 hz').1
        have hj2 : j < zs.length := by omega
        have hz2 : zs[j]? = some z := by rw [← hA, List.getElem?_take] at hz'; simpa [show j < len by omega] using hz'
        refine hgr.cell ?_ (by simp)
        rw [hc j hj2]
        simp [hz2]) (by simp; omega) (by intro v hv; rw [List.mem_map] at hv; obtain ⟨z, _, rfl⟩ := hv; rfl)
  have e1 : (A.map (Value.int .i64)).length = len := by simpa using hal
  rw [e1] at h
  have e2 : cur.toList.drop (0 + len) = [] := List.drop_eq_nil_of_le (by simp; omega)
  rw [e2] at h
  simpa [goInt] using h

theorem copied_below {w0 w wm : World} {n : Nat} (hb : Below w0.heap.size w0 w) (hgr : w.grownBy wm none) (cs : Array Value) (hn : n = w.heap.size) : Below w0.heap.size w0 (wm.setRow n cs) :=
  below_setRow (hb.grown hgr hb.size (fun k h => by cases h)) (by rw [hn]; exact hb.size) cs

/-- A nil slice has no capacity. (Behind a name, which the walk does not open.) -/
def CapOk (a : Option Addr) (ca : Nat) : Prop := a = none → ca = 0
theorem CapOk.mk {a : Option Addr} {ca : Nat} (h : a = none → ca = 0) : CapOk a ca := h

/-- BEHIND BOTH CALLS. -/
def Fin (w wr : World) (N : Nat) (a b : Option Addr) (la lb : Nat) (A B : List Int) (t1 t2 : Int) : Prop :=
  (∃ n g, St wr N n g ∧ ∀ x, lagOf (g x) = hullOf (A.contains x) t1 (B.contains x) t2) ∧ IsArr wr N a la A ∧ IsArr wr N b lb B ∧ Below w.heap.size w wr

theorem Fin.drew {w wr : World} {N : Nat} {a b : Option Addr} {la lb : Nat} {A B : List Int} {t1 t2 : Int} (h : Fin w wr N a b la lb A B t1 t2) (n : Nat) : Fin w (wr.drewN n) N a b la lb A B t1 t2 := by
  obtain ⟨⟨m, g, hst, hg⟩, ha, hb, hbel⟩ := h
  exact ⟨⟨m, g, ⟨hst.fld, hst.sz, hst.own, hst.blk, hst.inj⟩, hg⟩, ha, hb, ⟨hbel.os, hbel.tape, hbel.output, hbel.size, hbel.block⟩⟩

theorem Fin.after {w wr : World} {N : Nat} {a b : Option Addr} {la lb : Nat} {A B : List Int} {t1 t2 : Int} (h : Fin w wr N a b la lb A B t1 t2) {ca cb : Nat} (hca : a = none → ca = 0) (hcb : b = none → cb = 0) (hla : la ≤ 4096) (hlb : lb ≤ 4096) (x : Int) (hx : (Lit.int .i64 x).wf = true) :
    Calls Try.prog 11 #[.pointer (some ⟨N + 1, 0, none⟩), .int .i64 x, .slice a la ca, .int .u64 t1, .slice b lb cb, .int .u64 t2] wr fun e w' => e = .returned (.bool true) ∧ Fin w w' N a b la lb A B t1 t2 := by
  obtain ⟨⟨m, g, hst, hg⟩, ha, hb, hbel⟩ := h
  refine (lagAfter N m la ca lb cb a b A B x t1 t2 wr g hst ha hb hca hcb hla hlb hx (hg x)).mono ?_
  rintro e w' ⟨rfl, n, rfl⟩
  exact ⟨rfl, Fin.drew ⟨⟨m, g, hst, hg⟩, ha, hb, hbel⟩ n⟩

theorem IsArr.at {w : World} {N : Nat} {a : Option Addr} {len : Nat} {zs : List Int} (h : IsArr w N a len zs) {k : Nat} (hk : k < len) : ∃ b off, a = some ⟨b, off, none⟩ ∧ w.cell? ⟨b, off + k, none⟩ = some (.int .i64 (zs.getD k 0)) := by
  obtain ⟨_, _, h3⟩ := h
  rcases h3 with ⟨_, rfl⟩ | ⟨b, off, rfl, _, hc⟩
  · omega
  · exact ⟨b, off, rfl, hc k hk⟩
theorem IsArr.up {w : World} {N M : Nat} {a : Option Addr} {len : Nat} {zs : List Int} (h : IsArr w N a len zs) (hM : N ≤ M) : IsArr w M a len zs := by
  obtain ⟨h1, h2, h3⟩ := h
  refine ⟨h1, h2, h3.elim .inl ?_⟩
  rintro ⟨b, off, e, hb, hc⟩
  exact .inr ⟨b, off, e, Nat.lt_of_lt_of_le hb hM, hc⟩
theorem IsArr.form {w : World} {N : Nat} {a : Option Addr} {len ca : Nat} {zs : List Int} (h : IsArr w N a len zs) (hca : a = none → ca = 0) : (a = none ∧ len = 0 ∧ ca = 0) ∨ ∃ b off, a = some ⟨b, off, none⟩ := by
  obtain ⟨_, _, h3⟩ := h
  rcases h3 with ⟨rfl, rfl⟩ | ⟨b, off, rfl, _, hc⟩
  · exact .inl ⟨rfl, rfl, hca rfl⟩
  · exact .inr ⟨b, off, rfl⟩
theorem IsArr.wfAt {w : World} {N : Nat} {a : Option Addr} {len : Nat} {zs : List Int} (h : IsArr w N a len zs) (k : Nat) : (Lit.int .i64 (zs.getD k 0)).wf = true := wf_at h.2.1 k

/-- The two calls of 'widen', as the law wants them. -/
theorem first_call {w0 : World} {N : Nat} {a : Option Addr} {la ca : Nat} {A : List Int} {t1 : Int} (hst : St w0 N 0 (fun _ => none)) (ht : 1 ≤ t1) (ha : IsArr w0 N a la A) (hca : a = none → ca = 0) (hla : la ≤ 4096) :
    Calls Try.prog 9 #[.pointer (some ⟨N + 1, 0, none⟩), .slice a la ca, .int .u64 t1] w0 fun e w' => e = .returned (.bool (decide ((0 : Int) < la))) ∧ ∃ g, St w' N la g ∧ (∀ x, lagOf (g x) = widL (fun _ => none) t1 A x) ∧ Below N w0 w' := by
  refine (zzwiden_any N 0 la ca a A t1 w0 (fun _ => none) hst ht ha hca hla (Nat.zero_le _)).mono ?_
  rintro e w' ⟨rfl, g, h1, h2, h3⟩
  refine ⟨congrArg (fun b => Ending.returned (Value.bool b)) ?_, g, by simpa using h1, h2, h3⟩
  have := chg_first A t1
  rw [show (fun _ => lagOf none : Int → Option (Int × Int)) = fun _ => none from rfl, this, ha.1]
  simp
theorem second_call {w0 w1 : World} {N : Nat} {a b : Option Addr} {la lb cb : Nat} {A B : List Int} {t1 t2 : Int} {g : Int → Option (Nat × Int × Int)} (hst : St w1 N la g) (hg : ∀ x, lagOf (g x) = widL (fun _ => none) t1 A x) (ht : 1 ≤ t2) (ha : IsArr w1 N a la A) (hb : IsArr w1 N b lb B) (hcb : b = none → cb = 0) (hla : la ≤ 4096) (hlb : lb ≤ 4096)
    (hbel : Below w0.heap.size w0 w1) (hN : w0.heap.size ≤ N) :
    Calls Try.prog 9 #[.pointer (some ⟨N + 1, 0, none⟩), .slice b lb cb, .int .u64 t2] w1 fun e w' => e = .returned (.bool (want2 A t1 t2 B)) ∧ Fin w0 w' N a b la lb A B t1 t2 := by
  refine (zzwiden_any N la lb cb b B t2 w1 g hst ht hb hcb hlb hla).mono ?_
  rintro e w' ⟨rfl, g', h1, h2, h3⟩
  have e1 : (fun x => lagOf (g x)) = widL (fun _ => none) t1 A := funext hg
  rw [e1]
  refine ⟨congrArg (fun b => Ending.returned (Value.bool b)) (chg_second A B t1 t2), ⟨_, g', h1, fun x => ?_⟩, ha.below h3, hb.below h3, hbel.trans (h3.mono hN)⟩
  rw [h2 x, e1]
  exact two_hull A B t1 t2 x

theorem Fin.hasA {w wr : World} {N : Nat} {a b : Option Addr} {la lb : Nat} {A B : List Int} {t1 t2 : Int} (h : Fin w wr N a b la lb A B t1 t2) {ca : Nat} (hca : a = none → ca = 0) (hla : la ≤ 4096) (x : Int) :
    Calls Try.prog 10 #[.slice a la ca, .int .i64 x] wr fun e w' => e = .returned (.bool (A.contains x)) ∧ wr = w' :=
  has_any N la ca a A x wr h.2.1 hca hla

end Go.Proofs.Qxb6618666a
