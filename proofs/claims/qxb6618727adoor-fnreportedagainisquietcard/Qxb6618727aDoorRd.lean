/-
  THE WALK of reported.
-/
import Derived.Test.Qxb6618727aDoorReport
import Derived.Test.Qxb6618727aDoorEv
import Derived.Test.Qxb6618727aDoorRun2
import Derived.Deep.MidRow
import Derived.Deep.CutRange
namespace Go.Proofs.Qxb6618727aDoor
open Go.RowKit
set_option linter.unusedSimpArgs false

theorem IsEs.at {w : World} {N : Nat} {a : Option Addr} {len : Nat} (h : IsEs w N a len) {j : Nat} (hj : j < len) : ∃ b, a = some ⟨b, 0, none⟩ ∧ b < N ∧ ∃ (c : Int) (g : ByteArray) (o : Bool) (ns : Int), I64 c ∧
    w.cell? ⟨b, j * 6, none⟩ = some (.int .i64 c) ∧ w.cell? ⟨b, j * 6 + 1, none⟩ = some (.string g) ∧ w.cell? ⟨b, j * 6 + 2, none⟩ = some (.bool o) ∧ w.cell? ⟨b, j * 6 + 3, none⟩ = some (.int .u64 (tN ns)) ∧ w.cell? ⟨b, j * 6 + 4, none⟩ = some (.int .i64 (tS ns)) ∧ w.cell? ⟨b, j * 6 + 5, none⟩ = some (.pointer none) := by
  obtain ⟨_, h⟩ := h
  rcases h with rfl | ⟨b, D, rfl, hN, hc, hg⟩
  · omega
  · obtain ⟨c, g, o, ns, g1, _, _, c0, c1, c2, c3, c4, c5⟩ := hg j hj
    exact ⟨b, rfl, hN, c, g, o, ns, g1, (cell_of_row w b _ D 44 _ hc).trans c0, (cell_of_row w b _ D 44 _ hc).trans c1, (cell_of_row w b _ D 44 _ hc).trans c2, (cell_of_row w b _ D 44 _ hc).trans c3, (cell_of_row w b _ D 44 _ hc).trans c4, (cell_of_row w b _ D 44 _ hc).trans c5⟩

/-- reported's own blocks: the instance (as it stands), the report, the result's variable; all that came in lies as it did. -/
def Rs (i : Ins) (r : Rep) (w wx : World) : Prop :=
  wx.heap[w.heap.size]? = some (.cells i.arr 48 (0, 0)) ∧ wx.heap[w.heap.size + 1]? = some (.cells r.arr 55 (0, 0)) ∧ (∃ Z : Array Value, Z.size = 23 ∧ wx.heap[w.heap.size + 2]? = some (.cells Z 48 (0, 0))) ∧ Below w.heap.size w wx
section
variable {i : Ins} {r : Rep} {w wx wy : World}
theorem Rs.start (Z : Array Value) (hZ : Z.size = 23) : Rs i r w (((w.alloc (.cells i.arr 48)).alloc (.cells r.arr 55)).alloc (.cells Z 48)) := by
  have e1 : (w.alloc (.cells i.arr 48)).heap.size = w.heap.size + 1 := Array.size_push ..
  have e2 : ((w.alloc (.cells i.arr 48)).alloc (.cells r.arr 55)).heap.size = w.heap.size + 2 := (Array.size_push ..).trans (by rw [e1])
  have b1 := (Below.refl _ w).alloc (Nat.le_refl _) (.cells i.arr 48)
  have b2 := (Below.refl _ (w.alloc (.cells i.arr 48))).alloc (Nat.le_refl _) (.cells r.arr 55)
  have b3 := (Below.refl _ ((w.alloc (.cells i.arr 48)).alloc (.cells r.arr 55))).alloc (Nat.le_refl _) (.cells Z 48)
  rw [e1] at b2; rw [e2] at b3
  have h1 := heap_alloc_new w (.cells i.arr 48)
  have h2 := heap_alloc_new (w.alloc (.cells i.arr 48)) (.cells r.arr 55)
  have h3 := heap_alloc_new ((w.alloc (.cells i.arr 48)).alloc (.cells r.arr 55)) (.cells Z 48)
  rw [e1] at h2; rw [e2] at h3
  exact ⟨(b3.block _ (by omega)).trans ((b2.block _ (by omega)).trans h1), (b3.block _ (by omega)).trans h2, ⟨Z, hZ, h3⟩, b1.trans ((b2.mono (by omega)).trans (b3.mono (by omega)))⟩
theorem Rs.step (h : Rs i r w wx) (hb : Below wx.heap.size wx wy) : Rs i r w wy := by
  obtain ⟨h1, h2, ⟨Z, h3, h4⟩, h5⟩ := h
  exact ⟨(hb.block _ (lt_of_block h1)).trans h1, (hb.block _ (lt_of_block h2)).trans h2, ⟨Z, h3, (hb.block _ (lt_of_block h4)).trans h4⟩, h5.trans (hb.mono h5.size)⟩
theorem Rs.lt (h : Rs i r w wx) : w.heap.size + 3 ≤ wx.heap.size := by
  obtain ⟨_, _, ⟨Z, _, h⟩, _⟩ := h
  exact lt_of_block h
theorem Rs.grown {row : Option Nat} (h : Rs i r w wx) (hg : wx.grownBy wy row) (hr : ∀ k, row = some k → w.heap.size + 3 ≤ k) : Rs i r w wy := by
  have hb : Below (w.heap.size + 3) wx wy := (Below.refl _ _).grown hg h.lt hr
  obtain ⟨h1, h2, ⟨Z, h3, h4⟩, h5⟩ := h
  exact ⟨(hb.block _ (by omega)).trans h1, (hb.block _ (by omega)).trans h2, ⟨Z, h3, (hb.block _ (by omega)).trans h4⟩, h5.trans (hb.mono (by omega))⟩
theorem Rs.c0 (h : Rs i r w wx) (k : Nat) : wx.cell? ⟨w.heap.size, k, none⟩ = i.arr[k]? := cell_of_row _ _ _ _ _ _ h.1
theorem Rs.c1 (h : Rs i r w wx) (k : Nat) : wx.cell? ⟨w.heap.size + 1, k, none⟩ = r.arr[k]? := cell_of_row _ _ _ _ _ _ h.2.1
end
/-- The events gathered so far: n of them, in a row of the call's own (or nil). -/
def Evs (B : Nat) (wx : World) (v : Value) (n : Nat) : Prop := ∃ xs, wx.ownsRow (B + 3) 68 15 v n xs
theorem grown_of_below {wx wy : World} (hb : Below wx.heap.size wx wy) : wx.grownBy wy none := ⟨hb.os, hb.tape, hb.output, hb.size, fun k hk _ => hb.block k hk⟩
theorem Evs.step {B n : Nat} {wx wy : World} {v : Value} (h : Evs B wx v n) (hb : Below wx.heap.size wx wy) : Evs B wy v n := by
  obtain ⟨xs, h⟩ := h
  refine ⟨xs, h.kept (grown_of_below hb) ?_⟩
  cases v.ownBlock with
  | none => exact .inl rfl
  | some k => exact .inr (by simp)
theorem Evs.form {B n : Nat} {wx : World} {v : Value} (h : Evs B wx v n) : ∃ ev c, v = .slice ev n c := by
  obtain ⟨xs, _, ⟨rfl, rfl⟩ | ⟨g, cap, cur, rfl, _⟩⟩ := h
  · exact ⟨_, _, rfl⟩
  · exact ⟨_, _, rfl⟩
theorem Evs.row {B n : Nat} {wx : World} {v : Value} (h : Evs B wx v n) : ∀ k, v.ownBlock = some k → B + 3 ≤ k ∧ k < wx.heap.size := by
  obtain ⟨xs, h⟩ := h; exact h.lt

def evArr (h n s t : ByteArray) (x y : Int) : Array Value := #[.string h, .string ⟨#[]⟩, .string ⟨#[]⟩, .string n, .string ⟨#[]⟩, .string ⟨#[]⟩, .string s, .string t, .int .i64 0, .int .u64 x, .int .i64 y, .pointer none, .int .u64 0, .int .i64 0, .pointer none]
def x6 (c : Int) (g : ByteArray) (o : Bool) (x y : Int) : Array Value := #[.int .i64 c, .string g, .bool o, .int .u64 x, .int .i64 y, .pointer none]

theorem x6_facts (c : Int) (g : ByteArray) (o : Bool) (x y : Int) : (x6 c g o x y)[0]? = some (.int .i64 c) ∧ (x6 c g o x y)[1]? = some (.string g) ∧ (x6 c g o x y)[2]? = some (.bool o) ∧ (x6 c g o x y)[3]? = some (.int .u64 x) ∧ (x6 c g o x y)[4]? = some (.int .i64 y) ∧ (x6 c g o x y)[5]? = some (.pointer none) := ⟨rfl, rfl, rfl, rfl, rfl, rfl⟩

def Ins.withX (i : Ins) (c : Int) (g : ByteArray) (o : Bool) (x y : Int) : Ins := { i with xc := c, xg := g, xo := o, xw := x, xe := y }
def Ins.rep (i : Ins) (r : Rep) : Ins := { i with cu := r.rc, pi := r.rp, re := r.rr, rs := r.rz, fw := r.gw, fe := r.ge }
def U30 (x : Int) : Prop := 0 ≤ x ∧ x < 1073741824
/-- i with another last exit (or the same). -/
def JustX (i j : Ins) : Prop := ∃ c g o x y, j = i.withX c g o x y ∧ U30 x
def RdPost (i : Ins) (r : Rep) (len : Nat) (w : World) (e : Ending) (w' : World) : Prop :=
  ∃ (j : Ins) (ev : Option Addr) (n c : Nat), e = .returned (.tuple #[.agg (j.rep r).arr, .slice ev n c]) ∧ JustX i j ∧ (len = 0 → j = i) ∧ len ≤ n ∧ (len = 0 → r.gw = i.fw → r.ge = i.fe → n = 0) ∧ Below w.heap.size w w'

set_option maxRecDepth 100000 in
theorem run_build_ev (wx : World) (h n s t : ByteArray) (y z : Int) : (Instr.buildSlice 49 1 #[(0, .agg (evArr h n s t y z))]).run Tryd.prog wx = .ok (.slice (some ⟨wx.heap.size, 0, none⟩) 1 1) (wx.alloc (.cells (evArr h n s t y z) 68)) := by
  unfold evArr
  go_simp
set_option maxRecDepth 100000 in
theorem wp_build_ev {o : Oper} {a : Act} {wx : World} {K : Act → World → Prop} {Q : Exit → Act → World → Prop} (x : Operand) (h n s t : ByteArray) (y z : Int) (ho : o.op = .buildSlice 49 1 #[(0, x)]) (hx : a.eval x = .agg (evArr h n s t y z))
    (hK : K (a.put o.dst (.slice (some ⟨wx.heap.size, 0, none⟩) 1 1)) (wx.alloc (.cells (evArr h n s t y z) 68))) : o.wp Tryd.prog a wx K Q := by
  unfold Oper.wp execOp
  have hr := run_build_ev wx h n s t y z
  simp only [ho, List.map_toArray, List.map_cons, List.map_nil, hx, Sem.run_bind, hr, Result.andThen_ok]
  exact hK
set_option maxRecDepth 100000 in
theorem info68 : ∃ i, Tryd.prog.info? 68 = some i ∧ (∃ z, i.zero = some z ∧ z.cells.size = 15) ∧ i.size = 15 ∧ i.bytes = 184 := by as_aux_lemma => exact ⟨_, rfl, ⟨_, rfl, rfl⟩, rfl, rfl⟩
theorem ev_one (h n s t : ByteArray) (y z : Int) : ∀ u ∈ (evArr h n s t y z).toList, u.oneCell' = true := by
  intro u hu
  simp [evArr] at hu
  rcases hu with rfl | rfl | rfl | rfl | rfl | rfl | rfl | rfl | rfl | rfl | rfl | rfl | rfl | rfl | rfl <;> rfl
theorem wp_append_ev {o : Oper} {a : Act} {wx : World} {K : Act → World → Prop} {Q : Exit → Act → World → Prop} (p x : Operand) (ho : o.op = .call { callee := .builtin .append, args := #[p, x], argTypes := #[49, 49] })
    (B : Nat) (v : Value) (k : Nat) (hs : a.eval p = v) (hev : Evs B wx v k) (e : Nat) (h n s t : ByteArray) (y z : Int) (hx : a.eval x = .slice (some ⟨e, 0, none⟩) 1 1) (he : wx.heap[e]? = some (.cells (evArr h n s t y z) 68 (0, 0)))
    (hk : k ≤ 1048576) (hB : B + 3 ≤ wx.heap.size)
    (hK : ∀ v' w', Evs B w' v' (k + 1) → wx.grownBy w' v.ownBlock → K (a.put o.dst v') w') : o.wp Tryd.prog a wx K Q := by
  obtain ⟨i, hi, ⟨z0, hz, hzs⟩, hsz, hby⟩ := info68
  obtain ⟨xs, hown⟩ := hev
  exact wp_append_own wx p x 49 ho (B + 3) 68 i z0 15 184 Tryd.underlying49 hi hz hsz hby hzs (by decide) v k xs hs hown ⟨e, 0, none⟩ 1 1 (evArr h n s t y z).toList hx rfl
    (fun j u hj => by
      have h2 : (⟨e, 0, none⟩ : Addr).add j = ⟨e, j, none⟩ := (Addr.add_mid e 0 j).trans (by rw [Nat.zero_add])
      rw [h2, cell_of_row wx e j _ 68 _ he]; simpa using hj)
    (ev_one h n s t y z) (by unfold maxLen; omega) (by omega) hB fun v' w' h1 h2 _ => hK v' w' ⟨_, h1⟩ h2
theorem wpList_build_ev {ops : Array Oper} {rest : List Oper} {o : Oper} {a : Act} {wx : World} {Q : Exit → Act → World → Prop} (hgd : o.guard = none) (x : Operand) (h n s t : ByteArray) (y z : Int) (ho : o.op = .buildSlice 49 1 #[(0, x)]) (hx : a.eval x = .agg (evArr h n s t y z))
    (hK : wpList Tryd.prog ops Q rest (a.put o.dst (.slice (some ⟨wx.heap.size, 0, none⟩) 1 1)) (wx.alloc (.cells (evArr h n s t y z) 68))) : wpList Tryd.prog ops Q (o :: rest) a wx :=
  wpList_plain hgd fun _ hK' => wp_build_ev x h n s t y z ho hx (hK' _ _ hK)
theorem wpList_append_ev {ops : Array Oper} {rest : List Oper} {o : Oper} {a : Act} {wx : World} {Q : Exit → Act → World → Prop} (hgd : o.guard = none) (p x : Operand) (ho : o.op = .call { callee := .builtin .append, args := #[p, x], argTypes := #[49, 49] })
    (B : Nat) (v : Value) (k : Nat) (hs : a.eval p = v) (hev : Evs B wx v k) (e : Nat) (h n s t : ByteArray) (y z : Int) (hx : a.eval x = .slice (some ⟨e, 0, none⟩) 1 1) (he : wx.heap[e]? = some (.cells (evArr h n s t y z) 68 (0, 0)))
    (hk : k ≤ 1048576) (hB : B + 3 ≤ wx.heap.size)
    (hK : ∀ v' w', Evs B w' v' (k + 1) → wx.grownBy w' v.ownBlock → wpList Tryd.prog ops Q rest (a.put o.dst v') w') : wpList Tryd.prog ops Q (o :: rest) a wx :=
  wpList_plain hgd fun _ hK' => wp_append_ev p x ho B v k hs hev e h n s t y z hx he hk hB fun v' w' h1 h2 => hK' _ _ (hK v' w' h1 h2)

theorem there_row {wx : World} {B k n : Nat} {D : Array Value} {T : TypeId} (h : wx.heap[B]? = some (.cells D T (0, 0))) (hn : k + n ≤ D.size) : wx.there B k n := fun j hj => by
  refine ⟨?_, frozen_of_row wx B _ D T h⟩
  rw [cell_of_row wx B _ D T (0, 0) h]
  simp; omega
theorem setCells_block {B k : Nat} (hk : k ≠ B) : ∀ (vs : List Value) (j : Nat) (wx : World), (wx.setCells B j vs).heap[k]? = wx.heap[k]?
  | [], _, _ => rfl
  | v :: r, j, wx => (setCells_block hk r (j + 1) (wx.setCell ⟨B, j, none⟩ v)).trans (Below.heap_setCell wx ⟨B, j, none⟩ v k hk)
theorem setCells_grown (wx : World) (B j : Nat) (vs : List Value) : wx.grownBy (wx.setCells B j vs) (some B) := by
  have h := six_below (w := wx) (B := B) (Nat.zero_le _) (Below.refl 0 wx) j vs
  exact ⟨h.os, h.tape, h.output, h.size, fun k _ hne => setCells_block (fun e => hne (by rw [e])) vs j wx⟩
theorem Evs.aside {B n j : Nat} {wx : World} {v : Value} {vs : List Value} (h : Evs B wx v n) : Evs B (wx.setCells B j vs) v n := by
  have hr := h.row
  obtain ⟨xs, h⟩ := h
  refine ⟨xs, h.kept (setCells_grown wx B j vs) (.inr fun e => ?_)⟩
  have := (hr B e).1; omega
theorem Rs.aside {i j : Ins} {r : Rep} {w wx : World} {k : Nat} {vs : List Value} (h : Rs i r w wx) (hj : (wx.setCells w.heap.size k vs).heap[w.heap.size]? = some (.cells j.arr 48 (0, 0))) : Rs j r w (wx.setCells w.heap.size k vs) := by
  obtain ⟨h1, h2, ⟨Z, h3, h4⟩, h5⟩ := h
  exact ⟨hj, (setCells_block (by omega) vs k wx).trans h2, ⟨Z, h3, (setCells_block (by omega) vs k wx).trans h4⟩, six_below (Nat.le_refl _) h5 k vs⟩
theorem Rs.six {i : Ins} {r : Rep} {w wx : World} (c : Int) (g : ByteArray) (o : Bool) (x y : Int) (h : Rs i r w wx) : Rs (i.withX c g o x y) r w (wx.setCells w.heap.size 9 [.int .i64 c, .string g, .bool o, .int .u64 x, .int .i64 y, .pointer none]) := by
  refine h.aside ?_
  simp only [World.setCells]
  exact heap_setCell_same _ _ _ _ _ _ (heap_setCell_same _ _ _ _ _ _ (heap_setCell_same _ _ _ _ _ _ (heap_setCell_same _ _ _ _ _ _ (heap_setCell_same _ _ _ _ _ _ (heap_setCell_same _ _ _ _ _ _ h.1)))))

/-- reported's own blocks but for the instance's, which is being written. -/
def Rt (r : Rep) (w wx : World) : Prop :=
  wx.heap[w.heap.size + 1]? = some (.cells r.arr 55 (0, 0)) ∧ (∃ Z : Array Value, Z.size = 23 ∧ wx.heap[w.heap.size + 2]? = some (.cells Z 48 (0, 0))) ∧ Below w.heap.size w wx
theorem Rt.c1 {r : Rep} {w wx : World} (h : Rt r w wx) (k : Nat) : wx.cell? ⟨w.heap.size + 1, k, none⟩ = r.arr[k]? := cell_of_row _ _ _ _ _ _ h.1
theorem Rt.aside {r : Rep} {w wx : World} (h : Rt r w wx) (k : Nat) (vs : List Value) : Rt r w (wx.setCells w.heap.size k vs) := by
  obtain ⟨h2, ⟨Z, h3, h4⟩, h5⟩ := h
  exact ⟨(setCells_block (by omega) vs k wx).trans h2, ⟨Z, h3, (setCells_block (by omega) vs k wx).trans h4⟩, six_below (Nat.le_refl _) h5 k vs⟩
theorem i48 : (Tryd.prog.info? 48).map (·.size) = some 23 := by kernel_rfl
theorem i42 : (Tryd.prog.info? 42).map (·.size) = some 3 := by kernel_rfl
theorem ins_one (i : Ins) : i.arr.all (·.oneCell') = true := by kernel_rfl
theorem results_two {P : Program} {fn : Func} {p q : Tmp} {ty : TypeId} (h : fn.results = #[.cell p ty, .tmp q]) (tmps : Array Value) (w : World) (g : Nat) (t : TypeId) (cs : Array Value) (fr : Nat × Nat) (d : TypeDesc) (v : Value)
    (hp : tmps.getD p undef = .pointer (some ⟨g, 0, none⟩)) (hq : tmps.getD q undef = v) (hg : w.heap[g]? = some (.cells cs t fr))
    (hu : P.underlying ty = some d) (hd : (match d with | .struct _ | .array _ _ => true | _ => false) = true) (hi : (P.info? ty).map (·.size) = some cs.size) :
    (results fn tmps).run P w = .ok (.tuple #[.agg cs, v]) w := by
  have hp' : tmps[p]?.getD undef = .pointer (some ⟨g, 0, none⟩) := by simpa using hp
  have hq' : tmps[q]?.getD undef = v := by simpa using hq
  simp [results, h, hp', hq', asAddr, run_loadVar_row w g t ty cs fr d hg hu hd hi]

/-- Inside a round: besides, the round's exit in its own block X. -/
def Rg (i : Ins) (r : Rep) (w : World) (X : Nat) (xs : Array Value) (wx : World) : Prop := Rs i r w wx ∧ wx.heap[X]? = some (.cells xs 44 (0, 0))
theorem Rg.step {i : Ins} {r : Rep} {w wx wy : World} {X : Nat} {xs : Array Value} (h : Rg i r w X xs wx) (hb : Below wx.heap.size wx wy) : Rg i r w X xs wy :=
  ⟨h.1.step hb, (hb.block _ (lt_of_block h.2)).trans h.2⟩
theorem Rg.grown {i : Ins} {r : Rep} {w wx wy : World} {X : Nat} {xs : Array Value} {row : Option Nat} (h : Rg i r w X xs wx) (hg : wx.grownBy wy row) (hr : ∀ k, row = some k → w.heap.size + 3 ≤ k ∧ k < X) : Rg i r w X xs wy :=
  ⟨h.1.grown hg fun k hk => (hr k hk).1, (hg.block X (lt_of_block h.2) (fun e => by have := (hr X e.symm).2; omega)).trans h.2⟩
theorem Rg.c2 {i : Ins} {r : Rep} {w wx : World} {X : Nat} {xs : Array Value} (h : Rg i r w X xs wx) (k : Nat) : wx.cell? ⟨X, k, none⟩ = xs[k]? := cell_of_row _ _ _ _ _ _ h.2

set_option maxRecDepth 100000 in
set_option maxHeartbeats 40000000 in
theorem reported_any (i : Ins) (r : Rep) (a : Option Addr) (len cap : Nat) (w : World) (ht : Tab w) (he : IsEs w w.heap.size a len) (hx : U30 i.xw) (hf : U30 i.fw) (hr : U30 r.gw) :
    Calls Tryd.prog 18 #[.agg i.arr, .agg r.arr, .slice a len cap] w (RdPost i r len w) := by
  have hl := he.1
  have HE := hidden he
  clear he
  obtain ⟨a0, a1, a2, a3, a4, a5, a6, a7, a8, a9, a10, a11, a12, a13, a14, a15, a16, a17, a18, a19, a20, a21, a22⟩ := i.facts
  obtain ⟨b0, b1, b2, b3, b4, b5, b6, b7, b8, b9, b10, b11, b12, b13, b14, b15⟩ := r.facts
  go_enter Tryd.func18, Tryd.ntmps18
  go_wp2_with fail
  go_loopw [8, 13] (fun v iv wr => ∃ k : Nat, k ≤ len ∧ iv = .int .i64 k ∧ Evs w.heap.size wr v k ∧ Rs i r w wr) (fun _ iv _ => len - (intOf iv).toNat)
  case atStart => exact ⟨0, Nat.zero_le _, rfl, ⟨[], World.ownsRow_nil _ _ _ _⟩, Rs.start _ rfl⟩
  case round =>
    obtain ⟨k, hk, rfl, hev, hRs⟩ := hrel
    by_cases hlt : k < len
    · obtain ⟨b', e', hbw, c, g, o, ns, g1, c0, c1, c2, c3, c4, c5⟩ := (HE.out.below hRs.2.2.2).at hlt
      have hi : (k : Int) < (len : Int) := by omega
      cases e'
      go_wp2_with (first
        | (refine wpList_store_row rfl 44 (.tmp 10) (.tmp 16) rfl wr.heap.size (x6 c g o (tN ns) (tS ns)) rfl rfl 44 _ (heap_alloc_new wr _) i44 rfl (one6 c g o _ _) ?_)
        | fail)
      simp only [Act.put]
      have hrow := setRow_heap _ wr.heap.size _ (x6 c g o (tN ns) (tS ns)) 44 _ (heap_alloc_new wr (.cells #[.int .i64 0, .string ⟨#[]⟩, .bool false, .int .u64 0, .int .i64 0, .pointer none] 44))
      have hbx := below_setRow ((Below.refl _ wr).alloc (Nat.le_refl _) (.cells #[.int .i64 0, .string ⟨#[]⟩, .bool false, .int .u64 0, .int .i64 0, .pointer none] 44)) wr.heap.size (Nat.le_refl _) (x6 c g o (tN ns) (tS ns))
      have hvX := hev.row
      replace hev := (hev.step hbx).step (Below.refl _ _).drew
      have hS : Rg i r w wr.heap.size (x6 c g o (tN ns) (tS ns)) _ := (show Rg i r w wr.heap.size (x6 c g o (tN ns) (tS ns)) _ from ⟨hRs.step hbx, hrow⟩).step (Below.refl _ _).drew
      clear hRs hrow hbx c0 c1 c2 c3 c4 c5
      refine region_named (S := Rg i r w wr.heap.size (x6 c g o (tN ns) (tS ns))) (n := 19) (by as_aux_lemma => kernel_rfl) (by as_aux_lemma => kernel_rfl) hS (fun R hR => ?_)
      generalize World.drew _ = wx at hev hS ⊢
      generalize wr.heap.size = X at hvX hS ⊢
      clear wr
      have hns : ssa2 R = true := by as_aux_lemma => (unfold IsOps at hR; subst hR; kernel_rfl)
      have hlen : R.length = 19 := by as_aux_lemma => (unfold IsOps at hR; subst hR; kernel_rfl)
      have hcell : ∀ (wx : World) (j : Nat), Rg i r w X (x6 c g o (tN ns) (tS ns)) wx → wx.cell? ⟨w.heap.size, j, none⟩ = i.arr[j]? := fun wx j h => h.1.c0 j
      have hcelX : ∀ (wx : World) (j : Nat), Rg i r w X (x6 c g o (tN ns) (tS ns)) wx → wx.cell? ⟨X, j, none⟩ = (x6 c g o (tN ns) (tS ns))[j]? := fun wx j h => h.c2 j
      obtain ⟨q0, q1, q2, q3, q4, q5⟩ := x6_facts c g o (tN ns) (tS ns)
      refine takes_run2 [(0, u8), (1, .pointer (some ⟨w.heap.size, 0, none⟩)), (2, .pointer (some ⟨w.heap.size, 0, none⟩)), (3, .pointer (some ⟨w.heap.size, 0, none⟩)), (4, .string i.nm), (5, .pointer (some ⟨w.heap.size, 0, none⟩)), (6, .pointer (some ⟨w.heap.size, 0, none⟩)), (7, .pointer (some ⟨w.heap.size, 1, none⟩)), (8, .string i.ho), (9, .agg (x6 c g o (tN ns) (tS ns))), (11, .agg (x6 c g o (tN ns) (tS ns))), (13, .pointer (some ⟨X, 3, none⟩)), (14, .agg #[.int .u64 (tN ns), .int .i64 (tS ns), .pointer none])] (fuel := 6) (d' := [14, 13, 11, 9, 8, 7, 6, 5, 4, 3, 2, 1, 0]) (by as_aux_lemma => kernel_rfl) hns (by as_aux_lemma => (unfold IsOps at hR; subst hR; kernel_rfl)) rfl (fun _ _ _ _ _ h => h) hS (fun K hK => ?_)
      refine RunsThen.cons (hR.at rfl) (by intro wx hSw; go_simp <;> rfl) ?_
      try simp only [Act.put, List.setIfInBounds_toArray, List.set_cons_zero, List.set_cons_succ]
      refine RunsThen.cons (hR.at rfl) (by intro wx hSw; go_simp <;> rfl) ?_
      try simp only [Act.put, List.setIfInBounds_toArray, List.set_cons_zero, List.set_cons_succ]
      refine RunsThen.cons (hR.at rfl) (by intro wx hSw; go_simp <;> rfl) ?_
      try simp only [Act.put, List.setIfInBounds_toArray, List.set_cons_zero, List.set_cons_succ]
      refine RunsThen.cons (hR.at rfl) (by intro wx hSw; go_simp <;> rfl) ?_
      try simp only [Act.put, List.setIfInBounds_toArray, List.set_cons_zero, List.set_cons_succ]
      refine RunsThen.cons (hR.at rfl) (by intro wx hSw; go_simp <;> rfl) ?_
      try simp only [Act.put, List.setIfInBounds_toArray, List.set_cons_zero, List.set_cons_succ]
      refine RunsThen.cons (hR.at rfl) (by intro wx hSw; go_simp <;> rfl) ?_
      try simp only [Act.put, List.setIfInBounds_toArray, List.set_cons_zero, List.set_cons_succ]
      refine RunsThen.cons (hR.at rfl) (by intro wx hSw; go_simp <;> rfl) ?_
      try simp only [Act.put, List.setIfInBounds_toArray, List.set_cons_zero, List.set_cons_succ]
      refine RunsThen.cons (hR.at rfl) (by intro wx hSw; go_simp <;> rfl) ?_
      try simp only [Act.put, List.setIfInBounds_toArray, List.set_cons_zero, List.set_cons_succ]
      refine RunsThen.cons (hR.at rfl) (by intro wx hSw; go_simp <;> rfl) ?_
      try simp only [Act.put, List.setIfInBounds_toArray, List.set_cons_zero, List.set_cons_succ]
      refine RunsThen.cons (hR.at rfl) (by intro wx hSw; go_simp <;> rfl) ?_
      try simp only [Act.put, List.setIfInBounds_toArray, List.set_cons_zero, List.set_cons_succ]
      refine RunsThen.cons (hR.at rfl) (by intro wx hSw; go_simp <;> rfl) ?_
      try simp only [Act.put, List.setIfInBounds_toArray, List.set_cons_zero, List.set_cons_succ]
      refine RunsThen.cons (hR.at rfl) (by intro wx hSw; go_simp <;> rfl) ?_
      try simp only [Act.put, List.setIfInBounds_toArray, List.set_cons_zero, List.set_cons_succ]
      refine RunsThen.cons (hR.at rfl) (by intro wx hSw; go_simp <;> rfl) ?_
      try simp only [Act.put, List.setIfInBounds_toArray, List.set_cons_zero, List.set_cons_succ]
      refine RunsThen.nil (hK.out _ ?_)
      clear hK K
      refine carry_run2 (i := 10) (fuel := 5) hlen hns (by as_aux_lemma => (unfold IsOps at hR; subst hR; kernel_rfl)) (hR.at rfl) rfl (fun K hK => ?_)
      go_simp
      refine (reason_any _ _ _ _ _ _).mono ?_
      rintro e wa ⟨s1, rfl, hB⟩
      go_wp2_with fail
      refine hK.out _ _ (hS.step hB) ?_
      replace hS := hS.step hB
      replace hev := hev.step hB
      clear hB
      clear hK K
      try simp only [Act.put, List.setIfInBounds_toArray, List.set_cons_zero, List.set_cons_succ]
      refine carry_run2 (i := 12) (fuel := 4) hlen hns (by as_aux_lemma => (unfold IsOps at hR; subst hR; kernel_rfl)) (hR.at rfl) rfl (fun K hK => ?_)
      go_simp
      refine (detail_any _ _ _ _ _ _ g1 (ht.below hS.1.2.2.2)).mono ?_
      rintro e wb ⟨s2, rfl, hB⟩
      go_wp2_with fail
      refine hK.out _ _ (hS.step hB) ?_
      replace hS := hS.step hB
      replace hev := hev.step hB
      clear hB
      clear hK K
      try simp only [Act.put, List.setIfInBounds_toArray, List.set_cons_zero, List.set_cons_succ]
      refine takes_run2 [(15, .agg (evArr i.ho i.nm s1 s2 (tN ns) (tS ns)))] (fuel := 3) (d' := [15, 12, 10, 14, 13, 11, 9, 8, 7, 6, 5, 4, 3, 2, 1, 0]) (by as_aux_lemma => kernel_rfl) hns (by as_aux_lemma => (unfold IsOps at hR; subst hR; kernel_rfl)) rfl (fun _ _ _ _ _ h => h) hS (fun K hK => ?_)
      refine RunsThen.cons (hR.at rfl) (by intro wx hSw; go_simp <;> rfl) ?_
      try simp only [Act.put, List.setIfInBounds_toArray, List.set_cons_zero, List.set_cons_succ]
      refine RunsThen.nil (hK.out _ ?_)
      clear hK K
      refine carry_run2 (i := 16) (fuel := 2) hlen hns (by as_aux_lemma => (unfold IsOps at hR; subst hR; kernel_rfl)) (hR.at rfl) rfl (fun K hK => ?_)
      refine wp_build_ev (.tmp 32) i.ho i.nm s1 s2 (tN ns) (tS ns) rfl rfl ?_
      have hnew := heap_alloc_new wb (.cells (evArr i.ho i.nm s1 s2 (tN ns) (tS ns)) 68)
      have hB := (Below.refl _ wb).alloc (Nat.le_refl _) (.cells (evArr i.ho i.nm s1 s2 (tN ns) (tS ns)) 68)
      refine hK.out _ _ (hS.step hB) ?_
      replace hS := hS.step hB
      replace hev := hev.step hB
      clear hB
      generalize World.alloc _ _ = wc at hS hev hnew ⊢
      generalize wb.heap.size = Y at hnew ⊢
      clear hK K
      try simp only [Act.put, List.setIfInBounds_toArray, List.set_cons_zero, List.set_cons_succ]
      refine carry_run2 (i := 17) (fuel := 1) hlen hns (by as_aux_lemma => (unfold IsOps at hR; subst hR; kernel_rfl)) (hR.at rfl) rfl (fun K hK => ?_)
      refine wp_append_ev (.tmp 17) (.tmp 33) rfl w.heap.size u8 k rfl hev Y _ _ _ _ _ _ rfl hnew (by omega) hS.1.lt ?_
      intro v' wd hev' hgr
      refine hK.out _ _ (hS.grown hgr hvX) ?_
      replace hS := hS.grown hgr hvX
      clear hK K
      try simp only [Act.put, List.setIfInBounds_toArray, List.set_cons_zero, List.set_cons_succ]
      refine takes_run2 [(18, v')] (fuel := 0) (d' := [18, 17, 16, 15, 12, 10, 14, 13, 11, 9, 8, 7, 6, 5, 4, 3, 2, 1, 0]) (by as_aux_lemma => kernel_rfl) hns (by as_aux_lemma => (unfold IsOps at hR; subst hR; kernel_rfl)) rfl (fun _ _ _ _ _ h => h) hS (fun K hK => ?_)
      refine RunsThen.cons (hR.at rfl) (by intro wx hSw; go_simp <;> rfl) ?_
      try simp only [Act.put, List.setIfInBounds_toArray, List.set_cons_zero, List.set_cons_succ]
      refine RunsThen.nil (hK.out _ ?_)
      clear hK K
      refine done_run hlen (by as_aux_lemma => kernel_rfl) ?_
      go_wp2_with fail
      go_roundw
      case rel => exact ⟨k + 1, by omega, by go_num, hev', hS.1⟩
      case measure => simp [intOf]; omega
    · obtain rfl : k = len := by omega
      go_upto_if 38 with fail
      go_cut [] from 39 to 46 (fun wx => ∃ j, JustX i j ∧ (k = 0 → j = i) ∧ j.fw = i.fw ∧ j.fe = i.fe ∧ Rs j r w wx ∧ Evs w.heap.size wx u8 k)
      case first =>
        rcases Nat.eq_zero_or_pos k with rfl | hpos
        · go_wp2_with fail
          go_meet
          case rel => exact ⟨i, ⟨_, _, _, _, _, rfl, hx⟩, fun _ => rfl, rfl, rfl, hRs, hev⟩
        · obtain ⟨m, rfl⟩ : ∃ m, k = m + 1 := ⟨k - 1, by omega⟩
          obtain ⟨b', e', hbw, c, g, o, ns, g1, c0, c1, c2, c3, c4, c5⟩ := (HE.out.below hRs.2.2.2).at (j := m) (by omega)
          cases e'
          have hgt : (0 : Int) < ((m + 1 : Nat) : Int) := by omega
          have hsub : ((m + 1 : Nat) : Int) - 1 = (m : Int) := by omega
          go_wp2_with (first
            | (refine wpList_store_mid rfl 44 (.tmp 46) (.tmp 44) rfl w.heap.size 9 #[.int .i64 c, .string g, .bool o, .int .u64 (tN ns), .int .i64 (tS ns), .pointer none] rfl rfl (there_row (n := 6) hRs.1 (by rw [Ins.size]; decide)) i44 (one6 c g o _ _) ?_
               replace hRs := hRs.six c g o (tN ns) (tS ns)
               replace hev := hev.aside (j := 9) (vs := [.int .i64 c, .string g, .bool o, .int .u64 (tN ns), .int .i64 (tS ns), .pointer none])
               generalize World.setCells _ _ _ _ = ws at hRs hev ⊢)
            | fail)
          go_meet
          case rel => exact ⟨_, ⟨c, g, o, tN ns, tS ns, rfl, (tN_bd ns).1, by have := (tN_bd ns).2; omega⟩, fun h => by omega, rfl, rfl, hRs, hev⟩
      case rest =>
      obtain ⟨j, hj, hj0, hjf, hje, hRs, hev⟩ := hcut
      clear a0 a1 a2 a3 a4 a5 a6 a7 a8 a9 a10 a11 a12 a13 a14 a15 a16 a17 a18 a19 a20 a21 a22
      obtain ⟨a0, a1, a2, a3, a4, a5, a6, a7, a8, a9, a10, a11, a12, a13, a14, a15, a16, a17, a18, a19, a20, a21, a22⟩ := j.facts
      have htE := hidden (fun w => timeEqual_any r.gw r.ge i.fw i.fe w hr.1 hr.2 hf.1 hf.2)
      go_upto_region 9 with fail
      go_cut [64] from 47 to 63 (fun b wx => ∃ bb, b = .bool bb ∧ (r.gw = i.fw → r.ge = i.fe → bb = false) ∧ Rs j r w wx ∧ Evs w.heap.size wx u8 k)
      case first =>
        have d20 := (hRs.c0 20).trans a20
        have d21 := (hRs.c0 21).trans a21
        have d22 := (hRs.c0 22).trans a22
        have d2 := (hRs.c1 2).trans b2
        have d12 := (hRs.c1 12).trans b12
        have d13 := (hRs.c1 13).trans b13
        have d14 := (hRs.c1 14).trans b14
        have d15 := (hRs.c1 15).trans b15
        have hB2 : ∀ o1 o2, Below wc.heap.size wc ((wc.alloc o1).alloc o2) := fun o1 o2 => ((Below.refl _ _).alloc (Nat.le_refl _) o1).alloc (by simp) o2
        go_wp2_with (first | (go_at_call 25; refine (htE.out _).mono ?_; rintro e w' ⟨rfl, o1, o2, rfl⟩) | fail)
        all_goals go_meet
        · exact ⟨false, rfl, fun _ _ => rfl, hRs, hev⟩
        · exact ⟨_, rfl, fun h1 h2 => by simp [h1, h2], hRs.step (hB2 _ _), hev.step (hB2 _ _)⟩
        · exact ⟨false, rfl, fun _ _ => rfl, hRs, hev⟩
      case rest =>
      clear hRs hev htE
      obtain ⟨bb, rfl, hbb, hRs, hev⟩ := hcut
      go_upto_if 64 with fail
      go_cut [8] from 65 to 80 (fun v wx => ∃ n, k ≤ n ∧ (k = 0 → r.gw = i.fw → r.ge = i.fe → n = 0) ∧ Rs j r w wx ∧ Evs w.heap.size wx v n)
      case first =>
        cases bb with
        | false =>
          go_wp2_with fail
          go_meet
          case rel => exact ⟨k, Nat.le_refl _, fun h _ _ => h, hRs, hev⟩
        | true =>
          have d0 := (hRs.c0 0).trans a0
          have d1 := (hRs.c0 1).trans a1
          have d12 := (hRs.c1 12).trans b12
          have d13 := (hRs.c1 13).trans b13
          have d14 := (hRs.c1 14).trans b14
          have d15 := (hRs.c1 15).trans b15
          have hB := (Below.refl _ wc).alloc (Nat.le_refl _) (.cells (evArr j.ho j.nm ⟨#[115, 116, 97, 114, 116, 45, 102, 97, 105, 108, 101, 100]⟩ r.rz r.gw r.ge) 68)
          have hnew := hidden (heap_alloc_new wc (.cells (evArr j.ho j.nm ⟨#[115, 116, 97, 114, 116, 45, 102, 97, 105, 108, 101, 100]⟩ r.rz r.gw r.ge) 68))
          have hev2 := hidden (hev.step hB)
          have hRs2 := hidden (hRs.step hB)
          clear hB
          go_wp2_with (first
            | (at_builtin; refine wpList_append_ev rfl (.tmp 65) (.tmp 79) rfl w.heap.size u8 k rfl hev2.out wc.heap.size j.ho j.nm _ r.rz r.gw r.ge rfl hnew.out hl hRs2.out.lt ?_; intro v' wd hev' hgr)
            | fail)
          go_meet
          case rel => exact ⟨k + 1, Nat.le_succ _, fun _ h1 h2 => by simpa using hbb h1 h2, hRs2.out.grown hgr (fun q hq => (hev.row q hq).1), hev'⟩
      case rest =>
      clear hRs hev
      obtain ⟨n, hkn, hn0, hRs, hev⟩ := hcut
      obtain ⟨ev, ec, rfl⟩ := hev.form
      go_upto_region 11 with fail
      have hC := hRs.1
      have hS : Rt r w wc.drew := ⟨hRs.2.1, hRs.2.2.1, hRs.2.2.2.drew⟩
      clear hRs hev
      refine region_named (S := Rt r w) (n := 24) (by as_aux_lemma => kernel_rfl) (by as_aux_lemma => kernel_rfl) hS (fun R hR => ?_)
      replace hC : wc.drew.heap[w.heap.size]? = some (.cells j.arr 48 (0, 0)) := hC
      generalize World.drew _ = wx at hC hS ⊢
      clear wc
      have hns : ssa2 R = true := by as_aux_lemma => (unfold IsOps at hR; subst hR; kernel_rfl)
      have hlen : R.length = 24 := by as_aux_lemma => (unfold IsOps at hR; subst hR; kernel_rfl)
      have hcell : ∀ (wx : World) (j : Nat), Rt r w wx → wx.cell? ⟨w.heap.size + 1, j, none⟩ = r.arr[j]? := fun wx j h => h.c1 j
      refine takes_run2 [(0, .pointer (some ⟨w.heap.size + 1, 2, none⟩)), (1, .string r.rc), (2, .pointer (some ⟨w.heap.size + 1, 3, none⟩)), (3, .int .i64 r.rp), (4, .pointer (some ⟨w.heap.size + 1, 4, none⟩)), (5, .int .i64 r.rr), (6, .pointer (some ⟨w.heap.size + 1, 12, none⟩)), (7, .string r.rz), (8, .pointer (some ⟨w.heap.size + 1, 13, none⟩)), (9, .agg #[.int .u64 r.gw, .int .i64 r.ge, .pointer none]), (10, .pointer (some ⟨w.heap.size, 0, none⟩)), (11, .pointer (some ⟨w.heap.size, 6, none⟩))] (fuel := 12) (d' := [11, 10, 9, 8, 7, 6, 5, 4, 3, 2, 1, 0]) (by as_aux_lemma => kernel_rfl) hns (by as_aux_lemma => (unfold IsOps at hR; subst hR; kernel_rfl)) rfl (fun _ _ _ _ _ h => h) hS (fun K hK => ?_)
      refine RunsThen.cons (hR.at rfl) (by intro wx hSw; go_simp <;> rfl) ?_
      try simp only [Act.put, List.setIfInBounds_toArray, List.set_cons_zero, List.set_cons_succ]
      refine RunsThen.cons (hR.at rfl) (by intro wx hSw; go_simp <;> rfl) ?_
      try simp only [Act.put, List.setIfInBounds_toArray, List.set_cons_zero, List.set_cons_succ]
      refine RunsThen.cons (hR.at rfl) (by intro wx hSw; go_simp <;> rfl) ?_
      try simp only [Act.put, List.setIfInBounds_toArray, List.set_cons_zero, List.set_cons_succ]
      refine RunsThen.cons (hR.at rfl) (by intro wx hSw; go_simp <;> rfl) ?_
      try simp only [Act.put, List.setIfInBounds_toArray, List.set_cons_zero, List.set_cons_succ]
      refine RunsThen.cons (hR.at rfl) (by intro wx hSw; go_simp <;> rfl) ?_
      try simp only [Act.put, List.setIfInBounds_toArray, List.set_cons_zero, List.set_cons_succ]
      refine RunsThen.cons (hR.at rfl) (by intro wx hSw; go_simp <;> rfl) ?_
      try simp only [Act.put, List.setIfInBounds_toArray, List.set_cons_zero, List.set_cons_succ]
      refine RunsThen.cons (hR.at rfl) (by intro wx hSw; go_simp <;> rfl) ?_
      try simp only [Act.put, List.setIfInBounds_toArray, List.set_cons_zero, List.set_cons_succ]
      refine RunsThen.cons (hR.at rfl) (by intro wx hSw; go_simp <;> rfl) ?_
      try simp only [Act.put, List.setIfInBounds_toArray, List.set_cons_zero, List.set_cons_succ]
      refine RunsThen.cons (hR.at rfl) (by intro wx hSw; go_simp <;> rfl) ?_
      try simp only [Act.put, List.setIfInBounds_toArray, List.set_cons_zero, List.set_cons_succ]
      refine RunsThen.cons (hR.at rfl) (by intro wx hSw; go_simp <;> rfl) ?_
      try simp only [Act.put, List.setIfInBounds_toArray, List.set_cons_zero, List.set_cons_succ]
      refine RunsThen.cons (hR.at rfl) (by intro wx hSw; go_simp <;> rfl) ?_
      try simp only [Act.put, List.setIfInBounds_toArray, List.set_cons_zero, List.set_cons_succ]
      refine RunsThen.cons (hR.at rfl) (by intro wx hSw; go_simp <;> rfl) ?_
      try simp only [Act.put, List.setIfInBounds_toArray, List.set_cons_zero, List.set_cons_succ]
      refine RunsThen.nil (hK.out _ ?_)
      clear hK K
      refine carry_run2 (i := 12) (fuel := 11) hlen hns (by as_aux_lemma => (unfold IsOps at hR; subst hR; kernel_rfl)) (hR.at rfl) rfl (fun K hK => ?_)
      have hc : wx.cell? ⟨w.heap.size, 6, none⟩ = some (.string j.cu) := (cell_of_row _ w.heap.size 6 _ 48 _ hC).trans rfl
      have hz := frozen_of_row _ w.heap.size 6 _ 48 hC
      go_simp
      have hC2 : (wx.setCells w.heap.size 6 [.string r.rc]).heap[w.heap.size]? = some (.cells ({ j with cu := r.rc } : Ins).arr 48 (0, 0)) := heap_setCell_same _ _ _ _ _ _ hC
      have hS2 := hS.aside 6 [.string r.rc]
      refine hK.out _ _ hS2 ?_
      clear hC hS hc hz
      generalize hw : wx.setCells w.heap.size 6 [.string r.rc] = wa at hC2 hS2
      have hw2 : wx.setCell ⟨w.heap.size, 6, none⟩ (.string r.rc) = wa := hw
      rw [hw2]
      clear hw hw2
      have hC := hC2
      have hS := hS2
      clear hC2 hS2
      clear hK K
      try simp only [Act.put, List.setIfInBounds_toArray, List.set_cons_zero, List.set_cons_succ]
      refine takes_run2 [(13, .pointer (some ⟨w.heap.size, 0, none⟩)), (14, .pointer (some ⟨w.heap.size, 7, none⟩))] (fuel := 9) (d' := [14, 13, 12, 11, 10, 9, 8, 7, 6, 5, 4, 3, 2, 1, 0]) (by as_aux_lemma => kernel_rfl) hns (by as_aux_lemma => (unfold IsOps at hR; subst hR; kernel_rfl)) rfl (fun _ _ _ _ _ h => h) hS (fun K hK => ?_)
      refine RunsThen.cons (hR.at rfl) (by intro wx hSw; go_simp <;> rfl) ?_
      try simp only [Act.put, List.setIfInBounds_toArray, List.set_cons_zero, List.set_cons_succ]
      refine RunsThen.cons (hR.at rfl) (by intro wx hSw; go_simp <;> rfl) ?_
      try simp only [Act.put, List.setIfInBounds_toArray, List.set_cons_zero, List.set_cons_succ]
      refine RunsThen.nil (hK.out _ ?_)
      clear hK K
      refine carry_run2 (i := 15) (fuel := 8) hlen hns (by as_aux_lemma => (unfold IsOps at hR; subst hR; kernel_rfl)) (hR.at rfl) rfl (fun K hK => ?_)
      have hc : wa.cell? ⟨w.heap.size, 7, none⟩ = some (.int .i64 j.pi) := (cell_of_row _ w.heap.size 7 _ 48 _ hC).trans rfl
      have hz := frozen_of_row _ w.heap.size 7 _ 48 hC
      go_simp
      have hC2 : (wa.setCells w.heap.size 7 [.int .i64 r.rp]).heap[w.heap.size]? = some (.cells ({ j with cu := r.rc, pi := r.rp } : Ins).arr 48 (0, 0)) := heap_setCell_same _ _ _ _ _ _ hC
      have hS2 := hS.aside 7 [.int .i64 r.rp]
      refine hK.out _ _ hS2 ?_
      clear hC hS hc hz
      generalize hw : wa.setCells w.heap.size 7 [.int .i64 r.rp] = wb at hC2 hS2
      have hw2 : wa.setCell ⟨w.heap.size, 7, none⟩ (.int .i64 r.rp) = wb := hw
      rw [hw2]
      clear hw hw2
      have hC := hC2
      have hS := hS2
      clear hC2 hS2
      clear hK K
      try simp only [Act.put, List.setIfInBounds_toArray, List.set_cons_zero, List.set_cons_succ]
      refine takes_run2 [(16, .pointer (some ⟨w.heap.size, 0, none⟩)), (17, .pointer (some ⟨w.heap.size, 8, none⟩))] (fuel := 6) (d' := [17, 16, 15, 14, 13, 12, 11, 10, 9, 8, 7, 6, 5, 4, 3, 2, 1, 0]) (by as_aux_lemma => kernel_rfl) hns (by as_aux_lemma => (unfold IsOps at hR; subst hR; kernel_rfl)) rfl (fun _ _ _ _ _ h => h) hS (fun K hK => ?_)
      refine RunsThen.cons (hR.at rfl) (by intro wx hSw; go_simp <;> rfl) ?_
      try simp only [Act.put, List.setIfInBounds_toArray, List.set_cons_zero, List.set_cons_succ]
      refine RunsThen.cons (hR.at rfl) (by intro wx hSw; go_simp <;> rfl) ?_
      try simp only [Act.put, List.setIfInBounds_toArray, List.set_cons_zero, List.set_cons_succ]
      refine RunsThen.nil (hK.out _ ?_)
      clear hK K
      refine carry_run2 (i := 18) (fuel := 5) hlen hns (by as_aux_lemma => (unfold IsOps at hR; subst hR; kernel_rfl)) (hR.at rfl) rfl (fun K hK => ?_)
      have hc : wb.cell? ⟨w.heap.size, 8, none⟩ = some (.int .i64 j.re) := (cell_of_row _ w.heap.size 8 _ 48 _ hC).trans rfl
      have hz := frozen_of_row _ w.heap.size 8 _ 48 hC
      go_simp
      have hC2 : (wb.setCells w.heap.size 8 [.int .i64 r.rr]).heap[w.heap.size]? = some (.cells ({ j with cu := r.rc, pi := r.rp, re := r.rr } : Ins).arr 48 (0, 0)) := heap_setCell_same _ _ _ _ _ _ hC
      have hS2 := hS.aside 8 [.int .i64 r.rr]
      refine hK.out _ _ hS2 ?_
      clear hC hS hc hz
      generalize hw : wb.setCells w.heap.size 8 [.int .i64 r.rr] = wd at hC2 hS2
      have hw2 : wb.setCell ⟨w.heap.size, 8, none⟩ (.int .i64 r.rr) = wd := hw
      rw [hw2]
      clear hw hw2
      have hC := hC2
      have hS := hS2
      clear hC2 hS2
      clear hK K
      try simp only [Act.put, List.setIfInBounds_toArray, List.set_cons_zero, List.set_cons_succ]
      refine takes_run2 [(19, .pointer (some ⟨w.heap.size, 0, none⟩)), (20, .pointer (some ⟨w.heap.size, 15, none⟩))] (fuel := 3) (d' := [20, 19, 18, 17, 16, 15, 14, 13, 12, 11, 10, 9, 8, 7, 6, 5, 4, 3, 2, 1, 0]) (by as_aux_lemma => kernel_rfl) hns (by as_aux_lemma => (unfold IsOps at hR; subst hR; kernel_rfl)) rfl (fun _ _ _ _ _ h => h) hS (fun K hK => ?_)
      refine RunsThen.cons (hR.at rfl) (by intro wx hSw; go_simp <;> rfl) ?_
      try simp only [Act.put, List.setIfInBounds_toArray, List.set_cons_zero, List.set_cons_succ]
      refine RunsThen.cons (hR.at rfl) (by intro wx hSw; go_simp <;> rfl) ?_
      try simp only [Act.put, List.setIfInBounds_toArray, List.set_cons_zero, List.set_cons_succ]
      refine RunsThen.nil (hK.out _ ?_)
      clear hK K
      refine carry_run2 (i := 21) (fuel := 2) hlen hns (by as_aux_lemma => (unfold IsOps at hR; subst hR; kernel_rfl)) (hR.at rfl) rfl (fun K hK => ?_)
      have hc : wd.cell? ⟨w.heap.size, 15, none⟩ = some (.string j.rs) := (cell_of_row _ w.heap.size 15 _ 48 _ hC).trans rfl
      have hz := frozen_of_row _ w.heap.size 15 _ 48 hC
      go_simp
      have hC2 : (wd.setCells w.heap.size 15 [.string r.rz]).heap[w.heap.size]? = some (.cells ({ j with cu := r.rc, pi := r.rp, re := r.rr, rs := r.rz } : Ins).arr 48 (0, 0)) := heap_setCell_same _ _ _ _ _ _ hC
      have hS2 := hS.aside 15 [.string r.rz]
      refine hK.out _ _ hS2 ?_
      clear hC hS hc hz
      generalize hw : wd.setCells w.heap.size 15 [.string r.rz] = we at hC2 hS2
      have hw2 : wd.setCell ⟨w.heap.size, 15, none⟩ (.string r.rz) = we := hw
      rw [hw2]
      clear hw hw2
      have hC := hC2
      have hS := hS2
      clear hC2 hS2
      clear hK K
      try simp only [Act.put, List.setIfInBounds_toArray, List.set_cons_zero, List.set_cons_succ]
      refine takes_run2 [(22, .pointer (some ⟨w.heap.size, 20, none⟩))] (fuel := 1) (d' := [22, 21, 20, 19, 18, 17, 16, 15, 14, 13, 12, 11, 10, 9, 8, 7, 6, 5, 4, 3, 2, 1, 0]) (by as_aux_lemma => kernel_rfl) hns (by as_aux_lemma => (unfold IsOps at hR; subst hR; kernel_rfl)) rfl (fun _ _ _ _ _ h => h) hS (fun K hK => ?_)
      refine RunsThen.cons (hR.at rfl) (by intro wx hSw; go_simp <;> rfl) ?_
      try simp only [Act.put, List.setIfInBounds_toArray, List.set_cons_zero, List.set_cons_succ]
      refine RunsThen.nil (hK.out _ ?_)
      clear hK K
      refine carry_run2 (i := 23) (fuel := 0) hlen hns (by as_aux_lemma => (unfold IsOps at hR; subst hR; kernel_rfl)) (hR.at rfl) rfl (fun K hK => ?_)
      refine wp_store_mid 42 (.tmp 99) (.tmp 90) rfl w.heap.size 20 #[.int .u64 r.gw, .int .i64 r.ge, .pointer none] rfl rfl (there_row (n := 3) hC (by rw [Ins.size]; decide)) i42 (by kernel_rfl) ?_
      have hC2 : (we.setCells w.heap.size 20 [.int .u64 r.gw, .int .i64 r.ge, .pointer none]).heap[w.heap.size]? = some (.cells (j.rep r).arr 48 (0, 0)) := heap_setCell_same _ _ _ _ _ _ (heap_setCell_same _ _ _ _ _ _ (heap_setCell_same _ _ _ _ _ _ hC))
      have hS2 := hS.aside 20 [.int .u64 r.gw, .int .i64 r.ge, .pointer none]
      refine hK.out _ _ hS2 ?_
      clear hC hS
      generalize World.setCells _ _ _ _ = wf at hC2 hS2 ⊢
      have hC := hC2
      have hS := hS2
      clear hC2 hS2
      clear hK K
      try simp only [Act.put, List.setIfInBounds_toArray, List.set_cons_zero, List.set_cons_succ]
      refine done_run hlen (by as_aux_lemma => kernel_rfl) ?_
      obtain ⟨hS1, ⟨Z, hZ, hS2⟩, hS3⟩ := hS
      go_wp2_with (first
        | (refine wpList_load_row rfl 48 (.tmp 3) rfl w.heap.size rfl 48 (j.rep r).arr (0, 0) _ hC Tryd.underlying48 rfl i48 ?_)
        | (refine wpList_store_row rfl 48 (.tmp 6) (.tmp 100) rfl (w.heap.size + 2) (j.rep r).arr rfl rfl 48 Z hS2 i48 hZ (ins_one _) ?_)
        | fail)
      have hrow := setRow_heap wf (w.heap.size + 2) Z (j.rep r).arr 48 _ hS2
      refine bodyPost_ret (v := .tuple #[.agg (j.rep r).arr, .slice ev n ec]) ?_ rfl ⟨j, ev, n, ec, rfl, hj, hj0, hkn, hn0, below_setRow hS3 _ (by omega) _⟩
      exact results_two rfl _ _ (w.heap.size + 2) 48 (j.rep r).arr (0, 0) _ _ rfl rfl hrow Tryd.underlying48 rfl i48
end Go.Proofs.Qxb6618727aDoor
