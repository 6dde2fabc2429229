/-
  MESSAGES IN MEMORY: what a slice of messages (the law's or the library's: their cells are the same) holds, as data; which cells it lies in (a foot); that it stays where those cells stay.
-/
import Derived.Test.Qxb6618675aLocks
import Derived.WalkKit
import Derived.WalkSpells
import Derived.BigRegion
import Derived.BigQuiet
import Derived.Deep.QuietTactic
import Derived.Below
import Derived.OwnWalk
import Derived.Laws.Rows
import Derived.Laws.Tables
import Derived.Deep.MidRow
import Derived.Conc.MuLone
namespace Go.Proofs.Qxb6618675a
open Go.RowKit

theorem hidden {p : Prop} (h : p) : Hid p := h
abbrev Foot := Nat → Nat → Prop
/-- Whatever lies below block N. -/
def Old (N : Nat) : Foot := fun b _ => b < N
def SameOn (U : Foot) (w w' : World) : Prop := ∀ b o, U b o → w'.cell? ⟨b, o, none⟩ = w.cell? ⟨b, o, none⟩
theorem SameOn.old {N : Nat} {w w' : World} (hb : Below N w w') : SameOn (Old N) w w' := fun b o h => hb.cell (p := ⟨b, o, none⟩) h
theorem SameOn.refl (U : Foot) (w : World) : SameOn U w w := fun _ _ _ => rfl
theorem SameOn.trans {U : Foot} {a b c : World} (h : SameOn U a b) (k : SameOn U b c) : SameOn U a c := fun x o hu => (k x o hu).trans (h x o hu)
def Sub (U U' : Foot) : Prop := ∀ b o, U b o → U' b o
theorem Sub.refl (U : Foot) : Sub U U := fun _ _ h => h
theorem Sub.old {N M : Nat} (h : N ≤ M) : Sub (Old N) (Old M) := fun _ _ k => Nat.lt_of_lt_of_le k h

/-- What was laid from block M on, below block N. -/
def Fresh (M N : Nat) : Foot := fun b _ => M ≤ b ∧ b < N
/-- Whatever lies from block M on and below block N, but for block g. -/
def But (M g N : Nat) : Foot := fun b _ => M ≤ b ∧ b < N ∧ b ≠ g
theorem Sub.fresh_old {M N : Nat} : Sub (Fresh M N) (Old N) := fun _ _ h => h.2
theorem Sub.fresh {M M' N N' : Nat} (h : M' ≤ M) (h' : N ≤ N') : Sub (Fresh M N) (Fresh M' N') := fun _ _ k => ⟨Nat.le_trans h k.1, Nat.lt_of_lt_of_le k.2 h'⟩
theorem Sub.fresh_but {K M N g : Nat} (h : g < M) (h' : K ≤ M) : Sub (Fresh M N) (But K g N) := fun _ _ k => ⟨Nat.le_trans h' k.1, k.2, by have := k.1; omega⟩
theorem Sub.but {K g N M : Nat} (h : N ≤ M) : Sub (But K g N) (But K g M) := fun _ _ k => ⟨k.1, Nat.lt_of_lt_of_le k.2.1 h, k.2.2⟩
theorem Sub.but_fresh {K g N : Nat} : Sub (But K g N) (Fresh K N) := fun _ _ h => ⟨h.1, h.2.1⟩
structure CallD where
  id : ByteArray
  name : ByteArray
  args : Option (List Int)
structure ResD where
  cid : ByteArray
  name : ByteArray
  con : ByteArray
  err : Bool
structure MsgD where
  role : ByteArray
  text : ByteArray
  ref : ByteArray
  calls : Option (List CallD)
  res : Option (List ResD)

/-- A slice of n elements: nil where o is none; else its elements lie as 'at' says. -/
def IsSl {α : Type} (at' : Nat → Nat → List α → Prop) (v : Value) (o : Option (List α)) : Prop :=
  match o with
  | none => v = .slice none 0 0
  | some xs => ∃ a cap, v = .slice (some a) xs.length cap ∧ (xs = [] ∨ ∃ b off, a = ⟨b, off, none⟩ ∧ at' b off xs)
theorem IsSl.imp {α : Type} {p q : Nat → Nat → List α → Prop} {v : Value} {o : Option (List α)} (h : IsSl p v o) (hpq : ∀ b off xs, o = some xs → p b off xs → q b off xs) : IsSl q v o := by
  cases o with
  | none => exact h
  | some xs =>
    obtain ⟨a, cap, rfl, h⟩ := h
    exact ⟨a, cap, rfl, h.imp id fun ⟨b, off, e, h⟩ => ⟨b, off, e, hpq b off xs rfl h⟩⟩

def ArgsAt (w : World) (U : Foot) (b off : Nat) (bs : List Int) : Prop := ∀ j x, bs[j]? = some x → U b (off + j) ∧ w.cell? ⟨b, off + j, none⟩ = some (.int .u8 x)
def IsArgs (w : World) (U : Foot) (v : Value) (o : Option (List Int)) : Prop := IsSl (ArgsAt w U) v o
def CallAt (w : World) (U : Foot) (b off : Nat) (c : CallD) : Prop :=
  (U b off ∧ U b (off + 1) ∧ U b (off + 2)) ∧ w.cell? ⟨b, off, none⟩ = some (.string c.id) ∧ w.cell? ⟨b, off + 1, none⟩ = some (.string c.name) ∧ ∃ va, w.cell? ⟨b, off + 2, none⟩ = some va ∧ IsArgs w U va c.args
def CallsAt (w : World) (U : Foot) (b off : Nat) (cs : List CallD) : Prop := ∀ j c, cs[j]? = some c → CallAt w U b (off + j * 3) c
def IsCalls (w : World) (U : Foot) (v : Value) (o : Option (List CallD)) : Prop := IsSl (CallsAt w U) v o
def ResAt (w : World) (U : Foot) (b off : Nat) (r : ResD) : Prop :=
  (U b off ∧ U b (off + 1) ∧ U b (off + 2) ∧ U b (off + 3)) ∧ w.cell? ⟨b, off, none⟩ = some (.string r.cid) ∧ w.cell? ⟨b, off + 1, none⟩ = some (.string r.name) ∧ w.cell? ⟨b, off + 2, none⟩ = some (.string r.con) ∧ w.cell? ⟨b, off + 3, none⟩ = some (.bool r.err)
def RessAt (w : World) (U : Foot) (b off : Nat) (rs : List ResD) : Prop := ∀ j r, rs[j]? = some r → ResAt w U b (off + j * 4) r
def IsRes (w : World) (U : Foot) (v : Value) (o : Option (List ResD)) : Prop := IsSl (RessAt w U) v o
/-- The two slices of a message. -/
def MsgSl (w : World) (U : Foot) (vc vr : Value) (d : MsgD) : Prop := IsCalls w U vc d.calls ∧ IsRes w U vr d.res
/-- A message in memory. -/
def MsgAt (w : World) (U V : Foot) (b off : Nat) (d : MsgD) : Prop :=
  (U b off ∧ U b (off + 1) ∧ U b (off + 2) ∧ U b (off + 3) ∧ U b (off + 4)) ∧ w.cell? ⟨b, off, none⟩ = some (.string d.role) ∧ w.cell? ⟨b, off + 1, none⟩ = some (.string d.text) ∧ w.cell? ⟨b, off + 2, none⟩ = some (.string d.ref) ∧
    ∃ vc vr, w.cell? ⟨b, off + 3, none⟩ = some vc ∧ w.cell? ⟨b, off + 4, none⟩ = some vr ∧ MsgSl w V vc vr d
def MsgsAt (w : World) (U V : Foot) (b off : Nat) (ds : List MsgD) : Prop := ∀ j d, ds[j]? = some d → MsgAt w U V b (off + j * 5) d
/-- A slice of messages, nil or not. -/
def IsMsgs (w : World) (U V : Foot) (v : Value) (ds : List MsgD) : Prop := ∃ a cap, v = .slice a ds.length cap ∧ (ds = [] ∨ ∃ b off, a = some ⟨b, off, none⟩ ∧ MsgsAt w U V b off ds) ∧ (a = none → cap = 0) ∧ ds.length ≤ cap

section
variable {w w' : World} {U U' V V' : Foot} {v vc vr : Value}
theorem IsArgs.go {o : Option (List Int)} (h : IsArgs w U v o) (hU : Sub U U') (hs : SameOn U w w') : IsArgs w' U' v o :=
  IsSl.imp h fun _ _ _ _ h j x hj => ⟨hU _ _ (h j x hj).1, (hs _ _ (h j x hj).1).trans (h j x hj).2⟩
theorem CallAt.go {b off : Nat} {c : CallD} (h : CallAt w U b off c) (hU : Sub U U') (hs : SameOn U w w') : CallAt w' U' b off c := by
  obtain ⟨⟨u0, u1, u2⟩, c0, c1, va, c2, ha⟩ := h
  exact ⟨⟨hU _ _ u0, hU _ _ u1, hU _ _ u2⟩, (hs _ _ u0).trans c0, (hs _ _ u1).trans c1, va, (hs _ _ u2).trans c2, ha.go hU hs⟩
theorem IsCalls.go {o : Option (List CallD)} (h : IsCalls w U v o) (hU : Sub U U') (hs : SameOn U w w') : IsCalls w' U' v o :=
  IsSl.imp h fun _ _ _ _ h j c hj => (h j c hj).go hU hs
theorem ResAt.go {b off : Nat} {r : ResD} (h : ResAt w U b off r) (hU : Sub U U') (hs : SameOn U w w') : ResAt w' U' b off r := by
  obtain ⟨⟨u0, u1, u2, u3⟩, c0, c1, c2, c3⟩ := h
  exact ⟨⟨hU _ _ u0, hU _ _ u1, hU _ _ u2, hU _ _ u3⟩, (hs _ _ u0).trans c0, (hs _ _ u1).trans c1, (hs _ _ u2).trans c2, (hs _ _ u3).trans c3⟩
theorem IsRes.go {o : Option (List ResD)} (h : IsRes w U v o) (hU : Sub U U') (hs : SameOn U w w') : IsRes w' U' v o :=
  IsSl.imp h fun _ _ _ _ h j c hj => (h j c hj).go hU hs
theorem MsgSl.go {d : MsgD} (h : MsgSl w U vc vr d) (hU : Sub U U') (hs : SameOn U w w') : MsgSl w' U' vc vr d := ⟨h.1.go hU hs, h.2.go hU hs⟩
theorem MsgAt.go {b off : Nat} {d : MsgD} (h : MsgAt w U V b off d) (hU : Sub U U') (hs : SameOn U w w') (hV : Sub V V') (hs' : SameOn V w w') : MsgAt w' U' V' b off d := by
  obtain ⟨⟨u0, u1, u2, u3, u4⟩, c0, c1, c2, vc, vr, c3, c4, hm⟩ := h
  exact ⟨⟨hU _ _ u0, hU _ _ u1, hU _ _ u2, hU _ _ u3, hU _ _ u4⟩, (hs _ _ u0).trans c0, (hs _ _ u1).trans c1, (hs _ _ u2).trans c2, vc, vr, (hs _ _ u3).trans c3, (hs _ _ u4).trans c4, hm.go hV hs'⟩
theorem IsMsgs.go {ds : List MsgD} (h : IsMsgs w U V v ds) (hU : Sub U U') (hs : SameOn U w w') (hV : Sub V V') (hs' : SameOn V w w') : IsMsgs w' U' V' v ds := by
  obtain ⟨a, cap, rfl, h, h2⟩ := h
  exact ⟨a, cap, rfl, h.imp id fun ⟨b, off, e, h⟩ => ⟨b, off, e, fun j d hj => (h j d hj).go hU hs hV hs'⟩, h2⟩
end
/-- All of it below block N; later. -/
theorem IsArgs.now {w w' : World} {v : Value} {o : Option (List Int)} (h : IsArgs w (Old w.heap.size) v o) (hb : Below w.heap.size w w') : IsArgs w' (Old w'.heap.size) v o := h.go (Sub.old hb.size) (SameOn.old hb)
theorem IsCalls.now {w w' : World} {v : Value} {o : Option (List CallD)} (h : IsCalls w (Old w.heap.size) v o) (hb : Below w.heap.size w w') : IsCalls w' (Old w'.heap.size) v o := h.go (Sub.old hb.size) (SameOn.old hb)
theorem IsRes.now {w w' : World} {v : Value} {o : Option (List ResD)} (h : IsRes w (Old w.heap.size) v o) (hb : Below w.heap.size w w') : IsRes w' (Old w'.heap.size) v o := h.go (Sub.old hb.size) (SameOn.old hb)
theorem MsgSl.now {w w' : World} {vc vr : Value} {d : MsgD} (h : MsgSl w (Old w.heap.size) vc vr d) (hb : Below w.heap.size w w') : MsgSl w' (Old w'.heap.size) vc vr d := h.go (Sub.old hb.size) (SameOn.old hb)
abbrev IsOld (w : World) (v : Value) (ds : List MsgD) : Prop := IsMsgs w (Old w.heap.size) (Old w.heap.size) v ds
theorem IsMsgs.now {w w' : World} {v : Value} {ds : List MsgD} (h : IsOld w v ds) (hb : Below w.heap.size w w') : IsOld w' v ds := h.go (Sub.old hb.size) (SameOn.old hb) (Sub.old hb.size) (SameOn.old hb)

def Lim : Nat := 1048576
def ArgsOk (o : Option (List Int)) : Prop := ∀ bs, o = some bs → bs.length ≤ 1048576
def CallOk (c : CallD) : Prop := c.id.size ≤ 1048576 ∧ c.name.size ≤ 1048576 ∧ ArgsOk c.args
def ResOk (r : ResD) : Prop := r.cid.size ≤ 1048576 ∧ r.con.size ≤ 1048576
def CallsOk (o : Option (List CallD)) : Prop := ∀ cs, o = some cs → cs.length ≤ 1048576 ∧ ∀ c ∈ cs, CallOk c
def RessOk (o : Option (List ResD)) : Prop := ∀ rs, o = some rs → rs.length ≤ 1048576 ∧ ∀ r ∈ rs, ResOk r
def MsgOk (d : MsgD) : Prop := CallsOk d.calls ∧ RessOk d.res
end Go.Proofs.Qxb6618675a
