/-
  No cell of these rows narrows 'for every input' (looked for: loops, veiled, ifaces, maps, wideKeys, modest, calm, conditions, laid).
  DERIVED. THE GIVEN ROWS OF THIS SEAT. 4 by the template 'for every input the law returns true; each argument reads behind the call as it read before'; 0 by the template 'total and deterministic' (their statements: Qxb6618666aTotals.lean).
  GIVEN WITH THE SEED: the statements are not yours to turn. If you find one false, say at which input.
  Laid BY PROGRAM, IN A SANDBOX (cutbox-rows.mjs): the forced cells as the released guide's own fill.sh prints them over the translation 219de1888dde7f0a… (all of the seat's roots in one cut). By AI agents, Wed Nov 11 2026. No macro, syntax, notation, axiom, sorry.
-/
import Derived.Test.Qxb6618666aChecked
import GoSem.Claim
import GoSem.ClaimJoined
import GoSem.ClaimMapViews
import Derived.JoinedTies
import Derived.KernelRfl
namespace Go.Proofs.Qxb6618666a
/- THE CELL 'sum', in the pinned program and in every row, IS THE sha256 OF THE DUMP (.gsa) THAT Qxb6618666aProg.lean LOADS. Nothing in Lean hashes anything: it is a label: what it is worth is what the hold of that sum in a sandbox is worth. -/
noncomputable def Try.pinned : Pinned := { name := "qxb6618666a", sum := "219de1888dde7f0abbc6ebd144933f6e405104c2ab3d5822d3b8780eea8df94d", checked := Try.checked }
namespace Rows
def none {H : Type} : Left H := { results := [], args := [] }

/-- 'zzlaws_internal_store_b1.FnStoreWidenLagIsHullOfTimestamps': WHATEVER THE INPUT: true; the input reads as it did. -/
def fnStoreWidenLagIsHullOfTimestampsSpec : ChangeSpec := { name := "fnStoreWidenLagIsHullOfTimestamps", fn := fun _ => fun
  | [d1, d2, d3, d4, d5] => { results := [.lit (.bool true)], args := [d1, d2, d3, d4, d5] }
  | _ => none }
def fnStoreWidenLagIsHullOfTimestampsRow : OpenClaim := { program := "qxb6618666a", sum := "219de1888dde7f0abbc6ebd144933f6e405104c2ab3d5822d3b8780eea8df94d", func := "example.com/synodic/synodic/zzlaws_internal_store_b1.FnStoreWidenLagIsHullOfTimestamps", spec := "fnStoreWidenLagIsHullOfTimestamps", plainKeys := false, apart := false }
def FnStoreWidenLagIsHullOfTimestampsSaid : Prop := fnStoreWidenLagIsHullOfTimestampsRow.holds Try.pinned (OpenSpec.ofChange fnStoreWidenLagIsHullOfTimestampsSpec)

/-- ITS FALSE NEIGHBOUR: 'it returns false'. Refute it at one input. -/
def fnStoreWidenLagIsHullOfTimestampsWrong : ChangeSpec := { name := "fnStoreWidenLagIsHullOfTimestamps", fn := fun _ => fun
  | [d1, d2, d3, d4, d5] => { results := [.lit (.bool false)], args := [d1, d2, d3, d4, d5] }
  | _ => none }
def FnStoreWidenLagIsHullOfTimestampsWrongFalsely : Prop := fnStoreWidenLagIsHullOfTimestampsRow.holds Try.pinned (OpenSpec.ofChange fnStoreWidenLagIsHullOfTimestampsWrong)

/-- 'zzlaws_internal_store_b1.FnAppendHeaderIsMagicThenVersion': WHATEVER THE INPUT: true; the input reads as it did. -/
def fnAppendHeaderIsMagicThenVersionSpec : ChangeSpec := { name := "fnAppendHeaderIsMagicThenVersion", fn := fun _ => fun
  | [d1, d2] => { results := [.lit (.bool true)], args := [d1, d2] }
  | _ => none }
def fnAppendHeaderIsMagicThenVersionRow : OpenClaim := { program := "qxb6618666a", sum := "219de1888dde7f0abbc6ebd144933f6e405104c2ab3d5822d3b8780eea8df94d", func := "example.com/synodic/synodic/zzlaws_internal_store_b1.FnAppendHeaderIsMagicThenVersion", spec := "fnAppendHeaderIsMagicThenVersion", named := ["encoding/binary.BigEndian"], plainKeys := false, apart := false }
def FnAppendHeaderIsMagicThenVersionSaid : Prop := fnAppendHeaderIsMagicThenVersionRow.holds Try.pinned (OpenSpec.ofChange fnAppendHeaderIsMagicThenVersionSpec)

/-- ITS FALSE NEIGHBOUR: 'it returns false'. Refute it at one input. -/
def fnAppendHeaderIsMagicThenVersionWrong : ChangeSpec := { name := "fnAppendHeaderIsMagicThenVersion", fn := fun _ => fun
  | [d1, d2] => { results := [.lit (.bool false)], args := [d1, d2] }
  | _ => none }
def FnAppendHeaderIsMagicThenVersionWrongFalsely : Prop := fnAppendHeaderIsMagicThenVersionRow.holds Try.pinned (OpenSpec.ofChange fnAppendHeaderIsMagicThenVersionWrong)

/-- 'zzlaws_internal_store_b1.FnAppendKeyRecordDecodesWhateverPrecedes': WHATEVER THE INPUT: true; the input reads as it did. -/
def fnAppendKeyRecordDecodesWhateverPrecedesSpec : ChangeSpec := { name := "fnAppendKeyRecordDecodesWhateverPrecedes", fn := fun _ => fun
  | [d1, d2, d3, d4, d5] => { results := [.lit (.bool true)], args := [d1, d2, d3, d4, d5] }
  | _ => none }
def fnAppendKeyRecordDecodesWhateverPrecedesRow : OpenClaim := { program := "qxb6618666a", sum := "219de1888dde7f0abbc6ebd144933f6e405104c2ab3d5822d3b8780eea8df94d", func := "example.com/synodic/synodic/zzlaws_internal_store_b1.FnAppendKeyRecordDecodesWhateverPrecedes", spec := "fnAppendKeyRecordDecodesWhateverPrecedes", plainKeys := false, apart := false }
def FnAppendKeyRecordDecodesWhateverPrecedesSaid : Prop := fnAppendKeyRecordDecodesWhateverPrecedesRow.holds Try.pinned (OpenSpec.ofChange fnAppendKeyRecordDecodesWhateverPrecedesSpec)

/-- ITS FALSE NEIGHBOUR: 'it returns false'. Refute it at one input. -/
def fnAppendKeyRecordDecodesWhateverPrecedesWrong : ChangeSpec := { name := "fnAppendKeyRecordDecodesWhateverPrecedes", fn := fun _ => fun
  | [d1, d2, d3, d4, d5] => { results := [.lit (.bool false)], args := [d1, d2, d3, d4, d5] }
  | _ => none }
def FnAppendKeyRecordDecodesWhateverPrecedesWrongFalsely : Prop := fnAppendKeyRecordDecodesWhateverPrecedesRow.holds Try.pinned (OpenSpec.ofChange fnAppendKeyRecordDecodesWhateverPrecedesWrong)

/-- 'zzlaws_internal_store_b1.FnAppendKeyTwoRecordsReadBackInOrder': WHATEVER THE INPUT: true; the input reads as it did. -/
def fnAppendKeyTwoRecordsReadBackInOrderSpec : ChangeSpec := { name := "fnAppendKeyTwoRecordsReadBackInOrder", fn := fun _ => fun
  | [d1, d2, d3, d4, d5, d6, d7, d8, d9] => { results := [.lit (.bool true)], args := [d1, d2, d3, d4, d5, d6, d7, d8, d9] }
  | _ => none }
def fnAppendKeyTwoRecordsReadBackInOrderRow : OpenClaim := { program := "qxb6618666a", sum := "219de1888dde7f0abbc6ebd144933f6e405104c2ab3d5822d3b8780eea8df94d", func := "example.com/synodic/synodic/zzlaws_internal_store_b1.FnAppendKeyTwoRecordsReadBackInOrder", spec := "fnAppendKeyTwoRecordsReadBackInOrder", plainKeys := false, apart := false }
def FnAppendKeyTwoRecordsReadBackInOrderSaid : Prop := fnAppendKeyTwoRecordsReadBackInOrderRow.holds Try.pinned (OpenSpec.ofChange fnAppendKeyTwoRecordsReadBackInOrderSpec)

/-- ITS FALSE NEIGHBOUR: 'it returns false'. Refute it at one input. -/
def fnAppendKeyTwoRecordsReadBackInOrderWrong : ChangeSpec := { name := "fnAppendKeyTwoRecordsReadBackInOrder", fn := fun _ => fun
  | [d1, d2, d3, d4, d5, d6, d7, d8, d9] => { results := [.lit (.bool false)], args := [d1, d2, d3, d4, d5, d6, d7, d8, d9] }
  | _ => none }
def FnAppendKeyTwoRecordsReadBackInOrderWrongFalsely : Prop := fnAppendKeyTwoRecordsReadBackInOrderRow.holds Try.pinned (OpenSpec.ofChange fnAppendKeyTwoRecordsReadBackInOrderWrong)

end Rows
end Go.Proofs.Qxb6618666a
