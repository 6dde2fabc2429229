/-
  No cell of these rows narrows 'for every input' (looked for: loops, veiled, ifaces, maps, wideKeys, modest, calm, conditions, laid).
  DERIVED. THE GIVEN ROWS OF THIS SEAT. 3 by the template 'for every input the law returns true; each argument reads behind the call as it read before'; 0 by the template 'total and deterministic' (their statements: Qxb6618675aTotals.lean).
  GIVEN WITH THE SEED: the statements are not yours to turn. If you find one false, say at which input.
  Laid BY PROGRAM, IN A SANDBOX (cutbox-rows.mjs): the forced cells as the released guide's own fill.sh prints them over the translation bd0b4980a65a7675… (all of the seat's roots in one cut). By AI agents, Wed Nov 11 2026. No macro, syntax, notation, axiom, sorry.
-/
import Derived.Test.Qxb6618675aChecked
import GoSem.Claim
import GoSem.ClaimJoined
import GoSem.ClaimMapViews
import Derived.JoinedTies
import Derived.KernelRfl
namespace Go.Proofs.Qxb6618675a
/- THE CELL 'sum', in the pinned program and in every row, IS THE sha256 OF THE DUMP (.gsa) THAT Qxb6618675aProg.lean LOADS. Nothing in Lean hashes anything: it is a label: what it is worth is what the hold of that sum in a sandbox is worth. -/
noncomputable def Try.pinned : Pinned := { name := "qxb6618675a", sum := "bd0b4980a65a7675e0a09abd911ee4bb2b1773303025da76773a1b6713c393ad", checked := Try.checked }
namespace Rows
def none {H : Type} : Left H := { results := [], args := [] }

/-- 'zzlaws_root_b1.FnTranscriptAtGivesOwnCopy': WHATEVER THE INPUT: true; the input reads as it did. -/
def fnTranscriptAtGivesOwnCopySpec : ChangeSpec := { name := "fnTranscriptAtGivesOwnCopy", fn := fun _ => fun
  | [d1, d2] => { results := [.lit (.bool true)], args := [d1, d2] }
  | _ => none }
def fnTranscriptAtGivesOwnCopyRow : OpenClaim := { program := "qxb6618675a", sum := "bd0b4980a65a7675e0a09abd911ee4bb2b1773303025da76773a1b6713c393ad", func := "example.com/bounded-loop/bounded-loop/zzlaws_root_b1.FnTranscriptAtGivesOwnCopy", spec := "fnTranscriptAtGivesOwnCopy", inPlace := ["(*internal/sync.Mutex).Lock", "internal/race.Disable", "sync/atomic.CompareAndSwapInt32", "internal/race.Enable", "internal/race.Acquire", "(*internal/sync.Mutex).lockSlow", "internal/sync.runtime_canSpin", "internal/sync.runtime_doSpin", "internal/sync.throw", "internal/sync.runtime_nanotime", "internal/sync.runtime_SemacquireMutex", "sync/atomic.AddInt32", "(*internal/sync.Mutex).Unlock", "internal/race.ReleaseMerge", "(*internal/sync.Mutex).unlockSlow", "internal/sync.fatal", "internal/sync.runtime_Semrelease"], apart := false }
def FnTranscriptAtGivesOwnCopySaid : Prop := fnTranscriptAtGivesOwnCopyRow.holds Try.pinned (OpenSpec.ofChange fnTranscriptAtGivesOwnCopySpec)

/-- ITS FALSE NEIGHBOUR: 'it returns false'. Refute it at one input. -/
def fnTranscriptAtGivesOwnCopyWrong : ChangeSpec := { name := "fnTranscriptAtGivesOwnCopy", fn := fun _ => fun
  | [d1, d2] => { results := [.lit (.bool false)], args := [d1, d2] }
  | _ => none }
def FnTranscriptAtGivesOwnCopyWrongFalsely : Prop := fnTranscriptAtGivesOwnCopyRow.holds Try.pinned (OpenSpec.ofChange fnTranscriptAtGivesOwnCopyWrong)

/-- 'zzlaws_root_b1.FnTranscriptLendAgreesWithAt': WHATEVER THE INPUT: true; the input reads as it did. -/
def fnTranscriptLendAgreesWithAtSpec : ChangeSpec := { name := "fnTranscriptLendAgreesWithAt", fn := fun _ => fun
  | [d1, d2, d3] => { results := [.lit (.bool true)], args := [d1, d2, d3] }
  | _ => none }
def fnTranscriptLendAgreesWithAtRow : OpenClaim := { program := "qxb6618675a", sum := "bd0b4980a65a7675e0a09abd911ee4bb2b1773303025da76773a1b6713c393ad", func := "example.com/bounded-loop/bounded-loop/zzlaws_root_b1.FnTranscriptLendAgreesWithAt", spec := "fnTranscriptLendAgreesWithAt", inPlace := ["(*internal/sync.Mutex).Lock", "internal/race.Disable", "sync/atomic.CompareAndSwapInt32", "internal/race.Enable", "internal/race.Acquire", "(*internal/sync.Mutex).lockSlow", "internal/sync.runtime_canSpin", "internal/sync.runtime_doSpin", "internal/sync.throw", "internal/sync.runtime_nanotime", "internal/sync.runtime_SemacquireMutex", "sync/atomic.AddInt32", "(*internal/sync.Mutex).Unlock", "internal/race.ReleaseMerge", "(*internal/sync.Mutex).unlockSlow", "internal/sync.fatal", "internal/sync.runtime_Semrelease"], apart := false }
def FnTranscriptLendAgreesWithAtSaid : Prop := fnTranscriptLendAgreesWithAtRow.holds Try.pinned (OpenSpec.ofChange fnTranscriptLendAgreesWithAtSpec)

/-- ITS FALSE NEIGHBOUR: 'it returns false'. Refute it at one input. -/
def fnTranscriptLendAgreesWithAtWrong : ChangeSpec := { name := "fnTranscriptLendAgreesWithAt", fn := fun _ => fun
  | [d1, d2, d3] => { results := [.lit (.bool false)], args := [d1, d2, d3] }
  | _ => none }
def FnTranscriptLendAgreesWithAtWrongFalsely : Prop := fnTranscriptLendAgreesWithAtRow.holds Try.pinned (OpenSpec.ofChange fnTranscriptLendAgreesWithAtWrong)

/-- 'zzlaws_root_b1.FnTranscriptLendJoinsAtAnyCut': WHATEVER THE INPUT: true; the input reads as it did. -/
def fnTranscriptLendJoinsAtAnyCutSpec : ChangeSpec := { name := "fnTranscriptLendJoinsAtAnyCut", fn := fun _ => fun
  | [d1, d2, d3, d4] => { results := [.lit (.bool true)], args := [d1, d2, d3, d4] }
  | _ => none }
def fnTranscriptLendJoinsAtAnyCutRow : OpenClaim := { program := "qxb6618675a", sum := "bd0b4980a65a7675e0a09abd911ee4bb2b1773303025da76773a1b6713c393ad", func := "example.com/bounded-loop/bounded-loop/zzlaws_root_b1.FnTranscriptLendJoinsAtAnyCut", spec := "fnTranscriptLendJoinsAtAnyCut", inPlace := ["(*internal/sync.Mutex).Lock", "internal/race.Disable", "sync/atomic.CompareAndSwapInt32", "internal/race.Enable", "internal/race.Acquire", "(*internal/sync.Mutex).lockSlow", "internal/sync.runtime_canSpin", "internal/sync.runtime_doSpin", "internal/sync.throw", "internal/sync.runtime_nanotime", "internal/sync.runtime_SemacquireMutex", "sync/atomic.AddInt32", "(*internal/sync.Mutex).Unlock", "internal/race.ReleaseMerge", "(*internal/sync.Mutex).unlockSlow", "internal/sync.fatal", "internal/sync.runtime_Semrelease"], apart := false }
def FnTranscriptLendJoinsAtAnyCutSaid : Prop := fnTranscriptLendJoinsAtAnyCutRow.holds Try.pinned (OpenSpec.ofChange fnTranscriptLendJoinsAtAnyCutSpec)

/-- ITS FALSE NEIGHBOUR: 'it returns false'. Refute it at one input. -/
def fnTranscriptLendJoinsAtAnyCutWrong : ChangeSpec := { name := "fnTranscriptLendJoinsAtAnyCut", fn := fun _ => fun
  | [d1, d2, d3, d4] => { results := [.lit (.bool false)], args := [d1, d2, d3, d4] }
  | _ => none }
def FnTranscriptLendJoinsAtAnyCutWrongFalsely : Prop := fnTranscriptLendJoinsAtAnyCutRow.holds Try.pinned (OpenSpec.ofChange fnTranscriptLendJoinsAtAnyCutWrong)

end Rows
end Go.Proofs.Qxb6618675a
