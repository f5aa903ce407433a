/-
  No cell of these rows narrows 'for every input' (looked for: loops, veiled, ifaces, maps, wideKeys, modest, calm, conditions, laid).
  DERIVED. THE GIVEN ROWS OF THIS SEAT. 4 by the template 'for every input the law returns true; each argument reads behind the call as it read before'; 0 by the template 'total and deterministic' (their statements: Qxb6604790aTotals.lean).
  GIVEN WITH THE SEED: the statements are not yours to turn. If you find one false, say at which input.
  Laid BY PROGRAM, IN A SANDBOX (cutbox-rows.mjs): the forced cells as the released guide's own fill.sh prints them over the translation 9562c8c4ac6b4177… (all of the seat's roots in one cut). By AI agents, Wed Nov 11 2026. No macro, syntax, notation, axiom, sorry.
-/
import Derived.Test.Qxb6604790aChecked
import GoSem.Claim
import GoSem.ClaimJoined
import GoSem.ClaimMapViews
import Derived.JoinedTies
import Derived.KernelRfl
namespace Go.Proofs.Qxb6604790a
/- THE CELL 'sum', in the pinned program and in every row, IS THE sha256 OF THE DUMP (.gsa) THAT Qxb6604790aProg.lean LOADS. Nothing in Lean hashes anything: it is a label: what it is worth is what the hold of that sum in a sandbox is worth. -/
noncomputable def Try.pinned : Pinned := { name := "qxb6604790a", sum := "9562c8c4ac6b41772facdba2e11d36a40270ea97ee7acdbc46d2cb542f8ab2fc", checked := Try.checked }
namespace Rows
def none {H : Type} : Left H := { results := [], args := [] }

/-- 'zzlaws_internal_lock_b1.FnLocksEntryExistsOnlyDropsTheNextEntryWait': WHATEVER THE INPUT: true; the input reads as it did. -/
def fnLocksEntryExistsOnlyDropsTheNextEntryWaitSpec : ChangeSpec := { name := "fnLocksEntryExistsOnlyDropsTheNextEntryWait", fn := fun _ => fun
  | [d1, d2] => { results := [.lit (.bool true)], args := [d1, d2] }
  | _ => none }
def fnLocksEntryExistsOnlyDropsTheNextEntryWaitRow : OpenClaim := { program := "qxb6604790a", sum := "9562c8c4ac6b41772facdba2e11d36a40270ea97ee7acdbc46d2cb542f8ab2fc", func := "example.com/keyfence/keyfence/zzlaws_internal_lock_b1.FnLocksEntryExistsOnlyDropsTheNextEntryWait", spec := "fnLocksEntryExistsOnlyDropsTheNextEntryWait", apart := false }
def FnLocksEntryExistsOnlyDropsTheNextEntryWaitSaid : Prop := fnLocksEntryExistsOnlyDropsTheNextEntryWaitRow.holds Try.pinned (OpenSpec.ofChange fnLocksEntryExistsOnlyDropsTheNextEntryWaitSpec)

/-- ITS FALSE NEIGHBOUR: 'it returns false'. Refute it at one input. -/
def fnLocksEntryExistsOnlyDropsTheNextEntryWaitWrong : ChangeSpec := { name := "fnLocksEntryExistsOnlyDropsTheNextEntryWait", fn := fun _ => fun
  | [d1, d2] => { results := [.lit (.bool false)], args := [d1, d2] }
  | _ => none }
def FnLocksEntryExistsOnlyDropsTheNextEntryWaitWrongFalsely : Prop := fnLocksEntryExistsOnlyDropsTheNextEntryWaitRow.holds Try.pinned (OpenSpec.ofChange fnLocksEntryExistsOnlyDropsTheNextEntryWaitWrong)

/-- 'zzlaws_internal_lock_b1.FnLocksOrderedAndOnlyKeptLocksAreExclusiveRecordLocks': WHATEVER THE INPUT: true; the input reads as it did. -/
def fnLocksOrderedAndOnlyKeptLocksAreExclusiveRecordLocksSpec : ChangeSpec := { name := "fnLocksOrderedAndOnlyKeptLocksAreExclusiveRecordLocks", fn := fun _ => fun
  | [d1, d2, d3] => { results := [.lit (.bool true)], args := [d1, d2, d3] }
  | _ => none }
def fnLocksOrderedAndOnlyKeptLocksAreExclusiveRecordLocksRow : OpenClaim := { program := "qxb6604790a", sum := "9562c8c4ac6b41772facdba2e11d36a40270ea97ee7acdbc46d2cb542f8ab2fc", func := "example.com/keyfence/keyfence/zzlaws_internal_lock_b1.FnLocksOrderedAndOnlyKeptLocksAreExclusiveRecordLocks", spec := "fnLocksOrderedAndOnlyKeptLocksAreExclusiveRecordLocks", apart := false }
def FnLocksOrderedAndOnlyKeptLocksAreExclusiveRecordLocksSaid : Prop := fnLocksOrderedAndOnlyKeptLocksAreExclusiveRecordLocksRow.holds Try.pinned (OpenSpec.ofChange fnLocksOrderedAndOnlyKeptLocksAreExclusiveRecordLocksSpec)

/-- ITS FALSE NEIGHBOUR: 'it returns false'. Refute it at one input. -/
def fnLocksOrderedAndOnlyKeptLocksAreExclusiveRecordLocksWrong : ChangeSpec := { name := "fnLocksOrderedAndOnlyKeptLocksAreExclusiveRecordLocks", fn := fun _ => fun
  | [d1, d2, d3] => { results := [.lit (.bool false)], args := [d1, d2, d3] }
  | _ => none }
def FnLocksOrderedAndOnlyKeptLocksAreExclusiveRecordLocksWrongFalsely : Prop := fnLocksOrderedAndOnlyKeptLocksAreExclusiveRecordLocksRow.holds Try.pinned (OpenSpec.ofChange fnLocksOrderedAndOnlyKeptLocksAreExclusiveRecordLocksWrong)

/-- 'zzlaws_internal_lock_b1.FnRemoveLeavesTheTableAsIfTheObjectWereNeverPut': WHATEVER THE INPUT: true; the input reads as it did. -/
def fnRemoveLeavesTheTableAsIfTheObjectWereNeverPutSpec : ChangeSpec := { name := "fnRemoveLeavesTheTableAsIfTheObjectWereNeverPut", fn := fun _ => fun
  | [d1, d2, d3, d4, d5, d6, d7] => { results := [.lit (.bool true)], args := [d1, d2, d3, d4, d5, d6, d7] }
  | _ => none }
def fnRemoveLeavesTheTableAsIfTheObjectWereNeverPutRow : OpenClaim := { program := "qxb6604790a", sum := "9562c8c4ac6b41772facdba2e11d36a40270ea97ee7acdbc46d2cb542f8ab2fc", func := "example.com/keyfence/keyfence/zzlaws_internal_lock_b1.FnRemoveLeavesTheTableAsIfTheObjectWereNeverPut", spec := "fnRemoveLeavesTheTableAsIfTheObjectWereNeverPut", apart := false }
def FnRemoveLeavesTheTableAsIfTheObjectWereNeverPutSaid : Prop := fnRemoveLeavesTheTableAsIfTheObjectWereNeverPutRow.holds Try.pinned (OpenSpec.ofChange fnRemoveLeavesTheTableAsIfTheObjectWereNeverPutSpec)

/-- ITS FALSE NEIGHBOUR: 'it returns false'. Refute it at one input. -/
def fnRemoveLeavesTheTableAsIfTheObjectWereNeverPutWrong : ChangeSpec := { name := "fnRemoveLeavesTheTableAsIfTheObjectWereNeverPut", fn := fun _ => fun
  | [d1, d2, d3, d4, d5, d6, d7] => { results := [.lit (.bool false)], args := [d1, d2, d3, d4, d5, d6, d7] }
  | _ => none }
def FnRemoveLeavesTheTableAsIfTheObjectWereNeverPutWrongFalsely : Prop := fnRemoveLeavesTheTableAsIfTheObjectWereNeverPutRow.holds Try.pinned (OpenSpec.ofChange fnRemoveLeavesTheTableAsIfTheObjectWereNeverPutWrong)

/-- 'zzlaws_internal_lock_b1.FnRemoveUndoesPut': WHATEVER THE INPUT: true; the input reads as it did. -/
def fnRemoveUndoesPutSpec : ChangeSpec := { name := "fnRemoveUndoesPut", fn := fun _ => fun
  | [d1, d2, d3, d4, d5, d6, d7, d8] => { results := [.lit (.bool true)], args := [d1, d2, d3, d4, d5, d6, d7, d8] }
  | _ => none }
def fnRemoveUndoesPutRow : OpenClaim := { program := "qxb6604790a", sum := "9562c8c4ac6b41772facdba2e11d36a40270ea97ee7acdbc46d2cb542f8ab2fc", func := "example.com/keyfence/keyfence/zzlaws_internal_lock_b1.FnRemoveUndoesPut", spec := "fnRemoveUndoesPut", apart := false }
def FnRemoveUndoesPutSaid : Prop := fnRemoveUndoesPutRow.holds Try.pinned (OpenSpec.ofChange fnRemoveUndoesPutSpec)

/-- ITS FALSE NEIGHBOUR: 'it returns false'. Refute it at one input. -/
def fnRemoveUndoesPutWrong : ChangeSpec := { name := "fnRemoveUndoesPut", fn := fun _ => fun
  | [d1, d2, d3, d4, d5, d6, d7, d8] => { results := [.lit (.bool false)], args := [d1, d2, d3, d4, d5, d6, d7, d8] }
  | _ => none }
def FnRemoveUndoesPutWrongFalsely : Prop := fnRemoveUndoesPutRow.holds Try.pinned (OpenSpec.ofChange fnRemoveUndoesPutWrong)

end Rows
end Go.Proofs.Qxb6604790a
