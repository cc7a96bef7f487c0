/-
  No cell of these rows narrows 'for every input' (looked for: loops, veiled, ifaces, maps, wideKeys, modest, calm, conditions, laid).
  DERIVED. THE GIVEN ROWS OF THIS SEAT. 2 by the template 'for every input the law returns true; each argument reads behind the call as it read before'; 0 by the template 'total and deterministic' (their statements: Qxb6608896aModsTotals.lean).
  GIVEN WITH THE SEED: the statements are not yours to turn. If you find one false, say at which input.
  Laid BY PROGRAM, IN A SANDBOX (cutbox-rows.mjs): the forced cells as the released guide's own fill.sh prints them over the translation 6fef734c9c7914d0… (all of the seat's roots in one cut). By AI agents, Wed Nov 11 2026. No macro, syntax, notation, axiom, sorry.
-/
import Derived.Test.Qxb6608896aModsChecked
import GoSem.Claim
import GoSem.ClaimJoined
import GoSem.ClaimMapViews
import Derived.JoinedTies
import Derived.KernelRfl
namespace Go.Proofs.Qxb6608896aMods
/- THE CELL 'sum', in the pinned program and in every row, IS THE sha256 OF THE DUMP (.gsa) THAT Qxb6608896aModsProg.lean LOADS. Nothing in Lean hashes anything: it is a label: what it is worth is what the hold of that sum in a sandbox is worth. -/
noncomputable def Trym.pinned : Pinned := { name := "qxb6608896amods", sum := "6fef734c9c7914d02e01461e3ead887501021438f66b51b3aa7fda14d8ef76b3", checked := Trym.checked }
namespace Rows
def none {H : Type} : Left H := { results := [], args := [] }

/-- 'zzlaws_internal_store_b1.FnOffsetOfBlocksRepeatAndHoldWholeEntries': WHATEVER THE INPUT: true; the input reads as it did. -/
def fnOffsetOfBlocksRepeatAndHoldWholeEntriesSpec : ChangeSpec := { name := "fnOffsetOfBlocksRepeatAndHoldWholeEntries", fn := fun _ => fun
  | [d] => { results := [.lit (.bool true)], args := [d] }
  | _ => none }
def fnOffsetOfBlocksRepeatAndHoldWholeEntriesRow : OpenClaim := { program := "qxb6608896amods", sum := "6fef734c9c7914d02e01461e3ead887501021438f66b51b3aa7fda14d8ef76b3", func := "example.com/tidemark/tidemark/zzlaws_internal_store_b1.FnOffsetOfBlocksRepeatAndHoldWholeEntries", spec := "fnOffsetOfBlocksRepeatAndHoldWholeEntries", make := .lifted ["publicsums"], apart := false }
def FnOffsetOfBlocksRepeatAndHoldWholeEntriesSaid : Prop := fnOffsetOfBlocksRepeatAndHoldWholeEntriesRow.holds Trym.pinned (OpenSpec.ofChange fnOffsetOfBlocksRepeatAndHoldWholeEntriesSpec)

/-- ITS FALSE NEIGHBOUR: 'it returns false'. Refute it at one input. -/
def fnOffsetOfBlocksRepeatAndHoldWholeEntriesWrong : ChangeSpec := { name := "fnOffsetOfBlocksRepeatAndHoldWholeEntries", fn := fun _ => fun
  | [d] => { results := [.lit (.bool false)], args := [d] }
  | _ => none }
def FnOffsetOfBlocksRepeatAndHoldWholeEntriesWrongFalsely : Prop := fnOffsetOfBlocksRepeatAndHoldWholeEntriesRow.holds Trym.pinned (OpenSpec.ofChange fnOffsetOfBlocksRepeatAndHoldWholeEntriesWrong)

/-- 'zzlaws_internal_store_b1.FnOffsetOfDistanceBetweenEntries': WHATEVER THE INPUT: true; the input reads as it did. -/
def fnOffsetOfDistanceBetweenEntriesSpec : ChangeSpec := { name := "fnOffsetOfDistanceBetweenEntries", fn := fun _ => fun
  | [d1, d2] => { results := [.lit (.bool true)], args := [d1, d2] }
  | _ => none }
def fnOffsetOfDistanceBetweenEntriesRow : OpenClaim := { program := "qxb6608896amods", sum := "6fef734c9c7914d02e01461e3ead887501021438f66b51b3aa7fda14d8ef76b3", func := "example.com/tidemark/tidemark/zzlaws_internal_store_b1.FnOffsetOfDistanceBetweenEntries", spec := "fnOffsetOfDistanceBetweenEntries", make := .lifted ["publicsums"], apart := false }
def FnOffsetOfDistanceBetweenEntriesSaid : Prop := fnOffsetOfDistanceBetweenEntriesRow.holds Trym.pinned (OpenSpec.ofChange fnOffsetOfDistanceBetweenEntriesSpec)

/-- ITS FALSE NEIGHBOUR: 'it returns false'. Refute it at one input. -/
def fnOffsetOfDistanceBetweenEntriesWrong : ChangeSpec := { name := "fnOffsetOfDistanceBetweenEntries", fn := fun _ => fun
  | [d1, d2] => { results := [.lit (.bool false)], args := [d1, d2] }
  | _ => none }
def FnOffsetOfDistanceBetweenEntriesWrongFalsely : Prop := fnOffsetOfDistanceBetweenEntriesRow.holds Trym.pinned (OpenSpec.ofChange fnOffsetOfDistanceBetweenEntriesWrong)

end Rows
end Go.Proofs.Qxb6608896aMods
