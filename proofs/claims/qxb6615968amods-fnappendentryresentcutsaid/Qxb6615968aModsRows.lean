/-
  No cell of these rows narrows 'for every input' (looked for: loops, veiled, ifaces, maps, wideKeys, modest, calm, conditions, laid).
  DERIVED. THE GIVEN ROWS OF THIS SEAT. 3 by the template 'for every input the law returns true; each argument reads behind the call as it read before'; 0 by the template 'total and deterministic' (their statements: Qxb6615968aModsTotals.lean).
  GIVEN WITH THE SEED: the statements are not yours to turn. If you find one false, say at which input.
  Laid BY PROGRAM, IN A SANDBOX (cutbox-rows.mjs): the forced cells as the released guide's own fill.sh prints them over the translation ce4039038e0443e5… (all of the seat's roots in one cut). By AI agents, Wed Nov 11 2026. No macro, syntax, notation, axiom, sorry.
-/
import Derived.Test.Qxb6615968aModsChecked
import GoSem.Claim
import GoSem.ClaimJoined
import GoSem.ClaimMapViews
import Derived.JoinedTies
import Derived.KernelRfl
namespace Go.Proofs.Qxb6615968aMods
/- THE CELL 'sum', in the pinned program and in every row, IS THE sha256 OF THE DUMP (.gsa) THAT Qxb6615968aModsProg.lean LOADS. Nothing in Lean hashes anything: it is a label: what it is worth is what the hold of that sum in a sandbox is worth. -/
noncomputable def Trym.pinned : Pinned := { name := "qxb6615968amods", sum := "ce4039038e0443e5a771fb35771f2839df2d20a5580725e41c0c6496c29a78cf", checked := Trym.checked }
namespace Rows
def none {H : Type} : Left H := { results := [], args := [] }

/-- 'zzlaws_root_b1.FnSeqSetContainsFloorIsRun': WHATEVER THE INPUT: true; the input reads as it did. -/
def fnSeqSetContainsFloorIsRunSpec : ChangeSpec := { name := "fnSeqSetContainsFloorIsRun", fn := fun _ => fun
  | [d1, d2, d3] => { results := [.lit (.bool true)], args := [d1, d2, d3] }
  | _ => none }
def fnSeqSetContainsFloorIsRunRow : OpenClaim := { program := "qxb6615968amods", sum := "ce4039038e0443e5a771fb35771f2839df2d20a5580725e41c0c6496c29a78cf", func := "example.com/castellan/castellan/zzlaws_root_b1.FnSeqSetContainsFloorIsRun", spec := "fnSeqSetContainsFloorIsRun", recurses := true, make := .lifted ["publicsums"], apart := false }
def FnSeqSetContainsFloorIsRunSaid : Prop := fnSeqSetContainsFloorIsRunRow.holds Trym.pinned (OpenSpec.ofChange fnSeqSetContainsFloorIsRunSpec)

/-- ITS FALSE NEIGHBOUR: 'it returns false'. Refute it at one input. -/
def fnSeqSetContainsFloorIsRunWrong : ChangeSpec := { name := "fnSeqSetContainsFloorIsRun", fn := fun _ => fun
  | [d1, d2, d3] => { results := [.lit (.bool false)], args := [d1, d2, d3] }
  | _ => none }
def FnSeqSetContainsFloorIsRunWrongFalsely : Prop := fnSeqSetContainsFloorIsRunRow.holds Trym.pinned (OpenSpec.ofChange fnSeqSetContainsFloorIsRunWrong)

/-- 'zzlaws_root_b1.FnSeqSetContainsCut': WHATEVER THE INPUT: true; the input reads as it did. -/
def fnSeqSetContainsCutSpec : ChangeSpec := { name := "fnSeqSetContainsCut", fn := fun _ => fun
  | [d1, d2, d3, d4] => { results := [.lit (.bool true)], args := [d1, d2, d3, d4] }
  | _ => none }
def fnSeqSetContainsCutRow : OpenClaim := { program := "qxb6615968amods", sum := "ce4039038e0443e5a771fb35771f2839df2d20a5580725e41c0c6496c29a78cf", func := "example.com/castellan/castellan/zzlaws_root_b1.FnSeqSetContainsCut", spec := "fnSeqSetContainsCut", recurses := true, make := .lifted ["publicsums"], apart := false }
def FnSeqSetContainsCutSaid : Prop := fnSeqSetContainsCutRow.holds Trym.pinned (OpenSpec.ofChange fnSeqSetContainsCutSpec)

/-- ITS FALSE NEIGHBOUR: 'it returns false'. Refute it at one input. -/
def fnSeqSetContainsCutWrong : ChangeSpec := { name := "fnSeqSetContainsCut", fn := fun _ => fun
  | [d1, d2, d3, d4] => { results := [.lit (.bool false)], args := [d1, d2, d3, d4] }
  | _ => none }
def FnSeqSetContainsCutWrongFalsely : Prop := fnSeqSetContainsCutRow.holds Trym.pinned (OpenSpec.ofChange fnSeqSetContainsCutWrong)

/-- 'zzlaws_root_b1.FnAppendEntryResentCut': WHATEVER THE INPUT: true; the input reads as it did. -/
def fnAppendEntryResentCutSpec : ChangeSpec := { name := "fnAppendEntryResentCut", fn := fun _ => fun
  | [d1, d2, d3, d4, d5, d6, d7] => { results := [.lit (.bool true)], args := [d1, d2, d3, d4, d5, d6, d7] }
  | _ => none }
def fnAppendEntryResentCutRow : OpenClaim := { program := "qxb6615968amods", sum := "ce4039038e0443e5a771fb35771f2839df2d20a5580725e41c0c6496c29a78cf", func := "example.com/castellan/castellan/zzlaws_root_b1.FnAppendEntryResentCut", spec := "fnAppendEntryResentCut", make := .lifted ["publicsums"], apart := false }
def FnAppendEntryResentCutSaid : Prop := fnAppendEntryResentCutRow.holds Trym.pinned (OpenSpec.ofChange fnAppendEntryResentCutSpec)

/-- ITS FALSE NEIGHBOUR: 'it returns false'. Refute it at one input. -/
def fnAppendEntryResentCutWrong : ChangeSpec := { name := "fnAppendEntryResentCut", fn := fun _ => fun
  | [d1, d2, d3, d4, d5, d6, d7] => { results := [.lit (.bool false)], args := [d1, d2, d3, d4, d5, d6, d7] }
  | _ => none }
def FnAppendEntryResentCutWrongFalsely : Prop := fnAppendEntryResentCutRow.holds Trym.pinned (OpenSpec.ofChange fnAppendEntryResentCutWrong)

end Rows
end Go.Proofs.Qxb6615968aMods
