/-
  No cell of these rows narrows 'for every input' (looked for: loops, veiled, ifaces, maps, wideKeys, modest, calm, conditions, laid).
  DERIVED. THE GIVEN ROWS OF THIS SEAT. 2 by the template 'for every input the law returns true; each argument reads behind the call as it read before'; 0 by the template 'total and deterministic' (their statements: Qxb6608573aModsTotals.lean).
  GIVEN WITH THE SEED: the statements are not yours to turn. If you find one false, say at which input.
  Laid BY PROGRAM, IN A SANDBOX (cutbox-rows.mjs): the forced cells as the released guide's own fill.sh prints them over the translation 89d551ec52ef7b79… (all of the seat's roots in one cut). By AI agents, Wed Nov 11 2026. No macro, syntax, notation, axiom, sorry.
-/
import Derived.Test.Qxb6608573aModsChecked
import GoSem.Claim
import GoSem.ClaimJoined
import GoSem.ClaimMapViews
import Derived.JoinedTies
import Derived.KernelRfl
namespace Go.Proofs.Qxb6608573aMods
/- THE CELL 'sum', in the pinned program and in every row, IS THE sha256 OF THE DUMP (.gsa) THAT Qxb6608573aModsProg.lean LOADS. Nothing in Lean hashes anything: it is a label: what it is worth is what the hold of that sum in a sandbox is worth. -/
noncomputable def Trym.pinned : Pinned := { name := "qxb6608573amods", sum := "89d551ec52ef7b797bc90fc6b0bbee17f5cfc98be5e0c78b55ed14b53a37873b", checked := Trym.checked }
namespace Rows
def none {H : Type} : Left H := { results := [], args := [] }

/-- 'zzlaws_batch_b1.FnScaleBracketsTheExactShare': WHATEVER THE INPUT: true; the input reads as it did. -/
def fnScaleBracketsTheExactShareSpec : ChangeSpec := { name := "fnScaleBracketsTheExactShare", fn := fun _ => fun
  | [d1, d2] => { results := [.lit (.bool true)], args := [d1, d2] }
  | _ => none }
def fnScaleBracketsTheExactShareRow : OpenClaim := { program := "qxb6608573amods", sum := "89d551ec52ef7b797bc90fc6b0bbee17f5cfc98be5e0c78b55ed14b53a37873b", func := "example.com/tranche/tranche/zzlaws_batch_b1.FnScaleBracketsTheExactShare", spec := "fnScaleBracketsTheExactShare", make := .lifted ["publicsums"], apart := false }
def FnScaleBracketsTheExactShareSaid : Prop := fnScaleBracketsTheExactShareRow.holds Trym.pinned (OpenSpec.ofChange fnScaleBracketsTheExactShareSpec)

/-- ITS FALSE NEIGHBOUR: 'it returns false'. Refute it at one input. -/
def fnScaleBracketsTheExactShareWrong : ChangeSpec := { name := "fnScaleBracketsTheExactShare", fn := fun _ => fun
  | [d1, d2] => { results := [.lit (.bool false)], args := [d1, d2] }
  | _ => none }
def FnScaleBracketsTheExactShareWrongFalsely : Prop := fnScaleBracketsTheExactShareRow.holds Trym.pinned (OpenSpec.ofChange fnScaleBracketsTheExactShareWrong)

/-- 'zzlaws_batch_b1.FnScaleShareAndRestMakeTheTotal': WHATEVER THE INPUT: true; the input reads as it did. -/
def fnScaleShareAndRestMakeTheTotalSpec : ChangeSpec := { name := "fnScaleShareAndRestMakeTheTotal", fn := fun _ => fun
  | [d1, d2] => { results := [.lit (.bool true)], args := [d1, d2] }
  | _ => none }
def fnScaleShareAndRestMakeTheTotalRow : OpenClaim := { program := "qxb6608573amods", sum := "89d551ec52ef7b797bc90fc6b0bbee17f5cfc98be5e0c78b55ed14b53a37873b", func := "example.com/tranche/tranche/zzlaws_batch_b1.FnScaleShareAndRestMakeTheTotal", spec := "fnScaleShareAndRestMakeTheTotal", make := .lifted ["publicsums"], apart := false }
def FnScaleShareAndRestMakeTheTotalSaid : Prop := fnScaleShareAndRestMakeTheTotalRow.holds Trym.pinned (OpenSpec.ofChange fnScaleShareAndRestMakeTheTotalSpec)

/-- ITS FALSE NEIGHBOUR: 'it returns false'. Refute it at one input. -/
def fnScaleShareAndRestMakeTheTotalWrong : ChangeSpec := { name := "fnScaleShareAndRestMakeTheTotal", fn := fun _ => fun
  | [d1, d2] => { results := [.lit (.bool false)], args := [d1, d2] }
  | _ => none }
def FnScaleShareAndRestMakeTheTotalWrongFalsely : Prop := fnScaleShareAndRestMakeTheTotalRow.holds Trym.pinned (OpenSpec.ofChange fnScaleShareAndRestMakeTheTotalWrong)

end Rows
end Go.Proofs.Qxb6608573aMods
