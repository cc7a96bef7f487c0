/-
  No cell of these rows narrows 'for every input' (looked for: loops, veiled, ifaces, maps, wideKeys, modest, calm, conditions, laid).
  DERIVED. THE GIVEN ROWS OF THIS SEAT. 3 by the template 'for every input the law returns true; each argument reads behind the call as it read before'; 0 by the template 'total and deterministic' (their statements: Qxb6605909aModsTotals.lean).
  GIVEN WITH THE SEED: the statements are not yours to turn. If you find one false, say at which input.
  Laid BY PROGRAM, IN A SANDBOX (cutbox-rows.mjs): the forced cells as the released guide's own fill.sh prints them over the translation 82b999c0101868de… (all of the seat's roots in one cut). By AI agents, Wed Nov 11 2026. No macro, syntax, notation, axiom, sorry.
-/
import Derived.Test.Qxb6605909aModsChecked
import GoSem.Claim
import GoSem.ClaimJoined
import GoSem.ClaimMapViews
import Derived.JoinedTies
import Derived.KernelRfl
namespace Go.Proofs.Qxb6605909aMods
/- THE CELL 'sum', in the pinned program and in every row, IS THE sha256 OF THE DUMP (.gsa) THAT Qxb6605909aModsProg.lean LOADS. Nothing in Lean hashes anything: it is a label: what it is worth is what the hold of that sum in a sandbox is worth. -/
noncomputable def Trym.pinned : Pinned := { name := "qxb6605909amods", sum := "82b999c0101868de61504ecfa26ddd1df389675d801e5d26743b74566f887f3d", checked := Trym.checked }
namespace Rows
def none {H : Type} : Left H := { results := [], args := [] }

/-- 'zzlaws_root_b1.FnKeyFromMemberInjectiveNotDefault': WHATEVER THE INPUT: true; the input reads as it did. -/
def fnKeyFromMemberInjectiveNotDefaultSpec : ChangeSpec := { name := "fnKeyFromMemberInjectiveNotDefault", fn := fun _ => fun
  | [d1, d2] => { results := [.lit (.bool true)], args := [d1, d2] }
  | _ => none }
def fnKeyFromMemberInjectiveNotDefaultRow : OpenClaim := { program := "qxb6605909amods", sum := "82b999c0101868de61504ecfa26ddd1df389675d801e5d26743b74566f887f3d", func := "example.com/talipot/talipot/zzlaws_root_b1.FnKeyFromMemberInjectiveNotDefault", spec := "fnKeyFromMemberInjectiveNotDefault", make := .lifted ["publicsums"], apart := false }
def FnKeyFromMemberInjectiveNotDefaultSaid : Prop := fnKeyFromMemberInjectiveNotDefaultRow.holds Trym.pinned (OpenSpec.ofChange fnKeyFromMemberInjectiveNotDefaultSpec)

/-- ITS FALSE NEIGHBOUR: 'it returns false'. Refute it at one input. -/
def fnKeyFromMemberInjectiveNotDefaultWrong : ChangeSpec := { name := "fnKeyFromMemberInjectiveNotDefault", fn := fun _ => fun
  | [d1, d2] => { results := [.lit (.bool false)], args := [d1, d2] }
  | _ => none }
def FnKeyFromMemberInjectiveNotDefaultWrongFalsely : Prop := fnKeyFromMemberInjectiveNotDefaultRow.holds Trym.pinned (OpenSpec.ofChange fnKeyFromMemberInjectiveNotDefaultWrong)

/-- 'zzlaws_root_b1.FnIsLCAlphaIsTheLowerAlphabet': WHATEVER THE INPUT: true; the input reads as it did. -/
def fnIsLCAlphaIsTheLowerAlphabetSpec : ChangeSpec := { name := "fnIsLCAlphaIsTheLowerAlphabet", fn := fun _ => fun
  | [d] => { results := [.lit (.bool true)], args := [d] }
  | _ => none }
def fnIsLCAlphaIsTheLowerAlphabetRow : OpenClaim := { program := "qxb6605909amods", sum := "82b999c0101868de61504ecfa26ddd1df389675d801e5d26743b74566f887f3d", func := "example.com/talipot/talipot/zzlaws_root_b1.FnIsLCAlphaIsTheLowerAlphabet", spec := "fnIsLCAlphaIsTheLowerAlphabet", make := .lifted ["publicsums"], apart := false }
def FnIsLCAlphaIsTheLowerAlphabetSaid : Prop := fnIsLCAlphaIsTheLowerAlphabetRow.holds Trym.pinned (OpenSpec.ofChange fnIsLCAlphaIsTheLowerAlphabetSpec)

/-- ITS FALSE NEIGHBOUR: 'it returns false'. Refute it at one input. -/
def fnIsLCAlphaIsTheLowerAlphabetWrong : ChangeSpec := { name := "fnIsLCAlphaIsTheLowerAlphabet", fn := fun _ => fun
  | [d] => { results := [.lit (.bool false)], args := [d] }
  | _ => none }
def FnIsLCAlphaIsTheLowerAlphabetWrongFalsely : Prop := fnIsLCAlphaIsTheLowerAlphabetRow.holds Trym.pinned (OpenSpec.ofChange fnIsLCAlphaIsTheLowerAlphabetWrong)

/-- 'zzlaws_root_b1.FnIsLCAlphaIsAlphaWithCaseBit': WHATEVER THE INPUT: true; the input reads as it did. -/
def fnIsLCAlphaIsAlphaWithCaseBitSpec : ChangeSpec := { name := "fnIsLCAlphaIsAlphaWithCaseBit", fn := fun _ => fun
  | [d] => { results := [.lit (.bool true)], args := [d] }
  | _ => none }
def fnIsLCAlphaIsAlphaWithCaseBitRow : OpenClaim := { program := "qxb6605909amods", sum := "82b999c0101868de61504ecfa26ddd1df389675d801e5d26743b74566f887f3d", func := "example.com/talipot/talipot/zzlaws_root_b1.FnIsLCAlphaIsAlphaWithCaseBit", spec := "fnIsLCAlphaIsAlphaWithCaseBit", make := .lifted ["publicsums"], apart := false }
def FnIsLCAlphaIsAlphaWithCaseBitSaid : Prop := fnIsLCAlphaIsAlphaWithCaseBitRow.holds Trym.pinned (OpenSpec.ofChange fnIsLCAlphaIsAlphaWithCaseBitSpec)

/-- ITS FALSE NEIGHBOUR: 'it returns false'. Refute it at one input. -/
def fnIsLCAlphaIsAlphaWithCaseBitWrong : ChangeSpec := { name := "fnIsLCAlphaIsAlphaWithCaseBit", fn := fun _ => fun
  | [d] => { results := [.lit (.bool false)], args := [d] }
  | _ => none }
def FnIsLCAlphaIsAlphaWithCaseBitWrongFalsely : Prop := fnIsLCAlphaIsAlphaWithCaseBitRow.holds Trym.pinned (OpenSpec.ofChange fnIsLCAlphaIsAlphaWithCaseBitWrong)

end Rows
end Go.Proofs.Qxb6605909aMods
