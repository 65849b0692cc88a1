/-
  No cell of these rows narrows 'for every input' (looked for: loops, veiled, ifaces, maps, wideKeys, modest, calm, conditions, laid).
  DERIVED. THE GIVEN ROWS OF THIS SEAT. 1 by the template 'for every input the law returns true; each argument reads behind the call as it read before'; 0 by the template 'total and deterministic' (their statements: Qxb6616551aTotals.lean).
  GIVEN WITH THE SEED: the statements are not yours to turn. If you find one false, say at which input.
  Laid BY PROGRAM, IN A SANDBOX (cutbox-rows.mjs): the forced cells as the released guide's own fill.sh prints them over the translation 398b9a00c4a95e07… (all of the seat's roots in one cut). By AI agents, Wed Nov 11 2026. No macro, syntax, notation, axiom, sorry.
-/
import Derived.Test.Qxb6616551aChecked
import GoSem.Claim
import GoSem.ClaimJoined
import GoSem.ClaimMapViews
import Derived.JoinedTies
import Derived.KernelRfl
namespace Go.Proofs.Qxb6616551a
/- THE CELL 'sum', in the pinned program and in every row, IS THE sha256 OF THE DUMP (.gsa) THAT Qxb6616551aProg.lean LOADS. Nothing in Lean hashes anything: it is a label: what it is worth is what the hold of that sum in a sandbox is worth. -/
noncomputable def Try.pinned : Pinned := { name := "qxb6616551a", sum := "398b9a00c4a95e07cf9a92293a5344c59bc5c2732a110f25abbf4c67e97d2d93", checked := Try.checked }
namespace Rows
def none {H : Type} : Left H := { results := [], args := [] }

/-- 'zzlaws_pathtemplate_b1.FnHexDigitsAreTwentyTwoOfSixtyTwoAlnums': WHATEVER THE INPUT: true; the input reads as it did. -/
def fnHexDigitsAreTwentyTwoOfSixtyTwoAlnumsSpec : ChangeSpec := { name := "fnHexDigitsAreTwentyTwoOfSixtyTwoAlnums", fn := fun _ => fun
  | [] => { results := [.lit (.bool true)], args := [] }
  | _ => none }
def fnHexDigitsAreTwentyTwoOfSixtyTwoAlnumsRow : OpenClaim := { program := "qxb6616551a", sum := "398b9a00c4a95e07cf9a92293a5344c59bc5c2732a110f25abbf4c67e97d2d93", func := "example.com/humble-transcoder/humble-transcoder/zzlaws_pathtemplate_b1.FnHexDigitsAreTwentyTwoOfSixtyTwoAlnums", spec := "fnHexDigitsAreTwentyTwoOfSixtyTwoAlnums", apart := false }
def FnHexDigitsAreTwentyTwoOfSixtyTwoAlnumsSaid : Prop := fnHexDigitsAreTwentyTwoOfSixtyTwoAlnumsRow.holds Try.pinned (OpenSpec.ofChange fnHexDigitsAreTwentyTwoOfSixtyTwoAlnumsSpec)

/-- ITS FALSE NEIGHBOUR: 'it returns false'. Refute it at one input. -/
def fnHexDigitsAreTwentyTwoOfSixtyTwoAlnumsWrong : ChangeSpec := { name := "fnHexDigitsAreTwentyTwoOfSixtyTwoAlnums", fn := fun _ => fun
  | [] => { results := [.lit (.bool false)], args := [] }
  | _ => none }
def FnHexDigitsAreTwentyTwoOfSixtyTwoAlnumsWrongFalsely : Prop := fnHexDigitsAreTwentyTwoOfSixtyTwoAlnumsRow.holds Try.pinned (OpenSpec.ofChange fnHexDigitsAreTwentyTwoOfSixtyTwoAlnumsWrong)

end Rows
end Go.Proofs.Qxb6616551a
