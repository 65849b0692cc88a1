/-
  No cell of these rows narrows 'for every input' (looked for: loops, veiled, ifaces, maps, wideKeys, modest, calm, conditions, laid).
  DERIVED. THE GIVEN ROWS OF THIS SEAT. 1 by the template 'for every input the law returns true; each argument reads behind the call as it read before'; 0 by the template 'total and deterministic' (their statements: Qxb6616264aFmtTotals.lean).
  GIVEN WITH THE SEED: the statements are not yours to turn. If you find one false, say at which input.
  Laid BY PROGRAM, IN A SANDBOX (cutbox-rows.mjs): the forced cells as the released guide's own fill.sh prints them over the translation 158b3601530fce07… (all of the seat's roots in one cut). By AI agents, Wed Nov 11 2026. No macro, syntax, notation, axiom, sorry.
-/
import Derived.Test.Qxb6616264aFmtChecked
import GoSem.Claim
import GoSem.ClaimJoined
import GoSem.ClaimMapViews
import Derived.JoinedTies
import Derived.KernelRfl
namespace Go.Proofs.Qxb6616264aFmt
/- THE CELL 'sum', in the pinned program and in every row, IS THE sha256 OF THE DUMP (.gsa) THAT Qxb6616264aFmtProg.lean LOADS. Nothing in Lean hashes anything: it is a label: what it is worth is what the hold of that sum in a sandbox is worth. -/
noncomputable def Tryf.pinned : Pinned := { name := "qxb6616264afmt", sum := "158b3601530fce076045a5cfebeee43eaae08fa33ce969c6290ce275d8cea234", checked := Tryf.checked }
namespace Rows
def none {H : Type} : Left H := { results := [], args := [] }

/-- 'zzlaws_pkg_chat_b1.FnWrongTypeSetsAFaultExactlyWhenAKindIsGiven': WHATEVER THE INPUT: true; the input reads as it did. -/
def fnWrongTypeSetsAFaultExactlyWhenAKindIsGivenSpec : ChangeSpec := { name := "fnWrongTypeSetsAFaultExactlyWhenAKindIsGiven", fn := fun _ => fun
  | [d] => { results := [.lit (.bool true)], args := [d] }
  | _ => none }
def fnWrongTypeSetsAFaultExactlyWhenAKindIsGivenRow : OpenClaim := { program := "qxb6616264afmt", sum := "158b3601530fce076045a5cfebeee43eaae08fa33ce969c6290ce275d8cea234", func := "example.com/signalbox/signalbox/zzlaws_pkg_chat_b1.FnWrongTypeSetsAFaultExactlyWhenAKindIsGiven", spec := "fnWrongTypeSetsAFaultExactlyWhenAKindIsGiven", stops := ["fmt.errorf"], inPlace := ["fmt.errorf"], apart := false }
/-- NO THEOREM (fmt's text is open here; it may be false): for the released tool's asking of the row's closed facts alone. THE STATEMENT IS 'FnWrongTypeSetsAFaultExactlyWhenAKindIsGivenToldSaid' (Qxb6616264aFmtCards.lean). -/
def FnWrongTypeSetsAFaultExactlyWhenAKindIsGivenFormAsk : Prop := fnWrongTypeSetsAFaultExactlyWhenAKindIsGivenRow.holds Tryf.pinned (OpenSpec.ofChange fnWrongTypeSetsAFaultExactlyWhenAKindIsGivenSpec)

/-- ITS FALSE NEIGHBOUR: 'it returns false'. Refute it at one input. -/
def fnWrongTypeSetsAFaultExactlyWhenAKindIsGivenWrong : ChangeSpec := { name := "fnWrongTypeSetsAFaultExactlyWhenAKindIsGiven", fn := fun _ => fun
  | [d] => { results := [.lit (.bool false)], args := [d] }
  | _ => none }
def FnWrongTypeSetsAFaultExactlyWhenAKindIsGivenWrongFormAsk : Prop := fnWrongTypeSetsAFaultExactlyWhenAKindIsGivenRow.holds Tryf.pinned (OpenSpec.ofChange fnWrongTypeSetsAFaultExactlyWhenAKindIsGivenWrong)

end Rows
end Go.Proofs.Qxb6616264aFmt
