/-
  DERIVED. GIVEN WITH THE SEED: THE CARDS: each row of Qxb6616264aFmtRows.lean that lists a variable, with what it lists TIED to the program's text (the seventh form; the later family's looks); each row that meets fmt, with fmt's text TOLD by the authors' own Lean function (tested against real Go, not proved from fmt's source: count such statements apart). THE CARD IS WHAT COUNTS. Prove the row's statement (the work); the ties are given (Qxb6616264aFmtTie.lean); close each card by the builder's one call (the guide's Derived/Test/ToyasCard.lean, 'card_holds'). Laid BY PROGRAM, IN A SANDBOX (cutbox-door.mjs). By AI agents, Wed Nov 11 2026. No macro, syntax, notation, axiom, sorry.
-/
import Derived.Test.Qxb6616264aFmtRows
import GoSem.ClaimSeven
namespace Go.Proofs.Qxb6616264aFmt
namespace Rows

/-- THE TOLD CARD OF 'zzlaws_pkg_chat_b1.FnWrongTypeSetsAFaultExactlyWhenAKindIsGiven'. -/
def fnWrongTypeSetsAFaultExactlyWhenAKindIsGivenCard : Claim7 := { stood := { row := fnWrongTypeSetsAFaultExactlyWhenAKindIsGivenRow, standIns := [], harness := (true, "36b49ae0eae2766427b1ec4c60bf592d2d8564ab6da8aab7922207d72a20154c"), looks := false }, told := true, goes := false }
def FnWrongTypeSetsAFaultExactlyWhenAKindIsGivenToldSaid : Prop := Claim7.holds Tryf.pinned (.plain (OpenSpec.ofChange fnWrongTypeSetsAFaultExactlyWhenAKindIsGivenSpec)) fnWrongTypeSetsAFaultExactlyWhenAKindIsGivenCard
/-- ITS FALSE NEIGHBOUR. Refute it at one input. -/
def FnWrongTypeSetsAFaultExactlyWhenAKindIsGivenToldWrongFalsely : Prop := Claim7.holds Tryf.pinned (.plain (OpenSpec.ofChange fnWrongTypeSetsAFaultExactlyWhenAKindIsGivenWrong)) fnWrongTypeSetsAFaultExactlyWhenAKindIsGivenCard
end Rows
end Go.Proofs.Qxb6616264aFmt
