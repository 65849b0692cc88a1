/-
  No cell of these rows narrows 'for every input' (looked for: loops, veiled, ifaces, maps, wideKeys, modest, calm, conditions, laid).
  DERIVED. THE GIVEN ROWS OF THIS SEAT. 4 by the template 'for every input the law returns true; each argument reads behind the call as it read before'; 0 by the template 'total and deterministic' (their statements: Qxb6616441aTotals.lean).
  GIVEN WITH THE SEED: the statements are not yours to turn. If you find one false, say at which input.
  Laid BY PROGRAM, IN A SANDBOX (cutbox-rows.mjs): the forced cells as the released guide's own fill.sh prints them over the translation 868be0131626885b… (all of the seat's roots in one cut). By AI agents, Wed Nov 11 2026. No macro, syntax, notation, axiom, sorry.
-/
import Derived.Test.Qxb6616441aChecked
import GoSem.Claim
import GoSem.ClaimJoined
import GoSem.ClaimMapViews
import Derived.JoinedTies
import Derived.KernelRfl
namespace Go.Proofs.Qxb6616441a
/- THE CELL 'sum', in the pinned program and in every row, IS THE sha256 OF THE DUMP (.gsa) THAT Qxb6616441aProg.lean LOADS. Nothing in Lean hashes anything: it is a label: what it is worth is what the hold of that sum in a sandbox is worth. -/
noncomputable def Try.pinned : Pinned := { name := "qxb6616441a", sum := "868be0131626885b905a0745d27ef12d48c6d8c16f9c3d47756a4a040daacd2b", checked := Try.checked }
namespace Rows
def none {H : Type} : Left H := { results := [], args := [] }

/-- 'zzlaws_schema_b1.FnLessStrictByHashThenItem': WHATEVER THE INPUT: true; the input reads as it did. -/
def fnLessStrictByHashThenItemSpec : ChangeSpec := { name := "fnLessStrictByHashThenItem", fn := fun _ => fun
  | [d1, d2, d3, d4] => { results := [.lit (.bool true)], args := [d1, d2, d3, d4] }
  | _ => none }
def fnLessStrictByHashThenItemRow : OpenClaim := { program := "qxb6616441a", sum := "868be0131626885b905a0745d27ef12d48c6d8c16f9c3d47756a4a040daacd2b", func := "example.com/vernier/vernier/zzlaws_schema_b1.FnLessStrictByHashThenItem", spec := "fnLessStrictByHashThenItem", plainKeys := false, apart := false }
def FnLessStrictByHashThenItemSaid : Prop := fnLessStrictByHashThenItemRow.holds Try.pinned (OpenSpec.ofChange fnLessStrictByHashThenItemSpec)

/-- ITS FALSE NEIGHBOUR: 'it returns false'. Refute it at one input. -/
def fnLessStrictByHashThenItemWrong : ChangeSpec := { name := "fnLessStrictByHashThenItem", fn := fun _ => fun
  | [d1, d2, d3, d4] => { results := [.lit (.bool false)], args := [d1, d2, d3, d4] }
  | _ => none }
def FnLessStrictByHashThenItemWrongFalsely : Prop := fnLessStrictByHashThenItemRow.holds Try.pinned (OpenSpec.ofChange fnLessStrictByHashThenItemWrong)

/-- 'zzlaws_schema_b1.FnLessTransitiveByHashThenItem': WHATEVER THE INPUT: true; the input reads as it did. -/
def fnLessTransitiveByHashThenItemSpec : ChangeSpec := { name := "fnLessTransitiveByHashThenItem", fn := fun _ => fun
  | [d1, d2, d3, d4, d5] => { results := [.lit (.bool true)], args := [d1, d2, d3, d4, d5] }
  | _ => none }
def fnLessTransitiveByHashThenItemRow : OpenClaim := { program := "qxb6616441a", sum := "868be0131626885b905a0745d27ef12d48c6d8c16f9c3d47756a4a040daacd2b", func := "example.com/vernier/vernier/zzlaws_schema_b1.FnLessTransitiveByHashThenItem", spec := "fnLessTransitiveByHashThenItem", plainKeys := false, apart := false }
def FnLessTransitiveByHashThenItemSaid : Prop := fnLessTransitiveByHashThenItemRow.holds Try.pinned (OpenSpec.ofChange fnLessTransitiveByHashThenItemSpec)

/-- ITS FALSE NEIGHBOUR: 'it returns false'. Refute it at one input. -/
def fnLessTransitiveByHashThenItemWrong : ChangeSpec := { name := "fnLessTransitiveByHashThenItem", fn := fun _ => fun
  | [d1, d2, d3, d4, d5] => { results := [.lit (.bool false)], args := [d1, d2, d3, d4, d5] }
  | _ => none }
def FnLessTransitiveByHashThenItemWrongFalsely : Prop := fnLessTransitiveByHashThenItemRow.holds Try.pinned (OpenSpec.ofChange fnLessTransitiveByHashThenItemWrong)

/-- 'zzlaws_schema_b1.FnMergeSplitAtAnyWordCut': WHATEVER THE INPUT: true; the input reads as it did. -/
def fnMergeSplitAtAnyWordCutSpec : ChangeSpec := { name := "fnMergeSplitAtAnyWordCut", fn := fun _ => fun
  | [d1, d2, d3, d4, d5, d6, d7] => { results := [.lit (.bool true)], args := [d1, d2, d3, d4, d5, d6, d7] }
  | _ => none }
def fnMergeSplitAtAnyWordCutRow : OpenClaim := { program := "qxb6616441a", sum := "868be0131626885b905a0745d27ef12d48c6d8c16f9c3d47756a4a040daacd2b", func := "example.com/vernier/vernier/zzlaws_schema_b1.FnMergeSplitAtAnyWordCut", spec := "fnMergeSplitAtAnyWordCut", plainKeys := false, apart := false }
def FnMergeSplitAtAnyWordCutSaid : Prop := fnMergeSplitAtAnyWordCutRow.holds Try.pinned (OpenSpec.ofChange fnMergeSplitAtAnyWordCutSpec)

/-- ITS FALSE NEIGHBOUR: 'it returns false'. Refute it at one input. -/
def fnMergeSplitAtAnyWordCutWrong : ChangeSpec := { name := "fnMergeSplitAtAnyWordCut", fn := fun _ => fun
  | [d1, d2, d3, d4, d5, d6, d7] => { results := [.lit (.bool false)], args := [d1, d2, d3, d4, d5, d6, d7] }
  | _ => none }
def FnMergeSplitAtAnyWordCutWrongFalsely : Prop := fnMergeSplitAtAnyWordCutRow.holds Try.pinned (OpenSpec.ofChange fnMergeSplitAtAnyWordCutWrong)

/-- 'zzlaws_schema_b1.FnMergeTwoSourcesEitherOrder': WHATEVER THE INPUT: true; the input reads as it did. -/
def fnMergeTwoSourcesEitherOrderSpec : ChangeSpec := { name := "fnMergeTwoSourcesEitherOrder", fn := fun _ => fun
  | [d1, d2, d3, d4, d5, d6, d7, d8] => { results := [.lit (.bool true)], args := [d1, d2, d3, d4, d5, d6, d7, d8] }
  | _ => none }
def fnMergeTwoSourcesEitherOrderRow : OpenClaim := { program := "qxb6616441a", sum := "868be0131626885b905a0745d27ef12d48c6d8c16f9c3d47756a4a040daacd2b", func := "example.com/vernier/vernier/zzlaws_schema_b1.FnMergeTwoSourcesEitherOrder", spec := "fnMergeTwoSourcesEitherOrder", plainKeys := false, apart := false }
def FnMergeTwoSourcesEitherOrderSaid : Prop := fnMergeTwoSourcesEitherOrderRow.holds Try.pinned (OpenSpec.ofChange fnMergeTwoSourcesEitherOrderSpec)

/-- ITS FALSE NEIGHBOUR: 'it returns false'. Refute it at one input. -/
def fnMergeTwoSourcesEitherOrderWrong : ChangeSpec := { name := "fnMergeTwoSourcesEitherOrder", fn := fun _ => fun
  | [d1, d2, d3, d4, d5, d6, d7, d8] => { results := [.lit (.bool false)], args := [d1, d2, d3, d4, d5, d6, d7, d8] }
  | _ => none }
def FnMergeTwoSourcesEitherOrderWrongFalsely : Prop := fnMergeTwoSourcesEitherOrderRow.holds Try.pinned (OpenSpec.ofChange fnMergeTwoSourcesEitherOrderWrong)

end Rows
end Go.Proofs.Qxb6616441a
