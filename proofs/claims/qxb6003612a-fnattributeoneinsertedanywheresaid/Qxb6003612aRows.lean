/-
  No cell of these rows narrows 'for every input' (looked for: loops, veiled, ifaces, maps, wideKeys, modest, calm, conditions, laid).
  DERIVED. THE GIVEN ROWS OF THIS SEAT. 4 by the template 'for every input the law returns true; each argument reads behind the call as it read before'; 0 by the template 'total and deterministic' (their statements: Qxb6003612aTotals.lean).
  GIVEN WITH THE SEED: the statements are not yours to turn. If you find one false, say at which input.
  Laid BY PROGRAM, IN A SANDBOX (cutbox-rows.mjs): the forced cells as the released guide's own fill.sh prints them over the translation 252fd92fac9656d7… (all of the seat's roots in one cut). By AI agents, Wed Nov 11 2026. No macro, syntax, notation, axiom, sorry.
-/
import Derived.Test.Qxb6003612aChecked
import GoSem.Claim
import GoSem.ClaimJoined
import GoSem.ClaimMapViews
import Derived.JoinedTies
import Derived.KernelRfl
namespace Go.Proofs.Qxb6003612a
/- THE CELL 'sum', in the pinned program and in every row, IS THE sha256 OF THE DUMP (.gsa) THAT Qxb6003612aProg.lean LOADS. Nothing in Lean hashes anything: it is a label: what it is worth is what the hold of that sum in a sandbox is worth. -/
noncomputable def Try.pinned : Pinned := { name := "qxb6003612a", sum := "252fd92fac9656d79e3d6c89d39e4ec112c8d694263877f98c2b7c4685eb87b5", checked := Try.checked }
namespace Rows
def none {H : Type} : Left H := { results := [], args := [] }

/-- 'zzlaws_internal_model_b1.FnAttributeAgreesAtAnyCut': WHATEVER THE INPUT: true; the input reads as it did. -/
def fnAttributeAgreesAtAnyCutSpec : ChangeSpec := { name := "fnAttributeAgreesAtAnyCut", fn := fun _ => fun
  | [d1, d2, d3] => { results := [.lit (.bool true)], args := [d1, d2, d3] }
  | _ => none }
def fnAttributeAgreesAtAnyCutRow : OpenClaim := { program := "qxb6003612a", sum := "252fd92fac9656d79e3d6c89d39e4ec112c8d694263877f98c2b7c4685eb87b5", func := "example.com/modelwright/modelwright/zzlaws_internal_model_b1.FnAttributeAgreesAtAnyCut", spec := "fnAttributeAgreesAtAnyCut", apart := false }
def FnAttributeAgreesAtAnyCutSaid : Prop := fnAttributeAgreesAtAnyCutRow.holds Try.pinned (OpenSpec.ofChange fnAttributeAgreesAtAnyCutSpec)

/-- ITS FALSE NEIGHBOUR: 'it returns false'. Refute it at one input. -/
def fnAttributeAgreesAtAnyCutWrong : ChangeSpec := { name := "fnAttributeAgreesAtAnyCut", fn := fun _ => fun
  | [d1, d2, d3] => { results := [.lit (.bool false)], args := [d1, d2, d3] }
  | _ => none }
def FnAttributeAgreesAtAnyCutWrongFalsely : Prop := fnAttributeAgreesAtAnyCutRow.holds Try.pinned (OpenSpec.ofChange fnAttributeAgreesAtAnyCutWrong)

/-- 'zzlaws_internal_model_b1.FnAttributeOneInsertedAnywhere': WHATEVER THE INPUT: true; the input reads as it did. -/
def fnAttributeOneInsertedAnywhereSpec : ChangeSpec := { name := "fnAttributeOneInsertedAnywhere", fn := fun _ => fun
  | [d1, d2, d3, d4] => { results := [.lit (.bool true)], args := [d1, d2, d3, d4] }
  | _ => none }
def fnAttributeOneInsertedAnywhereRow : OpenClaim := { program := "qxb6003612a", sum := "252fd92fac9656d79e3d6c89d39e4ec112c8d694263877f98c2b7c4685eb87b5", func := "example.com/modelwright/modelwright/zzlaws_internal_model_b1.FnAttributeOneInsertedAnywhere", spec := "fnAttributeOneInsertedAnywhere", apart := false }
def FnAttributeOneInsertedAnywhereSaid : Prop := fnAttributeOneInsertedAnywhereRow.holds Try.pinned (OpenSpec.ofChange fnAttributeOneInsertedAnywhereSpec)

/-- ITS FALSE NEIGHBOUR: 'it returns false'. Refute it at one input. -/
def fnAttributeOneInsertedAnywhereWrong : ChangeSpec := { name := "fnAttributeOneInsertedAnywhere", fn := fun _ => fun
  | [d1, d2, d3, d4] => { results := [.lit (.bool false)], args := [d1, d2, d3, d4] }
  | _ => none }
def FnAttributeOneInsertedAnywhereWrongFalsely : Prop := fnAttributeOneInsertedAnywhereRow.holds Try.pinned (OpenSpec.ofChange fnAttributeOneInsertedAnywhereWrong)

/-- 'zzlaws_internal_model_b1.FnReversedTwiceGivesBack': WHATEVER THE INPUT: true; the input reads as it did. -/
def fnReversedTwiceGivesBackSpec : ChangeSpec := { name := "fnReversedTwiceGivesBack", fn := fun _ => fun
  | [d1, d2, d3, d4, d5, d6, d7, d8, d9, d10] => { results := [.lit (.bool true)], args := [d1, d2, d3, d4, d5, d6, d7, d8, d9, d10] }
  | _ => none }
def fnReversedTwiceGivesBackRow : OpenClaim := { program := "qxb6003612a", sum := "252fd92fac9656d79e3d6c89d39e4ec112c8d694263877f98c2b7c4685eb87b5", func := "example.com/modelwright/modelwright/zzlaws_internal_model_b1.FnReversedTwiceGivesBack", spec := "fnReversedTwiceGivesBack", apart := false }
def FnReversedTwiceGivesBackSaid : Prop := fnReversedTwiceGivesBackRow.holds Try.pinned (OpenSpec.ofChange fnReversedTwiceGivesBackSpec)

/-- ITS FALSE NEIGHBOUR: 'it returns false'. Refute it at one input. -/
def fnReversedTwiceGivesBackWrong : ChangeSpec := { name := "fnReversedTwiceGivesBack", fn := fun _ => fun
  | [d1, d2, d3, d4, d5, d6, d7, d8, d9, d10] => { results := [.lit (.bool false)], args := [d1, d2, d3, d4, d5, d6, d7, d8, d9, d10] }
  | _ => none }
def FnReversedTwiceGivesBackWrongFalsely : Prop := fnReversedTwiceGivesBackRow.holds Try.pinned (OpenSpec.ofChange fnReversedTwiceGivesBackWrong)

/-- 'zzlaws_internal_model_b1.FnReversedKeepsTheSameLinks': WHATEVER THE INPUT: true; the input reads as it did. -/
def fnReversedKeepsTheSameLinksSpec : ChangeSpec := { name := "fnReversedKeepsTheSameLinks", fn := fun _ => fun
  | [d1, d2, d3, d4, d5, d6, d7, d8] => { results := [.lit (.bool true)], args := [d1, d2, d3, d4, d5, d6, d7, d8] }
  | _ => none }
def fnReversedKeepsTheSameLinksRow : OpenClaim := { program := "qxb6003612a", sum := "252fd92fac9656d79e3d6c89d39e4ec112c8d694263877f98c2b7c4685eb87b5", func := "example.com/modelwright/modelwright/zzlaws_internal_model_b1.FnReversedKeepsTheSameLinks", spec := "fnReversedKeepsTheSameLinks", apart := false }
def FnReversedKeepsTheSameLinksSaid : Prop := fnReversedKeepsTheSameLinksRow.holds Try.pinned (OpenSpec.ofChange fnReversedKeepsTheSameLinksSpec)

/-- ITS FALSE NEIGHBOUR: 'it returns false'. Refute it at one input. -/
def fnReversedKeepsTheSameLinksWrong : ChangeSpec := { name := "fnReversedKeepsTheSameLinks", fn := fun _ => fun
  | [d1, d2, d3, d4, d5, d6, d7, d8] => { results := [.lit (.bool false)], args := [d1, d2, d3, d4, d5, d6, d7, d8] }
  | _ => none }
def FnReversedKeepsTheSameLinksWrongFalsely : Prop := fnReversedKeepsTheSameLinksRow.holds Try.pinned (OpenSpec.ofChange fnReversedKeepsTheSameLinksWrong)

end Rows
end Go.Proofs.Qxb6003612a
