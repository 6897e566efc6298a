/-
  No cell of these rows narrows 'for every input' (looked for: loops, veiled, ifaces, maps, wideKeys, modest, calm, conditions, laid).
  DERIVED. THE GIVEN ROWS OF THIS SEAT. 4 by the template 'for every input the law returns true; each argument reads behind the call as it read before'; 0 by the template 'total and deterministic' (their statements: Qxb6605547aTotals.lean).
  GIVEN WITH THE SEED: the statements are not yours to turn. If you find one false, say at which input.
  Laid BY PROGRAM, IN A SANDBOX (cutbox-rows.mjs): the forced cells as the released guide's own fill.sh prints them over the translation d14646851ead6ebf… (all of the seat's roots in one cut). By AI agents, Wed Nov 11 2026. No macro, syntax, notation, axiom, sorry.
-/
import Derived.Test.Qxb6605547aChecked
import GoSem.Claim
import GoSem.ClaimJoined
import GoSem.ClaimMapViews
import Derived.JoinedTies
import Derived.KernelRfl
namespace Go.Proofs.Qxb6605547a
/- THE CELL 'sum', in the pinned program and in every row, IS THE sha256 OF THE DUMP (.gsa) THAT Qxb6605547aProg.lean LOADS. Nothing in Lean hashes anything: it is a label: what it is worth is what the hold of that sum in a sandbox is worth. -/
noncomputable def Try.pinned : Pinned := { name := "qxb6605547a", sum := "d14646851ead6ebf2a43a18c9c55c33061ad28ff3e3419e58c979beb115a1446", checked := Try.checked }
namespace Rows
def none {H : Type} : Left H := { results := [], args := [] }

/-- 'zzlaws_internal_route_b1.FnParamNameExact': WHATEVER THE INPUT: true; the input reads as it did. -/
def fnParamNameExactSpec : ChangeSpec := { name := "fnParamNameExact", fn := fun _ => fun
  | [d] => { results := [.lit (.bool true)], args := [d] }
  | _ => none }
def fnParamNameExactRow : OpenClaim := { program := "qxb6605547a", sum := "d14646851ead6ebf2a43a18c9c55c33061ad28ff3e3419e58c979beb115a1446", func := "example.com/cedro/cedro/zzlaws_internal_route_b1.FnParamNameExact", spec := "fnParamNameExact", apart := false }
def FnParamNameExactSaid : Prop := fnParamNameExactRow.holds Try.pinned (OpenSpec.ofChange fnParamNameExactSpec)

/-- ITS FALSE NEIGHBOUR: 'it returns false'. Refute it at one input. -/
def fnParamNameExactWrong : ChangeSpec := { name := "fnParamNameExact", fn := fun _ => fun
  | [d] => { results := [.lit (.bool false)], args := [d] }
  | _ => none }
def FnParamNameExactWrongFalsely : Prop := fnParamNameExactRow.holds Try.pinned (OpenSpec.ofChange fnParamNameExactWrong)

/-- 'zzlaws_internal_route_b1.FnParamNameRoundTrip': WHATEVER THE INPUT: true; the input reads as it did. -/
def fnParamNameRoundTripSpec : ChangeSpec := { name := "fnParamNameRoundTrip", fn := fun _ => fun
  | [d] => { results := [.lit (.bool true)], args := [d] }
  | _ => none }
def fnParamNameRoundTripRow : OpenClaim := { program := "qxb6605547a", sum := "d14646851ead6ebf2a43a18c9c55c33061ad28ff3e3419e58c979beb115a1446", func := "example.com/cedro/cedro/zzlaws_internal_route_b1.FnParamNameRoundTrip", spec := "fnParamNameRoundTrip", apart := false }
def FnParamNameRoundTripSaid : Prop := fnParamNameRoundTripRow.holds Try.pinned (OpenSpec.ofChange fnParamNameRoundTripSpec)

/-- ITS FALSE NEIGHBOUR: 'it returns false'. Refute it at one input. -/
def fnParamNameRoundTripWrong : ChangeSpec := { name := "fnParamNameRoundTrip", fn := fun _ => fun
  | [d] => { results := [.lit (.bool false)], args := [d] }
  | _ => none }
def FnParamNameRoundTripWrongFalsely : Prop := fnParamNameRoundTripRow.holds Try.pinned (OpenSpec.ofChange fnParamNameRoundTripWrong)

/-- 'zzlaws_internal_route_b1.FnValidNameAlphabet': WHATEVER THE INPUT: true; the input reads as it did. -/
def fnValidNameAlphabetSpec : ChangeSpec := { name := "fnValidNameAlphabet", fn := fun _ => fun
  | [d] => { results := [.lit (.bool true)], args := [d] }
  | _ => none }
def fnValidNameAlphabetRow : OpenClaim := { program := "qxb6605547a", sum := "d14646851ead6ebf2a43a18c9c55c33061ad28ff3e3419e58c979beb115a1446", func := "example.com/cedro/cedro/zzlaws_internal_route_b1.FnValidNameAlphabet", spec := "fnValidNameAlphabet", apart := false }
def FnValidNameAlphabetSaid : Prop := fnValidNameAlphabetRow.holds Try.pinned (OpenSpec.ofChange fnValidNameAlphabetSpec)

/-- ITS FALSE NEIGHBOUR: 'it returns false'. Refute it at one input. -/
def fnValidNameAlphabetWrong : ChangeSpec := { name := "fnValidNameAlphabet", fn := fun _ => fun
  | [d] => { results := [.lit (.bool false)], args := [d] }
  | _ => none }
def FnValidNameAlphabetWrongFalsely : Prop := fnValidNameAlphabetRow.holds Try.pinned (OpenSpec.ofChange fnValidNameAlphabetWrong)

/-- 'zzlaws_internal_route_b1.FnExpandAppendsRestAfterOneSlash': WHATEVER THE INPUT: true; the input reads as it did. -/
def fnExpandAppendsRestAfterOneSlashSpec : ChangeSpec := { name := "fnExpandAppendsRestAfterOneSlash", fn := fun _ => fun
  | [d1, d2, d3, d4, d5, d6] => { results := [.lit (.bool true)], args := [d1, d2, d3, d4, d5, d6] }
  | _ => none }
def fnExpandAppendsRestAfterOneSlashRow : OpenClaim := { program := "qxb6605547a", sum := "d14646851ead6ebf2a43a18c9c55c33061ad28ff3e3419e58c979beb115a1446", func := "example.com/cedro/cedro/zzlaws_internal_route_b1.FnExpandAppendsRestAfterOneSlash", spec := "fnExpandAppendsRestAfterOneSlash", inPlace := ["internal/abi.NoEscape", "internal/bytealg.MakeNoZero"], apart := false }
def FnExpandAppendsRestAfterOneSlashSaid : Prop := fnExpandAppendsRestAfterOneSlashRow.holds Try.pinned (OpenSpec.ofChange fnExpandAppendsRestAfterOneSlashSpec)

/-- ITS FALSE NEIGHBOUR: 'it returns false'. Refute it at one input. -/
def fnExpandAppendsRestAfterOneSlashWrong : ChangeSpec := { name := "fnExpandAppendsRestAfterOneSlash", fn := fun _ => fun
  | [d1, d2, d3, d4, d5, d6] => { results := [.lit (.bool false)], args := [d1, d2, d3, d4, d5, d6] }
  | _ => none }
def FnExpandAppendsRestAfterOneSlashWrongFalsely : Prop := fnExpandAppendsRestAfterOneSlashRow.holds Try.pinned (OpenSpec.ofChange fnExpandAppendsRestAfterOneSlashWrong)

end Rows
end Go.Proofs.Qxb6605547a
