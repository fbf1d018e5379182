/-
  No cell of these rows narrows 'for every input' (looked for: loops, veiled, ifaces, maps, wideKeys, modest, calm, conditions, laid).
  DERIVED. THE GIVEN ROWS OF THIS SEAT. 3 by the template 'for every input the law returns true; each argument reads behind the call as it read before'; 0 by the template 'total and deterministic' (their statements: Qxb6001438aTotals.lean).
  GIVEN WITH THE SEED: the statements are not yours to turn. If you find one false, say at which input.
  Laid BY PROGRAM, IN A SANDBOX (cutbox-rows.mjs): the forced cells as the released guide's own fill.sh prints them over the translation 4b8a8fd576a62ef6… (all of the seat's roots in one cut). By AI agents, Wed Nov 11 2026. No macro, syntax, notation, axiom, sorry.
-/
import Derived.Test.Qxb6001438aChecked
import GoSem.Claim
import GoSem.ClaimJoined
import GoSem.ClaimMapViews
import Derived.JoinedTies
import Derived.KernelRfl
namespace Go.Proofs.Qxb6001438a
/- THE CELL 'sum', in the pinned program and in every row, IS THE sha256 OF THE DUMP (.gsa) THAT Qxb6001438aProg.lean LOADS. Nothing in Lean hashes anything: it is a label: what it is worth is what the hold of that sum in a sandbox is worth. -/
noncomputable def Try.pinned : Pinned := { name := "qxb6001438a", sum := "4b8a8fd576a62ef6e8fbb8fb0e467c1705193d2a5a5e3c5ce831ffe18a0b2d10", checked := Try.checked }
namespace Rows
def none {H : Type} : Left H := { results := [], args := [] }

/-- 'zzlaws_root_b1.FnEscapeRoundTrip': WHATEVER THE INPUT: true; the input reads as it did. -/
def fnEscapeRoundTripSpec : ChangeSpec := { name := "fnEscapeRoundTrip", fn := fun _ => fun
  | [d] => { results := [.lit (.bool true)], args := [d] }
  | _ => none }
def fnEscapeRoundTripRow : OpenClaim := { program := "qxb6001438a", sum := "4b8a8fd576a62ef6e8fbb8fb0e467c1705193d2a5a5e3c5ce831ffe18a0b2d10", func := "example.com/sealwright/sealwright/zzlaws_root_b1.FnEscapeRoundTrip", spec := "fnEscapeRoundTrip", apart := false }
def FnEscapeRoundTripSaid : Prop := fnEscapeRoundTripRow.holds Try.pinned (OpenSpec.ofChange fnEscapeRoundTripSpec)

/-- ITS FALSE NEIGHBOUR: 'it returns false'. Refute it at one input. -/
def fnEscapeRoundTripWrong : ChangeSpec := { name := "fnEscapeRoundTrip", fn := fun _ => fun
  | [d] => { results := [.lit (.bool false)], args := [d] }
  | _ => none }
def FnEscapeRoundTripWrongFalsely : Prop := fnEscapeRoundTripRow.holds Try.pinned (OpenSpec.ofChange fnEscapeRoundTripWrong)

/-- 'zzlaws_root_b1.FnEscapeFixedPointsAndLength': WHATEVER THE INPUT: true; the input reads as it did. -/
def fnEscapeFixedPointsAndLengthSpec : ChangeSpec := { name := "fnEscapeFixedPointsAndLength", fn := fun _ => fun
  | [d] => { results := [.lit (.bool true)], args := [d] }
  | _ => none }
def fnEscapeFixedPointsAndLengthRow : OpenClaim := { program := "qxb6001438a", sum := "4b8a8fd576a62ef6e8fbb8fb0e467c1705193d2a5a5e3c5ce831ffe18a0b2d10", func := "example.com/sealwright/sealwright/zzlaws_root_b1.FnEscapeFixedPointsAndLength", spec := "fnEscapeFixedPointsAndLength", apart := false }
def FnEscapeFixedPointsAndLengthSaid : Prop := fnEscapeFixedPointsAndLengthRow.holds Try.pinned (OpenSpec.ofChange fnEscapeFixedPointsAndLengthSpec)

/-- ITS FALSE NEIGHBOUR: 'it returns false'. Refute it at one input. -/
def fnEscapeFixedPointsAndLengthWrong : ChangeSpec := { name := "fnEscapeFixedPointsAndLength", fn := fun _ => fun
  | [d] => { results := [.lit (.bool false)], args := [d] }
  | _ => none }
def FnEscapeFixedPointsAndLengthWrongFalsely : Prop := fnEscapeFixedPointsAndLengthRow.holds Try.pinned (OpenSpec.ofChange fnEscapeFixedPointsAndLengthWrong)

/-- 'zzlaws_root_b1.FnEscapeConcat': WHATEVER THE INPUT: true; the input reads as it did. -/
def fnEscapeConcatSpec : ChangeSpec := { name := "fnEscapeConcat", fn := fun _ => fun
  | [d1, d2] => { results := [.lit (.bool true)], args := [d1, d2] }
  | _ => none }
def fnEscapeConcatRow : OpenClaim := { program := "qxb6001438a", sum := "4b8a8fd576a62ef6e8fbb8fb0e467c1705193d2a5a5e3c5ce831ffe18a0b2d10", func := "example.com/sealwright/sealwright/zzlaws_root_b1.FnEscapeConcat", spec := "fnEscapeConcat", apart := false }
def FnEscapeConcatSaid : Prop := fnEscapeConcatRow.holds Try.pinned (OpenSpec.ofChange fnEscapeConcatSpec)

/-- ITS FALSE NEIGHBOUR: 'it returns false'. Refute it at one input. -/
def fnEscapeConcatWrong : ChangeSpec := { name := "fnEscapeConcat", fn := fun _ => fun
  | [d1, d2] => { results := [.lit (.bool false)], args := [d1, d2] }
  | _ => none }
def FnEscapeConcatWrongFalsely : Prop := fnEscapeConcatRow.holds Try.pinned (OpenSpec.ofChange fnEscapeConcatWrong)

end Rows
end Go.Proofs.Qxb6001438a
