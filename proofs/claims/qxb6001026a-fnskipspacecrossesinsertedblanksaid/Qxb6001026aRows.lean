/-
  No cell of these rows narrows 'for every input' (looked for: loops, veiled, ifaces, maps, wideKeys, modest, calm, conditions, laid).
  DERIVED. THE GIVEN ROWS OF THIS SEAT. 6 by the template 'for every input the law returns true; each argument reads behind the call as it read before'; 0 by the template 'total and deterministic' (their statements: Qxb6001026aTotals.lean).
  GIVEN WITH THE SEED: the statements are not yours to turn. If you find one false, say at which input.
  Laid BY PROGRAM, IN A SANDBOX (cutbox-rows.mjs): the forced cells as the released guide's own fill.sh prints them over the translation 38f2706d25db6a2a… (all of the seat's roots in one cut). By AI agents, Wed Nov 11 2026. No macro, syntax, notation, axiom, sorry.
-/
import Derived.Test.Qxb6001026aChecked
import GoSem.Claim
import GoSem.ClaimJoined
import GoSem.ClaimMapViews
import Derived.JoinedTies
import Derived.KernelRfl
namespace Go.Proofs.Qxb6001026a
/- THE CELL 'sum', in the pinned program and in every row, IS THE sha256 OF THE DUMP (.gsa) THAT Qxb6001026aProg.lean LOADS. Nothing in Lean hashes anything: it is a label: what it is worth is what the hold of that sum in a sandbox is worth. -/
noncomputable def Try.pinned : Pinned := { name := "qxb6001026a", sum := "38f2706d25db6a2a4972278f687ff6a0e4722380b0400ee171cd524a9cb46b85", checked := Try.checked }
namespace Rows
def none {H : Type} : Left H := { results := [], args := [] }

/-- 'zzlaws_pkg_asm_b1.FnIsFloatMatchesAutomaton': WHATEVER THE INPUT: true; the input reads as it did. -/
def fnIsFloatMatchesAutomatonSpec : ChangeSpec := { name := "fnIsFloatMatchesAutomaton", fn := fun _ => fun
  | [d] => { results := [.lit (.bool true)], args := [d] }
  | _ => none }
def fnIsFloatMatchesAutomatonRow : OpenClaim := { program := "qxb6001026a", sum := "38f2706d25db6a2a4972278f687ff6a0e4722380b0400ee171cd524a9cb46b85", func := "example.com/wirelens/wirelens/zzlaws_pkg_asm_b1.FnIsFloatMatchesAutomaton", spec := "fnIsFloatMatchesAutomaton", unfollowed := true, recurses := true, apart := false }
def FnIsFloatMatchesAutomatonSaid : Prop := fnIsFloatMatchesAutomatonRow.holds Try.pinned (OpenSpec.ofChange fnIsFloatMatchesAutomatonSpec)

/-- ITS FALSE NEIGHBOUR: 'it returns false'. Refute it at one input. -/
def fnIsFloatMatchesAutomatonWrong : ChangeSpec := { name := "fnIsFloatMatchesAutomaton", fn := fun _ => fun
  | [d] => { results := [.lit (.bool false)], args := [d] }
  | _ => none }
def FnIsFloatMatchesAutomatonWrongFalsely : Prop := fnIsFloatMatchesAutomatonRow.holds Try.pinned (OpenSpec.ofChange fnIsFloatMatchesAutomatonWrong)

/-- 'zzlaws_pkg_asm_b1.FnIsFloatPaddingAndSigns': WHATEVER THE INPUT: true; the input reads as it did. -/
def fnIsFloatPaddingAndSignsSpec : ChangeSpec := { name := "fnIsFloatPaddingAndSigns", fn := fun _ => fun
  | [d] => { results := [.lit (.bool true)], args := [d] }
  | _ => none }
def fnIsFloatPaddingAndSignsRow : OpenClaim := { program := "qxb6001026a", sum := "38f2706d25db6a2a4972278f687ff6a0e4722380b0400ee171cd524a9cb46b85", func := "example.com/wirelens/wirelens/zzlaws_pkg_asm_b1.FnIsFloatPaddingAndSigns", spec := "fnIsFloatPaddingAndSigns", unfollowed := true, recurses := true, apart := false }
def FnIsFloatPaddingAndSignsSaid : Prop := fnIsFloatPaddingAndSignsRow.holds Try.pinned (OpenSpec.ofChange fnIsFloatPaddingAndSignsSpec)

/-- ITS FALSE NEIGHBOUR: 'it returns false'. Refute it at one input. -/
def fnIsFloatPaddingAndSignsWrong : ChangeSpec := { name := "fnIsFloatPaddingAndSigns", fn := fun _ => fun
  | [d] => { results := [.lit (.bool false)], args := [d] }
  | _ => none }
def FnIsFloatPaddingAndSignsWrongFalsely : Prop := fnIsFloatPaddingAndSignsRow.holds Try.pinned (OpenSpec.ofChange fnIsFloatPaddingAndSignsWrong)

/-- 'zzlaws_pkg_asm_b1.FnIsFloatAcceptsShapes': WHATEVER THE INPUT: true; the input reads as it did. -/
def fnIsFloatAcceptsShapesSpec : ChangeSpec := { name := "fnIsFloatAcceptsShapes", fn := fun _ => fun
  | [d1, d2, d3, d4, d5] => { results := [.lit (.bool true)], args := [d1, d2, d3, d4, d5] }
  | _ => none }
def fnIsFloatAcceptsShapesRow : OpenClaim := { program := "qxb6001026a", sum := "38f2706d25db6a2a4972278f687ff6a0e4722380b0400ee171cd524a9cb46b85", func := "example.com/wirelens/wirelens/zzlaws_pkg_asm_b1.FnIsFloatAcceptsShapes", spec := "fnIsFloatAcceptsShapes", unfollowed := true, recurses := true, apart := false }
def FnIsFloatAcceptsShapesSaid : Prop := fnIsFloatAcceptsShapesRow.holds Try.pinned (OpenSpec.ofChange fnIsFloatAcceptsShapesSpec)

/-- ITS FALSE NEIGHBOUR: 'it returns false'. Refute it at one input. -/
def fnIsFloatAcceptsShapesWrong : ChangeSpec := { name := "fnIsFloatAcceptsShapes", fn := fun _ => fun
  | [d1, d2, d3, d4, d5] => { results := [.lit (.bool false)], args := [d1, d2, d3, d4, d5] }
  | _ => none }
def FnIsFloatAcceptsShapesWrongFalsely : Prop := fnIsFloatAcceptsShapesRow.holds Try.pinned (OpenSpec.ofChange fnIsFloatAcceptsShapesWrong)

/-- 'zzlaws_pkg_asm_b1.FnUnescapeInvertsEscape': WHATEVER THE INPUT: true; the input reads as it did. -/
def fnUnescapeInvertsEscapeSpec : ChangeSpec := { name := "fnUnescapeInvertsEscape", fn := fun _ => fun
  | [d1, d2, d3, d4] => { results := [.lit (.bool true)], args := [d1, d2, d3, d4] }
  | _ => none }
def fnUnescapeInvertsEscapeRow : OpenClaim := { program := "qxb6001026a", sum := "38f2706d25db6a2a4972278f687ff6a0e4722380b0400ee171cd524a9cb46b85", func := "example.com/wirelens/wirelens/zzlaws_pkg_asm_b1.FnUnescapeInvertsEscape", spec := "fnUnescapeInvertsEscape", apart := false }
def FnUnescapeInvertsEscapeSaid : Prop := fnUnescapeInvertsEscapeRow.holds Try.pinned (OpenSpec.ofChange fnUnescapeInvertsEscapeSpec)

/-- ITS FALSE NEIGHBOUR: 'it returns false'. Refute it at one input. -/
def fnUnescapeInvertsEscapeWrong : ChangeSpec := { name := "fnUnescapeInvertsEscape", fn := fun _ => fun
  | [d1, d2, d3, d4] => { results := [.lit (.bool false)], args := [d1, d2, d3, d4] }
  | _ => none }
def FnUnescapeInvertsEscapeWrongFalsely : Prop := fnUnescapeInvertsEscapeRow.holds Try.pinned (OpenSpec.ofChange fnUnescapeInvertsEscapeWrong)

/-- 'zzlaws_pkg_asm_b1.FnSkipSpaceIdempotentAndStops': WHATEVER THE INPUT: true; the input reads as it did. -/
def fnSkipSpaceIdempotentAndStopsSpec : ChangeSpec := { name := "fnSkipSpaceIdempotentAndStops", fn := fun _ => fun
  | [d1, d2] => { results := [.lit (.bool true)], args := [d1, d2] }
  | _ => none }
def fnSkipSpaceIdempotentAndStopsRow : OpenClaim := { program := "qxb6001026a", sum := "38f2706d25db6a2a4972278f687ff6a0e4722380b0400ee171cd524a9cb46b85", func := "example.com/wirelens/wirelens/zzlaws_pkg_asm_b1.FnSkipSpaceIdempotentAndStops", spec := "fnSkipSpaceIdempotentAndStops", inPlace := ["internal/bytealg.IndexByte"], apart := false }
def FnSkipSpaceIdempotentAndStopsSaid : Prop := fnSkipSpaceIdempotentAndStopsRow.holds Try.pinned (OpenSpec.ofChange fnSkipSpaceIdempotentAndStopsSpec)

/-- ITS FALSE NEIGHBOUR: 'it returns false'. Refute it at one input. -/
def fnSkipSpaceIdempotentAndStopsWrong : ChangeSpec := { name := "fnSkipSpaceIdempotentAndStops", fn := fun _ => fun
  | [d1, d2] => { results := [.lit (.bool false)], args := [d1, d2] }
  | _ => none }
def FnSkipSpaceIdempotentAndStopsWrongFalsely : Prop := fnSkipSpaceIdempotentAndStopsRow.holds Try.pinned (OpenSpec.ofChange fnSkipSpaceIdempotentAndStopsWrong)

/-- 'zzlaws_pkg_asm_b1.FnSkipSpaceCrossesInsertedBlank': WHATEVER THE INPUT: true; the input reads as it did. -/
def fnSkipSpaceCrossesInsertedBlankSpec : ChangeSpec := { name := "fnSkipSpaceCrossesInsertedBlank", fn := fun _ => fun
  | [d1, d2, d3, d4] => { results := [.lit (.bool true)], args := [d1, d2, d3, d4] }
  | _ => none }
def fnSkipSpaceCrossesInsertedBlankRow : OpenClaim := { program := "qxb6001026a", sum := "38f2706d25db6a2a4972278f687ff6a0e4722380b0400ee171cd524a9cb46b85", func := "example.com/wirelens/wirelens/zzlaws_pkg_asm_b1.FnSkipSpaceCrossesInsertedBlank", spec := "fnSkipSpaceCrossesInsertedBlank", inPlace := ["internal/bytealg.IndexByte"], apart := false }
def FnSkipSpaceCrossesInsertedBlankSaid : Prop := fnSkipSpaceCrossesInsertedBlankRow.holds Try.pinned (OpenSpec.ofChange fnSkipSpaceCrossesInsertedBlankSpec)

/-- ITS FALSE NEIGHBOUR: 'it returns false'. Refute it at one input. -/
def fnSkipSpaceCrossesInsertedBlankWrong : ChangeSpec := { name := "fnSkipSpaceCrossesInsertedBlank", fn := fun _ => fun
  | [d1, d2, d3, d4] => { results := [.lit (.bool false)], args := [d1, d2, d3, d4] }
  | _ => none }
def FnSkipSpaceCrossesInsertedBlankWrongFalsely : Prop := fnSkipSpaceCrossesInsertedBlankRow.holds Try.pinned (OpenSpec.ofChange fnSkipSpaceCrossesInsertedBlankWrong)

end Rows
end Go.Proofs.Qxb6001026a
