/-
  No cell of these rows narrows 'for every input' (looked for: loops, veiled, ifaces, maps, wideKeys, modest, calm, conditions, laid).
  DERIVED. THE GIVEN ROWS OF THIS SEAT. 6 by the template 'for every input the law returns true; each argument reads behind the call as it read before'; 0 by the template 'total and deterministic' (their statements: Qxb6605437aTotals.lean).
  GIVEN WITH THE SEED: the statements are not yours to turn. If you find one false, say at which input.
  Laid BY PROGRAM, IN A SANDBOX (cutbox-rows.mjs): the forced cells as the released guide's own fill.sh prints them over the translation 693bdec21e50415f… (all of the seat's roots in one cut). By AI agents, Wed Nov 11 2026. No macro, syntax, notation, axiom, sorry.
-/
import Derived.Test.Qxb6605437aChecked
import GoSem.Claim
import GoSem.ClaimJoined
import GoSem.ClaimMapViews
import Derived.JoinedTies
import Derived.KernelRfl
namespace Go.Proofs.Qxb6605437a
/- THE CELL 'sum', in the pinned program and in every row, IS THE sha256 OF THE DUMP (.gsa) THAT Qxb6605437aProg.lean LOADS. Nothing in Lean hashes anything: it is a label: what it is worth is what the hold of that sum in a sandbox is worth. -/
noncomputable def Try.pinned : Pinned := { name := "qxb6605437a", sum := "693bdec21e50415f76d3e3e7dde643703a64a83d0cfc68f84dc138bd954c8a36", checked := Try.checked }
namespace Rows
def none {H : Type} : Left H := { results := [], args := [] }

/-- 'zzlaws_internal_figure_b1.FnAbsoluteAddsBackToZero': WHATEVER THE INPUT: true; the input reads as it did. -/
def fnAbsoluteAddsBackToZeroSpec : ChangeSpec := { name := "fnAbsoluteAddsBackToZero", fn := fun _ => fun
  | [d] => { results := [.lit (.bool true)], args := [d] }
  | _ => none }
def fnAbsoluteAddsBackToZeroRow : OpenClaim := { program := "qxb6605437a", sum := "693bdec21e50415f76d3e3e7dde643703a64a83d0cfc68f84dc138bd954c8a36", func := "example.com/tuoguan/tuoguan/zzlaws_internal_figure_b1.FnAbsoluteAddsBackToZero", spec := "fnAbsoluteAddsBackToZero", apart := false }
def FnAbsoluteAddsBackToZeroSaid : Prop := fnAbsoluteAddsBackToZeroRow.holds Try.pinned (OpenSpec.ofChange fnAbsoluteAddsBackToZeroSpec)

/-- ITS FALSE NEIGHBOUR: 'it returns false'. Refute it at one input. -/
def fnAbsoluteAddsBackToZeroWrong : ChangeSpec := { name := "fnAbsoluteAddsBackToZero", fn := fun _ => fun
  | [d] => { results := [.lit (.bool false)], args := [d] }
  | _ => none }
def FnAbsoluteAddsBackToZeroWrongFalsely : Prop := fnAbsoluteAddsBackToZeroRow.holds Try.pinned (OpenSpec.ofChange fnAbsoluteAddsBackToZeroWrong)

/-- 'zzlaws_internal_figure_b1.FnAbsoluteStepsByOneTowardZero': WHATEVER THE INPUT: true; the input reads as it did. -/
def fnAbsoluteStepsByOneTowardZeroSpec : ChangeSpec := { name := "fnAbsoluteStepsByOneTowardZero", fn := fun _ => fun
  | [d] => { results := [.lit (.bool true)], args := [d] }
  | _ => none }
def fnAbsoluteStepsByOneTowardZeroRow : OpenClaim := { program := "qxb6605437a", sum := "693bdec21e50415f76d3e3e7dde643703a64a83d0cfc68f84dc138bd954c8a36", func := "example.com/tuoguan/tuoguan/zzlaws_internal_figure_b1.FnAbsoluteStepsByOneTowardZero", spec := "fnAbsoluteStepsByOneTowardZero", apart := false }
def FnAbsoluteStepsByOneTowardZeroSaid : Prop := fnAbsoluteStepsByOneTowardZeroRow.holds Try.pinned (OpenSpec.ofChange fnAbsoluteStepsByOneTowardZeroSpec)

/-- ITS FALSE NEIGHBOUR: 'it returns false'. Refute it at one input. -/
def fnAbsoluteStepsByOneTowardZeroWrong : ChangeSpec := { name := "fnAbsoluteStepsByOneTowardZero", fn := fun _ => fun
  | [d] => { results := [.lit (.bool false)], args := [d] }
  | _ => none }
def FnAbsoluteStepsByOneTowardZeroWrongFalsely : Prop := fnAbsoluteStepsByOneTowardZeroRow.holds Try.pinned (OpenSpec.ofChange fnAbsoluteStepsByOneTowardZeroWrong)

/-- 'zzlaws_internal_figure_b1.FnIsDigitsCountsEveryByte': WHATEVER THE INPUT: true; the input reads as it did. -/
def fnIsDigitsCountsEveryByteSpec : ChangeSpec := { name := "fnIsDigitsCountsEveryByte", fn := fun _ => fun
  | [d] => { results := [.lit (.bool true)], args := [d] }
  | _ => none }
def fnIsDigitsCountsEveryByteRow : OpenClaim := { program := "qxb6605437a", sum := "693bdec21e50415f76d3e3e7dde643703a64a83d0cfc68f84dc138bd954c8a36", func := "example.com/tuoguan/tuoguan/zzlaws_internal_figure_b1.FnIsDigitsCountsEveryByte", spec := "fnIsDigitsCountsEveryByte", apart := false }
def FnIsDigitsCountsEveryByteSaid : Prop := fnIsDigitsCountsEveryByteRow.holds Try.pinned (OpenSpec.ofChange fnIsDigitsCountsEveryByteSpec)

/-- ITS FALSE NEIGHBOUR: 'it returns false'. Refute it at one input. -/
def fnIsDigitsCountsEveryByteWrong : ChangeSpec := { name := "fnIsDigitsCountsEveryByte", fn := fun _ => fun
  | [d] => { results := [.lit (.bool false)], args := [d] }
  | _ => none }
def FnIsDigitsCountsEveryByteWrongFalsely : Prop := fnIsDigitsCountsEveryByteRow.holds Try.pinned (OpenSpec.ofChange fnIsDigitsCountsEveryByteWrong)

/-- 'zzlaws_internal_figure_b1.FnIsDigitsSplitsOverConcatenation': WHATEVER THE INPUT: true; the input reads as it did. -/
def fnIsDigitsSplitsOverConcatenationSpec : ChangeSpec := { name := "fnIsDigitsSplitsOverConcatenation", fn := fun _ => fun
  | [d1, d2, d3] => { results := [.lit (.bool true)], args := [d1, d2, d3] }
  | _ => none }
def fnIsDigitsSplitsOverConcatenationRow : OpenClaim := { program := "qxb6605437a", sum := "693bdec21e50415f76d3e3e7dde643703a64a83d0cfc68f84dc138bd954c8a36", func := "example.com/tuoguan/tuoguan/zzlaws_internal_figure_b1.FnIsDigitsSplitsOverConcatenation", spec := "fnIsDigitsSplitsOverConcatenation", apart := false }
def FnIsDigitsSplitsOverConcatenationSaid : Prop := fnIsDigitsSplitsOverConcatenationRow.holds Try.pinned (OpenSpec.ofChange fnIsDigitsSplitsOverConcatenationSpec)

/-- ITS FALSE NEIGHBOUR: 'it returns false'. Refute it at one input. -/
def fnIsDigitsSplitsOverConcatenationWrong : ChangeSpec := { name := "fnIsDigitsSplitsOverConcatenation", fn := fun _ => fun
  | [d1, d2, d3] => { results := [.lit (.bool false)], args := [d1, d2, d3] }
  | _ => none }
def FnIsDigitsSplitsOverConcatenationWrongFalsely : Prop := fnIsDigitsSplitsOverConcatenationRow.holds Try.pinned (OpenSpec.ofChange fnIsDigitsSplitsOverConcatenationWrong)

/-- 'zzlaws_internal_figure_b1.FnIsPlainMatchesAutomaton': WHATEVER THE INPUT: true; the input reads as it did. -/
def fnIsPlainMatchesAutomatonSpec : ChangeSpec := { name := "fnIsPlainMatchesAutomaton", fn := fun _ => fun
  | [d] => { results := [.lit (.bool true)], args := [d] }
  | _ => none }
def fnIsPlainMatchesAutomatonRow : OpenClaim := { program := "qxb6605437a", sum := "693bdec21e50415f76d3e3e7dde643703a64a83d0cfc68f84dc138bd954c8a36", func := "example.com/tuoguan/tuoguan/zzlaws_internal_figure_b1.FnIsPlainMatchesAutomaton", spec := "fnIsPlainMatchesAutomaton", inPlace := ["internal/bytealg.IndexByteString", "internal/bytealg.IndexString"], named := ["internal/bytealg.MaxLen"], apart := false }
def FnIsPlainMatchesAutomatonSaid : Prop := fnIsPlainMatchesAutomatonRow.holds Try.pinned (OpenSpec.ofChange fnIsPlainMatchesAutomatonSpec)

/-- ITS FALSE NEIGHBOUR: 'it returns false'. Refute it at one input. -/
def fnIsPlainMatchesAutomatonWrong : ChangeSpec := { name := "fnIsPlainMatchesAutomaton", fn := fun _ => fun
  | [d] => { results := [.lit (.bool false)], args := [d] }
  | _ => none }
def FnIsPlainMatchesAutomatonWrongFalsely : Prop := fnIsPlainMatchesAutomatonRow.holds Try.pinned (OpenSpec.ofChange fnIsPlainMatchesAutomatonWrong)

/-- 'zzlaws_internal_figure_b1.FnIsPlainSignedPointFromParts': WHATEVER THE INPUT: true; the input reads as it did. -/
def fnIsPlainSignedPointFromPartsSpec : ChangeSpec := { name := "fnIsPlainSignedPointFromParts", fn := fun _ => fun
  | [d1, d2] => { results := [.lit (.bool true)], args := [d1, d2] }
  | _ => none }
def fnIsPlainSignedPointFromPartsRow : OpenClaim := { program := "qxb6605437a", sum := "693bdec21e50415f76d3e3e7dde643703a64a83d0cfc68f84dc138bd954c8a36", func := "example.com/tuoguan/tuoguan/zzlaws_internal_figure_b1.FnIsPlainSignedPointFromParts", spec := "fnIsPlainSignedPointFromParts", inPlace := ["internal/bytealg.IndexByteString", "internal/bytealg.IndexString"], named := ["internal/bytealg.MaxLen"], apart := false }
def FnIsPlainSignedPointFromPartsSaid : Prop := fnIsPlainSignedPointFromPartsRow.holds Try.pinned (OpenSpec.ofChange fnIsPlainSignedPointFromPartsSpec)

/-- ITS FALSE NEIGHBOUR: 'it returns false'. Refute it at one input. -/
def fnIsPlainSignedPointFromPartsWrong : ChangeSpec := { name := "fnIsPlainSignedPointFromParts", fn := fun _ => fun
  | [d1, d2] => { results := [.lit (.bool false)], args := [d1, d2] }
  | _ => none }
def FnIsPlainSignedPointFromPartsWrongFalsely : Prop := fnIsPlainSignedPointFromPartsRow.holds Try.pinned (OpenSpec.ofChange fnIsPlainSignedPointFromPartsWrong)

end Rows
end Go.Proofs.Qxb6605437a
