/-
  No cell of these rows narrows 'for every input' (looked for: loops, veiled, ifaces, maps, wideKeys, modest, calm, conditions, laid).
  DERIVED. THE GIVEN ROWS OF THIS SEAT. 7 by the template 'for every input the law returns true; each argument reads behind the call as it read before'; 0 by the template 'total and deterministic' (their statements: Qxb6000078aTotals.lean).
  GIVEN WITH THE SEED: the statements are not yours to turn. If you find one false, say at which input.
  Laid BY PROGRAM, IN A SANDBOX (cutbox-rows.mjs): the forced cells as the released guide's own fill.sh prints them over the translation 7eead9cab5d61b52… (all of the seat's roots in one cut). By AI agents, Wed Nov 11 2026. No macro, syntax, notation, axiom, sorry.
-/
import Derived.Test.Qxb6000078aChecked
import GoSem.Claim
import GoSem.ClaimJoined
import GoSem.ClaimMapViews
import Derived.JoinedTies
import Derived.KernelRfl
namespace Go.Proofs.Qxb6000078a
/- THE CELL 'sum', in the pinned program and in every row, IS THE sha256 OF THE DUMP (.gsa) THAT Qxb6000078aProg.lean LOADS. Nothing in Lean hashes anything: it is a label: what it is worth is what the hold of that sum in a sandbox is worth. -/
noncomputable def Try.pinned : Pinned := { name := "qxb6000078a", sum := "7eead9cab5d61b52d5ac9c336606798a38774a5f2fbffbea1802d6954055b6ce", checked := Try.checked }
namespace Rows
def none {H : Type} : Left H := { results := [], args := [] }

/-- 'zzlaws_internal_ring_b1.FnReduceIsLowBitsOfBigEndian': WHATEVER THE INPUT: true; the input reads as it did. -/
def fnReduceIsLowBitsOfBigEndianSpec : ChangeSpec := { name := "fnReduceIsLowBitsOfBigEndian", fn := fun _ => fun
  | [d1, d2] => { results := [.lit (.bool true)], args := [d1, d2] }
  | _ => none }
def fnReduceIsLowBitsOfBigEndianRow : OpenClaim := { program := "qxb6000078a", sum := "7eead9cab5d61b52d5ac9c336606798a38774a5f2fbffbea1802d6954055b6ce", func := "example.com/fingerpost/fingerpost/zzlaws_internal_ring_b1.FnReduceIsLowBitsOfBigEndian", spec := "fnReduceIsLowBitsOfBigEndian", apart := false }
def FnReduceIsLowBitsOfBigEndianSaid : Prop := fnReduceIsLowBitsOfBigEndianRow.holds Try.pinned (OpenSpec.ofChange fnReduceIsLowBitsOfBigEndianSpec)

/-- ITS FALSE NEIGHBOUR: 'it returns false'. Refute it at one input. -/
def fnReduceIsLowBitsOfBigEndianWrong : ChangeSpec := { name := "fnReduceIsLowBitsOfBigEndian", fn := fun _ => fun
  | [d1, d2] => { results := [.lit (.bool false)], args := [d1, d2] }
  | _ => none }
def FnReduceIsLowBitsOfBigEndianWrongFalsely : Prop := fnReduceIsLowBitsOfBigEndianRow.holds Try.pinned (OpenSpec.ofChange fnReduceIsLowBitsOfBigEndianWrong)

/-- 'zzlaws_internal_ring_b1.FnReduceNarrowestWidthWins': WHATEVER THE INPUT: true; the input reads as it did. -/
def fnReduceNarrowestWidthWinsSpec : ChangeSpec := { name := "fnReduceNarrowestWidthWins", fn := fun _ => fun
  | [d1, d2, d3] => { results := [.lit (.bool true)], args := [d1, d2, d3] }
  | _ => none }
def fnReduceNarrowestWidthWinsRow : OpenClaim := { program := "qxb6000078a", sum := "7eead9cab5d61b52d5ac9c336606798a38774a5f2fbffbea1802d6954055b6ce", func := "example.com/fingerpost/fingerpost/zzlaws_internal_ring_b1.FnReduceNarrowestWidthWins", spec := "fnReduceNarrowestWidthWins", apart := false }
def FnReduceNarrowestWidthWinsSaid : Prop := fnReduceNarrowestWidthWinsRow.holds Try.pinned (OpenSpec.ofChange fnReduceNarrowestWidthWinsSpec)

/-- ITS FALSE NEIGHBOUR: 'it returns false'. Refute it at one input. -/
def fnReduceNarrowestWidthWinsWrong : ChangeSpec := { name := "fnReduceNarrowestWidthWins", fn := fun _ => fun
  | [d1, d2, d3] => { results := [.lit (.bool false)], args := [d1, d2, d3] }
  | _ => none }
def FnReduceNarrowestWidthWinsWrongFalsely : Prop := fnReduceNarrowestWidthWinsRow.holds Try.pinned (OpenSpec.ofChange fnReduceNarrowestWidthWinsWrong)

/-- 'zzlaws_internal_ring_b1.FnShiftAddsSignedPowerOfTwo': WHATEVER THE INPUT: true; the input reads as it did. -/
def fnShiftAddsSignedPowerOfTwoSpec : ChangeSpec := { name := "fnShiftAddsSignedPowerOfTwo", fn := fun _ => fun
  | [d1, d2, d3, d4] => { results := [.lit (.bool true)], args := [d1, d2, d3, d4] }
  | _ => none }
def fnShiftAddsSignedPowerOfTwoRow : OpenClaim := { program := "qxb6000078a", sum := "7eead9cab5d61b52d5ac9c336606798a38774a5f2fbffbea1802d6954055b6ce", func := "example.com/fingerpost/fingerpost/zzlaws_internal_ring_b1.FnShiftAddsSignedPowerOfTwo", spec := "fnShiftAddsSignedPowerOfTwo", apart := false }
def FnShiftAddsSignedPowerOfTwoSaid : Prop := fnShiftAddsSignedPowerOfTwoRow.holds Try.pinned (OpenSpec.ofChange fnShiftAddsSignedPowerOfTwoSpec)

/-- ITS FALSE NEIGHBOUR: 'it returns false'. Refute it at one input. -/
def fnShiftAddsSignedPowerOfTwoWrong : ChangeSpec := { name := "fnShiftAddsSignedPowerOfTwo", fn := fun _ => fun
  | [d1, d2, d3, d4] => { results := [.lit (.bool false)], args := [d1, d2, d3, d4] }
  | _ => none }
def FnShiftAddsSignedPowerOfTwoWrongFalsely : Prop := fnShiftAddsSignedPowerOfTwoRow.holds Try.pinned (OpenSpec.ofChange fnShiftAddsSignedPowerOfTwoWrong)

/-- 'zzlaws_internal_ring_b1.FnShiftUpThenDownIsReduce': WHATEVER THE INPUT: true; the input reads as it did. -/
def fnShiftUpThenDownIsReduceSpec : ChangeSpec := { name := "fnShiftUpThenDownIsReduce", fn := fun _ => fun
  | [d1, d2, d3] => { results := [.lit (.bool true)], args := [d1, d2, d3] }
  | _ => none }
def fnShiftUpThenDownIsReduceRow : OpenClaim := { program := "qxb6000078a", sum := "7eead9cab5d61b52d5ac9c336606798a38774a5f2fbffbea1802d6954055b6ce", func := "example.com/fingerpost/fingerpost/zzlaws_internal_ring_b1.FnShiftUpThenDownIsReduce", spec := "fnShiftUpThenDownIsReduce", apart := false }
def FnShiftUpThenDownIsReduceSaid : Prop := fnShiftUpThenDownIsReduceRow.holds Try.pinned (OpenSpec.ofChange fnShiftUpThenDownIsReduceSpec)

/-- ITS FALSE NEIGHBOUR: 'it returns false'. Refute it at one input. -/
def fnShiftUpThenDownIsReduceWrong : ChangeSpec := { name := "fnShiftUpThenDownIsReduce", fn := fun _ => fun
  | [d1, d2, d3] => { results := [.lit (.bool false)], args := [d1, d2, d3] }
  | _ => none }
def FnShiftUpThenDownIsReduceWrongFalsely : Prop := fnShiftUpThenDownIsReduceRow.holds Try.pinned (OpenSpec.ofChange fnShiftUpThenDownIsReduceWrong)

/-- 'zzlaws_internal_ring_b1.FnBetweenIsClockwiseDistance': WHATEVER THE INPUT: true; the input reads as it did. -/
def fnBetweenIsClockwiseDistanceSpec : ChangeSpec := { name := "fnBetweenIsClockwiseDistance", fn := fun _ => fun
  | [d1, d2, d3] => { results := [.lit (.bool true)], args := [d1, d2, d3] }
  | _ => none }
def fnBetweenIsClockwiseDistanceRow : OpenClaim := { program := "qxb6000078a", sum := "7eead9cab5d61b52d5ac9c336606798a38774a5f2fbffbea1802d6954055b6ce", func := "example.com/fingerpost/fingerpost/zzlaws_internal_ring_b1.FnBetweenIsClockwiseDistance", spec := "fnBetweenIsClockwiseDistance", inPlace := ["internal/bytealg.Compare"], apart := false }
def FnBetweenIsClockwiseDistanceSaid : Prop := fnBetweenIsClockwiseDistanceRow.holds Try.pinned (OpenSpec.ofChange fnBetweenIsClockwiseDistanceSpec)

/-- ITS FALSE NEIGHBOUR: 'it returns false'. Refute it at one input. -/
def fnBetweenIsClockwiseDistanceWrong : ChangeSpec := { name := "fnBetweenIsClockwiseDistance", fn := fun _ => fun
  | [d1, d2, d3] => { results := [.lit (.bool false)], args := [d1, d2, d3] }
  | _ => none }
def FnBetweenIsClockwiseDistanceWrongFalsely : Prop := fnBetweenIsClockwiseDistanceRow.holds Try.pinned (OpenSpec.ofChange fnBetweenIsClockwiseDistanceWrong)

/-- 'zzlaws_internal_ring_b1.FnBetweenArcAndComplement': WHATEVER THE INPUT: true; the input reads as it did. -/
def fnBetweenArcAndComplementSpec : ChangeSpec := { name := "fnBetweenArcAndComplement", fn := fun _ => fun
  | [d1, d2, d3] => { results := [.lit (.bool true)], args := [d1, d2, d3] }
  | _ => none }
def fnBetweenArcAndComplementRow : OpenClaim := { program := "qxb6000078a", sum := "7eead9cab5d61b52d5ac9c336606798a38774a5f2fbffbea1802d6954055b6ce", func := "example.com/fingerpost/fingerpost/zzlaws_internal_ring_b1.FnBetweenArcAndComplement", spec := "fnBetweenArcAndComplement", inPlace := ["internal/bytealg.Compare"], apart := false }
def FnBetweenArcAndComplementSaid : Prop := fnBetweenArcAndComplementRow.holds Try.pinned (OpenSpec.ofChange fnBetweenArcAndComplementSpec)

/-- ITS FALSE NEIGHBOUR: 'it returns false'. Refute it at one input. -/
def fnBetweenArcAndComplementWrong : ChangeSpec := { name := "fnBetweenArcAndComplement", fn := fun _ => fun
  | [d1, d2, d3] => { results := [.lit (.bool false)], args := [d1, d2, d3] }
  | _ => none }
def FnBetweenArcAndComplementWrongFalsely : Prop := fnBetweenArcAndComplementRow.holds Try.pinned (OpenSpec.ofChange fnBetweenArcAndComplementWrong)

/-- 'zzlaws_internal_ring_b1.FnBetweenSplitsAnArc': WHATEVER THE INPUT: true; the input reads as it did. -/
def fnBetweenSplitsAnArcSpec : ChangeSpec := { name := "fnBetweenSplitsAnArc", fn := fun _ => fun
  | [d1, d2, d3, d4] => { results := [.lit (.bool true)], args := [d1, d2, d3, d4] }
  | _ => none }
def fnBetweenSplitsAnArcRow : OpenClaim := { program := "qxb6000078a", sum := "7eead9cab5d61b52d5ac9c336606798a38774a5f2fbffbea1802d6954055b6ce", func := "example.com/fingerpost/fingerpost/zzlaws_internal_ring_b1.FnBetweenSplitsAnArc", spec := "fnBetweenSplitsAnArc", inPlace := ["internal/bytealg.Compare"], apart := false }
def FnBetweenSplitsAnArcSaid : Prop := fnBetweenSplitsAnArcRow.holds Try.pinned (OpenSpec.ofChange fnBetweenSplitsAnArcSpec)

/-- ITS FALSE NEIGHBOUR: 'it returns false'. Refute it at one input. -/
def fnBetweenSplitsAnArcWrong : ChangeSpec := { name := "fnBetweenSplitsAnArc", fn := fun _ => fun
  | [d1, d2, d3, d4] => { results := [.lit (.bool false)], args := [d1, d2, d3, d4] }
  | _ => none }
def FnBetweenSplitsAnArcWrongFalsely : Prop := fnBetweenSplitsAnArcRow.holds Try.pinned (OpenSpec.ofChange fnBetweenSplitsAnArcWrong)

end Rows
end Go.Proofs.Qxb6000078a
