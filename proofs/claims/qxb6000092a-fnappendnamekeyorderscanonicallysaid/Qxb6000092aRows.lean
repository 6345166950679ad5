/-
  No cell of these rows narrows 'for every input' (looked for: loops, veiled, ifaces, maps, wideKeys, modest, calm, conditions, laid).
  DERIVED. THE GIVEN ROWS OF THIS SEAT. 5 by the template 'for every input the law returns true; each argument reads behind the call as it read before'; 0 by the template 'total and deterministic' (their statements: Qxb6000092aTotals.lean).
  GIVEN WITH THE SEED: the statements are not yours to turn. If you find one false, say at which input.
  Laid BY PROGRAM, IN A SANDBOX (cutbox-rows.mjs): the forced cells as the released guide's own fill.sh prints them over the translation 36bc9268a09ff13b… (all of the seat's roots in one cut). By AI agents, Wed Nov 11 2026. No macro, syntax, notation, axiom, sorry.
-/
import Derived.Test.Qxb6000092aChecked
import GoSem.Claim
import GoSem.ClaimJoined
import GoSem.ClaimMapViews
import Derived.JoinedTies
import Derived.KernelRfl
namespace Go.Proofs.Qxb6000092a
/- THE CELL 'sum', in the pinned program and in every row, IS THE sha256 OF THE DUMP (.gsa) THAT Qxb6000092aProg.lean LOADS. Nothing in Lean hashes anything: it is a label: what it is worth is what the hold of that sum in a sandbox is worth. -/
noncomputable def Try.pinned : Pinned := { name := "qxb6000092a", sum := "36bc9268a09ff13b2d720ab6afd6a574e1c5bd7a916aecebe6475285ed311555", checked := Try.checked }
namespace Rows
def none {H : Type} : Left H := { results := [], args := [] }

/-- 'zzlaws_dns_b1.FnAppendTypeBitMapsDecodes': WHATEVER THE INPUT: true; the input reads as it did. -/
def fnAppendTypeBitMapsDecodesSpec : ChangeSpec := { name := "fnAppendTypeBitMapsDecodes", fn := fun _ => fun
  | [d1, d2] => { results := [.lit (.bool true)], args := [d1, d2] }
  | _ => none }
def fnAppendTypeBitMapsDecodesRow : OpenClaim := { program := "qxb6000092a", sum := "36bc9268a09ff13b2d720ab6afd6a574e1c5bd7a916aecebe6475285ed311555", func := "example.com/zonewright/zonewright/zzlaws_dns_b1.FnAppendTypeBitMapsDecodes", spec := "fnAppendTypeBitMapsDecodes", apart := false }
def FnAppendTypeBitMapsDecodesSaid : Prop := fnAppendTypeBitMapsDecodesRow.holds Try.pinned (OpenSpec.ofChange fnAppendTypeBitMapsDecodesSpec)

/-- ITS FALSE NEIGHBOUR: 'it returns false'. Refute it at one input. -/
def fnAppendTypeBitMapsDecodesWrong : ChangeSpec := { name := "fnAppendTypeBitMapsDecodes", fn := fun _ => fun
  | [d1, d2] => { results := [.lit (.bool false)], args := [d1, d2] }
  | _ => none }
def FnAppendTypeBitMapsDecodesWrongFalsely : Prop := fnAppendTypeBitMapsDecodesRow.holds Try.pinned (OpenSpec.ofChange fnAppendTypeBitMapsDecodesWrong)

/-- 'zzlaws_dns_b1.FnAppendNameKeyDecodes': WHATEVER THE INPUT: true; the input reads as it did. -/
def fnAppendNameKeyDecodesSpec : ChangeSpec := { name := "fnAppendNameKeyDecodes", fn := fun _ => fun
  | [d1, d2] => { results := [.lit (.bool true)], args := [d1, d2] }
  | _ => none }
def fnAppendNameKeyDecodesRow : OpenClaim := { program := "qxb6000092a", sum := "36bc9268a09ff13b2d720ab6afd6a574e1c5bd7a916aecebe6475285ed311555", func := "example.com/zonewright/zonewright/zzlaws_dns_b1.FnAppendNameKeyDecodes", spec := "fnAppendNameKeyDecodes", apart := false }
def FnAppendNameKeyDecodesSaid : Prop := fnAppendNameKeyDecodesRow.holds Try.pinned (OpenSpec.ofChange fnAppendNameKeyDecodesSpec)

/-- ITS FALSE NEIGHBOUR: 'it returns false'. Refute it at one input. -/
def fnAppendNameKeyDecodesWrong : ChangeSpec := { name := "fnAppendNameKeyDecodes", fn := fun _ => fun
  | [d1, d2] => { results := [.lit (.bool false)], args := [d1, d2] }
  | _ => none }
def FnAppendNameKeyDecodesWrongFalsely : Prop := fnAppendNameKeyDecodesRow.holds Try.pinned (OpenSpec.ofChange fnAppendNameKeyDecodesWrong)

/-- 'zzlaws_dns_b1.FnAppendNameKeyOrdersCanonically': WHATEVER THE INPUT: true; the input reads as it did. -/
def fnAppendNameKeyOrdersCanonicallySpec : ChangeSpec := { name := "fnAppendNameKeyOrdersCanonically", fn := fun _ => fun
  | [d1, d2] => { results := [.lit (.bool true)], args := [d1, d2] }
  | _ => none }
def fnAppendNameKeyOrdersCanonicallyRow : OpenClaim := { program := "qxb6000092a", sum := "36bc9268a09ff13b2d720ab6afd6a574e1c5bd7a916aecebe6475285ed311555", func := "example.com/zonewright/zonewright/zzlaws_dns_b1.FnAppendNameKeyOrdersCanonically", spec := "fnAppendNameKeyOrdersCanonically", apart := false }
def FnAppendNameKeyOrdersCanonicallySaid : Prop := fnAppendNameKeyOrdersCanonicallyRow.holds Try.pinned (OpenSpec.ofChange fnAppendNameKeyOrdersCanonicallySpec)

/-- ITS FALSE NEIGHBOUR: 'it returns false'. Refute it at one input. -/
def fnAppendNameKeyOrdersCanonicallyWrong : ChangeSpec := { name := "fnAppendNameKeyOrdersCanonically", fn := fun _ => fun
  | [d1, d2] => { results := [.lit (.bool false)], args := [d1, d2] }
  | _ => none }
def FnAppendNameKeyOrdersCanonicallyWrongFalsely : Prop := fnAppendNameKeyOrdersCanonicallyRow.holds Try.pinned (OpenSpec.ofChange fnAppendNameKeyOrdersCanonicallyWrong)

/-- 'zzlaws_dns_b1.FnInZoneIsLabelSuffix': WHATEVER THE INPUT: true; the input reads as it did. -/
def fnInZoneIsLabelSuffixSpec : ChangeSpec := { name := "fnInZoneIsLabelSuffix", fn := fun _ => fun
  | [d1, d2] => { results := [.lit (.bool true)], args := [d1, d2] }
  | _ => none }
def fnInZoneIsLabelSuffixRow : OpenClaim := { program := "qxb6000092a", sum := "36bc9268a09ff13b2d720ab6afd6a574e1c5bd7a916aecebe6475285ed311555", func := "example.com/zonewright/zonewright/zzlaws_dns_b1.FnInZoneIsLabelSuffix", spec := "fnInZoneIsLabelSuffix", apart := false }
def FnInZoneIsLabelSuffixSaid : Prop := fnInZoneIsLabelSuffixRow.holds Try.pinned (OpenSpec.ofChange fnInZoneIsLabelSuffixSpec)

/-- ITS FALSE NEIGHBOUR: 'it returns false'. Refute it at one input. -/
def fnInZoneIsLabelSuffixWrong : ChangeSpec := { name := "fnInZoneIsLabelSuffix", fn := fun _ => fun
  | [d1, d2] => { results := [.lit (.bool false)], args := [d1, d2] }
  | _ => none }
def FnInZoneIsLabelSuffixWrongFalsely : Prop := fnInZoneIsLabelSuffixRow.holds Try.pinned (OpenSpec.ofChange fnInZoneIsLabelSuffixWrong)

/-- 'zzlaws_dns_b1.FnInZoneAgreesWithKeyPrefix': WHATEVER THE INPUT: true; the input reads as it did. -/
def fnInZoneAgreesWithKeyPrefixSpec : ChangeSpec := { name := "fnInZoneAgreesWithKeyPrefix", fn := fun _ => fun
  | [d1, d2] => { results := [.lit (.bool true)], args := [d1, d2] }
  | _ => none }
def fnInZoneAgreesWithKeyPrefixRow : OpenClaim := { program := "qxb6000092a", sum := "36bc9268a09ff13b2d720ab6afd6a574e1c5bd7a916aecebe6475285ed311555", func := "example.com/zonewright/zonewright/zzlaws_dns_b1.FnInZoneAgreesWithKeyPrefix", spec := "fnInZoneAgreesWithKeyPrefix", apart := false }
def FnInZoneAgreesWithKeyPrefixSaid : Prop := fnInZoneAgreesWithKeyPrefixRow.holds Try.pinned (OpenSpec.ofChange fnInZoneAgreesWithKeyPrefixSpec)

/-- ITS FALSE NEIGHBOUR: 'it returns false'. Refute it at one input. -/
def fnInZoneAgreesWithKeyPrefixWrong : ChangeSpec := { name := "fnInZoneAgreesWithKeyPrefix", fn := fun _ => fun
  | [d1, d2] => { results := [.lit (.bool false)], args := [d1, d2] }
  | _ => none }
def FnInZoneAgreesWithKeyPrefixWrongFalsely : Prop := fnInZoneAgreesWithKeyPrefixRow.holds Try.pinned (OpenSpec.ofChange fnInZoneAgreesWithKeyPrefixWrong)

end Rows
end Go.Proofs.Qxb6000092a
