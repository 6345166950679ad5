/-
  DERIVED. GIVEN WITH THE SEED: THE CARDS: each row of Qxb6600808aDoorRows.lean that lists a variable, with what it lists TIED to the program's text (the seventh form; the later family's looks); each row that meets fmt, with fmt's text TOLD by the authors' own Lean function (tested against real Go, not proved from fmt's source: count such statements apart). THE CARD IS WHAT COUNTS. Prove the row's statement (the work); the ties are given (Qxb6600808aDoorTie.lean); close each card by the builder's one call (the guide's Derived/Test/ToyasCard.lean, 'card_holds'). Laid BY PROGRAM, IN A SANDBOX (cutbox-door.mjs). By AI agents, Wed Nov 11 2026. No macro, syntax, notation, axiom, sorry.
-/
import Derived.Test.Qxb6600808aDoorRows
import GoSem.ClaimSeven
namespace Go.Proofs.Qxb6600808aDoor
namespace Rows

/-- THE TIED CARD OF 'zzlaws_server_b1.FnEventTypeStringInjective'. -/
def fnEventTypeStringInjectiveCard : Claim7 := { stood := { row := fnEventTypeStringInjectiveRow, standIns := [], harness := (true, "f999cd5747590082956e1ab672901f803dc132921977a68016923bef9abbf569"), looks := false }, kinds := [], alts := [], laidByText := true, laidKinds := [.data, .data, .data], laidTests := true, laidLooks := .later }
def FnEventTypeStringInjectiveCardSaid : Prop := Claim7.holds Tryd.pinned (.plain (OpenSpec.ofChange fnEventTypeStringInjectiveSpec)) fnEventTypeStringInjectiveCard

/-- THE TIED CARD OF 'zzlaws_server_b1.FnCreateFlagsStringByBits'. -/
def fnCreateFlagsStringByBitsCard : Claim7 := { stood := { row := fnCreateFlagsStringByBitsRow, standIns := [], harness := (true, "f999cd5747590082956e1ab672901f803dc132921977a68016923bef9abbf569"), looks := false }, kinds := [], alts := [], laidByText := true, laidKinds := [.data, .data, .data], laidTests := true, laidLooks := .later }
def FnCreateFlagsStringByBitsCardSaid : Prop := Claim7.holds Tryd.pinned (.plain (OpenSpec.ofChange fnCreateFlagsStringByBitsSpec)) fnCreateFlagsStringByBitsCard

/-- THE TIED CARD OF 'zzlaws_server_b1.FnCreateFlagsStringInjective'. -/
def fnCreateFlagsStringInjectiveCard : Claim7 := { stood := { row := fnCreateFlagsStringInjectiveRow, standIns := [], harness := (true, "f999cd5747590082956e1ab672901f803dc132921977a68016923bef9abbf569"), looks := false }, kinds := [], alts := [], laidByText := true, laidKinds := [.data, .data, .data], laidTests := true, laidLooks := .later }
def FnCreateFlagsStringInjectiveCardSaid : Prop := Claim7.holds Tryd.pinned (.plain (OpenSpec.ofChange fnCreateFlagsStringInjectiveSpec)) fnCreateFlagsStringInjectiveCard
end Rows
end Go.Proofs.Qxb6600808aDoor
