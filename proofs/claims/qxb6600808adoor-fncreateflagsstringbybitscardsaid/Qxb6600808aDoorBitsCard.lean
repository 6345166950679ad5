/-
  Seat b6600808aD: the tied card Rows.FnCreateFlagsStringByBitsCardSaid.
-/
import Derived.Test.Qxb6600808aDoorBitsProof
import Derived.Test.Qxb6600808aDoorTie
import Derived.Test.Qxb6600808aDoorCards
import Derived.SevenTiedAt
namespace Go.Proofs.Qxb6600808aDoor
open Go

/-- THE STATEMENT. -/
theorem bits_proved : Rows.FnCreateFlagsStringByBitsCardSaid :=
  Claim7.holds_tied_plain_at .later [] [.data, .data, .data] true Rows.fnCreateFlagsStringByBitsCard.stood.harness false
    bits_row (fun _ h => by cases h) (by kernel_rfl) (fun _ h => by cases h) fnCreateFlagsStringByBits_row_tie rfl ⟨rfl, rfl⟩ (by kernel_rfl) rfl
    (fun f fn hf hfn => by
      obtain rfl : f = 4 := Option.some.inj ((show Tryd.prog.funcNamed Rows.fnCreateFlagsStringByBitsRow.func = some 4 by kernel_rfl).symm.trans hf) |>.symm
      obtain rfl : fn = Tryd.f4 := (Option.some.inj (Tryd.func4.symm.trans hfn)).symm
      exact ⟨by kernel_rfl, fun j t ht => by
        rw [Tryd.params4] at ht
        have hm : t ∈ [21] := by simpa using Array.mem_of_getElem? ht
        have hall : ([21].all fun u => !Tryd.prog.wantsStandIn u) = true := by kernel_rfl
        exact (show Tryd.prog.wantsStandIn t = false by simpa using List.all_eq_true.1 hall t hm)⟩)
    (by kernel_rfl)

end Go.Proofs.Qxb6600808aDoor
