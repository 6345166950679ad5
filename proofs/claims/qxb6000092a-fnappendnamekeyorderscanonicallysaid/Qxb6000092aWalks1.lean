/-
  Seat b6000092a: lowerByte, equalFold.
-/
import Derived.Test.Qxb6000092aRows
import Derived.Test.Qxb6000092aPlain
import Derived.Lib.Strings
import Derived.WalkKit
import Derived.WalkSpells
import Derived.WalkLawsBesides
import Derived.BigQuiet
import Derived.Deep.QuietTactic
import Derived.Deep.RegionWith
import Derived.Outline
namespace Go.Proofs.Qxb6000092a
open Go.RowKit

theorem ret_bool {a b : Bool} (h : a = b) : Ending.returned (.bool a) = .returned (.bool b) := by rw [h]
theorem ret_int {k : IntKind} {a b : Int} (h : a = b) : Ending.returned (.int k a) = .returned (.int k b) := by rw [h]

/-- lowerByte, on numbers. -/
def lowN (n : Int) : Int := if 65 ≤ n ∧ n ≤ 90 then n + 32 else n
theorem lowN_low (c : UInt8) : lowN (c.toNat : Int) = ((low c).toNat : Int) := by
  rw [low_toNat]
  unfold lowN
  by_cases h : 65 ≤ c.toNat ∧ c.toNat ≤ 90
  · rw [if_pos h, if_pos (by omega)]; omega
  · rw [if_neg h, if_neg (by omega)]

theorem lowerByte_any (n : Int) (h0 : 0 ≤ n) (h1 : n ≤ 255) (w : World) :
    Calls Try.prog 28 #[.int .u8 n] w fun e w' => e = .returned (.int .u8 (lowN n)) ∧ w' = w := by
  by_cases a : 65 ≤ n
  · by_cases b : n ≤ 90
    · go_enter Try.func28, Try.ntmps28
      go_wp2
      go_ret
      exact ⟨ret_int (by unfold lowN; rw [if_pos ⟨a, b⟩]; go_num), rfl⟩
    · go_enter Try.func28, Try.ntmps28
      go_wp2
      go_ret
      exact ⟨ret_int (by unfold lowN; rw [if_neg (by omega)]), rfl⟩
  · go_enter Try.func28, Try.ntmps28
    go_wp2
    go_ret
    exact ⟨ret_int (by unfold lowN; rw [if_neg (by omega)]), rfl⟩

end Go.Proofs.Qxb6000092a
