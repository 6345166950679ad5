/-
  Seat b6600808aD: createFlags.String.
-/
import Derived.Test.Qxb6600808aDoorRows
import Derived.Test.Qxb6600808aDoorPlain
import Derived.Test.Qxb6600808aDoorShelf
import Derived.Lib.ItoaLen
import Derived.Lib.Strings
import Derived.Lib.LaidTab
import Derived.WalkKit
import Derived.WalkSpells
import Derived.WalkLawsBesides
import Derived.Outline
namespace Go.Proofs.Qxb6600808aDoor
open Go.RowKit

def bs (l : List UInt8) : ByteArray := ⟨l.toArray⟩
theorem bs_data (l : List UInt8) : (bs l).data.toList = l := rfl
theorem bs_eta (s : ByteArray) : bs s.data.toList = s := rfl
theorem ret_bool {a b : Bool} (h : a = b) : Ending.returned (.bool a) = .returned (.bool b) := by rw [h]
theorem ret_str {a b : ByteArray} (h : a = b) : Ending.returned (.string a) = .returned (.string b) := by rw [h]

theorem bs_append (x y : List UInt8) : bs x ++ bs y = bs (x ++ y) := by
  apply ByteArray.ext
  simp [bs]

/-- The name of the table of powers of ten. -/
def powName : String := (Rows.fnCreateFlagsStringInjectiveRow.laid.getD 2 ("", .nil)).1
/-- The table of powers of ten holds what the program's text lays. -/
def Pow (w : World) : Prop := Lib.TabIs Tryd.prog w powName .u64 Lib.pow10Tab

theorem below_grow (w : World) (k : Nat) (os : Array Obj) : Below w.heap.size w (Sort.grow (w.drewN k) os) :=
  ⟨rfl, rfl, rfl, by show w.heap.size ≤ (w.heap ++ os).size; simp, fun i hi => by show (w.heap ++ os)[i]? = _; rw [Array.getElem?_append_left hi]⟩

theorem itoa_any (n : Int) (h0 : -9223372036854775808 ≤ n) (h1 : n ≤ 9223372036854775807) (w : World) (hp : Pow w) :
    Calls Tryd.prog 12 #[.int .i64 n] w fun e w' => e = .returned (.string (bs (Lib.itoa n))) ∧ Below w.heap.size w w' :=
  (Any.strconv_Itoa Tryd.laysM171 n h0 h1 w hp).mono fun _ _ ⟨he, k, os, hw⟩ => ⟨he, by rw [hw]; exact below_grow w k os⟩

set_option maxHeartbeats 400000 in
theorem flagStr_any (f : Int) (h0 : -2147483648 ≤ f) (h1 : f ≤ 2147483647) (w : World) (hp : Pow w) :
    Calls Tryd.prog 10 #[.int .i32 f] w fun e w' => e = .returned (.string (bs (flagName f))) ∧ Below w.heap.size w w' := by
  by_cases f0 : f = 0
  · subst f0
    go_enter Tryd.func10, Tryd.ntmps10
    go_wp2
    go_ret
    exact ⟨rfl, Below.refl _ _⟩
  by_cases f1 : f = 1
  · subst f1
    go_enter Tryd.func10, Tryd.ntmps10
    go_wp2
    go_ret
    exact ⟨rfl, Below.refl _ _⟩
  by_cases f2 : f = 2
  · subst f2
    go_enter Tryd.func10, Tryd.ntmps10
    go_wp2
    go_ret
    exact ⟨rfl, Below.refl _ _⟩
  by_cases f3 : f = 3
  · subst f3
    go_enter Tryd.func10, Tryd.ntmps10
    go_wp2
    go_ret
    exact ⟨rfl, Below.refl _ _⟩
  have HN : Hid (flagName f = flagsW ++ Lib.itoa f) := flagName_big f0 f1 f2 f3
  have g0 : (f == 0) = false := beq_eq_false_iff_ne.2 f0
  have g1 : (f == 1) = false := beq_eq_false_iff_ne.2 f1
  have g2 : (f == 2) = false := beq_eq_false_iff_ne.2 f2
  have g3 : (f == 3) = false := beq_eq_false_iff_ne.2 f3
  have HP : Hid (Pow w) := hp
  clear f0 f1 f2 f3 hp
  go_enter Tryd.func10, Tryd.ntmps10
  go_wp2_with fail
  refine (itoa_any f (by omega) (by omega) w HP.out).mono ?_
  rintro e w' ⟨rfl, hb⟩
  have hl := Lib.itoa_length_le f (by omega) (by omega)
  have hs : (bs (Lib.itoa f)).size ≤ 21 := hl
  go_wp2
  go_ret
  exact ⟨ret_str (by rw [HN.out, ← bs_append]; rfl), hb⟩

theorem gPow : Tryd.prog.globalNamed powName = some 0 := by kernel_rfl

theorem Pow.below {w w' : World} (h : Pow w) (hb : Below w.heap.size w w') : Pow w' := by
  have hlt : 0 < w.heap.size := by
    have h1 := Lib.TabIs.cell h gPow 0 (by rw [Lib.pow10Tab_length]; decide)
    exact block_lt_of_cell h1
  exact var?_below hb gPow hlt h

theorem zzFlag_any (f : Int) (h0 : -2147483648 ≤ f) (h1 : f ≤ 2147483647) (w : World) (hp : Pow w) :
    Calls Tryd.prog 7 #[.int .i32 f] w fun e w' => e = .returned (.string (bs (flagName f))) ∧ Below w.heap.size w w' := by
  have HP : Hid (Pow w) := hp
  clear hp
  go_enter Tryd.func7, Tryd.ntmps7
  go_wp2_with fail
  refine (flagStr_any f h0 h1 w HP.out).mono ?_
  rintro e w' ⟨rfl, hb⟩
  go_wp2
  go_ret
  exact ⟨rfl, hb⟩

theorem str_eq (x y : List UInt8) : ((bs x).toList == (bs y).toList) = (x == y) := by
  rw [Lib.toList_data, Lib.toList_data]
  rfl

set_option maxHeartbeats 400000 in
theorem law_inj (f g : Int) (h0 : -2147483648 ≤ f) (h1 : f ≤ 2147483647) (k0 : -2147483648 ≤ g) (k1 : g ≤ 2147483647) (w : World) (hp : Pow w) :
    Calls Tryd.prog 5 #[.int .i32 f, .int .i32 g] w fun e w' => e = .returned (.bool true) ∧ Below w.heap.size w w' := by
  have HP : Hid (Pow w) := hp
  clear hp
  by_cases hfg : f = g
  · subst hfg
    go_enter Tryd.func5, Tryd.ntmps5
    go_wp2
    go_ret
    exact ⟨rfl, Below.refl _ _⟩
  · have hne : (f == g) = false := beq_eq_false_iff_ne.2 hfg
    have HN : Hid (((bs (flagName f)).toList == (bs (flagName g)).toList) = false) := by
      unfold Hid
      rw [str_eq]
      exact beq_eq_false_iff_ne.2 (fun h => hfg (flagName_inj h))
    clear hfg
    go_enter Tryd.func5, Tryd.ntmps5
    go_wp2_with fail
    refine (zzFlag_any f h0 h1 w HP.out).mono ?_
    rintro e w1 ⟨rfl, hb1⟩
    go_wp2_with fail
    refine (zzFlag_any g k0 k1 w1 (HP.out.below hb1)).mono ?_
    rintro e w2 ⟨rfl, hb2⟩
    have hn := HN.out
    have HB : Hid (Below w.heap.size w w2) := hb1.trans (hb2.mono hb1.size)
    clear hb1 hb2
    go_wp2
    go_ret
    exact ⟨rfl, HB.out⟩

end Go.Proofs.Qxb6600808aDoor
