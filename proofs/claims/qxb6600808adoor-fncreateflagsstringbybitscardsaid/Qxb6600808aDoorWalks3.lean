/-
  Seat b6600808aD: zzFlagsName; the law FnCreateFlagsStringByBits.
-/
import Derived.Test.Qxb6600808aDoorWalks2
namespace Go.Proofs.Qxb6600808aDoor
open Go.RowKit

theorem and_high (x : Nat) (hx : x < 4294967296) (h : x &&& 4294967292 = 0) : x < 4 := by
  have h1 : (x &&& 4294967292) >>> 2 = x >>> 2 &&& 4294967292 >>> 2 := Nat.shiftRight_and_distrib
  have h2 : 4294967292 >>> 2 = 2 ^ 30 - 1 := by decide
  rw [h, h2, Nat.and_two_pow_sub_one_eq_mod, Nat.shiftRight_eq_div_pow] at h1
  simp at h1
  omega

theorem high_bits (f : Int) (h0 : -2147483648 ≤ f) (h1 : f ≤ 2147483647) (hf : ¬ (f = 0 ∨ f = 1 ∨ f = 2 ∨ f = 3)) : (bits .andNot .i32 f 3 != 0) = true := by
  have key : bits .andNot .i32 f 3 ≠ 0 := by
    intro h
    change IntKind.i32.wrap ((BitVec.ofInt 32 f &&& ~~~BitVec.ofInt 32 3).toNat : Int) = 0 at h
    have hlt := (BitVec.ofInt 32 f &&& ~~~BitVec.ofInt 32 3).isLt
    have hz : (BitVec.ofInt 32 f &&& ~~~BitVec.ofInt 32 3).toNat = 0 := by
      simp only [IntKind.wrap, IntKind.bits, IntKind.signed] at h
      generalize (BitVec.ofInt 32 f &&& ~~~BitVec.ofInt 32 3).toNat = n at *
      simp at h
      split at h <;> omega
    have h3 : (~~~BitVec.ofInt 32 3).toNat = 4294967292 := by decide
    rw [BitVec.toNat_and, h3] at hz
    have hx := and_high _ (BitVec.ofInt 32 f).isLt hz
    rw [BitVec.toNat_ofInt] at hx
    have e : (f % ((2 ^ 32 : Nat) : Int)).toNat = (f % 4294967296).toNat := by rfl
    rw [e] at hx
    omega
  simpa using key

set_option maxHeartbeats 400000 in
theorem flagsName_any (f : Int) (h0 : -2147483648 ≤ f) (h1 : f ≤ 2147483647) (w : World) :
    Calls Tryd.prog 8 #[.int .i32 f] w fun e w' => e = .returned (.string (bs (flagName f))) ∧ Below w.heap.size w w' := by
  by_cases f0 : f = 0
  · subst f0
    have b1 : bits .andNot .i32 0 3 = 0 := by decide
    have b2 : bits .and .i32 0 1 = 0 := by decide
    have b3 : bits .and .i32 0 2 = 0 := by decide
    go_enter Tryd.func8, Tryd.ntmps8
    go_wp2
    go_ret
    exact ⟨rfl, Below.refl _ _⟩
  by_cases f1 : f = 1
  · subst f1
    have b1 : bits .andNot .i32 1 3 = 0 := by decide
    have b2 : bits .and .i32 1 1 = 1 := by decide
    have b3 : bits .and .i32 1 2 = 0 := by decide
    go_enter Tryd.func8, Tryd.ntmps8
    go_wp2
    go_ret
    exact ⟨rfl, Below.refl _ _⟩
  by_cases f2 : f = 2
  · subst f2
    have b1 : bits .andNot .i32 2 3 = 0 := by decide
    have b2 : bits .and .i32 2 1 = 0 := by decide
    have b3 : bits .and .i32 2 2 = 2 := by decide
    have c1 : (⟨#[]⟩ : ByteArray) ++ (⟨#[115, 101, 113, 117, 101, 110, 116, 105, 97, 108]⟩ : ByteArray) = ⟨#[115, 101, 113, 117, 101, 110, 116, 105, 97, 108]⟩ := bs_append [] _
    go_enter Tryd.func8, Tryd.ntmps8
    go_wp2
    go_ret
    exact ⟨rfl, Below.refl _ _⟩
  by_cases f3 : f = 3
  · subst f3
    have b1 : bits .andNot .i32 3 3 = 0 := by decide
    have b2 : bits .and .i32 3 1 = 1 := by decide
    have b3 : bits .and .i32 3 2 = 2 := by decide
    have c1 : (⟨#[101, 112, 104, 101, 109, 101, 114, 97, 108]⟩ : ByteArray) ++ (⟨#[32]⟩ : ByteArray) = ⟨#[101, 112, 104, 101, 109, 101, 114, 97, 108, 32]⟩ := bs_append [101, 112, 104, 101, 109, 101, 114, 97, 108] [32]
    have c2 : (⟨#[101, 112, 104, 101, 109, 101, 114, 97, 108, 32]⟩ : ByteArray) ++ (⟨#[115, 101, 113, 117, 101, 110, 116, 105, 97, 108]⟩ : ByteArray) = ⟨#[101, 112, 104, 101, 109, 101, 114, 97, 108, 32, 115, 101, 113, 117, 101, 110, 116, 105, 97, 108]⟩ := bs_append [101, 112, 104, 101, 109, 101, 114, 97, 108, 32] [115, 101, 113, 117, 101, 110, 116, 105, 97, 108]
    go_enter Tryd.func8, Tryd.ntmps8
    go_wp2
    go_ret
    exact ⟨rfl, Below.refl _ _⟩
  have HN : Hid (flagName f = flagsW ++ Lib.itoa f) := flagName_big f0 f1 f2 f3
  have hb := high_bits f h0 h1 (by omega)
  clear f0 f1 f2 f3
  go_enter Tryd.func8, Tryd.ntmps8
  go_wp2_with fail
  refine (decimal_any f h0 h1 w).mono ?_
  rintro e w' ⟨rfl, hbel⟩
  have hl := Lib.itoa_length_le f (by omega) (by omega)
  have hs : (bs (Lib.itoa f)).size ≤ 21 := hl
  go_wp2
  go_ret
  exact ⟨ret_str (by rw [HN.out, ← bs_append]; rfl), hbel⟩

set_option maxHeartbeats 400000 in
theorem law_bits (f : Int) (h0 : -2147483648 ≤ f) (h1 : f ≤ 2147483647) (w : World) (hp : Pow w) :
    Calls Tryd.prog 4 #[.int .i32 f] w fun e w' => e = .returned (.bool true) ∧ Below w.heap.size w w' := by
  have HP : Hid (Pow w) := hp
  clear hp
  go_enter Tryd.func4, Tryd.ntmps4
  go_wp2_with fail
  refine (zzFlag_any f h0 h1 w HP.out).mono ?_
  rintro e w1 ⟨rfl, hb1⟩
  go_wp2_with fail
  refine (flagsName_any f h0 h1 w1).mono ?_
  rintro e w2 ⟨rfl, hb2⟩
  have HB : Hid (Below w.heap.size w w2) := hb1.trans (hb2.mono hb1.size)
  clear hb1 hb2
  go_wp2
  go_ret
  exact ⟨rfl, HB.out⟩

end Go.Proofs.Qxb6600808aDoor
