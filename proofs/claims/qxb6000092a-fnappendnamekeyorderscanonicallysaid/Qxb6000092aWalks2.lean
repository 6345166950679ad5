/-
  Seat b6000092a: equalFold.
-/
import Derived.Test.Qxb6000092aWalks1
namespace Go.Proofs.Qxb6000092a
open Go.RowKit

theorem quiet_twice {P : Program} {f : FuncId} {args : Array Value} {w : World} {n x : Nat} {v : Value}
    (h : Calls P f args (w.drewN (n + x)) fun e w' => e = .returned v ∧ w' = w.drewN (n + x)) : Calls P f args (w.drewN (n + x)) fun e w'' => e = .returned v ∧ ∃ m, w'' = w.drewN (n + m) :=
  h.mono fun _ _ ⟨he, hm⟩ => ⟨he, x, hm⟩

theorem lowerByte_u8 (c : UInt8) (w : World) :
    Calls Try.prog 28 #[.int .u8 (c.toNat : Int)] w fun e w' => e = .returned (.int .u8 ((low c).toNat : Int)) ∧ w' = w := by
  have := lowerByte_any (c.toNat : Int) (by omega) (by have := c.toNat_lt; omega) w
  rwa [lowN_low] at this

theorem take_snoc (s : ByteArray) (k : Nat) (h : k < s.size) : s.data.toList.take (k + 1) = s.data.toList.take k ++ [s[k]] := by
  rw [List.take_succ_eq_append_getElem (by simpa using h)]; rfl
theorem data_get (s : ByteArray) (k : Nat) (h : k < s.size) : s.data.toList[k]? = some s[k] := by
  rw [List.getElem?_eq_getElem (by rw [← Lib.size_eq]; exact h)]; rfl

theorem fold_step {a b : ByteArray} {k : Nat} (ha : k < a.size) (hb : k < b.size) (h : fold (a.data.toList.take k) = fold (b.data.toList.take k)) (he : low a[k] = low b[k]) :
    fold (a.data.toList.take (k + 1)) = fold (b.data.toList.take (k + 1)) := by
  rw [take_snoc a k ha, take_snoc b k hb, fold_append, fold_append, h]
  simp [fold, he]
theorem fold_ne {a b : ByteArray} {k : Nat} (ha : k < a.size) (hb : k < b.size) (hne : ¬ (low a[k]).toNat = (low b[k]).toNat) : ¬ fold a.data.toList = fold b.data.toList := by
  intro h
  have := congrArg (fun l : List UInt8 => l[k]?) h
  simp only [fold, List.getElem?_map, data_get a k ha, data_get b k hb, Option.map_some, Option.some.injEq] at this
  exact hne (by rw [this])

set_option maxHeartbeats 400000 in
theorem equalFold_any (a b : ByteArray) (hab : a.size = b.size) (ha : a.size ≤ maxLen) (w : World) :
    Calls Try.prog 26 #[.string a, .string b] w fun e w' => e = .returned (.bool (decide (fold a.data.toList = fold b.data.toList))) ∧ ∃ n, w' = w.drewN n := by
  unfold maxLen at ha
  have HAB : Hid (a.size = b.size) := hab
  have hle : a.size ≤ b.size := by omega
  clear hab
  go_enter Try.func26, Try.ntmps26
  go_wp2
  go_loopw [8] (fun v wr => ∃ k : Nat, k ≤ a.size ∧ v = .int .i64 k ∧ fold (a.data.toList.take k) = fold (b.data.toList.take k) ∧ ∃ n, wr = w.drewN n) (fun v _ => a.size - (intOf v).toNat)
  case atStart => exact ⟨0, Nat.zero_le _, rfl, rfl, 0, rfl⟩
  case round =>
    obtain ⟨k, hk, rfl, hf, n, rfl⟩ := hrel
    have HF : Hid (fold (a.data.toList.take k) = fold (b.data.toList.take k)) := hf
    clear hf
    by_cases hlt : k < a.size
    · have hlb : k < b.size := by omega
      go_wp2
      go_quiet (((go_at_call 28; exact quiet_twice (lowerByte_u8 _ _))))
      go_wp2
      · have hne : ((low a[k]).toNat != (low b[k]).toNat) = true := by
          have h : (((low a[k]).toNat : Int) != (low b[k]).toNat) = true := ‹_›
          simp at h ⊢
          omega
        go_ret
        refine ⟨ret_bool ?_, _, by rw [World.drewN_drewN]⟩
        symm
        rw [decide_eq_false_iff_not]
        exact fold_ne hlt hlb (by simpa using hne)
      · have heq : (low a[k]) = (low b[k]) := by
          have h : (((low a[k]).toNat : Int) != (low b[k]).toNat) = false := ‹_›
          have h2 : (low a[k]).toNat = (low b[k]).toNat := by simp at h; omega
          exact UInt8.toNat_inj.1 h2
        go_roundw
        case rel => exact ⟨k + 1, by omega, by go_num, fold_step hlt hlb HF.out heq, _, rfl⟩
        case measure => simp [intOf]; omega
    · go_wp2
      go_ret
      refine ⟨ret_bool ?_, _, rfl⟩
      symm
      rw [decide_eq_true_iff]
      have h := HF.out
      have e := HAB.out
      rw [List.take_of_length_le (by rw [← Lib.size_eq]; omega), List.take_of_length_le (by rw [← Lib.size_eq]; omega)] at h
      exact h

end Go.Proofs.Qxb6000092a
