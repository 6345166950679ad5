/-
  Seat b6000092a: validName; the three bounds on total length.
-/
import Derived.Test.Qxb6000092aWalks2
namespace Go.Proofs.Qxb6000092a
open Go.RowKit

/-- A name in wire form within the limits. -/
def IsName (s : ByteArray) : Prop := s.size ≤ 255 ∧ ∃ N, s.data.toList = enc N ∧ Labs N

theorem valid_end {s : ByteArray} {k : Nat} {P : List (List UInt8)} (hk : k < s.size) (hP : Labs P) (h : s.data.toList.take k = encP P) (hz : s[k].toNat = 0) (he : k + 1 = s.size) (hs : s.size ≤ 255) : IsName s := by
  refine ⟨hs, P, ?_, hP⟩
  have e : s.data.toList = s.data.toList.take (k + 1) := (List.take_of_length_le (by rw [← Lib.size_eq]; omega)).symm
  rw [e, take_snoc s k hk, h]
  have : s[k] = 0 := UInt8.toNat_inj.1 hz
  rw [this]
  rfl

theorem valid_step {s : ByteArray} {k : Nat} {P : List (List UInt8)} (hk : k < s.size) (hP : Labs P) (h : s.data.toList.take k = encP P) (h1 : 1 ≤ s[k].toNat) (h2 : s[k].toNat ≤ 63) (hle : k + 1 + s[k].toNat ≤ s.size) :
    ∃ P', Labs P' ∧ s.data.toList.take (k + 1 + s[k].toNat) = encP P' := by
  have hl : ((s.data.toList.drop (k + 1)).take s[k].toNat).length = s[k].toNat := by
    rw [List.length_take, List.length_drop, ← Lib.size_eq]; omega
  refine ⟨P ++ [(s.data.toList.drop (k + 1)).take s[k].toNat], hP.snoc (by rw [hl]; exact h1) (by rw [hl]; exact h2), ?_⟩
  rw [encP_append, List.take_add, take_snoc s k hk, h, List.append_assoc]
  congr 1
  simp only [encP, List.append_nil]
  rw [hl]
  simp

/-- It answers a bool; if it is true, C holds; the world is as it was. -/
def BoolIf (C : Prop) (w : World) (e : Ending) (w' : World) : Prop := ∃ b, e = .returned (.bool b) ∧ (b = true → C) ∧ w = w'

set_option maxHeartbeats 1000000 in
theorem validName_any (s : ByteArray) (hs : s.size ≤ maxLen) (w : World) :
    Calls Try.prog 13 #[.string s] w (BoolIf (IsName s) w) := by
  unfold maxLen at hs
  by_cases h0 : s.size = 0
  · have h0' : ((s.size : Int) == 0) = true := beq_iff_eq.2 (by omega)
    clear h0
    go_enter Try.func13, Try.ntmps13
    go_wp2
    go_ret
    exact ⟨false, rfl, fun h => by simp at h, rfl⟩
  · have h0' : ((s.size : Int) == 0) = false := beq_eq_false_iff_ne.2 (by omega)
    by_cases h1 : 255 < s.size
    · clear h0
      go_enter Try.func13, Try.ntmps13
      go_wp2
      go_ret
      exact ⟨false, rfl, fun h => by simp at h, rfl⟩
    · clear h0
      go_enter Try.func13, Try.ntmps13
      go_wp2
      go_loop [3] (fun v => ∃ k : Nat, v = .int .i64 k ∧ k ≤ s.size + 64 ∧ (k ≤ s.size → ∃ P, Labs P ∧ s.data.toList.take k = encP P)) (fun v => s.size + 64 - (intOf v).toNat)
      case atStart => exact ⟨0, rfl, by omega, fun _ => ⟨[], fun x hx => by simp at hx, rfl⟩⟩
      case round =>
        obtain ⟨k, rfl, hk, hP⟩ := hrel
        have HP : Hid (k ≤ s.size → ∃ P, Labs P ∧ s.data.toList.take k = encP P) := hP
        clear hP
        by_cases hlt : k < s.size
        · have hb := s[k].toNat_lt
          by_cases hz : s[k].toNat = 0
          · have hz' : ((s[k].toNat : Int) == 0) = true := beq_iff_eq.2 (by omega)
            have HZ : Hid (s[k].toNat = 0) := hz
            clear hz
            go_wp2
            go_ret
            refine ⟨_, rfl, ?_, rfl⟩
            intro h
            obtain ⟨P, h3, h4⟩ := HP.out (by omega)
            have h5 : (k : Int) = (s.size : Int) - 1 := by simpa using h
            exact valid_end hlt h3 h4 HZ.out (by omega) (by omega)
          · have hz' : ((s[k].toNat : Int) == 0) = false := beq_eq_false_iff_ne.2 (by omega)
            have hp : 1 ≤ s[k].toNat := by omega
            clear hz
            by_cases h63 : 63 < s[k].toNat
            · go_wp2
              go_ret
              exact ⟨false, rfl, fun h => by simp at h, rfl⟩
            · go_wp2
              go_round
              case rel =>
                refine ⟨k + 1 + s[k].toNat, by go_num, by omega, ?_⟩
                intro hle
                obtain ⟨P, h3, h4⟩ := HP.out (by omega)
                exact valid_step hlt h3 h4 hp (by omega) hle
              case measure => simp [intOf]; omega
        · go_wp2
          go_ret
          exact ⟨false, rfl, fun h => by simp at h, rfl⟩

theorem bytes20_any (s t : ByteArray) (hs : s.size ≤ maxLen) (ht : t.size ≤ maxLen) (w : World) :
    Calls Try.prog 20 #[.string s, .string t] w (BoolIf (s.size + t.size ≤ 1048576) w) := by
  unfold maxLen at hs ht
  go_enter Try.func20, Try.ntmps20
  go_wp2
  all_goals (go_ret; first | exact ⟨true, rfl, fun _ => by omega, rfl⟩ | exact ⟨false, rfl, fun h => by simp at h, rfl⟩)

theorem bytes17_any (s t : ByteArray) (hs : s.size ≤ maxLen) (ht : t.size ≤ maxLen) (w : World) :
    Calls Try.prog 17 #[.string s, .string t] w (BoolIf (s.size + t.size ≤ 1048576) w) := by
  unfold maxLen at hs ht
  go_enter Try.func17, Try.ntmps17
  go_wp2
  all_goals (go_ret; first | exact ⟨true, rfl, fun _ => by omega, rfl⟩ | exact ⟨false, rfl, fun h => by simp at h, rfl⟩)

theorem bytes22_any (s t : ByteArray) (hs : s.size ≤ maxLen) (ht : t.size ≤ maxLen) (w : World) :
    Calls Try.prog 22 #[.string s, .string t] w (BoolIf (s.size + t.size ≤ 1048576) w) := by
  unfold maxLen at hs ht
  go_enter Try.func22, Try.ntmps22
  go_wp2
  all_goals (go_ret; first | exact ⟨true, rfl, fun _ => by omega, rfl⟩ | exact ⟨false, rfl, fun h => by simp at h, rfl⟩)

end Go.Proofs.Qxb6000092a
