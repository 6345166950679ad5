/-
  Seat b6000092a: labelsOf.
-/
import Derived.Test.Qxb6000092aWalks5
import Derived.Test.Qxb6000092aWalks3
namespace Go.Proofs.Qxb6000092a
open Go.RowKit

theorem info9 : (Try.prog.info? 9).map (fun i => (i.zero, i.size, i.bytes)) = some (some (.string ByteArray.empty), 1, 16) := by kernel_rfl

/-- The labels as cells. -/
def strs (N : List (List UInt8)) : List Value := N.map fun x => Value.string (bs x)

/-- It answers a slice that owns the labels N, in memory of its own. -/
def LabPost (N : List (List UInt8)) (w : World) (e : Ending) (w' : World) : Prop := ∃ v, e = .returned v ∧ w'.ownsRow w.heap.size 9 1 v N.length (strs N) ∧ Below w.heap.size w w'

theorem len_le_enc : ∀ N : List (List UInt8), N.length ≤ (enc N).length
  | [] => by simp
  | x :: N => by
    have := len_le_enc N
    rw [enc_len_cons, List.length_cons]
    omega

theorem strs_snoc {N : List (List UInt8)} {j : Nat} (h : j < N.length) : strs (N.take (j + 1)) = strs (N.take j) ++ [.string (bs N[j])] := by
  unfold strs
  rw [List.take_succ_eq_append_getElem h, List.map_append]
  rfl

/-- The row that a slice owns lies in the call's own blocks. -/
theorem own_base {w : World} {base e size n : Nat} {v : Value} {xs : List Value} (h : w.ownsRow base e size v n xs) : ∀ k, v.ownBlock = some k → base ≤ k := by
  intro k hk
  rcases h.2 with ⟨rfl, _⟩ | ⟨g, cap, cur, rfl, hb, _⟩
  · simp [Value.ownBlock] at hk
  · simp [Value.ownBlock] at hk
    omega

set_option maxHeartbeats 1000000 in
theorem labelsOf_any (s : ByteArray) (N : List (List UInt8)) (hs : s.data.toList = enc N) (hN : Labs N) (bs' : s.size ≤ 255) (w : World) :
    Calls Try.prog 15 #[.string s] w (LabPost N w) := by
  obtain ⟨i0, hi, hz0, hz1, hz2⟩ := info_parts info9
  have hss : (enc N).length = s.size := by rw [Lib.size_eq, hs]
  have HS : Hid (s.data.toList = enc N) := hs
  have HSS : Hid ((enc N).length = s.size) := hss
  clear hs hss
  go_enter Try.func15, Try.ntmps15
  go_wp2
  go_loopw [3, 4] (fun v i wr => ∃ j k : Nat, i = .int .i64 k ∧ j ≤ N.length ∧ k + (enc (N.drop j)).length = s.size ∧ wr.ownsRow w.heap.size 9 1 v j (strs (N.take j)) ∧ Below w.heap.size w wr) (fun _ i _ => s.size - (intOf i).toNat)
  case atStart => exact ⟨0, 0, rfl, Nat.zero_le _, by simpa using HSS.out, World.ownsRow_nil _ _ _ _, Below.refl _ _⟩
  case round =>
    obtain ⟨j, k, rfl, hj, hk, hown, hb⟩ := hrel
    obtain ⟨hlt, hd, hcase⟩ := at_label HS.out hN hj hk
    have HD : Hid (s.data.toList.drop k = enc (N.drop j)) := hd
    clear hd hk
    rcases hcase with ⟨hj', c1, c2, c3, c4⟩ | ⟨hj', c1, c2⟩
    · have C1 : Hid (s[k].toNat = N[j].length) := c1
      have b1 : s[k].toNat ≤ 63 := by omega
      have b0 : 1 ≤ s[k].toNat := by omega
      have C4 : Hid (k + 1 + s[k].toNat + (enc (N.drop (j + 1))).length = s.size) := by unfold Hid; rw [c1]; exact c4
      have b2 : k + 1 + s[k].toNat ≤ s.size := by omega
      have hnz : ((s[k].toNat : Int) != 0) = true := by simp; omega
      have hjb : j ≤ 255 := by have := len_le_enc N; rw [HSS.out] at this; omega
      clear c1 c4
      go_wp2_with (at_builtin; refine wpList_append_own _ rfl _ _ 37 rfl w.heap.size 9 i0 (.string ByteArray.empty) 1 16 Try.underlying37 hi hz0 hz1 hz2 rfl (by decide) _ _ _ rfl (hown.alloc _) ⟨wr.heap.size, 0, none⟩ 1 1 [.string (s.extract (k + 1) (k + 1 + s[k].toNat))] rfl rfl (cell_one_new _ _ _) ?c2 ?c3 ?c4 ?c5 ?_)
      case c2 => intro u hu; simp at hu; subst hu; rfl
      case c3 => unfold maxLen; omega
      case c4 => omega
      case c5 => have := hb.size; simp; omega
      intro v' w1 hown' hgrow _
      have he : s.extract (k + 1) (k + 1 + s[k].toNat) = bs N[j] := by
        have h1 := congrArg (List.drop 1) HD.out
        rw [List.drop_drop, List.drop_eq_getElem_cons hj', enc_cons, List.drop_one, List.tail_cons] at h1
        rw [← bs_eta (s.extract _ _), Lib.extract_data, h1, Nat.add_sub_cancel_left, C1.out, List.take_left]
      have R : w1.ownsRow w.heap.size 9 1 v' (j + 1) (strs (N.take (j + 1))) := by
        have : strs (N.take (j + 1)) = strs (N.take j) ++ [.string (s.extract (k + 1) (k + 1 + s[k].toNat))] := by
          rw [he]
          exact strs_snoc hj'
        rw [this]
        exact hown'
      have RB : Below w.heap.size w w1 := (hb.alloc hb.size _).grown hgrow (by have := hb.size; simp; omega) (own_base hown)
      clear hown' hgrow hown hb he
      go_wp2
      go_roundw
      case rel => exact ⟨j + 1, k + 1 + s[k].toNat, by go_num, by omega, C4.out, R, RB⟩
      case measure => simp [intOf]; omega
    · have hz' : ((s[k].toNat : Int) != 0) = false := by simp; omega
      have hown2 : wr.ownsRow w.heap.size 9 1 u3 N.length (strs N) := by
        subst hj'
        rwa [List.take_length] at hown
      clear hown c1
      go_wp2
      go_ret
      exact ⟨_, rfl, hown2, hb⟩

end Go.Proofs.Qxb6000092a
