/-
  Seat b6000092a: labelStarts.
-/
import Derived.Test.Qxb6000092aWalks6
import Derived.Test.Qxb6000092aPlain2
namespace Go.Proofs.Qxb6000092a
open Go.RowKit

/-- Where label j begins. -/
def posL (N : List (List UInt8)) (j : Nat) : Nat := (encP (N.take j)).length
/-- The array of starts when j of them are recorded. -/
def stAt (N : List (List UInt8)) (j : Nat) : List UInt8 := (List.range j).map (fun i => (posL N i).toUInt8) ++ List.replicate (127 - j) 0

theorem posL_enc (N : List (List UInt8)) (j : Nat) : posL N j + (enc (N.drop j)).length = (enc N).length := by
  unfold posL
  rw [enc_split N j, List.length_append]

theorem two_le_enc : ∀ (N : List (List UInt8)), Labs N → 2 * N.length + 1 ≤ (enc N).length
  | [], _ => by simp [enc_nil]
  | x :: N, h => by
    have := two_le_enc N h.tail
    have := h.head
    rw [enc_len_cons, List.length_cons]
    omega

theorem stAt_step (N : List (List UInt8)) (j : Nat) (hj : j < 127) : (stAt N j).set j (posL N j).toUInt8 = stAt N (j + 1) := by
  unfold stAt
  have e : 127 - j = (127 - (j + 1)) + 1 := by omega
  rw [e, List.replicate_succ, List.set_append_right _ _ (by simp), List.range_succ, List.map_append]
  simp

theorem stAt_get (N : List (List UInt8)) (n j : Nat) (hj : j < n) : (stAt N n)[j]? = some (posL N j).toUInt8 := by
  unfold stAt
  rw [List.getElem?_append_left (by simpa using hj)]
  simp [hj]

/-- What labelStarts leaves. -/
def StPost (N : List (List UInt8)) (g : Nat) (w : World) (e : Ending) (w' : World) : Prop :=
  e = .returned (.int .i64 (N.length : Int)) ∧ w'.heap[g]? = some (.cells (ucs (stAt N N.length)) 46 (0, 0)) ∧ w'.heap.size = w.heap.size ∧ Below g w w'

theorem size_setCell' (w : World) (a : Addr) (v : Value) : (w.setCell a v).heap.size = w.heap.size := by
  show (w.heap.modify _ _).size = _
  rw [Array.size_modify]

theorem st_rel {N : List (List UInt8)} {wr : World} {g j k : Nat} (hj : j < 127) (hr : wr.heap[g]? = some (.cells (ucs (stAt N j)) 46 (0, 0))) (hp : posL N j = k) (hk : k ≤ 255) :
    (wr.setCell ⟨g, j, none⟩ (.int .u8 (k : Int))).heap[g]? = some (.cells (ucs (stAt N (j + 1))) 46 (0, 0)) := by
  have e : (k : Int) = ((posL N j).toUInt8.toNat : Int) := by
    rw [hp]
    simp
    omega
  rw [e, ← stAt_step N j hj, ← ucs_set]
  exact heap_setCell_same wr g j _ 46 _ hr

set_option maxHeartbeats 1000000 in
theorem labelStarts_any (s : ByteArray) (N : List (List UInt8)) (hs : s.data.toList = enc N) (hN : Labs N) (bs' : s.size ≤ 255) (w : World) (g : Nat) (hg : w.heap[g]? = some (.cells (ucs (List.replicate 127 0)) 46 (0, 0))) :
    Calls Try.prog 27 #[.string s, .pointer (some ⟨g, 0, none⟩)] w (StPost N g w) := by
  have hss : (enc N).length = s.size := by rw [Lib.size_eq, hs]
  have h127 := two_le_enc N hN
  have hlen : N.length ≤ 127 := by omega
  have HS : Hid (s.data.toList = enc N) := hs
  have HSS : Hid ((enc N).length = s.size) := hss
  have HG : Hid (w.heap[g]? = some (.cells (ucs (List.replicate 127 0)) 46 (0, 0))) := hg
  clear hs hss h127 hg
  go_enter Try.func27, Try.ntmps27
  go_wp2
  go_loopw [5, 6] (fun c i wr => ∃ j k : Nat, c = .int .i64 j ∧ i = .int .i64 k ∧ j ≤ N.length ∧ k + (enc (N.drop j)).length = s.size ∧ wr.heap[g]? = some (.cells (ucs (stAt N j)) 46 (0, 0)) ∧ wr.heap.size = w.heap.size ∧ Below g w wr) (fun _ i _ => s.size - (intOf i).toNat)
  case atStart => exact ⟨0, 0, rfl, rfl, Nat.zero_le _, by simpa using HSS.out, by simpa [stAt] using HG.out, rfl, Below.refl _ _⟩
  case round =>
    obtain ⟨j, k, rfl, rfl, hj, hk, hr, hsz, hb⟩ := hrel
    obtain ⟨hlt, hd, hcase⟩ := at_label HS.out hN hj hk
    have hpos : posL N j = k := by
      have := posL_enc N j
      rw [HSS.out] at this
      omega
    have HP : Hid (posL N j = k) := hpos
    have HR : Hid (wr.heap[g]? = some (.cells (ucs (stAt N j)) 46 (0, 0))) := hr
    have HSZ : Hid (wr.heap.size = w.heap.size) := hsz
    have HB : Hid (Below g w wr) := hb
    rcases hcase with ⟨hj', c1, c2, c3, c4⟩ | ⟨hj', c1, c2⟩
    · have hc : wr.cell? ⟨g, j, none⟩ = some (.int .u8 0) := by
        rw [cell_of_row wr _ j _ 46 _ hr, ucs_get]
        have : (stAt N j)[j]? = some 0 := by
          unfold stAt
          rw [List.getElem?_append_right (by simp), List.length_map, List.length_range, List.getElem?_replicate, if_pos (by omega)]
        rw [this]
        rfl
      have hf : wr.frozen? ⟨g, j, none⟩ = false := frozen_of_row wr _ j _ 46 hr
      have C1 : Hid (s[k].toNat = N[j].length) := c1
      have b1 : s[k].toNat ≤ 63 := by omega
      have b0 : 1 ≤ s[k].toNat := by omega
      have C4 : Hid (k + 1 + s[k].toNat + (enc (N.drop (j + 1))).length = s.size) := by unfold Hid; rw [c1]; exact c4
      have b2 : k + 1 + s[k].toNat ≤ s.size := by omega
      have hnz : ((s[k].toNat : Int) != 0) = true := by simp; omega
      have hj127 : j < 127 := by omega
      clear hd hk c1 c4 hpos hr hsz hb
      go_wp2
      go_roundw
      case rel => exact ⟨j + 1, k + 1 + s[k].toNat, by go_num, by go_num, by omega, C4.out, st_rel hj127 HR.out HP.out (by omega), (size_setCell' _ _ _).trans HSZ.out, HB.out.setCell (Nat.le_refl _) _⟩
      case measure => simp [intOf]; omega
    · have hz' : ((s[k].toNat : Int) != 0) = false := by simp; omega
      clear hd hk hpos hr hsz hb c1
      go_wp2
      go_ret
      refine ⟨ret_int (by omega), ?_, HSZ.out, HB.out⟩
      have := HR.out
      rwa [hj'] at this

end Go.Proofs.Qxb6000092a
