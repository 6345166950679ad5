/-
  Seat b6000092a: lowerStr.
-/
import Derived.Test.Qxb6000092aWalks4
import Derived.Deep.OwnRows
import Derived.Laws.BytesString
namespace Go.Proofs.Qxb6000092a
open Go.RowKit

/-- Bytes as cells; as a string. -/
def ucs (l : List UInt8) : Array Value := (l.map (fun c => Value.int .u8 (c.toNat : Int))).toArray
def bs (l : List UInt8) : ByteArray := ⟨l.toArray⟩
theorem bs_data (l : List UInt8) : (bs l).data.toList = l := rfl
theorem bs_size (l : List UInt8) : (bs l).size = l.length := rfl
theorem bs_eta (s : ByteArray) : bs s.data.toList = s := rfl
theorem ucs_size (l : List UInt8) : (ucs l).size = l.length := by simp [ucs]
theorem ucs_get (l : List UInt8) (i : Nat) : (ucs l)[i]? = (l[i]?).map (fun c => Value.int .u8 (c.toNat : Int)) := by simp [ucs]
theorem ucs_set (l : List UInt8) (i : Nat) (c : UInt8) : (ucs l).setIfInBounds i (.int .u8 (c.toNat : Int)) = ucs (l.set i c) := by
  unfold ucs
  rw [List.setIfInBounds_toArray, List.map_set]

theorem foldl_push : ∀ (l : List UInt8) (acc : List UInt8), (l.map (fun c => (c.toNat : Int))).foldl (fun r n => r.push (UInt8.ofNat n.toNat)) (bs acc) = bs (acc ++ l)
  | [], acc => by simp
  | c :: l, acc => by
    have e : (bs acc).push (UInt8.ofNat (((c.toNat : Nat) : Int)).toNat) = bs (acc ++ [c]) := by
      apply ByteArray.ext
      simp [bs, ByteArray.push]
    rw [List.map_cons, List.foldl_cons, e, foldl_push l (acc ++ [c])]
    simp

/-- 'string(b)', b a slice at the head of a row of its own. -/
theorem run_str (w : World) (g : Nat) (l : List UInt8) (t : TypeId) (fr : Nat × Nat) (n c : Nat) (hn : n = l.length) (rest : Array Value) (hg : w.heap[g]? = some (.cells (ucs l ++ rest) t fr)) :
    (convert 22 9 (.slice (some ⟨g, 0, none⟩) n c)).run Try.prog w = .ok (.string (bs l)) w := by
  subst hn
  rw [run_convert_bytes_string w 22 9 5 _ _ _ Try.underlying22 Try.underlying5 Try.underlying9]
  have hl : (loadCells ⟨g, 0, none⟩ l.length).run Try.prog w = .ok ((l.map (fun c => (c.toNat : Int))).map (Value.int .u8)).toArray w := by
    have := run_loadCells_list (P := Try.prog) w ⟨g, 0, none⟩ ((l.map (fun c => (c.toNat : Int))).map (Value.int .u8)) (fun j v hv => by
      have hadd : (⟨g, 0, none⟩ : Addr).add j = ⟨g, j, none⟩ := by unfold Addr.add; split <;> simp_all
      have hj : j < l.length := by
        have := (List.getElem?_eq_some_iff.1 hv).1
        simpa using this
      rw [hadd, cell_of_row w g j _ t fr hg, Array.getElem?_append_left (by rw [ucs_size]; exact hj), ucs_get]
      simpa using hv)
    simpa using this
  rw [run_bytesToString w _ _ _ _ hl]
  have := foldl_push l []
  rw [List.nil_append] at this
  rw [← this]
  rfl

/-- What bs holds when k bytes have been lowered. -/
def lowAt (l : List UInt8) (k : Nat) : List UInt8 := fold (l.take k) ++ List.replicate (l.length - k) 0

theorem lowAt_length (l : List UInt8) (k : Nat) (hk : k ≤ l.length) : (lowAt l k).length = l.length := by
  simp [lowAt, fold]; omega
theorem lowAt_zero (l : List UInt8) : lowAt l 0 = List.replicate l.length 0 := by simp [lowAt, fold]
theorem lowAt_all (l : List UInt8) : lowAt l l.length = fold l := by simp [lowAt]
theorem lowAt_step (l : List UInt8) (k : Nat) (c : UInt8) (hk : k < l.length) (hc : l[k]? = some c) : (lowAt l k).set k (low c) = lowAt l (k + 1) := by
  unfold lowAt
  have e : l.length - k = (l.length - (k + 1)) + 1 := by omega
  have hl : (fold (l.take k)).length = k := by rw [fold_length, List.length_take]; omega
  rw [e, List.replicate_succ, List.set_append_right _ _ (by omega), hl, Nat.sub_self, List.set_cons_zero, List.take_add_one, hc, fold_append]
  simp [fold]

theorem made_zero (n : Nat) : madeCells #[.int .u8 0] n = ucs (List.replicate n 0) := by
  apply Array.toList_inj.1
  rw [toList_madeCells_one]
  simp [ucs]

theorem low_rel {s : ByteArray} {wr : World} {g k : Nat} (hk : k < s.size) (hr : wr.heap[g]? = some (.cells (ucs (lowAt s.data.toList k)) 5 (0, 0))) (v : Int) (hv : v = ((low s[k]).toNat : Int)) :
    (wr.setCell ⟨g, k, none⟩ (.int .u8 v)).heap[g]? = some (.cells (ucs (lowAt s.data.toList (k + 1))) 5 (0, 0)) := by
  rw [hv, ← lowAt_step s.data.toList k s[k] (by rw [← Lib.size_eq]; exact hk) (data_get s k hk), ← ucs_set]
  exact heap_setCell_same wr g k _ 5 _ hr

set_option maxHeartbeats 1000000 in
theorem lowerStr_any (s : ByteArray) (hs : s.size ≤ 1048576) (w : World) :
    Calls Try.prog 16 #[.string s] w fun e w' => e = .returned (.string (bs (fold s.data.toList))) ∧ Below w.heap.size w w' := by
  have hmk : ∀ W : World, (Instr.makeSlice 22 (.int .i64 (s.size : Int)) (.int .i64 (s.size : Int))).run Try.prog W = .ok (.slice (some ⟨W.heap.size, 0, none⟩) s.size s.size) (W.alloc (.cells (ucs (List.replicate s.size 0)) 5)) := by
    intro W
    rw [← made_zero]
    exact run_make_row' 22 5 (.int .u8 0) 1 Try.underlying22 (by kernel_rfl) rfl .i64 .i64 s.size (by omega) (by omega) W
  have HZ : Hid (s.size = s.data.toList.length) := Lib.size_eq s
  go_enter Try.func16, Try.ntmps16
  go_wp2
  go_loopw [4] (fun v wr => ∃ k : Nat, v = .int .i64 k ∧ k ≤ s.size ∧ wr.heap[w.heap.size]? = some (.cells (ucs (lowAt s.data.toList k)) 5 (0, 0)) ∧ Below w.heap.size w wr) (fun v _ => s.size - (intOf v).toNat)
  case atStart => exact ⟨0, rfl, Nat.zero_le _, by rw [lowAt_zero, ← HZ.out]; exact Go.heap_alloc_new w _, (Below.refl _ _).alloc (Nat.le_refl _) _⟩
  case round =>
    clear hmk
    obtain ⟨k, rfl, hk, hr, hb⟩ := hrel
    by_cases hlt : k < s.size
    · have hc : wr.cell? ⟨w.heap.size, k, none⟩ = some (.int .u8 0) := by
        rw [cell_of_row wr _ k _ 5 _ hr, ucs_get]
        have : (lowAt s.data.toList k)[k]? = some 0 := by
          unfold lowAt
          rw [List.getElem?_append_right (by rw [fold_length, List.length_take]; omega), fold_length, List.length_take, List.getElem?_replicate, if_pos (by rw [← Lib.size_eq]; omega)]
        rw [this]
        rfl
      have hf : wr.frozen? ⟨w.heap.size, k, none⟩ = false := frozen_of_row wr _ k _ 5 hr
      have hb3 := s[k].toNat_lt
      have HR : Hid (wr.heap[w.heap.size]? = some (.cells (ucs (lowAt s.data.toList k)) 5 (0, 0))) := hr
      have HB : Hid (Below w.heap.size w wr) := hb
      clear hr hb
      go_wp2
      all_goals
        go_roundw
        case rel => exact ⟨k + 1, by go_num, by omega, low_rel hlt HR.out _ (by rw [low_toNat]; first | (rw [if_pos (by omega)]; omega) | rw [if_neg (by omega)]), HB.out.setCell (Nat.le_refl _) _⟩
        case measure => simp [intOf]; omega
    · have hk2 : k = s.data.toList.length := by rw [← HZ.out]; omega
      rw [hk2, lowAt_all] at hr
      have hcv := run_str wr w.heap.size (fold s.data.toList) 5 (0, 0) s.size s.size (by rw [fold_length]; exact HZ.out) #[] (by simpa using hr)
      have HB : Hid (Below w.heap.size w wr) := hb
      clear hr hb hk2
      go_wp2
      go_ret
      exact ⟨rfl, HB.out⟩

end Go.Proofs.Qxb6000092a
