/-
  Seat b6600808aD: zzDecimal.
-/
import Derived.Test.Qxb6600808aDoorWalks1
import Derived.Laws.BytesString
namespace Go.Proofs.Qxb6600808aDoor
open Go.RowKit

/-- Bytes as cells. -/
def ucs (l : List UInt8) : Array Value := (l.map (fun c => Value.int .u8 (c.toNat : Int))).toArray
theorem ucs_size (l : List UInt8) : (ucs l).size = l.length := by simp [ucs]
theorem ucs_get (l : List UInt8) (i : Nat) : (ucs l)[i]? = (l[i]?).map (fun c => Value.int .u8 (c.toNat : Int)) := by simp [ucs]
theorem ucs_set (l : List UInt8) (i : Nat) (c : UInt8) : (ucs l).setIfInBounds i (.int .u8 (c.toNat : Int)) = ucs (l.set i c) := by
  unfold ucs
  rw [List.setIfInBounds_toArray, List.map_set]

theorem foldl_push : ∀ (l : List UInt8) (acc : List UInt8), (l.map (fun c => (c.toNat : Int))).foldl (fun r n => r.push (UInt8.ofNat n.toNat)) (bs acc) = bs (acc ++ l)
  | [], acc => by simp
  | c :: l, acc => by
    have e : (bs acc).push (UInt8.ofNat (((c.toNat : Nat) : Int)).toNat) = bs (acc ++ [c]) := by
      apply ByteArray.ext
      simp [bs, ByteArray.push]
    rw [List.map_cons, List.foldl_cons, e, foldl_push l (acc ++ [c])]
    simp

/-- 'string(b)', b a slice that ends with its row. -/
theorem run_str (w : World) (g off : Nat) (l : List UInt8) (t : TypeId) (fr : Nat × Nat) (n c : Nat) (pre : List UInt8) (ho : off = pre.length) (hn : n = l.length) (hg : w.heap[g]? = some (.cells (ucs (pre ++ l)) t fr)) :
    (convert 32 9 (.slice (some ⟨g, off, none⟩) n c)).run Tryd.prog w = .ok (.string (bs l)) w := by
  subst hn
  subst ho
  rw [run_convert_bytes_string w 32 9 5 _ _ _ Tryd.underlying32 Tryd.underlying5 Tryd.underlying9]
  have hl : (loadCells ⟨g, pre.length, none⟩ l.length).run Tryd.prog w = .ok ((l.map (fun c => (c.toNat : Int))).map (Value.int .u8)).toArray w := by
    have := run_loadCells_list (P := Tryd.prog) w ⟨g, pre.length, none⟩ ((l.map (fun c => (c.toNat : Int))).map (Value.int .u8)) (fun j v hv => by
      have hadd : (⟨g, pre.length, none⟩ : Addr).add j = ⟨g, pre.length + j, none⟩ := by unfold Addr.add; split <;> simp_all
      rw [hadd, cell_of_row w g (pre.length + j) _ t fr hg, ucs_get, List.getElem?_append_right (by omega), Nat.add_sub_cancel_left]
      simpa using hv)
    simpa using this
  rw [run_bytesToString w _ _ _ _ hl]
  have := foldl_push l []
  rw [List.nil_append] at this
  rw [← this]
  rfl

/-- What the array holds when the digits D are written. -/
def decAt (D : List UInt8) : List UInt8 := List.replicate (24 - D.length) 0 ++ D

theorem decAt_step (D : List UInt8) (c : UInt8) (h : D.length < 24) : (decAt D).set (24 - D.length - 1) c = decAt (c :: D) := by
  unfold decAt
  have e : 24 - D.length = (24 - D.length - 1) + 1 := by omega
  have e2 : 24 - (c :: D).length = 24 - D.length - 1 := by simp; omega
  rw [e2]
  generalize hk : 24 - D.length - 1 = k at *
  rw [e, List.replicate_succ', List.append_assoc, List.set_append_right _ _ (by simp)]
  simp

theorem dec_rel {wr : World} {g : Nat} {D : List UInt8} (c : UInt8) {t : TypeId} (h : D.length < 24) (hr : wr.heap[g]? = some (.cells (ucs (decAt D)) t (0, 0))) (v : Int) (hv : v = (c.toNat : Int)) (i : Nat) (hi : i = 24 - D.length - 1) :
    (wr.setCell ⟨g, i, none⟩ (.int .u8 v)).heap[g]? = some (.cells (ucs (decAt (c :: D))) t (0, 0)) := by
  rw [hv, hi, ← decAt_step D c h, ← ucs_set]
  exact heap_setCell_same wr g _ _ t _ hr

theorem dec_cell {wr : World} {g : Nat} {D : List UInt8} {t : TypeId} (h : D.length < 24) (hr : wr.heap[g]? = some (.cells (ucs (decAt D)) t (0, 0))) (i : Nat) (hi : i = 24 - D.length - 1) : wr.cell? ⟨g, i, none⟩ = some (.int .u8 0) := by
  rw [cell_of_row wr g i _ t _ hr, ucs_get]
  unfold decAt
  rw [List.getElem?_append_left (by simp; omega), List.getElem?_replicate, if_pos (by omega)]
  rfl

/-- The digits that are still to come, and those that are written. -/
def DigInv (U u : Nat) (D : List UInt8) : Prop := Lib.decDigits U = Lib.decDigits u ++ D ∧ (Lib.decDigits U).length ≤ 20

theorem dig_len {U u : Nat} {D : List UInt8} (h : DigInv U u D) : D.length < 20 := by
  have h1 := congrArg List.length h.1
  have h2 := h.2
  have h3 : 1 ≤ (Lib.decDigits u).length := by
    by_cases hu : u < 10
    · rw [dec_small hu]; simp
    · rw [dec_big hu]; simp
  rw [List.length_append] at h1
  omega

theorem dig_more {U u : Nat} {D : List UInt8} (h : DigInv U u D) (hu : ¬ u < 10) : DigInv U (u / 10) (UInt8.ofNat (48 + u % 10) :: D) := by
  refine ⟨?_, h.2⟩
  rw [h.1, dec_big hu]
  simp
theorem dig_done {U u : Nat} {D : List UInt8} (h : DigInv U u D) (hu : u < 10) : Lib.decDigits U = UInt8.ofNat (48 + u % 10) :: D := by
  rw [h.1, dec_small hu, Nat.mod_eq_of_lt hu]
  rfl

theorem itoa_nat (U : Nat) : Lib.itoa (U : Int) = Lib.decDigits U := by
  unfold Lib.itoa
  rw [if_neg (by omega)]
  rfl
theorem dec_len_le {U : Nat} (h : U ≤ 2147483648) : (Lib.decDigits U).length ≤ 20 := by
  have h2 := Lib.itoa_length_le (-(U : Int)) (by omega) (by omega)
  by_cases hz : U = 0
  · subst hz
    rw [dec_small (by omega)]
    simp
  · unfold Lib.itoa at h2
    rw [if_pos (by omega)] at h2
    have e : (-(U : Int)).natAbs = U := by omega
    rw [e] at h2
    simpa using h2

theorem len30 : Tryd.prog.arrayLen 30 = 24 := by kernel_rfl
theorem elem30 : Tryd.prog.elem 30 = 5 := by kernel_rfl
theorem sl30 (g m : Nat) (hm : m ≤ 23) (W : World) : (Instr.sliceAt 30 (.pointer (some ⟨g, 0, none⟩)) (some (.int .i64 (m : Int))) none none).run Tryd.prog W = .ok (.slice (some ⟨g, m, none⟩) (24 - m) (24 - m)) W := by
  have h := run_sliceAt_array_l (P := Tryd.prog) W 30 ⟨g, 0, none⟩ (by rw [len30, elem30]; exact Tryd.underlying30) .i64 (m : Int) (by omega) (by rw [len30]; omega)
  rw [len30, elem30] at h
  rw [h]
  have hs : (sizeOf 5).run Tryd.prog W = .ok 1 W := by kernel_rfl
  rw [hs]
  have e : slicedAt ⟨g, 0, none⟩ (m : Int).toNat 24 24 1 = .slice (some ⟨g, m, none⟩) (24 - m) (24 - m) := by
    unfold slicedAt
    rw [if_neg (by omega)]
    simp [Addr.add]
    omega
  show Result.ok _ W = _
  rw [e]

set_option maxHeartbeats 1000000 in
theorem decimal_pos (U : Nat) (hU : U ≤ 2147483648) (w : World) :
    Calls Tryd.prog 11 #[.int .i64 (U : Int)] w fun e w' => e = .returned (.string (bs (Lib.itoa (U : Int)))) ∧ Below w.heap.size w w' := by
  have hneg : decide ((U : Int) < 0) = false := by simp
  have HI : Hid (DigInv U U []) := ⟨by simp, dec_len_le hU⟩
  go_enter Tryd.func11, Tryd.ntmps11
  go_wp2_with fail
  go_loopw [4, 6] (fun i u wr => ∃ (D : List UInt8) (m k : Nat), i = .int .i64 m ∧ D.length + m = 24 ∧ u = .int .u64 k ∧ k ≤ 2147483648 ∧ DigInv U k D ∧ wr.heap[w.heap.size]? = some (.cells (ucs (decAt D)) 30 (0, 0)) ∧ Below w.heap.size w wr) (fun _ u _ => (intOf u).toNat)
  case atStart => exact ⟨[], 24, U, rfl, rfl, rfl, hU, HI.out, Go.heap_alloc_new w _, (Below.refl _ _).alloc (Nat.le_refl _) _⟩
  case round =>
    obtain ⟨D, m, k, rfl, hm, rfl, hk, hinv, hr, hb⟩ := hrel
    have hdl := dig_len hinv
    obtain ⟨m, rfl⟩ : ∃ m', m = m' + 1 := ⟨m - 1, by omega⟩
    have hc := dec_cell (i := m) (by omega) hr (by omega)
    have hf : wr.frozen? ⟨w.heap.size, m, none⟩ = false := frozen_of_row wr _ m _ 30 hr
    have HV : Hid (DigInv U k D) := hinv
    have HR : Hid (wr.heap[w.heap.size]? = some (.cells (ucs (decAt D)) 30 (0, 0))) := hr
    have HB : Hid (Below w.heap.size w wr) := hb
    have HM : Hid (D.length + (m + 1) = 24) := hm
    have hm23 : m ≤ 23 := by omega
    clear hinv hr hb hm
    obtain ⟨c, hc0⟩ : ∃ c, UInt8.ofNat (48 + k % 10) = c := ⟨_, rfl⟩
    have HBY : Hid ((48 : Int) + (k : Int) % 10 = (c.toNat : Int)) := by
      unfold Hid
      rw [← hc0, digit_nat (by omega)]
      omega
    by_cases h10 : k < 10
    · have hq : ((k : Int) / 10 == 0) = true := beq_iff_eq.2 (by omega)
      have hdone := dig_done HV.out h10
      rw [hc0] at hdone
      clear hc0
      have hr2 := dec_rel c (by omega) HR.out _ HBY.out m (by have := HM.out; omega)
      have hsl := fun W => sl30 w.heap.size m hm23 W
      have hcv := run_str _ w.heap.size m (c :: D) 30 (0, 0) (24 - m) (24 - m) (List.replicate m 0) (by simp) (by have := HM.out; simp; omega) (by rw [hr2]; unfold decAt; rw [show 24 - (c :: D).length = m by have := HM.out; simp; omega])
      have HD : Hid (Lib.itoa (U : Int) = c :: D) := by unfold Hid; rw [itoa_nat]; exact hdone
      clear hr2 hdone
      go_wp2
      go_ret
      exact ⟨ret_str (by rw [HD.out]), HB.out.setCell (Nat.le_refl _) _⟩
    · have hq : ((k : Int) / 10 == 0) = false := beq_eq_false_iff_ne.2 (by omega)
      have HC : Hid (UInt8.ofNat (48 + k % 10) = c) := hc0
      clear hc0
      go_wp2
      go_roundw
      case rel => exact ⟨c :: D, m, k / 10, rfl, by have := HM.out; simp; omega, by go_num, by omega, by rw [← HC.out]; exact dig_more HV.out h10, dec_rel _ (by omega) HR.out _ HBY.out m (by have := HM.out; omega), HB.out.setCell (Nat.le_refl _) _⟩
      case measure => simp [intOf]; omega

theorem itoa_minus (U : Nat) (h : 1 ≤ U) : Lib.itoa (-(U : Int)) = 45 :: Lib.decDigits U := by
  unfold Lib.itoa
  rw [if_pos (by omega)]
  have e : (-(U : Int)).natAbs = U := by omega
  rw [e]

set_option maxHeartbeats 1000000 in
theorem decimal_neg (U : Nat) (hU0 : 1 ≤ U) (hU : U ≤ 2147483648) (w : World) :
    Calls Tryd.prog 11 #[.int .i64 (-(U : Int))] w fun e w' => e = .returned (.string (bs (Lib.itoa (-(U : Int))))) ∧ Below w.heap.size w w' := by
  have hneg : decide (0 < U) = true := by simp; omega
  have HI : Hid (DigInv U U []) := ⟨by simp, dec_len_le hU⟩
  go_enter Tryd.func11, Tryd.ntmps11
  go_wp2_with fail
  go_loopw [4, 6] (fun i u wr => ∃ (D : List UInt8) (m k : Nat), i = .int .i64 m ∧ D.length + m = 24 ∧ u = .int .u64 k ∧ k ≤ 2147483648 ∧ DigInv U k D ∧ wr.heap[w.heap.size]? = some (.cells (ucs (decAt D)) 30 (0, 0)) ∧ Below w.heap.size w wr) (fun _ u _ => (intOf u).toNat)
  case atStart => exact ⟨[], 24, U, rfl, rfl, by go_num, hU, HI.out, Go.heap_alloc_new w _, (Below.refl _ _).alloc (Nat.le_refl _) _⟩
  case round =>
    obtain ⟨D, m, k, rfl, hm, rfl, hk, hinv, hr, hb⟩ := hrel
    have hdl := dig_len hinv
    obtain ⟨m, rfl⟩ : ∃ m', m = m' + 1 + 1 := ⟨m - 1 - 1, by omega⟩
    have hc := dec_cell (i := m + 1) (by omega) hr (by omega)
    have hf : wr.frozen? ⟨w.heap.size, m + 1, none⟩ = false := frozen_of_row wr _ (m + 1) _ 30 hr
    have HV : Hid (DigInv U k D) := hinv
    have HR : Hid (wr.heap[w.heap.size]? = some (.cells (ucs (decAt D)) 30 (0, 0))) := hr
    have HB : Hid (Below w.heap.size w wr) := hb
    have HM : Hid (D.length + (m + 1 + 1) = 24) := hm
    have hm23 : m ≤ 22 := by omega
    clear hinv hr hb hm
    obtain ⟨c, hc0⟩ : ∃ c, UInt8.ofNat (48 + k % 10) = c := ⟨_, rfl⟩
    have HBY : Hid ((48 : Int) + (k : Int) % 10 = (c.toNat : Int)) := by
      unfold Hid
      rw [← hc0, digit_nat (by omega)]
      omega
    by_cases h10 : k < 10
    · have hq : ((k : Int) / 10 == 0) = true := beq_iff_eq.2 (by omega)
      have hdone := dig_done HV.out h10
      rw [hc0] at hdone
      clear hc0
      have hr2 := dec_rel c (by omega) HR.out _ HBY.out (m + 1) (by have := HM.out; omega)
      have hlen : (c :: D).length < 24 := by simp; omega
      have hi2 : m = 24 - (c :: D).length - 1 := by have := HM.out; simp; omega
      have hc2 := dec_cell (i := m) hlen hr2 hi2
      have hf2 := frozen_of_row _ _ m _ 30 hr2
      have hr3 := dec_rel 45 hlen hr2 45 rfl m hi2
      have hsl := fun W => sl30 w.heap.size m (by omega) W
      have hcv := run_str _ w.heap.size m (45 :: c :: D) 30 (0, 0) (24 - m) (24 - m) (List.replicate m 0) (by simp) (by have := HM.out; simp; omega) (by rw [hr3]; unfold decAt; rw [show 24 - (45 :: c :: D).length = m by have := HM.out; simp; omega])
      have HD : Hid (Lib.itoa (-(U : Int)) = 45 :: c :: D) := by unfold Hid; rw [itoa_minus U hU0, hdone]
      clear hr2 hdone hr3 hlen hi2
      go_wp2
      go_ret
      exact ⟨ret_str (by rw [HD.out]), (HB.out.setCell (Nat.le_refl _) _).setCell (Nat.le_refl _) _⟩
    · have hq : ((k : Int) / 10 == 0) = false := beq_eq_false_iff_ne.2 (by omega)
      have HC : Hid (UInt8.ofNat (48 + k % 10) = c) := hc0
      clear hc0
      go_wp2
      go_roundw
      case rel => exact ⟨c :: D, m + 1, k / 10, by go_num, by have := HM.out; simp; omega, by go_num, by omega, by rw [← HC.out]; exact dig_more HV.out h10, dec_rel _ (by omega) HR.out _ HBY.out (m + 1) (by have := HM.out; omega), HB.out.setCell (Nat.le_refl _) _⟩
      case measure => simp [intOf]; omega

/-- zzDecimal, at an int32. -/
theorem decimal_any (v : Int) (h0 : -2147483648 ≤ v) (h1 : v ≤ 2147483647) (w : World) :
    Calls Tryd.prog 11 #[.int .i64 v] w fun e w' => e = .returned (.string (bs (Lib.itoa v))) ∧ Below w.heap.size w w' := by
  by_cases h : v < 0
  · obtain ⟨U, rfl⟩ : ∃ U : Nat, v = -(U : Int) := ⟨v.natAbs, by omega⟩
    exact decimal_neg U (by omega) (by omega) w
  · obtain ⟨U, rfl⟩ : ∃ U : Nat, v = (U : Int) := ⟨v.toNat, by omega⟩
    exact decimal_pos U (by omega) w

end Go.Proofs.Qxb6600808aDoor
