/-
  Seat b6601361a: the bound on the length; b1CloneBytes; rwKind; leadingDigits.
-/
import Derived.Test.Qxb6601361aRows
import Derived.Test.Qxb6601361aPlain2
import Derived.Deep.OwnRows
import Derived.Laws.BytesString
import Derived.Lib.Strings
import Derived.Lib.SliceRun
import Derived.WalkKit
import Derived.WalkSpells
import Derived.WalkLawsBesides
import Derived.BigQuiet
import Derived.Deep.QuietTactic
import Derived.Outline
namespace Go.Proofs.Qxb6601361a
open Go.RowKit

theorem ret_bool {a b : Bool} (h : a = b) : Ending.returned (.bool a) = .returned (.bool b) := by rw [h]
/-- Bytes as cells; as a string. -/
def ucs (l : List UInt8) : Array Value := (l.map (fun c => Value.int .u8 (c.toNat : Int))).toArray
def bs (l : List UInt8) : ByteArray := ⟨l.toArray⟩
theorem ucs_size (l : List UInt8) : (ucs l).size = l.length := by simp [ucs]
theorem ucs_get (l : List UInt8) (i : Nat) : (ucs l)[i]? = (l[i]?).map (fun c => Value.int .u8 (c.toNat : Int)) := by simp [ucs]
theorem ucs_set (l : List UInt8) (i : Nat) (c : UInt8) : (ucs l).setIfInBounds i (.int .u8 (c.toNat : Int)) = ucs (l.set i c) := by
  unfold ucs
  rw [List.setIfInBounds_toArray, List.map_set]
theorem ucs_cell {w : World} {g i : Nat} {l : List UInt8} {c : UInt8} {t : TypeId} {fr : Nat × Nat} (hg : w.heap[g]? = some (.cells (ucs l) t fr)) (hc : l[i]? = some c) : w.cell? ⟨g, i, none⟩ = some (.int .u8 (c.toNat : Int)) := by
  rw [cell_of_row w g i _ t fr hg, ucs_get, hc]
  rfl

theorem bytes15_any (a : Option Addr) (n c : Nat) (hn : n ≤ maxLen) (w : World) :
    Calls Try.prog 15 #[.slice a n c] w fun e w' => e = .returned (.bool (decide (n ≤ 1048576))) ∧ w = w' := by
  unfold maxLen at hn
  by_cases h : n ≤ 1048576
  · have hd : decide (n ≤ 1048576) = true := by simpa using h
    rw [hd]
    go_enter Try.func15, Try.ntmps15
    go_wp2
    go_ret
    exact ⟨rfl, rfl⟩
  · have hd : decide (n ≤ 1048576) = false := by simpa using h
    rw [hd]
    go_enter Try.func15, Try.ntmps15
    go_wp2
    go_ret
    exact ⟨rfl, rfl⟩

/-- What a slice of bytes holds. -/
def Holds (w : World) (a : Option Addr) (T : List UInt8) : Prop := ∀ i c, T[i]? = some c → ∃ x, a = some x ∧ x.block < w.heap.size ∧ w.cell? (x.add i) = some (.int .u8 (c.toNat : Int))

theorem made_zero (n : Nat) : madeCells #[.int .u8 0] n = ucs (List.replicate n 0) := by
  apply Array.toList_inj.1
  rw [toList_madeCells_one]
  simp [ucs]

/-- What the clone holds when k bytes are copied. -/
def clAt (T : List UInt8) (k : Nat) : List UInt8 := T.take k ++ List.replicate (T.length - k) 0
theorem clAt_step (T : List UInt8) (k : Nat) (c : UInt8) (hk : k < T.length) (hc : T[k]? = some c) : (clAt T k).set k c = clAt T (k + 1) := by
  unfold clAt
  have e : T.length - k = (T.length - (k + 1)) + 1 := by omega
  have hl : (T.take k).length = k := by rw [List.length_take]; omega
  rw [e, List.replicate_succ, List.set_append_right _ _ (by omega), hl, Nat.sub_self, List.set_cons_zero, List.take_add_one, hc]
  simp
theorem clAt_zero (T : List UInt8) : clAt T 0 = List.replicate T.length 0 := by simp [clAt]
theorem clAt_all (T : List UInt8) : clAt T T.length = T := by simp [clAt]

theorem block_add (x : Addr) (i : Nat) : (x.add i).block = x.block := by
  unfold Addr.add
  split <;> rfl

theorem size_setCell' (w : World) (a : Addr) (v : Value) : (w.setCell a v).heap.size = w.heap.size := by
  show (w.heap.modify _ _).size = _
  rw [Array.size_modify]
theorem cl_rel {wr : World} {g k : Nat} {T : List UInt8} {d : UInt8} (hk : k < T.length) (hr : wr.heap[g]? = some (.cells (ucs (clAt T k)) 5 (0, 0))) (hd : T[k]? = some d) :
    (wr.setCell ⟨g, k, none⟩ (.int .u8 (d.toNat : Int))).heap[g]? = some (.cells (ucs (clAt T (k + 1))) 5 (0, 0)) := by
  rw [← clAt_step T k d hk hd, ← ucs_set]
  exact heap_setCell_same wr g k _ 5 _ hr

/-- What the clone leaves. -/
def ClPost (T : List UInt8) (w : World) (e : Ending) (w' : World) : Prop :=
  Below w.heap.size w w' ∧ ((T = [] ∧ e = .returned (.slice none 0 0)) ∨ (e = .returned (.slice (some ⟨w.heap.size, 0, none⟩) T.length T.length) ∧ w'.heap[w.heap.size]? = some (.cells (ucs T) 5 (0, 0)) ∧ w.heap.size < w'.heap.size))

theorem clone_nil (w : World) : Calls Try.prog 9 #[.slice none 0 0] w (ClPost [] w) := by
  have hnil : ∀ W : World, (binOp .eql 22 (.slice none 0 0) (.slice none 0 0)).run Try.prog W = .ok (.bool true) W := fun W => Lib.run_eql_slice_nil W 22 5 none 0 0 0 0 Try.underlying22
  go_enter Try.func9, Try.ntmps9
  go_wp2
  go_ret
  exact ⟨Below.refl _ _, Or.inl ⟨rfl, rfl⟩⟩

set_option maxHeartbeats 1000000 in
theorem clone_some (x : Addr) (T : List UInt8) (n c : Nat) (hn : T.length = n) (hb : n ≤ 1048576) (w : World) (hT : ∀ i d, T[i]? = some d → w.cell? (x.add i) = some (.int .u8 (d.toNat : Int))) :
    Calls Try.prog 9 #[.slice (some x) n c] w (ClPost T w) := by
  have hmk : ∀ W : World, (Instr.makeSlice 22 (.int .i64 (n : Int)) (.int .i64 (n : Int))).run Try.prog W = .ok (.slice (some ⟨W.heap.size, 0, none⟩) n n) (W.alloc (.cells (ucs (List.replicate n 0)) 5)) := by
    intro W
    rw [← made_zero]
    exact run_make_row' 22 5 (.int .u8 0) 1 Try.underlying22 (by kernel_rfl) rfl .i64 .i64 n (by omega) (by omega) W
  have HT : Hid (∀ i d, T[i]? = some d → w.cell? (x.add i) = some (.int .u8 (d.toNat : Int))) := hT
  have HN : Hid (T.length = n) := hn
  have hnil : ∀ W : World, (binOp .eql 22 (.slice (some x) n c) (.slice none 0 0)).run Try.prog W = .ok (.bool false) W := fun W => Lib.run_eql_slice_nil W 22 5 (some x) n c 0 0 Try.underlying22
  clear hT hn
  go_enter Try.func9, Try.ntmps9
  go_wp2_with fail
  clear hnil
  go_loopw [4] (fun v wr => ∃ k : Nat, v = .int .i64 k ∧ k ≤ n ∧ wr.heap[w.heap.size]? = some (.cells (ucs (clAt T k)) 5 (0, 0)) ∧ w.heap.size < wr.heap.size ∧ Below w.heap.size w wr) (fun v _ => n - (intOf v).toNat)
  case atStart => exact ⟨0, rfl, Nat.zero_le _, by rw [clAt_zero, HN.out]; exact Go.heap_alloc_new w _, by simp, (Below.refl _ _).alloc (Nat.le_refl _) _⟩
  case round =>
    clear hmk
    obtain ⟨k, rfl, hk, hr, hsz, hb⟩ := hrel
    by_cases hlt : k < n
    · obtain ⟨d, hd⟩ : ∃ d, T[k]? = some d := ⟨_, List.getElem?_eq_getElem (by rw [HN.out]; exact hlt)⟩
      have hx0 := HT.out k d hd
      have hxb : x.block < w.heap.size := by
        have := block_lt_of_cell hx0
        rwa [block_add] at this
      have hx := (hb.cell (p := x.add k) (by rw [block_add]; exact hxb)).trans hx0
      have hc : wr.cell? ⟨w.heap.size, k, none⟩ = some (.int .u8 0) := by
        refine ucs_cell (c := 0) hr ?_
        unfold clAt
        rw [List.getElem?_append_right (by rw [List.length_take]; omega), List.length_take, List.getElem?_replicate, if_pos (by rw [HN.out]; omega)]
      have hf : wr.frozen? ⟨w.heap.size, k, none⟩ = false := frozen_of_row wr _ k _ 5 hr
      have HR : Hid (wr.heap[w.heap.size]? = some (.cells (ucs (clAt T k)) 5 (0, 0))) := hr
      have HB : Hid (Below w.heap.size w wr) := hb
      have HD : Hid (T[k]? = some d) := hd
      clear hr hb hx0 hd
      go_wp2
      go_roundw
      case rel => exact ⟨k + 1, by go_num, by omega, cl_rel (by rw [HN.out]; exact hlt) HR.out HD.out, by rw [size_setCell']; exact hsz, HB.out.setCell (Nat.le_refl _) _⟩
      case measure => simp [intOf]; omega
    · have hk2 : k = T.length := by rw [HN.out]; omega
      rw [hk2, clAt_all] at hr
      go_wp2
      go_ret
      refine ⟨hb, Or.inr ⟨?_, hr, hsz⟩⟩
      rw [HN.out]
      rfl

/-- A number that m digits more keep below 10^18. -/
def Small (v : Int) (m : Nat) : Prop := 0 ≤ v ∧ (v + 1) * 10 ^ m ≤ 1000000000000000000
theorem pow_ge (m : Nat) : (1 : Int) ≤ 10 ^ m := Int.pow_pos (by decide)
theorem Small.lt {v : Int} {m : Nat} (h : Small v m) : v < 1000000000000000000 := by
  obtain ⟨h0, h1⟩ := h
  have h2 : (v + 1) * 1 ≤ (v + 1) * 10 ^ m := Int.mul_le_mul_of_nonneg_left (pow_ge m) (by omega)
  omega
theorem Small.ten {v : Int} {m : Nat} (h : Small v (m + 1)) : v * 10 + 10 ≤ 1000000000000000000 := by
  obtain ⟨h0, h1⟩ := h
  rw [Int.pow_succ] at h1
  have h2 : (v + 1) * 10 * 1 ≤ (v + 1) * 10 * 10 ^ m := Int.mul_le_mul_of_nonneg_left (pow_ge m) (by omega)
  have e : (v + 1) * (10 ^ m * 10) = (v + 1) * 10 * 10 ^ m := by
    rw [Int.mul_comm (10 ^ m) 10, Int.mul_assoc]
  omega
theorem Small.step {v d : Int} {m : Nat} (h : Small v (m + 1)) (d0 : 0 ≤ d) (d9 : d ≤ 9) : Small (v * 10 + d) m := by
  obtain ⟨h0, h1⟩ := h
  refine ⟨by omega, ?_⟩
  rw [Int.pow_succ] at h1
  have e : (v + 1) * (10 ^ m * 10) = ((v + 1) * 10) * 10 ^ m := by
    rw [Int.mul_comm (10 ^ m) 10, Int.mul_assoc]
  have h2 : (v * 10 + d + 1) * 10 ^ m ≤ ((v + 1) * 10) * 10 ^ m := Int.mul_le_mul_of_nonneg_right (by omega) (by have := pow_ge m; omega)
  omega
theorem small_zero : Small 0 18 := by unfold Small; decide

/-- What the loop of leadingDigits knows. -/
def LeadInv (L : List UInt8) (k : Nat) (v : Int) : Prop := lead 18 0 L = ((lead (18 - k) v (L.drop k)).1, (lead (18 - k) v (L.drop k)).2 + k)

theorem lead_step {L : List UInt8} {k : Nat} {v : Int} {c : UInt8} (h : LeadInv L k v) (hk : k < 18) (hc : L[k]? = some c) (hd : isDig c = true) : LeadInv L (k + 1) (v * 10 + dig c) := by
  unfold LeadInv at h ⊢
  obtain ⟨hl, e⟩ := List.getElem?_eq_some_iff.1 hc
  have e1 : 18 - k = (18 - (k + 1)) + 1 := by omega
  rw [h, List.drop_eq_getElem_cons hl, e, e1]
  simp only [lead, hd, if_true]
  congr 1
  omega
theorem lead_end {L : List UInt8} {k : Nat} {v : Int} (h : LeadInv L k v) (he : k = 18 ∨ L.length ≤ k ∨ ∃ c, L[k]? = some c ∧ isDig c = false) : lead 18 0 L = (v, k) := by
  rw [h]
  rcases he with he | he | ⟨c, hc, hd⟩
  · subst he
    simp [lead]
  · rw [List.drop_of_length_le he]
    cases 18 - k <;> simp [lead]
  · obtain ⟨hl, e⟩ := List.getElem?_eq_some_iff.1 hc
    rw [List.drop_eq_getElem_cons hl, e]
    cases 18 - k <;> simp [lead, hd]

theorem ret_two {a b c d : Int} (h1 : a = c) (h2 : b = d) : Ending.returned (.tuple #[.int .i64 a, .int .i64 b]) = .returned (.tuple #[.int .i64 c, .int .i64 d]) := by rw [h1, h2]

set_option maxHeartbeats 1000000 in
theorem lead_any (x : Addr) (L : List UInt8) (m c : Nat) (hm : L.length = m) (hb : m ≤ 1048576) (w : World) (hL : ∀ i d, L[i]? = some d → w.cell? (x.add i) = some (.int .u8 (d.toNat : Int))) :
    Calls Try.prog 34 #[.slice (some x) m c] w fun e w' => e = .returned (.tuple #[.int .i64 (lead 18 0 L).1, .int .i64 ((lead 18 0 L).2 : Int)]) ∧ w = w' := by
  have HL : Hid (∀ i d, L[i]? = some d → w.cell? (x.add i) = some (.int .u8 (d.toNat : Int))) := hL
  have HM : Hid (L.length = m) := hm
  have HS : Hid (LeadInv L 0 0) := by
    unfold Hid LeadInv
    simp
  clear hL hm
  go_enter Try.func34, Try.ntmps34
  go_wp2
  go_loop [2, 3] (fun n k => ∃ (v : Int) (j : Nat), n = .int .i64 v ∧ k = .int .i64 j ∧ j ≤ 18 ∧ j ≤ m ∧ LeadInv L j v ∧ Small v (18 - j)) (fun _ k => 18 - (intOf k).toNat)
  case atStart => exact ⟨0, 0, rfl, rfl, by omega, by omega, HS.out, small_zero⟩
  case round =>
    clear HS
    obtain ⟨v, j, rfl, rfl, hj, hjm, hinv, hsm⟩ := hrel
    have hv := hsm.lt
    have hv0 := hsm.1
    have HI : Hid (LeadInv L j v) := hinv
    have HSM : Hid (Small v (18 - j)) := hsm
    clear hinv hsm
    have fin : ∀ (he : j = 18 ∨ L.length ≤ j ∨ ∃ c, L[j]? = some c ∧ isDig c = false), Hid ((lead 18 0 L).1 = v ∧ (lead 18 0 L).2 = j) := by
      intro he
      unfold Hid
      rw [lead_end HI.out he]
      exact ⟨rfl, rfl⟩
    by_cases hlt : j < m
    · by_cases h18 : j < 18
      · obtain ⟨d, hd⟩ : ∃ d, L[j]? = some d := ⟨_, List.getElem?_eq_getElem (by rw [HM.out]; exact hlt)⟩
        have hx := HL.out j d hd
        have hd8 := d.toNat_lt
        by_cases g1 : 48 ≤ d.toNat
        · by_cases g2 : d.toNat ≤ 57
          · have hdg : isDig d = true := by unfold isDig; simp [g1, g2]
            have hst := lead_step HI.out h18 hd hdg
            have e18 : 18 - j = (18 - (j + 1)) + 1 := by omega
            have hsm := HSM.out
            rw [e18] at hsm
            have h10 := hsm.ten
            have hs2 := hsm.step (d := dig d) (by unfold dig; omega) (by unfold dig; omega)
            have R : Hid (LeadInv L (j + 1) (v * 10 + dig d) ∧ Small (v * 10 + dig d) (18 - (j + 1))) := ⟨hst, hs2⟩
            clear fin hst hs2 hsm e18 hdg hd
            go_wp2
            go_round
            case rel => exact ⟨v * 10 + dig d, j + 1, by unfold dig; go_num, by go_num, by omega, by omega, R.out.1, R.out.2⟩
            case measure => simp [intOf]; omega
          · have F := fin (Or.inr (Or.inr ⟨d, hd, by unfold isDig; simp; omega⟩))
            clear fin hd
            go_wp2
            go_ret2
            exact ⟨by rw [F.out.1, F.out.2]; rfl, rfl⟩
        · have F := fin (Or.inr (Or.inr ⟨d, hd, by unfold isDig; simp; omega⟩))
          clear fin hd
          go_wp2
          go_ret2
          exact ⟨by rw [F.out.1, F.out.2]; rfl, rfl⟩
      · have F := fin (Or.inl (by omega))
        clear fin
        go_wp2
        go_ret2
        exact ⟨by rw [F.out.1, F.out.2]; rfl, rfl⟩
    · have F := fin (Or.inr (Or.inl (by rw [HM.out]; omega)))
      clear fin
      go_wp2
      go_ret2
      exact ⟨by rw [F.out.1, F.out.2]; rfl, rfl⟩

end Go.Proofs.Qxb6601361a
