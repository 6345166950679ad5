/-
  Seat b6000078a: zzB1Sub.
-/
import Derived.Test.Qxb6000078aWalks3
import Derived.Laws.CopyOwn
namespace Go.Proofs.Qxb6000078a
open Go.RowKit

/-- What the array d holds when m places are left. -/
def dAt (X A : List Int) (m : Nat) : List Int := List.replicate m 0 ++ (subR (X.drop m) (A.drop m)).1

theorem dAt_len (X A : List Int) (m : Nat) (lX : X.length = 20) (lA : A.length = 20) (bX : Byt X) (bA : Byt A) (hm : m ≤ 20) : (dAt X A m).length = 20 := by
  have h := (subR_ok (X.drop m) (A.drop m) (by simp [lX, lA]) (fun z hz => bX z (List.mem_of_mem_drop hz)) (fun z hz => bA z (List.mem_of_mem_drop hz))).1
  simp only [dAt, List.length_append, List.length_replicate, h, List.length_drop]
  omega

theorem set_replicate (i : Nat) (D : List Int) (v : Int) : (List.replicate (i + 1) 0 ++ D).set i v = List.replicate i 0 ++ v :: D := by
  rw [List.replicate_succ', List.append_assoc, List.set_append_right _ _ (by simp)]
  simp

structure SubInv (w : World) (X A : List Int) (m : Nat) (wr : World) : Prop where
  bel : Below w.heap.size w wr
  size : wr.heap.size = w.heap.size + 4
  x : wr.heap[w.heap.size]? = some (.cells (bcs X) 25 (0, 0))
  a : wr.heap[w.heap.size + 1]? = some (.cells (bcs A) 25 (0, 0))
  r : wr.heap[w.heap.size + 1 + 1]? = some (.cells (bcs (List.replicate 20 0)) 25 (0, 0))
  d : wr.heap[w.heap.size + 1 + 1 + 1]? = some (.cells (bcs (dAt X A m)) 25 (0, 0))

theorem sub_start (w : World) (X A : List Int) (lX : X.length = 20) (lA : A.length = 20) :
    SubInv w X A 20 ((((w.alloc (.cells (bcs X) 25)).alloc (.cells (bcs A) 25)).alloc (.cells (bcs (List.replicate 20 0)) 25)).alloc (.cells (bcs (List.replicate 20 0)) 25)) := by
  have e : dAt X A 20 = List.replicate 20 0 := by
    unfold dAt
    rw [List.drop_of_length_le (by omega), List.drop_of_length_le (by omega)]
    rfl
  refine ⟨((((Below.refl _ _).alloc (Nat.le_refl _) _).alloc (by simp) _).alloc (by simp; omega) _).alloc (by simp; omega) _, by simp, ?_, ?_, ?_, ?_⟩
  · exact (Below.heap_alloc _ _ _ (by simp; omega)).trans (h3_0 w _ _ _)
  · exact (Below.heap_alloc _ _ _ (by simp)).trans (h3_1 w _ _ _)
  · exact (Below.heap_alloc _ _ _ (by simp)).trans (h3_2 w _ _ _)
  · rw [e]
    have h := heap_alloc_new (((w.alloc (.cells (bcs X) 25)).alloc (.cells (bcs A) 25)).alloc (.cells (bcs (List.replicate 20 0)) 25)) (.cells (bcs (List.replicate 20 0)) 25)
    simpa using h

theorem bcs_set (l : List Int) (i : Nat) (v : Int) : (bcs l).setIfInBounds i (.int .u8 v) = bcs (l.set i v) := by
  unfold bcs
  rw [List.setIfInBounds_toArray, List.map_set]

theorem sub_step {w wr : World} {X A : List Int} {i : Nat} (h : SubInv w X A (i + 1) wr) (v : Int) (hv : (subR (X.drop i) (A.drop i)).1 = v :: (subR (X.drop (i + 1)) (A.drop (i + 1))).1) (n : Nat) :
    SubInv w X A i ((wr.drewN n).setCell ⟨w.heap.size + 1 + 1 + 1, i, none⟩ (.int .u8 v)) := by
  have ob : ∀ k, k ≠ w.heap.size + 1 + 1 + 1 → ((wr.drewN n).setCell ⟨w.heap.size + 1 + 1 + 1, i, none⟩ (.int .u8 v)).heap[k]? = wr.heap[k]? := fun k hk => heap_setCell_other (wr.drewN n) _ k _ hk
  refine ⟨(below_drewN h.bel n).setCell (by show w.heap.size ≤ w.heap.size + 1 + 1 + 1; omega) _, ?_, (ob _ (by omega)).trans h.x, (ob _ (by omega)).trans h.a, (ob _ (by omega)).trans h.r, ?_⟩
  · show ((wr.drewN n).heap.modify _ _).size = _
    rw [Array.size_modify]
    exact h.size
  · have e : dAt X A i = (dAt X A (i + 1)).set i v := by
      unfold dAt
      rw [set_replicate, hv]
    rw [e, ← bcs_set]
    exact heap_setCell_same (wr.drewN n) _ i _ 25 _ h.d

theorem bcs_cell {wr : World} {g i : Nat} {l : List Int} {z : Int} (hg : wr.heap[g]? = some (.cells (bcs l) 25 (0, 0))) (hz : l[i]? = some z) : wr.cell? ⟨g, i, none⟩ = some (.int .u8 z) := by
  rw [cell_of_row wr g i _ 25 _ hg, bcs_get, hz]
  rfl

theorem drop_cons {X : List Int} {i : Nat} {x : Int} (h : X[i]? = some x) : X.drop i = x :: X.drop (i + 1) := by
  obtain ⟨hi, e⟩ := List.getElem?_eq_some_iff.1 h
  rw [List.drop_eq_getElem_cons hi, e]

theorem subR_cons (x a : Int) (xs ys : List Int) : subR (x :: xs) (a :: ys) = if x - a - (subR xs ys).2 < 0 then ((x - a - (subR xs ys).2 + 256) :: (subR xs ys).1, 1) else ((x - a - (subR xs ys).2) :: (subR xs ys).1, 0) := rfl

/-- A whole array of twenty bytes, loaded out of its own block; stored into one. -/
theorem load25 {ops : Array Oper} {rest : List Oper} {o : Oper} {a : Act} {w : World} {Q : Exit → Act → World → Prop} (hgd : o.guard = none) (x : Operand) (ho : o.op = .load 25 x)
    (g : Nat) (hx : a.eval x = .pointer (some ⟨g, 0, none⟩)) (l : List Int) (hl : l.length = 20) (t : TypeId) (fr : Nat × Nat) (hg : w.heap[g]? = some (.cells (bcs l) t fr))
    (h : wpList Try.prog ops Q rest (a.put o.dst (.agg (bcs l))) w) : wpList Try.prog ops Q (o :: rest) a w :=
  wpList_load_row hgd 25 x ho g hx t (bcs l) fr _ hg Try.underlying25 rfl (by rw [bcs_size, hl]; kernel_rfl) h
theorem bcs_one (l : List Int) : (bcs l).all (·.oneCell') = true := by
  rw [Array.all_eq_true_iff_forall_mem]
  intro v hv
  simp only [bcs, List.mem_toArray, List.mem_map] at hv
  obtain ⟨z, _, rfl⟩ := hv
  rfl
theorem store25 {ops : Array Oper} {rest : List Oper} {o : Oper} {a : Act} {w : World} {Q : Exit → Act → World → Prop} (hgd : o.guard = none) (x y : Operand) (ho : o.op = .store 25 x y)
    (g : Nat) (hx : a.eval x = .pointer (some ⟨g, 0, none⟩)) (l : List Int) (hl : l.length = 20) (hy : a.eval y = .agg (bcs l)) (l0 : List Int) (hl0 : l0.length = 20) (hg : w.heap[g]? = some (.cells (bcs l0) 25 (0, 0)))
    (h : wpList Try.prog ops Q rest (a.put o.dst undef) (w.setRow g (bcs l))) : wpList Try.prog ops Q (o :: rest) a w :=
  wpList_store_row hgd 25 x y ho g (bcs l) hx hy 25 (bcs l0) hg (by rw [bcs_size, hl]; kernel_rfl) (by rw [bcs_size, bcs_size, hl, hl0]) (bcs_one l) h

set_option maxHeartbeats 1000000 in
theorem sub_any (w : World) (X A : List Int) (lX : X.length = 20) (lA : A.length = 20) (bX : Byt X) (bA : Byt A) :
    Calls Try.prog 17 #[.agg (bcs X), .agg (bcs A)] w fun e w' => e = .returned (.agg (bcs (subR X A).1)) ∧ Below w.heap.size w w' := by
  have hstart : Hid (SubInv w X A 20 _) := sub_start w X A lX lA
  go_enter Try.func17, Try.ntmps17
  go_wp2
  go_loopw [6, 7] (fun b k wr => ∃ m : Nat, m ≤ 20 ∧ k = .int .i64 ((m : Int) - 1) ∧ b = .int .i64 (subR (X.drop m) (A.drop m)).2 ∧ SubInv w X A m wr) (fun _ k _ => (intOf k + 1).toNat)
  case atStart => exact ⟨20, Nat.le_refl _, rfl, by rw [List.drop_of_length_le (by omega), List.drop_of_length_le (by omega)]; rfl, hstart.out⟩
  case round =>
    clear hstart
    obtain ⟨m, hm, hk, hb, hinv⟩ := hrel
    rcases m with _ | i
    · have ek : ((0 : Nat) : Int) - 1 = -1 := by omega
      rw [ek] at hk
      subst hk
      subst hb
      have hd := hinv.d
      have hr := hinv.r
      have e0 : dAt X A 0 = (subR X A).1 := by simp [dAt]
      have hl0 : (dAt X A 0).length = 20 := dAt_len X A 0 lX lA bX bA (by omega)
      rw [e0] at hd hl0
      have HI : Hid (SubInv w X A 0 wr) := hinv
      clear hinv e0 ek
      go_wp2_with (first | refine load25 rfl _ rfl (w.heap.size + 1 + 1 + 1) rfl (subR X A).1 hl0 25 (0, 0) hd ?_ | refine store25 rfl _ _ rfl (w.heap.size + 1 + 1) rfl (subR X A).1 hl0 rfl _ (by simp) hr ?_)
      exact bodyPost_ret (v := .agg (bcs (subR X A).1)) (results_cell_row rfl _ _ (w.heap.size + 1 + 1) 25 (bcs (subR X A).1) (0, 0) _ rfl (setRow_heap wr _ _ _ 25 _ hr) Try.underlying25 rfl (by rw [bcs_size, hl0]; kernel_rfl)) rfl ⟨rfl, below_setRow HI.out.bel (by omega) _⟩
    · have ek : (((i + 1 : Nat)) : Int) - 1 = (i : Int) := by omega
      rw [ek] at hk
      subst hk
      obtain ⟨x, hx⟩ : ∃ x, X[i]? = some x := ⟨_, List.getElem?_eq_getElem (by omega)⟩
      obtain ⟨a, ha⟩ : ∃ a, A[i]? = some a := ⟨_, List.getElem?_eq_getElem (by omega)⟩
      have bx := bX x (List.mem_of_getElem? hx)
      have ba := bA a (List.mem_of_getElem? ha)
      have cx := bcs_cell hinv.x hx
      have ca := bcs_cell hinv.a ha
      have hs := subR_cons x a (X.drop (i + 1)) (A.drop (i + 1))
      rw [← drop_cons hx, ← drop_cons ha] at hs
      have hbb := (subR_ok (X.drop (i + 1)) (A.drop (i + 1)) (by simp [lX, lA]) (fun z hz => bX z (List.mem_of_mem_drop hz)) (fun z hz => bA z (List.mem_of_mem_drop hz))).2.2.1
      obtain ⟨bb, hbbe⟩ : ∃ bb, (subR (X.drop (i + 1)) (A.drop (i + 1))).2 = bb := ⟨_, rfl⟩
      rw [hbbe] at hs hbb hb
      have hbr : 0 ≤ bb ∧ bb ≤ 1 := by omega
      subst hb
      have cd : wr.cell? ⟨w.heap.size + 1 + 1 + 1, i, none⟩ = some (.int .u8 0) := bcs_cell hinv.d (by unfold dAt; rw [List.getElem?_append_left (by simp)]; simp)
      have fd : wr.frozen? ⟨w.heap.size + 1 + 1 + 1, i, none⟩ = false := frozen_of_row wr _ i _ 25 hinv.d
      by_cases ht : x - a - bb < 0
      · rw [if_pos ht] at hs
        have H1 : Hid ((subR (X.drop i) (A.drop i)).1 = (x - a - bb + 256) :: (subR (X.drop (i + 1)) (A.drop (i + 1))).1 ∧ (subR (X.drop i) (A.drop i)).2 = 1) := ⟨by rw [hs], by rw [hs]⟩
        have HI : Hid (SubInv w X A (i + 1) wr) := hinv
        clear hs hbbe hbb hx ha hinv lX lA bX bA ek
        go_wp2
        go_quiet (fail)
        go_wp2
        go_roundw
        case rel => exact ⟨i, by omega, by go_num, by rw [H1.out.2], sub_step HI.out _ H1.out.1 _⟩
        case measure => simp [intOf]
      · rw [if_neg ht] at hs
        have H1 : Hid ((subR (X.drop i) (A.drop i)).1 = (x - a - bb) :: (subR (X.drop (i + 1)) (A.drop (i + 1))).1 ∧ (subR (X.drop i) (A.drop i)).2 = 0) := ⟨by rw [hs], by rw [hs]⟩
        have HI : Hid (SubInv w X A (i + 1) wr) := hinv
        clear hs hbbe hbb hx ha hinv lX lA bX bA ek
        go_wp2
        go_quiet (fail)
        go_wp2
        go_roundw
        case rel => exact ⟨i, by omega, by go_num, by rw [H1.out.2], sub_step HI.out _ H1.out.1 _⟩
        case measure => simp [intOf]

end Go.Proofs.Qxb6000078a
