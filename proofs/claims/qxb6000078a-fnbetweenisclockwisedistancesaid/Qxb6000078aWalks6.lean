/-
  Seat b6000078a: the law FnBetweenIsClockwiseDistance.
-/
import Derived.Test.Qxb6000078aWalks5
namespace Go.Proofs.Qxb6000078a
open Go.RowKit

/-! A new block laid and filled at once. -/
theorem nr_size (w : World) (c D : Array Value) : ((w.alloc (.cells c 25)).setRow w.heap.size D).heap.size = w.heap.size + 1 := by simp
theorem nr_new (w : World) (c D : Array Value) : ((w.alloc (.cells c 25)).setRow w.heap.size D).heap[w.heap.size]? = some (.cells D 25 (0, 0)) :=
  setRow_heap _ _ c D 25 _ (Go.heap_alloc_new w _)
theorem nr_old (w : World) (c D : Array Value) (k : Nat) (o : Obj) (hk : k < w.heap.size) (h : w.heap[k]? = some o) : ((w.alloc (.cells c 25)).setRow w.heap.size D).heap[k]? = some o :=
  (setRow_other _ _ k D (by omega)).trans ((Below.heap_alloc w _ k hk).trans h)
theorem nr_below {B : Nat} {w0 w : World} (h : Below B w0 w) (hB : B ≤ w.heap.size) (c D : Array Value) : Below B w0 ((w.alloc (.cells c 25)).setRow w.heap.size D) :=
  below_setRow (h.alloc hB _) hB D

theorem load25g {ops : Array Oper} {rest : List Oper} {o : Oper} {a : Act} {w : World} {Q : Exit → Act → World → Prop} (hgd : Region.wanted o (yielded ops a.tmps) = true) (x : Operand) (ho : o.op = .load 25 x)
    (g : Nat) (hx : a.eval x = .pointer (some ⟨g, 0, none⟩)) (l : List Int) (hl : l.length = 20) (t : TypeId) (fr : Nat × Nat) (hg : w.heap[g]? = some (.cells (bcs l) t fr))
    (h : wpList Try.prog ops Q rest (a.put o.dst (.agg (bcs l))) w) : wpList Try.prog ops Q (o :: rest) a w := by
  unfold wpList
  rw [if_pos hgd]
  exact Or.inl (wp_load_row 25 x ho g hx t (bcs l) fr _ hg Try.underlying25 rfl (by rw [bcs_size, hl]; kernel_rfl) h)

set_option maxHeartbeats 1000000 in
theorem law_dist (w : World) (X A B : List Int) (lX : X.length = 20) (lA : A.length = 20) (lB : B.length = 20) (bX : Byt X) (bA : Byt A) (bB : Byt B) :
    Calls Try.prog 7 #[.agg (bcs X), .agg (bcs A), .agg (bcs B)] w fun e w' => e = .returned (.bool true) ∧ Below w.heap.size w w' := by
  have heq : ∀ w : World, (Op.equalIn 10000 24 (.agg (bcs A)) (.agg (bcs B))).run Try.prog w = .ok (decide (A = B)) w := fun w => run_equalIn_array 9998 24 5 20 A B Try.underlying24 Try.underlying5 (by kernel_rfl) lA lB w
  have hX := h3_0 w (.cells (bcs X) 24) (.cells (bcs A) 24) (.cells (bcs B) 24)
  have hA := h3_1 w (.cells (bcs X) 24) (.cells (bcs A) 24) (.cells (bcs B) 24)
  have hB := h3_2 w (.cells (bcs X) 24) (.cells (bcs A) 24) (.cells (bcs B) 24)
  have hS : (((w.alloc (.cells (bcs X) 24)).alloc (.cells (bcs A) 24)).alloc (.cells (bcs B) 24)).heap.size = w.heap.size + 1 + 1 + 1 := by simp
  have hb0 : Below w.heap.size w (((w.alloc (.cells (bcs X) 24)).alloc (.cells (bcs A) 24)).alloc (.cells (bcs B) 24)) := (((Below.refl _ _).alloc (Nat.le_refl _) _).alloc (by simp) _).alloc (by simp; omega) _
  go_enter Try.func7, Try.ntmps7
  go_wp2_with (first | refine load24 rfl _ rfl w.heap.size rfl X lX 24 (0, 0) hX ?_ | refine load24 rfl _ rfl (w.heap.size + 1) rfl A lA 24 (0, 0) hA ?_ | refine load24 rfl _ rfl (w.heap.size + 1 + 1) rfl B lB 24 (0, 0) hB ?_)
  refine (between_any _ X A B lX lA lB bX bA bB).mono ?_
  rintro e w1 ⟨rfl, hb1⟩
  rw [hS] at hb1
  have hX1 := (hb1.block w.heap.size (by omega)).trans hX
  have hA1 := (hb1.block (w.heap.size + 1) (by omega)).trans hA
  have hB1 := (hb1.block (w.heap.size + 1 + 1) (by omega)).trans hB
  have hS1 := hb1.size
  rw [hS] at hS1
  replace hb0 := hb0.trans (hb1.mono (by omega))
  clear hb1 hX hA hB hS
  by_cases hab : A = B
  · subst hab
    go_wp2_with (first | refine load24 rfl _ rfl (w.heap.size + 1) rfl A lA 24 (0, 0) hA1 ?_ | refine load24 rfl _ rfl (w.heap.size + 1 + 1) rfl A lA 24 (0, 0) hB1 ?_)
    go_ret
    exact ⟨ret_bool (btw_same _ _), hb0⟩
  · obtain ⟨n1, y1, u1, v1⟩ := subR_ok X A (by omega) bX bA
    obtain ⟨n2, y2, u2, v2⟩ := subR_ok B A (by omega) bB bA
    have r1 := val_range _ y1
    have r2 := val_range _ y2
    have rX := val_range _ bX
    have rA := val_range _ bA
    have rB := val_range _ bB
    rw [n1, lX] at r1
    rw [n2, lB] at r2
    rw [lX] at rX v1
    rw [lA] at rA
    rw [lB] at rB v2
    have HD : Hid ((btw (val X) (val A) (val B) == (!decide (val (subR X A).1 = 0) && decide (val (subR X A).1 ≤ val (subR B A).1))) = true) :=
      dist _ _ _ _ _ _ _ _ (pow_pos 20) (fun h => hab (val_inj A B (by omega) bA bB h)) rX.1 rX.2 rA.1 rA.2 rB.1 rB.2 r1.1 r1.2 r2.1 r2.2 u1 u2 v1 v2
    rw [lX] at n1
    rw [lB] at n2
    clear u1 u2 v1 v2 r1 r2 rX rA rB
    go_wp2_with (first | refine load24 rfl _ rfl w.heap.size rfl X lX 24 (0, 0) hX1 ?_ | refine load24 rfl _ rfl (w.heap.size + 1) rfl A lA 24 (0, 0) hA1 ?_ | refine load24 rfl _ rfl (w.heap.size + 1 + 1) rfl B lB 24 (0, 0) hB1 ?_)
    refine (sub_any _ X A lX lA bX bA).mono ?_
    rintro e w2 ⟨rfl, hb2⟩
    have hX2 := (hb2.block w.heap.size (by omega)).trans hX1
    have hA2 := (hb2.block (w.heap.size + 1) (by omega)).trans hA1
    have hB2 := (hb2.block (w.heap.size + 1 + 1) (by omega)).trans hB1
    have hS2 := hb2.size
    replace hb0 := hb0.trans (hb2.mono (by omega))
    clear hb2 hX1 hA1 hB1
    have hX3 := fun c => nr_old w2 c (bcs (subR X A).1) w.heap.size _ (by omega) hX2
    have hA3 := fun c => nr_old w2 c (bcs (subR X A).1) (w.heap.size + 1) _ (by omega) hA2
    have hB3 := fun c => nr_old w2 c (bcs (subR X A).1) (w.heap.size + 1 + 1) _ (by omega) hB2
    have hD3 := fun c => nr_new w2 c (bcs (subR X A).1)
    go_wp2_with (first | refine store25 rfl _ _ rfl w2.heap.size rfl (subR X A).1 n1 rfl (List.replicate 20 0) (by simp) (heap_alloc_new _ _) ?_ | refine load24 rfl _ rfl (w.heap.size + 1) rfl A lA 24 (0, 0) (hA3 _) ?_ | refine load24 rfl _ rfl (w.heap.size + 1 + 1) rfl B lB 24 (0, 0) (hB3 _) ?_)
    refine (sub_any _ B A lB lA bB bA).mono ?_
    rintro e w4 ⟨rfl, hb4⟩
    rw [nr_size] at hb4
    have hD4 := (hb4.block w2.heap.size (by omega)).trans (hD3 _)
    have hS4 := hb4.size
    rw [nr_size] at hS4
    replace hb0 := (nr_below hb0 (by omega) _ _).trans (hb4.mono (by omega))
    clear hb4 hX3 hA3 hB3 hD3 hX2 hA2 hB2
    have hD5 := fun c => nr_old w4 c (bcs (subR B A).1) w2.heap.size _ (by omega) hD4
    have hE5 := fun c => nr_new w4 c (bcs (subR B A).1)
    go_wp2_with (first | refine store25 rfl _ _ rfl w4.heap.size rfl (subR B A).1 n2 rfl (List.replicate 20 0) (by simp) (heap_alloc_new _ _) ?_ | refine load25 rfl _ rfl w2.heap.size rfl (subR X A).1 n1 25 (0, 0) (hD5 _) ?_)
    refine (zero_any _ (subR X A).1 n1 y1).mono ?_
    rintro e w6 ⟨rfl, hb6⟩
    rw [nr_size] at hb6
    have hD6 := (hb6.block w2.heap.size (by omega)).trans (hD5 _)
    have hE6 := (hb6.block w4.heap.size (by omega)).trans (hE5 _)
    have hS6 := hb6.size
    rw [nr_size] at hS6
    replace hb0 := (nr_below hb0 (by omega) _ _).trans (hb6.mono (by omega))
    clear hb6 hD5 hE5 hD4
    by_cases hz : val (subR X A).1 = 0
    · have hdz : decide (val (subR X A).1 = 0) = true := by simpa using hz
      have HE := HD.out
      rw [hdz] at HE ⊢
      have HF : Hid ((!btw (val X) (val A) (val B)) = true) := by unfold Hid; simpa using HE
      clear hz hdz HE HD
      go_wp2
      go_ret
      exact ⟨ret_bool HF.out, hb0⟩
    · have hdz : decide (val (subR X A).1 = 0) = false := by simpa using hz
      have HE := HD.out
      rw [hdz] at HE ⊢
      have HF : Hid ((btw (val X) (val A) (val B) == decide (sgn (val (subR X A).1) (val (subR B A).1) ≤ 0)) = true) := by
        unfold Hid
        simp only [sgn_le]
        simpa using HE
      clear hz hdz HE HD
      go_wp2_with (first | refine load25g rfl _ rfl w2.heap.size rfl (subR X A).1 n1 25 (0, 0) hD6 ?_ | refine load25g rfl _ rfl w4.heap.size rfl (subR B A).1 n2 25 (0, 0) hE6 ?_)
      refine (cmp_any _ (subR X A).1 (subR B A).1 n1 n2 y1 y2).mono ?_
      rintro e w7 ⟨rfl, hb7⟩
      replace hb0 := hb0.trans (hb7.mono (by have := hb0.size; omega))
      go_wp2
      go_ret
      exact ⟨ret_bool HF.out, hb0⟩

end Go.Proofs.Qxb6000078a
