/-
  Seat b6000078a: ring.Between.
-/
import Derived.Test.Qxb6000078aWalks1
import Derived.Outline
import Derived.Deep.RegionWith
namespace Go.Proofs.Qxb6000078a
open Go.RowKit

theorem h3_0 (w : World) (a b c : Obj) : (((w.alloc a).alloc b).alloc c).heap[w.heap.size]? = some a := by
  show (((w.heap.push a).push b).push c)[w.heap.size]? = some a
  rw [Array.getElem?_push, if_neg (by simp; omega), Array.getElem?_push, if_neg (by simp), Array.getElem?_push, if_pos rfl]
theorem h3_1 (w : World) (a b c : Obj) : (((w.alloc a).alloc b).alloc c).heap[w.heap.size + 1]? = some b := by
  show (((w.heap.push a).push b).push c)[w.heap.size + 1]? = some b
  rw [Array.getElem?_push, if_neg (by simp), Array.getElem?_push, if_pos (by simp)]
theorem h3_2 (w : World) (a b c : Obj) : (((w.alloc a).alloc b).alloc c).heap[w.heap.size + 1 + 1]? = some c := by
  show (((w.heap.push a).push b).push c)[w.heap.size + 1 + 1]? = some c
  rw [Array.getElem?_push, if_pos (by simp)]

/-- A callee that draws nothing, met in a second region that draws. -/
theorem quiet_twice {P : Program} {f : FuncId} {args : Array Value} {w : World} {n x : Nat} {v : Value}
    (h : Calls P f args (w.drewN (n + x)) fun e w' => e = .returned v ∧ w' = w.drewN (n + x)) : Calls P f args (w.drewN (n + x)) fun e w'' => e = .returned v ∧ ∃ m, w'' = w.drewN (n + m) :=
  h.mono fun _ _ ⟨he, hm⟩ => ⟨he, x, hm⟩

set_option maxHeartbeats 1000000 in
theorem between_core (w : World) (X A B : List Int) (lX : X.length = 20) (lA : A.length = 20) (lB : B.length = 20) (bX : Byt X) (bA : Byt A) (bB : Byt B)
    (cab cax cxb : Int) (h1 : sgn (val A) (val B) = cab) (h2 : sgn (val A) (val X) = cax) (h3 : sgn (val X) (val B) = cxb) (r : Bool)
    (hr : r = if cab < 0 then decide (cax < 0) && decide (cxb ≤ 0) else decide (cax < 0) || decide (cxb ≤ 0)) :
    Calls Try.prog 16 #[.agg (bcs X), .agg (bcs A), .agg (bcs B)] w fun e w' => e = .returned (.bool r) ∧
      ∃ n, w' = (((w.alloc (.cells (bcs X) 25)).alloc (.cells (bcs A) 25)).alloc (.cells (bcs B) 25)).drewN n := by
  have C1 : Hid (∀ W : World, W.heap = (((w.alloc (.cells (bcs X) 25)).alloc (.cells (bcs A) 25)).alloc (.cells (bcs B) 25)).heap → Calls Try.prog 21 #[.slice (some ⟨w.heap.size + 1, 0, none⟩) 20 20, .slice (some ⟨w.heap.size + 1 + 1, 0, none⟩) 20 20] W fun e w' => e = .returned (.int .i64 cab) ∧ w' = W) :=
    fun W hW => compare_any _ _ _ A B 25 25 (0, 0) (0, 0) lA lB bA bB (by rw [hW]; exact h3_1 w _ _ _) (by rw [hW]; exact h3_2 w _ _ _) cab h1
  have C2 : Hid (∀ W : World, W.heap = (((w.alloc (.cells (bcs X) 25)).alloc (.cells (bcs A) 25)).alloc (.cells (bcs B) 25)).heap → Calls Try.prog 21 #[.slice (some ⟨w.heap.size + 1, 0, none⟩) 20 20, .slice (some ⟨w.heap.size, 0, none⟩) 20 20] W fun e w' => e = .returned (.int .i64 cax) ∧ w' = W) :=
    fun W hW => compare_any _ _ _ A X 25 25 (0, 0) (0, 0) lA lX bA bX (by rw [hW]; exact h3_1 w _ _ _) (by rw [hW]; exact h3_0 w _ _ _) cax h2
  have C3 : Hid (∀ W : World, W.heap = (((w.alloc (.cells (bcs X) 25)).alloc (.cells (bcs A) 25)).alloc (.cells (bcs B) 25)).heap → Calls Try.prog 21 #[.slice (some ⟨w.heap.size, 0, none⟩) 20 20, .slice (some ⟨w.heap.size + 1 + 1, 0, none⟩) 20 20] W fun e w' => e = .returned (.int .i64 cxb) ∧ w' = W) :=
    fun W hW => compare_any _ _ _ X B 25 25 (0, 0) (0, 0) lX lB bX bB (by rw [hW]; exact h3_0 w _ _ _) (by rw [hW]; exact h3_2 w _ _ _) cxb h3
  clear h1 h2 h3 lX lA lB bX bA bB
  by_cases d1 : cab < 0
  · have hd1 : decide (cab < 0) = true := by simpa using d1
    rw [if_pos d1] at hr
    by_cases d2 : cax < 0
    · have hd2 : decide (cax < 0) = true := by simpa using d2
      have hr' : r = decide (cxb ≤ 0) := by rw [hr, hd2, Bool.true_and]
      subst hr'
      clear hr
      go_enter Try.func16, Try.ntmps16
      go_wp2
      go_quiet ((go_at_call 21; exact Calls.quiet_of_same (C1.out _ rfl)))
      go_wp2
      go_quiet (first | (go_at_call 21; (with_reducible refine quiet_twice (C2.out _ ?_)); exact rfl) | (go_at_call 21; (with_reducible refine quiet_twice (C3.out _ ?_)); exact rfl))
      go_wp2
      go_ret
      exact ⟨rfl, _, by rw [World.drewN_drewN]⟩
    · have hd2 : decide (cax < 0) = false := by simpa using d2
      have hr' : r = false := by rw [hr, hd2, Bool.false_and]
      subst hr'
      clear hr
      go_enter Try.func16, Try.ntmps16
      go_wp2
      go_quiet ((go_at_call 21; exact Calls.quiet_of_same (C1.out _ rfl)))
      go_wp2
      go_quiet (first | (go_at_call 21; (with_reducible refine quiet_twice (C2.out _ ?_)); exact rfl) | (go_at_call 21; (with_reducible refine quiet_twice (C3.out _ ?_)); exact rfl))
      go_wp2
      go_ret
      exact ⟨rfl, _, by rw [World.drewN_drewN]⟩
  · have hd1 : decide (cab < 0) = false := by simpa using d1
    rw [if_neg d1] at hr
    by_cases d2 : cax < 0
    · have hd2 : decide (cax < 0) = true := by simpa using d2
      have hr' : r = true := by rw [hr, hd2, Bool.true_or]
      subst hr'
      clear hr
      go_enter Try.func16, Try.ntmps16
      go_wp2
      go_quiet ((go_at_call 21; exact Calls.quiet_of_same (C1.out _ rfl)))
      go_wp2
      go_quiet (first | (go_at_call 21; (with_reducible refine quiet_twice (C2.out _ ?_)); exact rfl) | (go_at_call 21; (with_reducible refine quiet_twice (C3.out _ ?_)); exact rfl))
      go_wp2
      go_ret
      exact ⟨rfl, _, by rw [World.drewN_drewN]⟩
    · have hd2 : decide (cax < 0) = false := by simpa using d2
      have hr' : r = decide (cxb ≤ 0) := by rw [hr, hd2, Bool.false_or]
      subst hr'
      clear hr
      go_enter Try.func16, Try.ntmps16
      go_wp2
      go_quiet ((go_at_call 21; exact Calls.quiet_of_same (C1.out _ rfl)))
      go_wp2
      go_quiet (first | (go_at_call 21; (with_reducible refine quiet_twice (C2.out _ ?_)); exact rfl) | (go_at_call 21; (with_reducible refine quiet_twice (C3.out _ ?_)); exact rfl))
      go_wp2
      go_ret
      exact ⟨rfl, _, by rw [World.drewN_drewN]⟩

theorem sgn_neg (a b : Int) : sgn a b < 0 ↔ a < b := by
  unfold sgn; split
  · simp_all
  · split <;> simp_all
theorem sgn_le (a b : Int) : sgn a b ≤ 0 ↔ a ≤ b := by
  unfold sgn; split
  · simp_all; omega
  · split <;> simp_all <;> omega

/-- ring.Between. -/
theorem between_any (w : World) (X A B : List Int) (lX : X.length = 20) (lA : A.length = 20) (lB : B.length = 20) (bX : Byt X) (bA : Byt A) (bB : Byt B) :
    Calls Try.prog 16 #[.agg (bcs X), .agg (bcs A), .agg (bcs B)] w fun e w' => e = .returned (.bool (btw (val X) (val A) (val B))) ∧ Below w.heap.size w w' :=
  (between_core w X A B lX lA lB bX bA bB _ _ _ rfl rfl rfl _ (by unfold btw; simp only [sgn_neg, sgn_le])).mono fun _ _ ⟨he, n, hw⟩ =>
    ⟨he, by rw [hw]; exact below_drewN ((((Below.refl _ _).alloc (Nat.le_refl _) _).alloc (by simp) _).alloc (by simp; omega) _) n⟩

end Go.Proofs.Qxb6000078a
