/-
  Seat b6601361a: ZZParsePlainRWLine; '==' on two arrays of four numbers.
-/
import Derived.Test.Qxb6601361aWalks9
namespace Go.Proofs.Qxb6601361a
open Go.RowKit

set_option maxHeartbeats 1000000 in
/-- ZZParsePlainRWLine hands on. -/
theorem zz_of (a : Option Addr) (n c : Nat) (A : Ans) (hl : A.fields.length = 4) (w : World) (H : ∀ w1 : World, Below w.heap.size w w1 → Calls Try.prog 27 #[.slice a n c] w1 (AnsPost A w1)) : Calls Try.prog 16 #[.slice a n c] w (AnsPost A w) := by
  obtain ⟨k, F, ok⟩ := A
  obtain ⟨f0, f1, f2, f3, rfl⟩ := four hl
  have HH : Hid (∀ w1 : World, Below w.heap.size w w1 → Calls Try.prog 27 #[.slice a n c] w1 (fun e w' => e = .returned (.tuple #[.int .u8 k, .agg #[.int .i64 f0, .int .i64 f1, .int .i64 f2, .int .i64 f3], .bool ok]) ∧ Below w1.heap.size w1 w')) := H
  clear H hl
  go_enter Try.func16, Try.ntmps16
  go_wp2_with (
    go_at_call 27
    refine (HH.out _ ((Below.refl _ _).alloc (Nat.le_refl _) _)).mono ?_
    rintro e w1 ⟨rfl, hb1⟩
    have hr : w1.heap[w.heap.size]? = some (.cells #[.int .i64 0, .int .i64 0, .int .i64 0, .int .i64 0] 35 (0, 0)) := (hb1.block _ (by simp)).trans (Go.heap_alloc_new w _)
    have hb : Below w.heap.size w w1 := ((Below.refl _ _).alloc (Nat.le_refl _) _).trans (hb1.mono (by simp))
    have e0 : w1.cell? ⟨w.heap.size, 0, none⟩ = some (.int .i64 0) := by rw [cell_of_row w1 _ 0 _ 35 _ hr]; rfl
    have e1 : w1.cell? ⟨w.heap.size, 1, none⟩ = some (.int .i64 0) := by rw [cell_of_row w1 _ 1 _ 35 _ hr]; rfl
    have e2 : w1.cell? ⟨w.heap.size, 2, none⟩ = some (.int .i64 0) := by rw [cell_of_row w1 _ 2 _ 35 _ hr]; rfl
    have e3 : w1.cell? ⟨w.heap.size, 3, none⟩ = some (.int .i64 0) := by rw [cell_of_row w1 _ 3 _ 35 _ hr]; rfl
    have z0 : w1.frozen? ⟨w.heap.size, 0, none⟩ = false := frozen_of_row w1 _ 0 _ 35 hr
    have z1 : w1.frozen? ⟨w.heap.size, 1, none⟩ = false := frozen_of_row w1 _ 1 _ 35 hr
    have z2 : w1.frozen? ⟨w.heap.size, 2, none⟩ = false := frozen_of_row w1 _ 2 _ 35 hr
    have z3 : w1.frozen? ⟨w.heap.size, 3, none⟩ = false := frozen_of_row w1 _ 3 _ 35 hr
    clear hb1 HH)
  refine bodyPost_ret (v := .tuple #[.int .u8 k, .agg #[.int .i64 f0, .int .i64 f1, .int .i64 f2, .int .i64 f3], .bool ok]) (by simp [results, Try.results16, go_sem, e0, e1, e2, e3]) rfl ⟨rfl, ?_⟩
  exact (((hb.setCell (Nat.le_refl _) _).setCell (Nat.le_refl _) _).setCell (Nat.le_refl _) _).setCell (Nat.le_refl _) _

theorem run_part_int {P : Program} (w : World) (e : TypeId) (cs : Array Value) (i : Nat) (v : Value) (he : P.underlying e = some (.int .i64)) (h : cs[i]? = some v) : (part e cs i).run P w = .ok v w := by
  have hagg : (isAgg e).run P w = .ok false w := by
    unfold isAgg
    rw [Sem.run_bind, run_underlying he w]
    rfl
  simp [part, Sem.run_bind, hagg, h]

theorem eq_loop {P : Program} (d : Nat) (e : TypeId) (he : P.underlying e = some (.int .i64)) (xs : Array Value) (f : Nat → Int) (w : World) :
    ∀ (is : List Nat), (∀ i ∈ is, xs[i]? = some (.int .i64 (f i))) →
      (forIn (m := Sem) is ((none, ()) : Option Bool × Unit) (fun i _ => do
        let a ← part e xs (i * 1)
        let b ← part e xs (i * 1)
        let r ← Op.equalIn (d + 1) e a b
        if (!r) = true then pure (.done (some false, ())) else pure (.yield (none, ())))).run P w = .ok (none, ()) w
  | [], _ => by simp
  | i :: is, h => by
    have ih := eq_loop d e he xs f w is (fun j hj => h j (List.mem_cons_of_mem _ hj))
    have h0 := h i (List.mem_cons_self ..)
    rw [List.forIn_cons]
    simp only [Sem.run_bind, Nat.mul_one, run_part_int w e xs i _ he h0, Result.andThen_ok, run_equalIn_int w d e .i64 .i64 _ _ he]
    have hb : (f i == f i) = true := by simp
    simp only [hb, Bool.not_true, Bool.false_eq_true, if_false, Sem.run_pure, Result.andThen_ok]
    simp only [Nat.mul_one] at ih
    exact ih

/-- Four numbers are equal to themselves. -/
theorem run_equal_four (f0 f1 f2 f3 : Int) (w : World) :
    (Op.equalIn 10000 35 (.agg #[.int .i64 f0, .int .i64 f1, .int .i64 f2, .int .i64 f3]) (.agg #[.int .i64 f0, .int .i64 f1, .int .i64 f2, .int .i64 f3])).run Try.prog w = .ok true w := by
  have hs : (Try.prog.info? 2).map (·.size) = some 1 := by kernel_rfl
  have hsz : (sizeOf 2).run Try.prog w = .ok 1 w := by
    cases hq : Try.prog.info? 2 with
    | none => simp [hq] at hs
    | some i => simp [hq] at hs; simp [sizeOf, typeInfo, hq, hs]
  rw [show 10000 = 9998 + 1 + 1 from rfl, Op.equalIn]
  simp only [Sem.run_bind, run_underlying Try.underlying35, Result.andThen_ok, hsz]
  rw [Std.Legacy.Range.forIn_eq_forIn_range']
  have hloop := eq_loop (P := Try.prog) 9998 2 Try.underlying2 #[.int .i64 f0, .int .i64 f1, .int .i64 f2, .int .i64 f3] (fun i => [f0, f1, f2, f3].getD i 0) w (List.range' [:4].start [:4].size [:4].step) (fun i hi => by
    have hi' : i < 4 := by simpa [List.mem_range'] using hi
    match i, hi' with
    | 0, _ => rfl
    | 1, _ => rfl
    | 2, _ => rfl
    | 3, _ => rfl)
  rw [hloop]
  rfl

end Go.Proofs.Qxb6601361a
