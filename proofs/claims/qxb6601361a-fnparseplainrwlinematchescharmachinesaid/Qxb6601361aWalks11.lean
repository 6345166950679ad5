/-
  Seat b6601361a: the law FnParsePlainRWLineMatchesCharMachine.
-/
import Derived.Test.Qxb6601361aWalks10
namespace Go.Proofs.Qxb6601361a
open Go.RowKit

/-- What a clone is good for: both readers answer alike at it, now and later. -/
def Reads (A : Ans) (s : Value) (w' : World) : Prop :=
  ∀ w1, Below w'.heap.size w' w1 → Calls Try.prog 16 #[s] w1 (AnsPost A w1) ∧ Calls Try.prog 17 #[s] w1 (AnsPost A w1)
def ClP (A : Ans) (w : World) (e : Ending) (w' : World) : Prop :=
  ∃ (b : Option Addr) (m : Nat), e = .returned (.slice b m m) ∧ Below w.heap.size w w' ∧ Reads A (.slice b m m) w'

theorem clp_of {T : List UInt8} (hb : T.length ≤ 1048576) {w : World} {e : Ending} {w' : World} (h : ClPost T w e w') : ClP (ansOf T) w e w' := by
  obtain ⟨hbl, ⟨rfl, rfl⟩ | ⟨rfl, hg, hl⟩⟩ := h
  · refine ⟨none, 0, rfl, hbl, fun w1 _ => ⟨?_, ?_⟩⟩
    · exact zz_of none 0 0 _ rfl w1 (fun w2 _ => parse_short none 0 0 (by omega) w2)
    · exact model_short none 0 0 (by omega) w1
  · refine ⟨_, _, rfl, hbl, fun w1 h1 => ⟨?_, ?_⟩⟩
    · refine zz_of _ _ _ _ (ansOf_len T) w1 (fun w2 h2 => ?_)
      refine parse_any T w.heap.size _ rfl hb w2 ?_ ?_
      · have := h1.size
        exact ((h2.block _ (by omega)).trans (h1.block _ hl)).trans hg
      · have := h1.size
        have := h2.size
        omega
    · refine model_any T w.heap.size _ rfl hb w1 ((h1.block _ hl).trans hg) ?_
      have := h1.size
      omega

/-- The same, the answer spelt out. -/
def Reads4 (k f0 f1 f2 f3 : Int) (ok : Bool) (s : Value) (w' : World) : Prop :=
  ∀ w1, Below w'.heap.size w' w1 →
    (Calls Try.prog 16 #[s] w1 fun e w2 => e = .returned (.tuple #[.int .u8 k, .agg #[.int .i64 f0, .int .i64 f1, .int .i64 f2, .int .i64 f3], .bool ok]) ∧ Below w1.heap.size w1 w2) ∧
    (Calls Try.prog 17 #[s] w1 fun e w2 => e = .returned (.tuple #[.int .u8 k, .agg #[.int .i64 f0, .int .i64 f1, .int .i64 f2, .int .i64 f3], .bool ok]) ∧ Below w1.heap.size w1 w2)
theorem reads4 {k f0 f1 f2 f3 : Int} {ok : Bool} {s : Value} {w' : World} (h : Reads ⟨k, [f0, f1, f2, f3], ok⟩ s w') : Reads4 k f0 f1 f2 f3 ok s w' := h

set_option maxHeartbeats 1000000 in
theorem law (a : Option Addr) (n c : Nat) (hn : n ≤ maxLen) (A : Ans) (hl : A.fields.length = 4) (w : World) (HC : n ≤ 1048576 → Calls Try.prog 9 #[.slice a n c] w (ClP A w)) :
    Calls Try.prog 5 #[.slice a n c] w fun e w' => e = .returned (.bool true) ∧ Below w.heap.size w w' := by
  have HN : Hid (n ≤ maxLen) := hn
  clear hn
  by_cases hb : n ≤ 1048576
  · have H9 := hide' (HC hb)
    have hd : Hid (decide (n ≤ 1048576) = true) := decide_eq_true hb
    clear HC
    obtain ⟨k, F, ok⟩ := A
    obtain ⟨f0, f1, f2, f3, rfl⟩ := four hl
    clear hl
    have heq := run_equal_four f0 f1 f2 f3
    go_enter Try.func5, Try.ntmps5
    go_wp2_with (first
      | (go_at_call 15; refine (bytes15_any _ _ _ HN.out _).mono ?_; rw [hd.out]; rintro e w' ⟨rfl, rfl⟩)
      | (go_at_call 9; refine (H9.out).mono ?_; rintro e w1 ⟨b, m, rfl, hb1, hrd⟩; have HRD := hide' (reads4 hrd); have HB1 := hide' hb1; clear hrd hb1 H9)
      | (go_at_call 16
         refine ((HRD.out _ (Below.refl _ _)).1).mono ?_
         rintro e w2 ⟨rfl, hb2⟩
         have HB2 := hide' hb2
         clear hb2))
    refine ((HRD.out _ (HB2.out.alloc HB2.out.size _)).2).mono ?_
    rintro e w3 ⟨rfl, hb3⟩
    have hr : w3.heap[w2.heap.size]? = some (.cells #[.int .i64 f0, .int .i64 f1, .int .i64 f2, .int .i64 f3] 35 (0, 0)) := (hb3.block _ (by simp)).trans (Go.heap_alloc_new w2 _)
    have hlt : w2.heap.size < w3.heap.size := by have := hb3.size; simp at this; omega
    have hw3 : Below w.heap.size w w3 := ((HB1.out.trans (HB2.out.mono HB1.out.size)).alloc (by have := HB1.out.size; have := HB2.out.size; omega) _).trans (hb3.mono (by have := HB1.out.size; have := HB2.out.size; simp; omega))
    have HB3 := hide' hw3
    have hs3 : w.heap.size ≤ w3.heap.size := hw3.size
    have e0 : w3.cell? ⟨w2.heap.size, 0, none⟩ = some (.int .i64 f0) := by rw [cell_of_row w3 _ 0 _ 35 _ hr]; rfl
    have e1 : w3.cell? ⟨w2.heap.size, 1, none⟩ = some (.int .i64 f1) := by rw [cell_of_row w3 _ 1 _ 35 _ hr]; rfl
    have e2 : w3.cell? ⟨w2.heap.size, 2, none⟩ = some (.int .i64 f2) := by rw [cell_of_row w3 _ 2 _ 35 _ hr]; rfl
    have e3 : w3.cell? ⟨w2.heap.size, 3, none⟩ = some (.int .i64 f3) := by rw [cell_of_row w3 _ 3 _ 35 _ hr]; rfl
    clear hr hb3 hw3 HB1 HB2 HRD
    go_wp2
    go_ret
    exact ⟨rfl, HB3.out.alloc hs3 _⟩
  · have hd : Hid (decide (n ≤ 1048576) = false) := decide_eq_false hb
    clear HC hl
    go_enter Try.func5, Try.ntmps5
    go_wp2_with (go_at_call 15; refine (bytes15_any _ _ _ HN.out _).mono ?_; rw [hd.out]; rintro e w' ⟨rfl, rfl⟩)
    go_ret
    exact ⟨rfl, Below.refl _ _⟩

end Go.Proofs.Qxb6601361a
