/-
  Seat b6000078a: '==' on two arrays of twenty bytes; the law FnBetweenArcAndComplement.
-/
import Derived.Test.Qxb6000078aWalks2
namespace Go.Proofs.Qxb6000078a
open Go.RowKit

theorem run_part_int {P : Program} (w : World) (e : TypeId) (cs : Array Value) (i : Nat) (v : Value) (he : P.underlying e = some (.int .u8)) (h : cs[i]? = some v) : (part e cs i).run P w = .ok v w := by
  have hagg : (isAgg e).run P w = .ok false w := by
    unfold isAgg
    rw [Sem.run_bind, run_underlying he w]
    rfl
  simp [part, Sem.run_bind, hagg, h]

theorem eq_loop {P : Program} (d : Nat) (e : TypeId) (he : P.underlying e = some (.int .u8)) (xs ys : Array Value) (f : Nat → Int) (g : Nat → Int) (w : World) :
    ∀ (is : List Nat), (∀ i ∈ is, xs[i]? = some (.int .u8 (f i)) ∧ ys[i]? = some (.int .u8 (g i))) →
      (forIn (m := Sem) is ((none, ()) : Option Bool × Unit) (fun i _ => do
        let a ← part e xs (i * 1)
        let b ← part e ys (i * 1)
        let r ← Op.equalIn (d + 1) e a b
        if (!r) = true then pure (.done (some false, ())) else pure (.yield (none, ())))).run P w = .ok (if is.all (fun i => f i == g i) then (none, ()) else (some false, ())) w
  | [], _ => by simp
  | i :: is, h => by
    have ih := eq_loop d e he xs ys f g w is (fun j hj => h j (List.mem_cons_of_mem _ hj))
    have h0 := h i (List.mem_cons_self ..)
    rw [List.forIn_cons]
    simp only [Sem.run_bind, Nat.mul_one, run_part_int w e xs i _ he h0.1, run_part_int w e ys i _ he h0.2, Result.andThen_ok, run_equalIn_int w d e .u8 .u8 _ _ he]
    by_cases hfg : f i = g i
    · have hb : (f i == g i) = true := by simpa using hfg
      simp only [hb, Bool.not_true, Bool.false_eq_true, if_false, Sem.run_pure, Result.andThen_ok, List.all_cons, Bool.true_and]
      simp only [Nat.mul_one] at ih
      exact ih
    · have hb : (f i == g i) = false := by simpa using hfg
      simp only [hb, Bool.not_false, if_true, Sem.run_pure, Result.andThen_ok, List.all_cons, Bool.false_and, Bool.false_eq_true, if_false]

theorem run_equalIn_array {P : Program} (d : Nat) (t e : TypeId) (n : Nat) (l m : List Int) (ht : P.underlying t = some (.array n e)) (he : P.underlying e = some (.int .u8)) (hs : (P.info? e).map (·.size) = some 1)
    (hl : l.length = n) (hm : m.length = n) (w : World) : (Op.equalIn (d + 1 + 1) t (.agg (bcs l)) (.agg (bcs m))).run P w = .ok (decide (l = m)) w := by
  have hsz : (sizeOf e).run P w = .ok 1 w := by
    cases hq : P.info? e with
    | none => simp [hq] at hs
    | some i => simp [hq] at hs; simp [sizeOf, typeInfo, hq, hs]
  rw [Op.equalIn]
  simp only [Sem.run_bind, run_underlying ht, Result.andThen_ok, hsz]
  rw [Std.Legacy.Range.forIn_eq_forIn_range']
  have hloop := eq_loop (P := P) d e he (bcs l) (bcs m) (fun i => l.getD i 0) (fun i => m.getD i 0) w (List.range' [:n].start [:n].size [:n].step) (fun i hi => by
    have hi' : i < n := by simpa [List.mem_range'] using hi
    refine ⟨?_, ?_⟩
    · rw [bcs_get, List.getElem?_eq_getElem (by omega)]; simp [List.getElem?_eq_getElem (show i < l.length by omega)]
    · rw [bcs_get, List.getElem?_eq_getElem (by omega)]; simp [List.getElem?_eq_getElem (show i < m.length by omega)])
  rw [hloop]
  simp only [Result.andThen_ok]
  by_cases hlm : l = m
  · subst hlm
    simp
  · have hn : ((List.range' [:n].start [:n].size [:n].step).all fun i => l.getD i 0 == m.getD i 0) = false := by
      rw [Bool.eq_false_iff]
      intro hall
      apply hlm
      apply List.ext_getElem (by omega)
      intro i h1 h2
      have := (List.all_eq_true.1 hall) i (by simp [List.mem_range']; omega)
      simpa [List.getElem?_eq_getElem h1, List.getElem?_eq_getElem h2] using this
    rw [hn]
    simp [hlm]

/-- A whole array of twenty bytes, loaded out of its own block. -/
theorem load24 {ops : Array Oper} {rest : List Oper} {o : Oper} {a : Act} {w : World} {Q : Exit → Act → World → Prop} (hgd : o.guard = none) (x : Operand) (ho : o.op = .load 24 x)
    (g : Nat) (hx : a.eval x = .pointer (some ⟨g, 0, none⟩)) (l : List Int) (hl : l.length = 20) (t : TypeId) (fr : Nat × Nat) (hg : w.heap[g]? = some (.cells (bcs l) t fr))
    (h : wpList Try.prog ops Q rest (a.put o.dst (.agg (bcs l))) w) : wpList Try.prog ops Q (o :: rest) a w :=
  wpList_load_row hgd 24 x ho g hx t (bcs l) fr _ hg Try.underlying24 rfl (by rw [bcs_size, hl]; kernel_rfl) h

theorem ret_bool {a b : Bool} (h : a = b) : Ending.returned (.bool a) = .returned (.bool b) := by rw [h]

set_option maxHeartbeats 1000000 in
theorem law_compl (w : World) (X A B : List Int) (lX : X.length = 20) (lA : A.length = 20) (lB : B.length = 20) (bX : Byt X) (bA : Byt A) (bB : Byt B) :
    Calls Try.prog 8 #[.agg (bcs X), .agg (bcs A), .agg (bcs B)] w fun e w' => e = .returned (.bool true) ∧ Below w.heap.size w w' := by
  have heq : ∀ w : World, (Op.equalIn 10000 24 (.agg (bcs A)) (.agg (bcs B))).run Try.prog w = .ok (decide (A = B)) w := fun w => run_equalIn_array 9998 24 5 20 A B Try.underlying24 Try.underlying5 (by kernel_rfl) lA lB w
  have hX := h3_0 w (.cells (bcs X) 24) (.cells (bcs A) 24) (.cells (bcs B) 24)
  have hA := h3_1 w (.cells (bcs X) 24) (.cells (bcs A) 24) (.cells (bcs B) 24)
  have hB := h3_2 w (.cells (bcs X) 24) (.cells (bcs A) 24) (.cells (bcs B) 24)
  have hS : (((w.alloc (.cells (bcs X) 24)).alloc (.cells (bcs A) 24)).alloc (.cells (bcs B) 24)).heap.size = w.heap.size + 1 + 1 + 1 := by simp
  have hb0 : Below w.heap.size w (((w.alloc (.cells (bcs X) 24)).alloc (.cells (bcs A) 24)).alloc (.cells (bcs B) 24)) := (((Below.refl _ _).alloc (Nat.le_refl _) _).alloc (by simp) _).alloc (by simp; omega) _
  go_enter Try.func8, Try.ntmps8
  go_wp2_with (first | refine load24 rfl _ rfl w.heap.size rfl X lX 24 (0, 0) hX ?_ | refine load24 rfl _ rfl (w.heap.size + 1) rfl A lA 24 (0, 0) hA ?_ | refine load24 rfl _ rfl (w.heap.size + 1 + 1) rfl B lB 24 (0, 0) hB ?_)
  refine (between_any _ X A B lX lA lB bX bA bB).mono ?_
  rintro e w1 ⟨rfl, hb1⟩
  rw [hS] at hb1
  have hX1 := (hb1.block w.heap.size (by omega)).trans hX
  have hA1 := (hb1.block (w.heap.size + 1) (by omega)).trans hA
  have hB1 := (hb1.block (w.heap.size + 1 + 1) (by omega)).trans hB
  have hS1 := hb1.size
  rw [hS] at hS1
  replace hb0 := hb0.trans (hb1.mono (by omega))
  clear hb1 hX hA hB hS
  go_wp2_with (first | refine load24 rfl _ rfl w.heap.size rfl X lX 24 (0, 0) hX1 ?_ | refine load24 rfl _ rfl (w.heap.size + 1) rfl A lA 24 (0, 0) hA1 ?_ | refine load24 rfl _ rfl (w.heap.size + 1 + 1) rfl B lB 24 (0, 0) hB1 ?_)
  refine (between_any _ X B A lX lB lA bX bB bA).mono ?_
  rintro e w2 ⟨rfl, hb2⟩
  have hX2 := (hb2.block w.heap.size (by omega)).trans hX1
  have hA2 := (hb2.block (w.heap.size + 1) (by omega)).trans hA1
  have hB2 := (hb2.block (w.heap.size + 1 + 1) (by omega)).trans hB1
  replace hb0 := hb0.trans (hb2.mono (by omega))
  clear hb2 hX1 hA1 hB1
  go_wp2_with (first | refine load24 rfl _ rfl w.heap.size rfl X lX 24 (0, 0) hX2 ?_ | refine load24 rfl _ rfl (w.heap.size + 1) rfl A lA 24 (0, 0) hA2 ?_ | refine load24 rfl _ rfl (w.heap.size + 1 + 1) rfl B lB 24 (0, 0) hB2 ?_)
  · go_ret
    exact ⟨rfl, hb0⟩
  · exact absurd (btw_same (val X) (val B)) ‹_›
  · have h : val A ≠ val B := fun h => ‹¬ A = B› (val_inj A B (by omega) bA bB h)
    go_ret
    exact ⟨ret_bool (btw_compl (val X) (val A) (val B) h), hb0⟩

end Go.Proofs.Qxb6000078a
