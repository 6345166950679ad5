/-
  Seat b6000078a: zzB1IsZero, zzB1Cmp.
-/
import Derived.Test.Qxb6000078aWalks4
namespace Go.Proofs.Qxb6000078a
open Go.RowKit

theorem val_zero : ∀ (l : List Int), Byt l → (val l = 0 ↔ ∀ z ∈ l, z = 0)
  | [], _ => by simp [val]
  | z :: l, h => by
    have ih := val_zero l h.tail
    have hz := h.head
    have r := val_range l h.tail
    have hp := pow_pos l.length
    have h2 : 0 ≤ z * 256 ^ l.length := Int.mul_nonneg hz.1 (Int.le_of_lt hp)
    simp only [val, List.mem_cons, forall_eq_or_imp]
    constructor
    · intro he
      have a : z * 256 ^ l.length = 0 := by omega
      have b : val l = 0 := by omega
      refine ⟨?_, ih.1 b⟩
      rcases Int.mul_eq_zero.1 a with h | h
      · exact h
      · omega
    · rintro ⟨rfl, hl⟩
      have := ih.2 hl
      omega

set_option maxHeartbeats 400000 in
theorem zero_any (w : World) (X : List Int) (lX : X.length = 20) (bX : Byt X) :
    Calls Try.prog 18 #[.agg (bcs X)] w fun e w' => e = .returned (.bool (decide (val X = 0))) ∧ Below w.heap.size w w' := by
  have hX : (w.alloc (.cells (bcs X) 25)).heap[w.heap.size]? = some (.cells (bcs X) 25 (0, 0)) := heap_alloc_new w _
  go_enter Try.func18, Try.ntmps18
  go_wp2
  go_loop [3] (fun k => ∃ m : Nat, m ≤ 20 ∧ k = .int .i64 m ∧ ∀ z ∈ X.take m, z = 0) (fun k => 20 - (intOf k).toNat)
  case atStart => exact ⟨0, by omega, rfl, by simp⟩
  case round =>
    obtain ⟨m, hm, rfl, hz⟩ := hrel
    by_cases hlt : m < 20
    · obtain ⟨x, hx⟩ : ∃ x, X[m]? = some x := ⟨_, List.getElem?_eq_getElem (by omega)⟩
      have cx := bcs_cell hX hx
      have HX : Hid (X[m]? = some x) := hx
      clear hx hX
      by_cases h0 : x = 0
      · have hb : (x != 0) = false := by simp [h0]
        have H0 : Hid (x = 0) := h0
        clear h0
        go_wp2
        go_round
        case rel =>
          refine ⟨m + 1, by omega, by go_num, ?_⟩
          intro z hz'
          rw [List.take_add_one, HX.out] at hz'
          simp at hz'
          rcases hz' with hz' | rfl
          · exact hz z hz'
          · exact H0.out
        case measure => simp [intOf]; omega
      · have hb : (x != 0) = true := by simp [h0]
        have H0 : Hid (¬ x = 0) := h0
        clear h0
        go_wp2
        go_ret
        refine ⟨ret_bool ?_, (Below.refl _ _).alloc (Nat.le_refl _) _⟩
        have : ¬ val X = 0 := fun h => H0.out ((val_zero X bX).1 h x (List.mem_of_getElem? HX.out))
        simp [this]
    · have : m = 20 := by omega
      subst this
      go_wp2
      go_ret
      refine ⟨ret_bool ?_, (Below.refl _ _).alloc (Nat.le_refl _) _⟩
      rw [List.take_of_length_le (by omega)] at hz
      have := (val_zero X bX).2 hz
      simp [this]

theorem sgn_take {X Y : List Int} {m : Nat} (lX : X.length = 20) (lY : Y.length = 20) (bX : Byt X) (bY : Byt Y) (h : X.take m = Y.take m) {x y : Int} (hx : X[m]? = some x) (hy : Y[m]? = some y) :
    sgn (val X) (val Y) = if x < y then -1 else if y < x then 1 else sgn (val (X.drop (m + 1))) (val (Y.drop (m + 1))) := by
  have key : ∀ (n : Nat) (l X Y : List Int), Byt (l ++ X) → Byt (l ++ Y) → X.length = Y.length → l.length = n → sgn (val (l ++ X)) (val (l ++ Y)) = sgn (val X) (val Y) := by
    intro n
    induction n with
    | zero => intro l X Y _ _ _ hl; rw [List.length_eq_zero_iff.1 hl]; rfl
    | succ n ih =>
      intro l X Y b1 b2 hXY hl
      match l, hl with
      | z :: l, hl =>
        have e := sgn_cons (z := z) (y := z) (l := l ++ X) (m := l ++ Y) (by simp [hXY]) b1 b2
        rw [if_neg (by omega), if_neg (by omega)] at e
        refine e.trans ?_
        exact ih l X Y b1.tail b2.tail hXY (by simpa using hl)
  have e1 : X = X.take m ++ (x :: X.drop (m + 1)) := by rw [← drop_cons hx, List.take_append_drop]
  have e2 : Y = X.take m ++ (y :: Y.drop (m + 1)) := by rw [← drop_cons hy, h, List.take_append_drop]
  have b1 : Byt (X.take m ++ (x :: X.drop (m + 1))) := by rw [← e1]; exact bX
  have b2 : Byt (X.take m ++ (y :: Y.drop (m + 1))) := by rw [← e2]; exact bY
  have h1 := key _ (X.take m) (x :: X.drop (m + 1)) (y :: Y.drop (m + 1)) b1 b2 (by simp [lX, lY]) rfl
  rw [← e1, ← e2] at h1
  rw [h1, sgn_cons (by simp [lX, lY]) (fun z hz => b1 z (List.mem_append_right _ hz)) (fun z hz => b2 z (List.mem_append_right _ hz))]

set_option maxHeartbeats 1000000 in
theorem cmp_any (w : World) (X Y : List Int) (lX : X.length = 20) (lY : Y.length = 20) (bX : Byt X) (bY : Byt Y) :
    Calls Try.prog 19 #[.agg (bcs X), .agg (bcs Y)] w fun e w' => e = .returned (.int .i64 (sgn (val X) (val Y))) ∧ Below w.heap.size w w' := by
  have hX : ((w.alloc (.cells (bcs X) 25)).alloc (.cells (bcs Y) 25)).heap[w.heap.size]? = some (.cells (bcs X) 25 (0, 0)) := heap_alloc2_old w _ _
  have hY : ((w.alloc (.cells (bcs X) 25)).alloc (.cells (bcs Y) 25)).heap[w.heap.size + 1]? = some (.cells (bcs Y) 25 (0, 0)) := heap_alloc2_new w _ _
  have hB : Hid (Below w.heap.size w ((w.alloc (.cells (bcs X) 25)).alloc (.cells (bcs Y) 25))) := ((Below.refl _ _).alloc (Nat.le_refl _) _).alloc (by simp) _
  go_enter Try.func19, Try.ntmps19
  go_wp2
  go_loopw [5] (fun k wr => ∃ m : Nat, m ≤ 20 ∧ k = .int .i64 m ∧ X.take m = Y.take m ∧ ∃ n, wr = ((w.alloc (.cells (bcs X) 25)).alloc (.cells (bcs Y) 25)).drewN n) (fun k _ => 20 - (intOf k).toNat)
  case atStart => exact ⟨0, by omega, rfl, by simp, 0, rfl⟩
  case round =>
    obtain ⟨m, hm, rfl, hz, n, rfl⟩ := hrel
    have HZ : Hid (X.take m = Y.take m) := hz
    clear hz
    by_cases hlt : m < 20
    · obtain ⟨x, hx⟩ : ∃ x, X[m]? = some x := ⟨_, List.getElem?_eq_getElem (by omega)⟩
      obtain ⟨y, hy⟩ : ∃ y, Y[m]? = some y := ⟨_, List.getElem?_eq_getElem (by omega)⟩
      have cx := bcs_cell hX hx
      have cy := bcs_cell hY hy
      have hs := sgn_take lX lY bX bY HZ.out hx hy
      have HX : Hid (X[m]? = some x) := hx
      have HY : Hid (Y[m]? = some y) := hy
      clear hx hX hy hY lX lY bX bY
      by_cases h1 : x < y
      · rw [if_pos h1] at hs
        have HS : Hid (sgn (val X) (val Y) = -1) := hs
        clear hs
        go_wp2
        go_quiet (fail)
        go_wp2
        go_ret
        exact ⟨by rw [HS.out]; rfl, below_drewN (below_drewN hB.out _) _⟩
      · rw [if_neg h1] at hs
        by_cases h2 : y < x
        · rw [if_pos h2] at hs
          have HS : Hid (sgn (val X) (val Y) = 1) := hs
          clear hs
          go_wp2
          go_quiet (fail)
          go_wp2
          go_quiet (fail)
          go_wp2
          go_ret
          exact ⟨by rw [HS.out]; rfl, below_drewN (below_drewN (below_drewN hB.out _) _) _⟩
        · clear hs
          go_wp2
          go_quiet (fail)
          go_wp2
          go_quiet (fail)
          go_wp2
          go_roundw
          case rel => exact ⟨m + 1, by omega, by go_num, by rw [List.take_add_one, List.take_add_one, HZ.out, HX.out, HY.out, show x = y by omega], _, rfl⟩
          case measure => simp [intOf]; omega
    · have : m = 20 := by omega
      subst this
      have e : sgn (val X) (val Y) = 0 := by
        have := HZ.out
        rw [List.take_of_length_le (by omega), List.take_of_length_le (by omega)] at this
        rw [this]
        unfold sgn
        rw [if_neg (by omega), if_neg (by omega)]
      have HS : Hid (sgn (val X) (val Y) = 0) := e
      clear e
      go_wp2
      go_ret
      exact ⟨by rw [HS.out]; rfl, below_drewN hB.out _⟩

end Go.Proofs.Qxb6000078a
