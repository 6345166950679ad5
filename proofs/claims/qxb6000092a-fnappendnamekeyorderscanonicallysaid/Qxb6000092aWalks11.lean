/-
  Seat b6000092a: compareBytes, compareStr.
-/
import Derived.Test.Qxb6000092aWalks10
namespace Go.Proofs.Qxb6000092a
open Go.RowKit

theorem cmpB_append (l u v : List UInt8) : cmpB (l ++ u) (l ++ v) = cmpB u v := by
  induction l with
  | nil => rfl
  | cons c l ih => exact (cmpB_cons_same c _ _).trans ih

theorem cmpB_at {S P : List UInt8} {k : Nat} {x y : UInt8} (h : S.take k = P.take k) (hx : S[k]? = some x) (hy : P[k]? = some y) :
    cmpB S P = if x < y then -1 else if y < x then 1 else cmpB (S.drop (k + 1)) (P.drop (k + 1)) := by
  obtain ⟨h1, e1⟩ := List.getElem?_eq_some_iff.1 hx
  obtain ⟨h2, e2⟩ := List.getElem?_eq_some_iff.1 hy
  have a : cmpB S P = cmpB (S.drop k) (P.drop k) := by
    have := cmpB_append (S.take k) (S.drop k) (P.drop k)
    rw [List.take_append_drop] at this
    rw [← this, h, List.take_append_drop]
  rw [a, List.drop_eq_getElem_cons h1, List.drop_eq_getElem_cons h2, e1, e2]
  rfl

theorem cmpB_end {S P : List UInt8} {k : Nat} (h : S.take k = P.take k) (hk : S.length ≤ k ∨ P.length ≤ k) : cmpB S P = if S.length < P.length then -1 else if P.length < S.length then 1 else 0 := by
  have a : cmpB S P = cmpB (S.drop k) (P.drop k) := by
    have := cmpB_append (S.take k) (S.drop k) (P.drop k)
    rw [List.take_append_drop] at this
    rw [← this, h, List.take_append_drop]
  have hl := congrArg List.length h
  simp only [List.length_take] at hl
  rw [a]
  have l1 : (S.drop k).length = S.length - k := by simp
  have l2 : (P.drop k).length = P.length - k := by simp
  generalize S.drop k = u at *
  generalize P.drop k = v at *
  match u, v with
  | [], [] => simp at l1 l2; rw [if_neg (by omega), if_neg (by omega)]; rfl
  | [], _ :: _ => simp at l1 l2; rw [if_pos (by omega)]; rfl
  | _ :: _, [] => simp at l1 l2; rw [if_neg (by omega), if_pos (by omega)]; rfl
  | _ :: _, _ :: _ => simp at l1 l2; omega

theorem u8_lt {x y : UInt8} : x < y ↔ (x.toNat : Int) < (y.toNat : Int) := by
  rw [UInt8.lt_iff_toNat_lt]; omega

theorem if_congr' {p q : Prop} [Decidable p] [Decidable q] {x y : Int} (h : p ↔ q) : (if p then x else y) = if q then x else y := by
  by_cases hq : q
  · rw [if_pos hq, if_pos (h.2 hq)]
  · rw [if_neg hq, if_neg (fun hp => hq (h.1 hp))]
theorem str_eq' (x y : List UInt8) : ((bs x).toList == (bs y).toList) = (x == y) := by
  rw [Lib.toList_data, Lib.toList_data]
  rfl

set_option maxHeartbeats 1000000 in
theorem compareBytes_any (S P : List UInt8) (g1 g2 c1 c2 nS nP : Nat) (hS : S.length = nS) (hP : P.length = nP) (bS : nS ≤ 1000) (_bP : nP ≤ 1000) (w : World) (a1 : At w g1 S) (a2 : At w g2 P) :
    Calls Try.prog 18 #[.slice (some ⟨g1, 0, none⟩) nS c1, .slice (some ⟨g2, 0, none⟩) nP c2] w fun e w' => e = .returned (.int .i64 (cmpB S P)) ∧ ∃ n, w' = w.drewN n := by
  have HS : Hid (S.length = nS) := hS
  have HP : Hid (P.length = nP) := hP
  have A1 : Hid (At w g1 S) := a1
  have A2 : Hid (At w g2 P) := a2
  clear hS hP a1 a2
  go_enter Try.func18, Try.ntmps18
  go_wp2
  go_loopw [5] (fun v wr => ∃ k : Nat, v = .int .i64 k ∧ k ≤ nS ∧ k ≤ nP ∧ S.take k = P.take k ∧ ∃ n, wr = w.drewN n) (fun v _ => nP - (intOf v).toNat)
  case atStart => exact ⟨0, rfl, Nat.zero_le _, Nat.zero_le _, rfl, 0, rfl⟩
  case round =>
    obtain ⟨k, rfl, hk1, hk2, hpre, n, rfl⟩ := hrel
    have HPRE : Hid (S.take k = P.take k) := hpre
    clear hpre
    by_cases hkS : k < nS
    · by_cases hkP : k < nP
      · obtain ⟨x, hx⟩ : ∃ x, S[k]? = some x := ⟨_, List.getElem?_eq_getElem (by rw [HS.out]; omega)⟩
        obtain ⟨y, hy⟩ : ∃ y, P[k]? = some y := ⟨_, List.getElem?_eq_getElem (by rw [HP.out]; omega)⟩
        have e1 := A1.out k x hx
        have e2 := A2.out k y hy
        have hc := cmpB_at HPRE.out hx hy
        rw [if_congr' u8_lt, if_congr' u8_lt] at hc
        have HX : Hid (S[k]? = some x) := hx
        have HY : Hid (P[k]? = some y) := hy
        clear hx hy
        by_cases h1 : (x.toNat : Int) < (y.toNat : Int)
        · rw [if_pos h1] at hc
          have HC : Hid (cmpB S P = -1) := hc
          clear hc
          go_wp2
          go_quiet (fail)
          go_wp2
          go_ret
          exact ⟨ret_int HC.out.symm, _, by rw [World.drewN_drewN]⟩
        · rw [if_neg h1] at hc
          by_cases h2 : (y.toNat : Int) < (x.toNat : Int)
          · rw [if_pos h2] at hc
            have HC : Hid (cmpB S P = 1) := hc
            clear hc
            go_wp2
            go_quiet (fail)
            go_wp2
            go_quiet (fail)
            go_wp2
            go_ret
            exact ⟨ret_int HC.out.symm, _, by rw [World.drewN_drewN, World.drewN_drewN]⟩
          · clear hc
            have HXY : Hid (x = y) := UInt8.toNat_inj.1 (by omega)
            go_wp2
            go_quiet (fail)
            go_wp2
            go_quiet (fail)
            go_wp2
            go_roundw
            case rel => exact ⟨k + 1, by go_num, by omega, by omega, by rw [List.take_add_one, List.take_add_one, HPRE.out, HX.out, HY.out, HXY.out], _, rfl⟩
            case measure => simp [intOf]; omega
      · have hc := cmpB_end HPRE.out (Or.inr (by rw [HP.out]; omega))
        rw [HS.out, HP.out, if_neg (by omega), if_pos (by omega)] at hc
        have HC : Hid (cmpB S P = 1) := hc
        clear hc
        go_wp2
        go_ret
        exact ⟨ret_int HC.out.symm, _, rfl⟩
    · have hc := cmpB_end HPRE.out (Or.inl (by rw [HS.out]; omega))
      rw [HS.out, HP.out] at hc
      by_cases h1 : nS < nP
      · rw [if_pos h1] at hc
        have HC : Hid (cmpB S P = -1) := hc
        clear hc
        go_wp2
        go_ret
        exact ⟨ret_int HC.out.symm, _, rfl⟩
      · rw [if_neg h1, if_neg (by omega)] at hc
        have HC : Hid (cmpB S P = 0) := hc
        clear hc
        go_wp2
        go_ret
        exact ⟨ret_int HC.out.symm, _, rfl⟩

theorem less_cmp : ∀ (x y : List UInt8), Op.bytesLess x y = decide (cmpB x y = -1)
  | [], [] => by simp [Op.bytesLess, cmpB]
  | [], _ :: _ => by simp [Op.bytesLess, cmpB]
  | _ :: _, [] => by simp [Op.bytesLess, cmpB]
  | a :: x, b :: y => by
    have ih := less_cmp x y
    by_cases h : a = b
    · subst h
      have hn : ¬ a < a := UInt8.lt_irrefl a
      rw [cmpB_cons_same, ← ih]
      simp [Op.bytesLess, hn]
    · rcases UInt8.lt_or_lt_of_ne h with h1 | h1
      · rw [cmpB_cons_lt h1]; simp [Op.bytesLess, h1]
      · have h' : ¬ a < b := UInt8.lt_asymm h1
        rw [cmpB_cons_gt h1]; simp [Op.bytesLess, h, h']

theorem cmpB_range (x y : List UInt8) : cmpB x y = -1 ∨ cmpB x y = 0 ∨ cmpB x y = 1 := by
  fun_induction cmpB x y with
  | case1 => exact Or.inr (Or.inl rfl)
  | case2 => exact Or.inl rfl
  | case3 => exact Or.inr (Or.inr rfl)
  | case4 => exact Or.inl rfl
  | case5 => exact Or.inr (Or.inr rfl)
  | case6 _ _ _ _ _ _ ih => exact ih

theorem compareStr_any (x y : List UInt8) (w : World) :
    Calls Try.prog 25 #[.string (bs x), .string (bs y)] w fun e w' => e = .returned (.int .i64 (cmpB x y)) ∧ w = w' := by
  have h1 : Op.bytesLess (bs x).toList (bs y).toList = decide (cmpB x y = -1) := by
    rw [Lib.toList_data, Lib.toList_data, bs_data, bs_data]; exact less_cmp x y
  have h2 : ((bs x).toList == (bs y).toList) = decide (cmpB x y = 0) := by
    rw [str_eq']
    by_cases h : x = y
    · simp [h, (cmpB_zero y y).2 rfl]
    · have h' : ¬ cmpB x y = 0 := fun e => h ((cmpB_zero x y).1 e)
      simp [h, h']
  rcases cmpB_range x y with h | h | h
  · have HC : Hid (cmpB x y = -1) := h
    rw [h] at h1 h2
    have h1' : Op.bytesLess (bs x).toList (bs y).toList = true := h1
    have h2' : ((bs x).toList == (bs y).toList) = false := h2
    clear h h1 h2
    go_enter Try.func25, Try.ntmps25
    go_wp2
    go_ret
    exact ⟨ret_int HC.out.symm, rfl⟩
  · have HC : Hid (cmpB x y = 0) := h
    rw [h] at h1 h2
    have h1' : Op.bytesLess (bs x).toList (bs y).toList = false := h1
    have h2' : ((bs x).toList == (bs y).toList) = true := h2
    clear h h1 h2
    go_enter Try.func25, Try.ntmps25
    go_wp2
    go_ret
    exact ⟨ret_int HC.out.symm, rfl⟩
  · have HC : Hid (cmpB x y = 1) := h
    rw [h] at h1 h2
    have h1' : Op.bytesLess (bs x).toList (bs y).toList = false := h1
    have h2' : ((bs x).toList == (bs y).toList) = false := h2
    clear h h1 h2
    go_enter Try.func25, Try.ntmps25
    go_wp2
    go_ret
    exact ⟨ret_int HC.out.symm, rfl⟩

end Go.Proofs.Qxb6000092a
