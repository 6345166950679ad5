/-
  Seat b6601361a: parsePlainRWLine.
-/
import Derived.Test.Qxb6601361aWalks2
namespace Go.Proofs.Qxb6601361a
open Go.RowKit

theorem fcs_get (F : List Int) (i : Nat) : (fcs F)[i]? = (F[i]?).map (Value.int .i64) := by simp [fcs]
theorem fcs_set (F : List Int) (i : Nat) (v : Int) : (fcs F).setIfInBounds i (.int .i64 v) = fcs (F.set i v) := by
  unfold fcs
  rw [List.setIfInBounds_toArray, List.map_set]
theorem fcs_cell {w : World} {g i : Nat} {F : List Int} {t : TypeId} {fr : Nat × Nat} (hg : w.heap[g]? = some (.cells (fcs F) t fr)) (hi : i < F.length) : w.cell? ⟨g, i, none⟩ = some (.int .i64 (F.getD i 0)) := by
  rw [cell_of_row w g i _ t fr hg, fcs_get, List.getElem?_eq_getElem hi]
  simp [List.getElem?_eq_getElem hi]

/-- What the loop of parsePlainRWLine knows at field f. -/
def PInv (A : Ans) (kd : Int) (T : List UInt8) (f i : Nat) (F : List Int) : Prop :=
  F.length = 4 ∧ i ≤ T.length ∧ ((f ≤ 3 ∧ A = parseF kd (3 - f) F (T.drop i) ∧ ∀ j, f ≤ j → F.getD j 0 = 0) ∨ (f = 4 ∧ A = fin kd F))

theorem neq_beq {c : UInt8} {k : Nat} (hk : k < 256) (h : ¬ c = UInt8.ofNat k) : ((c.toNat : Int) == (k : Int)) = false := by
  rw [beq_eq_false_iff_ne]
  intro h'
  apply h
  apply UInt8.toNat_inj.1
  simp
  omega

theorem hide' {p : Prop} (h : p) : Hid p := h

theorem lead_le : ∀ (m : Nat) (v : Int) (l : List UInt8), (lead m v l).2 ≤ l.length
  | 0, _, _ => by simp [lead]
  | _ + 1, _, [] => by simp [lead]
  | m + 1, v, c :: l => by
    have ih := lead_le m (v * 10 + dig c) l
    by_cases hc : isDig c = true
    · simp [lead, hc]; omega
    · simp [lead, hc]

theorem drop_at {T : List UInt8} {i k : Nat} {c : UInt8} (h : T[i + k]? = some c) : (T.drop i).drop k = c :: T.drop (i + k + 1) := by
  obtain ⟨hl, e⟩ := List.getElem?_eq_some_iff.1 h
  rw [List.drop_drop, List.drop_eq_getElem_cons hl, e]

theorem parseF_zero (kd : Int) (F : List Int) (l : List UInt8) : parseF kd (3 - 3) F l =
    if kd = 2 ∧ minus1 l = true then (if l.length = 3 then fin kd (F.set 3 (-1)) else fail (F.set 3 (-1)))
    else if (lead 18 0 l).2 = 0 then fail F
    else sepP kd (fun F _ => fail F) true (F.set 3 (lead 18 0 l).1) (l.drop (lead 18 0 l).2) := rfl
theorem parseF_succ (kd : Int) (r : Nat) (F : List Int) (l : List UInt8) : parseF kd (r + 1) F l =
    if (lead 18 0 l).2 = 0 then fail F
    else sepP kd (fun F l => parseF kd r F l) false (F.set (2 - r) (lead 18 0 l).1) (l.drop (lead 18 0 l).2) := rfl

theorem p_zero {A : Ans} {kd : Int} {T : List UInt8} {f i : Nat} {F : List Int} {v : Int} {k : Nat} (hf : f ≤ 2) (hA : A = parseF kd (3 - f) F (T.drop i)) (hl : lead 18 0 (T.drop i) = (v, k)) (hk : k = 0) : A = fail F := by
  rw [hA, show 3 - f = (2 - f) + 1 by omega, parseF_succ, hl, if_pos hk]
theorem p_sep {A : Ans} {kd : Int} {T : List UInt8} {f i : Nat} {F : List Int} {v : Int} {k : Nat} (hf : f ≤ 2) (hA : A = parseF kd (3 - f) F (T.drop i)) (hl : lead 18 0 (T.drop i) = (v, k)) (hk : ¬ k = 0) :
    A = sepP kd (fun F l => parseF kd (2 - f) F l) false (F.set f v) ((T.drop i).drop k) := by
  rw [hA, show 3 - f = (2 - f) + 1 by omega, parseF_succ, hl, if_neg hk, show 2 - (2 - f) = f by omega]
theorem p_next {A : Ans} {kd : Int} {T : List UInt8} {f i : Nat} {F : List Int} {v : Int} {k : Nat} (hf : f ≤ 2) (hA : A = parseF kd (3 - f) F (T.drop i)) (hl : lead 18 0 (T.drop i) = (v, k)) (hk : ¬ k = 0)
    (hc : T[i + k]? = some 44) (hF : F.length = 4) (hz : ∀ j, f ≤ j → F.getD j 0 = 0) : PInv A kd T (f + 1) (i + k + 1) (F.set f v) := by
  have h := p_sep hf hA hl hk
  rw [drop_at hc, sepP_cons, if_pos ⟨rfl, rfl⟩] at h
  have hlt := (List.getElem?_eq_some_iff.1 hc).1
  refine ⟨by simpa using hF, by omega, Or.inl ⟨by omega, ?_, ?_⟩⟩
  · rw [h, show 3 - (f + 1) = 2 - f by omega]
  · intro j hj
    rw [get_set_other _ _ _ _ (by omega)]
    exact hz j (by omega)
theorem p_fail {A : Ans} {kd : Int} {T : List UInt8} {f i : Nat} {F : List Int} {v : Int} {k : Nat} (hf : f ≤ 2) (hA : A = parseF kd (3 - f) F (T.drop i)) (hl : lead 18 0 (T.drop i) = (v, k)) (hk : ¬ k = 0)
    (hc : ∀ c, T[i + k]? = some c → ¬ c = 44) : A = fail (F.set f v) := by
  have h := p_sep hf hA hl hk
  cases hcc : T[i + k]? with
  | none =>
    rw [List.getElem?_eq_none_iff] at hcc
    rw [List.drop_drop, List.drop_of_length_le hcc] at h
    exact h
  | some c =>
    rw [drop_at hcc, sepP_cons, if_neg (fun h => hc c hcc h.1), if_neg (fun h => by cases h.2)] at h
    exact h
theorem q_minus {A : Ans} {kd : Int} {T : List UInt8} {i : Nat} {F : List Int} (hA : A = parseF kd (3 - 3) F (T.drop i)) (hk : kd = 2) (hm : minus1 (T.drop i) = true) : A = if T.length = i + 3 then fin kd (F.set 3 (-1)) else fail (F.set 3 (-1)) := by
  have hl : 3 ≤ (T.drop i).length := by
    have := congrArg List.length (beq_iff_eq.1 hm)
    simp at this ⊢
    omega
  rw [List.length_drop] at hl
  rw [hA, parseF_zero, if_pos ⟨hk, hm⟩, List.length_drop]
  by_cases h : T.length = i + 3
  · rw [if_pos h, if_pos (by omega)]
  · rw [if_neg h, if_neg (by omega)]
theorem q_sep {A : Ans} {kd : Int} {T : List UInt8} {i : Nat} {F : List Int} {v : Int} {k : Nat} (hA : A = parseF kd (3 - 3) F (T.drop i)) (hm : ¬ (kd = 2 ∧ minus1 (T.drop i) = true)) (hl : lead 18 0 (T.drop i) = (v, k)) :
    A = if k = 0 then fail F else sepP kd (fun F _ => fail F) true (F.set 3 v) ((T.drop i).drop k) := by
  rw [hA, parseF_zero, if_neg hm, hl]
theorem q_ok {A : Ans} {kd : Int} {T : List UInt8} {i : Nat} {F : List Int} {v : Int} {k : Nat} (hA : A = parseF kd (3 - 3) F (T.drop i)) (hm : ¬ (kd = 2 ∧ minus1 (T.drop i) = true)) (hl : lead 18 0 (T.drop i) = (v, k)) (hk : ¬ k = 0)
    (hc : T[i + k]? = some 41) (he : i + k + 1 = T.length) : A = fin kd (F.set 3 v) := by
  have h := q_sep hA hm hl
  rw [if_neg hk, drop_at hc, sepP_cons, if_neg (fun h => by cases h.2), if_pos ⟨rfl, rfl⟩, if_pos (List.drop_of_length_le (by omega))] at h
  exact h
theorem q_fail {A : Ans} {kd : Int} {T : List UInt8} {i : Nat} {F : List Int} {v : Int} {k : Nat} (hA : A = parseF kd (3 - 3) F (T.drop i)) (hm : ¬ (kd = 2 ∧ minus1 (T.drop i) = true)) (hl : lead 18 0 (T.drop i) = (v, k)) (hk : ¬ k = 0)
    (hc : ∀ c, T[i + k]? = some c → ¬ (c = 41 ∧ i + k + 1 = T.length)) : A = fail (F.set 3 v) := by
  have h := q_sep hA hm hl
  rw [if_neg hk] at h
  cases hcc : T[i + k]? with
  | none =>
    rw [List.getElem?_eq_none_iff] at hcc
    rw [List.drop_drop, List.drop_of_length_le hcc] at h
    exact h
  | some c =>
    rw [drop_at hcc, sepP_cons, if_neg (fun h => by cases h.2)] at h
    by_cases h41 : c = 41
    · have hne := hc c hcc
      have hlt := (List.getElem?_eq_some_iff.1 hcc).1
      rw [if_pos ⟨h41, rfl⟩, if_neg (fun hd => by
        have := congrArg List.length hd
        simp at this
        exact hne ⟨h41, by omega⟩)] at h
      exact h
    · rw [if_neg (fun h => h41 h.1)] at h
      exact h

theorem minus_at {T : List UInt8} {i : Nat} (h : minus1 (T.drop i) = true) : i + 3 ≤ T.length ∧ T[i + 2]? = some 41 := by
  have e : (T.drop i).take 3 = [45, 49, 41] := beq_iff_eq.1 h
  have hl := congrArg List.length e
  have h2 := congrArg (fun l : List UInt8 => l[2]?) e
  simp at hl h2
  exact ⟨by omega, by simpa [List.getElem?_drop] using h2⟩

theorem u8_int {c : UInt8} (k : Nat) (hk : k < 256) : (c = UInt8.ofNat k) ↔ (c.toNat : Int) = (k : Int) := by
  constructor
  · rintro rfl
    simp
    omega
  · intro h
    apply UInt8.toNat_inj.1
    simp
    omega

end Go.Proofs.Qxb6601361a
