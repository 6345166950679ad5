/-
  Seat b6601361a: the two readings agree.
-/
import Derived.Test.Qxb6601361aPlain
namespace Go.Proofs.Qxb6601361a

theorem set_same (F : List Int) (f : Nat) (v : Int) (hf : f < F.length) (h : F.getD f 0 = v) : F.set f v = F := by
  apply List.ext_getElem?
  intro i
  rw [List.getElem?_set]
  by_cases hi : f = i
  · subst hi
    rw [if_pos rfl, if_pos hf]
    rw [List.getD_eq_getElem?_getD, List.getElem?_eq_getElem hf] at h
    rw [List.getElem?_eq_getElem hf]
    simpa using h.symm
  · rw [if_neg hi]

theorem get_set (F : List Int) (f : Nat) (v : Int) (hf : f < F.length) : (F.set f v).getD f 0 = v := by
  rw [List.getD_eq_getElem?_getD, List.getElem?_set, if_pos rfl, if_pos hf]
  rfl
theorem get_set_other (F : List Int) (f i : Nat) (v : Int) (h : f ≠ i) : (F.set f v).getD i 0 = F.getD i 0 := by
  rw [List.getD_eq_getElem?_getD, List.getElem?_set, if_neg h, List.getD_eq_getElem?_getD]

/-- The machine reads the leading digits of a field as 'lead' does. -/
theorem model_lead (kd : Int) : ∀ (m : Nat) (l : List UInt8) (f d : Nat) (F : List Int) (v : Int), f < F.length → d + m = 18 → F.getD f 0 = v →
    model kd f d 0 false F l = model kd f (d + (lead m v l).2) 0 false (F.set f (lead m v l).1) (l.drop (lead m v l).2)
  | 0, l, f, d, F, v, hf, _, hv => by
    simp only [lead, Nat.add_zero, List.drop_zero]
    rw [set_same F f v hf hv]
  | m + 1, [], f, d, F, v, hf, _, hv => by
    simp only [lead, Nat.add_zero, List.drop_nil]
    rw [set_same F f v hf hv]
  | m + 1, c :: l, f, d, F, v, hf, hd, hv => by
    by_cases hc : isDig c = true
    · have ih := model_lead kd m l f (d + 1) (F.set f (v * 10 + dig c)) (v * 10 + dig c) (by simpa using hf) (by omega) (get_set F f _ hf)
      have e : lead (m + 1) v (c :: l) = ((lead m (v * 10 + dig c) l).1, (lead m (v * 10 + dig c) l).2 + 1) := by simp [lead, hc]
      rw [e]
      simp only [List.drop_succ_cons]
      rw [List.set_set] at ih
      have s : model kd f d 0 false F (c :: l) = model kd f (d + 1) 0 false (F.set f (v * 10 + dig c)) l := by
        have hd' : ¬ d = 18 := by omega
        have hv' : F[f]?.getD 0 = v := by simpa using hv
        simp [model, hc, hd', hv']
      rw [s, ih]
      congr 1
      omega
    · have e : lead (m + 1) v (c :: l) = (v, 0) := by simp [lead, hc]
      rw [e]
      simp only [Nat.add_zero, List.drop_zero]
      rw [set_same F f v hf hv]

/-- What follows the leading digits begins with no digit, unless m have been read. -/
theorem lead_stop : ∀ (m : Nat) (v : Int) (l : List UInt8), (lead m v l).2 = m ∨ (l.drop (lead m v l).2 = [] ∨ ∃ c r, l.drop (lead m v l).2 = c :: r ∧ isDig c = false)
  | 0, _, _ => Or.inl rfl
  | m + 1, v, [] => Or.inr (Or.inl rfl)
  | m + 1, v, c :: l => by
    by_cases hc : isDig c = true
    · have ih := lead_stop m (v * 10 + dig c) l
      have e : lead (m + 1) v (c :: l) = ((lead m (v * 10 + dig c) l).1, (lead m (v * 10 + dig c) l).2 + 1) := by simp [lead, hc]
      rw [e]
      simp only [List.drop_succ_cons]
      rcases ih with h | h
      · exact Or.inl (by omega)
      · exact Or.inr h
    · have e : lead (m + 1) v (c :: l) = (v, 0) := by simp [lead, hc]
      rw [e]
      exact Or.inr (Or.inr ⟨c, l, rfl, by simpa using hc⟩)

theorem lead_zero {l : List UInt8} (h : (lead 18 0 l).2 = 0) : (lead 18 0 l).1 = 0 := by
  match l with
  | [] => rfl
  | c :: l =>
    by_cases hc : isDig c = true
    · simp [lead, hc] at h
    · simp [lead, hc]
theorem lead_pos {l : List UInt8} (h : ¬ (lead 18 0 l).2 = 0) : ∃ c r, l = c :: r ∧ isDig c = true := by
  match l with
  | [] => exact absurd rfl h
  | c :: l =>
    by_cases hc : isDig c = true
    · exact ⟨c, l, rfl, hc⟩
    · exact absurd (by simp [lead, hc]) h

theorem not_dig_45 : isDig 45 = false := by decide
theorem not_dig_44 : isDig 44 = false := by decide
theorem not_dig_41 : isDig 41 = false := by decide

theorem model_closed (kd : Int) (f d mi : Nat) (F : List Int) (l : List UInt8) : model kd f d mi true F l = if l = [] then fin kd F else fail F := by
  cases l with
  | nil => simp [model]
  | cons c l => simp [model]

/-- A field that opens with a minus, where that is let. -/
theorem model_minus (kd : Int) (f d : Nat) (F : List Int) (l : List UInt8) : model kd f d 1 false F l = if l.take 2 = [49, 41] then (if l.length = 2 then fin kd (F.set 3 (-1)) else fail (F.set 3 (-1))) else fail F := by
  match l with
  | [] => simp [model]
  | c :: l =>
    by_cases hc : c = 49
    · subst hc
      match l with
      | [] => simp [model]
      | e :: l =>
        by_cases he : e = 41
        · subst he
          have h : model kd f d 1 false F (49 :: 41 :: l) = model kd f d 2 true (F.set 3 (-1)) l := by simp [model]
          rw [h, model_closed]
          cases l <;> simp
        · simp [model, he]
    · simp [model, hc]

theorem sepP_cons (kd : Int) (next : List Int → List UInt8 → Ans) (last : Bool) (F : List Int) (c : UInt8) (t : List UInt8) :
    sepP kd next last F (c :: t) = if c = 44 ∧ last = false then next F t else if c = 41 ∧ last = true then (if t = [] then fin kd F else fail F) else fail F := rfl

/-- Behind the digits of a field. -/
theorem model_sep (kd : Int) (f k : Nat) (F : List Int) (l : List UInt8) (hk : 0 < k) (hl : k = 18 ∨ (l = [] ∨ ∃ c r, l = c :: r ∧ isDig c = false)) (hf3 : f ≤ 3) :
    model kd f k 0 false F l = sepP kd (fun F l => model kd (f + 1) 0 0 false F l) (decide (f = 3)) F l := by
  match l with
  | [] => simp [model, sepP]
  | c :: r =>
    by_cases hd : isDig c = true
    · have h18 : k = 18 := by
        rcases hl with h | h | ⟨c', r', h, h'⟩
        · exact h
        · simp at h
        · rw [(List.cons.inj h).1, h'] at hd
          cases hd
      have n44 : ¬ c = 44 := fun h => by rw [h] at hd; exact absurd hd (by decide)
      have n41 : ¬ c = 41 := fun h => by rw [h] at hd; exact absurd hd (by decide)
      simp [model, sepP, hd, h18, n44, n41]
    · have hk0 : ¬ k = 0 := by omega
      by_cases h44 : c = 44
      · subst h44
        by_cases hf : f = 3
        · simp [model, sepP, not_dig_44, hf]
        · have hf' : f < 3 := by omega
          simp [model, sepP, not_dig_44, hf, hk, hf']
      · by_cases h41 : c = 41
        · subst h41
          by_cases hf : f = 3
          · have h := model_closed kd f k 0 F r
            simp [model, sepP, not_dig_41, hf, hk]
            rw [hf] at h
            exact h
          · simp [model, sepP, not_dig_41, hf]
        · simp [model, sepP, hd, h44, h41, hk0]

theorem bridge (kd : Int) : ∀ (r : Nat) (F : List Int) (l : List UInt8), r ≤ 3 → F.length = 4 → (∀ i, 3 - r ≤ i → F.getD i 0 = 0) → model kd (3 - r) 0 0 false F l = parseF kd r F l := by
  intro r
  induction r with
  | zero =>
    intro F l _ hF hz
    have h0 := hz 3 (by omega)
    show model kd 3 0 0 false F l = _
    unfold parseF
    by_cases hm : kd = 2 ∧ minus1 l = true
    · rw [if_pos hm]
      obtain ⟨hk, hm⟩ := hm
      match l with
      | [] => simp [minus1] at hm
      | c :: l =>
        have hc : c = 45 := by simp [minus1] at hm; exact hm.1
        subst hc
        have s : model kd 3 0 0 false F (45 :: l) = model kd 3 0 1 false F l := by simp [model, not_dig_45, hk]
        rw [s, model_minus]
        have ht : l.take 2 = [49, 41] := by simpa [minus1] using hm
        rw [if_pos ht]
        simp
    · rw [if_neg hm]
      by_cases hk : (lead 18 0 l).2 = 0
      · rw [if_pos hk]
        match l with
        | [] => simp [model]
        | c :: l =>
          have hnd : isDig c = false := by
            by_cases hd : isDig c = true
            · simp [lead, hd] at hk
            · simpa using hd
          by_cases hc : c = 45 ∧ kd = 2
          · obtain ⟨rfl, rfl⟩ := hc
            have s : model 2 3 0 0 false F (45 :: l) = model 2 3 0 1 false F l := by simp [model, not_dig_45]
            rw [s, model_minus, if_neg]
            intro ht
            exact hm ⟨rfl, by simpa [minus1] using ht⟩
          · simp [model, hnd]
            intro h1 h2
            exact absurd ⟨h1, h2⟩ hc
      · rw [if_neg hk]
        have h1 := model_lead kd 18 l 3 0 F 0 (by omega) rfl h0
        rw [Nat.zero_add] at h1
        rw [h1, model_sep kd 3 _ _ _ (by omega) (lead_stop 18 0 l) (by omega)]
        cases l.drop (lead 18 0 l).2 with
        | nil => rfl
        | cons c t => simp [sepP]
  | succ r ih =>
    intro F l hr hF hz
    have h0 := hz (3 - (r + 1)) (by omega)
    unfold parseF
    have e1 : 3 - (r + 1) = 2 - r := by omega
    rw [e1] at h0 ⊢
    have hf3 : ¬ 2 - r = 3 := by omega
    by_cases hk : (lead 18 0 l).2 = 0
    · rw [if_pos hk]
      match l with
      | [] => simp [model]
      | c :: l =>
        have hnd : isDig c = false := by
          by_cases hd : isDig c = true
          · simp [lead, hd] at hk
          · simpa using hd
        simp [model, hnd, hf3]
    · rw [if_neg hk]
      have h1 := model_lead kd 18 l (2 - r) 0 F 0 (by omega) rfl h0
      rw [Nat.zero_add] at h1
      rw [h1, model_sep kd _ _ _ _ (by omega) (lead_stop 18 0 l) (by omega)]
      have hd3 : decide (2 - r = 3) = false := by simpa using hf3
      rw [hd3]
      cases l.drop (lead 18 0 l).2 with
      | nil => rfl
      | cons c t =>
        rw [sepP_cons, sepP_cons]
        by_cases h44 : c = 44
        · rw [if_pos ⟨h44, rfl⟩, if_pos ⟨h44, rfl⟩]
          have e : 2 - r + 1 = 3 - r := by omega
          rw [e]
          refine ih _ t (by omega) (by simpa using hF) ?_
          intro i hi
          rw [get_set_other _ _ _ _ (by omega)]
          exact hz i (by omega)
        · simp [h44]

def zeros : List Int := [0, 0, 0, 0]
/-- The whole answer at a text. -/
def ansOf (T : List UInt8) : Ans :=
  match T with
  | a :: b :: l => if b = 40 then (if a = 114 then parseF 1 3 zeros l else if a = 119 then parseF 2 3 zeros l else fail zeros) else fail zeros
  | _ => fail zeros

theorem bridge0 (kd : Int) (l : List UInt8) : model kd 0 0 0 false zeros l = parseF kd 3 zeros l := by
  refine bridge kd 3 zeros l (Nat.le_refl _) rfl ?_
  intro i _
  match i with
  | 0 => rfl
  | 1 => rfl
  | 2 => rfl
  | 3 => rfl
  | n + 4 => simp [zeros]

end Go.Proofs.Qxb6601361a
