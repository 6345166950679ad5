/-
  Seat b6000092a: plain mathematics, no Go in sight: domain names in wire form.
-/
namespace Go.Proofs.Qxb6000092a

/-- An ASCII letter in lower case; every other byte as it is. -/
def low (c : UInt8) : UInt8 := if 65 ≤ c.toNat ∧ c.toNat ≤ 90 then c + 32 else c
def fold (x : List UInt8) : List UInt8 := x.map low

theorem low_toNat (c : UInt8) : (low c).toNat = if 65 ≤ c.toNat ∧ c.toNat ≤ 90 then c.toNat + 32 else c.toNat := by
  unfold low
  split
  · rw [UInt8.toNat_add]
    simp
    omega
  · rfl

theorem fold_length (x : List UInt8) : (fold x).length = x.length := by simp [fold]
theorem fold_append (x y : List UInt8) : fold (x ++ y) = fold x ++ fold y := by simp [fold]
theorem fold_cons (c : UInt8) (y : List UInt8) : fold (c :: y) = low c :: fold y := rfl

/-- Labels in wire form, without the root; with it. -/
def encP : List (List UInt8) → List UInt8
  | [] => []
  | x :: ls => x.length.toUInt8 :: (x ++ encP ls)
def enc (ls : List (List UInt8)) : List UInt8 := encP ls ++ [0]

def Labs (ls : List (List UInt8)) : Prop := ∀ x ∈ ls, 1 ≤ x.length ∧ x.length ≤ 63

theorem Labs.tail {x : List UInt8} {ls : List (List UInt8)} (h : Labs (x :: ls)) : Labs ls := fun y hy => h y (List.mem_cons_of_mem _ hy)
theorem Labs.head {x : List UInt8} {ls : List (List UInt8)} (h : Labs (x :: ls)) : 1 ≤ x.length ∧ x.length ≤ 63 := h x (List.mem_cons_self ..)
theorem Labs.drop {ls : List (List UInt8)} (h : Labs ls) (j : Nat) : Labs (ls.drop j) := fun y hy => h y (List.mem_of_mem_drop hy)
theorem Labs.take {ls : List (List UInt8)} (h : Labs ls) (j : Nat) : Labs (ls.take j) := fun y hy => h y (List.mem_of_mem_take hy)
theorem Labs.snoc {ls : List (List UInt8)} (h : Labs ls) {x : List UInt8} (h1 : 1 ≤ x.length) (h2 : x.length ≤ 63) : Labs (ls ++ [x]) := by
  intro y hy
  rcases List.mem_append.1 hy with hy | hy
  · exact h y hy
  · rw [List.mem_singleton.1 hy]; exact ⟨h1, h2⟩

theorem encP_append (a b : List (List UInt8)) : encP (a ++ b) = encP a ++ encP b := by
  induction a with
  | nil => rfl
  | cons x a ih => simp [encP, ih]
theorem enc_cons (x : List UInt8) (ls : List (List UInt8)) : enc (x :: ls) = x.length.toUInt8 :: (x ++ enc ls) := by simp [enc, encP]
theorem enc_nil : enc [] = [0] := rfl
theorem enc_split (ls : List (List UInt8)) (j : Nat) : enc ls = encP (ls.take j) ++ enc (ls.drop j) := by
  unfold enc
  rw [← List.append_assoc, ← encP_append, List.take_append_drop]
theorem enc_pos (ls : List (List UInt8)) : 1 ≤ (enc ls).length := by simp [enc]
theorem enc_len_cons (x : List UInt8) (ls : List (List UInt8)) : (enc (x :: ls)).length = 1 + x.length + (enc ls).length := by
  rw [enc_cons]; simp; omega
theorem enc_len_drop (ls : List (List UInt8)) (j : Nat) (hj : j < ls.length) : (enc (ls.drop j)).length = 1 + ls[j].length + (enc (ls.drop (j + 1))).length := by
  rw [List.drop_eq_getElem_cons hj, enc_len_cons]
theorem enc_len_mono (ls : List (List UInt8)) : ∀ (i j : Nat), i ≤ j → (enc (ls.drop j)).length ≤ (enc (ls.drop i)).length := by
  intro i j h
  induction h with
  | refl => exact Nat.le_refl _
  | @step m hm ih =>
    by_cases hj : m < ls.length
    · have := enc_len_drop ls m hj
      show (enc (ls.drop (m + 1))).length ≤ _
      omega
    · rw [List.drop_of_length_le (show ls.length ≤ m + 1 by omega)]
      rw [List.drop_of_length_le (show ls.length ≤ m by omega)] at ih
      exact ih

theorem len_byte {n : Nat} (h : n ≤ 63) : (n.toUInt8).toNat = n := by simp; omega
theorem low_small {c : UInt8} (h : c.toNat ≤ 63) : low c = c := by
  unfold low; rw [if_neg (by omega)]

theorem fold_inj : ∀ (A B : List (List UInt8)), Labs A → Labs B → (fold (enc A) = fold (enc B) ↔ A.map fold = B.map fold)
  | [], [], _, _ => by simp
  | [], y :: B, _, hB => by
    rw [enc_cons, enc_nil, fold_cons, fold_cons]
    have h := hB.head
    have e : low (y.length.toUInt8) ≠ low 0 := by
      rw [low_small (by rw [len_byte h.2]; exact h.2), low_small (by decide)]
      intro hh
      have := congrArg UInt8.toNat hh
      rw [len_byte h.2] at this
      have z : (0 : UInt8).toNat = 0 := rfl
      omega
    constructor
    · intro hh
      exact absurd (List.cons.inj hh).1.symm e
    · intro hh
      simp at hh
  | x :: A, [], hA, _ => by
    rw [enc_cons, enc_nil, fold_cons, fold_cons]
    have h := hA.head
    have e : low (x.length.toUInt8) ≠ low 0 := by
      rw [low_small (by rw [len_byte h.2]; exact h.2), low_small (by decide)]
      intro hh
      have := congrArg UInt8.toNat hh
      rw [len_byte h.2] at this
      have z : (0 : UInt8).toNat = 0 := rfl
      omega
    constructor
    · intro hh
      exact absurd (List.cons.inj hh).1 e
    · intro hh
      simp at hh
  | x :: A, y :: B, hA, hB => by
    have ih := fold_inj A B hA.tail hB.tail
    have h1 := hA.head
    have h2 := hB.head
    rw [enc_cons, enc_cons, fold_cons, fold_cons, fold_append, fold_append, low_small (by rw [len_byte h1.2]; exact h1.2), low_small (by rw [len_byte h2.2]; exact h2.2)]
    simp only [List.map_cons, List.cons.injEq]
    constructor
    · rintro ⟨e1, e2⟩
      have el : x.length = y.length := by
        have := congrArg UInt8.toNat e1
        rwa [len_byte h1.2, len_byte h2.2] at this
      have := List.append_inj e2 (by simp [fold_length, el])
      exact ⟨this.1, ih.1 this.2⟩
    · rintro ⟨e1, e2⟩
      have el : x.length = y.length := by
        have := congrArg List.length e1
        rwa [fold_length, fold_length] at this
      exact ⟨by rw [el], by rw [e1, ih.2 e2]⟩

/-- Are apex's labels, case folded, the last labels of n, case folded? -/
def want (N A : List (List UInt8)) : Bool := decide (A.length ≤ N.length ∧ (N.drop (N.length - A.length)).map fold = A.map fold)

theorem enc_len_fold {A B : List (List UInt8)} (hA : Labs A) (hB : Labs B) (h : A.map fold = B.map fold) : (enc A).length = (enc B).length := by
  have := congrArg List.length ((fold_inj A B hA hB).2 h)
  rwa [fold_length, fold_length] at this

theorem inz_hit {N A : List (List UInt8)} (hN : Labs N) (hA : Labs A) {j : Nat} (hj : j ≤ N.length) (hl : (enc (N.drop j)).length = (enc A).length) :
    decide (fold (enc (N.drop j)) = fold (enc A)) = want N A := by
  unfold want
  rw [decide_eq_decide, fold_inj _ _ (hN.drop j) hA]
  constructor
  · intro h
    have e : N.length - j = A.length := by
      have := congrArg List.length h
      simpa using this
    have e2 : N.length - A.length = j := by omega
    refine ⟨by omega, ?_⟩
    rw [e2]; exact h
  · rintro ⟨h1, h2⟩
    have e := enc_len_fold (hN.drop _) hA h2
    have e3 : j = N.length - A.length := by
      have key : ∀ a b, a < b → b ≤ N.length → (enc (N.drop b)).length < (enc (N.drop a)).length := by
        intro a b hab hb
        have h3 := enc_len_drop N a (by omega)
        have h4 := enc_len_mono N (a + 1) b hab
        omega
      rcases Nat.lt_trichotomy j (N.length - A.length) with h | h | h
      · have := key _ _ h (by omega); omega
      · exact h
      · have := key _ _ h hj; omega
    rw [e3]; exact h2

theorem inz_miss {N A : List (List UInt8)} (hN : Labs N) (hA : Labs A) {j : Nat} (h1 : ∀ i, i < j → (enc (N.drop i)).length ≠ (enc A).length) (h2 : N.length < j ∨ (enc (N.drop j)).length < (enc A).length) : want N A = false := by
  unfold want
  rw [decide_eq_false_iff_not]
  rintro ⟨g1, g2⟩
  have e := enc_len_fold (hN.drop _) hA g2
  rcases Nat.lt_or_ge (N.length - A.length) j with h | h
  · exact h1 _ h e
  · rcases h2 with h2 | h2
    · omega
    · have := enc_len_mono N j _ h; omega

theorem want_iff (N A : List (List UInt8)) : want N A = true ↔ A.length ≤ N.length ∧ ∀ i, i < A.length → fold (N.getD (N.length - A.length + i) []) = fold (A.getD i []) := by
  unfold want
  rw [decide_eq_true_iff]
  constructor
  · rintro ⟨h1, h2⟩
    refine ⟨h1, fun i hi => ?_⟩
    have := congrArg (fun l : List (List UInt8) => l[i]?) h2
    simp only [List.getElem?_map, List.getElem?_drop] at this
    rw [List.getElem?_eq_getElem (by omega), List.getElem?_eq_getElem hi] at this
    simpa [List.getElem?_eq_getElem (show N.length - A.length + i < N.length by omega), List.getElem?_eq_getElem hi] using this
  · rintro ⟨h1, h2⟩
    refine ⟨h1, List.ext_getElem? fun i => ?_⟩
    simp only [List.getElem?_map, List.getElem?_drop]
    by_cases hi : i < A.length
    · have := h2 i hi
      rw [List.getElem?_eq_getElem (by omega), List.getElem?_eq_getElem hi]
      simpa [List.getElem?_eq_getElem (show N.length - A.length + i < N.length by omega), List.getElem?_eq_getElem hi] using this
    · rw [List.getElem?_eq_none (by omega), List.getElem?_eq_none (by omega)]

end Go.Proofs.Qxb6000092a
