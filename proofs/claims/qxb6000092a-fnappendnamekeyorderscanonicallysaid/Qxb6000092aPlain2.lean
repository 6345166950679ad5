/-
  Seat b6000092a: plain mathematics, no Go in sight: the key of a name in canonical order.
-/
import Derived.Test.Qxb6000092aPlain
namespace Go.Proofs.Qxb6000092a

/-- An octet in a key; a label. -/
def escB (c : UInt8) : List UInt8 := if c = 0 then [0, 255] else [low c]
def esc : List UInt8 → List UInt8
  | [] => []
  | c :: x => escB c ++ esc x

theorem esc_append (x y : List UInt8) : esc (x ++ y) = esc x ++ esc y := by
  induction x with
  | nil => rfl
  | cons c x ih => simp [esc, ih]
theorem escB_length (c : UInt8) : 1 ≤ (escB c).length ∧ (escB c).length ≤ 2 := by
  unfold escB; split <;> simp
theorem esc_length (x : List UInt8) : (esc x).length ≤ 2 * x.length := by
  induction x with
  | nil => simp [esc]
  | cons c x ih => have := escB_length c; simp [esc]; omega

theorem low_zero {c : UInt8} : low c = 0 ↔ c = 0 := by
  constructor
  · intro h
    have := congrArg UInt8.toNat h
    rw [low_toNat] at this
    apply UInt8.toNat_inj.1
    show c.toNat = 0
    have z : (0 : UInt8).toNat = 0 := rfl
    split at this <;> omega
  · rintro rfl
    rfl

/-- The labels' part of a key: the label nearest the root first. -/
def keyR : List (List UInt8) → List UInt8
  | [] => []
  | x :: ls => keyR ls ++ (esc x ++ [0, 1])
def key (ls : List (List UInt8)) : List UInt8 := keyR ls ++ [0, 0]
/-- The same, over labels listed from the root on. -/
def keyF : List (List UInt8) → List UInt8
  | [] => []
  | x :: ls => esc x ++ ([0, 1] ++ keyF ls)

theorem keyF_append (a b : List (List UInt8)) : keyF (a ++ b) = keyF a ++ keyF b := by
  induction a with
  | nil => rfl
  | cons x a ih => simp [keyF, ih]
theorem keyR_eq (ls : List (List UInt8)) : keyR ls = keyF ls.reverse := by
  induction ls with
  | nil => rfl
  | cons x ls ih => simp [keyR, ih, keyF_append, keyF]
theorem keyR_length (ls : List (List UInt8)) : (keyR ls).length ≤ 2 * (encP ls).length := by
  induction ls with
  | nil => simp [keyR]
  | cons x ls ih => have := esc_length x; simp [keyR, encP]; omega
theorem key_length (ls : List (List UInt8)) : 2 ≤ (key ls).length ∧ (key ls).length ≤ 2 * (enc ls).length := by
  have := keyR_length ls
  simp [key, enc]; omega

/-- Octet by octet. -/
def cmpB : List UInt8 → List UInt8 → Int
  | [], [] => 0
  | [], _ :: _ => -1
  | _ :: _, [] => 1
  | a :: x, b :: y => if a < b then -1 else if b < a then 1 else cmpB x y

theorem cmpB_cons_same (a : UInt8) (x y : List UInt8) : cmpB (a :: x) (a :: y) = cmpB x y := by
  have h : ¬ a < a := UInt8.lt_irrefl a
  simp [cmpB, h]
theorem cmpB_cons_lt {a b : UInt8} (h : a < b) (x y : List UInt8) : cmpB (a :: x) (b :: y) = -1 := by simp [cmpB, h]
theorem cmpB_cons_gt {a b : UInt8} (h : b < a) (x y : List UInt8) : cmpB (a :: x) (b :: y) = 1 := by
  have h' : ¬ a < b := UInt8.lt_asymm h
  simp [cmpB, h, h']
theorem cmpB_zero : ∀ (x y : List UInt8), cmpB x y = 0 ↔ x = y
  | [], [] => by simp [cmpB]
  | [], _ :: _ => by simp [cmpB]
  | _ :: _, [] => by simp [cmpB]
  | a :: x, b :: y => by
    by_cases h : a = b
    · subst h
      rw [cmpB_cons_same, cmpB_zero x y]
      simp
    · rcases UInt8.lt_or_lt_of_ne h with h1 | h1
      · rw [cmpB_cons_lt h1]; simp [h]
      · rw [cmpB_cons_gt h1]; simp [h]

theorem pos_of_ne_zero {c : UInt8} (h : low c ≠ 0) : (0 : UInt8) < low c := by
  rw [UInt8.lt_iff_toNat_lt]
  have : (low c).toNat ≠ 0 := fun e => h (UInt8.toNat_inj.1 e)
  show 0 < _
  omega

/-- One label closed, against another. -/
theorem cmp_esc (u v : List UInt8) : ∀ (x y : List UInt8), cmpB (esc x ++ ([0, 1] ++ u)) (esc y ++ ([0, 1] ++ v)) = if cmpB (fold x) (fold y) = 0 then cmpB u v else cmpB (fold x) (fold y)
  | [], [] => by simp [esc, fold, cmpB, cmpB_cons_same]
  | [], d :: y => by
    have e : cmpB (fold []) (fold (d :: y)) = -1 := rfl
    rw [e, if_neg (by decide)]
    by_cases hd : d = 0
    · subst hd
      exact (cmpB_cons_same 0 _ _).trans (cmpB_cons_lt (by decide) _ _)
    · have : low d ≠ 0 := fun h => hd (low_zero.1 h)
      simp only [esc, escB, if_neg hd]
      exact cmpB_cons_lt (pos_of_ne_zero this) _ _
  | c :: x, [] => by
    have e : cmpB (fold (c :: x)) (fold []) = 1 := rfl
    rw [e, if_neg (by decide)]
    by_cases hd : c = 0
    · subst hd
      exact (cmpB_cons_same 0 _ _).trans (cmpB_cons_gt (by decide) _ _)
    · have : low c ≠ 0 := fun h => hd (low_zero.1 h)
      simp only [esc, escB, if_neg hd]
      exact cmpB_cons_gt (pos_of_ne_zero this) _ _
  | c :: x, d :: y => by
    have ih := cmp_esc u v x y
    rw [fold_cons, fold_cons]
    by_cases hc : c = 0
    · subst hc
      by_cases hd : d = 0
      · subst hd
        rw [cmpB_cons_same]
        exact (cmpB_cons_same 0 _ _).trans ((cmpB_cons_same 255 _ _).trans ih)
      · have : low d ≠ 0 := fun h => hd (low_zero.1 h)
        have h0 : low 0 = 0 := rfl
        rw [h0, cmpB_cons_lt (pos_of_ne_zero this), if_neg (by decide)]
        simp only [esc, escB, if_neg hd]
        exact cmpB_cons_lt (pos_of_ne_zero this) _ _
    · have hc' : low c ≠ 0 := fun h => hc (low_zero.1 h)
      by_cases hd : d = 0
      · subst hd
        have h0 : low 0 = 0 := rfl
        rw [h0, cmpB_cons_gt (pos_of_ne_zero hc'), if_neg (by decide)]
        simp only [esc, escB, if_neg hc]
        exact cmpB_cons_gt (pos_of_ne_zero hc') _ _
      · simp only [esc, escB, if_neg hc, if_neg hd]
        by_cases he : low c = low d
        · rw [he, cmpB_cons_same]
          exact (cmpB_cons_same _ _ _).trans ih
        · rcases UInt8.lt_or_lt_of_ne he with h1 | h1
          · rw [cmpB_cons_lt h1, if_neg (by decide)]
            exact cmpB_cons_lt h1 _ _
          · rw [cmpB_cons_gt h1, if_neg (by decide)]
            exact cmpB_cons_gt h1 _ _

/-- The canonical order, over labels listed from the root on. -/
def canF : List (List UInt8) → List (List UInt8) → Int
  | [], [] => 0
  | [], _ :: _ => -1
  | _ :: _, [] => 1
  | x :: a, y :: b => if cmpB (fold x) (fold y) = 0 then canF a b else cmpB (fold x) (fold y)

theorem end_lt {x : List UInt8} (hx : 1 ≤ x.length) (u : List UInt8) : cmpB [0, 0] (esc x ++ u) = -1 := by
  match x, hx with
  | c :: x, _ =>
    by_cases hc : c = 0
    · subst hc
      exact (cmpB_cons_same 0 _ _).trans (cmpB_cons_lt (by decide) _ _)
    · have hc' : low c ≠ 0 := fun h => hc (low_zero.1 h)
      simp only [esc, escB, if_neg hc]
      exact cmpB_cons_lt (pos_of_ne_zero hc') _ _
theorem end_gt {x : List UInt8} (hx : 1 ≤ x.length) (u : List UInt8) : cmpB (esc x ++ u) [0, 0] = 1 := by
  match x, hx with
  | c :: x, _ =>
    by_cases hc : c = 0
    · subst hc
      exact (cmpB_cons_same 0 _ _).trans (cmpB_cons_gt (by decide) _ _)
    · have hc' : low c ≠ 0 := fun h => hc (low_zero.1 h)
      simp only [esc, escB, if_neg hc]
      exact cmpB_cons_gt (pos_of_ne_zero hc') _ _

theorem cmp_keyF : ∀ (A B : List (List UInt8)), Labs A → Labs B → cmpB (keyF A ++ [0, 0]) (keyF B ++ [0, 0]) = canF A B
  | [], [], _, _ => by simp [keyF, canF, cmpB_cons_same, cmpB]
  | [], y :: B, _, hB => by
    simp only [keyF, List.nil_append, List.append_assoc, canF]
    exact end_lt hB.head.1 _
  | x :: A, [], hA, _ => by
    simp only [keyF, List.nil_append, List.append_assoc, canF]
    exact end_gt hA.head.1 _
  | x :: A, y :: B, hA, hB => by
    have ih := cmp_keyF A B hA.tail hB.tail
    simp only [keyF, List.append_assoc, canF]
    rw [← ih]
    exact cmp_esc _ _ x y

theorem Labs.reverse {A : List (List UInt8)} (h : Labs A) : Labs A.reverse := fun x hx => h x (List.mem_reverse.1 hx)

theorem cmp_key (A B : List (List UInt8)) (hA : Labs A) (hB : Labs B) : cmpB (key A) (key B) = canF A.reverse B.reverse := by
  unfold key
  rw [keyR_eq, keyR_eq]
  exact cmp_keyF _ _ hA.reverse hB.reverse

/-- Does p begin s? -/
def pre (s p : List UInt8) : Bool := decide (p.length ≤ s.length ∧ s.take p.length = p)

theorem pre_iff (s p : List UInt8) : pre s p = true ↔ p <+: s := by
  unfold pre
  rw [decide_eq_true_iff]
  constructor
  · rintro ⟨_, h⟩
    rw [← h]
    exact List.take_prefix _ _
  · intro h
    exact ⟨h.length_le, (List.prefix_iff_eq_take.1 h).symm⟩

theorem cons_pre {a b : UInt8} {x y : List UInt8} : (a :: x) <+: (b :: y) ↔ a = b ∧ x <+: y := List.cons_prefix_cons

theorem esc_pre (u v : List UInt8) : ∀ (x y : List UInt8), (esc x ++ ([0, 1] ++ u)) <+: (esc y ++ ([0, 1] ++ v)) ↔ fold x = fold y ∧ u <+: v
  | [], [] => by simp [esc, fold]
  | [], d :: y => by
    rw [fold_cons]
    refine ⟨fun h => ?_, fun h => by simp [fold] at h⟩
    by_cases hd : d = 0
    · subst hd
      have h1 := (cons_pre.1 h).2
      have h2 := (cons_pre.1 h1).1
      exact absurd h2 (by decide)
    · have hl : low d ≠ 0 := fun h => hd (low_zero.1 h)
      simp only [esc, escB, if_neg hd] at h
      exact absurd (cons_pre.1 h).1.symm hl
  | c :: x, [] => by
    rw [fold_cons]
    refine ⟨fun h => ?_, fun h => by simp [fold] at h⟩
    by_cases hd : c = 0
    · subst hd
      have h1 := (cons_pre.1 h).2
      have h2 := (cons_pre.1 h1).1
      exact absurd h2 (by decide)
    · have hl : low c ≠ 0 := fun h => hd (low_zero.1 h)
      simp only [esc, escB, if_neg hd] at h
      exact absurd (cons_pre.1 h).1 hl
  | c :: x, d :: y => by
    have ih := esc_pre u v x y
    rw [fold_cons, fold_cons]
    by_cases hc : c = 0
    · subst hc
      by_cases hd : d = 0
      · subst hd
        have e : (esc (0 :: x) ++ ([0, 1] ++ u)) <+: (esc (0 :: y) ++ ([0, 1] ++ v)) ↔ (esc x ++ ([0, 1] ++ u)) <+: (esc y ++ ([0, 1] ++ v)) := by
          show (0 :: 255 :: (esc x ++ ([0, 1] ++ u))) <+: (0 :: 255 :: (esc y ++ ([0, 1] ++ v))) ↔ _
          rw [cons_pre, cons_pre]
          simp
        rw [e, ih]
        simp
      · have hl : low d ≠ 0 := fun h => hd (low_zero.1 h)
        have h0 : low 0 = 0 := rfl
        refine ⟨fun h => ?_, fun h => ?_⟩
        · simp only [esc, escB, if_neg hd] at h
          exact absurd (cons_pre.1 h).1.symm hl
        · exact absurd ((List.cons.inj h.1).1.symm.trans h0) hl
    · have hc' : low c ≠ 0 := fun h => hc (low_zero.1 h)
      by_cases hd : d = 0
      · subst hd
        have h0 : low 0 = 0 := rfl
        refine ⟨fun h => ?_, fun h => ?_⟩
        · simp only [esc, escB, if_neg hc] at h
          exact absurd (cons_pre.1 h).1 hc'
        · exact absurd ((List.cons.inj h.1).1.trans h0) hc'
      · simp only [esc, escB, if_neg hc, if_neg hd]
        have e : ([low c] ++ esc x ++ ([0, 1] ++ u)) <+: ([low d] ++ esc y ++ ([0, 1] ++ v)) ↔ low c = low d ∧ (esc x ++ ([0, 1] ++ u)) <+: (esc y ++ ([0, 1] ++ v)) := by
          show (low c :: (esc x ++ ([0, 1] ++ u))) <+: (low d :: (esc y ++ ([0, 1] ++ v))) ↔ _
          rw [cons_pre]
        rw [e, ih, List.cons.injEq]
        constructor
        · rintro ⟨a, b, c⟩; exact ⟨⟨a, b⟩, c⟩
        · rintro ⟨⟨a, b⟩, c⟩; exact ⟨a, b, c⟩

theorem keyF_pre : ∀ (A N : List (List UInt8)), Labs A → Labs N → (keyF A <+: keyF N ++ [0, 0] ↔ A.map fold <+: N.map fold)
  | [], _, _, _ => by simp [keyF]
  | x :: A, [], hA, _ => by
    refine ⟨fun h => ?_, fun h => by simp at h⟩
    have hx := hA.head.1
    match x, hx with
    | c :: x, _ =>
      by_cases hc : c = 0
      · subst hc
        have h1 := (cons_pre.1 h).2
        exact absurd (cons_pre.1 h1).1 (by decide)
      · have hc' : low c ≠ 0 := fun h => hc (low_zero.1 h)
        simp only [keyF, esc, escB, if_neg hc] at h
        exact absurd (cons_pre.1 h).1 hc'
  | x :: A, y :: N, hA, hN => by
    have ih := keyF_pre A N hA.tail hN.tail
    simp only [keyF, List.append_assoc, List.map_cons]
    rw [esc_pre, ih, List.cons_prefix_cons]

theorem want_pre (N A : List (List UInt8)) (hN : Labs N) (hA : Labs A) : pre (key N) (keyR A) = want N A := by
  rw [Bool.eq_iff_iff, pre_iff]
  unfold key
  rw [keyR_eq, keyR_eq, keyF_pre _ _ hA.reverse hN.reverse, List.map_reverse, List.map_reverse, List.reverse_prefix]
  unfold want
  rw [decide_eq_true_iff]
  constructor
  · intro h
    have hl : A.length ≤ N.length := by simpa using h.length_le
    refine ⟨hl, ?_⟩
    have := List.suffix_iff_eq_drop.1 h
    rw [List.map_drop]
    rw [this]
    simp
  · rintro ⟨hl, h⟩
    rw [← h, List.map_drop]
    exact List.drop_suffix _ _

end Go.Proofs.Qxb6000092a
