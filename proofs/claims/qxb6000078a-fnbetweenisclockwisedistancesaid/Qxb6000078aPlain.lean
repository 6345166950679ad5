/-
  Seat b6000078a: plain mathematics, no Go in sight: big-endian numbers as lists of bytes.
-/
import Derived.Lib.Bytealg
import Derived.Lib.Bytes
namespace Go.Proofs.Qxb6000078a
open Go.Lib (compareBytes bytesOf)

/-- A list of bytes. -/
def Byt (l : List Int) : Prop := ∀ z ∈ l, 0 ≤ z ∧ z ≤ 255

/-- The number that a list of bytes writes, the most significant first. -/
def val : List Int → Int
  | [] => 0
  | z :: l => z * 256 ^ l.length + val l

theorem Byt.tail {z : Int} {l : List Int} (h : Byt (z :: l)) : Byt l := fun y hy => h y (List.mem_cons_of_mem _ hy)
theorem Byt.head {z : Int} {l : List Int} (h : Byt (z :: l)) : 0 ≤ z ∧ z ≤ 255 := h z (List.mem_cons_self ..)

theorem pow_pos (n : Nat) : (0 : Int) < 256 ^ n := Int.pow_pos (by decide)

theorem val_range : ∀ (l : List Int), Byt l → 0 ≤ val l ∧ val l < 256 ^ l.length
  | [], _ => by simp [val]
  | z :: l, h => by
    have ih := val_range l h.tail
    have hz := h.head
    have hp := pow_pos l.length
    have h1 : z * 256 ^ l.length ≤ 255 * 256 ^ l.length := Int.mul_le_mul_of_nonneg_right hz.2 (Int.le_of_lt hp)
    have h2 : 0 ≤ z * 256 ^ l.length := Int.mul_nonneg hz.1 (Int.le_of_lt hp)
    simp only [val, List.length_cons]
    rw [Int.pow_succ]
    omega

/-- The sign of a difference. -/
def sgn (a b : Int) : Int := if a < b then -1 else if b < a then 1 else 0

theorem sgn_cons {z y : Int} {l m : List Int} (hl : l.length = m.length) (hb : Byt (z :: l)) (hc : Byt (y :: m)) :
    sgn (val (z :: l)) (val (y :: m)) = if z < y then -1 else if y < z then 1 else sgn (val l) (val m) := by
  have r1 := val_range l hb.tail
  have r2 := val_range m hc.tail
  have hp := pow_pos m.length
  simp only [val]
  rw [hl] at r1 ⊢
  generalize (256 : Int) ^ m.length = P at *
  unfold sgn
  by_cases h1 : z < y
  · have : (z + 1) * P ≤ y * P := Int.mul_le_mul_of_nonneg_right (by omega) (Int.le_of_lt hp)
    rw [Int.add_mul] at this
    rw [if_pos h1, if_pos (by omega)]
  · by_cases h2 : y < z
    · have : (y + 1) * P ≤ z * P := Int.mul_le_mul_of_nonneg_right (by omega) (Int.le_of_lt hp)
      rw [Int.add_mul] at this
      rw [if_neg h1, if_pos h2, if_neg (by omega), if_pos (by omega)]
    · have : z = y := by omega
      subst this
      rw [if_neg h1, if_neg h2]
      by_cases h3 : val l < val m
      · rw [if_pos (by omega), if_pos h3]
      · rw [if_neg (by omega), if_neg h3]
        by_cases h4 : val m < val l
        · rw [if_pos (by omega), if_pos h4]
        · rw [if_neg (by omega), if_neg h4]

theorem byte_lt {z y : Int} (hz : 0 ≤ z ∧ z ≤ 255) (hy : 0 ≤ y ∧ y ≤ 255) : z.toNat.toUInt8 < y.toNat.toUInt8 ↔ z < y := by
  rw [UInt8.lt_iff_toNat_lt]
  have a : (z.toNat.toUInt8).toNat = z.toNat := by simp; omega
  have b : (y.toNat.toUInt8).toNat = y.toNat := by simp; omega
  rw [a, b]
  omega

theorem compare_val : ∀ (l m : List Int), l.length = m.length → Byt l → Byt m → compareBytes (bytesOf l) (bytesOf m) = sgn (val l) (val m)
  | [], [], _, _, _ => by simp [bytesOf, compareBytes, sgn]
  | [], _ :: _, h, _, _ => by simp at h
  | _ :: _, [], h, _, _ => by simp at h
  | z :: l, y :: m, h, hb, hc => by
    have hl : l.length = m.length := by simpa using h
    have ih := compare_val l m hl hb.tail hc.tail
    rw [sgn_cons hl hb hc, ← ih]
    simp only [bytesOf, List.map_cons, compareBytes]
    have e1 := byte_lt hb.head hc.head
    have e2 := byte_lt hc.head hb.head
    by_cases h1 : z < y
    · rw [if_pos h1, if_pos (e1.2 h1)]
    · rw [if_neg h1, if_neg (fun h => h1 (e1.1 h))]
      by_cases h2 : y < z
      · rw [if_pos h2, if_pos (e2.2 h2)]
      · rw [if_neg h2, if_neg (fun h => h2 (e2.1 h))]

theorem val_inj : ∀ (l m : List Int), l.length = m.length → Byt l → Byt m → val l = val m → l = m
  | [], [], _, _, _, _ => rfl
  | [], _ :: _, h, _, _, _ => by simp at h
  | _ :: _, [], h, _, _, _ => by simp at h
  | z :: l, y :: m, h, hb, hc, he => by
    have hl : l.length = m.length := by simpa using h
    have hs := sgn_cons hl hb hc
    rw [he] at hs
    have h0 : sgn (val (y :: m)) (val (y :: m)) = 0 := by unfold sgn; rw [if_neg (by omega), if_neg (by omega)]
    rw [h0] at hs
    by_cases h1 : z < y
    · rw [if_pos h1] at hs; omega
    · by_cases h2 : y < z
      · rw [if_neg h1, if_pos h2] at hs; omega
      · rw [if_neg h1, if_neg h2] at hs
        have e : z = y := by omega
        have e2 : val l = val m := by
          unfold sgn at hs
          by_cases h3 : val l < val m
          · rw [if_pos h3] at hs; omega
          · by_cases h4 : val m < val l
            · rw [if_neg h3, if_pos h4] at hs; omega
            · omega
        rw [e, val_inj l m hl hb.tail hc.tail e2]

/-- ring.Between, on numbers. -/
def btw (x a b : Int) : Bool := if a < b then decide (a < x) && decide (x ≤ b) else decide (a < x) || decide (x ≤ b)

theorem btw_compl (x a b : Int) (h : a ≠ b) : (btw x a b != btw x b a) = true := by
  unfold btw
  by_cases h1 : a < b
  · have h2 : ¬ b < a := by omega
    rw [if_pos h1, if_neg h2]
    by_cases h3 : a < x <;> by_cases h4 : x ≤ b <;> by_cases h5 : b < x <;> by_cases h6 : x ≤ a <;> simp [h3, h4, h5, h6] <;> omega
  · have h2 : b < a := by omega
    rw [if_neg h1, if_pos h2]
    by_cases h3 : a < x <;> by_cases h4 : x ≤ b <;> by_cases h5 : b < x <;> by_cases h6 : x ≤ a <;> simp [h3, h4, h5, h6] <;> omega

theorem btw_same (x a : Int) : btw x a a = true := by
  unfold btw
  rw [if_neg (by omega)]
  by_cases h3 : a < x <;> simp [h3]
  omega

/-- The difference, byte by byte from the right, with a borrow. -/
def subR : List Int → List Int → List Int × Int
  | x :: xs, a :: as =>
    let r := subR xs as
    if x - a - r.2 < 0 then ((x - a - r.2 + 256) :: r.1, 1) else ((x - a - r.2) :: r.1, 0)
  | _, _ => ([], 0)

theorem subR_ok : ∀ (x a : List Int), x.length = a.length → Byt x → Byt a →
    (subR x a).1.length = x.length ∧ Byt (subR x a).1 ∧ ((subR x a).2 = 0 ∨ (subR x a).2 = 1) ∧ val (subR x a).1 = val x - val a + (subR x a).2 * 256 ^ x.length
  | [], [], _, _, _ => by simp [subR, val, Byt]
  | [], _ :: _, h, _, _ => by simp at h
  | _ :: _, [], h, _, _ => by simp at h
  | x :: xs, a :: as, h, hx, ha => by
    have hl : xs.length = as.length := by simpa using h
    obtain ⟨i1, i2, i3, i4⟩ := subR_ok xs as hl hx.tail ha.tail
    have hx0 := hx.head
    have ha0 := ha.head
    simp only [subR]
    generalize subR xs as = r at *
    obtain ⟨d, b⟩ := r
    simp only at i1 i2 i3 i4 ⊢
    by_cases ht : x - a - b < 0
    · rw [if_pos ht]
      refine ⟨by simp [i1], ?_, Or.inr rfl, ?_⟩
      · intro y hy
        rcases List.mem_cons.1 hy with rfl | hy
        · omega
        · exact i2 y hy
      · simp only [val, i4, List.length_cons, i1, ← hl]
        rw [Int.pow_succ, Int.add_mul, Int.sub_mul, Int.sub_mul]
        omega
    · rw [if_neg ht]
      refine ⟨by simp [i1], ?_, Or.inl rfl, ?_⟩
      · intro y hy
        rcases List.mem_cons.1 hy with rfl | hy
        · omega
        · exact i2 y hy
      · simp only [val, i4, List.length_cons, i1, ← hl]
        rw [Int.sub_mul, Int.sub_mul]
        omega

set_option linter.unusedVariables false in
theorem dist (x a b dx db bx bb N : Int) (hN : 0 < N) (hab : a ≠ b) (x0 : 0 ≤ x) (x1 : x < N) (a0 : 0 ≤ a) (a1 : a < N) (b0 : 0 ≤ b) (b1 : b < N)
    (dx0 : 0 ≤ dx) (dx1 : dx < N) (db0 : 0 ≤ db) (db1 : db < N) (hbx : bx = 0 ∨ bx = 1) (hbb : bb = 0 ∨ bb = 1) (e1 : dx = x - a + bx * N) (e2 : db = b - a + bb * N) :
    (btw x a b == (!decide (dx = 0) && decide (dx ≤ db))) = true := by
  unfold btw
  rcases hbx with rfl | rfl <;> rcases hbb with rfl | rfl
  all_goals
    by_cases h1 : a < b <;> by_cases h2 : a < x <;> by_cases h3 : x ≤ b <;> by_cases h4 : dx = 0 <;> by_cases h5 : dx ≤ db <;> simp [h1, h2, h3, h4, h5] <;> omega

end Go.Proofs.Qxb6000078a
