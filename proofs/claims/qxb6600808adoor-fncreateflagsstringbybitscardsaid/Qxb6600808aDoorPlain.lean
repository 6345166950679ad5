/-
  Seat b6600808aD: plain mathematics, no Go in sight: the names of flag words.
-/
import Derived.Lib.ItoaNum
namespace Go.Proofs.Qxb6600808aDoor
open Go.Lib (decDigits itoa)

theorem dec_small {u : Nat} (h : u < 10) : decDigits u = [UInt8.ofNat (48 + u)] := by rw [decDigits, dif_pos h]
theorem dec_big {u : Nat} (h : ¬ u < 10) : decDigits u = decDigits (u / 10) ++ [UInt8.ofNat (48 + u % 10)] := by rw [decDigits, dif_neg h]

/-- The number that digits write. -/
def dval (l : List UInt8) : Nat := l.foldl (fun a c => a * 10 + (c.toNat - 48)) 0
theorem dval_snoc (l : List UInt8) (c : UInt8) : dval (l ++ [c]) = dval l * 10 + (c.toNat - 48) := by simp [dval]

theorem digit_nat {d : Nat} (h : d < 10) : (UInt8.ofNat (48 + d)).toNat = 48 + d := by
  simp
  omega

theorem dval_dec (u : Nat) : dval (decDigits u) = u := by
  induction u using Nat.strongRecOn with
  | ind u ih =>
    by_cases h : u < 10
    · rw [dec_small h]
      simp only [dval, List.foldl_cons, List.foldl_nil, digit_nat h]
      omega
    · rw [dec_big h, dval_snoc, ih (u / 10) (by omega), digit_nat (by omega)]
      omega

theorem dec_digits (u : Nat) : ∀ c ∈ decDigits u, 48 ≤ c.toNat ∧ c.toNat ≤ 57 := by
  induction u using Nat.strongRecOn with
  | ind u ih =>
    intro c hc
    by_cases h : u < 10
    · rw [dec_small h, List.mem_singleton] at hc
      rw [hc, digit_nat h]
      omega
    · rw [dec_big h, List.mem_append, List.mem_singleton] at hc
      rcases hc with hc | hc
      · exact ih (u / 10) (by omega) c hc
      · rw [hc, digit_nat (by omega)]
        omega

theorem dec_no_minus (u : Nat) (l : List UInt8) : decDigits u ≠ 45 :: l := by
  intro h
  have := dec_digits u 45 (by rw [h]; exact List.mem_cons_self ..)
  have e : (45 : UInt8).toNat = 45 := rfl
  omega

theorem itoa_inj {a b : Int} (h : itoa a = itoa b) : a = b := by
  unfold itoa at h
  by_cases ha : a < 0
  · rw [if_pos ha] at h
    by_cases hb : b < 0
    · rw [if_pos hb] at h
      have := congrArg dval (List.cons.inj h).2
      rw [dval_dec, dval_dec] at this
      omega
    · rw [if_neg hb] at h
      exact absurd h.symm (dec_no_minus _ _)
  · rw [if_neg ha] at h
    by_cases hb : b < 0
    · rw [if_pos hb] at h
      exact absurd h (dec_no_minus _ _)
    · rw [if_neg hb] at h
      have := congrArg dval h
      rw [dval_dec, dval_dec] at this
      omega

/-- The name of a flag word. -/
def flagsW : List UInt8 := [102, 108, 97, 103, 115, 32]
def flagName (f : Int) : List UInt8 :=
  if f = 0 then [112, 101, 114, 115, 105, 115, 116, 101, 110, 116]
  else if f = 1 then [101, 112, 104, 101, 109, 101, 114, 97, 108]
  else if f = 2 then [115, 101, 113, 117, 101, 110, 116, 105, 97, 108]
  else if f = 3 then [101, 112, 104, 101, 109, 101, 114, 97, 108, 32, 115, 101, 113, 117, 101, 110, 116, 105, 97, 108]
  else flagsW ++ itoa f

theorem flagName_big {f : Int} (h0 : ¬ f = 0) (h1 : ¬ f = 1) (h2 : ¬ f = 2) (h3 : ¬ f = 3) : flagName f = flagsW ++ itoa f := by
  unfold flagName
  rw [if_neg h0, if_neg h1, if_neg h2, if_neg h3]

theorem flagName_small {f g : Int} (hf : f = 0 ∨ f = 1 ∨ f = 2 ∨ f = 3) (hg : ¬ (g = 0 ∨ g = 1 ∨ g = 2 ∨ g = 3)) : flagName f ≠ flagName g := by
  rw [flagName_big (f := g) (fun h => hg (by omega)) (fun h => hg (by omega)) (fun h => hg (by omega)) (fun h => hg (by omega))]
  rcases hf with rfl | rfl | rfl | rfl
  all_goals
    intro h
    exact absurd (List.cons.inj h).1 (by decide)

theorem flagName_inj {f g : Int} (h : flagName f = flagName g) : f = g := by
  by_cases hf : f = 0 ∨ f = 1 ∨ f = 2 ∨ f = 3
  · by_cases hg : g = 0 ∨ g = 1 ∨ g = 2 ∨ g = 3
    · rcases hf with rfl | rfl | rfl | rfl <;> rcases hg with rfl | rfl | rfl | rfl <;> first | rfl | exact absurd h (by decide)
    · exact absurd h (flagName_small hf hg)
  · by_cases hg : g = 0 ∨ g = 1 ∨ g = 2 ∨ g = 3
    · exact absurd h.symm (flagName_small hg hf)
    · rw [flagName_big (f := f) (fun h => hf (by omega)) (fun h => hf (by omega)) (fun h => hf (by omega)) (fun h => hf (by omega)),
        flagName_big (f := g) (fun h => hg (by omega)) (fun h => hg (by omega)) (fun h => hg (by omega)) (fun h => hg (by omega))] at h
      exact itoa_inj (List.append_cancel_left h)

end Go.Proofs.Qxb6600808aDoor
