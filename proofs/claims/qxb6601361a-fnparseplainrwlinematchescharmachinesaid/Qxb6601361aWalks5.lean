/-
  Seat b6601361a: parsePlainRWLine whole; ZZParsePlainRWLine.
-/
import Derived.Test.Qxb6601361aWalks4
namespace Go.Proofs.Qxb6601361a
open Go.RowKit

/-- The second byte is no '('. -/
theorem parse_no40 (b : UInt8) (hb40 : ¬ b = 40) (g n : Nat) (h2n : 2 ≤ n) (hb : n ≤ 1048576) (w : World) (hgl : g < w.heap.size) (c1 : w.cell? ⟨g, 1, none⟩ = some (.int .u8 (b.toNat : Int))) :
    Calls Try.prog 27 #[.slice (some ⟨g, 0, none⟩) n n] w (AnsPost (fail zeros) w) := by
  have q40 : ((b.toNat : Int) == 40) = false := beq_eq_false_iff_ne.2 (fun h => hb40 ((u8_int 40 (by decide)).2 h))
  have q40' : ((b.toNat : Int) != 40) = true := by simp only [bne, q40]; rfl
  clear hb40
  go_enter Try.func27, Try.ntmps27
  go_wp2
  go_region
  go_wp2
  refine bodyPost_ret (v := .tuple #[.int .u8 0, .agg (fcs zeros), .bool false]) (by simp [results, Try.results27, go_sem, fcs, zeros]) rfl ⟨rfl, ?_⟩
  exact below_drewN ((Below.refl _ _).alloc (Nat.le_refl _) _) 1

/-- The first byte is neither. -/
theorem parse_nokind (a : UInt8) (h1 : ¬ a = 114) (h2 : ¬ a = 119) (g n : Nat) (h2n : 2 ≤ n) (hb : n ≤ 1048576) (w : World) (hgl : g < w.heap.size) (c0 : w.cell? ⟨g, 0, none⟩ = some (.int .u8 (a.toNat : Int))) (c1 : w.cell? ⟨g, 1, none⟩ = some (.int .u8 40)) :
    Calls Try.prog 27 #[.slice (some ⟨g, 0, none⟩) n n] w (AnsPost (fail zeros) w) := by
  have HK := hide' (rwKind_any a)
  have hk2 : decide (a = 114 ∨ a = 119) = false := by simp [h1, h2]
  rw [if_neg h1, if_neg h2, hk2] at HK
  clear hk2 h1 h2
  go_enter Try.func27, Try.ntmps27
  go_wp2_with (go_at_call 32; refine (HK.out _).mono ?_; rintro e w' ⟨rfl, rfl⟩)
  go_region
  go_wp2
  refine bodyPost_ret (v := .tuple #[.int .u8 0, .agg (fcs zeros), .bool false]) (by simp [results, Try.results27, go_sem, fcs, zeros]) rfl ⟨rfl, ?_⟩
  exact below_drewN ((Below.refl _ _).alloc (Nat.le_refl _) _) 1

theorem ansOf_cons (a b : UInt8) (l : List UInt8) : ansOf (a :: b :: l) = if b = 40 then (if a = 114 then parseF 1 3 zeros l else if a = 119 then parseF 2 3 zeros l else fail zeros) else fail zeros := rfl

theorem parse_any (T : List UInt8) (g n : Nat) (hn : T.length = n) (hb : n ≤ 1048576) (w : World) (hg : w.heap[g]? = some (.cells (ucs T) 5 (0, 0))) (hgl : g < w.heap.size) :
    Calls Try.prog 27 #[.slice (some ⟨g, 0, none⟩) n n] w (AnsPost (ansOf T) w) := by
  match T, hn, hg with
  | [], hn, hg => exact parse_short _ n n (by simp at hn; omega) w
  | [_], hn, hg => exact parse_short _ n n (by simp at hn; omega) w
  | a :: b :: l, hn, hg =>
    have c0 : w.cell? ⟨g, 0, none⟩ = some (.int .u8 (a.toNat : Int)) := ucs_cell hg rfl
    have c1 : w.cell? ⟨g, 1, none⟩ = some (.int .u8 (b.toNat : Int)) := ucs_cell hg rfl
    have h2n : 2 ≤ n := by simp at hn; omega
    rw [ansOf_cons]
    by_cases h40 : b = 40
    · subst h40
      rw [if_pos rfl]
      by_cases h1 : a = 114
      · subst h1
        rw [if_pos rfl]
        exact parse_loop 1 (Or.inl rfl) 114 (Or.inl ⟨rfl, rfl⟩) l g n (by simpa using hn) hb w hg hgl _ rfl
      · by_cases h2 : a = 119
        · subst h2
          rw [if_neg h1, if_pos rfl]
          exact parse_loop 2 (Or.inr rfl) 119 (Or.inr ⟨rfl, rfl⟩) l g n (by simpa using hn) hb w hg hgl _ rfl
        · rw [if_neg h1, if_neg h2]
          exact parse_nokind a h1 h2 g n h2n hb w hgl c0 c1
    · rw [if_neg h40]
      exact parse_no40 b h40 g n h2n hb w hgl c1

theorem parseF_len (kd : Int) : ∀ (r : Nat) (F : List Int) (l : List UInt8), F.length = 4 → (parseF kd r F l).fields.length = 4
  | 0, F, l, h => by
    unfold parseF
    split
    · split <;> simp [fin, fail]
      · split <;> simp [h]
      · exact h
    · split
      · exact h
      · cases hd : l.drop (lead 18 0 l).2 with
        | nil => simpa [sepP, fail] using h
        | cons c t =>
          rw [sepP_cons]
          repeat' split
          all_goals simp [fin, fail]
          all_goals first | simpa using h | (split <;> simpa using h)
  | r + 1, F, l, h => by
    unfold parseF
    split
    · exact h
    · cases hd : l.drop (lead 18 0 l).2 with
      | nil => simpa [sepP, fail] using h
      | cons c t =>
        rw [sepP_cons]
        split
        · exact parseF_len kd r _ _ (by simpa using h)
        · rw [if_neg (fun h => by cases h.2)]
          simpa [fail] using h

theorem ansOf_len (T : List UInt8) : (ansOf T).fields.length = 4 := by
  unfold ansOf
  split
  · repeat' split
    all_goals first | rfl | exact parseF_len _ _ _ _ rfl
  · rfl

theorem four {F : List Int} (h : F.length = 4) : ∃ a b c d, F = [a, b, c, d] := by
  match F, h with
  | [a, b, c, d], _ => exact ⟨a, b, c, d, rfl⟩

end Go.Proofs.Qxb6601361a
