/-
  Seat b6601361a: b1ModelPlainRWLine whole.
-/
import Derived.Test.Qxb6601361aWalks5
import Derived.Test.Qxb6601361aWalks7
import Derived.Test.Qxb6601361aWalks8
namespace Go.Proofs.Qxb6601361a
open Go.RowKit

theorem model_short (a : Option Addr) (n c : Nat) (hn : n < 2) (w : World) : Calls Try.prog 17 #[.slice a n c] w (AnsPost (fail zeros) w) := by
  go_enter Try.func17, Try.ntmps17
  go_wp2
  go_region
  go_wp2
  refine bodyPost_ret (v := .tuple #[.int .u8 0, .agg (fcs zeros), .bool false]) (by simp [results, Try.results17, go_sem, fcs, zeros]) rfl ⟨rfl, ?_⟩
  exact below_drewN (((Below.refl _ _).alloc (Nat.le_refl _) _).alloc (by simp) _) 1

theorem model_no40 (b : UInt8) (hb40 : ¬ b = 40) (g n : Nat) (h2n : 2 ≤ n) (hb : n ≤ 1048576) (w : World) (hgl : g < w.heap.size) (c1 : w.cell? ⟨g, 1, none⟩ = some (.int .u8 (b.toNat : Int))) :
    Calls Try.prog 17 #[.slice (some ⟨g, 0, none⟩) n n] w (AnsPost (fail zeros) w) := by
  have q40 : ((b.toNat : Int) == 40) = false := beq_eq_false_iff_ne.2 (fun h => hb40 ((u8_int 40 (by decide)).2 h))
  have q40' : ((b.toNat : Int) != 40) = true := by simp only [bne, q40]; rfl
  clear hb40
  go_enter Try.func17, Try.ntmps17
  go_wp2
  go_region
  go_wp2
  refine bodyPost_ret (v := .tuple #[.int .u8 0, .agg (fcs zeros), .bool false]) (by simp [results, Try.results17, go_sem, fcs, zeros]) rfl ⟨rfl, ?_⟩
  exact below_drewN (((Below.refl _ _).alloc (Nat.le_refl _) _).alloc (by simp) _) 1

theorem model_nokind (a : UInt8) (h1 : ¬ a = 114) (h2 : ¬ a = 119) (g n : Nat) (h2n : 2 ≤ n) (hb : n ≤ 1048576) (w : World) (hgl : g < w.heap.size) (c0 : w.cell? ⟨g, 0, none⟩ = some (.int .u8 (a.toNat : Int))) (c1 : w.cell? ⟨g, 1, none⟩ = some (.int .u8 40)) :
    Calls Try.prog 17 #[.slice (some ⟨g, 0, none⟩) n n] w (AnsPost (fail zeros) w) := by
  have q1 : ((a.toNat : Int) == 114) = false := beq_eq_false_iff_ne.2 (fun h => h1 ((u8_int 114 (by decide)).2 h))
  have q2 : ((a.toNat : Int) == 119) = false := beq_eq_false_iff_ne.2 (fun h => h2 ((u8_int 119 (by decide)).2 h))
  clear h1 h2
  go_enter Try.func17, Try.ntmps17
  go_wp2
  go_region
  go_wp2
  refine bodyPost_ret (v := .tuple #[.int .u8 0, .agg (fcs zeros), .bool false]) (by simp [results, Try.results17, go_sem, fcs, zeros]) rfl ⟨rfl, ?_⟩
  exact below_drewN (((Below.refl _ _).alloc (Nat.le_refl _) _).alloc (by simp) _) 1

theorem model_any (T : List UInt8) (g n : Nat) (hn : T.length = n) (hb : n ≤ 1048576) (w : World) (hg : w.heap[g]? = some (.cells (ucs T) 5 (0, 0))) (hgl : g < w.heap.size) :
    Calls Try.prog 17 #[.slice (some ⟨g, 0, none⟩) n n] w (AnsPost (ansOf T) w) := by
  match T, hn, hg with
  | [], hn, hg => exact model_short _ n n (by simp at hn; omega) w
  | [_], hn, hg => exact model_short _ n n (by simp at hn; omega) w
  | a :: b :: l, hn, hg =>
    have c0 : w.cell? ⟨g, 0, none⟩ = some (.int .u8 (a.toNat : Int)) := ucs_cell hg rfl
    have c1 : w.cell? ⟨g, 1, none⟩ = some (.int .u8 (b.toNat : Int)) := ucs_cell hg rfl
    have h2n : 2 ≤ n := by simp at hn; omega
    rw [ansOf_cons]
    by_cases h40 : b = 40
    · subst h40
      rw [if_pos rfl]
      by_cases h1 : a = 114
      · subst h1
        rw [if_pos rfl]
        exact model_loop1 l g n (by simpa using hn) hb w hg hgl _ (bridge0 1 l)
      · by_cases h2 : a = 119
        · subst h2
          rw [if_neg h1, if_pos rfl]
          exact model_loop2 l g n (by simpa using hn) hb w hg hgl _ (bridge0 2 l)
        · rw [if_neg h1, if_neg h2]
          exact model_nokind a h1 h2 g n h2n hb w hgl c0 c1
    · rw [if_neg h40]
      exact model_no40 b h40 g n h2n hb w hgl c1

end Go.Proofs.Qxb6601361a
