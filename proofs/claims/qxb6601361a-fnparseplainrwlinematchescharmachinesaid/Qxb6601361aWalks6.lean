/-
  Seat b6601361a: what the loop of the byte machine knows.
-/
import Derived.Test.Qxb6601361aWalks3
namespace Go.Proofs.Qxb6601361a
open Go.RowKit

/-- What the loop of b1ModelPlainRWLine knows ahead of byte p. -/
def MInv (A : Ans) (kd : Int) (T : List UInt8) (f d mi : Nat) (cl : Bool) (p : Nat) (F : List Int) : Prop :=
  f ≤ 3 ∧ d ≤ 18 ∧ mi ≤ 2 ∧ p ≤ T.length ∧ A = model kd f d mi cl F (T.drop p) ∧ (cl = false → Small (F.getD f 0) (18 - d) ∧ ∀ j, f < j → F.getD j 0 = 0)

theorem m_nil {A : Ans} {kd : Int} {T : List UInt8} {f d mi p : Nat} {cl : Bool} {F : List Int} (hA : A = model kd f d mi cl F (T.drop p)) (hp : T.length ≤ p) : A = if cl = true then fin kd F else fail F := by
  rw [hA, List.drop_of_length_le hp]
  rfl
theorem m_cons {A : Ans} {kd : Int} {T : List UInt8} {f d mi p : Nat} {cl : Bool} {F : List Int} {c : UInt8} (hA : A = model kd f d mi cl F (T.drop p)) (hc : T[p]? = some c) : A =
    if cl = true then fail F
    else if mi = 1 then (if c = 49 then model kd f d 2 false F (T.drop (p + 1)) else fail F)
    else if mi = 2 then (if c = 41 then model kd f d 2 true (F.set 3 (-1)) (T.drop (p + 1)) else fail F)
    else if isDig c = true then (if d = 18 then fail F else model kd f (d + 1) mi false (F.set f (F.getD f 0 * 10 + dig c)) (T.drop (p + 1)))
    else if c = 45 ∧ kd = 2 ∧ f = 3 ∧ d = 0 then model kd f d 1 false F (T.drop (p + 1))
    else if c = 44 ∧ f < 3 ∧ 0 < d then model kd (f + 1) 0 mi false F (T.drop (p + 1))
    else if c = 41 ∧ f = 3 ∧ 0 < d then model kd f d mi true F (T.drop (p + 1))
    else fail F := by
  obtain ⟨hl, e⟩ := List.getElem?_eq_some_iff.1 hc
  rw [hA, List.drop_eq_getElem_cons hl, e]
  rfl

theorem m_dig {A : Ans} {kd : Int} {T : List UInt8} {f d p : Nat} {F : List Int} {c : UInt8} (hA : A = model kd f d 0 false F (T.drop p)) (hc : T[p]? = some c) (hd : isDig c = true) (h18 : d < 18) (hf : f ≤ 3) (hF : F.length = 4)
    (hsm : Small (F.getD f 0) (18 - d)) (hz : ∀ j, f < j → F.getD j 0 = 0) : MInv A kd T f (d + 1) 0 false (p + 1) (F.set f (F.getD f 0 * 10 + dig c)) := by
  have h := m_cons hA hc
  rw [if_neg (by decide), if_neg (by decide), if_neg (by decide), if_pos hd, if_neg (by omega)] at h
  have hlt := (List.getElem?_eq_some_iff.1 hc).1
  refine ⟨hf, by omega, by omega, by omega, h, fun _ => ⟨?_, ?_⟩⟩
  · rw [get_set _ _ _ (by omega)]
    rw [show 18 - d = (18 - (d + 1)) + 1 by omega] at hsm
    simp [isDig] at hd
    exact hsm.step (by unfold dig; omega) (by unfold dig; omega)
  · intro j hj
    rw [get_set_other _ _ _ _ (by omega)]
    exact hz j hj

theorem two_new (w : World) (o1 o2 : Obj) : ((w.alloc o1).alloc o2).heap[w.heap.size + 1]? = some o2 := by
  have h := Go.heap_alloc_new (w.alloc o1) o2
  rwa [show (w.alloc o1).heap.size = w.heap.size + 1 by simp] at h
theorem two_old (w : World) (o1 o2 : Obj) : ((w.alloc o1).alloc o2).heap[w.heap.size]? = some o1 :=
  (((Below.refl _ _).alloc (Nat.le_refl _) o2 : Below (w.alloc o1).heap.size (w.alloc o1) ((w.alloc o1).alloc o2)).block w.heap.size (by simp)).trans (Go.heap_alloc_new w o1)
theorem row_set {wr : World} {g f : Nat} {cs cs' : Array Value} {v : Value} (v' : Value) (hr : wr.heap[g]? = some (.cells cs 35 (0, 0))) (hv : v = v') (hcs : cs.setIfInBounds f v' = cs') : (wr.setCell ⟨g, f, none⟩ v).heap[g]? = some (.cells cs' 35 (0, 0)) := by
  subst hv hcs
  exact heap_setCell_same wr g f cs 35 v hr

end Go.Proofs.Qxb6601361a
