/-
  Seat b6000078a: bytes.Compare over two arrays of twenty bytes; ring.Between.
-/
import Derived.Test.Qxb6000078aRows
import Derived.Test.Qxb6000078aPlain
import Derived.Lib.BytesEntry
import Derived.WalkKit
import Derived.WalkSpells
import Derived.WalkLawsBesides
import Derived.BigQuiet
import Derived.Deep.QuietTactic
import Derived.RowKit3
namespace Go.Proofs.Qxb6000078a
open Go.RowKit

/-- The cells of an array of bytes. -/
def bcs (l : List Int) : Array Value := (l.map (Value.int .u8)).toArray
theorem bcs_size (l : List Int) : (bcs l).size = l.length := by simp [bcs]
theorem bcs_get (l : List Int) (i : Nat) : (bcs l)[i]? = (l[i]?).map (Value.int .u8) := by simp [bcs]

/-- THE ENTRY internal/bytealg.Compare at two slices whose cells are known. -/
theorem run_compareSlices {P : Program} (w : World) (g h : Nat) (l m : List Int) (t1 t2 : TypeId) (f1 f2 : Nat × Nat)
    (hg : w.heap[g]? = some (.cells (bcs l) t1 f1)) (hh : w.heap[h]? = some (.cells (bcs m) t2 f2)) (n1 n2 c1 c2 : Nat) (e1 : l.length = n1) (e2 : m.length = n2) :
    (Extern.BytealgCompare.compare #[.slice (some ⟨g, 0, none⟩) n1 c1, .slice (some ⟨h, 0, none⟩) n2 c2]).run P w = .ok (.int .i64 (Lib.compareBytes (Lib.bytesOf l) (Lib.bytesOf m))) w := by
  subst e1; subst e2
  have key : ∀ (g : Nat) (l : List Int) (t : TypeId) (f : Nat × Nat), w.heap[g]? = some (.cells (bcs l) t f) → (Extern.Bytes.loadBytes ⟨g, 0, none⟩ l.length .empty).run P w = .ok ⟨(Lib.bytesOf l).toArray⟩ w := by
    intro g l t f hg
    have hl := Lib.run_loadBytesX (P := P) w l ⟨g, 0, none⟩ .empty (fun j x hj => by
      have hadd : (⟨g, 0, none⟩ : Addr).add j = ⟨g, j, none⟩ := by unfold Addr.add; split <;> simp_all
      rw [hadd, cell_of_row w g j (bcs l) t f hg, bcs_get, hj]
      rfl)
    have he : (⟨ByteArray.empty.data ++ (Lib.bytesOf l).toArray⟩ : ByteArray) = ⟨(Lib.bytesOf l).toArray⟩ := by
      apply ByteArray.ext
      show (#[] : Array UInt8) ++ (Lib.bytesOf l).toArray = (Lib.bytesOf l).toArray
      simp
    rw [he] at hl
    exact hl
  change Sem.run P (do pure (goInt (Extern.BytealgCompare.cmp (← Extern.Bytes.bytesOf (.slice (some ⟨g, 0, none⟩) l.length c1)) (← Extern.Bytes.bytesOf (.slice (some ⟨h, 0, none⟩) m.length c2))))) w = _
  simp only [Extern.Bytes.bytesOf, Sem.run_bind, Sem.run_pure, key g l t1 f1 hg, key h m t2 f2 hh, Result.andThen]
  rw [Lib.cmp_eq]
  rfl

set_option maxHeartbeats 400000 in
theorem compare_any (w : World) (g h : Nat) (l m : List Int) (t1 t2 : TypeId) (f1 f2 : Nat × Nat) (hl : l.length = 20) (hm : m.length = 20) (bl : Byt l) (bm : Byt m)
    (hg : w.heap[g]? = some (.cells (bcs l) t1 f1)) (hh : w.heap[h]? = some (.cells (bcs m) t2 f2)) (c : Int) (hc : sgn (val l) (val m) = c) :
    Calls Try.prog 21 #[.slice (some ⟨g, 0, none⟩) 20 20, .slice (some ⟨h, 0, none⟩) 20 20] w fun e w' => e = .returned (.int .i64 c) ∧ w' = w := by
  have hr := run_compareSlices (P := Try.prog) w g h l m t1 t2 f1 f2 hg hh 20 20 20 20 hl hm
  rw [compare_val l m (by omega) bl bm, hc] at hr
  have HR : Hid ((Extern.BytealgCompare.compare #[.slice (some ⟨g, 0, none⟩) 20 20, .slice (some ⟨h, 0, none⟩) 20 20]).run Try.prog w = .ok (.int .i64 c) w) := hr
  clear hr hc hl hm bl bm hg hh
  go_enter Try.func21, Try.ntmps21
  go_wp2
  rw [run_callFunc_extern Try.func22 (by kernel_rfl) (by kernel_rfl) (by kernel_rfl) (e := Extern.BytealgCompare.compare) (by kernel_rfl), HR.out]
  simp only [Result.andThen]
  rw [Oper.upon_value]
  go_wp2
  go_ret
  exact ⟨rfl, rfl⟩

end Go.Proofs.Qxb6000078a
