/-
  Seat b6601361a: rwKind; hasAt; the start of parsePlainRWLine.
-/
import Derived.Test.Qxb6601361aWalks1
namespace Go.Proofs.Qxb6601361a
open Go.RowKit

/-- The fields as cells. -/
def fcs (F : List Int) : Array Value := (F.map (Value.int .i64)).toArray
/-- What a reader leaves. -/
def AnsPost (A : Ans) (w : World) (e : Ending) (w' : World) : Prop :=
  e = .returned (.tuple #[.int .u8 A.kind, .agg (fcs A.fields), .bool A.ok]) ∧ Below w.heap.size w w'

theorem foldl_push : ∀ (l : List UInt8) (acc : List UInt8), (l.map (fun c => (c.toNat : Int))).foldl (fun r n => r.push (UInt8.ofNat n.toNat)) (bs acc) = bs (acc ++ l)
  | [], acc => by simp
  | c :: l, acc => by
    have e : (bs acc).push (UInt8.ofNat (((c.toNat : Nat) : Int)).toNat) = bs (acc ++ [c]) := by
      apply ByteArray.ext
      simp [bs, ByteArray.push]
    rw [List.map_cons, List.foldl_cons, e, foldl_push l (acc ++ [c])]
    simp

/-- 'string(b)'. -/
theorem run_str (w : World) (x : Addr) (l : List UInt8) (n c : Nat) (hn : n = l.length) (hc : ∀ i d, l[i]? = some d → w.cell? (x.add i) = some (.int .u8 (d.toNat : Int))) :
    (convert 22 9 (.slice (some x) n c)).run Try.prog w = .ok (.string (bs l)) w := by
  subst hn
  rw [run_convert_bytes_string w 22 9 5 _ _ _ Try.underlying22 Try.underlying5 Try.underlying9]
  have hl : (loadCells x l.length).run Try.prog w = .ok ((l.map (fun c => (c.toNat : Int))).map (Value.int .u8)).toArray w := by
    have := run_loadCells_list (P := Try.prog) w x ((l.map (fun c => (c.toNat : Int))).map (Value.int .u8)) (fun j v hv => by
      simp only [List.map_map, List.getElem?_map, Option.map_eq_some_iff] at hv
      obtain ⟨d, hd, rfl⟩ := hv
      exact hc j d hd)
    simpa using this
  rw [run_bytesToString w _ _ _ _ hl]
  have := foldl_push l []
  rw [List.nil_append] at this
  rw [← this]
  rfl

theorem rwKind_any (c : UInt8) (w : World) :
    Calls Try.prog 32 #[.int .u8 (c.toNat : Int)] w fun e w' => e = .returned (.tuple #[.int .u8 (if c = 114 then 1 else if c = 119 then 2 else 0), .bool (decide (c = 114 ∨ c = 119))]) ∧ w = w' := by
  by_cases h1 : c = 114
  · subst h1
    go_enter Try.func32, Try.ntmps32
    go_wp2
    go_ret2
    exact ⟨rfl, rfl⟩
  · by_cases h2 : c = 119
    · subst h2
      go_enter Try.func32, Try.ntmps32
      go_wp2
      go_ret2
      exact ⟨rfl, rfl⟩
    · have n1 : ((c.toNat : Int) == 114) = false := beq_eq_false_iff_ne.2 (fun h => h1 (UInt8.toNat_inj.1 (by have e : (114 : UInt8).toNat = 114 := rfl; omega)))
      have n2 : ((c.toNat : Int) == 119) = false := beq_eq_false_iff_ne.2 (fun h => h2 (UInt8.toNat_inj.1 (by have e : (119 : UInt8).toNat = 119 := rfl; omega)))
      rw [if_neg h1, if_neg h2]
      have hd : decide (c = 114 ∨ c = 119) = false := by simp [h1, h2]
      rw [hd]
      clear h1 h2 hd
      go_enter Try.func32, Try.ntmps32
      go_wp2
      go_ret2
      exact ⟨rfl, rfl⟩

theorem hasAt_any (g : Nat) (T : List UInt8) (n i : Nat) (hn : T.length = n) (hb : n ≤ 1048576) (hi : i ≤ n) (w : World) (hg : w.heap[g]? = some (.cells (ucs T) 5 (0, 0))) :
    Calls Try.prog 33 #[.slice (some ⟨g, 0, none⟩) n n, .int .i64 (i : Int), .string ⟨#[45, 49, 41]⟩] w fun e w' => e = .returned (.bool (minus1 (T.drop i))) ∧ w = w' := by
  have HN : Hid (T.length = n) := hn
  by_cases h3 : i + 3 ≤ n
  · have hcv := run_str w ⟨g, i, none⟩ ((T.drop i).take 3) 3 (n - i) (by simp; omega) (fun j d hj => by
      have hadd : (⟨g, i, none⟩ : Addr).add j = ⟨g, i + j, none⟩ := by unfold Addr.add; split <;> simp_all
      rw [hadd]
      refine ucs_cell hg ?_
      by_cases hj3 : j < 3
      · rw [List.getElem?_take, if_pos hj3, List.getElem?_drop] at hj
        exact hj
      · rw [List.getElem?_take, if_neg hj3] at hj
        cases hj)
    have hm : minus1 (T.drop i) = ((bs ((T.drop i).take 3)).toList == [45, 49, 41]) := by
      rw [Lib.toList_data]
      rfl
    have HM : Hid (minus1 (T.drop i) = ((bs ((T.drop i).take 3)).toList == [45, 49, 41])) := hm
    clear hn hg hm
    go_enter Try.func33, Try.ntmps33
    go_wp2
    go_ret
    exact ⟨ret_bool HM.out.symm, rfl⟩
  · have hm : minus1 (T.drop i) = false := by
      unfold minus1
      rw [beq_eq_false_iff_ne]
      intro h
      have := congrArg List.length h
      simp at this
      omega
    have HM : Hid (minus1 (T.drop i) = false) := hm
    clear hn hg hm
    go_enter Try.func33, Try.ntmps33
    go_wp2
    go_ret
    exact ⟨ret_bool HM.out.symm, rfl⟩

/-- A text shorter than two bytes. -/
theorem parse_short (a : Option Addr) (n c : Nat) (hn : n < 2) (w : World) : Calls Try.prog 27 #[.slice a n c] w (AnsPost (fail zeros) w) := by
  go_enter Try.func27, Try.ntmps27
  go_wp2
  go_region
  go_wp2
  refine bodyPost_ret (v := .tuple #[.int .u8 0, .agg (fcs zeros), .bool false]) (by simp [results, Try.results27, go_sem, fcs, zeros]) rfl ⟨rfl, ?_⟩
  exact below_drewN ((Below.refl _ _).alloc (Nat.le_refl _) _) 1

end Go.Proofs.Qxb6601361a
