/-
  Seat b6000092a: canonicalCompare; the law FnAppendNameKeyOrdersCanonically.
-/
import Derived.Test.Qxb6000092aWalks11
import Derived.Test.Qxb6000092aWalks7
namespace Go.Proofs.Qxb6000092a
open Go.RowKit

theorem canF_end : ∀ (a b : List (List UInt8)), a = [] ∨ b = [] → canF a b = if a.length < b.length then -1 else if b.length < a.length then 1 else 0
  | [], [], _ => rfl
  | [], _ :: _, _ => by simp [canF]
  | _ :: _, [], _ => by simp [canF]
  | _ :: _, _ :: _, h => by simp at h

/-- What the loop of canonicalCompare knows behind k rounds. -/
def CanInv (A B : List (List UInt8)) (k : Nat) : Prop := canF A.reverse B.reverse = canF (A.reverse.drop k) (B.reverse.drop k)

theorem can_step {A B : List (List UInt8)} {k iA iB : Nat} {x y : List UInt8} (h : CanInv A B k) (hA : A.length = iA + k + 1) (hB : B.length = iB + k + 1) (hx : A.getD iA [] = x) (hy : B.getD iB [] = y) :
    canF A.reverse B.reverse = if cmpB (fold x) (fold y) = 0 then canF (A.reverse.drop (k + 1)) (B.reverse.drop (k + 1)) else cmpB (fold x) (fold y) := by
  have e1 : A.reverse.drop k = x :: A.reverse.drop (k + 1) := by
    rw [List.drop_eq_getElem_cons (by simp; omega), List.getElem_reverse]
    congr 1
    rw [← hx]
    simp [List.getElem?_eq_getElem (show iA < A.length by omega)]
    congr 1
    omega
  have e2 : B.reverse.drop k = y :: B.reverse.drop (k + 1) := by
    rw [List.drop_eq_getElem_cons (by simp; omega), List.getElem_reverse]
    congr 1
    rw [← hy]
    simp [List.getElem?_eq_getElem (show iB < B.length by omega)]
    congr 1
    omega
  rw [h, e1, e2]
  rfl

theorem can_end {A B : List (List UInt8)} {k : Nat} (h : CanInv A B k) (hA : k ≤ A.length) (hB : k ≤ B.length) (hk : A.length ≤ k ∨ B.length ≤ k) :
    canF A.reverse B.reverse = if A.length < B.length then -1 else if B.length < A.length then 1 else 0 := by
  rw [h, canF_end _ _ (by
    rcases hk with hk | hk
    · left; exact List.drop_of_length_le (by simpa using hk)
    · right; exact List.drop_of_length_le (by simpa using hk))]
  simp only [List.length_drop, List.length_reverse]
  by_cases h1 : A.length < B.length
  · rw [if_pos h1, if_pos (by omega)]
  · rw [if_neg h1, if_neg (by omega)]
    by_cases h2 : B.length < A.length
    · rw [if_pos h2, if_pos (by omega)]
    · rw [if_neg h2, if_neg (by omega)]

set_option maxHeartbeats 1000000 in
theorem canon_any (s t : ByteArray) (A B : List (List UInt8)) (eA : s.data.toList = enc A) (eB : t.data.toList = enc B) (lA : Labs A) (lB : Labs B) (zs : s.size ≤ 255) (zt : t.size ≤ 255) (w : World) :
    Calls Try.prog 19 #[.string s, .string t] w fun e w' => e = .returned (.int .i64 (canF A.reverse B.reverse)) ∧ Below w.heap.size w w' := by
  have EA : Hid (s.data.toList = enc A) := eA
  have EB : Hid (t.data.toList = enc B) := eB
  clear eA eB
  go_enter Try.func19, Try.ntmps19
  go_wp2_with fail
  refine (labelsOf_any s A EA.out lA zs _).mono ?_
  rintro e w1 ⟨v1, rfl, own1, bel1⟩
  go_wp2_with fail
  refine (labelsOf_any t B EB.out lB zt _).mono ?_
  rintro e w2 ⟨v2, rfl, own2, bel2⟩
  obtain ⟨g1, cap1, e1, f1⟩ := own_shape own1
  obtain ⟨g2, cap2, e2, f2⟩ := own_shape own2
  subst e1
  subst e2
  have F1 : Hid (∀ i, i < A.length → ∃ b, g1 = some ⟨b, 0, none⟩ ∧ b < w2.heap.size ∧ w2.cell? ⟨b, i, none⟩ = some (.string (bs (A.getD i [])))) := by
    intro i hi
    obtain ⟨b, h1, h2, h3⟩ := f1 i hi
    have := bel2.size
    exact ⟨b, h1, by omega, (bel2.cell (p := ⟨b, i, none⟩) h2).trans h3⟩
  have F2 : Hid (∀ i, i < B.length → ∃ b, g2 = some ⟨b, 0, none⟩ ∧ b < w2.heap.size ∧ w2.cell? ⟨b, i, none⟩ = some (.string (bs (B.getD i [])))) := f2
  have BEL : Hid (Below w.heap.size w w2) := bel1.trans (bel2.mono bel1.size)
  have lnA : A.length ≤ 255 := by have := len_le_enc A; rw [← EA.out, ← Lib.size_eq] at this; omega
  have lnB : B.length ≤ 255 := by have := len_le_enc B; rw [← EB.out, ← Lib.size_eq] at this; omega
  clear own1 own2 bel1 bel2 f1 f2
  obtain ⟨nA, hnA⟩ : ∃ n, A.length = n := ⟨_, rfl⟩
  obtain ⟨nB, hnB⟩ : ∃ n, B.length = n := ⟨_, rfl⟩
  rw [hnA] at lnA F1 ⊢
  rw [hnB] at lnB F2 ⊢
  have NA : Hid (A.length = nA) := hnA
  have NB : Hid (B.length = nB) := hnB
  clear hnA hnB
  go_wp2_with fail
  go_loopw [7] (fun i wr => ∃ k : Nat, i = .int .i64 k ∧ k ≤ nA ∧ k ≤ nB ∧ CanInv A B k ∧ Below w2.heap.size w2 wr) (fun i _ => nA - (intOf i).toNat)
  case atStart => exact ⟨0, rfl, Nat.zero_le _, Nat.zero_le _, rfl, Below.refl _ _⟩
  case round =>
    obtain ⟨k, rfl, hk1, hk2, hinv, hbel⟩ := hrel
    have HI : Hid (CanInv A B k) := hinv
    clear hinv
    by_cases hkA : k < nA
    · by_cases hkB : k < nB
      · obtain ⟨iA, hiA⟩ : ∃ i, nA = i + k + 1 := ⟨nA - k - 1, by omega⟩
        obtain ⟨iB, hiB⟩ : ∃ i, nB = i + k + 1 := ⟨nB - k - 1, by omega⟩
        obtain ⟨b1, e1, b1lt, c1⟩ := F1.out iA (by omega)
        obtain ⟨b2, e2, b2lt, c2⟩ := F2.out iB (by omega)
        subst e1
        subst e2
        have c1' := (hbel.cell (p := ⟨b1, iA, none⟩) b1lt).trans c1
        have c2' := (hbel.cell (p := ⟨b2, iB, none⟩) b2lt).trans c2
        have HB1 : Hid ((bs (A.getD iA [])).size ≤ 1048576) := lab_size lA _
        have HB2 : Hid ((bs (B.getD iB [])).size ≤ 1048576) := lab_size lB _
        obtain ⟨x, hx⟩ : ∃ x, A.getD iA [] = x := ⟨_, rfl⟩
        obtain ⟨y, hy⟩ : ∃ y, B.getD iB [] = y := ⟨_, rfl⟩
        rw [hx] at c1' HB1
        rw [hy] at c2' HB2
        have hst := can_step HI.out (by rw [NA.out]; exact hiA) (by rw [NB.out]; exact hiB) hx hy
        have i1 : IntKind.i64.wrap ((nA : Int) - 1) = (nA : Int) - 1 := by rw [IntKind.wrap_i64]; omega
        have i2 : IntKind.i64.wrap ((nA : Int) - 1 - (k : Int)) = (iA : Int) := by rw [IntKind.wrap_i64]; omega
        have i2' : (nA : Int) - 1 - (k : Int) = (iA : Int) := by omega
        have i3 : IntKind.i64.wrap ((nB : Int) - 1) = (nB : Int) - 1 := by rw [IntKind.wrap_i64]; omega
        have i4 : IntKind.i64.wrap ((nB : Int) - 1 - (k : Int)) = (iB : Int) := by rw [IntKind.wrap_i64]; omega
        have i4' : (nB : Int) - 1 - (k : Int) = (iB : Int) := by omega
        have i5 : (iA : Int) < (nA : Int) := by omega
        have i6 : (iB : Int) < (nB : Int) := by omega
        have i11 : IntKind.i64.wrap (iA : Int) = (iA : Int) := by rw [IntKind.wrap_i64]; omega
        have i12 : IntKind.i64.wrap (iB : Int) = (iB : Int) := by rw [IntKind.wrap_i64]; omega
        have i7 : iA < nA := by omega
        have i8 : iB < nB := by omega
        have i9 : (0 : Int) ≤ (iA : Int) := by omega
        have i10 : (0 : Int) ≤ (iB : Int) := by omega
        have HA : Hid (nA = iA + k + 1) := hiA
        have HB : Hid (nB = iB + k + 1) := hiB
        have HST : Hid (canF A.reverse B.reverse = if cmpB (fold x) (fold y) = 0 then canF (A.reverse.drop (k + 1)) (B.reverse.drop (k + 1)) else cmpB (fold x) (fold y)) := hst
        clear c1 c2 hx hy hst hiA hiB
        go_wp2_with fail
        go_region_held3 (fun w' => w'.cell? ⟨b1, iA, none⟩ = some (.string (bs x)) ∧ w'.cell? ⟨b2, iB, none⟩ = some (.string (bs y)) ∧ Below w2.heap.size w2 w') (first | exact ⟨c1', c2', below_drewN hbel 1⟩ | exact suf_keep b1lt b2lt (by assumption) (by assumption) | assumption)
          (first | (go_at_call 16; refine (lowerStr_any _ ?_ _).mono ?_; (first | exact HB1.out | exact HB2.out); rintro e w' ⟨rfl, hbw⟩) | (go_at_call 25; refine (compareStr_any _ _ _).mono ?_; rintro e w' ⟨rfl, rfl⟩))
        go_wp2_with fail
        · have hne : (cmpB (fold (bs x).data.toList) (fold (bs y).data.toList) != 0) = true := by assumption
          have hS := ‹w'.cell? ⟨b1, iA, none⟩ = some (.string (bs x)) ∧ w'.cell? ⟨b2, iB, none⟩ = some (.string (bs y)) ∧ Below w2.heap.size w2 w'›
          have hne' : ¬ cmpB (fold x) (fold y) = 0 := by simpa [bs_data] using hne
          have hr := HST.out
          rw [if_neg hne'] at hr
          go_ret
          exact ⟨ret_int hr.symm, BEL.out.trans (hS.2.2.mono BEL.out.size)⟩
        · have heq : (cmpB (fold (bs x).data.toList) (fold (bs y).data.toList) != 0) = false := by assumption
          have hS := ‹w'.cell? ⟨b1, iA, none⟩ = some (.string (bs x)) ∧ w'.cell? ⟨b2, iB, none⟩ = some (.string (bs y)) ∧ Below w2.heap.size w2 w'›
          have heq' : cmpB (fold x) (fold y) = 0 := by simpa [bs_data] using heq
          have hr := HST.out
          rw [if_pos heq'] at hr
          go_roundw
          case rel => exact ⟨k + 1, by go_num, by omega, by omega, hr, hS.2.2⟩
          case measure => simp [intOf]; omega
      · have hc := can_end HI.out (by rw [NA.out]; omega) (by rw [NB.out]; omega) (Or.inr (by rw [NB.out]; omega))
        rw [NA.out, NB.out, if_neg (by omega), if_pos (by omega)] at hc
        have HC : Hid (canF A.reverse B.reverse = 1) := hc
        have HB : Hid (Below w2.heap.size w2 wr) := hbel
        clear hc hbel
        go_wp2
        go_ret
        exact ⟨ret_int HC.out.symm, BEL.out.trans (HB.out.mono BEL.out.size)⟩
    · have hc := can_end HI.out (by rw [NA.out]; omega) (by rw [NB.out]; omega) (Or.inl (by rw [NA.out]; omega))
      rw [NA.out, NB.out] at hc
      have HB : Hid (Below w2.heap.size w2 wr) := hbel
      clear hbel
      by_cases h1 : nA < nB
      · rw [if_pos h1] at hc
        have HC : Hid (canF A.reverse B.reverse = -1) := hc
        clear hc
        go_wp2
        go_ret
        exact ⟨ret_int HC.out.symm, BEL.out.trans (HB.out.mono BEL.out.size)⟩
      · rw [if_neg h1, if_neg (by omega)] at hc
        have HC : Hid (canF A.reverse B.reverse = 0) := hc
        clear hc
        go_wp2
        go_ret
        exact ⟨ret_int HC.out.symm, BEL.out.trans (HB.out.mono BEL.out.size)⟩

set_option maxHeartbeats 1000000 in
theorem law_order (s t : ByteArray) (hs : s.size ≤ maxLen) (ht : t.size ≤ maxLen) (w : World) :
    Calls Try.prog 5 #[.string s, .string t] w fun e w' => e = .returned (.bool true) ∧ Below w.heap.size w w' := by
  have hs' := hs
  have ht' := ht
  unfold maxLen at hs' ht'
  go_enter Try.func5, Try.ntmps5
  go_wp2_with fail
  refine (bytes17_any s t hs ht w).mono ?_
  rintro e w' ⟨b, rfl, hb, rfl⟩
  cases b
  · go_wp2
    go_ret
    exact ⟨rfl, Below.refl _ _⟩
  have hsum := hb rfl
  clear hb
  go_wp2_with fail
  refine (validName_any s hs _).mono ?_
  rintro e w' ⟨b, rfl, hb, rfl⟩
  cases b
  · go_wp2
    go_ret
    exact ⟨rfl, Below.refl _ _⟩
  obtain ⟨zs, N, eN, lN⟩ := hb rfl
  clear hb
  go_wp2_with fail
  refine (validName_any t ht _).mono ?_
  rintro e w' ⟨b, rfl, hb, rfl⟩
  cases b
  · go_wp2
    go_ret
    exact ⟨rfl, Below.refl _ _⟩
  obtain ⟨zt, A, eA, lA⟩ := hb rfl
  clear hb hs ht hs' ht'
  have EN : Hid (s.data.toList = enc N) := eN
  have EA : Hid (t.data.toList = enc A) := eA
  clear eN eA
  go_wp2_with fail
  refine (zzkey_any s N EN.out lN zs _).mono ?_
  rintro e w1 ⟨v1, rfl, own1, bel1⟩
  go_wp2_with fail
  refine (zzkey_any t A EA.out lA zt _).mono ?_
  rintro e w2 ⟨v2, rfl, own2, bel2⟩
  have k1 := key_length N
  have k2 := key_length A
  rw [← EN.out, ← Lib.size_eq] at k1
  rw [← EA.out, ← Lib.size_eq] at k2
  obtain ⟨g1, cap1, e1, -, -, l1, at1⟩ := own_at own1 (by omega)
  obtain ⟨g2, cap2, e2, -, -, l2, at2⟩ := own_at own2 (by omega)
  subst e1
  subst e2
  have AT1 : Hid (At w2 g1 (key N)) := at1.below bel2 l1
  have AT2 : Hid (At w2 g2 (key A)) := at2
  have BEL : Hid (Below w.heap.size w w2) := bel1.trans (bel2.mono bel1.size)
  obtain ⟨n1, hn1⟩ : ∃ n, (key N).length = n := ⟨_, rfl⟩
  obtain ⟨n2, hn2⟩ : ∃ n, (key A).length = n := ⟨_, rfl⟩
  rw [hn1] at k1 ⊢
  rw [hn2] at k2 ⊢
  have HN1 : Hid ((key N).length = n1) := hn1
  have HN2 : Hid ((key A).length = n2) := hn2
  clear own1 own2 bel1 bel2 at1 at2 hn1 hn2
  go_wp2_with fail
  refine (compareBytes_any (key N) (key A) g1 g2 cap1 cap2 n1 n2 HN1.out HN2.out (by omega) (by omega) _ (by exact AT1.out) (by exact AT2.out)).mono ?_
  rintro e w3 ⟨rfl, n3, rfl⟩
  rw [cmp_key N A lN lA]
  go_wp2_with fail
  refine (canon_any s t N A EN.out EA.out lN lA zs zt _).mono ?_
  rintro e w4 ⟨rfl, hb4⟩
  have HB4 : Hid (Below w.heap.size w w4) := (below_drewN BEL.out n3).trans (hb4.mono (by have := BEL.out.size; simpa using this))
  clear hb4
  go_wp2
  go_ret
  exact ⟨rfl, HB4.out⟩

end Go.Proofs.Qxb6000092a
