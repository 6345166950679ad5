/-
  Seat b6000092a: the law FnInZoneIsLabelSuffix.
-/
import Derived.Test.Qxb6000092aWalks6
import Derived.Deep.RegionHeld3
namespace Go.Proofs.Qxb6000092a
open Go.RowKit

/-- The shape of a slice of labels. -/
theorem own_shape {w : World} {base : Nat} {v : Value} {N : List (List UInt8)} (h : w.ownsRow base 9 1 v N.length (strs N)) :
    ∃ (g : Option Addr) (cap : Nat), v = .slice g N.length cap ∧ ∀ i, i < N.length → ∃ b, g = some ⟨b, 0, none⟩ ∧ b < w.heap.size ∧ w.cell? ⟨b, i, none⟩ = some (.string (bs (N.getD i []))) := by
  have h2 := h.2
  rcases h2 with ⟨rfl, h0⟩ | ⟨g, cap, cur, rfl, hb, hg, hnc, hcm, hcs, htake⟩
  · exact ⟨none, 0, by rw [h0], fun i hi => by omega⟩
  · refine ⟨some ⟨g, 0, none⟩, cap, rfl, fun i hi => ⟨g, rfl, (Array.getElem?_eq_some_iff.1 hg).1, ?_⟩⟩
    rw [h.cellAt i (by omega)]
    simp [strs, List.getElem?_eq_getElem hi]

theorem suf_keep {b1 b2 p q : Nat} {x y : Value} {w2 W w' : World} (h1 : b1 < w2.heap.size) (h2 : b2 < w2.heap.size) (hb : Below W.heap.size W w')
    (hS : W.cell? ⟨b1, p, none⟩ = some x ∧ W.cell? ⟨b2, q, none⟩ = some y ∧ Below w2.heap.size w2 W) : w'.cell? ⟨b1, p, none⟩ = some x ∧ w'.cell? ⟨b2, q, none⟩ = some y ∧ Below w2.heap.size w2 w' := by
  obtain ⟨s1, s2, s3⟩ := hS
  have := s3.size
  exact ⟨(hb.cell (p := ⟨b1, p, none⟩) (by show b1 < _; omega)).trans s1, (hb.cell (p := ⟨b2, q, none⟩) (by show b2 < _; omega)).trans s2, s3.trans (hb.mono this)⟩

theorem lab_size {N : List (List UInt8)} (h : Labs N) (i : Nat) : (bs (N.getD i [])).size ≤ 1048576 := by
  rw [bs_size]
  by_cases hi : i < N.length
  · have := h N[i] (List.getElem_mem hi)
    simp [List.getElem?_eq_getElem hi]
    omega
  · simp [List.getElem?_eq_none (Nat.le_of_not_lt hi)]

theorem str_eq (x y : List UInt8) : ((bs x).toList == (bs y).toList) = (x == y) := by
  rw [Lib.toList_data, Lib.toList_data]
  rfl

set_option maxHeartbeats 1000000 in
theorem law_suffix (s t : ByteArray) (hs : s.size ≤ maxLen) (ht : t.size ≤ maxLen) (w : World) :
    Calls Try.prog 6 #[.string s, .string t] w fun e w' => e = .returned (.bool true) ∧ Below w.heap.size w w' := by
  have hs' := hs
  have ht' := ht
  unfold maxLen at hs' ht'
  go_enter Try.func6, Try.ntmps6
  go_wp2_with fail
  refine (bytes20_any s t hs ht w).mono ?_
  rintro e w' ⟨b, rfl, hb, rfl⟩
  cases b
  · go_wp2
    go_ret
    exact ⟨rfl, Below.refl _ _⟩
  have hsum := hb rfl
  clear hb
  go_wp2_with fail
  refine (validName_any s hs _).mono ?_
  rintro e w' ⟨b, rfl, hb, rfl⟩
  cases b
  · go_wp2
    go_ret
    exact ⟨rfl, Below.refl _ _⟩
  obtain ⟨zs, N, eN, lN⟩ := hb rfl
  clear hb
  go_wp2_with fail
  refine (validName_any t ht _).mono ?_
  rintro e w' ⟨b, rfl, hb, rfl⟩
  cases b
  · go_wp2
    go_ret
    exact ⟨rfl, Below.refl _ _⟩
  obtain ⟨zt, A, eA, lA⟩ := hb rfl
  clear hb hs ht hs' ht'
  have EN : Hid (s.data.toList = enc N) := eN
  have EA : Hid (t.data.toList = enc A) := eA
  clear eN eA
  go_wp2_with fail
  refine (labelsOf_any s N EN.out lN zs _).mono ?_
  rintro e w1 ⟨v1, rfl, own1, bel1⟩
  go_wp2_with fail
  refine (labelsOf_any t A EA.out lA zt _).mono ?_
  rintro e w2 ⟨v2, rfl, own2, bel2⟩
  obtain ⟨g1, cap1, e1, f1⟩ := own_shape own1
  obtain ⟨g2, cap2, e2, f2⟩ := own_shape own2
  subst e1
  subst e2
  have F1 : Hid (∀ i, i < N.length → ∃ b, g1 = some ⟨b, 0, none⟩ ∧ b < w2.heap.size ∧ w2.cell? ⟨b, i, none⟩ = some (.string (bs (N.getD i [])))) := by
    intro i hi
    obtain ⟨b, h1, h2, h3⟩ := f1 i hi
    have := bel2.size
    exact ⟨b, h1, by omega, (bel2.cell (p := ⟨b, i, none⟩) h2).trans h3⟩
  have F2 : Hid (∀ i, i < A.length → ∃ b, g2 = some ⟨b, 0, none⟩ ∧ b < w2.heap.size ∧ w2.cell? ⟨b, i, none⟩ = some (.string (bs (A.getD i [])))) := f2
  have BEL : Hid (Below w.heap.size w w2) := bel1.trans (bel2.mono bel1.size)
  have lnN : N.length ≤ 255 := by have := len_le_enc N; rw [← EN.out, ← Lib.size_eq] at this; omega
  have lnA : A.length ≤ 255 := by have := len_le_enc A; rw [← EA.out, ← Lib.size_eq] at this; omega
  clear own1 own2 bel1 bel2 f1 f2
  obtain ⟨nN, hnN⟩ : ∃ n, N.length = n := ⟨_, rfl⟩
  obtain ⟨nA, hnA⟩ : ∃ n, A.length = n := ⟨_, rfl⟩
  rw [hnN] at lnN F1 ⊢
  rw [hnA] at lnA F2 ⊢
  have NA : Hid (A.length = nA) := hnA
  clear hnA
  by_cases hle : nA ≤ nN
  · obtain ⟨d, rfl⟩ := Nat.exists_eq_add_of_le hle
    have NN : Hid (N.length = nA + d) := hnN
    clear hnN
    have hsub : (nA : Int) + (d : Int) - (nA : Int) = (d : Int) := by omega
    have hdec : decide ((nA : Int) ≤ (nA : Int) + (d : Int)) = true := by simp; omega
    by_cases h0 : nA = 0
    · subst h0
      have hw : want N A = true := by
        rw [want_iff, NA.out]
        exact ⟨Nat.zero_le _, fun i hi => absurd hi (Nat.not_lt_zero _)⟩
      clear F1 F2 hsub hdec
      go_wp2_with fail
      refine wp_loop_rounds 1 ?_
      rw [rounds_succ]
      go_wp2_with fail
      refine (inZone_any s t N A EN.out EA.out lN lA zs zt _).mono ?_
      rintro e w3 ⟨rfl, n3, rfl⟩
      rw [hw]
      go_wp2
      go_ret
      exact ⟨rfl, below_drewN BEL.out _⟩
    · obtain ⟨b1, e1, b1lt, -⟩ := F1.out 0 (by omega)
      obtain ⟨b2, e2, b2lt, -⟩ := F2.out 0 (by omega)
      subst e1
      subst e2
      go_wp2_with fail
      go_loopw [7, 9] (fun v i wr => ∃ k : Nat, i = .int .i64 k ∧ k ≤ nA ∧ v = .bool true ∧ (∀ j, j < k → fold (N.getD (d + j) []) = fold (A.getD j [])) ∧ Below w2.heap.size w2 wr) (fun _ i _ => nA - (intOf i).toNat)
      case atStart => exact ⟨0, rfl, Nat.zero_le _, rfl, fun j hj => absurd hj (Nat.not_lt_zero _), Below.refl _ _⟩
      case round =>
        obtain ⟨k, rfl, hk, rfl, hall, hbel⟩ := hrel
        have HALL : Hid (∀ j, j < k → fold (N.getD (d + j) []) = fold (A.getD j [])) := hall
        clear hall
        by_cases hlt : k < nA
        · obtain ⟨b1', e1, -, c1⟩ := F1.out (d + k) (by omega)
          obtain ⟨b2', e2, -, c2⟩ := F2.out k hlt
          simp only [Option.some.injEq, Addr.mk.injEq, and_true] at e1 e2
          subst e1
          subst e2
          have c1' := (hbel.cell (p := ⟨b1, d + k, none⟩) b1lt).trans c1
          have c2' := (hbel.cell (p := ⟨b2, k, none⟩) b2lt).trans c2
          clear c1 c2
          have HB1 : Hid ((bs (N.getD (d + k) [])).size ≤ 1048576) := lab_size lN _
          have HB2 : Hid ((bs (A.getD k [])).size ≤ 1048576) := lab_size lA _
          obtain ⟨x, hx⟩ : ∃ x, N.getD (d + k) [] = x := ⟨_, rfl⟩
          obtain ⟨y, hy⟩ : ∃ y, A.getD k [] = y := ⟨_, rfl⟩
          rw [hx] at c1' HB1
          rw [hy] at c2' HB2
          have HX : Hid (N.getD (d + k) [] = x) := hx
          have HY : Hid (A.getD k [] = y) := hy
          clear hx hy
          have i1 : IntKind.i64.wrap ((d : Int) + (k : Int)) = (d : Int) + (k : Int) := by rw [IntKind.wrap_i64]; omega
          have i2 : (0 : Int) ≤ (d : Int) + (k : Int) := by omega
          have i3 : (d : Int) + (k : Int) < (nA : Int) + (d : Int) := by omega
          have i4 : (k : Int) < (nA : Int) := by omega
          have i5 : ((d : Int) + (k : Int)).toNat = d + k := by omega
          go_wp2_with fail
          go_region_held3 (fun w' => w'.cell? ⟨b1, d + k, none⟩ = some (.string (bs x)) ∧ w'.cell? ⟨b2, k, none⟩ = some (.string (bs y)) ∧ Below w2.heap.size w2 w') (first | exact ⟨c1', c2', below_drewN hbel 1⟩ | exact suf_keep b1lt b2lt (by assumption) (by assumption))
            (first | (go_at_call 16; refine (lowerStr_any _ ?_ _).mono ?_; (first | exact HB1.out | exact HB2.out); rintro e w' ⟨rfl, hbw⟩))
          go_wp2_with fail
          · have hne : (!(bs (fold (bs x).data.toList)).toList == (bs (fold (bs y).data.toList)).toList) = true := by assumption
            have hS := ‹w'.cell? ⟨b1, d + k, none⟩ = some (.string (bs x)) ∧ w'.cell? ⟨b2, k, none⟩ = some (.string (bs y)) ∧ Below w2.heap.size w2 w'›
            have hB := hS.2.2
            have hw : want N A = false := by
              rw [Bool.eq_false_iff]
              intro h
              have h2 := ((want_iff N A).1 h).2 k (by rw [NA.out]; exact hlt)
              rw [NA.out, NN.out, Nat.add_sub_cancel_left, HX.out, HY.out] at h2
              rw [str_eq, bs_data, bs_data, h2] at hne
              simp at hne
            refine (inZone_any s t N A EN.out EA.out lN lA zs zt _).mono ?_
            rintro e w3 ⟨rfl, n3, rfl⟩
            rw [hw]
            go_wp2
            go_ret
            exact ⟨rfl, below_drewN (BEL.out.trans (hB.mono BEL.out.size)) _⟩
          · have heq : (!(bs (fold (bs x).data.toList)).toList == (bs (fold (bs y).data.toList)).toList) = false := by assumption
            have hS := ‹w'.cell? ⟨b1, d + k, none⟩ = some (.string (bs x)) ∧ w'.cell? ⟨b2, k, none⟩ = some (.string (bs y)) ∧ Below w2.heap.size w2 w'›
            have hxy : fold x = fold y := by
              rw [str_eq, bs_data, bs_data] at heq
              simpa using heq
            go_roundw
            case rel =>
              refine ⟨k + 1, by go_num, by omega, rfl, ?_, hS.2.2⟩
              intro j hj
              by_cases hjk : j < k
              · exact HALL.out j hjk
              · have : j = k := by omega
                subst this
                rw [HX.out, HY.out]
                exact hxy
            case measure => simp [intOf]; omega
        · have hk2 : k = nA := by omega
          have hw : want N A = true := by
            rw [want_iff, NA.out, NN.out]
            refine ⟨by omega, ?_⟩
            rw [Nat.add_sub_cancel_left, ← hk2]
            exact HALL.out
          have HB : Hid (Below w2.heap.size w2 wr) := hbel
          clear hk2 hbel
          go_wp2_with fail
          refine (inZone_any s t N A EN.out EA.out lN lA zs zt _).mono ?_
          rintro e w3 ⟨rfl, n3, rfl⟩
          rw [hw]
          go_wp2
          go_ret
          exact ⟨rfl, below_drewN (BEL.out.trans (HB.out.mono BEL.out.size)) _⟩
  · have hw : want N A = false := by
      rw [Bool.eq_false_iff]
      intro h
      have h2 := ((want_iff N A).1 h).1
      rw [NA.out, hnN] at h2
      exact hle h2
    clear hnN
    go_wp2_with fail
    refine (inZone_any s t N A EN.out EA.out lN lA zs zt _).mono ?_
    rintro e w3 ⟨rfl, n3, rfl⟩
    rw [hw]
    go_wp2
    go_ret
    exact ⟨rfl, below_drewN BEL.out _⟩

end Go.Proofs.Qxb6000092a
