/-
  Seat b6000092a: hasPrefix; the law FnInZoneAgreesWithKeyPrefix.
-/
import Derived.Test.Qxb6000092aWalks9
namespace Go.Proofs.Qxb6000092a
open Go.RowKit

/-- The cells from the head of block g on hold the bytes l. -/
def At (w : World) (g : Nat) (l : List UInt8) : Prop := ∀ i c, l[i]? = some c → w.cell? ⟨g, i, none⟩ = some (.int .u8 (c.toNat : Int))

theorem own_at {base : Nat} {w : World} {v : Value} {l : List UInt8} (h : OwnsB base w v l) (hl : 1 ≤ l.length) : ∃ g cap, v = .slice (some ⟨g, 0, none⟩) l.length cap ∧ l.length ≤ cap ∧ cap ≤ maxLen ∧ g < w.heap.size ∧ At w g l := by
  have h2 := h.2
  rcases h2 with ⟨_, h0⟩ | ⟨g, cap, cur, rfl, hb, hg, hnc, hcm, hcs, htake⟩
  · omega
  · refine ⟨g, cap, rfl, hnc, hcm, (Array.getElem?_eq_some_iff.1 hg).1, fun i c hc => ?_⟩
    have hi : i < l.length := (List.getElem?_eq_some_iff.1 hc).1
    rw [World.ownsRow.cellAt h i (by omega)]
    simp [uvs, hc]
theorem At.below {w w' : World} {g B : Nat} {l : List UInt8} (h : At w g l) (hb : Below B w w') (hg : g < B) : At w' g l := fun i c hc => (hb.cell (p := ⟨g, i, none⟩) hg).trans (h i c hc)

set_option maxHeartbeats 1000000 in
theorem hasPrefix_any (S P : List UInt8) (g1 g2 c1 c2 nS nP : Nat) (hS : S.length = nS) (hP : P.length = nP) (bS : nS ≤ 1000) (_bP : nP ≤ 1000) (w : World) (a1 : At w g1 S) (a2 : At w g2 P) :
    Calls Try.prog 11 #[.slice (some ⟨g1, 0, none⟩) nS c1, .slice (some ⟨g2, 0, none⟩) nP c2] w fun e w' => e = .returned (.bool (pre S P)) ∧ ∃ n, w' = w.drewN n := by
  have HS : Hid (S.length = nS) := hS
  have HP : Hid (P.length = nP) := hP
  have A1 : Hid (At w g1 S) := a1
  have A2 : Hid (At w g2 P) := a2
  clear hS hP a1 a2
  by_cases hlt : nS < nP
  · go_enter Try.func11, Try.ntmps11
    go_wp2
    go_ret
    refine ⟨ret_bool ?_, 0, rfl⟩
    symm
    unfold pre
    rw [decide_eq_false_iff_not, HS.out, HP.out]
    rintro ⟨h, _⟩
    omega
  · go_enter Try.func11, Try.ntmps11
    go_wp2
    go_loopw [5] (fun v wr => ∃ k : Nat, v = .int .i64 k ∧ k ≤ nP ∧ S.take k = P.take k ∧ ∃ n, wr = w.drewN n) (fun v _ => nP - (intOf v).toNat)
    case atStart => exact ⟨0, rfl, Nat.zero_le _, rfl, 0, rfl⟩
    case round =>
      obtain ⟨k, rfl, hk, hpre, n, rfl⟩ := hrel
      have HPRE : Hid (S.take k = P.take k) := hpre
      clear hpre
      by_cases hkn : k < nP
      · obtain ⟨x, hx⟩ : ∃ x, S[k]? = some x := ⟨_, List.getElem?_eq_getElem (by rw [HS.out]; omega)⟩
        obtain ⟨y, hy⟩ : ∃ y, P[k]? = some y := ⟨_, List.getElem?_eq_getElem (by rw [HP.out]; omega)⟩
        have e1 := A1.out k x hx
        have e2 := A2.out k y hy
        have HX : Hid (S[k]? = some x) := hx
        have HY : Hid (P[k]? = some y) := hy
        have hks : k < nS := by omega
        clear hx hy
        by_cases hxy : x = y
        · have hne : ((x.toNat : Int) != (y.toNat : Int)) = false := by simp [hxy]
          have HXY : Hid (x = y) := hxy
          clear hxy
          go_wp2
          go_quiet (fail)
          go_wp2
          go_roundw
          case rel => exact ⟨k + 1, by go_num, by omega, by rw [List.take_add_one, List.take_add_one, HPRE.out, HX.out, HY.out, HXY.out], _, rfl⟩
          case measure => simp [intOf]; omega
        · have hne : ((x.toNat : Int) != (y.toNat : Int)) = true := by
            have : x.toNat ≠ y.toNat := fun h => hxy (UInt8.toNat_inj.1 h)
            simp; omega
          have HXY : Hid (¬ x = y) := hxy
          clear hxy
          go_wp2
          go_quiet (fail)
          go_wp2
          go_ret
          refine ⟨ret_bool ?_, _, by rw [World.drewN_drewN]⟩
          symm
          unfold pre
          rw [decide_eq_false_iff_not]
          rintro ⟨_, h⟩
          apply HXY.out
          have h2 := congrArg (fun l : List UInt8 => l[k]?) h
          simp only [List.getElem?_take] at h2
          rw [if_pos (by rw [HP.out]; exact hkn), HX.out, HY.out] at h2
          simpa using h2
      · go_wp2
        go_ret
        refine ⟨ret_bool ?_, _, rfl⟩
        symm
        unfold pre
        rw [decide_eq_true_iff, HS.out, HP.out]
        refine ⟨by omega, ?_⟩
        have h := HPRE.out
        have e : k = nP := by omega
        rw [e] at h
        rw [h, List.take_of_length_le (by rw [HP.out]; exact Nat.le_refl _)]

/-- ZZappendNameKey, onto nil. -/
theorem zzkey_any (s : ByteArray) (N : List (List UInt8)) (hs : s.data.toList = enc N) (hN : Labs N) (bs' : s.size ≤ 255) (w : World) :
    Calls Try.prog 14 #[.slice none 0 0, .string s] w (KeyPost (key N) w) := by
  have HS : Hid (s.data.toList = enc N) := hs
  clear hs
  go_enter Try.func14, Try.ntmps14
  go_wp2_with fail
  refine (key_any s N HS.out hN bs' w).mono ?_
  rintro e w' ⟨v, rfl, h1, h2⟩
  go_wp2
  go_ret
  exact ⟨_, rfl, h1, h2⟩

set_option maxHeartbeats 1000000 in
theorem law_keyp (s t : ByteArray) (hs : s.size ≤ maxLen) (ht : t.size ≤ maxLen) (w : World) :
    Calls Try.prog 7 #[.string s, .string t] w fun e w' => e = .returned (.bool true) ∧ Below w.heap.size w w' := by
  have hs' := hs
  have ht' := ht
  unfold maxLen at hs' ht'
  go_enter Try.func7, Try.ntmps7
  go_wp2_with fail
  refine (bytes22_any s t hs ht w).mono ?_
  rintro e w' ⟨b, rfl, hb, rfl⟩
  cases b
  · go_wp2
    go_ret
    exact ⟨rfl, Below.refl _ _⟩
  have hsum := hb rfl
  clear hb
  go_wp2_with fail
  refine (validName_any s hs _).mono ?_
  rintro e w' ⟨b, rfl, hb, rfl⟩
  cases b
  · go_wp2
    go_ret
    exact ⟨rfl, Below.refl _ _⟩
  obtain ⟨zs, N, eN, lN⟩ := hb rfl
  clear hb
  go_wp2_with fail
  refine (validName_any t ht _).mono ?_
  rintro e w' ⟨b, rfl, hb, rfl⟩
  cases b
  · go_wp2
    go_ret
    exact ⟨rfl, Below.refl _ _⟩
  obtain ⟨zt, A, eA, lA⟩ := hb rfl
  clear hb hs ht hs' ht'
  have EN : Hid (s.data.toList = enc N) := eN
  have EA : Hid (t.data.toList = enc A) := eA
  clear eN eA
  go_wp2_with fail
  refine (zzkey_any s N EN.out lN zs _).mono ?_
  rintro e w1 ⟨v1, rfl, own1, bel1⟩
  go_wp2_with fail
  refine (zzkey_any t A EA.out lA zt _).mono ?_
  rintro e w2 ⟨v2, rfl, own2, bel2⟩
  have k1 := key_length N
  have k2 := key_length A
  rw [← EN.out, ← Lib.size_eq] at k1
  rw [← EA.out, ← Lib.size_eq] at k2
  obtain ⟨g1, cap1, e1, -, -, l1, at1⟩ := own_at own1 (by omega)
  obtain ⟨g2, cap2, e2, q2, q3, l2, at2⟩ := own_at own2 (by omega)
  subst e1
  subst e2
  have AT1 : Hid (At w2 g1 (key N)) := at1.below bel2 l1
  have AT2 : Hid (At w2 g2 (keyR A)) := fun i c hc => at2 i c (by unfold key; rw [List.getElem?_append_left (List.getElem?_eq_some_iff.1 hc).1]; exact hc)
  have BEL : Hid (Below w.heap.size w w2) := bel1.trans (bel2.mono bel1.size)
  obtain ⟨n1, hn1⟩ : ∃ n, (key N).length = n := ⟨_, rfl⟩
  obtain ⟨n2, hn2⟩ : ∃ n, (keyR A).length = n := ⟨_, rfl⟩
  have hn3 : (key A).length = n2 + 2 := by unfold key; rw [List.length_append, hn2]; rfl
  rw [hn1] at k1 ⊢
  rw [hn3] at k2 q2 ⊢
  have HN1 : Hid ((key N).length = n1) := hn1
  have HN2 : Hid ((keyR A).length = n2) := hn2
  unfold maxLen at q3
  clear own1 own2 bel1 bel2 at1 at2 hn1 hn2 hn3
  go_wp2_with fail
  refine (inZone_any s t N A EN.out EA.out lN lA zs zt _).mono ?_
  rintro e w3 ⟨rfl, n3, rfl⟩
  go_wp2_with fail
  refine (hasPrefix_any (key N) (keyR A) g1 g2 cap1 cap2 n1 n2 HN1.out HN2.out (by omega) (by omega) _ (by exact AT1.out) (by exact AT2.out)).mono ?_
  rintro e w4 ⟨rfl, n4, rfl⟩
  rw [want_pre N A lN lA]
  go_wp2
  go_ret
  exact ⟨rfl, below_drewN BEL.out _⟩

end Go.Proofs.Qxb6000092a
