/-
  Seat b6000092a: InZone.
-/
import Derived.Test.Qxb6000092aWalks2
import Derived.Lib.IndexBytes
namespace Go.Proofs.Qxb6000092a
open Go.RowKit

/-- Where label j begins (the root for j = N.length), and what stands there. -/
theorem at_label {s : ByteArray} {N : List (List UInt8)} (hs : s.data.toList = enc N) (hN : Labs N) {j k : Nat} (hj : j ≤ N.length) (hk : k + (enc (N.drop j)).length = s.size) :
    ∃ h : k < s.size, s.data.toList.drop k = enc (N.drop j) ∧ ((∃ hj' : j < N.length, (s[k]'h).toNat = N[j].length ∧ 1 ≤ N[j].length ∧ N[j].length ≤ 63 ∧ k + 1 + N[j].length + (enc (N.drop (j + 1))).length = s.size) ∨ (j = N.length ∧ (s[k]'h).toNat = 0 ∧ k + 1 = s.size)) := by
  have hp := enc_pos (N.drop j)
  have hlt : k < s.size := by omega
  have hsz : s.size = (enc N).length := by rw [Lib.size_eq, hs]
  have hd : s.data.toList.drop k = enc (N.drop j) := by
    rw [hs, enc_split N j]
    have hl : (encP (N.take j)).length = k := by
      have := congrArg List.length (enc_split N j)
      rw [List.length_append] at this
      omega
    rw [← hl, List.drop_left]
  have hg : (s.data.toList.drop k)[0]? = some (s[k]'hlt) := by
    rw [List.getElem?_drop, Nat.add_zero, data_get s k hlt]
  rw [hd] at hg
  refine ⟨hlt, hd, ?_⟩
  by_cases h : j < N.length
  · left
    have hb := hN N[j] (List.getElem_mem h)
    rw [List.drop_eq_getElem_cons h, enc_cons] at hg
    have e : N[j].length.toUInt8 = s[k]'hlt := by simpa using hg
    have := enc_len_drop N j h
    refine ⟨h, ?_, hb.1, hb.2, by omega⟩
    rw [← e, len_byte hb.2]
  · right
    rw [List.drop_of_length_le (by omega)] at hg hk
    have e : (0 : UInt8) = s[k]'hlt := by simpa [enc_nil] using hg
    refine ⟨by omega, by rw [← e]; rfl, by simpa [enc_nil] using hk⟩

set_option maxHeartbeats 1000000 in
theorem inZone_any (s t : ByteArray) (N A : List (List UInt8)) (hs : s.data.toList = enc N) (ht : t.data.toList = enc A) (hN : Labs N) (hA : Labs A) (bs : s.size ≤ 255) (bt : t.size ≤ 255) (w : World) :
    Calls Try.prog 21 #[.string s, .string t] w fun e w' => e = .returned (.bool (want N A)) ∧ ∃ n, w' = w.drewN n := by
  have hts : (enc A).length = t.size := by rw [Lib.size_eq, ht]
  have hss : (enc N).length = s.size := by rw [Lib.size_eq, hs]
  have HS : Hid (s.data.toList = enc N) := hs
  have HT : Hid (t.data.toList = enc A) := ht
  have HTS : Hid ((enc A).length = t.size) := hts
  have HSS : Hid ((enc N).length = s.size) := hss
  clear hs ht hts hss
  go_enter Try.func21, Try.ntmps21
  go_wp2
  go_loopw [5] (fun v wr => ∃ j k : Nat, v = .int .i64 k ∧ k ≤ s.size ∧ ((j ≤ N.length ∧ k + (enc (N.drop j)).length = s.size) ∨ (j = N.length + 1 ∧ k = s.size)) ∧ (∀ i, i < j → (enc (N.drop i)).length ≠ (enc A).length) ∧ ∃ n, wr = w.drewN n) (fun v _ => s.size - (intOf v).toNat)
  case atStart => exact ⟨0, 0, rfl, Nat.zero_le _, Or.inl ⟨Nat.zero_le _, by simpa using HSS.out⟩, fun i hi => absurd hi (Nat.not_lt_zero _), 0, rfl⟩
  case round =>
    obtain ⟨j, k, rfl, hks, hjk, hne, n, rfl⟩ := hrel
    have HNE : Hid (∀ i, i < j → (enc (N.drop i)).length ≠ (enc A).length) := hne
    clear hne
    rcases hjk with ⟨hj, hk⟩ | ⟨hj, hk⟩
    · obtain ⟨hlt, hd, hcase⟩ := at_label HS.out hN hj hk
      have HK : Hid (k + (enc (N.drop j)).length = s.size) := hk
      have HD : Hid (s.data.toList.drop k = enc (N.drop j)) := hd
      have hlen : (enc (N.drop j)).length = s.size - k := by omega
      have HL : Hid ((enc (N.drop j)).length = s.size - k) := hlen
      clear hk hd hlen
      by_cases h1 : s.size - k < t.size
      · clear hcase
        go_wp2
        go_ret
        refine ⟨ret_bool ?_, _, rfl⟩
        exact (inz_miss hN hA HNE.out (Or.inr (by rw [HL.out, HTS.out]; exact h1))).symm
      · by_cases h2 : s.size - k = t.size
        · clear hcase
          have h3 : t.size ≤ s.size - k := by omega
          have h4 : s.size - k ≤ t.size := by omega
          have H2 : Hid (s.size - k = t.size) := h2
          clear h2
          go_wp2_with fail
          refine (equalFold_any (s.extract k s.size) t (by rw [← H2.out, ByteArray.size_extract]; omega) (by rw [ByteArray.size_extract]; unfold maxLen; omega) _).mono ?_
          rintro e w' ⟨rfl, m, rfl⟩
          have hr : decide (fold (s.extract k s.size).data.toList = fold t.data.toList) = want N A := by
            rw [Lib.extract_to_end, HD.out, HT.out]
            exact inz_hit hN hA hj (by rw [HL.out, HTS.out]; exact H2.out)
          rw [hr]
          clear hr
          go_wp2
          go_ret
          exact ⟨rfl, _, rfl⟩
        · have h3 : t.size < s.size - k := by omega
          have H5 : Hid (∀ i, i < j + 1 → (enc (N.drop i)).length ≠ (enc A).length) := by
            intro i hi
            by_cases hij : i < j
            · exact HNE.out i hij
            · have : i = j := by omega
              subst this
              rw [HL.out, HTS.out]
              omega
          clear h1 h2
          rcases hcase with ⟨hj', c1, c2, c3, c4⟩ | ⟨hj', c1, c2⟩
          · have C1 : Hid (s[k].toNat = N[j].length) := c1
            have b1 : s[k].toNat ≤ 63 := by omega
            have C4 : Hid (k + 1 + s[k].toNat + (enc (N.drop (j + 1))).length = s.size) := by unfold Hid; rw [c1]; exact c4
            have b2 : k + 1 + s[k].toNat ≤ s.size := by omega
            clear c1 c4
            go_wp2
            go_roundw
            case rel => exact ⟨j + 1, k + 1 + s[k].toNat, by go_num, by omega, Or.inl ⟨by omega, C4.out⟩, H5.out, _, rfl⟩
            case measure => simp [intOf]; omega
          · have b1 : s[k].toNat ≤ 0 := by omega
            have C1 : Hid (s[k].toNat = 0) := c1
            clear c1
            go_wp2
            go_roundw
            case rel => exact ⟨j + 1, k + 1 + s[k].toNat, by go_num, by omega, Or.inr ⟨by omega, by rw [C1.out]; omega⟩, H5.out, _, rfl⟩
            case measure => simp [intOf]; omega
    · go_wp2
      go_ret
      exact ⟨ret_bool (inz_miss hN hA HNE.out (Or.inl (by omega))).symm, _, rfl⟩

end Go.Proofs.Qxb6000092a
