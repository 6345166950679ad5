/-
  Seat b6000092a: appendNameKey onto nil.
-/
import Derived.Test.Qxb6000092aWalks8
namespace Go.Proofs.Qxb6000092a
open Go.RowKit

theorem info5 : (Try.prog.info? 5).map (fun i => (i.zero, i.size, i.bytes)) = some (some (.int .u8 0), 1, 1) := by kernel_rfl

/-- Bytes as a list of cells. -/
def uvs (l : List UInt8) : List Value := l.map fun c => Value.int .u8 (c.toNat : Int)
theorem uvs_append (x y : List UInt8) : uvs (x ++ y) = uvs x ++ uvs y := by simp [uvs]

/-- The slice v owns the bytes l. -/
def OwnsB (base : Nat) (wr : World) (v : Value) (l : List UInt8) : Prop := wr.ownsRow base 5 1 v l.length (uvs l)

/-- It answers a slice that owns the bytes l, in memory of its own. -/
def KeyPost (l : List UInt8) (w : World) (e : Ending) (w' : World) : Prop := ∃ v, e = .returned v ∧ OwnsB w.heap.size w' v l ∧ Below w.heap.size w w'

/-- 'append(b, c, d)' onto a slice of the call's own. -/
theorem app2 {ops : Array Oper} {rest : List Oper} {o : Oper} {a : Act} {Q : Exit → Act → World → Prop} (hgd : o.guard = none) (s x : Operand)
    (ho : o.op = .call { callee := .builtin .append, args := #[s, x], argTypes := #[22, 22] }) (base : Nat) (W : World) (v : Value) (l : List UInt8) (hs : a.eval s = v) (hown : OwnsB base W v l)
    (c d : UInt8) (vc vd : Int) (hc : vc = (c.toNat : Int)) (hd : vd = (d.toNat : Int)) (hx : a.eval x = .slice (some ⟨W.heap.size, 0, none⟩) 2 2) (hlen : l.length ≤ 1000) (hbase : base ≤ W.heap.size)
    (h : ∀ v' w', OwnsB base w' v' (l ++ [c, d]) → Below base W w' → wpList Try.prog ops Q rest (a.put o.dst v') w') : wpList Try.prog ops Q (o :: rest) a (W.alloc (.cells #[.int .u8 vc, .int .u8 vd] 5)) := by
  obtain ⟨i0, hi, hz0, hz1, hz2⟩ := info_parts info5
  subst hc
  subst hd
  refine wpList_append_own _ hgd s x 22 ho base 5 i0 (.int .u8 0) 1 1 Try.underlying22 hi hz0 hz1 hz2 rfl (by decide) v l.length (uvs l) hs (hown.alloc _) ⟨W.heap.size, 0, none⟩ 2 2 (uvs [c, d]) hx rfl ?_ ?_ (by unfold maxLen; omega) (by omega) (by simp; omega) ?_
  · exact cell_two_new W (.int .u8 (c.toNat : Int)) (.int .u8 (d.toNat : Int)) 5
  · intro u hu
    simp [uvs] at hu
    rcases hu with rfl | rfl <;> rfl
  · intro v' w' h1 h2 _
    refine h v' w' ?_ (((Below.refl base W).alloc hbase _).grown h2 (by simp; omega) (own_base hown))
    unfold OwnsB
    rw [uvs_append, List.length_append]
    exact h1
/-- 'append(b, c)'. -/
theorem app1 {ops : Array Oper} {rest : List Oper} {o : Oper} {a : Act} {Q : Exit → Act → World → Prop} (hgd : o.guard = none) (s x : Operand)
    (ho : o.op = .call { callee := .builtin .append, args := #[s, x], argTypes := #[22, 22] }) (base : Nat) (W : World) (v : Value) (l : List UInt8) (hs : a.eval s = v) (hown : OwnsB base W v l)
    (c : UInt8) (vc : Int) (hc : vc = (c.toNat : Int)) (hx : a.eval x = .slice (some ⟨W.heap.size, 0, none⟩) 1 1) (hlen : l.length ≤ 1000) (hbase : base ≤ W.heap.size)
    (h : ∀ v' w', OwnsB base w' v' (l ++ [c]) → Below base W w' → wpList Try.prog ops Q rest (a.put o.dst v') w') : wpList Try.prog ops Q (o :: rest) a (W.alloc (.cells #[.int .u8 vc] 5)) := by
  obtain ⟨i0, hi, hz0, hz1, hz2⟩ := info_parts info5
  subst hc
  refine wpList_append_own _ hgd s x 22 ho base 5 i0 (.int .u8 0) 1 1 Try.underlying22 hi hz0 hz1 hz2 rfl (by decide) v l.length (uvs l) hs (hown.alloc _) ⟨W.heap.size, 0, none⟩ 1 1 (uvs [c]) hx rfl ?_ ?_ (by unfold maxLen; omega) (by omega) (by simp; omega) ?_
  · exact cell_one_new W (.int .u8 (c.toNat : Int)) 5
  · intro u hu
    simp [uvs] at hu
    subst hu
    rfl
  · intro v' w' h1 h2 _
    refine h v' w' ?_ (((Below.refl base W).alloc hbase _).grown h2 (by simp; omega) (own_base hown))
    unfold OwnsB
    rw [uvs_append, List.length_append]
    exact h1

theorem key_bound {N : List (List UInt8)} {sz i : Nat} (h : (enc N).length = sz) (hs : sz ≤ 255) (hi : i < N.length) (r : Nat) : (keyR (N.drop (i + 1)) ++ esc (N[i].take r)).length ≤ 1000 := by
  have h1 := keyR_length (N.drop (i + 1))
  have h2 := esc_length (N[i].take r)
  have h3 : (N[i].take r).length ≤ N[i].length := by rw [List.length_take]; omega
  have h4 := enc_len_drop N i hi
  have h5 := enc_len_mono N 0 i (Nat.zero_le _)
  rw [List.drop_zero] at h5
  have h6 : (encP (N.drop (i + 1))).length ≤ (enc (N.drop (i + 1))).length := by simp [enc]
  rw [List.length_append]
  omega

theorem label_byte {s : ByteArray} {N : List (List UInt8)} {p i r : Nat} (hd : s.data.toList.drop p = enc (N.drop i)) (hi : i < N.length) (hb : p + 1 + r < s.size) (hr : r < N[i].length) : s[p + 1 + r] = N[i][r] := by
  have h1 : (s.data.toList.drop p)[1 + r]? = some s[p + 1 + r] := by
    rw [List.getElem?_drop, ← Nat.add_assoc, data_get s _ hb]
  rw [hd, List.drop_eq_getElem_cons hi, enc_cons, Nat.add_comm 1 r, List.getElem?_cons_succ, List.getElem?_append_left hr, List.getElem?_eq_getElem hr] at h1
  simpa using h1.symm

theorem esc_step {x : List UInt8} {r : Nat} (hr : r < x.length) : esc (x.take (r + 1)) = esc (x.take r) ++ escB x[r] := by
  rw [List.take_succ_eq_append_getElem hr, esc_append]
  simp [esc]

theorem own_mono {b b' : Nat} {w : World} {v : Value} {l : List UInt8} (h : b' ≤ b) (ho : OwnsB b w v l) : OwnsB b' w v l := by
  refine ⟨ho.1, ?_⟩
  rcases ho.2 with h1 | ⟨g, cap, cur, h1, h2, h3⟩
  · exact Or.inl h1
  · exact Or.inr ⟨g, cap, cur, h1, by omega, h3⟩

theorem zero46 (W : World) : (zeroValue 46).run Try.prog W = .ok (.agg (ucs (List.replicate 127 0))) W := by kernel_rfl

set_option maxHeartbeats 1000000 in
theorem key_any (s : ByteArray) (N : List (List UInt8)) (hs : s.data.toList = enc N) (hN : Labs N) (bs' : s.size ≤ 255) (w : World) :
    Calls Try.prog 24 #[.slice none 0 0, .string s] w (KeyPost (key N) w) := by
  obtain ⟨i0, hi, hz0, hz1, hz2⟩ := info_parts info5
  have hss : (enc N).length = s.size := by rw [Lib.size_eq, hs]
  have HS : Hid (s.data.toList = enc N) := hs
  have HSS : Hid ((enc N).length = s.size) := hss
  have hz46 := zero46
  clear hs hss
  go_enter Try.func24, Try.ntmps24
  go_wp2_with fail
  refine (labelStarts_any s N HS.out hN bs' _ w.heap.size (Go.heap_alloc_new w _)).mono ?_
  rintro e w1 ⟨rfl, hg, hsz, hb⟩
  have hsz' : w1.heap.size = w.heap.size + 1 := by rw [hsz]; simp
  have HB : Hid (Below w.heap.size w w1) := ((Below.refl _ _).alloc (Nat.le_refl _) _).trans hb
  have HZ : Hid (w1.heap.size = w.heap.size + 1) := hsz'
  have HG : Hid (w1.heap[w.heap.size]? = some (.cells (ucs (stAt N N.length)) 46 (0, 0))) := hg
  clear hb hg hsz hsz'
  have hnl : N.length ≤ 127 := by have := two_le_enc N hN; rw [HSS.out] at this; omega
  go_wp2_with fail
  clear hz46
  go_loopw [0, 6] (fun v i wr => ∃ m : Nat, i = .int .i64 ((m : Int) - 1) ∧ m ≤ N.length ∧ OwnsB w1.heap.size wr v (keyR (N.drop m)) ∧ Below w1.heap.size w1 wr) (fun _ i _ => (intOf i + 1).toNat)
  case atStart => exact ⟨N.length, rfl, Nat.le_refl _, by rw [List.drop_length]; exact World.ownsRow_nil _ _ _ _, Below.refl _ _⟩
  case round =>
    obtain ⟨m, hi, hm, hown, hbel⟩ := hrel
    rcases m with _ | i
    · have ek : ((0 : Nat) : Int) - 1 = -1 := by omega
      rw [ek] at hi
      subst hi
      have hlen : (keyR (N.drop 0)).length ≤ 1000 := by
        have := (key_length N).2
        rw [HSS.out] at this
        simp only [key, List.length_append, List.drop_zero] at this ⊢
        omega
      have hbase : w1.heap.size ≤ wr.heap.size := hbel.size
      have HBEL : Hid (Below w1.heap.size w1 wr) := hbel
      clear ek hbel
      go_wp2_with (at_builtin; refine app2 rfl _ _ rfl w1.heap.size _ _ _ rfl hown 0 0 _ _ rfl rfl rfl hlen hbase ?_)
      intro v' w' hown' hbel'
      have R : OwnsB w.heap.size w' v' (key N) := by
        unfold key
        exact own_mono (by rw [HZ.out]; omega) hown'
      have RB : Below w.heap.size w w' := HB.out.trans ((HBEL.out.trans hbel').mono (by rw [HZ.out]; omega))
      clear hown' hbel' hown hlen hbase
      go_wp2
      go_ret
      exact ⟨_, rfl, R, RB⟩
    · have ek : ((i + 1 : Nat) : Int) - 1 = (i : Int) := by omega
      rw [ek] at hi
      subst hi
      clear ek
      obtain ⟨p, hp⟩ : ∃ p, posL N i = p := ⟨_, rfl⟩
      have hpe := posL_enc N i
      rw [HSS.out, hp] at hpe
      obtain ⟨hlt, hd, hcase⟩ := at_label HS.out hN (by omega) hpe
      rcases hcase with ⟨hj', c1, c2, c3, c4⟩ | ⟨hj', -, -⟩
      · have hcell : wr.cell? ⟨w.heap.size, i, none⟩ = some (.int .u8 (p : Int)) := by
          rw [hbel.cell (p := ⟨w.heap.size, i, none⟩) (by show w.heap.size < _; rw [HZ.out]; omega), cell_of_row w1 _ i _ 46 _ HG.out, ucs_get, stAt_get N _ i hj', hp]
          simp
          omega
        have C1 : Hid (s[p].toNat = N[i].length) := c1
        have b1 : s[p].toNat ≤ 63 := by omega
        have b0 : 1 ≤ s[p].toNat := by omega
        have b2 : p + 1 + s[p].toNat ≤ s.size := by omega
        have HD : Hid (s.data.toList.drop p = enc (N.drop i)) := hd
        have HOWN : Hid (OwnsB w1.heap.size wr u0 (keyR (N.drop (i + 1)))) := hown
        have HBEL : Hid (Below w1.heap.size w1 wr) := hbel
        clear hp hpe hd c1 c4 hown hbel
        go_wp2_with fail
        go_loopw [0, 8] (fun v j wx => ∃ r : Nat, j = .int .i64 ((p : Int) + 1 + (r : Int)) ∧ r ≤ s[p].toNat ∧ OwnsB w1.heap.size wx v (keyR (N.drop (i + 1)) ++ esc (N[i].take r)) ∧ Below w1.heap.size w1 wx) (fun _ j _ => 512 - (intOf j).toNat)
        case atStart => exact ⟨0, by simp, Nat.zero_le _, by simpa [esc] using HOWN.out, HBEL.out⟩
        case round =>
          clear hcell HOWN HBEL
          obtain ⟨r, rfl, hr, hown, hbel⟩ := hrel
          have hlen : (keyR (N.drop (i + 1)) ++ esc (N[i].take r)).length ≤ 1000 := key_bound HSS.out bs' (by omega) r
          have hbase : w1.heap.size ≤ wr.heap.size := hbel.size
          by_cases hrc : r < s[p].toNat
          · have hbd : p + 1 + r < s.size := by omega
            have hby : s[p + 1 + r] = N[i][r]'(by rw [← C1.out]; exact hrc) := label_byte HD.out hj' hbd (by rw [← C1.out]; exact hrc)
            have HBY : Hid (s[p + 1 + r] = N[i][r]'(by rw [← C1.out]; exact hrc)) := hby
            have hb8 := s[p + 1 + r].toNat_lt
            clear hby
            by_cases hz : s[p + 1 + r].toNat = 0
            · have hz' : ((s[p + 1 + r].toNat : Int) == 0) = true := beq_iff_eq.2 (by omega)
              have HZ0 : Hid (s[p + 1 + r].toNat = 0) := hz
              clear hz
              go_wp2_with (at_builtin; refine app2 rfl _ _ rfl w1.heap.size _ _ _ rfl hown 0 255 _ _ rfl rfl rfl hlen hbase ?_)
              intro v' w' hown' hbel'
              have R : OwnsB w1.heap.size w' v' (keyR (N.drop (i + 1)) ++ esc (N[i].take (r + 1))) := by
                have e0 : N[i][r]'(by rw [← C1.out]; exact hrc) = 0 := by rw [← HBY.out]; exact UInt8.toNat_inj.1 HZ0.out
                have e1 : escB (N[i][r]'(by rw [← C1.out]; exact hrc)) = [0, 255] := by rw [e0]; rfl
                rw [esc_step (by rw [← C1.out]; exact hrc), e1]
                exact hown'
              have RB : Below w1.heap.size w1 w' := hbel.trans hbel'
              clear hown' hbel' hown hbel hlen hbase
              go_wp2
              go_roundw
              case rel => exact ⟨r + 1, by go_num, by omega, R, RB⟩
              case measure => simp [intOf]; omega
            · have hz' : ((s[p + 1 + r].toNat : Int) == 0) = false := beq_eq_false_iff_ne.2 (by omega)
              have HZ0 : Hid (¬ s[p + 1 + r].toNat = 0) := hz
              clear hz
              go_wp2_with (first | (at_builtin; refine app1 rfl _ _ rfl w1.heap.size _ _ _ rfl hown (low s[p + 1 + r]) _ rfl rfl hlen hbase ?_) | (go_at_call 28; refine (lowerByte_u8 _ _).mono ?_; rintro e w' ⟨rfl, rfl⟩))
              intro v' w' hown' hbel'
              have R : OwnsB w1.heap.size w' v' (keyR (N.drop (i + 1)) ++ esc (N[i].take (r + 1))) := by
                have e0 : ¬ N[i][r]'(by rw [← C1.out]; exact hrc) = 0 := by rw [← HBY.out]; exact fun h => HZ0.out (by rw [h]; rfl)
                have e1 : escB (N[i][r]'(by rw [← C1.out]; exact hrc)) = [low s[p + 1 + r]] := by unfold escB; rw [if_neg e0, HBY.out]
                rw [esc_step (by rw [← C1.out]; exact hrc), e1]
                exact hown'
              have RB : Below w1.heap.size w1 w' := hbel.trans hbel'
              clear hown' hbel' hown hbel hlen hbase
              go_wp2
              go_roundw
              case rel => exact ⟨r + 1, by go_num, by omega, R, RB⟩
              case measure => simp [intOf]; omega
          · have hre : r = s[p].toNat := by omega
            have hown2 : OwnsB w1.heap.size wr u0 (keyR (N.drop (i + 1)) ++ esc N[i]) := by
              rw [hre, C1.out, List.take_length] at hown
              exact hown
            have hlen2 : (keyR (N.drop (i + 1)) ++ esc N[i]).length ≤ 1000 := by
              rw [hre, C1.out, List.take_length] at hlen
              exact hlen
            clear hown hlen hre
            go_wp2_with (at_builtin; refine app2 rfl _ _ rfl w1.heap.size _ _ _ rfl hown2 0 1 _ _ rfl rfl rfl hlen2 hbase ?_)
            intro v' w' hown' hbel'
            have R : OwnsB w1.heap.size w' v' (keyR (N.drop i)) := by
              rw [List.drop_eq_getElem_cons hj']
              unfold keyR
              first | exact hown' | (rw [← List.append_assoc]; exact hown')
            have RB : Below w1.heap.size w1 w' := hbel.trans hbel'
            clear hown' hbel' hown2 hbel hlen2 hbase
            go_wp2
            go_roundw
            case rel => exact ⟨i, by go_num, by omega, R, RB⟩
            case measure => simp [intOf]
      · omega

end Go.Proofs.Qxb6000092a
