/-
  Seat b6601361a: parsePlainRWLine past its two first bytes.
-/
import Derived.Test.Qxb6601361aWalks3
namespace Go.Proofs.Qxb6601361a
open Go.RowKit

set_option maxRecDepth 100000 in
set_option maxHeartbeats 4000000 in
theorem parse_loop (kd : Int) (hkd : kd = 1 ∨ kd = 2) (a : UInt8) (ha : (a = 114 ∧ kd = 1) ∨ (a = 119 ∧ kd = 2)) (l : List UInt8) (g n : Nat) (hn : l.length + 2 = n) (hb : n ≤ 1048576) (w : World) (hg : w.heap[g]? = some (.cells (ucs (a :: 40 :: l)) 5 (0, 0))) (hgl : g < w.heap.size) (A : Ans) (hA : parseF kd 3 zeros l = A) :
    Calls Try.prog 27 #[.slice (some ⟨g, 0, none⟩) n n] w (AnsPost A w) := by
  have HST : Hid (PInv A kd (a :: 40 :: l) 0 2 [0, 0, 0, 0]) := ⟨rfl, by simp, Or.inl ⟨by omega, hA.symm, fun j _ => by rcases j with _ | _ | _ | _ | j <;> simp⟩⟩
  clear hA
  have c0 : w.cell? ⟨g, 0, none⟩ = some (.int .u8 (a.toNat : Int)) := ucs_cell hg rfl
  have c1 : w.cell? ⟨g, 1, none⟩ = some (.int .u8 40) := ucs_cell (c := 40) hg rfl
  have hk1 : (if a = 114 then (1 : Int) else if a = 119 then 2 else 0) = kd := by
    rcases ha with ⟨rfl, rfl⟩ | ⟨rfl, rfl⟩ <;> rfl
  have hk2 : decide (a = 114 ∨ a = 119) = true := by
    rcases ha with ⟨rfl, _⟩ | ⟨rfl, _⟩ <;> rfl
  have HK1 : Hid ((if a = 114 then (1 : Int) else if a = 119 then 2 else 0) = kd) := hk1
  have HK2 : Hid (decide (a = 114 ∨ a = 119) = true) := hk2
  clear hk1 hk2
  have HN : Hid (l.length + 2 = n) := hn
  have h2n : 2 ≤ n := by omega
  have HG : Hid (w.heap[g]? = some (.cells (ucs (a :: 40 :: l)) 5 (0, 0))) := hg
  clear hn hg
  go_enter Try.func27, Try.ntmps27
  go_wp2_with (go_at_call 32; refine (rwKind_any _ _).mono ?_; rw [HK1.out, HK2.out]; rintro e w' ⟨rfl, rfl⟩)
  obtain ⟨T, hT⟩ : ∃ T, a :: 40 :: l = T := ⟨_, rfl⟩
  rw [hT] at HST HG
  have NT : Hid (T.length = n) := by unfold Hid; rw [← hT, ← HN.out]; rfl
  clear hT HN HK1 HK2 ha c0 c1
  go_loopw [2, 5, 30] (fun kv iv fv wr => ∃ (f i : Nat) (f0 f1 f2 f3 : Int), kv = .int .u8 kd ∧ iv = .int .i64 i ∧ fv = .int .i64 f ∧ PInv A kd T f i [f0, f1, f2, f3] ∧ wr.heap[w.heap.size]? = some (.cells #[.int .i64 f0, .int .i64 f1, .int .i64 f2, .int .i64 f3] 35 (0, 0)) ∧ Below w.heap.size w wr) (fun _ _ fv _ => 4 - (intOf fv).toNat)
  case atStart => exact ⟨0, 2, 0, 0, 0, 0, rfl, rfl, rfl, HST.out, Go.heap_alloc_new w _, (Below.refl _ _).alloc (Nat.le_refl _) _⟩
  case round =>
    clear HST
    obtain ⟨f, i, f0, f1, f2, f3, rfl, rfl, rfl, hinv, hr, hbel⟩ := hrel
    obtain ⟨-, hi, hcase⟩ := hinv
    rw [NT.out] at hi
    have hgw : wr.heap[g]? = some (.cells (ucs T) 5 (0, 0)) := (hbel.block g hgl).trans HG.out
    have e0 : wr.cell? ⟨w.heap.size, 0, none⟩ = some (.int .i64 f0) := by rw [cell_of_row wr _ 0 _ 35 _ hr]; rfl
    have e1 : wr.cell? ⟨w.heap.size, 1, none⟩ = some (.int .i64 f1) := by rw [cell_of_row wr _ 1 _ 35 _ hr]; rfl
    have e2 : wr.cell? ⟨w.heap.size, 2, none⟩ = some (.int .i64 f2) := by rw [cell_of_row wr _ 2 _ 35 _ hr]; rfl
    have e3 : wr.cell? ⟨w.heap.size, 3, none⟩ = some (.int .i64 f3) := by rw [cell_of_row wr _ 3 _ 35 _ hr]; rfl
    have z0 : wr.frozen? ⟨w.heap.size, 0, none⟩ = false := frozen_of_row wr _ 0 _ 35 hr
    have z1 : wr.frozen? ⟨w.heap.size, 1, none⟩ = false := frozen_of_row wr _ 1 _ 35 hr
    have z2 : wr.frozen? ⟨w.heap.size, 2, none⟩ = false := frozen_of_row wr _ 2 _ 35 hr
    have z3 : wr.frozen? ⟨w.heap.size, 3, none⟩ = false := frozen_of_row wr _ 3 _ 35 hr
    have HR : Hid (wr.heap[w.heap.size]? = some (.cells #[.int .i64 f0, .int .i64 f1, .int .i64 f2, .int .i64 f3] 35 (0, 0))) := hr
    have HB : Hid (Below w.heap.size w wr) := hbel
    have HGW : Hid (wr.heap[g]? = some (.cells (ucs T) 5 (0, 0))) := hgw
    clear hr hbel hgw
    rcases hcase with ⟨hf, hA, hz⟩ | ⟨hf, hA⟩
    · obtain ⟨v, k, hlead⟩ : ∃ v k, lead 18 0 (T.drop i) = (v, k) := ⟨_, _, rfl⟩
      rcases (show f = 0 ∨ f = 1 ∨ f = 2 ∨ f = 3 by omega) with rfl | rfl | rfl | rfl
      · -- field 0
        clear hf hkd
        by_cases hin : i < n
        · have LD := hide' (lead_any ⟨g, i, none⟩ (T.drop i) (n - i) (n - i) (by simp [NT.out]) (by omega) wr (fun j d hj => by
            have hadd : (⟨g, i, none⟩ : Addr).add j = ⟨g, i + j, none⟩ := by unfold Addr.add; split <;> simp_all
            rw [hadd]
            rw [List.getElem?_drop] at hj
            exact ucs_cell HGW.out hj))
          rw [hlead] at LD
          have hkle : i + k ≤ n := by
            have := lead_le 18 0 (T.drop i)
            rw [hlead, List.length_drop, NT.out] at this
            simp at this
            omega
          by_cases hk0 : k = 0
          · have hkq : ((k : Int) == 0) = true := beq_iff_eq.2 (by omega)
            have HA : Hid (A = fail [f0, f1, f2, f3]) := p_zero (f := 0) (by omega) hA hlead hk0
            clear hA hz hlead hk0
            go_wp2_with (go_at_call 34; refine (LD.out).mono ?_; rintro e w' ⟨rfl, rfl⟩)
            go_region
            go_wp2
            refine bodyPost_ret (v := .tuple #[.int .u8 0, .agg #[.int .i64 f0, .int .i64 f1, .int .i64 f2, .int .i64 f3], .bool false]) (by simp [results, Try.results27, go_sem, e0, e1, e2, e3]) rfl ⟨by rw [HA.out]; rfl, ?_⟩
            exact below_drewN ((((HB.out.setCell (Nat.le_refl _) _).setCell (Nat.le_refl _) _).setCell (Nat.le_refl _) _).setCell (Nat.le_refl _) _) 1
          · have hkq : ((k : Int) == 0) = false := beq_eq_false_iff_ne.2 (by omega)
            by_cases hend : i + k < n
            · obtain ⟨c, hc⟩ : ∃ c, T[i + k]? = some c := ⟨_, List.getElem?_eq_getElem (by rw [NT.out]; exact hend)⟩
              have hcell : wr.cell? ⟨g, i + k, none⟩ = some (.int .u8 (c.toNat : Int)) := ucs_cell HGW.out hc
              by_cases h44 : c = 44
              · subst h44
                have HP : Hid (PInv A kd T (0 + 1) (i + k + 1) [v, f1, f2, f3]) := p_next (f := 0) (by omega) hA hlead hk0 hc rfl hz
                have hcell' : wr.cell? ⟨g, i + k, none⟩ = some (.int .u8 44) := hcell
                clear hA hz hlead hk0 hc hcell
                go_wp2_with (go_at_call 34; refine (LD.out).mono ?_; rintro e w' ⟨rfl, rfl⟩)
                go_roundw
                case rel => exact ⟨0 + 1, i + k + 1, v, f1, f2, f3, rfl, by go_num, by go_num, HP.out, heap_setCell_same wr _ 0 _ 35 _ HR.out, HB.out.setCell (Nat.le_refl _) _⟩
                case measure => simp [intOf]
              · have HA : Hid (A = fail [v, f1, f2, f3]) := p_fail (f := 0) (by omega) hA hlead hk0 (fun d hd => by rw [hc] at hd; cases hd; exact h44)
                have q44 : ((c.toNat : Int) == 44) = false := beq_eq_false_iff_ne.2 (fun h => h44 ((u8_int 44 (by decide)).2 h))
                by_cases hlast : i + k + 1 = n
                · have hql : ((i : Int) + (k : Int) == (n : Int) - 1) = true := beq_iff_eq.2 (by omega)
                  by_cases h41 : c = 41
                  · have q41 : ((c.toNat : Int) == 41) = true := beq_iff_eq.2 ((u8_int 41 (by decide)).1 h41)
                    clear hA hz hlead hk0 hc h44 h41 hlast
                    go_wp2_with (go_at_call 34; refine (LD.out).mono ?_; rintro e w' ⟨rfl, rfl⟩)
                    go_region
                    go_wp2
                    refine bodyPost_ret (v := .tuple #[.int .u8 0, .agg #[.int .i64 v, .int .i64 f1, .int .i64 f2, .int .i64 f3], .bool false]) (by simp [results, Try.results27, go_sem, e0, e1, e2, e3]) rfl ⟨by rw [HA.out]; rfl, ?_⟩
                    exact below_drewN (((((HB.out.setCell (Nat.le_refl _) _).setCell (Nat.le_refl _) _).setCell (Nat.le_refl _) _).setCell (Nat.le_refl _) _).setCell (Nat.le_refl _) _) 1
                  · have q41 : ((c.toNat : Int) == 41) = false := beq_eq_false_iff_ne.2 (fun h => h41 ((u8_int 41 (by decide)).2 h))
                    clear hA hz hlead hk0 hc h44 h41 hlast
                    go_wp2_with (go_at_call 34; refine (LD.out).mono ?_; rintro e w' ⟨rfl, rfl⟩)
                    go_region
                    go_wp2
                    refine bodyPost_ret (v := .tuple #[.int .u8 0, .agg #[.int .i64 v, .int .i64 f1, .int .i64 f2, .int .i64 f3], .bool false]) (by simp [results, Try.results27, go_sem, e0, e1, e2, e3]) rfl ⟨by rw [HA.out]; rfl, ?_⟩
                    exact below_drewN (((((HB.out.setCell (Nat.le_refl _) _).setCell (Nat.le_refl _) _).setCell (Nat.le_refl _) _).setCell (Nat.le_refl _) _).setCell (Nat.le_refl _) _) 1
                · have hql : ((i : Int) + (k : Int) == (n : Int) - 1) = false := beq_eq_false_iff_ne.2 (by omega)
                  clear hA hz hlead hk0 hc h44 hlast
                  go_wp2_with (go_at_call 34; refine (LD.out).mono ?_; rintro e w' ⟨rfl, rfl⟩)
                  go_region
                  go_wp2
                  refine bodyPost_ret (v := .tuple #[.int .u8 0, .agg #[.int .i64 v, .int .i64 f1, .int .i64 f2, .int .i64 f3], .bool false]) (by simp [results, Try.results27, go_sem, e0, e1, e2, e3]) rfl ⟨by rw [HA.out]; rfl, ?_⟩
                  exact below_drewN (((((HB.out.setCell (Nat.le_refl _) _).setCell (Nat.le_refl _) _).setCell (Nat.le_refl _) _).setCell (Nat.le_refl _) _).setCell (Nat.le_refl _) _) 1
            · have HA : Hid (A = fail [v, f1, f2, f3]) := p_fail (f := 0) (by omega) hA hlead hk0 (fun d hd => by have := (List.getElem?_eq_some_iff.1 hd).1; rw [NT.out] at this; omega)
              have hql : ((i : Int) + (k : Int) == (n : Int) - 1) = false := beq_eq_false_iff_ne.2 (by omega)
              clear hA hz hlead hk0
              go_wp2_with (go_at_call 34; refine (LD.out).mono ?_; rintro e w' ⟨rfl, rfl⟩)
              go_region
              go_wp2
              refine bodyPost_ret (v := .tuple #[.int .u8 0, .agg #[.int .i64 v, .int .i64 f1, .int .i64 f2, .int .i64 f3], .bool false]) (by simp [results, Try.results27, go_sem, e0, e1, e2, e3]) rfl ⟨by rw [HA.out]; rfl, ?_⟩
              exact below_drewN (((((HB.out.setCell (Nat.le_refl _) _).setCell (Nat.le_refl _) _).setCell (Nat.le_refl _) _).setCell (Nat.le_refl _) _).setCell (Nat.le_refl _) _) 1
        · have hin2 : i = n := by omega
          subst hin2
          have LD := hide' (lead_any ⟨g, 0, none⟩ [] 0 0 rfl (by omega) wr (fun j d hj => by simp at hj))
          have hlead0 : lead 18 0 (T.drop i) = (0, 0) := by rw [List.drop_of_length_le (by rw [NT.out]; exact Nat.le_refl _)]; rfl
          have HA : Hid (A = fail [f0, f1, f2, f3]) := p_zero (f := 0) (by omega) hA hlead0 rfl
          have e00 : lead 18 0 [] = (0, 0) := rfl
          rw [e00] at LD
          clear hA hz hlead hlead0 e00
          go_wp2_with (go_at_call 34; refine (LD.out).mono ?_; rintro e w' ⟨rfl, rfl⟩)
          go_region
          go_wp2
          refine bodyPost_ret (v := .tuple #[.int .u8 0, .agg #[.int .i64 f0, .int .i64 f1, .int .i64 f2, .int .i64 f3], .bool false]) (by simp [results, Try.results27, go_sem, e0, e1, e2, e3]) rfl ⟨by rw [HA.out]; rfl, ?_⟩
          exact below_drewN ((((HB.out.setCell (Nat.le_refl _) _).setCell (Nat.le_refl _) _).setCell (Nat.le_refl _) _).setCell (Nat.le_refl _) _) 1
      · -- field 1
        clear hf hkd
        by_cases hin : i < n
        · have LD := hide' (lead_any ⟨g, i, none⟩ (T.drop i) (n - i) (n - i) (by simp [NT.out]) (by omega) wr (fun j d hj => by
            have hadd : (⟨g, i, none⟩ : Addr).add j = ⟨g, i + j, none⟩ := by unfold Addr.add; split <;> simp_all
            rw [hadd]
            rw [List.getElem?_drop] at hj
            exact ucs_cell HGW.out hj))
          rw [hlead] at LD
          have hkle : i + k ≤ n := by
            have := lead_le 18 0 (T.drop i)
            rw [hlead, List.length_drop, NT.out] at this
            simp at this
            omega
          by_cases hk0 : k = 0
          · have hkq : ((k : Int) == 0) = true := beq_iff_eq.2 (by omega)
            have HA : Hid (A = fail [f0, f1, f2, f3]) := p_zero (f := 1) (by omega) hA hlead hk0
            clear hA hz hlead hk0
            go_wp2_with (go_at_call 34; refine (LD.out).mono ?_; rintro e w' ⟨rfl, rfl⟩)
            go_region
            go_wp2
            refine bodyPost_ret (v := .tuple #[.int .u8 0, .agg #[.int .i64 f0, .int .i64 f1, .int .i64 f2, .int .i64 f3], .bool false]) (by simp [results, Try.results27, go_sem, e0, e1, e2, e3]) rfl ⟨by rw [HA.out]; rfl, ?_⟩
            exact below_drewN ((((HB.out.setCell (Nat.le_refl _) _).setCell (Nat.le_refl _) _).setCell (Nat.le_refl _) _).setCell (Nat.le_refl _) _) 1
          · have hkq : ((k : Int) == 0) = false := beq_eq_false_iff_ne.2 (by omega)
            by_cases hend : i + k < n
            · obtain ⟨c, hc⟩ : ∃ c, T[i + k]? = some c := ⟨_, List.getElem?_eq_getElem (by rw [NT.out]; exact hend)⟩
              have hcell : wr.cell? ⟨g, i + k, none⟩ = some (.int .u8 (c.toNat : Int)) := ucs_cell HGW.out hc
              by_cases h44 : c = 44
              · subst h44
                have HP : Hid (PInv A kd T (1 + 1) (i + k + 1) [f0, v, f2, f3]) := p_next (f := 1) (by omega) hA hlead hk0 hc rfl hz
                have hcell' : wr.cell? ⟨g, i + k, none⟩ = some (.int .u8 44) := hcell
                clear hA hz hlead hk0 hc hcell
                go_wp2_with (go_at_call 34; refine (LD.out).mono ?_; rintro e w' ⟨rfl, rfl⟩)
                go_roundw
                case rel => exact ⟨1 + 1, i + k + 1, f0, v, f2, f3, rfl, by go_num, by go_num, HP.out, heap_setCell_same wr _ 1 _ 35 _ HR.out, HB.out.setCell (Nat.le_refl _) _⟩
                case measure => simp [intOf]
              · have HA : Hid (A = fail [f0, v, f2, f3]) := p_fail (f := 1) (by omega) hA hlead hk0 (fun d hd => by rw [hc] at hd; cases hd; exact h44)
                have q44 : ((c.toNat : Int) == 44) = false := beq_eq_false_iff_ne.2 (fun h => h44 ((u8_int 44 (by decide)).2 h))
                by_cases hlast : i + k + 1 = n
                · have hql : ((i : Int) + (k : Int) == (n : Int) - 1) = true := beq_iff_eq.2 (by omega)
                  by_cases h41 : c = 41
                  · have q41 : ((c.toNat : Int) == 41) = true := beq_iff_eq.2 ((u8_int 41 (by decide)).1 h41)
                    clear hA hz hlead hk0 hc h44 h41 hlast
                    go_wp2_with (go_at_call 34; refine (LD.out).mono ?_; rintro e w' ⟨rfl, rfl⟩)
                    go_region
                    go_wp2
                    refine bodyPost_ret (v := .tuple #[.int .u8 0, .agg #[.int .i64 f0, .int .i64 v, .int .i64 f2, .int .i64 f3], .bool false]) (by simp [results, Try.results27, go_sem, e0, e1, e2, e3]) rfl ⟨by rw [HA.out]; rfl, ?_⟩
                    exact below_drewN (((((HB.out.setCell (Nat.le_refl _) _).setCell (Nat.le_refl _) _).setCell (Nat.le_refl _) _).setCell (Nat.le_refl _) _).setCell (Nat.le_refl _) _) 1
                  · have q41 : ((c.toNat : Int) == 41) = false := beq_eq_false_iff_ne.2 (fun h => h41 ((u8_int 41 (by decide)).2 h))
                    clear hA hz hlead hk0 hc h44 h41 hlast
                    go_wp2_with (go_at_call 34; refine (LD.out).mono ?_; rintro e w' ⟨rfl, rfl⟩)
                    go_region
                    go_wp2
                    refine bodyPost_ret (v := .tuple #[.int .u8 0, .agg #[.int .i64 f0, .int .i64 v, .int .i64 f2, .int .i64 f3], .bool false]) (by simp [results, Try.results27, go_sem, e0, e1, e2, e3]) rfl ⟨by rw [HA.out]; rfl, ?_⟩
                    exact below_drewN (((((HB.out.setCell (Nat.le_refl _) _).setCell (Nat.le_refl _) _).setCell (Nat.le_refl _) _).setCell (Nat.le_refl _) _).setCell (Nat.le_refl _) _) 1
                · have hql : ((i : Int) + (k : Int) == (n : Int) - 1) = false := beq_eq_false_iff_ne.2 (by omega)
                  clear hA hz hlead hk0 hc h44 hlast
                  go_wp2_with (go_at_call 34; refine (LD.out).mono ?_; rintro e w' ⟨rfl, rfl⟩)
                  go_region
                  go_wp2
                  refine bodyPost_ret (v := .tuple #[.int .u8 0, .agg #[.int .i64 f0, .int .i64 v, .int .i64 f2, .int .i64 f3], .bool false]) (by simp [results, Try.results27, go_sem, e0, e1, e2, e3]) rfl ⟨by rw [HA.out]; rfl, ?_⟩
                  exact below_drewN (((((HB.out.setCell (Nat.le_refl _) _).setCell (Nat.le_refl _) _).setCell (Nat.le_refl _) _).setCell (Nat.le_refl _) _).setCell (Nat.le_refl _) _) 1
            · have HA : Hid (A = fail [f0, v, f2, f3]) := p_fail (f := 1) (by omega) hA hlead hk0 (fun d hd => by have := (List.getElem?_eq_some_iff.1 hd).1; rw [NT.out] at this; omega)
              have hql : ((i : Int) + (k : Int) == (n : Int) - 1) = false := beq_eq_false_iff_ne.2 (by omega)
              clear hA hz hlead hk0
              go_wp2_with (go_at_call 34; refine (LD.out).mono ?_; rintro e w' ⟨rfl, rfl⟩)
              go_region
              go_wp2
              refine bodyPost_ret (v := .tuple #[.int .u8 0, .agg #[.int .i64 f0, .int .i64 v, .int .i64 f2, .int .i64 f3], .bool false]) (by simp [results, Try.results27, go_sem, e0, e1, e2, e3]) rfl ⟨by rw [HA.out]; rfl, ?_⟩
              exact below_drewN (((((HB.out.setCell (Nat.le_refl _) _).setCell (Nat.le_refl _) _).setCell (Nat.le_refl _) _).setCell (Nat.le_refl _) _).setCell (Nat.le_refl _) _) 1
        · have hin2 : i = n := by omega
          subst hin2
          have LD := hide' (lead_any ⟨g, 0, none⟩ [] 0 0 rfl (by omega) wr (fun j d hj => by simp at hj))
          have hlead0 : lead 18 0 (T.drop i) = (0, 0) := by rw [List.drop_of_length_le (by rw [NT.out]; exact Nat.le_refl _)]; rfl
          have HA : Hid (A = fail [f0, f1, f2, f3]) := p_zero (f := 1) (by omega) hA hlead0 rfl
          have e00 : lead 18 0 [] = (0, 0) := rfl
          rw [e00] at LD
          clear hA hz hlead hlead0 e00
          go_wp2_with (go_at_call 34; refine (LD.out).mono ?_; rintro e w' ⟨rfl, rfl⟩)
          go_region
          go_wp2
          refine bodyPost_ret (v := .tuple #[.int .u8 0, .agg #[.int .i64 f0, .int .i64 f1, .int .i64 f2, .int .i64 f3], .bool false]) (by simp [results, Try.results27, go_sem, e0, e1, e2, e3]) rfl ⟨by rw [HA.out]; rfl, ?_⟩
          exact below_drewN ((((HB.out.setCell (Nat.le_refl _) _).setCell (Nat.le_refl _) _).setCell (Nat.le_refl _) _).setCell (Nat.le_refl _) _) 1
      · -- field 2
        clear hf hkd
        by_cases hin : i < n
        · have LD := hide' (lead_any ⟨g, i, none⟩ (T.drop i) (n - i) (n - i) (by simp [NT.out]) (by omega) wr (fun j d hj => by
            have hadd : (⟨g, i, none⟩ : Addr).add j = ⟨g, i + j, none⟩ := by unfold Addr.add; split <;> simp_all
            rw [hadd]
            rw [List.getElem?_drop] at hj
            exact ucs_cell HGW.out hj))
          rw [hlead] at LD
          have hkle : i + k ≤ n := by
            have := lead_le 18 0 (T.drop i)
            rw [hlead, List.length_drop, NT.out] at this
            simp at this
            omega
          by_cases hk0 : k = 0
          · have hkq : ((k : Int) == 0) = true := beq_iff_eq.2 (by omega)
            have HA : Hid (A = fail [f0, f1, f2, f3]) := p_zero (f := 2) (by omega) hA hlead hk0
            clear hA hz hlead hk0
            go_wp2_with (go_at_call 34; refine (LD.out).mono ?_; rintro e w' ⟨rfl, rfl⟩)
            go_region
            go_wp2
            refine bodyPost_ret (v := .tuple #[.int .u8 0, .agg #[.int .i64 f0, .int .i64 f1, .int .i64 f2, .int .i64 f3], .bool false]) (by simp [results, Try.results27, go_sem, e0, e1, e2, e3]) rfl ⟨by rw [HA.out]; rfl, ?_⟩
            exact below_drewN ((((HB.out.setCell (Nat.le_refl _) _).setCell (Nat.le_refl _) _).setCell (Nat.le_refl _) _).setCell (Nat.le_refl _) _) 1
          · have hkq : ((k : Int) == 0) = false := beq_eq_false_iff_ne.2 (by omega)
            by_cases hend : i + k < n
            · obtain ⟨c, hc⟩ : ∃ c, T[i + k]? = some c := ⟨_, List.getElem?_eq_getElem (by rw [NT.out]; exact hend)⟩
              have hcell : wr.cell? ⟨g, i + k, none⟩ = some (.int .u8 (c.toNat : Int)) := ucs_cell HGW.out hc
              by_cases h44 : c = 44
              · subst h44
                have HP : Hid (PInv A kd T (2 + 1) (i + k + 1) [f0, f1, v, f3]) := p_next (f := 2) (by omega) hA hlead hk0 hc rfl hz
                have hcell' : wr.cell? ⟨g, i + k, none⟩ = some (.int .u8 44) := hcell
                clear hA hz hlead hk0 hc hcell
                go_wp2_with (go_at_call 34; refine (LD.out).mono ?_; rintro e w' ⟨rfl, rfl⟩)
                go_roundw
                case rel => exact ⟨2 + 1, i + k + 1, f0, f1, v, f3, rfl, by go_num, by go_num, HP.out, heap_setCell_same wr _ 2 _ 35 _ HR.out, HB.out.setCell (Nat.le_refl _) _⟩
                case measure => simp [intOf]
              · have HA : Hid (A = fail [f0, f1, v, f3]) := p_fail (f := 2) (by omega) hA hlead hk0 (fun d hd => by rw [hc] at hd; cases hd; exact h44)
                have q44 : ((c.toNat : Int) == 44) = false := beq_eq_false_iff_ne.2 (fun h => h44 ((u8_int 44 (by decide)).2 h))
                by_cases hlast : i + k + 1 = n
                · have hql : ((i : Int) + (k : Int) == (n : Int) - 1) = true := beq_iff_eq.2 (by omega)
                  by_cases h41 : c = 41
                  · have q41 : ((c.toNat : Int) == 41) = true := beq_iff_eq.2 ((u8_int 41 (by decide)).1 h41)
                    clear hA hz hlead hk0 hc h44 h41 hlast
                    go_wp2_with (go_at_call 34; refine (LD.out).mono ?_; rintro e w' ⟨rfl, rfl⟩)
                    go_region
                    go_wp2
                    refine bodyPost_ret (v := .tuple #[.int .u8 0, .agg #[.int .i64 f0, .int .i64 f1, .int .i64 v, .int .i64 f3], .bool false]) (by simp [results, Try.results27, go_sem, e0, e1, e2, e3]) rfl ⟨by rw [HA.out]; rfl, ?_⟩
                    exact below_drewN (((((HB.out.setCell (Nat.le_refl _) _).setCell (Nat.le_refl _) _).setCell (Nat.le_refl _) _).setCell (Nat.le_refl _) _).setCell (Nat.le_refl _) _) 1
                  · have q41 : ((c.toNat : Int) == 41) = false := beq_eq_false_iff_ne.2 (fun h => h41 ((u8_int 41 (by decide)).2 h))
                    clear hA hz hlead hk0 hc h44 h41 hlast
                    go_wp2_with (go_at_call 34; refine (LD.out).mono ?_; rintro e w' ⟨rfl, rfl⟩)
                    go_region
                    go_wp2
                    refine bodyPost_ret (v := .tuple #[.int .u8 0, .agg #[.int .i64 f0, .int .i64 f1, .int .i64 v, .int .i64 f3], .bool false]) (by simp [results, Try.results27, go_sem, e0, e1, e2, e3]) rfl ⟨by rw [HA.out]; rfl, ?_⟩
                    exact below_drewN (((((HB.out.setCell (Nat.le_refl _) _).setCell (Nat.le_refl _) _).setCell (Nat.le_refl _) _).setCell (Nat.le_refl _) _).setCell (Nat.le_refl _) _) 1
                · have hql : ((i : Int) + (k : Int) == (n : Int) - 1) = false := beq_eq_false_iff_ne.2 (by omega)
                  clear hA hz hlead hk0 hc h44 hlast
                  go_wp2_with (go_at_call 34; refine (LD.out).mono ?_; rintro e w' ⟨rfl, rfl⟩)
                  go_region
                  go_wp2
                  refine bodyPost_ret (v := .tuple #[.int .u8 0, .agg #[.int .i64 f0, .int .i64 f1, .int .i64 v, .int .i64 f3], .bool false]) (by simp [results, Try.results27, go_sem, e0, e1, e2, e3]) rfl ⟨by rw [HA.out]; rfl, ?_⟩
                  exact below_drewN (((((HB.out.setCell (Nat.le_refl _) _).setCell (Nat.le_refl _) _).setCell (Nat.le_refl _) _).setCell (Nat.le_refl _) _).setCell (Nat.le_refl _) _) 1
            · have HA : Hid (A = fail [f0, f1, v, f3]) := p_fail (f := 2) (by omega) hA hlead hk0 (fun d hd => by have := (List.getElem?_eq_some_iff.1 hd).1; rw [NT.out] at this; omega)
              have hql : ((i : Int) + (k : Int) == (n : Int) - 1) = false := beq_eq_false_iff_ne.2 (by omega)
              clear hA hz hlead hk0
              go_wp2_with (go_at_call 34; refine (LD.out).mono ?_; rintro e w' ⟨rfl, rfl⟩)
              go_region
              go_wp2
              refine bodyPost_ret (v := .tuple #[.int .u8 0, .agg #[.int .i64 f0, .int .i64 f1, .int .i64 v, .int .i64 f3], .bool false]) (by simp [results, Try.results27, go_sem, e0, e1, e2, e3]) rfl ⟨by rw [HA.out]; rfl, ?_⟩
              exact below_drewN (((((HB.out.setCell (Nat.le_refl _) _).setCell (Nat.le_refl _) _).setCell (Nat.le_refl _) _).setCell (Nat.le_refl _) _).setCell (Nat.le_refl _) _) 1
        · have hin2 : i = n := by omega
          subst hin2
          have LD := hide' (lead_any ⟨g, 0, none⟩ [] 0 0 rfl (by omega) wr (fun j d hj => by simp at hj))
          have hlead0 : lead 18 0 (T.drop i) = (0, 0) := by rw [List.drop_of_length_le (by rw [NT.out]; exact Nat.le_refl _)]; rfl
          have HA : Hid (A = fail [f0, f1, f2, f3]) := p_zero (f := 2) (by omega) hA hlead0 rfl
          have e00 : lead 18 0 [] = (0, 0) := rfl
          rw [e00] at LD
          clear hA hz hlead hlead0 e00
          go_wp2_with (go_at_call 34; refine (LD.out).mono ?_; rintro e w' ⟨rfl, rfl⟩)
          go_region
          go_wp2
          refine bodyPost_ret (v := .tuple #[.int .u8 0, .agg #[.int .i64 f0, .int .i64 f1, .int .i64 f2, .int .i64 f3], .bool false]) (by simp [results, Try.results27, go_sem, e0, e1, e2, e3]) rfl ⟨by rw [HA.out]; rfl, ?_⟩
          exact below_drewN ((((HB.out.setCell (Nat.le_refl _) _).setCell (Nat.le_refl _) _).setCell (Nat.le_refl _) _).setCell (Nat.le_refl _) _) 1
      · by_cases hm : kd = 2 ∧ minus1 (T.drop i) = true
        · obtain ⟨rfl, hmm⟩ := hm
          have HMN : Hid (minus1 (T.drop i) = true) := hmm
          obtain ⟨h3n, h41⟩ := minus_at hmm
          rw [NT.out] at h3n
          have hcell : wr.cell? ⟨g, i + 2, none⟩ = some (.int .u8 41) := ucs_cell (c := 41) HGW.out h41
          have hAA := q_minus hA rfl hmm
          rw [NT.out] at hAA
          by_cases hlast : n = i + 3
          · have HA : Hid (A = fin 2 [f0, f1, f2, -1]) := by rw [if_pos hlast] at hAA; exact hAA
            have hql : ((i : Int) + 2 == (n : Int) - 1) = true := beq_iff_eq.2 (by omega)
            have h2n' : i + 2 < n := by omega
            clear hA hz hlead hAA hmm h41 hlast
            go_wp2_with (go_at_call 33; refine (hasAt_any g T n i NT.out hb hi wr HGW.out).mono ?_; rw [HMN.out]; rintro e w' ⟨rfl, rfl⟩)
            go_roundw
            case rel => exact ⟨3 + 1, i + 2 + 1, f0, f1, f2, -1, rfl, by go_num, by go_num, ⟨rfl, by rw [NT.out]; omega, Or.inr ⟨rfl, HA.out⟩⟩, heap_setCell_same wr _ 3 _ 35 _ HR.out, HB.out.setCell (Nat.le_refl _) _⟩
            case measure => simp [intOf]
          · have HA : Hid (A = fail [f0, f1, f2, -1]) := by rw [if_neg hlast] at hAA; exact hAA
            have hql : ((i : Int) + 2 == (n : Int) - 1) = false := beq_eq_false_iff_ne.2 (by omega)
            have h2n' : i + 2 < n := by omega
            clear hA hz hlead hAA hmm h41 hlast
            go_wp2_with (go_at_call 33; refine (hasAt_any g T n i NT.out hb hi wr HGW.out).mono ?_; rw [HMN.out]; rintro e w' ⟨rfl, rfl⟩)
            go_region
            go_wp2
            refine bodyPost_ret (v := .tuple #[.int .u8 0, .agg #[.int .i64 f0, .int .i64 f1, .int .i64 f2, .int .i64 (-1)], .bool false]) (by simp [results, Try.results27, go_sem, e0, e1, e2, e3]) rfl ⟨by rw [HA.out]; rfl, ?_⟩
            exact below_drewN (((((HB.out.setCell (Nat.le_refl _) _).setCell (Nat.le_refl _) _).setCell (Nat.le_refl _) _).setCell (Nat.le_refl _) _).setCell (Nat.le_refl _) _) 1
        · rcases hkd with rfl | rfl
          · -- kind 1
            by_cases hin : i < n
            · have LD := hide' (lead_any ⟨g, i, none⟩ (T.drop i) (n - i) (n - i) (by simp [NT.out]) (by omega) wr (fun j d hj => by
                have hadd : (⟨g, i, none⟩ : Addr).add j = ⟨g, i + j, none⟩ := by unfold Addr.add; split <;> simp_all
                rw [hadd]
                rw [List.getElem?_drop] at hj
                exact ucs_cell HGW.out hj))
              rw [hlead] at LD
              have hkle : i + k ≤ n := by
                have := lead_le 18 0 (T.drop i)
                rw [hlead, List.length_drop, NT.out] at this
                simp at this
                omega
              by_cases hk0 : k = 0
              · have hkq : ((k : Int) == 0) = true := beq_iff_eq.2 (by omega)
                have HA : Hid (A = fail [f0, f1, f2, f3]) := by have h := q_sep hA hm hlead; rwa [if_pos hk0] at h
                clear hA hz hlead hk0 hm
                go_wp2_with (go_at_call 34; refine (LD.out).mono ?_; rintro e w' ⟨rfl, rfl⟩)
                go_region
                go_wp2
                refine bodyPost_ret (v := .tuple #[.int .u8 0, .agg #[.int .i64 f0, .int .i64 f1, .int .i64 f2, .int .i64 f3], .bool false]) (by simp [results, Try.results27, go_sem, e0, e1, e2, e3]) rfl ⟨by rw [HA.out]; rfl, ?_⟩
                exact below_drewN ((((HB.out.setCell (Nat.le_refl _) _).setCell (Nat.le_refl _) _).setCell (Nat.le_refl _) _).setCell (Nat.le_refl _) _) 1
              · have hkq : ((k : Int) == 0) = false := beq_eq_false_iff_ne.2 (by omega)
                by_cases hend : i + k < n
                · obtain ⟨c, hc⟩ : ∃ c, T[i + k]? = some c := ⟨_, List.getElem?_eq_getElem (by rw [NT.out]; exact hend)⟩
                  have hcell : wr.cell? ⟨g, i + k, none⟩ = some (.int .u8 (c.toNat : Int)) := ucs_cell HGW.out hc
                  by_cases hgood : c = 41 ∧ i + k + 1 = n
                  · obtain ⟨rfl, hlast⟩ := hgood
                    have HA : Hid (A = fin 1 [f0, f1, f2, v]) := q_ok hA hm hlead hk0 hc (by rw [NT.out]; exact hlast)
                    have hql : ((i : Int) + (k : Int) == (n : Int) - 1) = true := beq_iff_eq.2 (by omega)
                    have hcell' : wr.cell? ⟨g, i + k, none⟩ = some (.int .u8 41) := hcell
                    clear hA hz hlead hk0 hm hc hcell hlast
                    go_wp2_with (go_at_call 34; refine (LD.out).mono ?_; rintro e w' ⟨rfl, rfl⟩)
                    go_roundw
                    case rel => exact ⟨3 + 1, i + k + 1, f0, f1, f2, v, rfl, by go_num, by go_num, ⟨rfl, by rw [NT.out]; omega, Or.inr ⟨rfl, HA.out⟩⟩, heap_setCell_same wr _ 3 _ 35 _ HR.out, HB.out.setCell (Nat.le_refl _) _⟩
                    case measure => simp [intOf]
                  · have HA : Hid (A = fail [f0, f1, f2, v]) := q_fail hA hm hlead hk0 (fun d hd => by rw [hc] at hd; cases hd; rw [NT.out]; exact hgood)
                    by_cases h44 : c = 44
                    · subst h44
                      have hcell' : wr.cell? ⟨g, i + k, none⟩ = some (.int .u8 44) := hcell
                      by_cases hlast : i + k + 1 = n
                      · have hql : ((i : Int) + (k : Int) == (n : Int) - 1) = true := beq_iff_eq.2 (by omega)
                        clear hA hz hlead hk0 hm hc hcell hlast hgood
                        go_wp2_with (go_at_call 34; refine (LD.out).mono ?_; rintro e w' ⟨rfl, rfl⟩)
                        go_region
                        go_wp2
                        refine bodyPost_ret (v := .tuple #[.int .u8 0, .agg #[.int .i64 f0, .int .i64 f1, .int .i64 f2, .int .i64 v], .bool false]) (by simp [results, Try.results27, go_sem, e0, e1, e2, e3]) rfl ⟨by rw [HA.out]; rfl, ?_⟩
                        exact below_drewN (((((HB.out.setCell (Nat.le_refl _) _).setCell (Nat.le_refl _) _).setCell (Nat.le_refl _) _).setCell (Nat.le_refl _) _).setCell (Nat.le_refl _) _) 1
                      · have hql : ((i : Int) + (k : Int) == (n : Int) - 1) = false := beq_eq_false_iff_ne.2 (by omega)
                        clear hA hz hlead hk0 hm hc hcell hlast hgood
                        go_wp2_with (go_at_call 34; refine (LD.out).mono ?_; rintro e w' ⟨rfl, rfl⟩)
                        go_region
                        go_wp2
                        refine bodyPost_ret (v := .tuple #[.int .u8 0, .agg #[.int .i64 f0, .int .i64 f1, .int .i64 f2, .int .i64 v], .bool false]) (by simp [results, Try.results27, go_sem, e0, e1, e2, e3]) rfl ⟨by rw [HA.out]; rfl, ?_⟩
                        exact below_drewN (((((HB.out.setCell (Nat.le_refl _) _).setCell (Nat.le_refl _) _).setCell (Nat.le_refl _) _).setCell (Nat.le_refl _) _).setCell (Nat.le_refl _) _) 1
                    · have q44 : ((c.toNat : Int) == 44) = false := beq_eq_false_iff_ne.2 (fun h => h44 ((u8_int 44 (by decide)).2 h))
                      by_cases hlast : i + k + 1 = n
                      · have hql : ((i : Int) + (k : Int) == (n : Int) - 1) = true := beq_iff_eq.2 (by omega)
                        have q41 : ((c.toNat : Int) == 41) = false := beq_eq_false_iff_ne.2 (fun h => hgood ⟨(u8_int 41 (by decide)).2 h, hlast⟩)
                        clear hA hz hlead hk0 hm hc hlast hgood h44
                        go_wp2_with (go_at_call 34; refine (LD.out).mono ?_; rintro e w' ⟨rfl, rfl⟩)
                        go_region
                        go_wp2
                        refine bodyPost_ret (v := .tuple #[.int .u8 0, .agg #[.int .i64 f0, .int .i64 f1, .int .i64 f2, .int .i64 v], .bool false]) (by simp [results, Try.results27, go_sem, e0, e1, e2, e3]) rfl ⟨by rw [HA.out]; rfl, ?_⟩
                        exact below_drewN (((((HB.out.setCell (Nat.le_refl _) _).setCell (Nat.le_refl _) _).setCell (Nat.le_refl _) _).setCell (Nat.le_refl _) _).setCell (Nat.le_refl _) _) 1
                      · have hql : ((i : Int) + (k : Int) == (n : Int) - 1) = false := beq_eq_false_iff_ne.2 (by omega)
                        clear hA hz hlead hk0 hm hc hlast hgood h44
                        go_wp2_with (go_at_call 34; refine (LD.out).mono ?_; rintro e w' ⟨rfl, rfl⟩)
                        go_region
                        go_wp2
                        refine bodyPost_ret (v := .tuple #[.int .u8 0, .agg #[.int .i64 f0, .int .i64 f1, .int .i64 f2, .int .i64 v], .bool false]) (by simp [results, Try.results27, go_sem, e0, e1, e2, e3]) rfl ⟨by rw [HA.out]; rfl, ?_⟩
                        exact below_drewN (((((HB.out.setCell (Nat.le_refl _) _).setCell (Nat.le_refl _) _).setCell (Nat.le_refl _) _).setCell (Nat.le_refl _) _).setCell (Nat.le_refl _) _) 1
                · have HA : Hid (A = fail [f0, f1, f2, v]) := q_fail hA hm hlead hk0 (fun d hd => by have := (List.getElem?_eq_some_iff.1 hd).1; rw [NT.out] at this; omega)
                  have hql : ((i : Int) + (k : Int) == (n : Int) - 1) = false := beq_eq_false_iff_ne.2 (by omega)
                  clear hA hz hlead hk0 hm
                  go_wp2_with (go_at_call 34; refine (LD.out).mono ?_; rintro e w' ⟨rfl, rfl⟩)
                  go_region
                  go_wp2
                  refine bodyPost_ret (v := .tuple #[.int .u8 0, .agg #[.int .i64 f0, .int .i64 f1, .int .i64 f2, .int .i64 v], .bool false]) (by simp [results, Try.results27, go_sem, e0, e1, e2, e3]) rfl ⟨by rw [HA.out]; rfl, ?_⟩
                  exact below_drewN (((((HB.out.setCell (Nat.le_refl _) _).setCell (Nat.le_refl _) _).setCell (Nat.le_refl _) _).setCell (Nat.le_refl _) _).setCell (Nat.le_refl _) _) 1
            · have hin2 : i = n := by omega
              subst hin2
              have LD := hide' (lead_any ⟨g, 0, none⟩ [] 0 0 rfl (by omega) wr (fun j d hj => by simp at hj))
              have hlead0 : lead 18 0 (T.drop i) = (0, 0) := by rw [List.drop_of_length_le (by rw [NT.out]; exact Nat.le_refl _)]; rfl
              have HA : Hid (A = fail [f0, f1, f2, f3]) := by have h := q_sep hA hm hlead0; rwa [if_pos rfl] at h
              have e00 : lead 18 0 [] = (0, 0) := rfl
              rw [e00] at LD
              clear hA hz hlead hlead0 hm e00
              go_wp2_with (go_at_call 34; refine (LD.out).mono ?_; rintro e w' ⟨rfl, rfl⟩)
              go_region
              go_wp2
              refine bodyPost_ret (v := .tuple #[.int .u8 0, .agg #[.int .i64 f0, .int .i64 f1, .int .i64 f2, .int .i64 f3], .bool false]) (by simp [results, Try.results27, go_sem, e0, e1, e2, e3]) rfl ⟨by rw [HA.out]; rfl, ?_⟩
              exact below_drewN ((((HB.out.setCell (Nat.le_refl _) _).setCell (Nat.le_refl _) _).setCell (Nat.le_refl _) _).setCell (Nat.le_refl _) _) 1
          · have HMN : Hid (minus1 (T.drop i) = false) := by unfold Hid; rw [Bool.eq_false_iff]; exact fun h => hm ⟨rfl, h⟩
            by_cases hin : i < n
            · have LD := hide' (lead_any ⟨g, i, none⟩ (T.drop i) (n - i) (n - i) (by simp [NT.out]) (by omega) wr (fun j d hj => by
                have hadd : (⟨g, i, none⟩ : Addr).add j = ⟨g, i + j, none⟩ := by unfold Addr.add; split <;> simp_all
                rw [hadd]
                rw [List.getElem?_drop] at hj
                exact ucs_cell HGW.out hj))
              rw [hlead] at LD
              have hkle : i + k ≤ n := by
                have := lead_le 18 0 (T.drop i)
                rw [hlead, List.length_drop, NT.out] at this
                simp at this
                omega
              by_cases hk0 : k = 0
              · have hkq : ((k : Int) == 0) = true := beq_iff_eq.2 (by omega)
                have HA : Hid (A = fail [f0, f1, f2, f3]) := by have h := q_sep hA hm hlead; rwa [if_pos hk0] at h
                clear hA hz hlead hk0 hm
                go_wp2_with (first | (go_at_call 33; refine (hasAt_any g T n i NT.out hb hi wr HGW.out).mono ?_; rw [HMN.out]; rintro e w' ⟨rfl, rfl⟩) | (go_at_call 34; refine (LD.out).mono ?_; rintro e w' ⟨rfl, rfl⟩))
                go_region
                go_wp2
                refine bodyPost_ret (v := .tuple #[.int .u8 0, .agg #[.int .i64 f0, .int .i64 f1, .int .i64 f2, .int .i64 f3], .bool false]) (by simp [results, Try.results27, go_sem, e0, e1, e2, e3]) rfl ⟨by rw [HA.out]; rfl, ?_⟩
                exact below_drewN ((((HB.out.setCell (Nat.le_refl _) _).setCell (Nat.le_refl _) _).setCell (Nat.le_refl _) _).setCell (Nat.le_refl _) _) 1
              · have hkq : ((k : Int) == 0) = false := beq_eq_false_iff_ne.2 (by omega)
                by_cases hend : i + k < n
                · obtain ⟨c, hc⟩ : ∃ c, T[i + k]? = some c := ⟨_, List.getElem?_eq_getElem (by rw [NT.out]; exact hend)⟩
                  have hcell : wr.cell? ⟨g, i + k, none⟩ = some (.int .u8 (c.toNat : Int)) := ucs_cell HGW.out hc
                  by_cases hgood : c = 41 ∧ i + k + 1 = n
                  · obtain ⟨rfl, hlast⟩ := hgood
                    have HA : Hid (A = fin 2 [f0, f1, f2, v]) := q_ok hA hm hlead hk0 hc (by rw [NT.out]; exact hlast)
                    have hql : ((i : Int) + (k : Int) == (n : Int) - 1) = true := beq_iff_eq.2 (by omega)
                    have hcell' : wr.cell? ⟨g, i + k, none⟩ = some (.int .u8 41) := hcell
                    clear hA hz hlead hk0 hm hc hcell hlast
                    go_wp2_with (first | (go_at_call 33; refine (hasAt_any g T n i NT.out hb hi wr HGW.out).mono ?_; rw [HMN.out]; rintro e w' ⟨rfl, rfl⟩) | (go_at_call 34; refine (LD.out).mono ?_; rintro e w' ⟨rfl, rfl⟩))
                    go_roundw
                    case rel => exact ⟨3 + 1, i + k + 1, f0, f1, f2, v, rfl, by go_num, by go_num, ⟨rfl, by rw [NT.out]; omega, Or.inr ⟨rfl, HA.out⟩⟩, heap_setCell_same wr _ 3 _ 35 _ HR.out, HB.out.setCell (Nat.le_refl _) _⟩
                    case measure => simp [intOf]
                  · have HA : Hid (A = fail [f0, f1, f2, v]) := q_fail hA hm hlead hk0 (fun d hd => by rw [hc] at hd; cases hd; rw [NT.out]; exact hgood)
                    by_cases h44 : c = 44
                    · subst h44
                      have hcell' : wr.cell? ⟨g, i + k, none⟩ = some (.int .u8 44) := hcell
                      by_cases hlast : i + k + 1 = n
                      · have hql : ((i : Int) + (k : Int) == (n : Int) - 1) = true := beq_iff_eq.2 (by omega)
                        clear hA hz hlead hk0 hm hc hcell hlast hgood
                        go_wp2_with (first | (go_at_call 33; refine (hasAt_any g T n i NT.out hb hi wr HGW.out).mono ?_; rw [HMN.out]; rintro e w' ⟨rfl, rfl⟩) | (go_at_call 34; refine (LD.out).mono ?_; rintro e w' ⟨rfl, rfl⟩))
                        go_region
                        go_wp2
                        refine bodyPost_ret (v := .tuple #[.int .u8 0, .agg #[.int .i64 f0, .int .i64 f1, .int .i64 f2, .int .i64 v], .bool false]) (by simp [results, Try.results27, go_sem, e0, e1, e2, e3]) rfl ⟨by rw [HA.out]; rfl, ?_⟩
                        exact below_drewN (((((HB.out.setCell (Nat.le_refl _) _).setCell (Nat.le_refl _) _).setCell (Nat.le_refl _) _).setCell (Nat.le_refl _) _).setCell (Nat.le_refl _) _) 1
                      · have hql : ((i : Int) + (k : Int) == (n : Int) - 1) = false := beq_eq_false_iff_ne.2 (by omega)
                        clear hA hz hlead hk0 hm hc hcell hlast hgood
                        go_wp2_with (first | (go_at_call 33; refine (hasAt_any g T n i NT.out hb hi wr HGW.out).mono ?_; rw [HMN.out]; rintro e w' ⟨rfl, rfl⟩) | (go_at_call 34; refine (LD.out).mono ?_; rintro e w' ⟨rfl, rfl⟩))
                        go_region
                        go_wp2
                        refine bodyPost_ret (v := .tuple #[.int .u8 0, .agg #[.int .i64 f0, .int .i64 f1, .int .i64 f2, .int .i64 v], .bool false]) (by simp [results, Try.results27, go_sem, e0, e1, e2, e3]) rfl ⟨by rw [HA.out]; rfl, ?_⟩
                        exact below_drewN (((((HB.out.setCell (Nat.le_refl _) _).setCell (Nat.le_refl _) _).setCell (Nat.le_refl _) _).setCell (Nat.le_refl _) _).setCell (Nat.le_refl _) _) 1
                    · have q44 : ((c.toNat : Int) == 44) = false := beq_eq_false_iff_ne.2 (fun h => h44 ((u8_int 44 (by decide)).2 h))
                      by_cases hlast : i + k + 1 = n
                      · have hql : ((i : Int) + (k : Int) == (n : Int) - 1) = true := beq_iff_eq.2 (by omega)
                        have q41 : ((c.toNat : Int) == 41) = false := beq_eq_false_iff_ne.2 (fun h => hgood ⟨(u8_int 41 (by decide)).2 h, hlast⟩)
                        clear hA hz hlead hk0 hm hc hlast hgood h44
                        go_wp2_with (first | (go_at_call 33; refine (hasAt_any g T n i NT.out hb hi wr HGW.out).mono ?_; rw [HMN.out]; rintro e w' ⟨rfl, rfl⟩) | (go_at_call 34; refine (LD.out).mono ?_; rintro e w' ⟨rfl, rfl⟩))
                        go_region
                        go_wp2
                        refine bodyPost_ret (v := .tuple #[.int .u8 0, .agg #[.int .i64 f0, .int .i64 f1, .int .i64 f2, .int .i64 v], .bool false]) (by simp [results, Try.results27, go_sem, e0, e1, e2, e3]) rfl ⟨by rw [HA.out]; rfl, ?_⟩
                        exact below_drewN (((((HB.out.setCell (Nat.le_refl _) _).setCell (Nat.le_refl _) _).setCell (Nat.le_refl _) _).setCell (Nat.le_refl _) _).setCell (Nat.le_refl _) _) 1
                      · have hql : ((i : Int) + (k : Int) == (n : Int) - 1) = false := beq_eq_false_iff_ne.2 (by omega)
                        clear hA hz hlead hk0 hm hc hlast hgood h44
                        go_wp2_with (first | (go_at_call 33; refine (hasAt_any g T n i NT.out hb hi wr HGW.out).mono ?_; rw [HMN.out]; rintro e w' ⟨rfl, rfl⟩) | (go_at_call 34; refine (LD.out).mono ?_; rintro e w' ⟨rfl, rfl⟩))
                        go_region
                        go_wp2
                        refine bodyPost_ret (v := .tuple #[.int .u8 0, .agg #[.int .i64 f0, .int .i64 f1, .int .i64 f2, .int .i64 v], .bool false]) (by simp [results, Try.results27, go_sem, e0, e1, e2, e3]) rfl ⟨by rw [HA.out]; rfl, ?_⟩
                        exact below_drewN (((((HB.out.setCell (Nat.le_refl _) _).setCell (Nat.le_refl _) _).setCell (Nat.le_refl _) _).setCell (Nat.le_refl _) _).setCell (Nat.le_refl _) _) 1
                · have HA : Hid (A = fail [f0, f1, f2, v]) := q_fail hA hm hlead hk0 (fun d hd => by have := (List.getElem?_eq_some_iff.1 hd).1; rw [NT.out] at this; omega)
                  have hql : ((i : Int) + (k : Int) == (n : Int) - 1) = false := beq_eq_false_iff_ne.2 (by omega)
                  clear hA hz hlead hk0 hm
                  go_wp2_with (first | (go_at_call 33; refine (hasAt_any g T n i NT.out hb hi wr HGW.out).mono ?_; rw [HMN.out]; rintro e w' ⟨rfl, rfl⟩) | (go_at_call 34; refine (LD.out).mono ?_; rintro e w' ⟨rfl, rfl⟩))
                  go_region
                  go_wp2
                  refine bodyPost_ret (v := .tuple #[.int .u8 0, .agg #[.int .i64 f0, .int .i64 f1, .int .i64 f2, .int .i64 v], .bool false]) (by simp [results, Try.results27, go_sem, e0, e1, e2, e3]) rfl ⟨by rw [HA.out]; rfl, ?_⟩
                  exact below_drewN (((((HB.out.setCell (Nat.le_refl _) _).setCell (Nat.le_refl _) _).setCell (Nat.le_refl _) _).setCell (Nat.le_refl _) _).setCell (Nat.le_refl _) _) 1
            · have hin2 : i = n := by omega
              subst hin2
              have LD := hide' (lead_any ⟨g, 0, none⟩ [] 0 0 rfl (by omega) wr (fun j d hj => by simp at hj))
              have hlead0 : lead 18 0 (T.drop i) = (0, 0) := by rw [List.drop_of_length_le (by rw [NT.out]; exact Nat.le_refl _)]; rfl
              have HA : Hid (A = fail [f0, f1, f2, f3]) := by have h := q_sep hA hm hlead0; rwa [if_pos rfl] at h
              have e00 : lead 18 0 [] = (0, 0) := rfl
              rw [e00] at LD
              clear hA hz hlead hlead0 hm e00
              go_wp2_with (first | (go_at_call 33; refine (hasAt_any g T i i NT.out hb hi wr HGW.out).mono ?_; rw [HMN.out]; rintro e w' ⟨rfl, rfl⟩) | (go_at_call 34; refine (LD.out).mono ?_; rintro e w' ⟨rfl, rfl⟩))
              go_region
              go_wp2
              refine bodyPost_ret (v := .tuple #[.int .u8 0, .agg #[.int .i64 f0, .int .i64 f1, .int .i64 f2, .int .i64 f3], .bool false]) (by simp [results, Try.results27, go_sem, e0, e1, e2, e3]) rfl ⟨by rw [HA.out]; rfl, ?_⟩
              exact below_drewN ((((HB.out.setCell (Nat.le_refl _) _).setCell (Nat.le_refl _) _).setCell (Nat.le_refl _) _).setCell (Nat.le_refl _) _) 1
    · subst hf
      rcases hkd with rfl | rfl
      · have HA : Hid (A = ⟨1, [f0, f1, f2, f3], true⟩) := by unfold Hid; rw [hA]; simp [fin]
        clear hA
        go_wp2
        go_region
        go_wp2
        refine bodyPost_ret (v := .tuple #[.int .u8 1, .agg #[.int .i64 f0, .int .i64 f1, .int .i64 f2, .int .i64 f3], .bool true]) (by simp [results, Try.results27, go_sem, e0, e1, e2, e3]) rfl ⟨by rw [HA.out]; rfl, ?_⟩
        exact below_drewN ((((HB.out.setCell (Nat.le_refl _) _).setCell (Nat.le_refl _) _).setCell (Nat.le_refl _) _).setCell (Nat.le_refl _) _) 1
      · by_cases h10 : f1 = 0
        · subst h10
          have HA : Hid (A = fail [f0, 0, f2, f3]) := by unfold Hid; rw [hA]; simp [fin]
          clear hA
          go_wp2
          go_region
          go_wp2
          refine bodyPost_ret (v := .tuple #[.int .u8 0, .agg #[.int .i64 f0, .int .i64 0, .int .i64 f2, .int .i64 f3], .bool false]) (by simp [results, Try.results27, go_sem, e0, e1, e2, e3]) rfl ⟨by rw [HA.out]; rfl, ?_⟩
          exact below_drewN ((((HB.out.setCell (Nat.le_refl _) _).setCell (Nat.le_refl _) _).setCell (Nat.le_refl _) _).setCell (Nat.le_refl _) _) 1
        · have HA : Hid (A = ⟨2, [f0, f1, f2, f3], true⟩) := by unfold Hid; rw [hA]; simp [fin, h10]
          have h1q : (f1 == 0) = false := beq_eq_false_iff_ne.2 h10
          clear hA h10
          go_wp2
          go_region
          go_wp2
          refine bodyPost_ret (v := .tuple #[.int .u8 2, .agg #[.int .i64 f0, .int .i64 f1, .int .i64 f2, .int .i64 f3], .bool true]) (by simp [results, Try.results27, go_sem, e0, e1, e2, e3]) rfl ⟨by rw [HA.out]; rfl, ?_⟩
          exact below_drewN ((((HB.out.setCell (Nat.le_refl _) _).setCell (Nat.le_refl _) _).setCell (Nat.le_refl _) _).setCell (Nat.le_refl _) _) 1

end Go.Proofs.Qxb6601361a
