/-
  Seat b6601361a: the byte machine's loop, kind 2.
-/
import Derived.Test.Qxb6601361aWalks6
namespace Go.Proofs.Qxb6601361a
open Go.RowKit

set_option maxRecDepth 100000 in
set_option maxHeartbeats 4000000 in
theorem model_loop2 (l : List UInt8) (g n : Nat) (hn : l.length + 2 = n) (hb : n ≤ 1048576) (w : World) (hg : w.heap[g]? = some (.cells (ucs (119 :: 40 :: l)) 5 (0, 0))) (hgl : g < w.heap.size) (A : Ans) (hA : model 2 0 0 0 false zeros l = A) :
    Calls Try.prog 17 #[.slice (some ⟨g, 0, none⟩) n n] w (AnsPost A w) := by
  have HST : Hid (MInv A 2 (119 :: 40 :: l) 0 0 0 false 2 [0, 0, 0, 0]) := ⟨by omega, by omega, by omega, by simp, hA.symm, fun _ => ⟨small_zero, fun j _ => by rcases j with _ | _ | _ | _ | j <;> simp⟩⟩
  clear hA
  have c0 : w.cell? ⟨g, 0, none⟩ = some (.int .u8 119) := ucs_cell (c := 119) hg rfl
  have c1 : w.cell? ⟨g, 1, none⟩ = some (.int .u8 40) := ucs_cell (c := 40) hg rfl
  have HN : Hid (l.length + 2 = n) := hn
  have h2n : 2 ≤ n := by omega
  have HG : Hid (w.heap[g]? = some (.cells (ucs (119 :: 40 :: l)) 5 (0, 0))) := hg
  clear hn hg
  go_enter Try.func17, Try.ntmps17
  go_wp2
  obtain ⟨T, hT⟩ : ∃ T, 119 :: 40 :: l = T := ⟨_, rfl⟩
  rw [hT] at HST HG
  have NT : Hid (T.length = n) := by unfold Hid; rw [← hT, ← HN.out]; rfl
  clear hT HN c0 c1
  go_loopw [7, 8, 9, 10, 11] (fun fv dv mv cv pv wr => ∃ (f d mi p : Nat) (cl : Bool) (f0 f1 f2 f3 : Int), fv = .int .i64 f ∧ dv = .int .i64 d ∧ mv = .int .i64 mi ∧ cv = .bool cl ∧ pv = .int .i64 p ∧ MInv A 2 T f d mi cl p [f0, f1, f2, f3] ∧ wr.heap[w.heap.size + 1]? = some (.cells #[.int .i64 f0, .int .i64 f1, .int .i64 f2, .int .i64 f3] 35 (0, 0)) ∧ wr.heap[w.heap.size]? = some (.cells #[.int .i64 0, .int .i64 0, .int .i64 0, .int .i64 0] 35 (0, 0)) ∧ Below w.heap.size w wr) (fun _ _ _ _ pv _ => n - (intOf pv).toNat)
  case atStart => exact ⟨0, 0, 0, 2, false, 0, 0, 0, 0, rfl, rfl, rfl, rfl, rfl, HST.out, two_new w _ _, two_old w _ _, ((Below.refl _ _).alloc (Nat.le_refl _) _).alloc (by simp) _⟩
  case round =>
    clear HST
    obtain ⟨f, d, mi, p, cl, f0, f1, f2, f3, rfl, rfl, rfl, rfl, rfl, hinv, hr, hr0, hbel⟩ := hrel
    obtain ⟨hf, hd, hmi, hp, hA, hcl⟩ := hinv
    rw [NT.out] at hp
    have hgw : wr.heap[g]? = some (.cells (ucs T) 5 (0, 0)) := (hbel.block g hgl).trans HG.out
    have e0 : wr.cell? ⟨w.heap.size + 1, 0, none⟩ = some (.int .i64 f0) := by rw [cell_of_row wr _ 0 _ 35 _ hr]; rfl
    have z0 : wr.frozen? ⟨w.heap.size + 1, 0, none⟩ = false := frozen_of_row wr _ 0 _ 35 hr
    have r0 : wr.cell? ⟨w.heap.size, 0, none⟩ = some (.int .i64 0) := by rw [cell_of_row wr _ 0 _ 35 _ hr0]; rfl
    have y0 : wr.frozen? ⟨w.heap.size, 0, none⟩ = false := frozen_of_row wr _ 0 _ 35 hr0
    have e1 : wr.cell? ⟨w.heap.size + 1, 1, none⟩ = some (.int .i64 f1) := by rw [cell_of_row wr _ 1 _ 35 _ hr]; rfl
    have z1 : wr.frozen? ⟨w.heap.size + 1, 1, none⟩ = false := frozen_of_row wr _ 1 _ 35 hr
    have r1 : wr.cell? ⟨w.heap.size, 1, none⟩ = some (.int .i64 0) := by rw [cell_of_row wr _ 1 _ 35 _ hr0]; rfl
    have y1 : wr.frozen? ⟨w.heap.size, 1, none⟩ = false := frozen_of_row wr _ 1 _ 35 hr0
    have e2 : wr.cell? ⟨w.heap.size + 1, 2, none⟩ = some (.int .i64 f2) := by rw [cell_of_row wr _ 2 _ 35 _ hr]; rfl
    have z2 : wr.frozen? ⟨w.heap.size + 1, 2, none⟩ = false := frozen_of_row wr _ 2 _ 35 hr
    have r2 : wr.cell? ⟨w.heap.size, 2, none⟩ = some (.int .i64 0) := by rw [cell_of_row wr _ 2 _ 35 _ hr0]; rfl
    have y2 : wr.frozen? ⟨w.heap.size, 2, none⟩ = false := frozen_of_row wr _ 2 _ 35 hr0
    have e3 : wr.cell? ⟨w.heap.size + 1, 3, none⟩ = some (.int .i64 f3) := by rw [cell_of_row wr _ 3 _ 35 _ hr]; rfl
    have z3 : wr.frozen? ⟨w.heap.size + 1, 3, none⟩ = false := frozen_of_row wr _ 3 _ 35 hr
    have r3 : wr.cell? ⟨w.heap.size, 3, none⟩ = some (.int .i64 0) := by rw [cell_of_row wr _ 3 _ 35 _ hr0]; rfl
    have y3 : wr.frozen? ⟨w.heap.size, 3, none⟩ = false := frozen_of_row wr _ 3 _ 35 hr0
    have HR : Hid (wr.heap[w.heap.size + 1]? = some (.cells #[.int .i64 f0, .int .i64 f1, .int .i64 f2, .int .i64 f3] 35 (0, 0))) := hr
    have HR0 : Hid (wr.heap[w.heap.size]? = some (.cells #[.int .i64 0, .int .i64 0, .int .i64 0, .int .i64 0] 35 (0, 0))) := hr0
    have HB : Hid (Below w.heap.size w wr) := hbel
    have HGW : Hid (wr.heap[g]? = some (.cells (ucs T) 5 (0, 0))) := hgw
    clear hr hr0 hbel hgw
    by_cases hpn : p < n
    · obtain ⟨c, hc⟩ : ∃ c, T[p]? = some c := ⟨_, List.getElem?_eq_getElem (by rw [NT.out]; exact hpn)⟩
      have hcell : wr.cell? ⟨g, p, none⟩ = some (.int .u8 (c.toNat : Int)) := ucs_cell HGW.out hc
      have hA' := m_cons hA hc
      have hpT : p + 1 ≤ T.length := by rw [NT.out]; omega
      have HPT : Hid (p + 1 ≤ T.length) := hpT
      clear hpT
      cases cl with
      | true =>
        have HA : Hid (A = fail [f0, f1, f2, f3]) := by rw [if_pos rfl] at hA'; exact hA'
        clear hA hc hA' hcl
        go_wp2
        go_region
        go_wp2
        refine bodyPost_ret (v := .tuple #[.int .u8 0, .agg #[.int .i64 f0, .int .i64 f1, .int .i64 f2, .int .i64 f3], .bool false]) (by simp [results, Try.results17, go_sem, r0, r1, r2, r3]) rfl ⟨by rw [HA.out]; rfl, ?_⟩
        exact below_drewN ((((HB.out.setCell (Nat.le_refl _) _).setCell (Nat.le_refl _) _).setCell (Nat.le_refl _) _).setCell (Nat.le_refl _) _) 1
      | false =>
        rw [if_neg (by decide)] at hA'
        have hc8 := c.toNat_lt
        obtain ⟨hsm, hz⟩ := hcl rfl
        rcases (show mi = 0 ∨ mi = 1 ∨ mi = 2 by omega) with rfl | rfl | rfl
        · -- minus 0
          rw [if_neg (by decide), if_neg (by decide)] at hA'
          by_cases hdg : isDig c = true
          · rw [if_pos hdg] at hA'
            have hdg' := hdg
            unfold isDig at hdg'
            rw [decide_eq_true_eq] at hdg'
            obtain ⟨g1, g2⟩ := hdg'
            by_cases h18 : d = 18
            · subst h18
              have HA : Hid (A = fail [f0, f1, f2, f3]) := by rw [if_pos rfl] at hA'; exact hA'
              clear hA hz hc hA' hsm hcl hdg
              go_wp2
              go_region
              go_wp2
              refine bodyPost_ret (v := .tuple #[.int .u8 0, .agg #[.int .i64 f0, .int .i64 f1, .int .i64 f2, .int .i64 f3], .bool false]) (by simp [results, Try.results17, go_sem, r0, r1, r2, r3]) rfl ⟨by rw [HA.out]; rfl, ?_⟩
              exact below_drewN ((((HB.out.setCell (Nat.le_refl _) _).setCell (Nat.le_refl _) _).setCell (Nat.le_refl _) _).setCell (Nat.le_refl _) _) 1
            · have q18 : ((d : Int) == 18) = false := beq_eq_false_iff_ne.2 (by omega)
              have hmd := m_dig hA hc hdg (by omega) hf rfl hsm hz
              have h10 := (show Small _ ((18 - (d + 1)) + 1) by rw [show (18 - (d + 1)) + 1 = 18 - d by omega]; exact hsm).ten
              have hs0 := hsm.1
              have hsl := hsm.lt
              rcases (show f = 0 ∨ f = 1 ∨ f = 2 ∨ f = 3 by omega) with rfl | rfl | rfl | rfl
              · -- field 0
                have h10' : f0 * 10 + 10 ≤ 1000000000000000000 := h10
                have hs0' : 0 ≤ f0 := hs0
                have hsl' : f0 < 1000000000000000000 := hsl
                have HP : Hid (MInv A 2 T 0 (d + 1) 0 false (p + 1) [(f0 * 10 + dig c), f1, f2, f3]) := hmd
                clear hA hz hc hA' hsm hcl hmd h10 hs0 hsl hdg
                go_wp2
                go_roundw
                case rel => exact ⟨0, d + 1, 0, p + 1, false, (f0 * 10 + dig c), f1, f2, f3, by go_num, by go_num, by go_num, rfl, by go_num, HP.out, row_set (.int .i64 (f0 * 10 + dig c)) HR.out (by unfold dig; go_num) rfl, (heap_setCell_other wr _ _ _ (by simp)).trans HR0.out, HB.out.setCell (Nat.le_succ _) _⟩
                case measure => simp [intOf]; omega
              · -- field 1
                have h10' : f1 * 10 + 10 ≤ 1000000000000000000 := h10
                have hs0' : 0 ≤ f1 := hs0
                have hsl' : f1 < 1000000000000000000 := hsl
                have HP : Hid (MInv A 2 T 1 (d + 1) 0 false (p + 1) [f0, (f1 * 10 + dig c), f2, f3]) := hmd
                clear hA hz hc hA' hsm hcl hmd h10 hs0 hsl hdg
                go_wp2
                go_roundw
                case rel => exact ⟨1, d + 1, 0, p + 1, false, f0, (f1 * 10 + dig c), f2, f3, by go_num, by go_num, by go_num, rfl, by go_num, HP.out, row_set (.int .i64 (f1 * 10 + dig c)) HR.out (by unfold dig; go_num) rfl, (heap_setCell_other wr _ _ _ (by simp)).trans HR0.out, HB.out.setCell (Nat.le_succ _) _⟩
                case measure => simp [intOf]; omega
              · -- field 2
                have h10' : f2 * 10 + 10 ≤ 1000000000000000000 := h10
                have hs0' : 0 ≤ f2 := hs0
                have hsl' : f2 < 1000000000000000000 := hsl
                have HP : Hid (MInv A 2 T 2 (d + 1) 0 false (p + 1) [f0, f1, (f2 * 10 + dig c), f3]) := hmd
                clear hA hz hc hA' hsm hcl hmd h10 hs0 hsl hdg
                go_wp2
                go_roundw
                case rel => exact ⟨2, d + 1, 0, p + 1, false, f0, f1, (f2 * 10 + dig c), f3, by go_num, by go_num, by go_num, rfl, by go_num, HP.out, row_set (.int .i64 (f2 * 10 + dig c)) HR.out (by unfold dig; go_num) rfl, (heap_setCell_other wr _ _ _ (by simp)).trans HR0.out, HB.out.setCell (Nat.le_succ _) _⟩
                case measure => simp [intOf]; omega
              · -- field 3
                have h10' : f3 * 10 + 10 ≤ 1000000000000000000 := h10
                have hs0' : 0 ≤ f3 := hs0
                have hsl' : f3 < 1000000000000000000 := hsl
                have HP : Hid (MInv A 2 T 3 (d + 1) 0 false (p + 1) [f0, f1, f2, (f3 * 10 + dig c)]) := hmd
                clear hA hz hc hA' hsm hcl hmd h10 hs0 hsl hdg
                go_wp2
                go_roundw
                case rel => exact ⟨3, d + 1, 0, p + 1, false, f0, f1, f2, (f3 * 10 + dig c), by go_num, by go_num, by go_num, rfl, by go_num, HP.out, row_set (.int .i64 (f3 * 10 + dig c)) HR.out (by unfold dig; go_num) rfl, (heap_setCell_other wr _ _ _ (by simp)).trans HR0.out, HB.out.setCell (Nat.le_succ _) _⟩
                case measure => simp [intOf]; omega
          · rw [if_neg hdg] at hA'
            have hg' : c.toNat < 48 ∨ 57 < c.toNat := by unfold isDig at hdg; simp at hdg; omega
            by_cases n45 : c = 45
            · subst n45
              have hcell' : wr.cell? ⟨g, p, none⟩ = some (.int .u8 45) := hcell
              clear hcell hg' hc8
              by_cases h3 : f = 3
              · subst h3
                by_cases h0 : d = 0
                · subst h0
                  have HP : Hid (MInv A 2 T 3 0 1 false (p + 1) [f0, f1, f2, f3]) := by rw [if_pos ⟨rfl, rfl, rfl, rfl⟩] at hA'; exact ⟨hf, hd, by omega, HPT.out, hA', fun _ => ⟨hsm, hz⟩⟩
                  clear hA hz hc hA' hsm hcl hdg
                  go_wp2
                  go_roundw
                  case rel => exact ⟨3, 0, 1, p + 1, false, f0, f1, f2, f3, by go_num, by go_num, by go_num, rfl, by go_num, HP.out, HR.out, HR0.out, HB.out⟩
                  case measure => simp [intOf]; omega
                · have q0 : ((d : Int) == 0) = false := beq_eq_false_iff_ne.2 (by omega)
                  have HA : Hid (A = fail [f0, f1, f2, f3]) := by rw [if_neg (fun h => h0 h.2.2.2), if_neg (fun h => absurd h.1 (by decide)), if_neg (fun h => absurd h.1 (by decide))] at hA'; exact hA'
                  clear hA hz hc hA' hsm hcl hdg
                  go_wp2
                  go_region
                  go_wp2
                  refine bodyPost_ret (v := .tuple #[.int .u8 0, .agg #[.int .i64 f0, .int .i64 f1, .int .i64 f2, .int .i64 f3], .bool false]) (by simp [results, Try.results17, go_sem, r0, r1, r2, r3]) rfl ⟨by rw [HA.out]; rfl, ?_⟩
                  exact below_drewN ((((HB.out.setCell (Nat.le_refl _) _).setCell (Nat.le_refl _) _).setCell (Nat.le_refl _) _).setCell (Nat.le_refl _) _) 1
              · have q3 : ((f : Int) == 3) = false := beq_eq_false_iff_ne.2 (by omega)
                have HA : Hid (A = fail [f0, f1, f2, f3]) := by rw [if_neg (fun h => h3 h.2.2.1), if_neg (fun h => absurd h.1 (by decide)), if_neg (fun h => absurd h.1 (by decide))] at hA'; exact hA'
                clear hA hz hc hA' hsm hcl hdg
                go_wp2
                go_region
                go_wp2
                refine bodyPost_ret (v := .tuple #[.int .u8 0, .agg #[.int .i64 f0, .int .i64 f1, .int .i64 f2, .int .i64 f3], .bool false]) (by simp [results, Try.results17, go_sem, r0, r1, r2, r3]) rfl ⟨by rw [HA.out]; rfl, ?_⟩
                exact below_drewN ((((HB.out.setCell (Nat.le_refl _) _).setCell (Nat.le_refl _) _).setCell (Nat.le_refl _) _).setCell (Nat.le_refl _) _) 1
            · have q45 : ((c.toNat : Int) == 45) = false := beq_eq_false_iff_ne.2 (fun h => n45 ((u8_int 45 (by decide)).2 h))
              rw [if_neg (fun h => n45 h.1)] at hA'
              by_cases n44 : c = 44
              · subst n44
                have hcell' : wr.cell? ⟨g, p, none⟩ = some (.int .u8 44) := hcell
                clear hcell hg' hc8 q45 n45
                by_cases h3 : f < 3
                · by_cases h0 : 0 < d
                  · have HP : Hid (MInv A 2 T (f + 1) 0 0 false (p + 1) [f0, f1, f2, f3]) := by rw [if_pos ⟨rfl, h3, h0⟩] at hA'; exact ⟨by omega, by omega, by omega, HPT.out, hA', fun _ => ⟨by rw [hz (f + 1) (by omega)]; exact small_zero, fun j hj => hz j (by omega)⟩⟩
                    clear hA hz hc hA' hsm hcl hdg
                    go_wp2
                    go_roundw
                    case rel => exact ⟨f + 1, 0, 0, p + 1, false, f0, f1, f2, f3, by go_num, by go_num, by go_num, rfl, by go_num, HP.out, HR.out, HR0.out, HB.out⟩
                    case measure => simp [intOf]; omega
                  · have hd0 : d = 0 := by omega
                    subst hd0
                    have HA : Hid (A = fail [f0, f1, f2, f3]) := by rw [if_neg (fun h => h0 h.2.2), if_neg (fun h => absurd h.1 (by decide))] at hA'; exact hA'
                    clear hA hz hc hA' hsm hcl hdg h0
                    go_wp2
                    go_region
                    go_wp2
                    refine bodyPost_ret (v := .tuple #[.int .u8 0, .agg #[.int .i64 f0, .int .i64 f1, .int .i64 f2, .int .i64 f3], .bool false]) (by simp [results, Try.results17, go_sem, r0, r1, r2, r3]) rfl ⟨by rw [HA.out]; rfl, ?_⟩
                    exact below_drewN ((((HB.out.setCell (Nat.le_refl _) _).setCell (Nat.le_refl _) _).setCell (Nat.le_refl _) _).setCell (Nat.le_refl _) _) 1
                · have hf3 : f = 3 := by omega
                  subst hf3
                  have HA : Hid (A = fail [f0, f1, f2, f3]) := by rw [if_neg (fun h => h3 h.2.1), if_neg (fun h => absurd h.1 (by decide))] at hA'; exact hA'
                  clear hA hz hc hA' hsm hcl hdg h3
                  go_wp2
                  go_region
                  go_wp2
                  refine bodyPost_ret (v := .tuple #[.int .u8 0, .agg #[.int .i64 f0, .int .i64 f1, .int .i64 f2, .int .i64 f3], .bool false]) (by simp [results, Try.results17, go_sem, r0, r1, r2, r3]) rfl ⟨by rw [HA.out]; rfl, ?_⟩
                  exact below_drewN ((((HB.out.setCell (Nat.le_refl _) _).setCell (Nat.le_refl _) _).setCell (Nat.le_refl _) _).setCell (Nat.le_refl _) _) 1
              · have q44 : ((c.toNat : Int) == 44) = false := beq_eq_false_iff_ne.2 (fun h => n44 ((u8_int 44 (by decide)).2 h))
                rw [if_neg (fun h => n44 h.1)] at hA'
                by_cases n41 : c = 41
                · subst n41
                  have hcell' : wr.cell? ⟨g, p, none⟩ = some (.int .u8 41) := hcell
                  clear hcell hg' hc8 q45 n45 q44 n44
                  by_cases h3 : f = 3
                  · subst h3
                    by_cases h0 : 0 < d
                    · have HP : Hid (MInv A 2 T 3 d 0 true (p + 1) [f0, f1, f2, f3]) := by rw [if_pos ⟨rfl, rfl, h0⟩] at hA'; exact ⟨hf, hd, by omega, HPT.out, hA', fun h => by cases h⟩
                      clear hA hz hc hA' hsm hcl hdg
                      go_wp2
                      go_roundw
                      case rel => exact ⟨3, d, 0, p + 1, true, f0, f1, f2, f3, by go_num, by go_num, by go_num, rfl, by go_num, HP.out, HR.out, HR0.out, HB.out⟩
                      case measure => simp [intOf]; omega
                    · have hd0 : d = 0 := by omega
                      subst hd0
                      have HA : Hid (A = fail [f0, f1, f2, f3]) := by rw [if_neg (fun h => h0 h.2.2)] at hA'; exact hA'
                      clear hA hz hc hA' hsm hcl hdg h0
                      go_wp2
                      go_region
                      go_wp2
                      refine bodyPost_ret (v := .tuple #[.int .u8 0, .agg #[.int .i64 f0, .int .i64 f1, .int .i64 f2, .int .i64 f3], .bool false]) (by simp [results, Try.results17, go_sem, r0, r1, r2, r3]) rfl ⟨by rw [HA.out]; rfl, ?_⟩
                      exact below_drewN ((((HB.out.setCell (Nat.le_refl _) _).setCell (Nat.le_refl _) _).setCell (Nat.le_refl _) _).setCell (Nat.le_refl _) _) 1
                  · have q3 : ((f : Int) == 3) = false := beq_eq_false_iff_ne.2 (by omega)
                    have HA : Hid (A = fail [f0, f1, f2, f3]) := by rw [if_neg (fun h => h3 h.2.1)] at hA'; exact hA'
                    clear hA hz hc hA' hsm hcl hdg
                    go_wp2
                    go_region
                    go_wp2
                    refine bodyPost_ret (v := .tuple #[.int .u8 0, .agg #[.int .i64 f0, .int .i64 f1, .int .i64 f2, .int .i64 f3], .bool false]) (by simp [results, Try.results17, go_sem, r0, r1, r2, r3]) rfl ⟨by rw [HA.out]; rfl, ?_⟩
                    exact below_drewN ((((HB.out.setCell (Nat.le_refl _) _).setCell (Nat.le_refl _) _).setCell (Nat.le_refl _) _).setCell (Nat.le_refl _) _) 1
                · have q41 : ((c.toNat : Int) == 41) = false := beq_eq_false_iff_ne.2 (fun h => n41 ((u8_int 41 (by decide)).2 h))
                  rw [if_neg (fun h => n41 h.1)] at hA'
                  have HA : Hid (A = fail [f0, f1, f2, f3]) := hA'
                  clear hA hz hc hA' hsm hcl hdg n45 n44 n41
                  rcases hg' with hlt | hgt
                  · go_wp2
                    go_region
                    go_wp2
                    refine bodyPost_ret (v := .tuple #[.int .u8 0, .agg #[.int .i64 f0, .int .i64 f1, .int .i64 f2, .int .i64 f3], .bool false]) (by simp [results, Try.results17, go_sem, r0, r1, r2, r3]) rfl ⟨by rw [HA.out]; rfl, ?_⟩
                    exact below_drewN ((((HB.out.setCell (Nat.le_refl _) _).setCell (Nat.le_refl _) _).setCell (Nat.le_refl _) _).setCell (Nat.le_refl _) _) 1
                  · go_wp2
                    go_region
                    go_wp2
                    refine bodyPost_ret (v := .tuple #[.int .u8 0, .agg #[.int .i64 f0, .int .i64 f1, .int .i64 f2, .int .i64 f3], .bool false]) (by simp [results, Try.results17, go_sem, r0, r1, r2, r3]) rfl ⟨by rw [HA.out]; rfl, ?_⟩
                    exact below_drewN ((((HB.out.setCell (Nat.le_refl _) _).setCell (Nat.le_refl _) _).setCell (Nat.le_refl _) _).setCell (Nat.le_refl _) _) 1
        · -- minus 1
          rw [if_pos rfl] at hA'
          by_cases n49 : c = 49
          · subst n49
            have hcell' : wr.cell? ⟨g, p, none⟩ = some (.int .u8 49) := hcell
            clear hcell hc8
            have HP : Hid (MInv A 2 T f d 2 false (p + 1) [f0, f1, f2, f3]) := by rw [if_pos rfl] at hA'; exact ⟨hf, hd, by omega, HPT.out, hA', fun _ => ⟨hsm, hz⟩⟩
            clear hA hz hc hA' hsm hcl
            go_wp2
            go_roundw
            case rel => exact ⟨f, d, 2, p + 1, false, f0, f1, f2, f3, by go_num, by go_num, by go_num, rfl, by go_num, HP.out, HR.out, HR0.out, HB.out⟩
            case measure => simp [intOf]; omega
          · have q49 : ((c.toNat : Int) == 49) = false := beq_eq_false_iff_ne.2 (fun h => n49 ((u8_int 49 (by decide)).2 h))
            have HA : Hid (A = fail [f0, f1, f2, f3]) := by rw [if_neg n49] at hA'; exact hA'
            clear hA hz hc hA' hsm hcl n49
            go_wp2
            go_region
            go_wp2
            refine bodyPost_ret (v := .tuple #[.int .u8 0, .agg #[.int .i64 f0, .int .i64 f1, .int .i64 f2, .int .i64 f3], .bool false]) (by simp [results, Try.results17, go_sem, r0, r1, r2, r3]) rfl ⟨by rw [HA.out]; rfl, ?_⟩
            exact below_drewN ((((HB.out.setCell (Nat.le_refl _) _).setCell (Nat.le_refl _) _).setCell (Nat.le_refl _) _).setCell (Nat.le_refl _) _) 1
        · -- minus 2
          rw [if_neg (by decide), if_pos rfl] at hA'
          by_cases n41 : c = 41
          · subst n41
            have hcell' : wr.cell? ⟨g, p, none⟩ = some (.int .u8 41) := hcell
            clear hcell hc8
            have HP : Hid (MInv A 2 T f d 2 true (p + 1) [f0, f1, f2, -1]) := by rw [if_pos rfl] at hA'; exact ⟨hf, hd, by omega, HPT.out, hA', fun h => by cases h⟩
            clear hA hz hc hA' hsm hcl
            go_wp2
            go_roundw
            case rel => exact ⟨f, d, 2, p + 1, true, f0, f1, f2, -1, by go_num, by go_num, by go_num, rfl, by go_num, HP.out, heap_setCell_same wr _ 3 _ 35 _ HR.out, (heap_setCell_other wr _ _ _ (by simp)).trans HR0.out, HB.out.setCell (Nat.le_succ _) _⟩
            case measure => simp [intOf]; omega
          · have q41 : ((c.toNat : Int) == 41) = false := beq_eq_false_iff_ne.2 (fun h => n41 ((u8_int 41 (by decide)).2 h))
            have HA : Hid (A = fail [f0, f1, f2, f3]) := by rw [if_neg n41] at hA'; exact hA'
            clear hA hz hc hA' hsm hcl n41
            go_wp2
            go_region
            go_wp2
            refine bodyPost_ret (v := .tuple #[.int .u8 0, .agg #[.int .i64 f0, .int .i64 f1, .int .i64 f2, .int .i64 f3], .bool false]) (by simp [results, Try.results17, go_sem, r0, r1, r2, r3]) rfl ⟨by rw [HA.out]; rfl, ?_⟩
            exact below_drewN ((((HB.out.setCell (Nat.le_refl _) _).setCell (Nat.le_refl _) _).setCell (Nat.le_refl _) _).setCell (Nat.le_refl _) _) 1
    · have hA' := m_nil hA (by rw [NT.out]; omega)
      cases cl with
      | false =>
        have HA : Hid (A = fail [f0, f1, f2, f3]) := by rw [if_neg (by decide)] at hA'; exact hA'
        clear hA hA' hcl
        go_wp2
        go_region
        go_wp2
        refine bodyPost_ret (v := .tuple #[.int .u8 0, .agg #[.int .i64 f0, .int .i64 f1, .int .i64 f2, .int .i64 f3], .bool false]) (by simp [results, Try.results17, go_sem, r0, r1, r2, r3]) rfl ⟨by rw [HA.out]; rfl, ?_⟩
        exact below_drewN ((((HB.out.setCell (Nat.le_refl _) _).setCell (Nat.le_refl _) _).setCell (Nat.le_refl _) _).setCell (Nat.le_refl _) _) 1
      | true =>
        rw [if_pos rfl] at hA'
        by_cases h10 : f1 = 0
        · subst h10
          have HA : Hid (A = fail [f0, 0, f2, f3]) := by unfold Hid; rw [hA']; simp [fin]
          clear hA hA' hcl
          go_wp2
          go_region
          go_wp2
          refine bodyPost_ret (v := .tuple #[.int .u8 0, .agg #[.int .i64 f0, .int .i64 0, .int .i64 f2, .int .i64 f3], .bool false]) (by simp [results, Try.results17, go_sem, r0, r1, r2, r3]) rfl ⟨by rw [HA.out]; rfl, ?_⟩
          exact below_drewN ((((HB.out.setCell (Nat.le_refl _) _).setCell (Nat.le_refl _) _).setCell (Nat.le_refl _) _).setCell (Nat.le_refl _) _) 1
        · have HA : Hid (A = ⟨2, [f0, f1, f2, f3], true⟩) := by unfold Hid; rw [hA']; simp [fin, h10]
          have h1q : (f1 == 0) = false := beq_eq_false_iff_ne.2 h10
          clear hA hA' hcl h10
          go_wp2
          go_region
          go_wp2
          refine bodyPost_ret (v := .tuple #[.int .u8 2, .agg #[.int .i64 f0, .int .i64 f1, .int .i64 f2, .int .i64 f3], .bool true]) (by simp [results, Try.results17, go_sem, r0, r1, r2, r3]) rfl ⟨by rw [HA.out]; rfl, ?_⟩
          exact below_drewN ((((HB.out.setCell (Nat.le_refl _) _).setCell (Nat.le_refl _) _).setCell (Nat.le_refl _) _).setCell (Nat.le_refl _) _) 1

end Go.Proofs.Qxb6601361a
