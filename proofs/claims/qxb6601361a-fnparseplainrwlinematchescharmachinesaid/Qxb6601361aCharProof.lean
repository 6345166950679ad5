/-
  Seat b6601361a: FnParsePlainRWLineMatchesCharMachineSaid, on the given shell.
-/
import Derived.Test.Qxb6601361aRows
import Derived.Test.Qxb6601361aWalks11
import Derived.WalkKit
import Derived.ProofKit
import Derived.OpenShut
import Derived.ShutString
import Derived.ChangeOld
import Derived.Below
namespace Go.Proofs.Qxb6601361a.fnParsePlainRWLineMatchesCharMachine
open Go.ChangeShapes Go.WideShapes Go.ChangeAt Go.RowKit
open Go.ChangeMaps (open_string shut_string)
set_option linter.unusedVariables false

theorem own : ownKnob Try.prog.godebug = none := by kernel_rfl
theorem laidOut : laidOutB Try.prog = true := by kernel_rfl

/-- WHAT THE WALK IS TOLD OF A SLICE OF INTEGERS THAT CAME IN: it is nil; or it leads to a row of 'cap' cells, the numbers 'zs' (the first 'len' are its elements, the rest its spare room), each fitting its kind. -/
def IsRow (k : IntKind) (w : World) (a : Option Addr) (len cap : Nat) (zs : List Int) : Prop :=
  (a = none ∧ len = 0 ∧ cap = 0 ∧ zs = []) ∨
  ∃ x, a = some x ∧ len ≤ cap ∧ cap ≤ maxLen ∧ zs.length = cap ∧ (∀ i, i < zs.length → w.cell? (x.add i) = some (.int k (zs.getD i 0))) ∧ ∀ n ∈ zs, (Lit.int k n).wf = true

/-- A number as a byte. -/
def byteOf (z : Int) : UInt8 := UInt8.ofNat z.toNat
theorem byteOf_int {z : Int} (h : (Lit.int .u8 z).wf = true) : ((byteOf z).toNat : Int) = z := by
  have hz : 0 ≤ z ∧ z < 256 := by
    simp [Lit.wf] at h
    have e1 : IntKind.u8.min = 0 := by rfl
    have e2 : IntKind.u8.max = 255 := by rfl
    omega
  unfold byteOf
  have : (UInt8.ofNat z.toNat).toNat = z.toNat % 256 := by simp
  rw [this]
  omega

/-! ### STEP 1: THE WALK: the Go text returns true, AND WRITES NOTHING THAT WAS THERE: 'Below w.heap.size w w'' (Derived/Below.lean: '.refl', '.alloc', '.drew', '.setCell' at a new block, '.trans'). Open each 'IsRow' by 'rcases' AHEAD of 'go_enter'; part every test ahead of the walk. -/
theorem walk (a0 : Option Addr) (len0 cap0 : Nat) (z0 : List Int) (w : World) (w0 : IsRow .u8 w a0 len0 cap0 z0) :
    Calls Try.prog 5 #[.slice a0 len0 cap0] w fun e w' => e = .returned (.bool true) ∧ Below w.heap.size w w' := by
  rcases w0 with ⟨rfl, rfl, rfl, rfl⟩ | ⟨x, rfl, hl, hm, hz, hcell, hwf⟩
  · exact law none 0 0 (Nat.zero_le _) (ansOf []) (ansOf_len []) w (fun _ => (clone_nil w).mono fun e w' h => clp_of (by simp) h)
  · obtain ⟨T, hT⟩ : ∃ T, (z0.take len0).map byteOf = T := ⟨_, rfl⟩
    have hlen : T.length = len0 := by rw [← hT, List.length_map, List.length_take]; omega
    have hcells : ∀ i d, T[i]? = some d → w.cell? (x.add i) = some (.int .u8 (d.toNat : Int)) := by
      intro i d hd
      rw [← hT, List.getElem?_map, Option.map_eq_some_iff] at hd
      obtain ⟨z, hz1, rfl⟩ := hd
      have hi : i < len0 := by
        have := (List.getElem?_eq_some_iff.1 hz1).1
        rw [List.length_take] at this
        omega
      rw [List.getElem?_take, if_pos hi] at hz1
      have hc := hcell i (by omega)
      rw [List.getD_eq_getElem?_getD, hz1] at hc
      rw [hc, byteOf_int (hwf z (List.mem_of_getElem? hz1))]
      rfl
    exact law (some x) len0 cap0 (by omega) (ansOf T) (ansOf_len T) w (fun hb => (clone_some x T len0 cap0 hlen hb w hcells).mono fun e w' h => clp_of (by omega) h)

/-! ### THE ROW's STEP: WRITTEN OUT: LEAVE IT -/
set_option maxRecDepth 100000 in
theorem lifted (os : Os) (started : os.Started) (H : Type) (enc : TypeId × Value → H) :
    ReturnsInHanded {} Try.checked os 5 .any (Rows.fnParsePlainRWLineMatchesCharMachineSpec.pre6 enc Try.prog Try.f5 Rows.fnParsePlainRWLineMatchesCharMachineRow.domain false) (Rows.fnParsePlainRWLineMatchesCharMachineSpec.post enc Try.prog Try.f5 false true false false) := by
  refine returnsInHanded_of_change (C := Try.checked) own started (by kernel_rfl) Try.func5
    (ChangeSpec.witness6 (enc := enc) (C := Try.checked) false ⟨#[], #[.slice none 0 0], []⟩ 8 (by kernel_rfl) (by kernel_rfl) (by kernel_rfl) (by kernel_rfl)) ?_
  intro W base args ds gs before hval0 hW hcnd _
  have hval : ∀ (j : Nat) t v, Try.f5.params[j]? = some t → args[j]? = some v → Value.okWide Try.prog W .any base t v := hval0
  have hW' := hW
  obtain ⟨p, q, hA0, hV, rfl, hfz, hnd⟩ := hW
  have hA : DataW.TrodAll enc Try.prog W 0 (fun _ => true) true Try.f5.params.toList args.toList ds p := hA0
  rw [Try.params5] at hA hval
  obtain ⟨v0, vs0, d0, ds0, p0, q0, hargs, rfl, rfl, h0, r0⟩ := trodAll_cons hA
  obtain ⟨rfl, rfl, rfl⟩ := trodAll_nil r0
  obtain rfl : args = #[v0] := by cases args; simp_all
  obtain ⟨rfl, rfl⟩ := trodVars_none hV
  obtain ⟨a0, len0, cap0, rfl⟩ := okWide_slice Try.underlying22 (hval 0 22 v0 rfl rfl)
  have k0 := h0
  have lt0 : ∀ x ∈ p0, x.block < W.heap.size := by obtain ⟨m, hm⟩ := k0; exact DataW.trod_lt m _ _ _ hm
  obtain ⟨z0, w0⟩ : ∃ zs, IsRow .u8 W a0 len0 cap0 zs := by
    obtain ⟨fuel, hf⟩ := h0
    rcases open_ints Try.underlying22 Try.underlying5 (by kernel_rfl) hf with ⟨hcs, _⟩ | ⟨x, l, c, zs, hcs, _, hl, hm, hz, _, hcell, hwz⟩
    · simp [Value.cells] at hcs
      obtain ⟨rfl, rfl, rfl⟩ := hcs
      exact ⟨[], .inl ⟨rfl, rfl, rfl, rfl⟩⟩
    · simp [Value.cells] at hcs
      obtain ⟨rfl, rfl, rfl⟩ := hcs
      exact ⟨zs, .inr ⟨_, rfl, hl, hm, by simpa using hz, hcell, hwz⟩⟩
  clear hA0 hval0
  refine (walk a0 len0 cap0 z0 W w0).mono fun e W' ⟨he, bel⟩ => ?_
  subst he
  exact ⟨_, rfl, _, _, _, [], _, [], hW', trodAll_mk1 (shut_bool Try.underlying4 _), (trodAll_cons_mk (Below.trod laidOut (by kernel_rfl) (of_decide_eq_true (by kernel_rfl)) k0 bel lt0) trodAll_mk0), rfl, bel.frame _, fun h => by cases h⟩

theorem over : Rows.fnParsePlainRWLineMatchesCharMachineRow.holds Try.pinned (OpenSpec.ofChange Rows.fnParsePlainRWLineMatchesCharMachineSpec) :=
  OpenClaim.holds_of_wide 5 Try.f5 rfl rfl rfl rfl rfl rfl rfl ⟨rfl, rfl, rfl, rfl, rfl⟩ rfl rfl rfl rfl rfl (by kernel_rfl) Try.func5 (by kernel_rfl)
    (of_decide_eq_true (by kernel_rfl)) (by unfold Func.isWrapper; first | (rw [if_pos (by decide +kernel)]; kernel_rfl) | (rw [if_neg (by decide +kernel)]; exact ⟨rfl, rfl⟩))
    (fun os started H enc _ => lifted os started H enc)

/-- ████ THE STATEMENT ████ -/
theorem proved : Rows.FnParsePlainRWLineMatchesCharMachineSaid := over
end Go.Proofs.Qxb6601361a.fnParsePlainRWLineMatchesCharMachine

namespace Go.Proofs.Qxb6601361a

/-- THE STATEMENT. -/
theorem char_proved : Rows.FnParsePlainRWLineMatchesCharMachineSaid := fnParsePlainRWLineMatchesCharMachine.proved

end Go.Proofs.Qxb6601361a
