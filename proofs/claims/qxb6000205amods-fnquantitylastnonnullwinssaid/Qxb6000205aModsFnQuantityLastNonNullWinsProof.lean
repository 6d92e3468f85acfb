/-
  A proof of 'Rows.FnQuantityLastNonNullWinsSaid': the frame of the given shell (howto/shells), its hole filled by the walk.
-/
import Derived.Test.Qxb6000205aModsRows
import Derived.WalkKit
import Derived.ProofKit
import Derived.OpenShut
import Derived.ShutString
import Derived.ChangeOld
import Derived.Below
import Derived.Test.Qxb6000205aModsLastWalk
import Derived.Deep.Matrix
namespace Go.Proofs.Qxb6000205aMods.fnQuantityLastNonNullWins
open Go.ChangeShapes Go.WideShapes Go.ChangeAt Go.RowKit
open Go.ChangeMaps (open_string shut_string)
set_option linter.unusedVariables false

theorem own : ownKnob Trym.prog.godebug = none := by kernel_rfl
theorem laidOut : laidOutB Trym.prog = true := by kernel_rfl

/-! ### THE ROW's STEP: WRITTEN OUT: LEAVE IT -/
set_option maxRecDepth 100000 in
theorem lifted (os : Os) (started : os.Started) (H : Type) (enc : TypeId × Value → H) :
    ReturnsInHanded {} Trym.checked os 4 .any (Rows.fnQuantityLastNonNullWinsSpec.pre6 enc Trym.prog Trym.f4 Rows.fnQuantityLastNonNullWinsRow.domain false) (Rows.fnQuantityLastNonNullWinsSpec.post enc Trym.prog Trym.f4 false true false false) := by
  refine returnsInHanded_of_change (C := Trym.checked) own started (by kernel_rfl) Trym.func4
    (ChangeSpec.witness6 (enc := enc) (C := Trym.checked) false ⟨#[], #[.slice none 0 0], []⟩ 8 (by kernel_rfl) (by kernel_rfl) (by kernel_rfl) (by kernel_rfl)) ?_
  intro W base args ds gs before hval0 hW hcnd _
  have hval : ∀ (j : Nat) t v, Trym.f4.params[j]? = some t → args[j]? = some v → Value.okWide Trym.prog W .any base t v := hval0
  have hW' := hW
  obtain ⟨p, q, hA0, hV, rfl, hfz, hnd⟩ := hW
  have hA : DataW.TrodAll enc Trym.prog W 0 (fun _ => true) true Trym.f4.params.toList args.toList ds p := hA0
  rw [Trym.params4] at hA hval
  obtain ⟨v0, vs0, d0, ds0, p0, q0, hargs, rfl, rfl, h0, r0⟩ := trodAll_cons hA
  obtain ⟨rfl, rfl, rfl⟩ := trodAll_nil r0
  obtain rfl : args = #[v0] := by cases args; simp_all
  obtain ⟨rfl, rfl⟩ := trodVars_none hV
  obtain ⟨a0, len0, cap0, rfl⟩ := okWide_slice Trym.underlying33 (hval 0 33 v0 rfl rfl)
  have k0 := h0
  have lt0 : ∀ x ∈ p0, x.block < W.heap.size := by obtain ⟨m, hm⟩ := k0; exact DataW.trod_lt m _ _ _ hm
  have hwalk : Calls Trym.prog 4 #[.slice a0 len0 cap0] W fun e w' => e = .returned (.bool true) ∧ Below W.heap.size W w' := by
    obtain ⟨fuel, hf⟩ := h0
    rcases Deep.open_int_rows Trym.underlying33 Trym.underlying22 Trym.underlying5 (by kernel_rfl) (by kernel_rfl) hf with ⟨hcs, _⟩ | ⟨x, l, c, A, L, C, Z, hcs, _, hl, hm, _, hrow⟩
    · simp [Value.cells] at hcs
      obtain ⟨rfl, rfl, rfl⟩ := hcs
      exact last_any none 0 0 (fun _ => none) (fun _ => 0) (fun _ => 0) W (Nat.zero_le _) (fun _ => ⟨rfl, rfl⟩) (fun _ h => by cases h) (fun _ h => by omega) (fun _ h => by omega)
    · simp [Value.cells] at hcs
      obtain ⟨rfl, rfl, rfl⟩ := hcs
      refine last_any (some x) len0 cap0 A L C W (by omega) (fun h => by cases h) (fun y hy r hr => ?_) (fun r hr => ?_) (fun r hr hLr => ?_)
      · cases hy
        exact (hrow r (by omega)).1
      · have := hrow r (by omega)
        omega
      · obtain ⟨_, r1, r2, r3, r4, r5, r6⟩ := hrow r (by omega)
        refine bytes_of_row (zs := Z r) hLr ?_
        cases hA : A r with
        | none =>
          have := r5 hA
          exact .inl ⟨rfl, by omega, this, List.length_eq_zero_iff.1 (by omega)⟩
        | some a' => exact .inr ⟨a', rfl, r1, r2, r3, fun i hi => (r6 a' hA).2 i (by omega), r4⟩
  clear hA0 hval0
  refine hwalk.mono fun e W' ⟨he, bel⟩ => ?_
  subst he
  exact ⟨_, rfl, _, _, _, [], _, [], hW', trodAll_mk1 (shut_bool Trym.underlying4 _), (trodAll_cons_mk (Below.trod laidOut (by kernel_rfl) (of_decide_eq_true (by kernel_rfl)) k0 bel lt0) trodAll_mk0), rfl, bel.frame _, fun h => by cases h⟩

theorem over : Rows.fnQuantityLastNonNullWinsRow.holds Trym.pinned (OpenSpec.ofChange Rows.fnQuantityLastNonNullWinsSpec) :=
  OpenClaim.holds_of_wide 4 Trym.f4 rfl rfl rfl rfl rfl rfl rfl ⟨rfl, rfl, rfl, rfl, rfl⟩ rfl rfl rfl rfl rfl (by kernel_rfl) Trym.func4 (by kernel_rfl)
    (of_decide_eq_true (by kernel_rfl)) (by unfold Func.isWrapper; first | (rw [if_pos (by decide +kernel)]; kernel_rfl) | (rw [if_neg (by decide +kernel)]; exact ⟨rfl, rfl⟩))
    (fun os started H enc _ => lifted os started H enc)

/-- THE STATEMENT -/
theorem proved : Rows.FnQuantityLastNonNullWinsSaid := over
#print axioms proved
end Go.Proofs.Qxb6000205aMods.fnQuantityLastNonNullWins
