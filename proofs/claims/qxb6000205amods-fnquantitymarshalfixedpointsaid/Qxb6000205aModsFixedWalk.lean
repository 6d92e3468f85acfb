/-
  The walk of FnQuantityMarshalFixedPoint (6).
-/
import Derived.Test.Qxb6000205aModsCommon
namespace Go.Proofs.Qxb6000205aMods
open Go.RowKit

/-- The plain law: what is marshalled, decoded and marshalled again is the same. -/
theorem fixed_law (o : Option (List Int)) :
    ((nextQ none o).getD nullT == (nextQ none (some ((nextQ none o).getD nullT))).getD nullT) = true := by
  generalize (nextQ none o).getD nullT = x
  rw [beq_iff_eq]
  unfold nextQ isNullB
  by_cases h : x = nullT
  · subst h; rfl
  · have : (some x == some nullT) = false := by simpa using h
    rw [this]; rfl

set_option maxHeartbeats 2000000 in
theorem fixed_walk (v : Value) (a0 : Option Addr) (len0 cap0 : Nat) (o : Option (List Int)) (w : World) (hv : v = .slice a0 len0 cap0) (hl : len0 ≤ 1048576) (hB : Bytes w v o) :
    Calls Trym.prog 6 #[v] w fun e w' => e = .returned (.bool true) ∧ Below w.heap.size w w' := by
  subst hv
  go_enter Trym.func6, Trym.ntmps6
  go_wp2_with fail
  refine (zz16_small a0 len0 cap0 _ hl).mono ?_
  rintro e wx ⟨rfl, hwx⟩
  subst hwx
  go_wp2_with fail
  refine (own_any _ o _ hB).mono ?_
  rintro e w1 ⟨v1, rfl, hO1, hb1⟩
  clear hB
  have hB1 := hO1.bytes
  clear hO1
  go_wp2_with fail
  -- the first Quantity
  refine (unm_any w1.heap.size v1 (.slice none 0 0) none o _ (qfresh w1) (hB1.alloc _)).mono ?_
  rintro e w2 ⟨rfl, hg2, v2, hQ2, _⟩
  have hb2 : Below w1.heap.size w1 w2 := ((Below.refl _ _).alloc (Nat.le_refl _) _).grown hg2 (by simp) (by simp)
  clear hg2 hB1
  have hc2 := cell_of_one hQ2.block
  go_wp2_with fail
  refine (marshal_any v2 _ _ hQ2.bytes).mono ?_
  rintro e w3 ⟨v3, rfl, hB3, hb3⟩
  clear hQ2 hc2
  go_wp2_with fail
  -- the second
  refine (unm_any w3.heap.size v3 (.slice none 0 0) none _ _ (qfresh w3) (hB3.alloc _)).mono ?_
  rintro e w4 ⟨rfl, hg4, v4, hQ4, _⟩
  have hb4 : Below w3.heap.size w3 w4 := ((Below.refl _ _).alloc (Nat.le_refl _) _).grown hg4 (by simp) (by simp)
  clear hg4
  have hc4 := cell_of_one hQ4.block
  go_wp2_with fail
  refine (marshal_form v4 _ _ hQ4.bytes).mono ?_
  rintro e w5 ⟨a5, n5, c5, rfl, hB5, hb5⟩
  clear hQ4 hc4
  have hn5 := neqNil
  go_wp2_with fail
  refine (same_any v3 _ _ _ _ (((hB3.below hb4)).below hb5) hB5).mono ?_
  rintro e w6 ⟨rfl, n6, hw6⟩
  subst hw6
  rw [fixed_law]
  go_wp2
  go_ret
  have s1 := hb1.size
  have s2 := hb2.size
  have s3 := hb3.size
  have s4 := hb4.size
  exact ⟨rfl, below_draws ((((hb1.trans (hb2.mono s1)).trans (hb3.mono (Nat.le_trans s1 s2))).trans (hb4.mono (by omega))).trans (hb5.mono (by omega))) _⟩

set_option maxHeartbeats 1000000 in
theorem fixed_long (a0 : Option Addr) (len0 cap0 : Nat) (w : World) (hl : 1048576 < len0) (hm : len0 ≤ maxLen) :
    Calls Trym.prog 6 #[.slice a0 len0 cap0] w fun e w' => e = .returned (.bool true) ∧ Below w.heap.size w w' := by
  go_enter Trym.func6, Trym.ntmps6
  go_wp2_with fail
  refine (zz16_big a0 len0 cap0 _ hl hm).mono ?_
  rintro e wx ⟨rfl, hwx⟩
  subst hwx
  go_wp2
  go_ret
  exact ⟨rfl, Below.refl _ _⟩
end Go.Proofs.Qxb6000205aMods
