/-
  The walk of FnQuantityRoundTripExact (3).
-/
import Derived.Test.Qxb6000205aModsCommon
namespace Go.Proofs.Qxb6000205aMods
open Go.RowKit

/-- ownBytes of a slice that is not nil, its result written out. -/
theorem own_some (v : Value) (xs : List Int) (w : World) (h : Bytes w v (some xs)) :
    Calls Trym.prog 8 #[v] w fun e w' => ∃ g c, e = .returned (.slice (some ⟨g, 0, none⟩) xs.length c) ∧ w.heap.size ≤ g ∧
      w'.ownsRow w.heap.size 5 1 (.slice (some ⟨g, 0, none⟩) xs.length c) xs.length (xs.map (Value.int .u8)) ∧ Bytes w' (.slice (some ⟨g, 0, none⟩) xs.length c) (some xs) ∧ Below w.heap.size w w' :=
  (own_any v (some xs) w h).mono fun e w' ⟨v', he, hO, hb⟩ => by
    have hB := hO.bytes
    obtain ⟨_, _, g, c, hv, hg, hown⟩ := hO
    subst hv
    exact ⟨g, c, he, hg, hown, hB, hb⟩

theorem isNull_null : isNullB (some nullT) = true := rfl

set_option maxHeartbeats 2000000 in
theorem round_nil (w : World) : Calls Trym.prog 3 #[.slice none 0 0] w fun e w' => e = .returned (.bool true) ∧ Below w.heap.size w w' := by
  have hn := neqNil
  go_enter Trym.func3, Trym.ntmps3
  go_wp2_with fail
  refine (zz7_small none 0 0 _ (by decide)).mono ?_
  rintro e wx ⟨rfl, hwx⟩
  subst hwx
  go_wp2_with fail
  refine (own_nil _).mono ?_
  rintro e wx ⟨rfl, hwx⟩
  subst hwx
  go_wp2_with fail
  refine (unm_any wx.heap.size (.slice none 0 0) (.slice none 0 0) none none _ (qfresh wx) rfl).mono ?_
  rintro e w2 ⟨rfl, hg2, v2, hQ2, _⟩
  have hb2 : Below wx.heap.size wx w2 := ((Below.refl _ _).alloc (Nat.le_refl _) _).grown hg2 (by simp) (by simp)
  clear hg2
  have hc2 := cell_of_one hQ2.block
  go_wp2_with fail
  refine (marshal_any v2 _ _ hQ2.bytes).mono ?_
  rintro e w3 ⟨v3, rfl, hB3, hb3⟩
  clear hQ2 hc2
  go_wp2_with fail
  refine (isnull_any v3 _ _ hB3).mono ?_
  rintro e wy ⟨rfl, hwy⟩
  subst hwy
  rw [show isNullB (some ((nextQ none none).getD nullT)) = true from rfl]
  go_wp2
  go_ret
  exact ⟨rfl, hb2.trans (hb3.mono hb2.size)⟩

set_option maxHeartbeats 2000000 in
theorem round_some (v : Value) (a0 : Option Addr) (len0 cap0 : Nat) (xs : List Int) (w : World) (hv : v = .slice a0 len0 cap0) (hl : len0 ≤ 1048576) (hB : Bytes w v (some xs)) :
    Calls Trym.prog 3 #[v] w fun e w' => e = .returned (.bool true) ∧ Below w.heap.size w w' := by
  subst hv
  have hn := neqNil
  go_enter Trym.func3, Trym.ntmps3
  go_wp2_with fail
  refine (zz7_small a0 len0 cap0 _ hl).mono ?_
  rintro e wx ⟨rfl, hwx⟩
  subst hwx
  go_wp2_with fail
  refine (own_some _ xs _ hB).mono ?_
  rintro e w1 ⟨g1, c1, rfl, _, _, hB1, hb1⟩
  clear hB
  go_wp2_with fail
  refine (unm_any w1.heap.size _ (.slice none 0 0) none _ _ (qfresh w1) (hB1.alloc _)).mono ?_
  rintro e w2 ⟨rfl, hg2, v2, hQ2, _⟩
  have hb2 : Below w1.heap.size w1 w2 := ((Below.refl _ _).alloc (Nat.le_refl _) _).grown hg2 (by simp) (by simp)
  clear hg2
  have hc2 := cell_of_one hQ2.block
  go_wp2_with fail
  refine (marshal_any v2 _ _ hQ2.bytes).mono ?_
  rintro e w3 ⟨v3, rfl, hB3, hb3⟩
  clear hQ2 hc2
  have hB1' := (hB1.below hb2).below hb3
  clear hB1
  have s1 := hb1.size
  have s2 := hb2.size
  have hb : Below wx.heap.size wx w3 := (hb1.trans (hb2.mono s1)).trans (hb3.mono (by omega))
  clear hb1 hb2 hb3 s1 s2
  go_wp2_with fail
  refine (isnull_any _ _ _ hB1').mono ?_
  rintro e wy ⟨rfl, hwy⟩
  subst hwy
  cases hN : isNullB (some xs) with
  | true =>
    rw [show nextQ none (some xs) = none from by simp [nextQ, hN]] at hB3
    go_wp2_with fail
    refine (isnull_any v3 _ _ hB3).mono ?_
    rintro e wy ⟨rfl, hwy⟩
    subst hwy
    rw [show isNullB (some ((none : Option (List Int)).getD nullT)) = true from rfl]
    go_wp2
    go_ret
    exact ⟨rfl, hb⟩
  | false =>
    rw [show nextQ none (some xs) = some xs from by simp [nextQ, hN]] at hB3
    go_wp2_with fail
    refine (same_any v3 _ xs xs _ hB3 hB1').mono ?_
    rintro e w6 ⟨rfl, n6, hw6⟩
    subst hw6
    rw [show (xs == xs) = true from by simp]
    go_wp2
    go_ret
    exact ⟨rfl, below_draws hb _⟩

set_option maxHeartbeats 1000000 in
theorem round_long (a0 : Option Addr) (len0 cap0 : Nat) (w : World) (hl : 1048576 < len0) (hm : len0 ≤ maxLen) :
    Calls Trym.prog 3 #[.slice a0 len0 cap0] w fun e w' => e = .returned (.bool true) ∧ Below w.heap.size w w' := by
  go_enter Trym.func3, Trym.ntmps3
  go_wp2_with fail
  refine (zz7_big a0 len0 cap0 _ hl hm).mono ?_
  rintro e wx ⟨rfl, hwx⟩
  subst hwx
  go_wp2
  go_ret
  exact ⟨rfl, Below.refl _ _⟩
end Go.Proofs.Qxb6000205aMods
