/-
  The walk of FnQuantityKeepsOwnCopy (5).
-/
import Derived.Test.Qxb6000205aModsRoundWalk
namespace Go.Proofs.Qxb6000205aMods
open Go.RowKit

/-- Bytes that lie in another block than the one that is written stay. -/
theorem Bytes.off {w w' : World} {v : Value} {o : Option (List Int)} {g : Nat} (h : Bytes w v o) (hg : w.grownBy w' (some g)) (hne : v.ownBlock ≠ some g) : Bytes w' v o :=
  h.carry fun a x hx hb => hg.cell hx fun e => hne (by rw [hb, e])

theorem grownBy_trans {a b c : World} {r : Option Nat} (h : a.grownBy b r) (k : b.grownBy c r) : a.grownBy c r :=
  ⟨k.os.trans h.os, k.tape.trans h.tape, k.output.trans h.output, Nat.le_trans h.size k.size, fun i hi hne => (k.block i (Nat.lt_of_lt_of_le hi h.size) hne).trans (h.block i hi hne)⟩

theorem grownBy_refl (w : World) (r : Option Nat) : w.grownBy w r := ⟨rfl, rfl, rfl, Nat.le_refl _, fun _ _ _ => rfl⟩

set_option maxHeartbeats 2000000 in
theorem keep_nil (w : World) : Calls Trym.prog 5 #[.slice none 0 0] w fun e w' => e = .returned (.bool true) ∧ Below w.heap.size w w' := by
  have hn := eqNil
  go_enter Trym.func5, Trym.ntmps5
  go_wp2_with fail
  refine (zz15_small none 0 0 _ (by decide)).mono ?_
  rintro e wx ⟨rfl, hwx⟩
  subst hwx
  go_wp2
  go_ret
  exact ⟨rfl, Below.refl _ _⟩

set_option maxHeartbeats 2000000 in
theorem keep_null (a : Addr) (n c : Nat) (xs : List Int) (w : World) (hl : n ≤ 1048576) (hB : Bytes w (.slice (some a) n c) (some xs)) (hN : isNullB (some xs) = true) :
    Calls Trym.prog 5 #[.slice (some a) n c] w fun e w' => e = .returned (.bool true) ∧ Below w.heap.size w w' := by
  have hn := eqNil
  have HN : Hid (isNullB (some xs) = true) := hN
  clear hN
  go_enter Trym.func5, Trym.ntmps5
  go_wp2_with fail
  refine (zz15_small (some a) n c _ hl).mono ?_
  rintro e wx ⟨rfl, hwx⟩
  subst hwx
  go_wp2_with fail
  refine (isnull_any _ _ _ hB).mono ?_
  rintro e wx ⟨rfl, hwx⟩
  subst hwx
  rw [HN.out]
  go_wp2
  go_ret
  exact ⟨rfl, Below.refl _ _⟩

set_option maxHeartbeats 1000000 in
theorem keep_long (a0 : Option Addr) (len0 cap0 : Nat) (w : World) (hl : 1048576 < len0) (hm : len0 ≤ maxLen) :
    Calls Trym.prog 5 #[.slice a0 len0 cap0] w fun e w' => e = .returned (.bool true) ∧ Below w.heap.size w w' := by
  go_enter Trym.func5, Trym.ntmps5
  go_wp2_with fail
  refine (zz15_big a0 len0 cap0 _ hl hm).mono ?_
  rintro e wx ⟨rfl, hwx⟩
  subst hwx
  go_wp2
  go_ret
  exact ⟨rfl, Below.refl _ _⟩

set_option maxHeartbeats 4000000 in
theorem keep_text (a : Addr) (n c : Nat) (xs : List Int) (w : World) (hl : n ≤ 1048576) (hB : Bytes w (.slice (some a) n c) (some xs)) (hN : isNullB (some xs) = false) :
    Calls Trym.prog 5 #[.slice (some a) n c] w fun e w' => e = .returned (.bool true) ∧ Below w.heap.size w w' := by
  have hn := eqNil
  have HN : Hid (isNullB (some xs) = false) := hN
  clear hN
  have hlx : xs.length ≤ 1048576 := hB.1
  have hdec : decide ((1048576 : Int) < (n : Int)) = false := decide_eq_false (by omega)
  go_enter Trym.func5, Trym.ntmps5
  go_wp2_with fail
  refine (zz15_small (some a) n c _ hl).mono ?_
  rintro e wx ⟨rfl, hwx⟩
  subst hwx
  go_wp2_with fail
  refine (isnull_any _ _ _ hB).mono ?_
  rintro e wx ⟨rfl, hwx⟩
  subst hwx
  rw [HN.out]
  go_wp2_with fail
  refine (own_some _ xs _ hB).mono ?_
  rintro e w1 ⟨g1, c1, rfl, hg1, hown1, hB1, hb1⟩
  have hlt1 : g1 < w1.heap.size := (hown1.lt g1 rfl).2
  clear hB hown1
  go_wp2_with fail
  refine (own_some _ xs _ hB1).mono ?_
  rintro e w2 ⟨g2, c2, rfl, hg2, hown2, hB2, hb2⟩
  have hB1' := hB1.below hb2
  have hlt2 : g2 < w2.heap.size := (hown2.lt g2 rfl).2
  clear hB1
  go_wp2_with fail
  refine (unm_any w2.heap.size _ (.slice none 0 0) none _ _ (qfresh w2) (hB2.alloc _)).mono ?_
  rintro e w3 ⟨rfl, hgr3, v3, hQ3, hfresh⟩
  have hb3 : Below w2.heap.size w2 w3 := ((Below.refl _ _).alloc (Nat.le_refl _) _).grown hgr3 (by simp) (by simp)
  have hown3 := (hown2.alloc (.cells #[.slice none 0 0] 26)).kept hgr3 (Or.inr (by simp [Value.ownBlock]; omega))
  clear hgr3 hown2 hB2
  have H : Hid (Bytes w3 (.slice (some ⟨g1, 0, none⟩) xs.length c1) (some xs) ∧ QHolds w3 w2.heap.size v3 (nextQ none (some xs)) ∧ (∀ k, v3.ownBlock = some k → (w2.alloc (.cells #[.slice none 0 0] 26)).heap.size ≤ k)) := ⟨hB1'.below hb3, hQ3, hfresh HN.out⟩
  clear hB1' hQ3 hfresh
  have O : Hid (w3.ownsRow w1.heap.size 5 1 (.slice (some ⟨g2, 0, none⟩) xs.length c2) xs.length (xs.map (Value.int .u8))) := hown3
  clear hown3
  go_wp2
  go_loopw [6] (fun i wr => ∃ k : Nat, k ≤ xs.length ∧ i = .int .i64 k ∧ (∃ zs : List Int, zs.length = xs.length ∧ wr.ownsRow w1.heap.size 5 1 (.slice (some ⟨g2, 0, none⟩) xs.length c2) xs.length (zs.map (Value.int .u8))) ∧ w3.grownBy wr (some g2))
    (fun i _ => xs.length - (intOf i).toNat)
  case atStart => exact ⟨0, Nat.zero_le _, rfl, ⟨xs, rfl, O.out⟩, grownBy_refl _ _⟩
  case round =>
    obtain ⟨k, hk, rfl, ⟨zs, hzl, hown⟩, hgr⟩ := hrel
    clear O
    by_cases hlt : k < xs.length
    · obtain ⟨z, hz⟩ : ∃ z, wr.cell? ⟨g2, k, none⟩ = some (.int .u8 z) := ⟨zs.getD k 0, by
        rw [hown.cellAt k (by omega)]
        simp [List.getD, List.getElem?_eq_getElem (show k < zs.length by omega)]⟩
      have hfr : wr.frozen? ⟨g2, k, none⟩ = false := hown.frozenAt k
      have ST : Hid (∀ u, (∃ zs' : List Int, zs'.length = xs.length ∧ (wr.setCell ⟨g2, k, none⟩ (.int .u8 u)).ownsRow w1.heap.size 5 1 (.slice (some ⟨g2, 0, none⟩) xs.length c2) xs.length (zs'.map (Value.int .u8))) ∧ wr.grownBy (wr.setCell ⟨g2, k, none⟩ (.int .u8 u)) (some g2)) :=
        fun u => ⟨⟨zs.set k u, by rw [List.length_set]; exact hzl, by rw [List.map_set]; exact (hown.stored k (.int .u8 u)).1⟩, (hown.stored k (.int .u8 u)).2⟩
      clear hown hzl
      go_wp2
      go_roundw
      case rel => exact ⟨k + 1, by omega, by go_num, (ST.out _).1, grownBy_trans hgr (ST.out _).2⟩
      case measure => simp [intOf]; omega
    · obtain ⟨hB1, hQ3, hfresh⟩ := H.out
      have hw2 : w2.heap.size ≠ g2 := by omega
      have hq4 : wr.heap[w2.heap.size]? = some (.cells #[v3] 26 (0, 0)) := (hgr.block _ (lt_of_block hQ3.block) (by simp; omega)).trans hQ3.block
      have hB4 : Bytes wr v3 (nextQ none (some xs)) := hQ3.bytes.off hgr (fun e => by have := hfresh g2 e; simp at this; omega)
      have hB1' : Bytes wr (.slice (some ⟨g1, 0, none⟩) xs.length c1) (some xs) := hB1.off hgr (by simp [Value.ownBlock]; omega)
      rw [show nextQ none (some xs) = some xs from by simp [nextQ, HN.out]] at hB4
      have hc4 := cell_of_one hq4
      have hbx : Below wx.heap.size wx wr := by
        have s1 := hb1.size
        have s2 := hb2.size
        have s3 := hb3.size
        exact ((hb1.trans (hb2.mono s1)).trans (hb3.mono (by omega))).grown hgr (by omega) (by intro k hk; simp at hk; omega)
      have BX : Hid (Below wx.heap.size wx wr) := hbx
      clear hbx hq4 hQ3 hB1 hfresh H hown hgr hb1 hb2 hb3
      go_wp2_with fail
      refine (marshal_any v3 _ _ hB4).mono ?_
      rintro e w5 ⟨v5, rfl, hB5, hb5⟩
      clear hc4
      have hB1'' := hB1'.below hb5
      go_wp2_with fail
      refine (same_any v5 _ xs xs _ hB5 hB1'').mono ?_
      rintro e w6 ⟨rfl, n6, hw6⟩
      subst hw6
      rw [show (xs == xs) = true from by simp]
      go_wp2
      go_ret
      exact ⟨rfl, below_draws (BX.out.trans (hb5.mono BX.out.size)) _⟩
end Go.Proofs.Qxb6000205aMods
