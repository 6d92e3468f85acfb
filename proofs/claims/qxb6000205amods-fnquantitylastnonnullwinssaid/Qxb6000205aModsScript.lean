/-
  Slices of slices of bytes: zzBytes_FnQuantityLastNonNullWins (13) and ownScript (14).
-/
import Derived.Test.Qxb6000205aModsKeepWalk
import Derived.Deep.Slices
namespace Go.Proofs.Qxb6000205aMods
open Go.RowKit

theorem Trym.info22 : (Trym.prog.info? 22).map (fun i => (i.zero, i.size, i.bytes)) = some (some (.slice none 0 0), 1, 24) := by kernel_rfl

theorem eqNil33 (w : World) (a : Option Addr) (n c n' c' : Nat) : (binOp .eql 33 (.slice a n c) (.slice none n' c')).run Trym.prog w = .ok (.bool a.isNone) w :=
  Lib.run_eql_slice_nil w _ _ a n c n' c' Trym.underlying33

/-! ### zzBytes_FnQuantityLastNonNullWins -/
set_option maxHeartbeats 1000000 in
theorem zz13_zero (a : Option Addr) (c : Nat) (w : World) : Calls Trym.prog 13 #[.slice a 0 c] w fun e w' => e = .returned (.bool true) ∧ w' = w := by
  go_enter Trym.func13, Trym.ntmps13
  go_wp2
  go_loopw [3, 4] (fun n i wr => n = .int .i64 0 ∧ i = .int .i64 0 ∧ wr = w) (fun _ _ _ => 0)
  case atStart => exact ⟨rfl, rfl, rfl⟩
  case round =>
    obtain ⟨rfl, rfl, rfl⟩ := hrel
    go_wp2
    go_ret
    exact ⟨rfl, rfl⟩

set_option maxHeartbeats 1000000 in
theorem zz13_long (a : Option Addr) (n c : Nat) (w : World) (h : 1048576 < n) (hm : n ≤ maxLen) : Calls Trym.prog 13 #[.slice a n c] w fun e w' => e = .returned (.bool false) ∧ w' = w := by
  unfold maxLen at hm
  go_enter Trym.func13, Trym.ntmps13
  go_wp2
  go_ret
  exact ⟨rfl, rfl⟩

/-- What its answer says of the elements' lengths. -/
def ZzSays (len : Nat) (L : Nat → Nat) (e : Ending) : Prop := ∃ bb, e = .returned (.bool bb) ∧ (bb = true → ∀ r, r < len → L r ≤ 1048576)

set_option maxHeartbeats 4000000 in
theorem zz13_full (b off len c : Nat) (A : Nat → Option Addr) (L C : Nat → Nat) (w : World) (hl : len ≤ 1048576) (hcell : ∀ r, r < len → w.cell? ⟨b, off + r, none⟩ = some (.slice (A r) (L r) (C r))) (hL : ∀ r, r < len → L r ≤ maxLen) :
    Calls Trym.prog 13 #[.slice (some ⟨b, off, none⟩) len c] w fun e w' => w' = w ∧ ZzSays len L e := by
  have HC : Hid (∀ r, r < len → w.cell? ⟨b, off + r, none⟩ = some (.slice (A r) (L r) (C r))) := hcell
  have HL : Hid (∀ r, r < len → L r ≤ maxLen) := hL
  clear hcell hL
  have hd1 : decide ((1048576 : Int) < (len : Int)) = false := decide_eq_false (by omega)
  go_enter Trym.func13, Trym.ntmps13
  go_wp2
  go_loop [3, 4] (fun n i => ∃ k s : Nat, k ≤ len ∧ s ≤ 1048576 ∧ n = .int .i64 s ∧ i = .int .i64 k ∧ Hid (∀ r, r < k → L r ≤ 1048576)) (fun _ i => len - (intOf i).toNat)
  case atStart => exact ⟨0, len, Nat.zero_le _, hl, rfl, rfl, fun r hr => by omega⟩
  case round =>
    obtain ⟨k, s, hk, hs, rfl, rfl, hall⟩ := hrel
    by_cases hlt : k < len
    · have hck := HC.out k hlt
      have hLk : L k ≤ 9223372036854775807 := HL.out k hlt
      by_cases h1 : L k ≤ 1048576
      · by_cases h2 : s + L k ≤ 1048576
        · go_wp2
          go_round
          case rel => exact ⟨k + 1, s + L k, by omega, h2, by go_num, by go_num, fun r hr => by
                              rcases Nat.lt_or_ge r k with h | h
                              · exact hall.out r h
                              · have : r = k := by omega
                                subst this
                                exact h1⟩
          case measure => simp [intOf]; omega
        · go_wp2
          go_ret
          exact ⟨rfl, false, rfl, by simp⟩
      · go_wp2
        go_ret
        exact ⟨rfl, false, rfl, by simp⟩
    · have hkl : k = len := by omega
      subst hkl
      go_wp2
      go_ret
      exact ⟨rfl, true, rfl, fun _ => hall.out⟩

/-! ### ownScript -/
/-- A slice without elements comes back. -/
def EmptyOut (e : Ending) : Prop := ∃ a' c', e = .returned (.slice a' 0 c')
set_option maxHeartbeats 1000000 in
theorem script_zero (a : Option Addr) (c : Nat) (hn : a = none → c = 0) (w : World) : Calls Trym.prog 14 #[.slice a 0 c] w fun e w' => EmptyOut e ∧ Below w.heap.size w w' := by
  have q33 := eqNil33
  match a, hn with
  | none, hn =>
    have hc := hn rfl
    subst hc
    go_enter Trym.func14, Trym.ntmps14
    go_wp2
    go_ret
    exact ⟨⟨none, 0, rfl⟩, Below.refl _ _⟩
  | some a, _ =>
    obtain ⟨i0, hi, hz0, hz1, hz2⟩ := info_parts Trym.info22
    obtain ⟨w1, hmk, hown, hgr⟩ := run_make_full (P := Trym.prog) w w.heap.size 33 22 i0 (.slice none 0 0) 1 Trym.underlying33 hi hz0 hz1 .i64 .i64 0 (by rw [hz2]; omega) (by unfold maxLen; omega) (Nat.le_refl _)
    have hbH : Hid (Below w.heap.size w w1) := (Below.refl _ _).grown hgr (Nat.le_refl _) (by simp)
    clear hown hgr
    simp only [Int.cast_ofNat_Int] at hmk
    go_enter Trym.func14, Trym.ntmps14
    go_wp2
    go_loopw [4] (fun i wr => i = .int .i64 0 ∧ wr = w1) (fun _ _ => 0)
    case atStart => exact ⟨rfl, rfl⟩
    case round =>
      obtain ⟨rfl, rfl⟩ := hrel
      go_wp2
      go_ret
      exact ⟨⟨_, _, rfl⟩, hbH.out⟩

/-- What a copied element is: its cell's value, its bytes, and that they do not lie in the outer row. -/
def Copied (w : World) (B : Nat) (v : Value) (o : Option (List Int)) : Prop := (∃ a n c, v = .slice a n c) ∧ Bytes w v o ∧ v.ownBlock ≠ some B

theorem script_step {wr w1 : World} {B len k : Nat} {cs : List Value} {O : Nat → Option (List Int)} {v : Value} (hk : k < len) (hcl : cs.length = len)
    (hown : wr.ownsRow B 22 1 (.slice (some ⟨B, 0, none⟩) len len) len cs) (hel : ∀ r, r < k → ∃ u, cs[r]? = some u ∧ Copied wr B u (O r)) (hb : Below wr.heap.size wr w1) (hv : Owned w1 wr.heap.size v (O k)) :
    ∃ cs', cs'.length = len ∧ (w1.setCell ⟨B, k, none⟩ v).ownsRow B 22 1 (.slice (some ⟨B, 0, none⟩) len len) len cs' ∧ ∀ r, r < k + 1 → ∃ u, cs'[r]? = some u ∧ Copied (w1.setCell ⟨B, k, none⟩ v) B u (O r) := by
  have hBlt : B < wr.heap.size := (hown.lt B rfl).2
  have hown1 : w1.ownsRow B 22 1 (.slice (some ⟨B, 0, none⟩) len len) len cs := hown.kept (row := none) ⟨hb.os, hb.tape, hb.output, hb.size, fun i hi _ => hb.block i hi⟩ (Or.inr (by simp [Value.ownBlock]))
  obtain ⟨s1, s2⟩ := hown1.stored k v
  refine ⟨cs.set k v, by simpa using hcl, s1, fun r hr => ?_⟩
  by_cases hrk : r = k
  · subst hrk
    have hne : v.ownBlock ≠ some B := by
      match O r, hv with
      | none, hv =>
        have hv' : v = .slice none 0 0 := hv
        rw [hv']; simp [Value.ownBlock]
      | some xs, hv =>
        obtain ⟨_, _, g, c, hvv, hg, _⟩ := hv
        rw [hvv]; simp [Value.ownBlock]; omega
    refine ⟨v, by simp [hcl, hk], hv.form, hv.bytes.off s2 hne, hne⟩
  · obtain ⟨u, hu, hf, hB, hne⟩ := hel r (by omega)
    exact ⟨u, by rw [List.getElem?_set_ne (by omega)]; exact hu, hf, (hB.below hb).off s2 hne, hne⟩

set_option maxHeartbeats 4000000 in
theorem script_full (b off len c : Nat) (A : Nat → Option Addr) (L C : Nat → Nat) (O : Nat → Option (List Int)) (w : World) (h0 : 0 < len) (hl : len ≤ 65536) (hcell : ∀ r, r < len → w.cell? ⟨b, off + r, none⟩ = some (.slice (A r) (L r) (C r)))
    (hO : ∀ r, r < len → Bytes w (.slice (A r) (L r) (C r)) (O r)) :
    Calls Trym.prog 14 #[.slice (some ⟨b, off, none⟩) len c] w fun e w' => e = .returned (.slice (some ⟨w.heap.size, 0, none⟩) len len) ∧ Below w.heap.size w w' ∧
      ∃ cs, cs.length = len ∧ w'.ownsRow w.heap.size 22 1 (.slice (some ⟨w.heap.size, 0, none⟩) len len) len cs ∧ ∀ r, r < len → ∃ u, cs[r]? = some u ∧ Copied w' w.heap.size u (O r) := by
  have q33 := eqNil33
  obtain ⟨i0, hi, hz0, hz1, hz2⟩ := info_parts Trym.info22
  obtain ⟨w1, hmk, hown, hgr⟩ := run_make_full (P := Trym.prog) w w.heap.size 33 22 i0 (.slice none 0 0) 1 Trym.underlying33 hi hz0 hz1 .i64 .i64 len (by rw [hz2]; omega) (by unfold maxLen; omega) (Nat.le_refl _)
  have hbH : Hid (Below w.heap.size w w1) := (Below.refl _ _).grown hgr (Nat.le_refl _) (by simp)
  have hS : Hid (∃ cs, cs.length = len ∧ w1.ownsRow w.heap.size 22 1 (.slice (some ⟨w.heap.size, 0, none⟩) len len) len cs ∧ ∀ r, r < 0 → ∃ u, cs[r]? = some u ∧ Copied w1 w.heap.size u (O r)) := ⟨_, by simpa using hown.1, hown, fun r hr => by omega⟩
  have hbw : b < w.heap.size := World.block_lt_of_cell? w _ (hcell 0 h0)
  have HC : Hid (∀ r, r < len → w.cell? ⟨b, off + r, none⟩ = some (.slice (A r) (L r) (C r))) := hcell
  have HO : Hid (∀ r, r < len → Bytes w (.slice (A r) (L r) (C r)) (O r)) := hO
  clear hcell hO hown hgr
  go_enter Trym.func14, Trym.ntmps14
  go_wp2
  go_loopw [4] (fun i wr => ∃ k : Nat, k ≤ len ∧ i = .int .i64 k ∧ Below w.heap.size w wr ∧ Hid (∃ cs, cs.length = len ∧ wr.ownsRow w.heap.size 22 1 (.slice (some ⟨w.heap.size, 0, none⟩) len len) len cs ∧ ∀ r, r < k → ∃ u, cs[r]? = some u ∧ Copied wr w.heap.size u (O r)))
    (fun i _ => len - (intOf i).toNat)
  case atStart => exact ⟨0, Nat.zero_le _, rfl, hbH.out, hS⟩
  case round =>
    obtain ⟨k, hk, rfl, hb, hS'⟩ := hrel
    clear hS hbH hmk
    by_cases hlt : k < len
    · obtain ⟨cs, hcl, hown, hel⟩ := hS'.out
      clear hS'
      have hBlt : w.heap.size < wr.heap.size := (hown.lt _ rfl).2
      have hsrc : wr.cell? ⟨b, off + k, none⟩ = some (.slice (A k) (L k) (C k)) := (hb.cell (p := ⟨b, off + k, none⟩) hbw).trans (HC.out k hlt)
      have hdst : ∃ x, wr.cell? ⟨w.heap.size, k, none⟩ = some x := ⟨_, by rw [hown.cellAt k (by omega), List.getElem?_eq_getElem (show k < cs.length by omega)]⟩
      obtain ⟨x0, hdst⟩ := hdst
      have hfr : wr.frozen? ⟨w.heap.size, k, none⟩ = false := hown.frozenAt k
      have hcall : Calls Trym.prog 8 #[.slice (A k) (L k) (C k)] wr fun e w' => ∃ a n c, e = .returned (.slice a n c) ∧ Hid (Owned w' wr.heap.size (.slice a n c) (O k)) ∧ Below wr.heap.size wr w' :=
        (own_any _ (O k) wr ((HO.out k hlt).below hb)).mono fun e w' ⟨v', he, hown, hb⟩ => by
          obtain ⟨a, n, c, rfl⟩ := hown.form
          exact ⟨a, n, c, he, hown, hb⟩
      have CALL : Hid (Calls Trym.prog 8 #[.slice (A k) (L k) (C k)] wr fun e w' => ∃ a n c, e = .returned (.slice a n c) ∧ Hid (Owned w' wr.heap.size (.slice a n c) (O k)) ∧ Below wr.heap.size wr w') := hcall
      have R : Hid (∀ (w1 : World) (v : Value), Below wr.heap.size wr w1 → Owned w1 wr.heap.size v (O k) → ∃ cs', cs'.length = len ∧ (w1.setCell ⟨w.heap.size, k, none⟩ v).ownsRow w.heap.size 22 1 (.slice (some ⟨w.heap.size, 0, none⟩) len len) len cs' ∧ ∀ r, r < k + 1 → ∃ u, cs'[r]? = some u ∧ Copied (w1.setCell ⟨w.heap.size, k, none⟩ v) w.heap.size u (O r)) :=
        fun w1 v hb1 hv => script_step hlt hcl hown hel hb1 hv
      clear hcall hown hel hcl HO HC
      go_wp2_with fail
      refine CALL.out.mono ?_
      rintro e w2 ⟨a2, n2, c2, rfl, hown2, hb2⟩
      have g0 : w2.cell? ⟨w.heap.size, k, none⟩ = some x0 := (hb2.cell (p := ⟨w.heap.size, k, none⟩) hBlt).trans hdst
      have g1 : w2.frozen? ⟨w.heap.size, k, none⟩ = false := (hb2.frozen (p := ⟨w.heap.size, k, none⟩) hBlt).trans hfr
      clear hdst hfr hsrc CALL
      go_wp2
      go_roundw
      case rel => exact ⟨k + 1, by omega, by go_num, (hb.trans (hb2.mono hb.size)).setCell (Nat.le_refl _) _, R.out _ _ hb2 hown2.out⟩
      case measure => simp [intOf]; omega
    · have hkl : k = len := by omega
      subst hkl
      go_wp2
      go_ret
      exact ⟨rfl, hb, hS'.out⟩
end Go.Proofs.Qxb6000205aMods
