/-
  The walks of the functions that the laws call: ownBytes (8), UnmarshalJSON (9), MarshalJSON (10), isNullText (11), sameBytes (12), bytes.Clone (17).
-/
import Derived.Test.Qxb6000205aModsRows
import Derived.Test.Qxb6000205aModsParts
import Derived.WalkSpells
import Derived.Lib.SlBytesConst
namespace Go.Proofs.Qxb6000205aMods
open Go.RowKit

theorem Trym.info5 : (Trym.prog.info? 5).map (fun i => (i.zero, i.size, i.bytes)) = some (some (.int .u8 0), 1, 1) := by kernel_rfl

/-- 'x == nil' at a slice of bytes. -/
theorem eqNil (w : World) (a : Option Addr) (n c n' c' : Nat) : (binOp .eql 22 (.slice a n c) (.slice none n' c')).run Trym.prog w = .ok (.bool a.isNone) w :=
  Lib.run_eql_slice_nil w _ _ a n c n' c' Trym.underlying22

/-! ### bytes.Clone -/
set_option maxHeartbeats 1000000 in
theorem clone_nil (w : World) : Calls Trym.prog 17 #[.slice none 0 0] w fun e w' => e = .returned (.slice none 0 0) ∧ w' = w := by
  have q22 := eqNil
  go_enter Trym.func17, Trym.ntmps17
  go_wp2
  go_ret
  exact ⟨rfl, rfl⟩

/-- The bytes of a slice, as the law on append asks for them, in whatever world has kept them. -/
theorem news_of {w W : World} {a : Addr} {xs : List Int} (hb : Below w.heap.size w W) (hc : ∀ i, i < xs.length → w.cell? (a.add i) = some (.int .u8 (xs.getD i 0))) (j : Nat) (u : Value) (hj : (xs.map (Value.int .u8))[j]? = some u) : W.cell? (a.add j) = some u := by
  have hlt : j < xs.length := by simpa using (List.getElem?_eq_some_iff.1 hj).1
  have hw := hc j hlt
  rw [hb.cell (World.block_lt_of_cell? w _ hw), hw, ← hj]
  simp [List.getD, hlt]

set_option maxHeartbeats 2000000 in
theorem clone_some (a : Addr) (c : Nat) (xs : List Int) (w : World) (hbig : xs.length ≤ 1048576) (hc : ∀ i, i < xs.length → w.cell? (a.add i) = some (.int .u8 (xs.getD i 0))) :
    Calls Trym.prog 17 #[.slice (some a) xs.length c] w fun e w' => ∃ v', e = .returned v' ∧ w'.ownsRow w.heap.size 5 1 v' xs.length (xs.map (Value.int .u8)) ∧ v' ≠ .slice none 0 0 ∧ Below w.heap.size w w' := by
  have q22 := eqNil
  obtain ⟨i0, hi, hz0, hz1, hz2⟩ := info_parts Trym.info5
  have hb0 : Below w.heap.size w (w.alloc (.cells #[] 5)) := (Below.refl _ _).alloc (Nat.le_refl _) _
  have NEWS : Hid (∀ (j : Nat) (u : Value), (xs.map (Value.int .u8))[j]? = some u → (w.alloc (.cells #[] 5)).cell? (a.add j) = some u) := news_of hb0 hc
  have HB0 : Hid (Below w.heap.size w (w.alloc (.cells #[] 5))) := hb0
  clear hc hb0
  go_enter Trym.func17, Trym.ntmps17
  go_wp2_with (at_builtin; refine wpList_append_own _ rfl _ _ 22 rfl w.heap.size 5 i0 (.int .u8 0) 1 1 Trym.underlying22 hi hz0 hz1 hz2 rfl (by decide) _ _ _ rfl (World.ownsRow_made w #[] 0 (Nat.le_refl _) (Nat.zero_le _) rfl) a xs.length c (xs.map (Value.int .u8)) rfl ?lenOk ?newsOk ?oneOk ?maxOk ?bytesOk ?baseOk ?_)
  case lenOk => simp
  case newsOk => exact NEWS.out
  case oneOk => exact ints_oneCell _ _
  case maxOk => unfold maxLen; omega
  case bytesOk => omega
  case baseOk => simp
  intro v' w1 hown hgrow hnil
  go_wp2
  go_ret
  refine ⟨v', rfl, by simpa using hown, ?_, HB0.out.grown hgrow (by simp) (by intro k hk; simp [Value.ownBlock] at hk; omega)⟩
  first | exact hnil | exact fun e => by simpa using (hnil.1 e).1

/-- bytes.Clone: the same bytes, in memory of the call's own; nil stays nil. -/
theorem clone_any (v : Value) (o : Option (List Int)) (w : World) (h : Bytes w v o) :
    Calls Trym.prog 17 #[v] w fun e w' => ∃ v', e = .returned v' ∧ Owned w' w.heap.size v' o ∧ Below w.heap.size w w' := by
  match o, h with
  | none, h =>
    have h' : v = .slice none 0 0 := h
    subst h'
    refine (clone_nil w).mono ?_
    rintro e w' ⟨rfl, rfl⟩
    exact ⟨_, rfl, rfl, Below.refl _ _⟩
  | some xs, ⟨h1, h2, a, c, hv, h3⟩ =>
    subst hv
    refine (clone_some a c xs w h1 h3).mono ?_
    rintro e w' ⟨v', rfl, hown, hne, hb⟩
    refine ⟨v', rfl, ⟨h1, h2, ?_⟩, hb⟩
    rcases hown.2 with ⟨hn, _⟩ | ⟨g, cap, cur, hv, hg, _⟩
    · exact absurd hn hne
    · exact ⟨g, cap, hv, hg, hown⟩

/-! ### ownBytes -/
set_option maxHeartbeats 1000000 in
theorem own_nil (w : World) : Calls Trym.prog 8 #[.slice none 0 0] w fun e w' => e = .returned (.slice none 0 0) ∧ w' = w := by
  have q22 := eqNil
  go_enter Trym.func8, Trym.ntmps8
  go_wp2
  go_ret
  exact ⟨rfl, rfl⟩

/-- What the round of ownBytes does to the row that is being filled. -/
theorem own_step {w wr : World} {B k : Nat} {xs : List Int} (hk : k < xs.length)
    (hown : wr.ownsRow B 5 1 (.slice (some ⟨B, 0, none⟩) xs.length xs.length) xs.length ((upTo xs k).map (Value.int .u8))) (hb : Below B w wr) :
    (wr.setCell ⟨B, k, none⟩ (.int .u8 (xs.getD k 0))).ownsRow B 5 1 (.slice (some ⟨B, 0, none⟩) xs.length xs.length) xs.length ((upTo xs (k + 1)).map (Value.int .u8)) ∧ Below B w (wr.setCell ⟨B, k, none⟩ (.int .u8 (xs.getD k 0))) := by
  obtain ⟨s1, s2⟩ := hown.stored k (.int .u8 (xs.getD k 0))
  refine ⟨?_, hb.setCell (Nat.le_refl _) _⟩
  rw [← upTo_set xs k hk, List.map_set]
  exact s1

set_option maxHeartbeats 2000000 in
theorem own_full (b off c : Nat) (xs : List Int) (w : World) (h0 : 0 < xs.length) (hbig : xs.length ≤ 1048576) (hc : ∀ i, i < xs.length → w.cell? ⟨b, off + i, none⟩ = some (.int .u8 (xs.getD i 0))) :
    Calls Trym.prog 8 #[.slice (some ⟨b, off, none⟩) xs.length c] w fun e w' => e = .returned (.slice (some ⟨w.heap.size, 0, none⟩) xs.length xs.length) ∧
      w'.ownsRow w.heap.size 5 1 (.slice (some ⟨w.heap.size, 0, none⟩) xs.length xs.length) xs.length (xs.map (Value.int .u8)) ∧ Below w.heap.size w w' := by
  have q22 := eqNil
  obtain ⟨i0, hi, hz0, hz1, hz2⟩ := info_parts Trym.info5
  obtain ⟨w1, hmk, hown, hgr⟩ := run_make_full (P := Trym.prog) w w.heap.size 22 5 i0 (.int .u8 0) 1 Trym.underlying22 hi hz0 hz1 .i64 .i64 xs.length (by rw [hz2]; omega) (by unfold maxLen; omega) (Nat.le_refl _)
  have hb1 : Below w.heap.size w w1 := (Below.refl _ _).grown hgr (Nat.le_refl _) (by simp)
  have e0 : (madeCells (Value.int .u8 0).cells (xs.length * 1)).toList = (upTo xs 0).map (Value.int .u8) := by
    rw [upTo_zero, Nat.mul_one]
    show (madeCells #[Value.int .u8 0] xs.length).toList = _
    rw [toList_madeCells_one]; simp
  rw [e0] at hown
  clear e0
  have hbw : b < w.heap.size := World.block_lt_of_cell? w _ (hc 0 h0)
  have A : Hid (∀ i, i < xs.length → w.cell? ⟨b, off + i, none⟩ = some (.int .u8 (xs.getD i 0))) := hc
  have hownH : Hid (w1.ownsRow w.heap.size 5 1 (.slice (some ⟨w.heap.size, 0, none⟩) xs.length xs.length) xs.length ((upTo xs 0).map (Value.int .u8))) := hown
  have hbH : Hid (Below w.heap.size w w1) := hb1
  clear hc hown hgr hb1
  go_enter Trym.func8, Trym.ntmps8
  go_wp2
  go_loopw [4] (fun i wr => ∃ k : Nat, k ≤ xs.length ∧ i = .int .i64 k ∧ wr.ownsRow w.heap.size 5 1 (.slice (some ⟨w.heap.size, 0, none⟩) xs.length xs.length) xs.length ((upTo xs k).map (Value.int .u8)) ∧ Below w.heap.size w wr)
    (fun i _ => xs.length - (intOf i).toNat)
  case atStart => exact ⟨0, Nat.zero_le _, rfl, hownH.out, hbH.out⟩
  case round =>
    obtain ⟨k, hk, rfl, hown, hb⟩ := hrel
    clear hownH hbH hmk
    by_cases hlt : k < xs.length
    · have hsrc : wr.cell? ⟨b, off + k, none⟩ = some (.int .u8 (xs.getD k 0)) := (hb.cell (p := ⟨b, off + k, none⟩) hbw).trans (A.out k hlt)
      have hdst : wr.cell? ⟨w.heap.size, k, none⟩ = some (.int .u8 ((upTo xs k).getD k 0)) := by
        rw [hown.cellAt k (by omega)]
        simp [List.getD, List.getElem?_eq_getElem (show k < (upTo xs k).length by rw [upTo_length]; exact hlt)]
      have hfr : wr.frozen? ⟨w.heap.size, k, none⟩ = false := hown.frozenAt k
      have R := own_step hlt hown hb
      have RH : Hid (_ ∧ _) := R
      clear R hown hb A
      go_wp2
      go_roundw
      case rel => exact ⟨k + 1, by omega, by go_num, by simpa [hlt] using RH.out.1, by simpa [hlt] using RH.out.2⟩
      case measure => simp [intOf]; omega
    · have hkl : k = xs.length := by omega
      subst hkl
      rw [upTo_all] at hown
      go_wp2
      go_ret
      exact ⟨rfl, hown, hb⟩

set_option maxHeartbeats 2000000 in
theorem own_zero (a : Addr) (c : Nat) (w : World) :
    Calls Trym.prog 8 #[.slice (some a) 0 c] w fun e w' => e = .returned (.slice (some ⟨w.heap.size, 0, none⟩) 0 0) ∧
      w'.ownsRow w.heap.size 5 1 (.slice (some ⟨w.heap.size, 0, none⟩) 0 0) 0 [] ∧ Below w.heap.size w w' := by
  have q22 := eqNil
  obtain ⟨i0, hi, hz0, hz1, hz2⟩ := info_parts Trym.info5
  obtain ⟨w1, hmk, hown, hgr⟩ := run_make_full (P := Trym.prog) w w.heap.size 22 5 i0 (.int .u8 0) 1 Trym.underlying22 hi hz0 hz1 .i64 .i64 0 (by rw [hz2]; omega) (by unfold maxLen; omega) (Nat.le_refl _)
  have hb1 : Below w.heap.size w w1 := (Below.refl _ _).grown hgr (Nat.le_refl _) (by simp)
  have e0 : (madeCells (Value.int .u8 0).cells (0 * 1)).toList = [] := by simp [madeCells]
  rw [e0] at hown
  have hownH : Hid (w1.ownsRow w.heap.size 5 1 (.slice (some ⟨w.heap.size, 0, none⟩) 0 0) 0 []) := hown
  have hbH : Hid (Below w.heap.size w w1) := hb1
  clear e0 hown hgr hb1
  simp only [Int.cast_ofNat_Int] at hmk
  go_enter Trym.func8, Trym.ntmps8
  go_wp2
  go_loopw [4] (fun i wr => i = .int .i64 0 ∧ wr = w1) (fun _ _ => 0)
  case atStart => exact ⟨rfl, rfl⟩
  case round =>
    obtain ⟨rfl, rfl⟩ := hrel
    go_wp2
    go_ret
    exact ⟨rfl, hownH.out, hbH.out⟩

/-- ownBytes: the same bytes, in memory of the call's own; nil stays nil. -/
theorem own_any (v : Value) (o : Option (List Int)) (w : World) (h : Bytes w v o) :
    Calls Trym.prog 8 #[v] w fun e w' => ∃ v', e = .returned v' ∧ Owned w' w.heap.size v' o ∧ Below w.heap.size w w' := by
  match o, h with
  | none, h =>
    have h' : v = .slice none 0 0 := h
    subst h'
    refine (own_nil w).mono ?_
    rintro e w' ⟨rfl, rfl⟩
    exact ⟨_, rfl, rfl, Below.refl _ _⟩
  | some xs, ⟨h1, h2, a, c, hv, h3⟩ =>
    subst hv
    by_cases h0 : 0 < xs.length
    · obtain ⟨b, off, rfl, hc⟩ := plain_of h3 h0
      refine (own_full b off c xs w h0 h1 hc).mono ?_
      rintro e w' ⟨rfl, hown, hb⟩
      exact ⟨_, rfl, ⟨h1, h2, _, _, rfl, Nat.le_refl _, hown⟩, hb⟩
    · have hx : xs = [] := List.length_eq_zero_iff.1 (by omega)
      subst hx
      refine (own_zero a c w).mono ?_
      rintro e w' ⟨rfl, hown, hb⟩
      exact ⟨_, rfl, ⟨by simp, by simp, _, _, rfl, Nat.le_refl _, by simpa using hown⟩, hb⟩

/-! ### MarshalJSON -/
theorem null_cells (w : World) (i : Nat) (hi : i < nullT.length) : (w.alloc (.cells #[.int .u8 110, .int .u8 117, .int .u8 108, .int .u8 108] 5 (4, 5))).cell? ((⟨w.heap.size, 0, none⟩ : Addr).add i) = some (.int .u8 (nullT.getD i 0)) := by
  have hh := heap_alloc_new w (.cells #[.int .u8 110, .int .u8 117, .int .u8 108, .int .u8 108] 5 (4, 5))
  rw [add_none, Nat.zero_add]
  unfold World.cell?
  rw [hh]
  simp only [nullT, List.length_cons, List.length_nil] at hi
  match i, hi with
  | 0, _ => rfl
  | 1, _ => rfl
  | 2, _ => rfl
  | 3, _ => rfl

set_option maxHeartbeats 1000000 in
theorem marshal_nil (w : World) : Calls Trym.prog 10 #[.agg #[.slice none 0 0]] w fun e w' => ∃ v', e = .returned (.tuple #[v', .nilIface]) ∧ Bytes w' v' (some nullT) ∧ Below w.heap.size w w' := by
  have q22 := eqNil
  have kc : ∀ (C : Array Value) (n c : Nat), (convert 22 22 (.slice (some ⟨w.heap.size + 1, 0, none⟩) n c)).run Trym.prog ((w.alloc (.cells #[.slice none 0 0] 26)).alloc (.cells C 5)) =
      .ok (.slice (some ⟨w.heap.size + 1, 0, none⟩) n c) ((w.alloc (.cells #[.slice none 0 0] 26)).alloc (.cells C 5 (C.size, C.size + 1))) := fun C n c => by
    have h := Lib.run_convert_bytes_const (P := Trym.prog) (w.alloc (.cells #[.slice none 0 0] 26)) 22 5 C n c Trym.underlying22 Trym.underlying5
    simpa using h
  go_enter Trym.func10, Trym.ntmps10
  go_wp2
  go_ret2
  refine ⟨_, rfl, ⟨by decide, by decide, ⟨w.heap.size + 1, 0, none⟩, 4, rfl, ?_⟩, ((Below.refl _ _).alloc (Nat.le_refl _) _).alloc (by simp) _⟩
  intro i hi
  have h := null_cells (w.alloc (.cells #[.slice none 0 0] 26)) i hi
  simpa using h

set_option maxHeartbeats 1000000 in
theorem marshal_some (a : Addr) (n c : Nat) (w : World) : Calls Trym.prog 10 #[.agg #[.slice (some a) n c]] w fun e w' => e = .returned (.tuple #[.slice (some a) n c, .nilIface]) ∧ Below w.heap.size w w' := by
  have q22 := eqNil
  go_enter Trym.func10, Trym.ntmps10
  go_wp2
  go_ret2
  exact ⟨rfl, (Below.refl _ _).alloc (Nat.le_refl _) _⟩

/-- MarshalJSON: the bytes that are held; of nil: null. -/
theorem marshal_any (v : Value) (o : Option (List Int)) (w : World) (h : Bytes w v o) :
    Calls Trym.prog 10 #[.agg #[v]] w fun e w' => ∃ v', e = .returned (.tuple #[v', .nilIface]) ∧ Bytes w' v' (some (o.getD nullT)) ∧ Below w.heap.size w w' := by
  match o, h with
  | none, h =>
    have h' : v = .slice none 0 0 := h
    subst h'
    exact marshal_nil w
  | some xs, h =>
    obtain ⟨h1, h2, a, c, hv, h3⟩ := id h
    subst hv
    refine (marshal_some a xs.length c w).mono ?_
    rintro e w' ⟨rfl, hb⟩
    exact ⟨_, rfl, h.below hb, hb⟩

/-! ### isNullText -/
def isNullB (o : Option (List Int)) : Bool := o == some nullT

set_option maxHeartbeats 1000000 in
theorem isnull_other (a : Option Addr) (n c : Nat) (w : World) (h : n ≠ 4) : Calls Trym.prog 11 #[.slice a n c] w fun e w' => e = .returned (.bool false) ∧ w' = w := by
  have h4 : ((n : Int) == 4) = false := by simp; omega
  go_enter Trym.func11, Trym.ntmps11
  go_wp2
  go_ret
  exact ⟨rfl, rfl⟩

set_option maxHeartbeats 2000000 in
theorem isnull_four (b off c : Nat) (x0 x1 x2 x3 : Int) (w : World) (g0 : w.cell? ⟨b, off, none⟩ = some (.int .u8 x0)) (g1 : w.cell? ⟨b, off + 1, none⟩ = some (.int .u8 x1)) (g2 : w.cell? ⟨b, off + 2, none⟩ = some (.int .u8 x2)) (g3 : w.cell? ⟨b, off + 3, none⟩ = some (.int .u8 x3)) :
    Calls Trym.prog 11 #[.slice (some ⟨b, off, none⟩) 4 c] w fun e w' => e = .returned (.bool (x0 == 110 && x1 == 117 && x2 == 108 && x3 == 108)) ∧ w' = w := by
  by_cases e0 : x0 = 110
  · by_cases e1 : x1 = 117
    · by_cases e2 : x2 = 108
      · by_cases e3 : x3 = 108
        · subst e0 e1 e2 e3
          go_enter Trym.func11, Trym.ntmps11
          go_wp2
          go_ret
          exact ⟨rfl, rfl⟩
        · have d3 : (x3 == 108) = false := by simpa using e3
          subst e0 e1 e2
          go_enter Trym.func11, Trym.ntmps11
          go_wp2
          go_ret
          exact ⟨by simp [d3], rfl⟩
      · have d2 : (x2 == 108) = false := by simpa using e2
        subst e0 e1
        go_enter Trym.func11, Trym.ntmps11
        go_wp2
        go_ret
        exact ⟨by simp [d2], rfl⟩
    · have d1 : (x1 == 117) = false := by simpa using e1
      subst e0
      go_enter Trym.func11, Trym.ntmps11
      go_wp2
      go_ret
      exact ⟨by simp [d1], rfl⟩
  · have d0 : (x0 == 110) = false := by simpa using e0
    go_enter Trym.func11, Trym.ntmps11
    go_wp2
    go_ret
    exact ⟨by simp [d0], rfl⟩

/-- isNullText: are these the four bytes of null? -/
theorem isnull_any (v : Value) (o : Option (List Int)) (w : World) (h : Bytes w v o) : Calls Trym.prog 11 #[v] w fun e w' => e = .returned (.bool (isNullB o)) ∧ w' = w := by
  match o, h with
  | none, h =>
    have h' : v = .slice none 0 0 := h
    subst h'
    exact isnull_other none 0 0 w (by decide)
  | some xs, ⟨_, h2, a, c, hv, h3⟩ =>
    subst hv
    by_cases h4 : xs.length = 4
    · match xs, h4 with
      | [x0, x1, x2, x3], _ =>
        obtain ⟨b, off, rfl, hc⟩ := plain_of h3 (by simp)
        refine (isnull_four b off c x0 x1 x2 x3 w (by simpa using hc 0 (by simp)) (by simpa using hc 1 (by simp)) (by simpa using hc 2 (by simp)) (by simpa using hc 3 (by simp))).mono ?_
        rintro e w' ⟨rfl, rfl⟩
        refine ⟨?_, rfl⟩
        congr 2
        simp [isNullB, nullT, Bool.and_assoc]
    · refine (isnull_other (some a) xs.length c w h4).mono ?_
      rintro e w' ⟨rfl, rfl⟩
      refine ⟨?_, rfl⟩
      have : isNullB (some xs) = false := by
        simp only [isNullB, beq_eq_false_iff_ne, ne_eq, Option.some.injEq]
        intro hx
        exact h4 (by rw [hx]; rfl)
      rw [this]
end Go.Proofs.Qxb6000205aMods
