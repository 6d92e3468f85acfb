/-
  The walks of sameBytes (12) and UnmarshalJSON (9).
-/
import Derived.Test.Qxb6000205aModsWalks
namespace Go.Proofs.Qxb6000205aMods
open Go.RowKit

theorem drewN_add (w : World) (n m : Nat) : (w.drewN n).drewN m = w.drewN (n + m) := by
  simp [World.drewN, Nat.add_assoc]

/-! ### sameBytes -/
/-- Two rows of one length agree up to k. -/
def agree (xs ys : List Int) (k : Nat) : Prop := ∀ i, i < k → xs.getD i 0 = ys.getD i 0
theorem agree_all {xs ys : List Int} (hl : xs.length = ys.length) (h : agree xs ys xs.length) : (xs == ys) = true := by
  rw [beq_iff_eq]
  apply List.ext_getElem hl
  intro i h1 h2
  have := h i h1
  simpa [List.getD, h1, h2] using this
theorem agree_not {xs ys : List Int} {k : Nat} (h : xs.getD k 0 ≠ ys.getD k 0) : (xs == ys) = false := by
  rw [beq_eq_false_iff_ne]
  intro e
  exact h (by rw [e])

set_option maxHeartbeats 1000000 in
theorem same_len (a a' : Option Addr) (n c n' c' : Nat) (w : World) (h : n ≠ n') : Calls Trym.prog 12 #[.slice a n c, .slice a' n' c'] w fun e w' => e = .returned (.bool false) ∧ w' = w := by
  have hne : ((n : Int) != (n' : Int)) = true := by rw [bne_iff_ne]; omega
  go_enter Trym.func12, Trym.ntmps12
  go_wp2
  go_ret
  exact ⟨rfl, rfl⟩

set_option maxHeartbeats 1000000 in
theorem same_zero (a a' : Option Addr) (c c' : Nat) (w : World) : Calls Trym.prog 12 #[.slice a 0 c, .slice a' 0 c'] w fun e w' => e = .returned (.bool true) ∧ w' = w := by
  go_enter Trym.func12, Trym.ntmps12
  go_wp2
  go_loopw [5] (fun i wr => i = .int .i64 0 ∧ wr = w) (fun _ _ => 0)
  case atStart => exact ⟨rfl, rfl⟩
  case round =>
    obtain ⟨rfl, rfl⟩ := hrel
    go_wp2
    go_ret
    exact ⟨rfl, rfl⟩

set_option maxHeartbeats 2000000 in
theorem same_full (b off c b' off' c' : Nat) (xs ys : List Int) (w : World) (hl : ys.length = xs.length) (hbig : xs.length ≤ 1048576)
    (hx : ∀ i, i < xs.length → w.cell? ⟨b, off + i, none⟩ = some (.int .u8 (xs.getD i 0))) (hy : ∀ i, i < xs.length → w.cell? ⟨b', off' + i, none⟩ = some (.int .u8 (ys.getD i 0))) :
    Calls Trym.prog 12 #[.slice (some ⟨b, off, none⟩) xs.length c, .slice (some ⟨b', off', none⟩) xs.length c'] w fun e w' => e = .returned (.bool (xs == ys)) ∧ ∃ n, w' = w.drewN n := by
  have X : Hid (∀ i, i < xs.length → w.cell? ⟨b, off + i, none⟩ = some (.int .u8 (xs.getD i 0))) := hx
  have Y : Hid (∀ i, i < xs.length → w.cell? ⟨b', off' + i, none⟩ = some (.int .u8 (ys.getD i 0))) := hy
  have L : Hid (ys.length = xs.length) := hl
  clear hx hy hl
  have hne : ((xs.length : Int) != (xs.length : Int)) = false := by simp
  go_enter Trym.func12, Trym.ntmps12
  go_wp2
  go_loopw [5] (fun i wr => ∃ k : Nat, k ≤ xs.length ∧ i = .int .i64 k ∧ agree xs ys k ∧ ∃ n, wr = w.drewN n) (fun i _ => xs.length - (intOf i).toNat)
  case atStart => exact ⟨0, Nat.zero_le _, rfl, fun i hi => by omega, 0, rfl⟩
  case round =>
    obtain ⟨k, hk, rfl, hag, n, rfl⟩ := hrel
    by_cases hlt : k < xs.length
    · obtain ⟨x, hxk⟩ : ∃ x, x = xs.getD k 0 := ⟨_, rfl⟩
      obtain ⟨y, hyk⟩ : ∃ y, y = ys.getD k 0 := ⟨_, rfl⟩
      have gx := X.out k hlt
      have gy := Y.out k hlt
      rw [← hxk] at gx
      rw [← hyk] at gy
      have HX : Hid (x = xs.getD k 0) := hxk
      have HY : Hid (y = ys.getD k 0) := hyk
      have HA : Hid (agree xs ys k) := hag
      clear hxk hyk hag
      by_cases hxy : x = y
      · have hd : (x != y) = false := by simpa using hxy
        have HXY : Hid (x = y) := hxy
        clear hxy
        go_wp2
        go_quiet (fail)
        go_wp2
        go_roundw
        case rel => exact ⟨k + 1, by omega, by go_num, fun i hi => by
                            rcases Nat.lt_or_ge i k with h | h
                            · exact HA.out i h
                            · have : i = k := by omega
                              subst this
                              rw [← HX.out, ← HY.out, HXY.out], n + nq, by first | rfl | exact drewN_add _ _ _⟩
        case measure => simp [intOf]; omega
      · have hd : (x != y) = true := by simpa using hxy
        go_wp2
        go_quiet (fail)
        go_wp2
        go_ret
        exact ⟨by rw [agree_not (k := k) (by rw [← HX.out, ← HY.out]; exact hxy)]; rfl, n + nq, by first | rfl | exact drewN_add _ _ _⟩
    · have hkl : k = xs.length := by omega
      subst hkl
      go_wp2
      go_ret
      exact ⟨by rw [agree_all L.out.symm hag]; rfl, n, rfl⟩

/-- sameBytes: are the bytes one? (nil reads as no bytes) -/
theorem same_any (v v' : Value) (xs ys : List Int) (w : World) (h : Bytes w v (some xs)) (h' : Bytes w v' (some ys)) :
    Calls Trym.prog 12 #[v, v'] w fun e w' => e = .returned (.bool (xs == ys)) ∧ ∃ n, w' = w.drewN n := by
  obtain ⟨h1, _, a, c, hv, h3⟩ := h
  obtain ⟨_, _, a', c', hv', h3'⟩ := h'
  subst hv hv'
  by_cases hl : ys.length = xs.length
  · by_cases h0 : 0 < xs.length
    · obtain ⟨b, off, rfl, hc⟩ := plain_of h3 h0
      obtain ⟨b', off', rfl, hc'⟩ := plain_of h3' (by omega)
      rw [hl]
      exact same_full b off c b' off' c' xs ys w hl h1 hc fun i hi => hc' i (by omega)
    · have hx : xs = [] := List.length_eq_zero_iff.1 (by omega)
      have hy : ys = [] := List.length_eq_zero_iff.1 (by omega)
      subst hx hy
      refine (same_zero (some a) (some a') c c' w).mono ?_
      rintro e w' ⟨rfl, rfl⟩
      exact ⟨rfl, 0, rfl⟩
  · refine (same_len (some a) (some a') xs.length c ys.length c' w (by omega)).mono ?_
    rintro e w' ⟨rfl, rfl⟩
    have : (xs == ys) = false := by
      rw [beq_eq_false_iff_ne]
      intro e
      exact hl (by rw [e])
    exact ⟨by rw [this], 0, rfl⟩

/-! ### UnmarshalJSON -/
/-- What 'string(data)' gives. -/
theorem conv_any (v : Value) (o : Option (List Int)) (w : World) (h : Bytes w v o) : (convert 22 9 v).run Trym.prog w = .ok (.string (strOfNums (o.getD []))) w := by
  match o, h with
  | none, h =>
    have h' : v = .slice none 0 0 := h
    subst h'
    exact run_convert_bytes_nil w 22 5 Trym.underlying22 Trym.underlying5 0 0 9 Trym.underlying9
  | some xs, ⟨_, _, a, c, hv, h3⟩ =>
    subst hv
    have hl : (loadCells a xs.length).run Trym.prog w = .ok (xs.map (Value.int .u8)).toArray w := by
      simpa using run_loadCells_list (P := Trym.prog) w a (xs.map (Value.int .u8)) (news_of (Below.refl _ _) h3)
    rw [run_convert_bytes_string w 22 9 5 _ _ _ Trym.underlying22 Trym.underlying5 Trym.underlying9, run_bytesToString w _ _ c xs hl, foldl_push_bytes]
    simp [strOfNums, ByteArray.empty, ByteArray.emptyWithCapacity]
    rfl

theorem byte_inj {x : Int} {k : Nat} (hk : k < 256) (h0 : 0 ≤ x) (h1 : x ≤ 255) : UInt8.ofNat x.toNat = UInt8.ofNat k ↔ x = k := by
  constructor
  · intro h
    have := congrArg UInt8.toNat h
    simp [UInt8.toNat_ofNat'] at this
    omega
  · intro h
    rw [h]; simp

/-- It is the text of null just where the bytes are. -/
theorem conv_null (o : Option (List Int)) (h : ∀ xs, o = some xs → ∀ x ∈ xs, 0 ≤ x ∧ x ≤ 255) : ((strOfNums (o.getD [])).toList == [110, 117, 108, 108]) = isNullB o := by
  rw [ByteArray.toList_eq, strOfNums_data]
  match o with
  | none => rfl
  | some xs =>
    have hb := h xs rfl
    simp only [Option.getD_some, isNullB]
    rw [Bool.eq_iff_iff, beq_iff_eq, beq_iff_eq, Option.some.injEq]
    constructor
    · intro e
      have hlen : xs.length = 4 := by simpa using congrArg List.length e
      match xs, hlen, e with
      | [x0, x1, x2, x3], _, e =>
        simp at hb
        simp only [List.map_cons, List.map_nil, List.cons.injEq, and_true] at e
        obtain ⟨e0, e1, e2, e3⟩ := e
        have f0 := (byte_inj (k := 110) (by decide) hb.1.1 hb.1.2).1 e0
        have f1 := (byte_inj (k := 117) (by decide) hb.2.1.1 hb.2.1.2).1 e1
        have f2 := (byte_inj (k := 108) (by decide) hb.2.2.1.1 hb.2.2.1.2).1 e2
        have f3 := (byte_inj (k := 108) (by decide) hb.2.2.2.1 hb.2.2.2.2).1 e3
        subst f0 f1 f2 f3
        rfl
    · intro e
      subst e
      rfl

theorem Bytes.bounds {w : World} {v : Value} {o : Option (List Int)} (h : Bytes w v o) : ∀ xs, o = some xs → ∀ x ∈ xs, 0 ≤ x ∧ x ≤ 255 := by
  intro xs e
  subst e
  exact h.2.1

set_option maxHeartbeats 1000000 in
theorem unm_null (qb : Nat) (v : Value) (o : Option (List Int)) (w : World) (h : Bytes w v o) (hn : isNullB o = true) :
    Calls Trym.prog 9 #[.pointer (some ⟨qb, 0, none⟩), v] w fun e w' => e = .returned .nilIface ∧ w' = w := by
  have hc := conv_any v o w h
  have ht := (conv_null o h.bounds).trans hn
  clear h hn
  go_enter Trym.func9, Trym.ntmps9
  go_wp2
  go_ret
  exact ⟨rfl, rfl⟩

theorem Owned.form {w : World} {base : Nat} {v : Value} {o : Option (List Int)} (h : Owned w base v o) : ∃ a n c, v = .slice a n c := by
  match o, h with
  | none, h => exact ⟨none, 0, 0, h⟩
  | some xs, ⟨_, _, g, c, hv, _⟩ => exact ⟨_, _, _, hv⟩

set_option maxHeartbeats 1000000 in
theorem unm_keep (qb : Nat) (v v0 : Value) (o : Option (List Int)) (w : World) (hq : w.heap[qb]? = some (.cells #[v0] 26 (0, 0))) (h : Bytes w v o) (hn : isNullB o = false) :
    Calls Trym.prog 9 #[.pointer (some ⟨qb, 0, none⟩), v] w fun e w' => e = .returned .nilIface ∧ ∃ w1 v1, w' = w1.setCell ⟨qb, 0, none⟩ v1 ∧ Below w.heap.size w w1 ∧ Owned w1 w.heap.size v1 o := by
  have hc := conv_any v o w h
  have ht := (conv_null o h.bounds).trans hn
  have hlt := lt_of_block hq
  have hq0 := cell_of_one hq
  have hf0 := free_of_one hq
  have hcl : Calls Trym.prog 17 #[v] w fun e w' => ∃ a n c, e = .returned (.slice a n c) ∧ Hid (Owned w' w.heap.size (.slice a n c) o) ∧ Below w.heap.size w w' :=
    (clone_any v o w h).mono fun e w' ⟨v', he, hown, hb⟩ => by
      obtain ⟨a, n, c, rfl⟩ := hown.form
      exact ⟨a, n, c, he, hown, hb⟩
  have HC : Hid (Calls Trym.prog 17 #[v] w fun e w' => ∃ a n c, e = .returned (.slice a n c) ∧ Hid (Owned w' w.heap.size (.slice a n c) o) ∧ Below w.heap.size w w') := hcl
  clear hn hcl h
  go_enter Trym.func9, Trym.ntmps9
  go_wp2_with fail
  refine HC.out.mono ?_
  rintro e w1 ⟨a, n, c, rfl, hown, hb⟩
  have g0 : w1.cell? ⟨qb, 0, none⟩ = some v0 := (hb.cell (p := ⟨qb, 0, none⟩) hlt).trans hq0
  have g1 : w1.frozen? ⟨qb, 0, none⟩ = false := (hb.frozen (p := ⟨qb, 0, none⟩) hlt).trans hf0
  clear hq0 hf0 hq HC
  go_wp2
  go_ret
  exact ⟨rfl, w1, _, rfl, hb, hown.out⟩

/-- What q holds after UnmarshalJSON of the bytes o. -/
def nextQ (old o : Option (List Int)) : Option (List Int) := if isNullB o then old else o

/-- The variable at block qb (a Quantity) holds the bytes o. -/
structure QHolds (w : World) (qb : Nat) (v : Value) (o : Option (List Int)) : Prop where
  block : w.heap[qb]? = some (.cells #[v] 26 (0, 0))
  bytes : Bytes w v o

theorem Bytes.noInt {w : World} {v : Value} {o : Option (List Int)} (h : Bytes w v o) : ∀ x, v ≠ .int .u8 x := by
  intro x
  match o, h with
  | none, h =>
    have h' : v = .slice none 0 0 := h
    rw [h']; simp
  | some xs, ⟨_, _, a, c, hv, _⟩ => rw [hv]; simp

/-- UnmarshalJSON: a null leaves q as it is; else q holds the bytes, in memory of the call's own. Nothing else that was there has turned. -/
theorem unm_any (qb : Nat) (v v0 : Value) (old o : Option (List Int)) (w : World) (hq : QHolds w qb v0 old) (h : Bytes w v o) :
    Calls Trym.prog 9 #[.pointer (some ⟨qb, 0, none⟩), v] w fun e w' => e = .returned .nilIface ∧ w.grownBy w' (some qb) ∧
      ∃ v1, QHolds w' qb v1 (nextQ old o) ∧ (isNullB o = false → ∀ k, v1.ownBlock = some k → w.heap.size ≤ k) := by
  cases hn : isNullB o with
  | true =>
    refine (unm_null qb v o w h hn).mono ?_
    rintro e w' ⟨rfl, rfl⟩
    exact ⟨rfl, ⟨rfl, rfl, rfl, Nat.le_refl _, fun _ _ _ => rfl⟩, v0, by simpa [nextQ, hn] using hq, by simp⟩
  | false =>
    refine (unm_keep qb v v0 o w hq.block h hn).mono ?_
    rintro e w' ⟨rfl, w1, v1, rfl, hb, hown⟩
    have hlt := lt_of_block hq.block
    have hq1 : w1.heap[qb]? = some (.cells #[v0] 26 (0, 0)) := (hb.block qb hlt).trans hq.block
    have hg1 : w1.grownBy (w1.setCell ⟨qb, 0, none⟩ v1) (some qb) := ⟨rfl, rfl, rfl, by simp [World.setCell], fun k _ hk => Below.heap_setCell _ _ _ _ (fun e => hk (by rw [e]))⟩
    refine ⟨rfl, ⟨hb.os, hb.tape, hb.output, by simpa [World.setCell] using hb.size, fun k hk hne => ?_⟩, v1, ⟨one_setCell hq1, ?_⟩, fun _ k hk => ?_⟩
    · rw [Below.heap_setCell _ _ _ _ (fun e => hne (by rw [e]))]
      exact hb.block k hk
    · simp only [nextQ, hn]
      exact hown.bytes.grown hq1 hq.bytes.noInt hg1
    · match o, hown with
      | none, hv =>
        have hv' : v1 = .slice none 0 0 := hv
        subst hv'
        simp [Value.ownBlock] at hk
      | some xs, ⟨_, _, g, c, hv, hg, _⟩ =>
        subst hv
        simp [Value.ownBlock] at hk
        omega
end Go.Proofs.Qxb6000205aMods
