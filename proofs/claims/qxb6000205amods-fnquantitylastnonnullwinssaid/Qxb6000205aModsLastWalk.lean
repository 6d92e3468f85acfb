/-
  The walk of FnQuantityLastNonNullWins (4).
-/
import Derived.Test.Qxb6000205aModsScript
namespace Go.Proofs.Qxb6000205aMods
open Go.RowKit

/-! ### The plain law -/
/-- What a Quantity holds after the first k elements. -/
def foldQ (O : Nat → Option (List Int)) : Nat → Option (List Int)
  | 0 => none
  | k + 1 => nextQ (foldQ O k) (O k)

theorem foldQ_nulls (O : Nat → Option (List Int)) (k : Nat) : ∀ n, k ≤ n → (∀ r, k ≤ r → r < n → isNullB (O r) = true) → foldQ O n = foldQ O k
  | 0, h, _ => by
    have : k = 0 := by omega
    rw [this]
  | n + 1, h, hn => by
    by_cases e : k = n + 1
    · rw [e]
    · have h1 := foldQ_nulls O k n (by omega) (fun r h1 h2 => hn r h1 (by omega))
      have h2 := hn n (by omega) (by omega)
      simp only [foldQ, nextQ, h2, if_true]
      exact h1

theorem foldQ_last (O : Nat → Option (List Int)) (k n : Nat) (h : k < n) (hk : isNullB (O k) = false) (hn : ∀ r, k + 1 ≤ r → r < n → isNullB (O r) = true) : foldQ O n = O k := by
  rw [foldQ_nulls O (k + 1) n h hn]
  simp [foldQ, nextQ, hk]

theorem neqNil_at (w : World) (a : Option Addr) (n c : Nat) (o : Option (List Int)) (h : Bytes w (.slice a n c) o) : a.isNone = o.isNone := by
  match o, h with
  | none, h =>
    have h' : Value.slice a n c = .slice none 0 0 := h
    simp at h'
    simp [h'.1]
  | some xs, ⟨_, _, x, c', hv, _⟩ =>
    simp at hv
    simp [hv.1]

set_option maxHeartbeats 4000000 in
theorem last_zero (a : Option Addr) (c : Nat) (hn : a = none → c = 0) (w : World) : Calls Trym.prog 4 #[.slice a 0 c] w fun e w' => e = .returned (.bool true) ∧ Below w.heap.size w w' := by
  go_enter Trym.func4, Trym.ntmps4
  go_wp2_with fail
  refine (zz13_zero a c _).mono ?_
  rintro e wx ⟨rfl, hwx⟩
  subst hwx
  go_wp2
  go_loopw [3, 4] (fun n i wr => n = .int .i64 0 ∧ i = .int .i64 0 ∧ wr = wx) (fun _ _ _ => 0)
  case atStart => exact ⟨rfl, rfl, rfl⟩
  case round =>
    obtain ⟨rfl, rfl, rfl⟩ := hrel
    go_wp2_with fail
    refine (script_zero a c hn _).mono ?_
    rintro e w1 ⟨⟨a1, c1, rfl⟩, hb1⟩
    have Q0 := qfresh w1
    have hc0 := cell_of_one Q0.block
    go_wp2
    go_loopw [6] (fun i w2 => i = .int .i64 0 ∧ w2 = w1.alloc (.cells #[.slice none 0 0] 26)) (fun _ _ => 0)
    case atStart => exact ⟨rfl, rfl⟩
    case round =>
      obtain ⟨rfl, rfl⟩ := hrel
      go_wp2_with fail
      refine (marshal_any (.slice none 0 0) none _ rfl).mono ?_
      rintro e w3 ⟨v3, rfl, hB3, hb3⟩
      go_wp2
      go_loopw [10] (fun j wr => j = .int .i64 (-1) ∧ wr = w3) (fun _ _ => 0)
      case atStart => exact ⟨rfl, rfl⟩
      case round =>
        obtain ⟨rfl, rfl⟩ := hrel
        go_wp2_with fail
        refine (isnull_any v3 _ _ hB3).mono ?_
        rintro e wy ⟨rfl, hwy⟩
        subst hwy
        rw [show isNullB (some ((none : Option (List Int)).getD nullT)) = true from rfl]
        go_wp2
        go_ret
        exact ⟨rfl, (hb1.alloc hb1.size _).trans (hb3.mono (by have := hb1.size; simp; omega))⟩

/-- The elements of the copied script, as the walk reads them. -/
def Elems (w : World) (g len : Nat) (O : Nat → Option (List Int)) : Prop := ∀ r, r < len → ∃ a n c, w.cell? ⟨g, r, none⟩ = some (.slice a n c) ∧ Bytes w (.slice a n c) (O r)

theorem Elems.grown {w w' : World} {g len qb : Nat} {O : Nat → Option (List Int)} {v0 : Value} (h : Elems w g len O) (hq : w.heap[qb]? = some (.cells #[v0] 26 (0, 0))) (hv0 : ∀ x, v0 ≠ .int .u8 x) (hne : g ≠ qb) (hg : w.grownBy w' (some qb)) : Elems w' g len O := by
  intro r hr
  obtain ⟨a, n, c, h1, h2⟩ := h r hr
  exact ⟨a, n, c, hg.cell h1 (by simpa using hne), h2.grown hq hv0 hg⟩

theorem Elems.below {w w' : World} {g len : Nat} {O : Nat → Option (List Int)} (h : Elems w g len O) (hb : Below w.heap.size w w') : Elems w' g len O := by
  intro r hr
  obtain ⟨a, n, c, h1, h2⟩ := h r hr
  exact ⟨a, n, c, (hb.cell (World.block_lt_of_cell? w _ h1)).trans h1, h2.below hb⟩

theorem elems_of {w : World} {B len : Nat} {cs : List Value} {O : Nat → Option (List Int)} (hown : w.ownsRow B 22 1 (.slice (some ⟨B, 0, none⟩) len len) len cs) (hel : ∀ r, r < len → ∃ u, cs[r]? = some u ∧ Copied w B u (O r)) : Elems w B len O := by
  intro r hr
  obtain ⟨u, hu, ⟨a, n, c, rfl⟩, hB, _⟩ := hel r hr
  exact ⟨a, n, c, by rw [hown.cellAt r (by omega)]; exact hu, hB⟩

set_option maxHeartbeats 1000000 in
theorem last_long (a : Option Addr) (len c : Nat) (w : World) (h : 1048576 < len) (hm : len ≤ maxLen) :
    Calls Trym.prog 4 #[.slice a len c] w fun e w' => e = .returned (.bool true) ∧ Below w.heap.size w w' := by
  go_enter Trym.func4, Trym.ntmps4
  go_wp2_with fail
  refine (zz13_long a len c _ h hm).mono ?_
  rintro e wx ⟨rfl, hwx⟩
  subst hwx
  go_wp2
  go_ret
  exact ⟨rfl, Below.refl _ _⟩

set_option maxHeartbeats 1000000 in
theorem last_mid (b off len c : Nat) (A : Nat → Option Addr) (L C : Nat → Nat) (w : World) (h : 65536 < len) (hl : len ≤ 1048576) (hcell : ∀ r, r < len → w.cell? ⟨b, off + r, none⟩ = some (.slice (A r) (L r) (C r))) (hL : ∀ r, r < len → L r ≤ maxLen) :
    Calls Trym.prog 4 #[.slice (some ⟨b, off, none⟩) len c] w fun e w' => e = .returned (.bool true) ∧ Below w.heap.size w w' := by
  have HC : Hid (∀ r, r < len → w.cell? ⟨b, off + r, none⟩ = some (.slice (A r) (L r) (C r))) := hcell
  have HL : Hid (∀ r, r < len → L r ≤ maxLen) := hL
  clear hcell hL
  go_enter Trym.func4, Trym.ntmps4
  go_wp2_with fail
  refine (zz13_full b off len c A L C _ hl HC.out HL.out).mono ?_
  rintro e wx ⟨hwx, bb, rfl, _⟩
  subst hwx
  cases bb with
  | false =>
    go_wp2
    go_ret
    exact ⟨rfl, Below.refl _ _⟩
  | true =>
    go_wp2
    go_ret
    exact ⟨rfl, Below.refl _ _⟩

set_option maxHeartbeats 8000000 in
theorem last_full (b off len c : Nat) (A : Nat → Option Addr) (L C : Nat → Nat) (w : World) (h0 : 0 < len) (hl : len ≤ 65536) (hcell : ∀ r, r < len → w.cell? ⟨b, off + r, none⟩ = some (.slice (A r) (L r) (C r))) (hL : ∀ r, r < len → L r ≤ maxLen)
    (hO : ∀ r, r < len → L r ≤ 1048576 → ∃ o, Bytes w (.slice (A r) (L r) (C r)) o) :
    Calls Trym.prog 4 #[.slice (some ⟨b, off, none⟩) len c] w fun e w' => e = .returned (.bool true) ∧ Below w.heap.size w w' := by
  have hd1 : decide ((65536 : Int) < (len : Int)) = false := decide_eq_false (by omega)
  have HC : Hid (∀ r, r < len → w.cell? ⟨b, off + r, none⟩ = some (.slice (A r) (L r) (C r))) := hcell
  have HO : Hid (∀ r, r < len → L r ≤ 1048576 → ∃ o, Bytes w (.slice (A r) (L r) (C r)) o) := hO
  have HL : Hid (∀ r, r < len → L r ≤ maxLen) := hL
  clear hcell hO hL
  go_enter Trym.func4, Trym.ntmps4
  go_wp2_with fail
  refine (zz13_full b off len c A L C _ (by omega) HC.out HL.out).mono ?_
  rintro e wx ⟨hwx, bb, rfl, hbb⟩
  subst hwx
  cases bb with
  | false =>
    go_wp2
    go_ret
    exact ⟨rfl, Below.refl _ _⟩
  | true =>
    have HB : Hid (∀ r, r < len → L r ≤ 1048576) := hbb rfl
    clear hbb
    go_wp2
    go_loop [3, 4] (fun n i => ∃ k s : Nat, k ≤ len ∧ s ≤ 1048576 ∧ n = .int .i64 s ∧ i = .int .i64 k) (fun _ i => len - (intOf i).toNat)
    case atStart => exact ⟨0, 0, Nat.zero_le _, Nat.zero_le _, rfl, rfl⟩
    case round =>
      obtain ⟨k, s, hk, hs, rfl, rfl⟩ := hrel
      by_cases hlt : k < len
      · have hck := HC.out k hlt
        have hLk := HB.out k hlt
        by_cases h2 : s + (8 + L k) ≤ 1048576
        · go_wp2
          go_round
          case rel => exact ⟨k + 1, s + (8 + L k), by omega, h2, by go_num, by go_num⟩
          case measure => simp [intOf]; omega
        · go_wp2
          go_ret
          exact ⟨rfl, Below.refl _ _⟩
      · have hkl : k = len := by omega
        subst hkl
        obtain ⟨O, hOO⟩ := Deep.choose_lt (α := Option (List Int)) (p := fun r o => Bytes wx (.slice (A r) (L r) (C r)) o) (fun r hr => HO.out r hr (HB.out r hr))
        have HOO : Hid (∀ r, r < k → Bytes wx (.slice (A r) (L r) (C r)) (O r)) := hOO
        clear hOO HO HL HB
        go_wp2_with fail
        refine (script_full b off k c A L C O _ h0 hl HC.out HOO.out).mono ?_
        rintro e w1 ⟨rfl, hb1, cs, hcl, hown, hel⟩
        have hg1 : wx.heap.size < w1.heap.size := (hown.lt _ rfl).2
        have E1 := elems_of hown hel
        have Q0 := qfresh w1
        have E2 : Elems (w1.alloc (.cells #[.slice none 0 0] 26)) wx.heap.size k O := E1.below ((Below.refl _ _).alloc (Nat.le_refl _) _)
        have HE : Hid (Elems (w1.alloc (.cells #[.slice none 0 0] 26)) wx.heap.size k O) := E2
        have HQ : Hid (QHolds (w1.alloc (.cells #[.slice none 0 0] 26)) w1.heap.size (.slice none 0 0) none) := Q0
        clear hcl hown hel E1 E2 Q0 HC HOO
        go_wp2
        go_loopw [6] (fun i wr => ∃ m : Nat, m ≤ k ∧ i = .int .i64 m ∧ (w1.alloc (.cells #[.slice none 0 0] 26)).grownBy wr (some w1.heap.size) ∧ ∃ v, QHolds wr w1.heap.size v (foldQ O m)) (fun i _ => k - (intOf i).toNat)
        case atStart => exact ⟨0, Nat.zero_le _, rfl, grownBy_refl _ _, _, HQ.out⟩
        case round =>
          obtain ⟨m, hm, rfl, hgr, v, hq⟩ := hrel
          have hEr : Elems wr wx.heap.size k O := HE.out.grown HQ.out.block HQ.out.bytes.noInt (by omega) hgr
          by_cases hmk : m < k
          · obtain ⟨ae, ne, ce, hce, hBe⟩ := hEr m hmk
            have HBe : Hid (Bytes wr (.slice ae ne ce) (O m)) := hBe
            have HEr : Hid (Elems wr wx.heap.size k O) := hEr
            clear hBe hEr
            go_wp2_with fail
            refine (unm_any w1.heap.size _ v (foldQ O m) (O m) _ hq HBe.out).mono ?_
            rintro e w3 ⟨rfl, hg3, v3, hQ3, _⟩
            clear hce hq
            go_wp2
            go_roundw
            case rel => exact ⟨m + 1, by omega, by go_num, grownBy_trans hgr hg3, v3, hQ3⟩
            case measure => simp [intOf]; omega
          · have hmk' : m = k := by omega
            subst hmk'
            have hcq := cell_of_one hq.block
            have HEr : Hid (Elems wr wx.heap.size m O) := hEr
            have hbr : Below wx.heap.size wx wr := (hb1.alloc hb1.size _).grown hgr (by simp; omega) (by intro i hi; simp at hi; omega)
            have HB : Hid (Below wx.heap.size wx wr) := hbr
            clear hEr hbr hgr HE HQ
            go_wp2_with fail
            refine (marshal_any v _ _ hq.bytes).mono ?_
            rintro e w4 ⟨v4, rfl, hB4, hb4⟩
            have HE4 : Hid (Elems w4 wx.heap.size m O) := HEr.out.below hb4
            have HB4 : Hid (Below wx.heap.size wx w4) := HB.out.trans (hb4.mono HB.out.size)
            clear hcq hq HEr HB hb4
            go_wp2
            go_loopw [10] (fun j wr => wr = w4 ∧ ∃ q : Nat, q ≤ m ∧ j = .int .i64 ((q : Int) - 1) ∧ Hid (∀ r, q ≤ r → r < m → isNullB (O r) = true)) (fun j _ => (intOf j + 1).toNat)
            case atStart => exact ⟨rfl, m, Nat.le_refl _, rfl, fun r h1 h2 => by omega⟩
            case round =>
              obtain ⟨rfl, q, hqm, rfl, hnull⟩ := hrel
              match q, hqm, hnull with
              | 0, _, hnull =>
                have hf : foldQ O m = none := foldQ_nulls O 0 m (Nat.zero_le _) hnull.out
                rw [hf] at hB4
                clear hf
                go_wp2_with fail
                refine (isnull_any v4 _ _ hB4).mono ?_
                rintro e wy ⟨rfl, hwy⟩
                subst hwy
                rw [show isNullB (some ((none : Option (List Int)).getD nullT)) = true from rfl]
                go_wp2
                go_ret
                exact ⟨rfl, HB4.out⟩
              | q + 1, hqm, hnull =>
                obtain ⟨ae, ne, ce, hce, hBe⟩ := HE4.out q (by omega)
                rw [show ((q + 1 : Nat) : Int) - 1 = (q : Int) from by omega]
                cases hN : isNullB (O q) with
                | true =>
                  have HN : Hid (isNullB (O q) = true) := hN
                  clear hN
                  go_wp2_with fail
                  refine (isnull_any _ _ _ hBe).mono ?_
                  rintro e wy ⟨rfl, hwy⟩
                  subst hwy
                  rw [HN.out]
                  go_wp2
                  go_roundw
                  case rel => exact ⟨trivial, q, by omega, by go_num, fun r h1 h2 => by
                                by_cases e : r = q
                                · subst e; exact HN.out
                                · exact hnull.out r (by omega) h2⟩
                  case measure => simp [intOf]
                | false =>
                  have hf : foldQ O m = O q := foldQ_last O q m (by omega) hN hnull.out
                  rw [hf] at hB4
                  have HN : Hid (isNullB (O q) = false) := hN
                  clear hN hf
                  have hnn := neqNil
                  have ha := neqNil_at _ ae ne ce _ hBe
                  go_wp2_with fail
                  refine (isnull_any _ _ _ hBe).mono ?_
                  rintro e wy ⟨rfl, hwy⟩
                  subst hwy
                  rw [HN.out]
                  match hO : O q, hBe, hB4, ha with
                  | none, hBe, hB4, ha =>
                    go_wp2_with fail
                    refine (isnull_any v4 _ _ hB4).mono ?_
                    rintro e wy ⟨rfl, hwy⟩
                    subst hwy
                    rw [show isNullB (some ((none : Option (List Int)).getD nullT)) = true from rfl]
                    go_wp2
                    go_ret
                    exact ⟨rfl, HB4.out⟩
                  | some xs, hBe, hB4, ha =>
                    go_wp2_with fail
                    refine (same_any v4 _ xs xs _ hB4 hBe).mono ?_
                    rintro e w6 ⟨rfl, n6, hw6⟩
                    subst hw6
                    rw [show (xs == xs) = true from by simp]
                    go_wp2
                    go_ret
                    exact ⟨rfl, below_draws HB4.out _⟩

/-- The law, at every script. -/
theorem last_any (a : Option Addr) (len c : Nat) (A : Nat → Option Addr) (L C : Nat → Nat) (w : World) (hm : len ≤ maxLen) (hn : a = none → len = 0 ∧ c = 0)
    (hcell : ∀ x, a = some x → ∀ r, r < len → w.cell? (x.add r) = some (.slice (A r) (L r) (C r))) (hL : ∀ r, r < len → L r ≤ maxLen)
    (hO : ∀ r, r < len → L r ≤ 1048576 → ∃ o, Bytes w (.slice (A r) (L r) (C r)) o) :
    Calls Trym.prog 4 #[.slice a len c] w fun e w' => e = .returned (.bool true) ∧ Below w.heap.size w w' := by
  by_cases h0 : len = 0
  · subst h0
    exact last_zero a c (fun h => (hn h).2) w
  · match a, hn, hcell with
    | none, hn, _ => exact absurd (hn rfl).1 h0
    | some ⟨b, off, spot⟩, _, hcell =>
      have hspot : spot = none := by simpa [Addr.add] using World.cell?_spot (hcell _ rfl 0 (by omega))
      subst hspot
      have hc : ∀ r, r < len → w.cell? ⟨b, off + r, none⟩ = some (.slice (A r) (L r) (C r)) := fun r hr => by rw [← add_none]; exact hcell _ rfl r hr
      by_cases h1 : len ≤ 65536
      · exact last_full b off len c A L C w (by omega) h1 hc hL hO
      · by_cases h2 : len ≤ 1048576
        · exact last_mid b off len c A L C w (by omega) h2 hc hL
        · exact last_long _ len c w (by omega) hm
end Go.Proofs.Qxb6000205aMods
