/-
  The walk of FnFollowerIsFirstPointAtOrAbove (6).
-/
import Derived.Test.Qxb6000425aModsFollow
namespace Go.Proofs.Qxb6000425aMods
open Go.RowKit

theorem wordsAt_of {w : World} {g n : Nat} {base : Nat} {xs : List Int} (h : w.ownsRow base 22 1 (.slice (some ⟨g, 0, none⟩) xs.length n) xs.length (xs.map (Value.int .u64))) : WordsAt w g 0 xs := by
  intro i hi
  rw [Nat.zero_add, h.cellAt i (by omega)]
  simp [List.getElem?_eq_getElem hi, List.getD]

theorem WordsAt.below {w w' : World} {b off : Nat} {xs : List Int} (h : WordsAt w b off xs) (hb : Below w.heap.size w w') : WordsAt w' b off xs :=
  fun i hi => (hb.cell (World.block_lt_of_cell? w _ (h i hi))).trans (h i hi)

/-- The first index that a table names lies at or ahead of the answer. -/
theorem entry_le {xs : List Int} {s x : Int} {t j G : Nat} (ht : top s x = (t : Int)) (hlow : ∀ i, i < j → top s (xs.getD i 0) < t) (hG : IsFirst xs x G) : j ≤ G := by
  rcases Nat.lt_or_ge G j with h | h
  · have h1 := hlow G h
    have h2 := top_mono (s := s) hG.2.2
    omega
  · exact h

set_option maxHeartbeats 1000000 in
theorem law_long (a : Option Addr) (n c : Nat) (s x : Int) (w : World) (h : 1048576 < n) (hm : n ≤ maxLen) :
    Calls Trym.prog 6 #[.slice a n c, .int .u64 s, .int .u64 x] w fun e w' => e = .returned (.bool true) ∧ Below w.heap.size w w' := by
  go_enter Trym.func6, Trym.ntmps6
  go_wp2_with fail
  refine (zz11_big a n c s x _ h hm).mono ?_
  rintro e wx ⟨rfl, hwx⟩
  subst hwx
  go_wp2
  go_ret
  exact ⟨rfl, Below.refl _ _⟩

set_option maxHeartbeats 1000000 in
theorem law_mid (a : Option Addr) (n c : Nat) (s x : Int) (w : World) (h : 65536 < n) (hm : n ≤ 1048576) :
    Calls Trym.prog 6 #[.slice a n c, .int .u64 s, .int .u64 x] w fun e w' => e = .returned (.bool true) ∧ Below w.heap.size w w' := by
  go_enter Trym.func6, Trym.ntmps6
  go_wp2_with fail
  refine (zz11_small a n c s x _ hm).mono ?_
  rintro e wx ⟨rfl, hwx⟩
  subst hwx
  go_wp2
  go_ret
  exact ⟨rfl, Below.refl _ _⟩

set_option maxHeartbeats 1000000 in
theorem law_shift (a : Option Addr) (n c : Nat) (s x : Int) (w : World) (hm : n ≤ 65536) (hs : s < 48) :
    Calls Trym.prog 6 #[.slice a n c, .int .u64 s, .int .u64 x] w fun e w' => e = .returned (.bool true) ∧ Below w.heap.size w w' := by
  go_enter Trym.func6, Trym.ntmps6
  go_wp2_with fail
  refine (zz11_small a n c s x _ (by omega)).mono ?_
  rintro e wx ⟨rfl, hwx⟩
  subst hwx
  go_wp2
  go_ret
  exact ⟨rfl, Below.refl _ _⟩

set_option maxHeartbeats 1000000 in
theorem law_zero (a : Option Addr) (c : Nat) (s x : Int) (w : World) (hs : 48 ≤ s) :
    Calls Trym.prog 6 #[.slice a 0 c, .int .u64 s, .int .u64 x] w fun e w' => e = .returned (.bool true) ∧ Below w.heap.size w w' := by
  go_enter Trym.func6, Trym.ntmps6
  go_wp2_with fail
  refine (zz11_small a 0 c s x _ (by omega)).mono ?_
  rintro e wx ⟨rfl, hwx⟩
  subst hwx
  go_wp2_with fail
  refine (asc_zero a c _).mono ?_
  rintro e wx ⟨rfl, hwx⟩
  subst hwx
  go_wp2
  go_ret
  exact ⟨rfl, Below.refl _ _⟩

set_option maxHeartbeats 4000000 in
theorem law_main (b off c : Nat) (xs : List Int) (s x : Int) (w : World) (h0 : 0 < xs.length) (hn : xs.length ≤ 65536) (hs : 48 ≤ s) (hs' : s < 18446744073709551616) (hx0 : 0 ≤ x) (hx1 : x < 18446744073709551616) (hc : WordsAt w b off xs) :
    Calls Trym.prog 6 #[.slice (some ⟨b, off, none⟩) xs.length c, .int .u64 s, .int .u64 x] w fun e w' => e = .returned (.bool true) ∧ Below w.heap.size w w' := by
  have HC : Hid (WordsAt w b off xs) := hc
  clear hc
  have hd1 : decide ((65536 : Int) < (xs.length : Int)) = false := decide_eq_false (by omega)
  go_enter Trym.func6, Trym.ntmps6
  go_wp2_with fail
  refine (zz11_small _ _ _ s x _ (by omega)).mono ?_
  rintro e wx ⟨rfl, hwx⟩
  subst hwx
  go_wp2_with fail
  refine (asc12 b off c xs _ h0 hn HC.out).mono ?_
  rintro e w1 ⟨⟨bb, rfl, hbb⟩, n1, hw1⟩
  subst hw1
  cases bb with
  | false =>
    go_wp2
    go_ret
    exact ⟨rfl, (Below.refl _ wx).trans ⟨rfl, rfl, rfl, Nat.le_refl _, fun _ _ => rfl⟩⟩
  | true =>
    have hlast := (hbb rfl).2
    clear hbb
    obtain ⟨G, hG⟩ := isFirst_of (xs := xs) (x := x) (xs.length - 1) 0 (by omega) (fun r hr => by omega) (by rw [hlast]; omega)
    obtain ⟨T, hT⟩ := Int.eq_ofNat_of_zero_le (top_nonneg (s := s) (x := 18446744073709551615) (by decide))
    obtain ⟨t, ht⟩ := Int.eq_ofNat_of_zero_le (top_nonneg (s := s) (x := x) hx0)
    have htT : t ≤ T := by have := top_mono (s := s) (show x ≤ 18446744073709551615 by omega); omega
    have HG : Hid (IsFirst xs x G) := hG
    have HT : Hid (top s 18446744073709551615 = (T : Int)) := hT
    have Ht : Hid (top s x = (t : Int)) := ht
    clear hlast hG hT ht
    go_wp2_with fail
    refine (copy13 b off c xs (wx.drewN n1) h0 hn HC.out).mono ?_
    rintro e w2 ⟨rfl, hown2, hb2⟩
    have W2 : Hid (WordsAt w2 wx.heap.size 0 xs) := wordsAt_of hown2
    have hb2' : Below wx.heap.size wx w2 := (show Below wx.heap.size wx (wx.drewN n1) from ⟨rfl, rfl, rfl, Nat.le_refl _, fun _ _ => rfl⟩).trans hb2
    clear hown2 hb2
    go_wp2_with fail
    refine (table14 wx.heap.size 0 xs.length xs s T w2 h0 hn hs hs' HT.out W2.out).mono ?_
    rintro e w3 ⟨rfl, hb3, cs, hown3, hel3⟩
    obtain ⟨v, hv, j, rfl, hj, hlow⟩ := hel3 t (by omega)
    have CT : Hid (w3.cell? ⟨w2.heap.size, t, none⟩ = some (.int .u32 j)) := by
      show w3.cell? _ = _
      rw [hown3.cellAt t (by omega)]; exact hv
    have HJ : Hid (j ≤ G) := entry_le Ht.out hlow HG.out
    have W3 : Hid (WordsAt w3 wx.heap.size 0 xs) := W2.out.below hb3
    clear hel3 hown3 hv hj hlow
    go_wp2_with fail
    refine (follow15 wx.heap.size 0 xs.length w2.heap.size (T + 1) T t j xs s x G w3 hn hs Ht.out (by omega) HG.out HJ.out CT.out W3.out).mono ?_
    rintro e w4 ⟨rfl, hb4⟩
    go_wp2_with fail
    refine (scan16 wx.heap.size 0 xs.length xs x G w4 hn HG.out (W3.out.below hb4)).mono ?_
    rintro e w5 ⟨rfl, hw5⟩
    subst hw5
    have s2 := hb2'.size
    have s3 := hb3.size
    have HB : Hid (Below wx.heap.size wx w5) := (hb2'.trans (hb3.mono s2)).trans (hb4.mono (by omega))
    clear hb2' hb3 hb4 s2 s3
    generalize ansOf xs.length G = r
    go_wp2
    go_ret
    exact ⟨rfl, HB.out⟩

/-- The law, at every input. -/
theorem law_any (a : Option Addr) (len cap : Nat) (zs : List Int) (s x : Int) (w : World) (hs0 : 0 ≤ s) (hs' : s < 18446744073709551616) (hx0 : 0 ≤ x) (hx1 : x < 18446744073709551616)
    (h : (a = none ∧ len = 0 ∧ cap = 0 ∧ zs = []) ∨
      ∃ y, a = some y ∧ len ≤ cap ∧ cap ≤ maxLen ∧ zs.length = cap ∧ (∀ i, i < zs.length → w.cell? (y.add i) = some (.int .u64 (zs.getD i 0))) ∧ ∀ n ∈ zs, (Lit.int .u64 n).wf = true) :
    Calls Trym.prog 6 #[.slice a len cap, .int .u64 s, .int .u64 x] w fun e w' => e = .returned (.bool true) ∧ Below w.heap.size w w' := by
  have hm : len ≤ maxLen := by
    rcases h with ⟨_, h, _⟩ | ⟨_, _, h1, h2, _⟩
    · omega
    · omega
  by_cases h1 : len ≤ 65536
  · by_cases h2 : s < 48
    · exact law_shift a len cap s x w h1 h2
    · by_cases h3 : len = 0
      · subst h3
        exact law_zero a cap s x w (by omega)
      · rcases h with ⟨_, h, _⟩ | ⟨⟨b, off, spot⟩, rfl, hl, _, hz, hcell, _⟩
        · exact absurd h h3
        · have hspot : spot = none := by simpa [Addr.add] using World.cell?_spot (hcell 0 (by omega))
          subst hspot
          have hlen : (zs.take len).length = len := by simp; omega
          have hc : WordsAt w b off (zs.take len) := by
            intro i hi
            rw [hlen] at hi
            have := hcell i (by omega)
            have e : (⟨b, off, none⟩ : Addr).add i = ⟨b, off + i, none⟩ := by unfold Addr.add; split <;> simp_all
            rw [e] at this
            rw [this]
            simp [List.getD, hi]
          have := law_main b off cap (zs.take len) s x w (by omega) (by omega) (by omega) hs' hx0 hx1 hc
          rw [hlen] at this
          exact this
  · by_cases h2 : len ≤ 1048576
    · exact law_mid a len cap s x w (by omega) h2
    · exact law_long a len cap s x w (by omega) hm
end Go.Proofs.Qxb6000425aMods
