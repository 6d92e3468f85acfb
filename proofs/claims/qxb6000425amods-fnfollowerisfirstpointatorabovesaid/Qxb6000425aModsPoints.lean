/-
  Runs of points: plain notions; the walks of zzBytes (11), ascendingRunWithSentinel (12), copyWords (13), scanFollower (16).
-/
import Derived.Test.Qxb6000425aModsRows
import Derived.WalkKit
import Derived.WalkSpells
import Derived.OneCell
import Derived.Deep.QuietTactic
import Derived.BigQuiet
namespace Go.Proofs.Qxb6000425aMods
open Go.RowKit

/-- G is the first index whose point is at x or above. -/
def IsFirst (xs : List Int) (x : Int) (G : Nat) : Prop := G < xs.length ∧ (∀ r, r < G → xs.getD r 0 < x) ∧ x ≤ xs.getD G 0

/-- There is one, where the last point is at x or above. -/
theorem isFirst_of {xs : List Int} {x : Int} : ∀ (d m : Nat), m + d + 1 = xs.length → (∀ r, r < m → xs.getD r 0 < x) → x ≤ xs.getD (xs.length - 1) 0 → ∃ G, IsFirst xs x G
  | 0, m, h1, h2, h3 => ⟨m, by omega, h2, by rw [show xs.length - 1 = m from by omega] at h3; exact h3⟩
  | d + 1, m, h1, h2, h3 => by
    by_cases h : xs.getD m 0 < x
    · refine isFirst_of d (m + 1) (by omega) (fun r hr => ?_) h3
      by_cases e : r = m
      · rw [e]; exact h
      · exact h2 r (by omega)
    · exact ⟨m, by omega, h2, by omega⟩

/-- What both functions answer: the sentinel's index wraps to 0. -/
def ansOf (n G : Nat) : Int := if G = n - 1 then 0 else G

/-- The cells of a slice of words. -/
def WordsAt (w : World) (b off : Nat) (xs : List Int) : Prop := ∀ i, i < xs.length → w.cell? ⟨b, off + i, none⟩ = some (.int .u64 (xs.getD i 0))

theorem Trym.info22w : (Trym.prog.info? 22).map (fun i => (i.zero, i.size, i.bytes)) = some (some (.int .u64 0), 1, 8) := by kernel_rfl
theorem Trym.info37 : (Trym.prog.info? 37).map (fun i => (i.zero, i.size, i.bytes)) = some (some (.int .u32 0), 1, 4) := by kernel_rfl

/-! ### zzBytes -/
theorem zz11_big (a : Option Addr) (n c : Nat) (s x : Int) (w : World) (h : 1048576 < n) (hm : n ≤ maxLen) : Calls Trym.prog 11 #[.slice a n c, .int .u64 s, .int .u64 x] w fun e w' => e = .returned (.bool false) ∧ w' = w := by
  unfold maxLen at hm
  go_enter Trym.func11, Trym.ntmps11
  go_wp2
  go_ret
  exact ⟨rfl, rfl⟩
theorem zz11_small (a : Option Addr) (n c : Nat) (s x : Int) (w : World) (h : n ≤ 1048576) : Calls Trym.prog 11 #[.slice a n c, .int .u64 s, .int .u64 x] w fun e w' => e = .returned (.bool true) ∧ w' = w := by
  go_enter Trym.func11, Trym.ntmps11
  go_wp2
  go_ret
  exact ⟨rfl, rfl⟩

/-! ### scanFollower -/
set_option maxHeartbeats 2000000 in
theorem scan16 (b off c : Nat) (xs : List Int) (x : Int) (G : Nat) (w : World) (hn : xs.length ≤ 65536) (hG : IsFirst xs x G) (hc : WordsAt w b off xs) :
    Calls Trym.prog 16 #[.slice (some ⟨b, off, none⟩) xs.length c, .int .u64 x] w fun e w' => e = .returned (.int .i64 (ansOf xs.length G)) ∧ w' = w := by
  obtain ⟨g1, g2, g3⟩ := hG
  have G2 : Hid (∀ r, r < G → xs.getD r 0 < x) := g2
  have G3 : Hid (x ≤ xs.getD G 0) := g3
  have HC : Hid (WordsAt w b off xs) := hc
  clear g2 g3 hc
  go_enter Trym.func16, Trym.ntmps16
  go_wp2
  go_loop [5] (fun i => ∃ m : Nat, m ≤ G ∧ i = .int .i64 m) (fun i => G - (intOf i).toNat)
  case atStart => exact ⟨0, Nat.zero_le _, rfl⟩
  case round =>
    obtain ⟨m, hm, rfl⟩ := hrel
    obtain ⟨z, hz⟩ : ∃ z, z = xs.getD m 0 := ⟨_, rfl⟩
    have hcell := HC.out m (by omega)
    rw [← hz] at hcell
    by_cases hlt : m < G
    · have hzx : z < x := by rw [hz]; exact G2.out m hlt
      clear hz
      go_wp2
      go_round
      case rel => exact ⟨m + 1, by omega, by go_num⟩
      case measure => simp [intOf]; omega
    · have hmG : m = G := by omega
      subst hmG
      have hzx : x ≤ z := by rw [hz]; exact G3.out
      clear hz
      by_cases hl : m = xs.length - 1
      · have hd : ((m : Int) == (xs.length : Int) - 1) = true := by simp; omega
        have ha : Hid (ansOf xs.length m = 0) := by show ansOf _ _ = 0; unfold ansOf; rw [if_pos hl]
        clear hl
        go_wp2
        go_ret
        exact ⟨by rw [ha.out]; rfl, rfl⟩
      · have hd : ((m : Int) == (xs.length : Int) - 1) = false := by simp; omega
        have ha : Hid (ansOf xs.length m = (m : Int)) := by show ansOf _ _ = _; unfold ansOf; rw [if_neg hl]
        clear hl
        go_wp2
        go_ret
        exact ⟨by rw [ha.out]; rfl, rfl⟩

/-! ### copyWords -/
def upTo (xs : List Int) (k : Nat) : List Int := xs.take k ++ List.replicate (xs.length - k) 0
theorem upTo_zero (xs : List Int) : upTo xs 0 = List.replicate xs.length 0 := by simp [upTo]
theorem upTo_all (xs : List Int) : upTo xs xs.length = xs := by simp [upTo]
theorem upTo_length (xs : List Int) (k : Nat) : (upTo xs k).length = xs.length := by simp [upTo]; omega
theorem upTo_set (xs : List Int) (k : Nat) (h : k < xs.length) : (upTo xs k).set k (xs.getD k 0) = upTo xs (k + 1) := by
  apply List.ext_getElem
  · simp [upTo_length]
  · intro i h1 h2
    simp [upTo_length] at h1
    simp only [List.getElem_set, upTo, List.getElem_append, List.length_take, List.getElem_take, List.getElem_replicate]
    by_cases hi : k = i
    · subst hi; simp [h, List.getD]; omega
    · by_cases h3 : i < k
      · have e1 : i < min k xs.length := by omega
        have e2 : i < min (k + 1) xs.length := by omega
        simp [hi, e1, e2]
      · have e1 : ¬ i < min k xs.length := by omega
        have e2 : ¬ i < min (k + 1) xs.length := by omega
        simp [hi, e1, e2]

theorem copy_step {w wr : World} {B k : Nat} {xs : List Int} (hk : k < xs.length)
    (hown : wr.ownsRow B 22 1 (.slice (some ⟨B, 0, none⟩) xs.length xs.length) xs.length ((upTo xs k).map (Value.int .u64))) (hb : Below B w wr) :
    (wr.setCell ⟨B, k, none⟩ (.int .u64 (xs.getD k 0))).ownsRow B 22 1 (.slice (some ⟨B, 0, none⟩) xs.length xs.length) xs.length ((upTo xs (k + 1)).map (Value.int .u64)) ∧ Below B w (wr.setCell ⟨B, k, none⟩ (.int .u64 (xs.getD k 0))) := by
  obtain ⟨s1, s2⟩ := hown.stored k (.int .u64 (xs.getD k 0))
  refine ⟨?_, hb.setCell (Nat.le_refl _) _⟩
  rw [← upTo_set xs k hk, List.map_set]
  exact s1

set_option maxHeartbeats 2000000 in
theorem copy13 (b off c : Nat) (xs : List Int) (w : World) (h0 : 0 < xs.length) (hbig : xs.length ≤ 65536) (hc : WordsAt w b off xs) :
    Calls Trym.prog 13 #[.slice (some ⟨b, off, none⟩) xs.length c] w fun e w' => e = .returned (.slice (some ⟨w.heap.size, 0, none⟩) xs.length xs.length) ∧
      w'.ownsRow w.heap.size 22 1 (.slice (some ⟨w.heap.size, 0, none⟩) xs.length xs.length) xs.length (xs.map (Value.int .u64)) ∧ Below w.heap.size w w' := by
  obtain ⟨i0, hi, hz0, hz1, hz2⟩ := info_parts Trym.info22w
  obtain ⟨w1, hmk, hown, hgr⟩ := run_make_full (P := Trym.prog) w w.heap.size 27 22 i0 (.int .u64 0) 1 Trym.underlying27 hi hz0 hz1 .i64 .i64 xs.length (by rw [hz2]; omega) (by unfold maxLen; omega) (Nat.le_refl _)
  have hb1 : Below w.heap.size w w1 := (Below.refl _ _).grown hgr (Nat.le_refl _) (by simp)
  have e0 : (madeCells (Value.int .u64 0).cells (xs.length * 1)).toList = (upTo xs 0).map (Value.int .u64) := by
    rw [upTo_zero, Nat.mul_one]
    show (madeCells #[Value.int .u64 0] xs.length).toList = _
    rw [toList_madeCells_one]; simp
  rw [e0] at hown
  clear e0
  have hbw : b < w.heap.size := World.block_lt_of_cell? w _ (hc 0 h0)
  have A : Hid (WordsAt w b off xs) := hc
  have hownH : Hid (w1.ownsRow w.heap.size 22 1 (.slice (some ⟨w.heap.size, 0, none⟩) xs.length xs.length) xs.length ((upTo xs 0).map (Value.int .u64))) := hown
  have hbH : Hid (Below w.heap.size w w1) := hb1
  clear hc hown hgr hb1
  go_enter Trym.func13, Trym.ntmps13
  go_wp2
  go_loopw [4] (fun i wr => ∃ k : Nat, k ≤ xs.length ∧ i = .int .i64 k ∧ wr.ownsRow w.heap.size 22 1 (.slice (some ⟨w.heap.size, 0, none⟩) xs.length xs.length) xs.length ((upTo xs k).map (Value.int .u64)) ∧ Below w.heap.size w wr)
    (fun i _ => xs.length - (intOf i).toNat)
  case atStart => exact ⟨0, Nat.zero_le _, rfl, hownH.out, hbH.out⟩
  case round =>
    obtain ⟨k, hk, rfl, hown, hb⟩ := hrel
    clear hownH hbH hmk
    by_cases hlt : k < xs.length
    · have hsrc : wr.cell? ⟨b, off + k, none⟩ = some (.int .u64 (xs.getD k 0)) := (hb.cell (p := ⟨b, off + k, none⟩) hbw).trans (A.out k hlt)
      have hdst : wr.cell? ⟨w.heap.size, k, none⟩ = some (.int .u64 ((upTo xs k).getD k 0)) := by
        rw [hown.cellAt k (by omega)]
        simp [List.getD, List.getElem?_eq_getElem (show k < (upTo xs k).length by rw [upTo_length]; exact hlt)]
      have hfr : wr.frozen? ⟨w.heap.size, k, none⟩ = false := hown.frozenAt k
      have R := copy_step hlt hown hb
      have RH : Hid (_ ∧ _) := R
      clear R hown hb A
      go_wp2
      go_roundw
      case rel => exact ⟨k + 1, by omega, by go_num, by simpa [hlt] using RH.out.1, by simpa [hlt] using RH.out.2⟩
      case measure => simp [intOf]; omega
    · have hkl : k = xs.length := by omega
      subst hkl
      rw [upTo_all] at hown
      go_wp2
      go_ret
      exact ⟨rfl, hown, hb⟩

/-! ### ascendingRunWithSentinel -/
/-- What its answer says. -/
def RunSays (xs : List Int) (e : Ending) : Prop := ∃ bb, e = .returned (.bool bb) ∧ (bb = true → 0 < xs.length ∧ xs.getD (xs.length - 1) 0 = 18446744073709551615)

set_option maxHeartbeats 1000000 in
theorem asc_zero (a : Option Addr) (c : Nat) (w : World) : Calls Trym.prog 12 #[.slice a 0 c] w fun e w' => e = .returned (.bool false) ∧ w' = w := by
  go_enter Trym.func12, Trym.ntmps12
  go_wp2
  go_ret
  exact ⟨rfl, rfl⟩

set_option maxHeartbeats 4000000 in
theorem asc12 (b off c : Nat) (xs : List Int) (w : World) (h0 : 0 < xs.length) (hn : xs.length ≤ 65536) (hc : WordsAt w b off xs) :
    Calls Trym.prog 12 #[.slice (some ⟨b, off, none⟩) xs.length c] w fun e w' => RunSays xs e ∧ ∃ n, w' = w.drewN n := by
  have HC : Hid (WordsAt w b off xs) := hc
  clear hc
  obtain ⟨n, hnn⟩ : ∃ n, xs.length = n + 1 := ⟨xs.length - 1, by omega⟩
  obtain ⟨z, hz⟩ : ∃ z, z = xs.getD n 0 := ⟨_, rfl⟩
  have hlast := HC.out n (by omega)
  rw [← hz] at hlast
  rw [hnn] at h0 hn ⊢
  have HN : Hid (xs.length = n + 1) := hnn
  have HZ : Hid (z = xs.getD n 0) := hz
  clear hnn hz
  have h00 : (((n : Int) + 1) == 0) = false := by simp; omega
  by_cases hs : z = 18446744073709551615
  · have hd : (z != 18446744073709551615) = false := by simpa using hs
    have HS : Hid (z = 18446744073709551615) := hs
    clear hs
    go_enter Trym.func12, Trym.ntmps12
    go_wp2
    go_loopw [4] (fun i wr => ∃ k : Nat, k ≤ n ∧ i = .int .i64 k ∧ ∃ q, wr = w.drewN q) (fun i _ => n - (intOf i).toNat)
    case atStart => exact ⟨0, Nat.zero_le _, rfl, 0, rfl⟩
    case round =>
      obtain ⟨k, hk, rfl, q, rfl⟩ := hrel
      by_cases hlt : k < n
      · obtain ⟨x, hx⟩ : ∃ x, x = xs.getD k 0 := ⟨_, rfl⟩
        have hcx := HC.out k (by have := HN.out; omega)
        rw [← hx] at hcx
        clear hx
        by_cases h1 : x = 18446744073709551615
        · have d1 : (x == 18446744073709551615) = true := by simpa using h1
          clear h1
          go_wp2
          go_ret
          exact ⟨⟨false, rfl, by simp⟩, q, rfl⟩
        · have d1 : (x == 18446744073709551615) = false := by simpa using h1
          clear h1
          match k, hk, hlt, hcx with
          | 0, _, hlt, hcx =>
            simp only [Nat.add_zero] at hcx
            rw [show ((0 : Nat) : Int) = 0 from rfl]
            go_wp2
            go_quiet (fail)
            go_wp2
            go_roundw
            case rel => exact ⟨1, by omega, by go_num, q + nq, by first | rfl | simp⟩
            case measure => simp [intOf]; omega
          | m + 1, _, hlt, hcx =>
            obtain ⟨y, hy⟩ : ∃ y, y = xs.getD m 0 := ⟨_, rfl⟩
            have hcy := HC.out m (by have := HN.out; omega)
            rw [← hy] at hcy
            clear hy
            by_cases h2 : x < y
            · go_wp2
              go_quiet (fail)
              go_wp2
              go_ret
              exact ⟨⟨false, rfl, by simp⟩, q + nq, by first | rfl | simp⟩
            · go_wp2
              go_quiet (fail)
              go_wp2
              go_roundw
              case rel => exact ⟨m + 1 + 1, by omega, by go_num, q + nq, by first | rfl | simp⟩
              case measure => simp [intOf]; omega
      · go_wp2
        go_ret
        refine ⟨⟨true, rfl, fun _ => ⟨by have := HN.out; omega, ?_⟩⟩, q, rfl⟩
        rw [show xs.length - 1 = n from by have := HN.out; omega, ← HZ.out]
        exact HS.out
  · have hd : (z != 18446744073709551615) = true := by simpa using hs
    clear hs
    go_enter Trym.func12, Trym.ntmps12
    go_wp2
    go_ret
    exact ⟨⟨false, rfl, by simp⟩, 0, rfl⟩
end Go.Proofs.Qxb6000425aMods
