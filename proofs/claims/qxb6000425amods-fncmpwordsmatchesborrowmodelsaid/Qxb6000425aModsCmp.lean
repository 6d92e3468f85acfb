/-
  cmpWords (19) and ZZCmpWords (9): contracts.
-/
import Derived.Test.Qxb6000425aModsRows
import Derived.WalkKit
import Derived.WalkSpells
import Derived.Deep.QuietTactic
import Derived.BigQuiet
namespace Go.Proofs.Qxb6000425aMods
open Go.RowKit

/-- The comparison of two lists of words, the most significant first. -/
def cmpF : List Int → List Int → Int
  | a :: xs, b :: ys => if a < b then -1 else if b < a then 1 else cmpF xs ys
  | _, _ => 0

theorem draws_of {W wr : World} (h : ∃ n, wr = W.drewN n) (m : Nat) : ∃ n, wr.drewN m = W.drewN n := by
  obtain ⟨n, rfl⟩ := h
  exact ⟨n + m, by simp⟩

theorem drop_cons (xs : List Int) (k : Nat) (h : k < xs.length) : xs.drop k = xs.getD k 0 :: xs.drop (k + 1) := by
  rw [List.drop_eq_getElem_cons h]; simp [List.getD, h]

theorem cmpF_lt {xs ys : List Int} {k : Nat} (ha : k < xs.length) (hb : k < ys.length) (h : xs.getD k 0 < ys.getD k 0) : cmpF (xs.drop k) (ys.drop k) = -1 := by
  rw [drop_cons xs k ha, drop_cons ys k hb, cmpF, if_pos h]
theorem cmpF_gt {xs ys : List Int} {k : Nat} (ha : k < xs.length) (hb : k < ys.length) (h : ys.getD k 0 < xs.getD k 0) : cmpF (xs.drop k) (ys.drop k) = 1 := by
  rw [drop_cons xs k ha, drop_cons ys k hb, cmpF, if_neg (by omega), if_pos h]
theorem cmpF_eq {xs ys : List Int} {k : Nat} (ha : k < xs.length) (hb : k < ys.length) (h : xs.getD k 0 = ys.getD k 0) : cmpF (xs.drop k) (ys.drop k) = cmpF (xs.drop (k + 1)) (ys.drop (k + 1)) := by
  rw [drop_cons xs k ha, drop_cons ys k hb, cmpF, if_neg (by omega), if_neg (by omega)]

/-- The three ways in which two lists of words of one length stand to each other. -/
theorem cmpF_three : ∀ (xs ys : List Int), xs.length = ys.length →
    (cmpF xs ys = -1 ∧ cmpF ys xs = 1 ∧ xs ≠ ys) ∨ (cmpF xs ys = 0 ∧ cmpF ys xs = 0 ∧ xs = ys) ∨ (cmpF xs ys = 1 ∧ cmpF ys xs = -1 ∧ xs ≠ ys)
  | [], [], _ => .inr (.inl ⟨rfl, rfl, rfl⟩)
  | x :: xs, y :: ys, h => by
    simp only [cmpF]
    rcases Int.lt_trichotomy x y with h1 | h1 | h1
    · exact .inl ⟨by rw [if_pos h1], by rw [if_neg (by omega), if_pos h1], by simp; omega⟩
    · subst h1
      have := cmpF_three xs ys (by simpa using h)
      simpa using this
    · exact .inr (.inr ⟨by rw [if_neg (by omega), if_pos h1], by rw [if_pos h1], by simp; omega⟩)
theorem cmpF_self (xs : List Int) : cmpF xs xs = 0 := by
  rcases cmpF_three xs xs rfl with ⟨_, _, h⟩ | ⟨h, _⟩ | ⟨_, _, h⟩
  · exact absurd rfl h
  · exact h
  · exact absurd rfl h

theorem cell_four (w : World) (a0 a1 a2 a3 : Int) (k : Nat) (hk : k < 4) : (w.alloc (.cells #[.int .u64 a0, .int .u64 a1, .int .u64 a2, .int .u64 a3] 23)).cell? ⟨w.heap.size, k, none⟩ = some (.int .u64 ([a0, a1, a2, a3].getD k 0)) := by
  have hh := heap_alloc_new w (.cells #[.int .u64 a0, .int .u64 a1, .int .u64 a2, .int .u64 a3] 23)
  unfold World.cell?
  rw [hh]
  match k, hk with
  | 0, _ => rfl
  | 1, _ => rfl
  | 2, _ => rfl
  | 3, _ => rfl

set_option maxHeartbeats 2000000 in
theorem cmp19 (a0 a1 a2 a3 b0 b1 b2 b3 : Int) (w : World) :
    Calls Trym.prog 19 #[.agg #[.int .u64 a0, .int .u64 a1, .int .u64 a2, .int .u64 a3], .agg #[.int .u64 b0, .int .u64 b1, .int .u64 b2, .int .u64 b3]] w fun e w' =>
      e = .returned (.int .i64 (cmpF [a0, a1, a2, a3] [b0, b1, b2, b3])) ∧ ∃ n, w' = ((w.alloc (.cells #[.int .u64 a0, .int .u64 a1, .int .u64 a2, .int .u64 a3] 23)).alloc (.cells #[.int .u64 b0, .int .u64 b1, .int .u64 b2, .int .u64 b3] 23)).drewN n := by
  obtain ⟨xs, hxs⟩ : ∃ xs, xs = [a0, a1, a2, a3] := ⟨_, rfl⟩
  obtain ⟨ys, hys⟩ : ∃ ys, ys = [b0, b1, b2, b3] := ⟨_, rfl⟩
  have hlx : Hid (xs.length = 4) := by subst hxs; rfl
  have hly : Hid (ys.length = 4) := by subst hys; rfl
  have HA : Hid (∀ k, k < 4 → ((w.alloc (.cells #[.int .u64 a0, .int .u64 a1, .int .u64 a2, .int .u64 a3] 23)).alloc (.cells #[.int .u64 b0, .int .u64 b1, .int .u64 b2, .int .u64 b3] 23)).cell? ⟨w.heap.size, k, none⟩ = some (.int .u64 (xs.getD k 0))) := fun k hk => by
    rw [((Below.refl _ (w.alloc (.cells #[.int .u64 a0, .int .u64 a1, .int .u64 a2, .int .u64 a3] 23))).alloc (Nat.le_refl _) _).cell (by simp), cell_four w a0 a1 a2 a3 k hk, hxs]
  have HB : Hid (∀ k, k < 4 → ((w.alloc (.cells #[.int .u64 a0, .int .u64 a1, .int .u64 a2, .int .u64 a3] 23)).alloc (.cells #[.int .u64 b0, .int .u64 b1, .int .u64 b2, .int .u64 b3] 23)).cell? ⟨w.heap.size + 1, k, none⟩ = some (.int .u64 (ys.getD k 0))) := fun k hk => by
    have h := cell_four (w.alloc (.cells #[.int .u64 a0, .int .u64 a1, .int .u64 a2, .int .u64 a3] 23)) b0 b1 b2 b3 k hk
    rw [hys]
    simpa using h
  rw [← hxs, ← hys]
  have X : Hid (xs = [a0, a1, a2, a3]) := hxs
  have Y : Hid (ys = [b0, b1, b2, b3]) := hys
  clear hxs hys
  go_enter Trym.func19, Trym.ntmps19
  go_wp2
  go_loopw [6] (fun i wr => ∃ k : Nat, k ≤ 4 ∧ i = .int .i64 k ∧ Hid (cmpF xs ys = cmpF (xs.drop k) (ys.drop k)) ∧ Hid (∃ n, wr = ((w.alloc (.cells #[.int .u64 a0, .int .u64 a1, .int .u64 a2, .int .u64 a3] 23)).alloc (.cells #[.int .u64 b0, .int .u64 b1, .int .u64 b2, .int .u64 b3] 23)).drewN n))
    (fun i _ => 4 - (intOf i).toNat)
  case atStart => exact ⟨0, Nat.zero_le _, rfl, rfl, 0, rfl⟩
  case round =>
    obtain ⟨k, hk, rfl, hcmp, hw⟩ := hrel
    by_cases hlt : k < 4
    · have hx : wr.cell? ⟨w.heap.size, k, none⟩ = some (.int .u64 (xs.getD k 0)) := by
        obtain ⟨n, hn⟩ := hw.out
        rw [hn, World.cell?_drewN]; exact HA.out k hlt
      have hy : wr.cell? ⟨w.heap.size + 1, k, none⟩ = some (.int .u64 (ys.getD k 0)) := by
        obtain ⟨n, hn⟩ := hw.out
        rw [hn, World.cell?_drewN]; exact HB.out k hlt
      obtain ⟨x, hxk⟩ : ∃ x, x = xs.getD k 0 := ⟨_, rfl⟩
      obtain ⟨y, hyk⟩ : ∃ y, y = ys.getD k 0 := ⟨_, rfl⟩
      rw [← hxk] at hx
      rw [← hyk] at hy
      have HX : Hid (x = xs.getD k 0) := hxk
      have HY : Hid (y = ys.getD k 0) := hyk
      clear hxk hyk
      have hlen : k < xs.length := by rw [hlx.out]; exact hlt
      have hlen' : k < ys.length := by rw [hly.out]; exact hlt
      by_cases h1 : x < y
      · have hr : Hid (cmpF xs ys = -1) := hcmp.out.trans (cmpF_lt hlen hlen' (by rw [← HX.out, ← HY.out]; exact h1))
        clear hlen hlen'
        go_wp2
        go_quiet (fail)
        go_wp2
        go_ret
        exact ⟨by rw [hr.out]; rfl, draws_of hw.out _⟩
      · by_cases h2 : y < x
        · have hr : Hid (cmpF xs ys = 1) := hcmp.out.trans (cmpF_gt hlen hlen' (by rw [← HX.out, ← HY.out]; exact h2))
          clear hlen hlen'
          go_wp2
          go_quiet (fail)
          go_wp2
          go_quiet (fail)
          go_wp2
          go_ret
          exact ⟨by rw [hr.out]; rfl, by first | exact draws_of hw.out _ | exact draws_of (draws_of hw.out _) _⟩
        · have hr : Hid (cmpF xs ys = cmpF (xs.drop (k + 1)) (ys.drop (k + 1))) := hcmp.out.trans (cmpF_eq hlen hlen' (by rw [← HX.out, ← HY.out]; omega))
          clear hlen hlen'
          go_wp2
          go_quiet (fail)
          go_wp2
          go_quiet (fail)
          go_wp2
          go_roundw
          case rel => exact ⟨k + 1, by omega, by go_num, hr, by first | exact draws_of hw.out _ | exact draws_of (draws_of hw.out _) _⟩
          case measure => simp [intOf]; omega
    · have hk4 : k = 4 := by omega
      subst hk4
      have hr : cmpF xs ys = 0 := by
        rw [hcmp.out, List.drop_of_length_le (by rw [hlx.out]; omega)]
        rfl
      have HR : Hid (cmpF xs ys = 0) := hr
      clear hr
      go_wp2
      go_ret
      exact ⟨by rw [HR.out]; rfl, hw.out⟩

set_option maxHeartbeats 1000000 in
/-- ZZCmpWords. -/
theorem cmp9 (a0 a1 a2 a3 b0 b1 b2 b3 : Int) (w : World) :
    Calls Trym.prog 9 #[.agg #[.int .u64 a0, .int .u64 a1, .int .u64 a2, .int .u64 a3], .agg #[.int .u64 b0, .int .u64 b1, .int .u64 b2, .int .u64 b3]] w fun e w' =>
      e = .returned (.int .i64 (cmpF [a0, a1, a2, a3] [b0, b1, b2, b3])) ∧ ∃ c1 c2 c3 c4 n, w' = ((((w.alloc (.cells c1 23)).alloc (.cells c2 23)).alloc (.cells c3 23)).alloc (.cells c4 23)).drewN n := by
  go_enter Trym.func9, Trym.ntmps9
  go_wp2_with fail
  refine (cmp19 a0 a1 a2 a3 b0 b1 b2 b3 _).mono ?_
  rintro e w' ⟨rfl, n, hw⟩
  subst hw
  go_wp2
  go_ret
  exact ⟨rfl, _, _, _, _, n, rfl⟩
end Go.Proofs.Qxb6000425aMods
