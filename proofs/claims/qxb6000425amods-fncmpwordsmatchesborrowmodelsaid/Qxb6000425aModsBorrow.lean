/-
  borrowCmp (10): its contract.
-/
import Derived.Test.Qxb6000425aModsCmp
import Derived.Test.Qxb6000425aModsFour
namespace Go.Proofs.Qxb6000425aMods
open Go.RowKit

/-- What borrow and nonzero hold where the words that were read compare as c. -/
def St (c β : Int) (ν : Bool) : Prop := (c = -1 ∧ β = 1 ∧ ν = true) ∨ (c = 0 ∧ β = 0 ∧ ν = false) ∨ (c = 1 ∧ β = 0 ∧ ν = true)

theorem cmpF_nil {xs ys : List Int} {k : Nat} (h : xs.length ≤ k) : cmpF (xs.drop k) (ys.drop k) = 0 := by
  rw [List.drop_of_length_le h]; rfl

theorem wrap_ne {x y : Int} (h1 : 0 ≤ x) (h2 : x < 18446744073709551616) (h3 : 0 ≤ y) (h4 : y < 18446744073709551616) (h : x ≠ y) : (IntKind.u64.wrap (IntKind.u64.wrap (x - y)) != 0) = true := by
  rw [IntKind.wrap_u64, IntKind.wrap_u64, bne_iff_ne]
  omega

set_option maxHeartbeats 8000000 in
theorem borrow10 (a0 a1 a2 a3 b0 b1 b2 b3 : Int) (wa : ∀ x ∈ [a0, a1, a2, a3], Word x) (wb : ∀ x ∈ [b0, b1, b2, b3], Word x) (w : World) :
    Calls Trym.prog 10 #[.agg #[.int .u64 a0, .int .u64 a1, .int .u64 a2, .int .u64 a3], .agg #[.int .u64 b0, .int .u64 b1, .int .u64 b2, .int .u64 b3]] w fun e w' =>
      e = .returned (.int .i64 (cmpF [a0, a1, a2, a3] [b0, b1, b2, b3])) ∧ ∃ n, w' = ((w.alloc (.cells #[.int .u64 a0, .int .u64 a1, .int .u64 a2, .int .u64 a3] 23)).alloc (.cells #[.int .u64 b0, .int .u64 b1, .int .u64 b2, .int .u64 b3] 23)).drewN n := by
  obtain ⟨xs, hxs⟩ : ∃ xs, xs = [a0, a1, a2, a3] := ⟨_, rfl⟩
  obtain ⟨ys, hys⟩ : ∃ ys, ys = [b0, b1, b2, b3] := ⟨_, rfl⟩
  have hlx : Hid (xs.length = 4) := by subst hxs; rfl
  have hly : Hid (ys.length = 4) := by subst hys; rfl
  have HA : Hid (∀ k, k < 4 → ((w.alloc (.cells #[.int .u64 a0, .int .u64 a1, .int .u64 a2, .int .u64 a3] 23)).alloc (.cells #[.int .u64 b0, .int .u64 b1, .int .u64 b2, .int .u64 b3] 23)).cell? ⟨w.heap.size, k, none⟩ = some (.int .u64 (xs.getD k 0))) := fun k hk => by
    rw [((Below.refl _ (w.alloc (.cells #[.int .u64 a0, .int .u64 a1, .int .u64 a2, .int .u64 a3] 23))).alloc (Nat.le_refl _) _).cell (by simp), cell_four w a0 a1 a2 a3 k hk, hxs]
  have HB : Hid (∀ k, k < 4 → ((w.alloc (.cells #[.int .u64 a0, .int .u64 a1, .int .u64 a2, .int .u64 a3] 23)).alloc (.cells #[.int .u64 b0, .int .u64 b1, .int .u64 b2, .int .u64 b3] 23)).cell? ⟨w.heap.size + 1, k, none⟩ = some (.int .u64 (ys.getD k 0))) := fun k hk => by
    have h := cell_four (w.alloc (.cells #[.int .u64 a0, .int .u64 a1, .int .u64 a2, .int .u64 a3] 23)) b0 b1 b2 b3 k hk
    rw [hys]
    simpa using h
  rw [← hxs] at wa ⊢
  rw [← hys] at wb ⊢
  have WA : Hid (∀ x ∈ xs, Word x) := wa
  have WB : Hid (∀ x ∈ ys, Word x) := wb
  have X : Hid (xs = [a0, a1, a2, a3]) := hxs
  have Y : Hid (ys = [b0, b1, b2, b3]) := hys
  clear hxs hys wa wb
  go_enter Trym.func10, Trym.ntmps10
  go_wp2
  go_loopw [5, 6, 7] (fun bw nz i wr => ∃ (k : Nat) (β : Int) (ν : Bool), k ≤ 4 ∧ i = .int .i64 ((k : Int) - 1) ∧ bw = .int .u64 β ∧ nz = .bool ν ∧ Hid (St (cmpF (xs.drop k) (ys.drop k)) β ν) ∧ Hid (∃ n, wr = ((w.alloc (.cells #[.int .u64 a0, .int .u64 a1, .int .u64 a2, .int .u64 a3] 23)).alloc (.cells #[.int .u64 b0, .int .u64 b1, .int .u64 b2, .int .u64 b3] 23)).drewN n))
    (fun _ _ i _ => (intOf i + 1).toNat)
  case atStart => exact ⟨4, 0, false, Nat.le_refl _, rfl, rfl, rfl, .inr (.inl ⟨cmpF_nil (by rw [hlx.out]; omega), rfl, rfl⟩), 0, rfl⟩
  case round =>
    obtain ⟨k, β, ν, hk, rfl, rfl, rfl, hst, hw⟩ := hrel
    match k, hk, hst with
    | 0, _, hst =>
      have hst0 : St (cmpF xs ys) β ν := hst.out
      clear hst
      rcases hst0 with ⟨hc, rfl, rfl⟩ | ⟨hc, rfl, rfl⟩ | ⟨hc, rfl, rfl⟩
      all_goals
        have HC := show Hid _ from hc
        clear hc
        go_wp2
        go_ret
        exact ⟨by rw [HC.out]; rfl, hw.out⟩
    | m + 1, hk, hst =>
      rw [show ((m + 1 : Nat) : Int) - 1 = (m : Int) from by omega]
      have hlt : m < 4 := by omega
      have hx : wr.cell? ⟨w.heap.size, m, none⟩ = some (.int .u64 (xs.getD m 0)) := by
        obtain ⟨n, hn⟩ := hw.out
        rw [hn, World.cell?_drewN]; exact HA.out m hlt
      have hy : wr.cell? ⟨w.heap.size + 1, m, none⟩ = some (.int .u64 (ys.getD m 0)) := by
        obtain ⟨n, hn⟩ := hw.out
        rw [hn, World.cell?_drewN]; exact HB.out m hlt
      have hlen : m < xs.length := by rw [hlx.out]; exact hlt
      have hlen' : m < ys.length := by rw [hly.out]; exact hlt
      obtain ⟨x, hxk⟩ : ∃ x, x = xs.getD m 0 := ⟨_, rfl⟩
      obtain ⟨y, hyk⟩ : ∃ y, y = ys.getD m 0 := ⟨_, rfl⟩
      have wx : Word x := by rw [hxk]; exact WA.out _ (by simp [List.getD, hlen])
      have wy : Word y := by rw [hyk]; exact WB.out _ (by simp [List.getD, hlen'])
      obtain ⟨wx0, wx1⟩ := wx
      obtain ⟨wy0, wy1⟩ := wy
      rw [← hxk] at hx
      rw [← hyk] at hy
      have L : Hid (x < y → cmpF (xs.drop m) (ys.drop m) = -1) := fun h => cmpF_lt hlen hlen' (by rw [← hxk, ← hyk]; exact h)
      have G : Hid (y < x → cmpF (xs.drop m) (ys.drop m) = 1) := fun h => cmpF_gt hlen hlen' (by rw [← hxk, ← hyk]; exact h)
      have E : Hid (x = y → cmpF (xs.drop m) (ys.drop m) = cmpF (xs.drop (m + 1)) (ys.drop (m + 1))) := fun h => cmpF_eq hlen hlen' (by rw [← hxk, ← hyk]; exact h)
      clear hxk hyk hlen hlen' HA HB WA WB X Y hlx hly
      have hst1 := hst.out
      clear hst
      by_cases h1 : x < y
      · have hnew : Hid (St (cmpF (xs.drop m) (ys.drop m)) 1 true) := .inl ⟨L.out h1, rfl, rfl⟩
        clear L G E
        rcases hst1 with ⟨hc, rfl, rfl⟩ | ⟨hc, rfl, rfl⟩ | ⟨hc, rfl, rfl⟩
        · clear hc
          go_wp2
          go_quiet (fail)
          go_wp2
          go_quiet (fail)
          go_wp2
          all_goals
            go_roundw
            case rel => exact ⟨m, _, _, by omega, rfl, rfl, rfl, hnew, by first | exact draws_of hw.out _ | exact draws_of (draws_of hw.out _) _⟩
            case measure => simp [intOf]
        · clear hc
          have hd : (IntKind.u64.wrap (IntKind.u64.wrap (x - y)) != 0) = true := wrap_ne wx0 wx1 wy0 wy1 (by omega)
          go_wp2
          go_quiet (fail)
          go_wp2
          go_quiet (fail)
          go_wp2
          all_goals
            go_roundw
            case rel => exact ⟨m, _, _, by omega, rfl, rfl, rfl, hnew, by first | exact draws_of hw.out _ | exact draws_of (draws_of hw.out _) _⟩
            case measure => simp [intOf]
        · clear hc
          go_wp2
          go_quiet (fail)
          go_wp2
          go_quiet (fail)
          go_wp2
          all_goals
            go_roundw
            case rel => exact ⟨m, _, _, by omega, rfl, rfl, rfl, hnew, by first | exact draws_of hw.out _ | exact draws_of (draws_of hw.out _) _⟩
            case measure => simp [intOf]
      · have d1 : decide (x < y) = false := decide_eq_false h1
        by_cases h2 : y < x
        · have d2 : (x == y) = false := by simp; omega
          have hnew : Hid (St (cmpF (xs.drop m) (ys.drop m)) 0 true) := .inr (.inr ⟨G.out h2, rfl, rfl⟩)
          clear L G E
          rcases hst1 with ⟨hc, rfl, rfl⟩ | ⟨hc, rfl, rfl⟩ | ⟨hc, rfl, rfl⟩
          · clear hc
            go_wp2
            go_quiet (fail)
            go_wp2
            go_quiet (fail)
            go_wp2
            all_goals
              go_roundw
              case rel => exact ⟨m, _, _, by omega, rfl, rfl, rfl, hnew, by first | exact draws_of hw.out _ | exact draws_of (draws_of hw.out _) _⟩
              case measure => simp [intOf]
          · clear hc
            go_wp2
            go_quiet (fail)
            go_wp2
            go_quiet (fail)
            go_wp2
            all_goals
              go_roundw
              case rel => exact ⟨m, _, _, by omega, rfl, rfl, rfl, hnew, by first | exact draws_of hw.out _ | exact draws_of (draws_of hw.out _) _⟩
              case measure => simp [intOf]
          · clear hc
            go_wp2
            go_quiet (fail)
            go_wp2
            go_quiet (fail)
            go_wp2
            all_goals
              go_roundw
              case rel => exact ⟨m, _, _, by omega, rfl, rfl, rfl, hnew, by first | exact draws_of hw.out _ | exact draws_of (draws_of hw.out _) _⟩
              case measure => simp [intOf]
        · have hxy : x = y := by omega
          subst hxy
          have d2 : (x == x) = true := by simp
          rcases hst1 with ⟨hc, rfl, rfl⟩ | ⟨hc, rfl, rfl⟩ | ⟨hc, rfl, rfl⟩
          · have hnew : Hid (St (cmpF (xs.drop m) (ys.drop m)) 1 true) := .inl ⟨(E.out rfl).trans hc, rfl, rfl⟩
            clear hc L G E
            go_wp2
            go_quiet (fail)
            go_wp2
            go_quiet (fail)
            go_wp2
            all_goals
              go_roundw
              case rel => exact ⟨m, _, _, by omega, rfl, rfl, rfl, hnew, by first | exact draws_of hw.out _ | exact draws_of (draws_of hw.out _) _⟩
              case measure => simp [intOf]
          · have hnew : Hid (St (cmpF (xs.drop m) (ys.drop m)) 0 false) := .inr (.inl ⟨(E.out rfl).trans hc, rfl, rfl⟩)
            clear hc L G E
            go_wp2
            go_quiet (fail)
            go_wp2
            go_quiet (fail)
            go_wp2
            all_goals
              go_roundw
              case rel => exact ⟨m, _, _, by omega, rfl, rfl, rfl, hnew, by first | exact draws_of hw.out _ | exact draws_of (draws_of hw.out _) _⟩
              case measure => simp [intOf]
          · have hnew : Hid (St (cmpF (xs.drop m) (ys.drop m)) 0 true) := .inr (.inr ⟨(E.out rfl).trans hc, rfl, rfl⟩)
            clear hc L G E
            go_wp2
            go_quiet (fail)
            go_wp2
            go_quiet (fail)
            go_wp2
            all_goals
              go_roundw
              case rel => exact ⟨m, _, _, by omega, rfl, rfl, rfl, hnew, by first | exact draws_of hw.out _ | exact draws_of (draws_of hw.out _) _⟩
              case measure => simp [intOf]
end Go.Proofs.Qxb6000425aMods
