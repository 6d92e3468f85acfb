/-
  The walk of FnCmpWordsAntisymmetricAndReflexive (4).
-/
import Derived.Test.Qxb6000425aModsCmp
import Derived.ChangeKeysEq
namespace Go.Proofs.Qxb6000425aMods
open Go.RowKit

theorem Trym.info22 : (Trym.prog.info? 22).map (fun i => (i.zero, i.size, i.bytes)) = some (some (.int .u64 0), 1, 8) := by kernel_rfl
theorem Trym.cells22 : Trym.prog.cellsOf 22 = 1 := by kernel_rfl

theorem eqArr (a0 a1 a2 a3 b0 b1 b2 b3 : Int) (w : World) : (Op.equalIn 10000 23 (.agg #[.int .u64 a0, .int .u64 a1, .int .u64 a2, .int .u64 a3]) (.agg #[.int .u64 b0, .int .u64 b1, .int .u64 b2, .int .u64 b3])).run Trym.prog w =
    .ok (a0 == b0 && (a1 == b1 && (a2 == b2 && a3 == b3))) w := by
  obtain ⟨i0, hi, hz0, hz1, hz2⟩ := info_parts Trym.info22
  rw [run_equalIn_array w 9999 _ _ Trym.underlying23 hi, Trym.cells22]
  have r4 : List.range 4 = [0, 1, 2, 3] := rfl
  rw [r4]
  have hp : Trym.prog.plainKey 22 = true := by kernel_rfl
  have hpart : ∀ (w : World) (c0 c1 c2 c3 : Value), (part 22 #[c0, c1, c2, c3] 0).run Trym.prog w = .ok c0 w ∧ (part 22 #[c0, c1, c2, c3] 1).run Trym.prog w = .ok c1 w ∧ (part 22 #[c0, c1, c2, c3] 2).run Trym.prog w = .ok c2 w ∧ (part 22 #[c0, c1, c2, c3] 3).run Trym.prog w = .ok c3 w :=
    fun w c0 c1 c2 c3 => ⟨run_part_plain w hp rfl, run_part_plain w hp rfl, run_part_plain w hp rfl, run_part_plain w hp rfl⟩
  have he : ∀ (w : World) (a b : Int), (Op.equalIn 9999 22 (.int .u64 a) (.int .u64 b)).run Trym.prog w = .ok (a == b) w := fun w a b => run_equalIn_int w 9998 22 .u64 .u64 a b Trym.underlying22
  simp only [Op.eqItems, Sem.run_bind, Nat.mul_one, hpart, he, Result.andThen_ok]
  cases a0 == b0 <;> cases h1 : a1 == b1 <;> cases h2 : a2 == b2 <;> cases h3 : a3 == b3 <;> simp [hpart, he, h1, h2, h3]

theorem below_draws {B : Nat} {a w : World} (h : Below B a w) (n : Nat) : Below B a (w.drewN n) := h.trans ⟨rfl, rfl, rfl, Nat.le_refl _, fun _ _ => rfl⟩
theorem below_new {W w : World} (h : Below W.heap.size W w) (o : Obj) : Below W.heap.size W (w.alloc o) := h.alloc h.size o

set_option maxHeartbeats 800000 in
theorem anti_at (a0 a1 a2 a3 b0 b1 b2 b3 : Int) (r s : Int) (w : World) (h1 : cmpF [a0, a1, a2, a3] [b0, b1, b2, b3] = r) (h2 : cmpF [b0, b1, b2, b3] [a0, a1, a2, a3] = s) (hr : -1 ≤ r) (hr' : r ≤ 1) (hs : s = -r) (he : ((r == 0) == (a0 == b0 && (a1 == b1 && (a2 == b2 && a3 == b3)))) = true) :
    Calls Trym.prog 4 #[.agg #[.int .u64 a0, .int .u64 a1, .int .u64 a2, .int .u64 a3], .agg #[.int .u64 b0, .int .u64 b1, .int .u64 b2, .int .u64 b3]] w fun e w' => e = .returned (.bool true) ∧ Below w.heap.size w w' := by
  have H1 : Hid (cmpF [a0, a1, a2, a3] [b0, b1, b2, b3] = r) := h1
  have H2 : Hid (cmpF [b0, b1, b2, b3] [a0, a1, a2, a3] = s) := h2
  have H3 : Hid (cmpF [a0, a1, a2, a3] [a0, a1, a2, a3] = 0) := cmpF_self _
  subst hs
  clear h1 h2
  have hq := eqArr a0 a1 a2 a3 b0 b1 b2 b3
  go_enter Trym.func4, Trym.ntmps4
  go_wp2_with fail
  refine (cmp9 a0 a1 a2 a3 b0 b1 b2 b3 _).mono ?_
  rintro e w1 ⟨rfl, c1, c2, c3, c4, n1, hw1⟩
  subst hw1
  rw [H1.out]
  go_wp2_with fail
  refine (cmp9 b0 b1 b2 b3 a0 a1 a2 a3 _).mono ?_
  rintro e w1 ⟨rfl, d1, d2, d3, d4, n2, hw1⟩
  subst hw1
  rw [H2.out]
  go_wp2_with fail
  refine (cmp9 a0 a1 a2 a3 a0 a1 a2 a3 _).mono ?_
  rintro e w1 ⟨rfl, f1, f2, f3, f4, n3, hw1⟩
  subst hw1
  rw [H3.out]
  go_wp2
  go_ret
  have g1 : ∀ {w1 : World}, Below w.heap.size w w1 → ∀ (x1 x2 x3 x4 : Array Value) (n : Nat), Below w.heap.size w (((((w1.alloc (.cells x1 23)).alloc (.cells x2 23)).alloc (.cells x3 23)).alloc (.cells x4 23)).drewN n) :=
    fun h x1 x2 x3 x4 n => below_draws (below_new (below_new (below_new (below_new h _) _) _) _) n
  exact ⟨rfl, g1 (g1 (g1 (below_new (below_new (Below.refl _ w) _) _) c1 c2 c3 c4 n1) d1 d2 d3 d4 n2) f1 f2 f3 f4 n3⟩

theorem eq4 {a0 a1 a2 a3 b0 b1 b2 b3 : Int} : ((a0 == b0 && (a1 == b1 && (a2 == b2 && a3 == b3))) = true) ↔ [a0, a1, a2, a3] = [b0, b1, b2, b3] := by
  simp

theorem anti_any (a0 a1 a2 a3 b0 b1 b2 b3 : Int) (w : World) :
    Calls Trym.prog 4 #[.agg #[.int .u64 a0, .int .u64 a1, .int .u64 a2, .int .u64 a3], .agg #[.int .u64 b0, .int .u64 b1, .int .u64 b2, .int .u64 b3]] w fun e w' => e = .returned (.bool true) ∧ Below w.heap.size w w' := by
  rcases cmpF_three [a0, a1, a2, a3] [b0, b1, b2, b3] rfl with ⟨h1, h2, h3⟩ | ⟨h1, h2, h3⟩ | ⟨h1, h2, h3⟩
  · refine anti_at a0 a1 a2 a3 b0 b1 b2 b3 (-1) 1 w h1 h2 (by decide) (by decide) (by decide) ?_
    have h4 : (a0 == b0 && (a1 == b1 && (a2 == b2 && a3 == b3))) = false := by
      rw [Bool.eq_false_iff]
      exact fun h => h3 (eq4.1 h)
    rw [h4]; rfl
  · refine anti_at a0 a1 a2 a3 b0 b1 b2 b3 0 0 w h1 h2 (by decide) (by decide) (by decide) ?_
    rw [← eq4] at h3
    rw [h3]; rfl
  · refine anti_at a0 a1 a2 a3 b0 b1 b2 b3 1 (-1) w h1 h2 (by decide) (by decide) (by decide) ?_
    have h4 : (a0 == b0 && (a1 == b1 && (a2 == b2 && a3 == b3))) = false := by
      rw [Bool.eq_false_iff]
      exact fun h => h3 (eq4.1 h)
    rw [h4]; rfl
end Go.Proofs.Qxb6000425aMods
