/-
  The walk of FnCmpWordsMatchesBorrowModel (3).
-/
import Derived.Test.Qxb6000425aModsBorrow
import Derived.Deep.RegionHeld3
namespace Go.Proofs.Qxb6000425aMods
open Go.RowKit

theorem below_draws' {B : Nat} {a w : World} (h : Below B a w) (n : Nat) : Below B a (w.drewN n) := h.trans ⟨rfl, rfl, rfl, Nat.le_refl _, fun _ _ => rfl⟩
theorem below_new' {W w : World} (h : Below W.heap.size W w) (o : Obj) : Below W.heap.size W (w.alloc o) := h.alloc h.size o

set_option maxHeartbeats 4000000 in
theorem borrow_at (a0 a1 a2 a3 b0 b1 b2 b3 : Int) (wa : ∀ x ∈ [a0, a1, a2, a3], Word x) (wb : ∀ x ∈ [b0, b1, b2, b3], Word x) (w : World) :
    Calls Trym.prog 3 #[.agg #[.int .u64 a0, .int .u64 a1, .int .u64 a2, .int .u64 a3], .agg #[.int .u64 b0, .int .u64 b1, .int .u64 b2, .int .u64 b3]] w fun e w' => e = .returned (.bool true) ∧ Below w.heap.size w w' := by
  go_enter Trym.func3, Trym.ntmps3
  go_wp2
  go_region_held3 (fun w' => w'.cell? ⟨w.heap.size, 0, none⟩ = some (.int .u64 a0) ∧ w'.cell? ⟨w.heap.size, 1, none⟩ = some (.int .u64 a1) ∧ w'.cell? ⟨w.heap.size, 2, none⟩ = some (.int .u64 a2) ∧ w'.cell? ⟨w.heap.size, 3, none⟩ = some (.int .u64 a3) ∧ w'.cell? ⟨w.heap.size + 1, 0, none⟩ = some (.int .u64 b0) ∧ w'.cell? ⟨w.heap.size + 1, 1, none⟩ = some (.int .u64 b1) ∧ w'.cell? ⟨w.heap.size + 1, 2, none⟩ = some (.int .u64 b2) ∧ w'.cell? ⟨w.heap.size + 1, 3, none⟩ = some (.int .u64 b3)) (simp [go_sem, World.cell?_alloc_past])
    (first
      | (go_at_call 9; refine (cmp9 a0 a1 a2 a3 b0 b1 b2 b3 _).mono ?_; rintro e w' ⟨rfl, c1, c2, c3, c4, n, rfl⟩)
      | (go_at_call 10; refine (borrow10 a0 a1 a2 a3 b0 b1 b2 b3 wa wb _).mono ?_; rintro e w' ⟨rfl, n, rfl⟩))
  go_wp2
  go_ret
  have g4 : ∀ {w1 : World}, Below w.heap.size w w1 → ∀ (x1 x2 x3 x4 : Array Value) (n : Nat), Below w.heap.size w (((((w1.alloc (.cells x1 23)).alloc (.cells x2 23)).alloc (.cells x3 23)).alloc (.cells x4 23)).drewN n) :=
    fun h x1 x2 x3 x4 n => below_draws' (below_new' (below_new' (below_new' (below_new' h _) _) _) _) n
  have g2 : ∀ {w1 : World}, Below w.heap.size w w1 → ∀ (x1 x2 : Array Value) (n : Nat), Below w.heap.size w (((w1.alloc (.cells x1 23)).alloc (.cells x2 23)).drewN n) :=
    fun h x1 x2 n => below_draws' (below_new' (below_new' h _) _) n
  exact ⟨rfl, g2 (g4 (below_new' (below_new' (Below.refl _ w) _) _) c1 c2 c3 c4 _) _ _ _⟩

theorem borrow_any (a0 a1 a2 a3 b0 b1 b2 b3 : Int) (wa0 : Word a0) (wa1 : Word a1) (wa2 : Word a2) (wa3 : Word a3) (wb0 : Word b0) (wb1 : Word b1) (wb2 : Word b2) (wb3 : Word b3) (w : World) :
    Calls Trym.prog 3 #[.agg #[.int .u64 a0, .int .u64 a1, .int .u64 a2, .int .u64 a3], .agg #[.int .u64 b0, .int .u64 b1, .int .u64 b2, .int .u64 b3]] w fun e w' => e = .returned (.bool true) ∧ Below w.heap.size w w' := by
  refine borrow_at a0 a1 a2 a3 b0 b1 b2 b3 ?_ ?_ w
  · intro x hx
    simp at hx
    rcases hx with rfl | rfl | rfl | rfl <;> assumption
  · intro x hx
    simp at hx
    rcases hx with rfl | rfl | rfl | rfl <;> assumption
end Go.Proofs.Qxb6000425aMods
