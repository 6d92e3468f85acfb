/-
  What the three laws over one slice of bytes share: the length's test, the argument as it comes in, the variable that holds a Quantity.
-/
import Derived.Test.Qxb6000205aModsWalks2
namespace Go.Proofs.Qxb6000205aMods
open Go.RowKit

theorem neqNil (w : World) (a : Option Addr) (n c n' c' : Nat) : (binOp .neq 22 (.slice a n c) (.slice none n' c')).run Trym.prog w = .ok (.bool (!a.isNone)) w :=
  run_neq_slice_nil_any w _ _ a n c n' c' Trym.underlying22

/-- 'v != nil', 'v == nil' of a value that reads as the bytes o. -/
theorem Bytes.neq {w : World} {v : Value} {o : Option (List Int)} (h : Bytes w v o) (w' : World) : (binOp .neq 22 v (.slice none 0 0)).run Trym.prog w' = .ok (.bool o.isSome) w' := by
  match o, h with
  | none, h =>
    have h' : v = .slice none 0 0 := h
    subst h'
    exact neqNil w' none 0 0 0 0
  | some xs, ⟨_, _, a, c, hv, _⟩ =>
    subst hv
    exact neqNil w' (some a) _ _ 0 0
theorem Bytes.eql {w : World} {v : Value} {o : Option (List Int)} (h : Bytes w v o) (w' : World) : (binOp .eql 22 v (.slice none 0 0)).run Trym.prog w' = .ok (.bool o.isNone) w' := by
  match o, h with
  | none, h =>
    have h' : v = .slice none 0 0 := h
    subst h'
    exact eqNil w' none 0 0 0 0
  | some xs, ⟨_, _, a, c, hv, _⟩ =>
    subst hv
    exact eqNil w' (some a) _ _ 0 0

/-! ### the three copies of the length's test -/
section
variable (a : Option Addr) (n c : Nat) (w : World)
theorem zz7_big (h : 1048576 < n) (hm : n ≤ maxLen) : Calls Trym.prog 7 #[.slice a n c] w fun e w' => e = .returned (.bool false) ∧ w' = w := by
  unfold maxLen at hm
  go_enter Trym.func7, Trym.ntmps7
  go_wp2
  go_ret
  exact ⟨rfl, rfl⟩
theorem zz7_small (h : n ≤ 1048576) : Calls Trym.prog 7 #[.slice a n c] w fun e w' => e = .returned (.bool true) ∧ w' = w := by
  go_enter Trym.func7, Trym.ntmps7
  go_wp2
  go_ret
  exact ⟨rfl, rfl⟩
theorem zz15_big (h : 1048576 < n) (hm : n ≤ maxLen) : Calls Trym.prog 15 #[.slice a n c] w fun e w' => e = .returned (.bool false) ∧ w' = w := by
  unfold maxLen at hm
  go_enter Trym.func15, Trym.ntmps15
  go_wp2
  go_ret
  exact ⟨rfl, rfl⟩
theorem zz15_small (h : n ≤ 1048576) : Calls Trym.prog 15 #[.slice a n c] w fun e w' => e = .returned (.bool true) ∧ w' = w := by
  go_enter Trym.func15, Trym.ntmps15
  go_wp2
  go_ret
  exact ⟨rfl, rfl⟩
theorem zz16_big (h : 1048576 < n) (hm : n ≤ maxLen) : Calls Trym.prog 16 #[.slice a n c] w fun e w' => e = .returned (.bool false) ∧ w' = w := by
  unfold maxLen at hm
  go_enter Trym.func16, Trym.ntmps16
  go_wp2
  go_ret
  exact ⟨rfl, rfl⟩
theorem zz16_small (h : n ≤ 1048576) : Calls Trym.prog 16 #[.slice a n c] w fun e w' => e = .returned (.bool true) ∧ w' = w := by
  go_enter Trym.func16, Trym.ntmps16
  go_wp2
  go_ret
  exact ⟨rfl, rfl⟩
end

/-- The argument: nil, or a row of bytes of which the first 'len' are its elements. -/
theorem bytes_of_row {w : World} {a : Option Addr} {len cap : Nat} {zs : List Int} (hl : len ≤ 1048576)
    (h : (a = none ∧ len = 0 ∧ cap = 0 ∧ zs = []) ∨
      ∃ x, a = some x ∧ len ≤ cap ∧ cap ≤ maxLen ∧ zs.length = cap ∧ (∀ i, i < zs.length → w.cell? (x.add i) = some (.int .u8 (zs.getD i 0))) ∧ ∀ n ∈ zs, (Lit.int .u8 n).wf = true) :
    ∃ o, Bytes w (.slice a len cap) o := by
  rcases h with ⟨rfl, rfl, rfl, _⟩ | ⟨x, rfl, h1, h2, h3, h4, h5⟩
  · exact ⟨none, rfl⟩
  · refine ⟨some (zs.take len), by simp; omega, fun n hn => ?_, x, cap, by simp; omega, fun i hi => ?_⟩
    · have := h5 n (List.mem_of_mem_take hn)
      simp [Lit.wf, IntKind.min, IntKind.max, IntKind.signed, IntKind.bits] at this
      omega
    · simp only [List.length_take] at hi
      rw [h4 i (by omega)]
      simp [List.getD, show i < len from by omega]

/-- MarshalJSON, its result written out: it is never nil. -/
theorem marshal_form (v : Value) (o : Option (List Int)) (w : World) (h : Bytes w v o) :
    Calls Trym.prog 10 #[.agg #[v]] w fun e w' => ∃ a n c, e = .returned (.tuple #[.slice (some a) n c, .nilIface]) ∧ Bytes w' (.slice (some a) n c) (some (o.getD nullT)) ∧ Below w.heap.size w w' :=
  (marshal_any v o w h).mono fun e w' ⟨v', he, hB, hb⟩ => by
    obtain ⟨_, _, a, c, hv, _⟩ := id hB
    subst hv
    exact ⟨a, _, c, he, hB, hb⟩

theorem below_draws {B : Nat} {a w : World} (h : Below B a w) (n : Nat) : Below B a (w.drewN n) := h.trans ⟨rfl, rfl, rfl, Nat.le_refl _, fun _ _ => rfl⟩

/-- A fresh Quantity holds nil. -/
theorem qfresh (w : World) : QHolds (w.alloc (.cells #[.slice none 0 0] 26)) w.heap.size (.slice none 0 0) none :=
  ⟨heap_alloc_new w _, rfl⟩
end Go.Proofs.Qxb6000205aMods
