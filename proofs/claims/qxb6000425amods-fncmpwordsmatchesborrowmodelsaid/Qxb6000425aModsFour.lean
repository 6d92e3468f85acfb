/-
  An argument that is an array of four words, opened.
-/
import Derived.Test.Qxb6000425aModsRows
import Derived.WalkKit
import Derived.ProofKit
import Derived.OpenShut
import Derived.Lib.SmallJoins
namespace Go.Proofs.Qxb6000425aMods
open Go.ChangeShapes Go.WideShapes Go.ChangeAt Go.RowKit

/-- A word. -/
def Word (x : Int) : Prop := 0 ≤ x ∧ x < 18446744073709551616

theorem word_of_wf {x : Int} (h : (Lit.int .u64 x).wf = true) : Word x := by
  simp [Lit.wf, IntKind.min, IntKind.max, IntKind.signed, IntKind.bits] at h
  exact ⟨by omega, by omega⟩

theorem okWide_array {P : Program} {w : World} {r : Reach} {base : Nat} {t e : TypeId} {n : Nat} {v : Value} (ht : P.underlying t = some (.array n e)) (h : Value.okWide P w r base t v) : ∃ cs, v = .agg cs ∧ cs.size = P.cellsOf t := by
  simp only [Value.okWide, ht] at h
  obtain ⟨cs, h1, h2, _⟩ := h
  exact ⟨cs, h1, h2⟩

theorem Trym.size23 : Trym.prog.cellsOf 23 = 4 := by kernel_rfl
theorem Trym.size22 : Trym.prog.cellsOf 22 = 1 := by kernel_rfl

theorem open_four {H : Type} {enc : TypeId × Value → H} {W : World} {r : Reach} {base base' : Nat} {spare : Nat → Bool} {held : Bool} {v : Value} {d : DataW H} {p : List MemPlace} (hv : Value.okWide Trym.prog W r base 23 v)
    (h : DataW.Trod enc Trym.prog W base' spare held 23 v d p) :
    ∃ a0 a1 a2 a3, v = .agg #[.int .u64 a0, .int .u64 a1, .int .u64 a2, .int .u64 a3] ∧ Word a0 ∧ Word a1 ∧ Word a2 ∧ Word a3 := by
  obtain ⟨cs, rfl, hsz⟩ := okWide_array Trym.underlying23 hv
  obtain ⟨c0, c1, c2, c3, rfl⟩ := Joins.array4 (hsz.trans Trym.size23)
  obtain ⟨fuel, hf⟩ := h
  have hf' : DataW.trod enc Trym.prog W base' spare held fuel 23 [c0, c1, c2, c3] = some (d, p) := by simpa [Value.cells] using hf
  obtain ⟨y0, y1, y2, y3, n, _, h0, h1, h2, h3⟩ := trod_array4 Trym.underlying23 Trym.size22 hf'
  obtain ⟨a0, e0, _, w0⟩ := DataW.trod_int Trym.underlying22 h0
  obtain ⟨a1, e1, _, w1⟩ := DataW.trod_int Trym.underlying22 h1
  obtain ⟨a2, e2, _, w2⟩ := DataW.trod_int Trym.underlying22 h2
  obtain ⟨a3, e3, _, w3⟩ := DataW.trod_int Trym.underlying22 h3
  simp at e0 e1 e2 e3
  subst e0 e1 e2 e3
  exact ⟨a0, a1, a2, a3, rfl, word_of_wf w0, word_of_wf w1, word_of_wf w2, word_of_wf w3⟩
end Go.Proofs.Qxb6000425aMods
