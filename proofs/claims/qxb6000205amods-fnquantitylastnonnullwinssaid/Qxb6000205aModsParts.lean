/-
  Plain notions over a world: what a slice of bytes holds, and how that is kept. No Go text in sight.
-/
import Derived.WalkKit
import Derived.OneCell
import Derived.Deep.QuietTactic
import Derived.BigQuiet
namespace Go.Proofs.Qxb6000205aMods
open Go.RowKit

/-- The four bytes of JSON's null. -/
def nullT : List Int := [110, 117, 108, 108]

/-- The slice value v reads as the bytes o in the world w ('none': the nil slice). -/
def Bytes (w : World) (v : Value) (o : Option (List Int)) : Prop :=
  match o with
  | none => v = .slice none 0 0
  | some xs => xs.length ≤ 1048576 ∧ (∀ x ∈ xs, 0 ≤ x ∧ x ≤ 255) ∧ ∃ a c, v = .slice (some a) xs.length c ∧ ∀ i, i < xs.length → w.cell? (a.add i) = some (.int .u8 (xs.getD i 0))

theorem add_none (b off i : Nat) : (⟨b, off, none⟩ : Addr).add i = ⟨b, off + i, none⟩ := by unfold Addr.add; split <;> simp_all
theorem add_block (a : Addr) (i : Nat) : (a.add i).block = a.block := by unfold Addr.add; split <;> simp_all

/-- Where there is a byte the address is a plain one. -/
theorem plain_of {w : World} {a : Addr} {xs : List Int} (h : ∀ i, i < xs.length → w.cell? (a.add i) = some (.int .u8 (xs.getD i 0))) (h0 : 0 < xs.length) :
    ∃ b off, a = ⟨b, off, none⟩ ∧ ∀ i, i < xs.length → w.cell? ⟨b, off + i, none⟩ = some (.int .u8 (xs.getD i 0)) := by
  obtain ⟨b, off, spot⟩ := a
  have hspot : spot = none := by simpa [Addr.add] using World.cell?_spot (h 0 h0)
  subst hspot
  exact ⟨b, off, rfl, fun i hi => by rw [← add_none]; exact h i hi⟩

theorem Bytes.carry {w w' : World} {v : Value} {o : Option (List Int)} (h : Bytes w v o) (hc : ∀ (a : Addr) (x : Int), w.cell? a = some (.int .u8 x) → v.ownBlock = some a.block → w'.cell? a = some (.int .u8 x)) : Bytes w' v o := by
  match o, h with
  | none, h => exact h
  | some xs, ⟨h1, h2, a, c, hv, h3⟩ => exact ⟨h1, h2, a, c, hv, fun i hi => hc _ _ (h3 i hi) (by rw [hv, add_block]; rfl)⟩

theorem Bytes.below {w w' : World} {v : Value} {o : Option (List Int)} (h : Bytes w v o) (hb : Below w.heap.size w w') : Bytes w' v o :=
  h.carry fun a x hx _ => by rw [hb.cell (World.block_lt_of_cell? w a hx)]; exact hx

/-- A block of one cell that holds a slice is no block of bytes: so what writes there alone leaves the bytes be. -/
theorem Bytes.grown {w w' : World} {v v0 : Value} {o : Option (List Int)} {qb : Nat} (h : Bytes w v o) (hq : w.heap[qb]? = some (.cells #[v0] 26 (0, 0))) (hv0 : ∀ x, v0 ≠ .int .u8 x) (hg : w.grownBy w' (some qb)) : Bytes w' v o :=
  h.carry fun a x hx _ => hg.cell hx fun e => by
    have e' : a.block = qb := by simpa using e
    obtain ⟨b, off, spot⟩ := a
    have hspot : spot = none := by simpa using World.cell?_spot hx
    subst hspot
    subst e'
    match off with
    | 0 => rw [cell_of_one hq] at hx; exact hv0 x (by simpa using hx)
    | off + 1 => simp [World.cell?, hq] at hx

theorem Bytes.drewN {w : World} {v : Value} {o : Option (List Int)} (h : Bytes w v o) (n : Nat) : Bytes (w.drewN n) v o :=
  h.carry fun a x hx _ => by simpa using hx

theorem Bytes.alloc {w : World} {v : Value} {o : Option (List Int)} (h : Bytes w v o) (b : Obj) : Bytes (w.alloc b) v o := h.below ((Below.refl _ _).alloc (Nat.le_refl _) _)

/-- v reads as the bytes o, in memory from block 'base' on that may be written. -/
def Owned (w : World) (base : Nat) (v : Value) (o : Option (List Int)) : Prop :=
  match o with
  | none => v = .slice none 0 0
  | some xs => xs.length ≤ 1048576 ∧ (∀ x ∈ xs, 0 ≤ x ∧ x ≤ 255) ∧ ∃ g c, v = .slice (some ⟨g, 0, none⟩) xs.length c ∧ base ≤ g ∧ w.ownsRow base 5 1 v xs.length (xs.map (Value.int .u8))

theorem Owned.bytes {w : World} {base : Nat} {v : Value} {o : Option (List Int)} (h : Owned w base v o) : Bytes w v o := by
  match o, h with
  | none, h => exact h
  | some xs, ⟨h1, h2, g, c, hv, _, h3⟩ =>
    refine ⟨h1, h2, ⟨g, 0, none⟩, c, hv, fun i hi => ?_⟩
    subst hv
    rw [add_none, Nat.zero_add, h3.cellAt i (by omega)]
    simp [List.getElem?_eq_getElem hi, List.getD]

theorem Bytes.nil_of {w : World} {v : Value} {o : Option (List Int)} (h : Bytes w v o) : v = .slice none 0 0 ↔ o = none := by
  match o, h with
  | none, h => exact ⟨fun _ => rfl, fun _ => h⟩
  | some xs, ⟨_, _, a, c, hv, _⟩ => simp [hv]

/-- The bytes copied so far. -/
def upTo (xs : List Int) (k : Nat) : List Int := xs.take k ++ List.replicate (xs.length - k) 0
theorem upTo_zero (xs : List Int) : upTo xs 0 = List.replicate xs.length 0 := by simp [upTo]
theorem upTo_all (xs : List Int) : upTo xs xs.length = xs := by simp [upTo]
theorem upTo_length (xs : List Int) (k : Nat) : (upTo xs k).length = xs.length := by simp [upTo]; omega
theorem upTo_set (xs : List Int) (k : Nat) (h : k < xs.length) : (upTo xs k).set k (xs.getD k 0) = upTo xs (k + 1) := by
  apply List.ext_getElem
  · simp [upTo_length]
  · intro i h1 h2
    simp [upTo_length] at h1
    simp only [List.getElem_set, upTo, List.getElem_append, List.length_take, List.getElem_take, List.getElem_replicate]
    by_cases hi : k = i
    · subst hi; simp [h, List.getD]; omega
    · by_cases h3 : i < k
      · have e1 : i < min k xs.length := by omega
        have e2 : i < min (k + 1) xs.length := by omega
        simp [hi, e1, e2]
      · have e1 : ¬ i < min k xs.length := by omega
        have e2 : ¬ i < min (k + 1) xs.length := by omega
        simp [hi, e1, e2]
end Go.Proofs.Qxb6000205aMods
