/-
  firstTable (14).
-/
import Derived.Test.Qxb6000425aModsPoints
namespace Go.Proofs.Qxb6000425aMods
open Go.RowKit

/-- 'x >> s' of a word. -/
def top (s x : Int) : Int := x / 2 ^ min s.toNat 64

theorem pow_pos' (n : Nat) : (0 : Int) < 2 ^ n := Int.pow_pos (by decide)
theorem top_mono {s x y : Int} (h : x ≤ y) : top s x ≤ top s y := Int.ediv_le_ediv (pow_pos' _) h
theorem top_nonneg {s x : Int} (h : 0 ≤ x) : 0 ≤ top s x := Int.ediv_nonneg h (Int.le_of_lt (pow_pos' _))
theorem top_max {s : Int} (h : 48 ≤ s) : top s 18446744073709551615 ≤ 65535 := by
  have h1 : (2 : Int) ^ 48 ≤ 2 ^ min s.toNat 64 := by
    rcases Nat.lt_or_eq_of_le (show 48 ≤ min s.toNat 64 by omega) with h' | h'
    · exact Int.le_of_lt (Int.pow_lt_pow_of_lt (by decide) h')
    · rw [← h']; exact Int.le_refl _
  have h2 : (2 : Int) ^ 48 = 281474976710656 := by decide
  rw [h2] at h1
  unfold top
  generalize (2 : Int) ^ min s.toNat 64 = D at h1
  have h3 : (18446744073709551615 : Int) < 65536 * D := by omega
  have h4 := Int.ediv_lt_of_lt_mul (show (0 : Int) < D by omega) h3
  omega

theorem run_shr (w : World) (s x : Int) (h : 0 ≤ s) : (Op.shift .shr .u64 x .u64 s).run Trym.prog w = .ok (.int .u64 (top s x)) w := by
  rw [shift_shr_any .u64 .u64 x s h]
  rfl

/-- The numbers of a table: entry r is an index j such that all points ahead of j lie, by their top bits, below r. -/
def Entry (xs : List Int) (s : Int) (r : Nat) (v : Value) : Prop := ∃ j : Nat, v = .int .u32 j ∧ j ≤ xs.length ∧ ∀ i, i < j → top s (xs.getD i 0) < r

theorem table_step {wr : World} {B T k j : Nat} {xs : List Int} {s : Int} {cs : List Value} (hk : k < T + 1) (hj : j ≤ xs.length) (hlow : ∀ i, i < j → top s (xs.getD i 0) < k)
    (hown : wr.ownsRow B 37 1 (.slice (some ⟨B, 0, none⟩) (T + 1) (T + 1)) (T + 1) cs) (hel : ∀ r, r < k → ∃ v, cs[r]? = some v ∧ Entry xs s r v) :
    ∃ cs', (wr.setCell ⟨B, k, none⟩ (.int .u32 j)).ownsRow B 37 1 (.slice (some ⟨B, 0, none⟩) (T + 1) (T + 1)) (T + 1) cs' ∧ ∀ r, r < k + 1 → ∃ v, cs'[r]? = some v ∧ Entry xs s r v := by
  have hcl : cs.length = T + 1 := by simpa using hown.1
  refine ⟨cs.set k (.int .u32 j), (hown.stored k _).1, fun r hr => ?_⟩
  by_cases e : r = k
  · subst e
    exact ⟨.int .u32 j, by simp [hcl, hk], j, rfl, hj, hlow⟩
  · obtain ⟨v, h1, h2⟩ := hel r (by omega)
    exact ⟨v, by rw [List.getElem?_set_ne (by omega)]; exact h1, h2⟩

set_option maxHeartbeats 4000000 in
theorem table14 (b off c : Nat) (xs : List Int) (s : Int) (T : Nat) (w : World) (h0 : 0 < xs.length) (hn : xs.length ≤ 65536) (hs : 48 ≤ s) (hs' : s < 18446744073709551616) (hT : top s 18446744073709551615 = T) (hc : WordsAt w b off xs) :
    Calls Trym.prog 14 #[.slice (some ⟨b, off, none⟩) xs.length c, .int .u64 s] w fun e w' => e = .returned (.slice (some ⟨w.heap.size, 0, none⟩) (T + 1) (T + 1)) ∧ Below w.heap.size w w' ∧
      ∃ cs, w'.ownsRow w.heap.size 37 1 (.slice (some ⟨w.heap.size, 0, none⟩) (T + 1) (T + 1)) (T + 1) cs ∧ ∀ r, r < T + 1 → ∃ v, cs[r]? = some v ∧ Entry xs s r v := by
  have hT' : T ≤ 65535 := by have := top_max hs; omega
  obtain ⟨i0, hi, hz0, hz1, hz2⟩ := info_parts Trym.info37
  obtain ⟨w1, hmk, hown, hgr⟩ := run_make_full (P := Trym.prog) w w.heap.size 32 37 i0 (.int .u32 0) 1 Trym.underlying32 hi hz0 hz1 .i64 .i64 (T + 1) (by rw [hz2]; omega) (by unfold maxLen; omega) (Nat.le_refl _)
  rw [show ((T + 1 : Nat) : Int) = (T : Int) + 1 from by omega] at hmk
  have hbH : Hid (Below w.heap.size w w1) := (Below.refl _ _).grown hgr (Nat.le_refl _) (by simp)
  have e0 : (madeCells (Value.int .u32 0).cells ((T + 1) * 1)).toList = List.replicate (T + 1) (.int .u32 0) := by
    rw [Nat.mul_one]
    show (madeCells #[Value.int .u32 0] (T + 1)).toList = _
    rw [toList_madeCells_one]
  rw [e0] at hown
  clear e0
  have hownH : Hid (∃ cs, w1.ownsRow w.heap.size 37 1 (.slice (some ⟨w.heap.size, 0, none⟩) (T + 1) (T + 1)) (T + 1) cs ∧ ∀ r, r < 0 → ∃ v, cs[r]? = some v ∧ Entry xs s r v) := ⟨_, hown, fun r hr => by omega⟩
  have hbw : b < w.heap.size := World.block_lt_of_cell? w _ (hc 0 h0)
  have HC : Hid (WordsAt w b off xs) := hc
  clear hc hown hgr
  have hsh := fun (w : World) (x : Int) => run_shr w s x (by omega)
  go_enter Trym.func14, Trym.ntmps14
  go_wp2
  go_loopw [7, 8] (fun j k wr => ∃ kn jn : Nat, kn ≤ T + 1 ∧ jn ≤ xs.length ∧ k = .int .i64 kn ∧ j = .int .i64 jn ∧ Hid (∀ i, i < jn → top s (xs.getD i 0) < kn) ∧ Below w.heap.size w wr ∧
      Hid (∃ cs, wr.ownsRow w.heap.size 37 1 (.slice (some ⟨w.heap.size, 0, none⟩) (T + 1) (T + 1)) (T + 1) cs ∧ ∀ r, r < kn → ∃ v, cs[r]? = some v ∧ Entry xs s r v)) (fun _ k _ => T + 1 - (intOf k).toNat)
  case atStart => exact ⟨0, 0, Nat.zero_le _, Nat.zero_le _, rfl, rfl, fun i hi => by omega, hbH.out, hownH⟩
  case round =>
    obtain ⟨kn, jn, hkn, hjn, rfl, rfl, hlow, hb, hS⟩ := hrel
    clear hownH hbH hmk hT
    by_cases hlt : kn < T + 1
    · obtain ⟨cs, hown, hel⟩ := hS.out
      have hdst : ∃ x, wr.cell? ⟨w.heap.size, kn, none⟩ = some x := ⟨_, by rw [hown.cellAt kn (by omega), List.getElem?_eq_getElem (show kn < cs.length by have := hown.1; omega)]⟩
      obtain ⟨x0, hdst⟩ := hdst
      have hfr : wr.frozen? ⟨w.heap.size, kn, none⟩ = false := hown.frozenAt kn
      have R : Hid (∀ j : Nat, j ≤ xs.length → (∀ i, i < j → top s (xs.getD i 0) < kn) → ∃ cs', (wr.setCell ⟨w.heap.size, kn, none⟩ (.int .u32 j)).ownsRow w.heap.size 37 1 (.slice (some ⟨w.heap.size, 0, none⟩) (T + 1) (T + 1)) (T + 1) cs' ∧ ∀ r, r < kn + 1 → ∃ v, cs'[r]? = some v ∧ Entry xs s r v) :=
        fun j hj hl => table_step hlt hj hl hown hel
      clear hown hel hS
      go_wp2
      go_loop [7] (fun j => ∃ jm : Nat, jm ≤ xs.length ∧ j = .int .i64 jm ∧ Hid (∀ i, i < jm → top s (xs.getD i 0) < kn)) (fun j => xs.length - (intOf j).toNat)
      case atStart => exact ⟨jn, hjn, rfl, hlow⟩
      case round =>
        obtain ⟨jm, hjm, rfl, hlow'⟩ := hrel
        by_cases hj : jm < xs.length
        · obtain ⟨x, hx⟩ : ∃ x, x = xs.getD jm 0 := ⟨_, rfl⟩
          have hcx : wr.cell? ⟨b, off + jm, none⟩ = some (.int .u64 (xs.getD jm 0)) := (hb.cell (p := ⟨b, off + jm, none⟩) hbw).trans (HC.out jm hj)
          rw [← hx] at hcx
          by_cases ht : top s x < kn
          · have HL : Hid (∀ i, i < jm + 1 → top s (xs.getD i 0) < kn) := fun i hi => by
              by_cases e : i = jm
              · rw [e, ← hx]; exact ht
              · exact hlow'.out i (by omega)
            clear hx
            go_wp2
            go_round
            case rel => exact ⟨jm + 1, by omega, by go_num, HL⟩
            case measure => simp [intOf]; omega
          · have HL : Hid (∀ i, i < jm → top s (xs.getD i 0) < (kn + 1 : Nat)) := fun i hi => by have := hlow'.out i hi; omega
            clear hx
            go_wp2
            go_roundw
            case rel => exact ⟨kn + 1, jm, by omega, by omega, by go_num, rfl, HL, hb.setCell (Nat.le_refl _) _, R.out jm hjm hlow'.out⟩
            case measure => simp [intOf]; omega
        · have HL : Hid (∀ i, i < jm → top s (xs.getD i 0) < (kn + 1 : Nat)) := fun i hi => by have := hlow'.out i hi; omega
          go_wp2
          go_roundw
          case rel => exact ⟨kn + 1, jm, by omega, by omega, by go_num, rfl, HL, hb.setCell (Nat.le_refl _) _, R.out jm hjm hlow'.out⟩
          case measure => simp [intOf]; omega
    · have hkT : kn = T + 1 := by omega
      subst hkT
      go_wp2
      go_ret
      exact ⟨rfl, hb, hS.out⟩
end Go.Proofs.Qxb6000425aMods
