/-
  follower (20) and ZZFollower (15).
-/
import Derived.Test.Qxb6000425aModsTable
namespace Go.Proofs.Qxb6000425aMods
open Go.RowKit

set_option maxHeartbeats 4000000 in
theorem follow20 (pb b off c fb fc T t j : Nat) (xs : List Int) (s x : Int) (G : Nat) (w : World) (hn : xs.length ≤ 65536) (hs : 48 ≤ s) (ht : top s x = (t : Int)) (htT : t < T + 1)
    (hG : IsFirst xs x G) (hjG : j ≤ G)
    (c1 : w.cell? ⟨pb, 1, none⟩ = some (.slice (some ⟨b, off, none⟩) xs.length c)) (c2 : w.cell? ⟨pb, 2, none⟩ = some (.slice (some ⟨fb, 0, none⟩) (T + 1) fc)) (c3 : w.cell? ⟨pb, 3, none⟩ = some (.int .u64 s))
    (ct : w.cell? ⟨fb, t, none⟩ = some (.int .u32 j)) (hc : WordsAt w b off xs) :
    Calls Trym.prog 20 #[.pointer (some ⟨pb, 0, none⟩), .int .u64 x] w fun e w' => e = .returned (.int .i64 (ansOf xs.length G)) ∧ ∃ n, w' = w.drewN n := by
  obtain ⟨g1, g2, g3⟩ := hG
  have G2 : Hid (∀ r, r < G → xs.getD r 0 < x) := g2
  have G3 : Hid (x ≤ xs.getD G 0) := g3
  have HC : Hid (WordsAt w b off xs) := hc
  clear g2 g3 hc
  have hsh := fun (w : World) (x : Int) => run_shr w s x (by omega)
  have hti : (t : Int) < (T : Int) + 1 := by omega
  have hti0 : (0 : Int) ≤ (t : Int) := by omega
  go_enter Trym.func20, Trym.ntmps20
  go_wp2
  go_quiet (fail)
  go_wp2
  go_loop [5] (fun i => ∃ m : Nat, m ≤ G ∧ i = .int .i64 m) (fun i => G - (intOf i).toNat)
  case atStart => exact ⟨j, hjG, rfl⟩
  case round =>
    obtain ⟨m, hm, rfl⟩ := hrel
    obtain ⟨z, hz⟩ : ∃ z, z = xs.getD m 0 := ⟨_, rfl⟩
    have hcell := HC.out m (by omega)
    rw [← hz] at hcell
    by_cases hlt : m < G
    · have hzx : z < x := by rw [hz]; exact G2.out m hlt
      clear hz
      go_wp2
      go_round
      case rel => exact ⟨m + 1, by omega, by go_num⟩
      case measure => simp [intOf]; omega
    · have hmG : m = G := by omega
      subst hmG
      have hzx : x ≤ z := by rw [hz]; exact G3.out
      clear hz
      by_cases hl : m = xs.length - 1
      · have hd : ((m : Int) == (xs.length : Int) - 1) = true := by simp; omega
        have ha : Hid (ansOf xs.length m = 0) := by show ansOf _ _ = 0; unfold ansOf; rw [if_pos hl]
        clear hl
        go_wp2
        go_ret
        exact ⟨by rw [ha.out]; rfl, nq, rfl⟩
      · have hd : ((m : Int) == (xs.length : Int) - 1) = false := by simp; omega
        have ha : Hid (ansOf xs.length m = (m : Int)) := by show ansOf _ _ = _; unfold ansOf; rw [if_neg hl]
        clear hl
        go_wp2
        go_ret
        exact ⟨by rw [ha.out]; rfl, nq, rfl⟩

set_option maxHeartbeats 4000000 in
theorem follow15 (b off c fb fc T t j : Nat) (xs : List Int) (s x : Int) (G : Nat) (w : World) (hn : xs.length ≤ 65536) (hs : 48 ≤ s) (ht : top s x = (t : Int)) (htT : t < T + 1)
    (hG : IsFirst xs x G) (hjG : j ≤ G) (ct : w.cell? ⟨fb, t, none⟩ = some (.int .u32 j)) (hc : WordsAt w b off xs) :
    Calls Trym.prog 15 #[.slice (some ⟨b, off, none⟩) xs.length c, .slice (some ⟨fb, 0, none⟩) (T + 1) fc, .int .u64 s, .int .u64 x] w fun e w' => e = .returned (.int .i64 (ansOf xs.length G)) ∧ Below w.heap.size w w' := by
  have hh := heap_alloc_new w (.cells #[.int .i64 0, .slice (some ⟨b, off, none⟩) xs.length c, .slice (some ⟨fb, 0, none⟩) (T + 1) fc, .int .u64 s, .float .f64 0] 41)
  have hb : Below w.heap.size w (w.alloc (.cells #[.int .i64 0, .slice (some ⟨b, off, none⟩) xs.length c, .slice (some ⟨fb, 0, none⟩) (T + 1) fc, .int .u64 s, .float .f64 0] 41)) := (Below.refl _ _).alloc (Nat.le_refl _) _
  have CALL : Hid (Calls Trym.prog 20 #[.pointer (some ⟨w.heap.size, 0, none⟩), .int .u64 x] (w.alloc (.cells #[.int .i64 0, .slice (some ⟨b, off, none⟩) xs.length c, .slice (some ⟨fb, 0, none⟩) (T + 1) fc, .int .u64 s, .float .f64 0] 41)) fun e w' => e = .returned (.int .i64 (ansOf xs.length G)) ∧ ∃ n, w' = (w.alloc (.cells #[.int .i64 0, .slice (some ⟨b, off, none⟩) xs.length c, .slice (some ⟨fb, 0, none⟩) (T + 1) fc, .int .u64 s, .float .f64 0] 41)).drewN n) := follow20 w.heap.size b off c fb fc T t j xs s x G (w.alloc (.cells #[.int .i64 0, .slice (some ⟨b, off, none⟩) xs.length c, .slice (some ⟨fb, 0, none⟩) (T + 1) fc, .int .u64 s, .float .f64 0] 41)) hn hs ht htT hG hjG
    (by unfold World.cell?; rw [hh]; rfl) (by unfold World.cell?; rw [hh]; rfl) (by unfold World.cell?; rw [hh]; rfl)
    ((hb.cell (World.block_lt_of_cell? w _ ct)).trans ct) (fun i hi => (hb.cell (World.block_lt_of_cell? w _ (hc i hi))).trans (hc i hi))
  have HB : Hid (Below w.heap.size w (w.alloc (.cells #[.int .i64 0, .slice (some ⟨b, off, none⟩) xs.length c, .slice (some ⟨fb, 0, none⟩) (T + 1) fc, .int .u64 s, .float .f64 0] 41))) := hb
  clear hh hb ct hc hG hjG ht htT
  go_enter Trym.func15, Trym.ntmps15
  go_wp2_with fail
  refine CALL.out.mono ?_
  rintro e w1 ⟨rfl, n, hw1⟩
  subst hw1
  go_wp2
  go_ret
  exact ⟨rfl, HB.out.trans ⟨rfl, rfl, rfl, Nat.le_refl _, fun _ _ => rfl⟩⟩
end Go.Proofs.Qxb6000425aMods
