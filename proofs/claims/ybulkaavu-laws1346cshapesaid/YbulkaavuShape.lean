/-
  The walk of LawS1346CShape: it returns true.
-/
import Derived.Test.YbulkaavuTable
import Derived.OpenShut
namespace Go.Proofs.Ybulkaavu
open Go.RowKit

theorem shape_over (n a1 : Int) (w : World) (h : 65536 < n) :
    Calls Yba.prog 3 #[.int .i64 n, .int .u8 a1] w fun e w' => e = .returned (.bool true) ∧ Grown w w' := by
  go_enter Yba.func3, Yba.ntmps3
  go_wp2_with fail
  go_ret
  exact ⟨rfl, Grown.refl _⟩

theorem shape_none (n a1 : Int) (f : Nat) (w : World) (h : ¬ 0 < n) (h0 : 0 ≤ a1) (h1 : a1 ≤ 255) (ef : a1 % 7 + 1 = (f : Int)) (hf : 1 ≤ f) (hf7 : f ≤ 7) :
    Calls Yba.prog 3 #[.int .i64 n, .int .u8 a1] w fun e w' => e = .returned (.bool true) ∧ Grown w w' := by
  have hn : ¬ 65536 < n := by omega
  go_enter Yba.func3, Yba.ntmps3
  go_wp2_with (go_at_call 5; refine (table_none _ f _ h hf hf7).mono ?_; rintro e w' ⟨rfl, rfl⟩)
  go_ret
  exact ⟨rfl, by repeat (first | exact Grown.refl _ | apply Grown.drew | apply Grown.alloc)⟩

/-- What the table's size is, in the words of the law's tests. -/
theorem sizes {n f q : Nat} (h : Least n f q) (hq : q ≤ 131072) (hf7 : f ≤ 7) : ∃ L : Nat, L = 8 * q ∧ 8 ≤ L ∧ L ≤ 1048576 ∧ (bits .and .i64 (L : Int) ((L : Int) - 1) == 0) = true ∧
    (n : Int) ≤ (L : Int) / 8 * f ∧ (L : Int) / 8 * f ≤ 917504 ∧ (8 < L → (L : Int) / 2 / 8 * f < n) ∧ 0 ≤ (L : Int) / 2 / 8 * f := by
  obtain ⟨⟨p, hp⟩, hn, hr⟩ := h
  have hp18 : p < 18 := by
    by_cases c : p < 18
    · exact c
    · have : 2 ^ 18 ≤ 2 ^ p := Nat.pow_le_pow_right (by decide) (by omega)
      omega
  have hq1 : 1 ≤ q := by rw [hp]; exact Nat.two_pow_pos _
  have e1 : ((8 * q : Nat) : Int) / 8 = (q : Int) := by omega
  have e2 : ((q * f : Nat) : Int) = (q : Int) * f := by simp
  have hqf : q * f ≤ 131072 * 7 := Nat.mul_le_mul hq hf7
  refine ⟨8 * q, rfl, by omega, by omega, by rw [hp]; exact pow_and p hp18, by rw [e1]; omega, by rw [e1]; omega, fun h8 => ?_, Int.mul_nonneg (by omega) (by omega)⟩
  rcases hr with h | ⟨r, hr, hrn⟩
  · omega
  · have e3 : ((8 * q : Nat) : Int) / 2 / 8 = (r : Int) := by omega
    have e4 : ((r * f : Nat) : Int) = (r : Int) * f := by simp
    rw [e3]
    omega

theorem cell_zeros (w : World) (B L k : Nat) (hB : w.heap.size = B) (h : k < L) : (w.alloc (.cells (zeros L) 27)).cell? ⟨B, k, none⟩ = some (.int .u64 0) := by
  subst hB
  unfold World.cell?
  dsimp only
  rw [(MapKept.heap_alloc w _).1]
  simpa using zeros_at L k h

set_option maxHeartbeats 400000 in
theorem shape_some (n f : Nat) (a1 : Int) (w : World) (h0 : 0 ≤ a1) (h1 : a1 ≤ 255) (ef : a1 % 7 + 1 = (f : Int)) (hf : 1 ≤ f) (hf7 : f ≤ 7) (hn : 0 < n) (hn1 : n ≤ 65536) :
    Calls Yba.prog 3 #[.int .i64 n, .int .u8 a1] w fun e w' => e = .returned (.bool true) ∧ Grown w w' := by
  go_enter Yba.func3, Yba.ntmps3
  go_wp2_with fail
  refine (table_some n f _ hn hn1 hf hf7).mono ?_
  rintro e w1 ⟨q, hq, hq7, rfl, hw1⟩
  obtain ⟨L, eL, hL, hL1, hp0, k1, k2, k3, k4⟩ := sizes hq hq7 hf7
  rw [← eL] at hw1 ⊢
  clear eL hq hq7
  have hp : Hid ((bits .and .i64 (L : Int) ((L : Int) - 1) == 0) = true) := hp0
  clear hp0
  have hg0 : Grown w w1 := by rw [hw1]; exact ((Grown.refl w).alloc _ _).alloc _ _ |>.alloc _ _
  have hB : w.heap.size + 1 + 1 < w1.heap.size := by rw [hw1]; simp
  have hc : ∀ k, k < L → w1.cell? ⟨w.heap.size + 1 + 1, k, none⟩ = some (.int .u64 0) := by
    intro k hk
    rw [hw1]
    exact cell_zeros _ _ L k (by simp) hk
  have hg : Hid (Grown w w1) := hg0
  clear hg0 hw1
  generalize w.heap.size + 1 + 1 = B at hB hc ⊢
  go_wp2_with (go_at_call 6; refine (pow2_any L _ (by omega) hL1 hp.out).mono ?_; rintro e w' ⟨rfl, rfl⟩)
  all_goals
    go_loop [8] (fun i => ∃ k : Nat, k ≤ L ∧ i = .int .i64 k) (fun i => L - (intOf i).toNat)
    case atStart => exact ⟨0, by omega, rfl⟩
    case round =>
      obtain ⟨k, hk, rfl⟩ := hrel
      by_cases hlt : k < L
      · have hck := hc k hlt
        go_wp2_with fail
        go_round
        case rel => exact ⟨k + 1, by omega, by go_num⟩
        case measure => simp [intOf]; omega
      · go_wp2_with fail
        go_ret
        exact ⟨rfl, Grown.alloc hg.out _ _⟩

theorem shape_any (n a1 : Int) (w : World) (h0 : 0 ≤ a1) (h1 : a1 ≤ 255) :
    Calls Yba.prog 3 #[.int .i64 n, .int .u8 a1] w fun e w' => e = .returned (.bool true) ∧ Grown w w' := by
  obtain ⟨f, ef⟩ : ∃ f : Nat, a1 % 7 + 1 = (f : Int) := ⟨(a1 % 7 + 1).toNat, by omega⟩
  have hf : 1 ≤ f := by omega
  have hf7 : f ≤ 7 := by omega
  by_cases hn1 : 65536 < n
  · exact shape_over n a1 w hn1
  by_cases hn : 0 < n
  · obtain ⟨m, rfl⟩ : ∃ m : Nat, n = (m : Int) := ⟨n.toNat, by omega⟩
    exact shape_some m f a1 w h0 h1 ef hf hf7 (by omega) (by omega)
  · exact shape_none n a1 f w hn h0 h1 ef hf hf7
end Go.Proofs.Ybulkaavu
