/-
  The walk of newHashTable: it lays a row of zeros, the least power of two of them, eight at the least, whose fill eighths hold n.
-/
import Derived.Test.YbulkaavuProg
import Derived.WalkKit
import Derived.WalkSpells
import Derived.WalkLawsBesides
namespace Go.Proofs.Ybulkaavu
open Go.RowKit

/-- A row of L zeros. -/
def zeros (L : Nat) : Array Value := madeCells #[.int .u64 0] L

theorem zeros_at (L i : Nat) (h : i < L) : (zeros L)[i]? = some (.int .u64 0) := by
  have e : (zeros L).toList = List.replicate L (.int .u64 0) := toList_madeCells_one _ _
  rw [← Array.getElem?_toList, e, List.getElem?_replicate, if_pos h]

theorem make_zeros (L : Nat) (h : L ≤ 1048576) (w : World) : (Instr.makeSlice 22 (.int .i64 (L : Int)) (.int .i64 (L : Int))).run Yba.prog w = .ok (.slice (some ⟨w.heap.size, 0, none⟩) L L) (w.alloc (.cells (zeros L) 27)) := by
  obtain ⟨i, hi, hz, hs, hb⟩ : ∃ i, Yba.prog.info? 27 = some i ∧ i.zero = some (.int .u64 0) ∧ i.size = 1 ∧ i.bytes = 8 := ⟨_, rfl, rfl, rfl, rfl⟩
  have := run_make (P := Yba.prog) w 22 27 i (.int .u64 0) Yba.underlying22 hi hz .i64 .i64 L L (by omega) (Int.le_refl _) (by rw [hb]; omega) (by omega)
  rw [this, hs]
  simp [zeros, Value.cells]

/-- q, a power of two, is enough, and half of it is not. -/
def Least (n f q : Nat) : Prop := (∃ p, q = 2 ^ p) ∧ n ≤ q * f ∧ (q = 1 ∨ ∃ r, q = 2 * r ∧ r * f < n)

set_option maxHeartbeats 400000 in
theorem table_some (n f : Nat) (w : World) (h0 : 0 < n) (h1 : n ≤ 65536) (hf : 1 ≤ f) (hf7 : f ≤ 7) :
    Calls Yba.prog 5 #[.int .i64 n, .int .i64 f] w fun e w' => ∃ q, Least n f q ∧ q ≤ 131072 ∧ e = .returned (.agg #[.slice (some ⟨w.heap.size + 1 + 1, 0, none⟩) (8 * q) (8 * q), .int .i64 0, .int .i64 f]) ∧
      w' = ((w.alloc (.cells #[.slice (some ⟨w.heap.size + 1 + 1, 0, none⟩) (8 * q) (8 * q), .int .i64 0, .int .i64 f] 24)).alloc (.cells #[.slice (some ⟨w.heap.size + 1 + 1, 0, none⟩) (8 * q) (8 * q), .int .i64 0, .int .i64 f] 24)).alloc (.cells (zeros (8 * q)) 27) := by
  go_enter Yba.func5, Yba.ntmps5
  go_wp2
  go_loop [6] (fun t => ∃ q : Nat, t = .int .i64 (8 * (q : Int)) ∧ 1 ≤ q ∧ Hid (∃ p, q = 2 ^ p) ∧ Hid (q = 1 ∨ ∃ r, q = 2 * r ∧ r * f < n)) (fun t => (10000000 - intOf t).toNat)
  case atStart => exact ⟨1, rfl, by omega, ⟨0, rfl⟩, Or.inl rfl⟩
  case round =>
    obtain ⟨q, rfl, hq1, hp, hq2⟩ := hrel
    have hq3 : q ≤ 131072 := by
      rcases hq2.out with h | ⟨r, h, h'⟩
      · omega
      · have : r * 1 ≤ r * f := Nat.mul_le_mul_left r hf
        omega
    have hq4 : (q : Int) * f ≤ 917504 := by
      have : q * f ≤ 131072 * 7 := Nat.mul_le_mul hq3 hf7
      have h' : ((q * f : Nat) : Int) = (q : Int) * f := by simp
      omega
    have hq5 : 0 ≤ (q : Int) * f := Int.mul_nonneg (by omega) (by omega)
    by_cases hlt : (q : Int) * f < n
    · have hlt' : q * f < n := by
        have h' : ((q * f : Nat) : Int) = (q : Int) * f := by simp
        omega
      have HP : Hid (∃ p, q * 2 = 2 ^ p) := by
        obtain ⟨p, h⟩ := hp.out
        exact ⟨p + 1, by rw [h, Nat.pow_succ]⟩
      have HR : Hid (q * 2 = 1 ∨ ∃ r, q * 2 = 2 * r ∧ r * f < n) := Or.inr ⟨q, by omega, hlt'⟩
      clear hp hq2 hlt'
      go_wp2
      go_round
      case rel => exact ⟨q * 2, by go_num, by omega, HP, HR⟩
      case measure => simp [intOf]; omega
    · have hn : n ≤ q * f := by
        have h' : ((q * f : Nat) : Int) = (q : Int) * f := by simp
        omega
      have HL : Hid (Least n f q) := ⟨hp.out, hn, hq2.out⟩
      clear hn hp hq2
      have hmk := make_zeros (8 * q) (by omega)
      have e8 : ((8 * q : Nat) : Int) = 8 * (q : Int) := by simp
      rw [e8] at hmk
      clear e8
      go_wp2
      refine bodyPost_ret (v := .agg #[.slice (some ⟨w.heap.size + 1 + 1, 0, none⟩) (8 * q) (8 * q), .int .i64 0, .int .i64 f]) (by simp [results, Yba.results5, go_sem]) rfl ?_
      exact ⟨q, HL.out, hq3, rfl, rfl⟩

theorem table_none (n : Int) (f : Nat) (w : World) (h0 : ¬ 0 < n) (hf : 1 ≤ f) (hf7 : f ≤ 7) :
    Calls Yba.prog 5 #[.int .i64 n, .int .i64 f] w fun e w' => e = .returned (.agg #[.slice none 0 0, .int .i64 0, .int .i64 f]) ∧
      w' = (w.alloc (.cells #[.slice none 0 0, .int .i64 0, .int .i64 f] 24)).alloc (.cells #[.slice none 0 0, .int .i64 0, .int .i64 f] 24) := by
  go_enter Yba.func5, Yba.ntmps5
  go_wp2
  refine bodyPost_ret (v := .agg #[.slice none 0 0, .int .i64 0, .int .i64 f]) (by simp [results, Yba.results5, go_sem]) rfl ?_
  exact ⟨rfl, rfl⟩

theorem pow_and : ∀ p, p < 18 → (bits .and .i64 ((8 * 2 ^ p : Nat) : Int) (((8 * 2 ^ p : Nat) : Int) - 1) == 0) = true := by decide

theorem pow2_any (L : Nat) (w : World) (h0 : 0 < L) (h1 : L ≤ 1048576) (h : (bits .and .i64 (L : Int) ((L : Int) - 1) == 0) = true) :
    Calls Yba.prog 6 #[.int .i64 L] w fun e w' => e = .returned (.bool true) ∧ w = w' := by
  go_enter Yba.func6, Yba.ntmps6
  go_wp2
  go_ret
  exact ⟨rfl, rfl⟩
end Go.Proofs.Ybulkaavu
