/-
  New(seed), and what memory holds behind it.
-/
import Derived.Test.YbulkaawiAmongW
namespace Go.Proofs.Ybulkaawi
open Go.RowKit

/-- The three blocks that New lays. -/
def withNew (w : World) (seed : Nat) : World :=
  ((w.alloc (.cells #[.int .u64 seed, .int .u64 seed] 143)).alloc (.cells #[.iface 127 (.pointer (some ⟨w.heap.size, 0, none⟩))] 141)).alloc
    (.cells #[.pointer (some ⟨w.heap.size, 0, none⟩), .pointer (some ⟨w.heap.size + 1, 0, none⟩), .slice none 0 0, .slice none 0 0, .slice none 0 0] 131)

theorem new_any (seed : Nat) (w : World) :
    Calls Yba.prog 7 #[.int .u64 seed] w fun e w' => e = .returned (.pointer (some ⟨w.heap.size + 1 + 1, 0, none⟩)) ∧ w' = withNew w seed := by
  go_enter Yba.func7, Yba.ntmps7
  go_wp2
  go_ret
  exact ⟨rfl, rfl⟩

theorem heap_at (w : World) (o : Obj) (n : Nat) (h : w.heap.size = n) : (w.alloc o).heap[n]? = some o := by
  subst h
  exact (MapKept.heap_alloc w o).1

theorem withNew_old (w : World) (seed b : Nat) (h : b < w.heap.size) : (withNew w seed).heap[b]? = w.heap[b]? := by
  unfold withNew
  rw [Below.heap_alloc _ _ _ (by simp; omega), Below.heap_alloc _ _ _ (by simp; omega), Below.heap_alloc _ _ _ h]

theorem withNew_size (w : World) (seed : Nat) : (withNew w seed).heap.size = w.heap.size + 3 := by
  unfold withNew
  simp

theorem withNew_rng (w : World) (seed : Nat) : RngAt (withNew w seed) (w.heap.size + 1) w.heap.size seed seed := by
  have e0 : (withNew w seed).heap[w.heap.size]? = some (.cells #[.int .u64 seed, .int .u64 seed] 143) := by
    unfold withNew
    rw [Below.heap_alloc _ _ _ (by simp; omega), Below.heap_alloc _ _ _ (by simp)]
    exact heap_at w _ _ rfl
  have e1 : (withNew w seed).heap[w.heap.size + 1]? = some (.cells #[.iface 127 (.pointer (some ⟨w.heap.size, 0, none⟩))] 141) := by
    unfold withNew
    rw [Below.heap_alloc _ _ _ (by simp)]
    exact heap_at _ _ _ (by simp)
  refine ⟨?_, ⟨?_, ?_, ?_, ?_⟩, by omega⟩
  · unfold World.cell?; dsimp only; rw [e1]; rfl
  · unfold World.cell?; dsimp only; rw [e0]; rfl
  · unfold World.cell?; dsimp only; rw [e0]; rfl
  · unfold World.frozen?; dsimp only; rw [e0]; rfl
  · unfold World.frozen?; dsimp only; rw [e0]; rfl

theorem withNew_sched (w : World) (seed : Nat) : (withNew w seed).cell? ⟨w.heap.size + 1 + 1, 1, none⟩ = some (.pointer (some ⟨w.heap.size + 1, 0, none⟩)) := by
  have e2 : (withNew w seed).heap[w.heap.size + 1 + 1]? = some (.cells #[.pointer (some ⟨w.heap.size, 0, none⟩), .pointer (some ⟨w.heap.size + 1, 0, none⟩), .slice none 0 0, .slice none 0 0, .slice none 0 0] 131) := by
    unfold withNew
    exact heap_at _ _ _ (by simp)
  unfold World.cell?; dsimp only; rw [e2]; rfl

theorem withNew_below (w : World) (seed : Nat) : Below w.heap.size w (withNew w seed) := by
  unfold withNew
  exact (((Below.refl _ _).alloc (Nat.le_refl _) _).alloc (by simp) _).alloc (by simp; omega) _
end Go.Proofs.Ybulkaawi
