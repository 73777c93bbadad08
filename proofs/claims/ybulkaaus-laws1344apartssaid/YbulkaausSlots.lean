/-
  The leaves: (*node).slot, and (*atomic.Pointer).Store, Load over the model's own entries for sync/atomic.
-/
import Derived.Test.YbulkaausProg
import Derived.WalkKit
import Derived.WalkSpells
import Derived.WalkLawsBesides
namespace Go.Proofs.Ybulkaaus
open Go.RowKit

/-- The slot that the hash h picks at the level of shift s. -/
def idx (h s : Nat) : Nat := h / 2 ^ s % 32

theorem idx_lt (h s : Nat) : idx h s < 32 := Nat.mod_lt _ (by decide)

theorem and31 (h s : Nat) (hh : h < 18446744073709551616) : bits .and .u64 ((h : Int) / 2 ^ s) 31 = (idx h s : Int) := by
  have e : ((h : Int) / 2 ^ s) = ((h / 2 ^ s : Nat) : Int) := by simp
  have hl : h / 2 ^ s < 18446744073709551616 := Nat.lt_of_le_of_lt (Nat.div_le_self _ _) hh
  rw [e, show (31 : Int) = ((31 : Nat) : Int) from rfl, u64_and_nat _ _ hl (by decide)]
  unfold idx
  rw [show (31 : Nat) = 2 ^ 5 - 1 from rfl, Nat.and_two_pow_sub_one_eq_mod]

theorem ret_ptr {a b : Option Addr} (h : a = b) : Ending.returned (.pointer a) = .returned (.pointer b) := by rw [h]

theorem slot_any (n h s : Nat) (hh : h < 18446744073709551616) (hs : s < 64) (w : World) :
    Calls Yba.prog 6 #[.pointer (some ⟨n, 0, none⟩), .int .u64 h, .int .u64 s] w fun e w' => e = .returned (.pointer (some ⟨n, idx h s, none⟩)) ∧ w = w' := by
  have e := and31 h s hh
  have hi := idx_lt h s
  go_enter Yba.func6, Yba.ntmps6
  go_wp2
  go_ret
  exact ⟨rfl, rfl⟩

/-- A pointer to a cell of the trie, turned into a bare one. -/
theorem to_bare (c : Nat) (v : Value) (w : World) (hc : w.cell? ⟨c, 0, none⟩ = some v) : (convert 24 34 (.pointer (some ⟨c, 0, none⟩))).run Yba.prog w = .ok (.pointer (some ⟨c, 0, none⟩)) w := by
  obtain ⟨e, n, hsh, hlt, _⟩ := World.shape?_of_cell? hc
  have hge : n ≠ 0 := by simp only at hlt; omega
  obtain ⟨i, hi, hz⟩ : ∃ i, Yba.prog.info? 27 = some i ∧ i.size ≠ 0 := ⟨_, rfl, by decide⟩
  simp only [convert, run_underlying Yba.underlying24, run_underlying Yba.underlying34, Sem.run_bind, Result.andThen]
  change Sem.run Yba.prog (_ >>= _) w = _
  simp [Conv.seenAt, viewAt, cellsIn, sizeOf, typeInfo, run_underlying Yba.underlying24, run_underlying Yba.underlying34, hi, hz, hsh, hge, Result.andThen]

/-- And back. -/
theorem of_bare (c : Nat) (w : World) (hc : w.shape? c = some (27, 4)) : (convert 34 24 (.pointer (some ⟨c, 0, none⟩))).run Yba.prog w = .ok (.pointer (some ⟨c, 0, none⟩)) w := by
  have hl : liesAt Yba.prog Yba.prog.depth 27 (4 / Yba.prog.cellsOf 27) 0 27 1 = true := by kernel_rfl
  obtain ⟨i, hi, hz⟩ : ∃ i, Yba.prog.info? 27 = some i ∧ i.size ≠ 0 := ⟨_, rfl, by decide⟩
  simp only [convert, run_underlying Yba.underlying24, run_underlying Yba.underlying34, Sem.run_bind, Result.andThen]
  change Sem.run Yba.prog (_ >>= _) w = _
  simp [Conv.seenAt, viewAt, variablesAt, sizeOf, typeInfo, run_underlying Yba.underlying24, run_underlying Yba.underlying34, hc, hi, hz, hl, Result.andThen]

theorem of_nil (w : World) : (convert 34 24 (.pointer none)).run Yba.prog w = .ok (.pointer none) w := by
  simp only [convert, run_underlying Yba.underlying24, run_underlying Yba.underlying34, Sem.run_bind, Result.andThen]
  change Sem.run Yba.prog (_ >>= _) w = _
  simp [run_underlying Yba.underlying24, run_underlying Yba.underlying34, Result.andThen]

theorem call_store (a : Addr) (p : Option Addr) (u : Value) (w : World) (hc : w.cell? a = some u) (hz : w.frozen? a = false) :
    (callFunc 9 #[.pointer (some a), .pointer p]).run Yba.prog w = .ok (.value (.tuple #[])) (w.setCell a (.pointer p)) := by
  rw [run_callFunc_extern Yba.func9 (by kernel_rfl) (by kernel_rfl) (by kernel_rfl) (show Extern.find Yba.f9 = some Extern.Atomic.storeT by kernel_rfl)]
  change (Sem.run Yba.prog (do
    store (← asAddr (.pointer (some a))) (.pointer p) .atomic
    pure Extern.Atomic.none_) w).andThen _ = _
  simp [asAddr, hc, hz, run_store Yba.prog w a (.pointer p) .atomic rfl, Result.andThen, Extern.Atomic.none_]

theorem call_load (a : Addr) (p : Option Addr) (w : World) (hc : w.cell? a = some (.pointer p)) :
    (callFunc 10 #[.pointer (some a)]).run Yba.prog w = .ok (.value (.pointer p)) w := by
  rw [run_callFunc_extern Yba.func10 (by kernel_rfl) (by kernel_rfl) (by kernel_rfl) (show Extern.find Yba.f10 = some (Extern.Atomic.loadT .ptr) by kernel_rfl)]
  change (Sem.run Yba.prog (do Extern.Atomic.read .ptr (← asAddr (.pointer (some a)))) w).andThen _ = _
  simp [Extern.Atomic.read, asAddr, hc, Result.andThen]

theorem store_any (n i c : Nat) (u v : Value) (w : World) (hc : w.cell? ⟨n, i, none⟩ = some u) (hz : w.frozen? ⟨n, i, none⟩ = false) (hv : w.cell? ⟨c, 0, none⟩ = some v) :
    Calls Yba.prog 7 #[.pointer (some ⟨n, i, none⟩), .pointer (some ⟨c, 0, none⟩)] w fun e w' => e = .returned (.tuple #[]) ∧ w.setCell ⟨n, i, none⟩ (.pointer (some ⟨c, 0, none⟩)) = w' := by
  have h1 := to_bare c v w hv
  have h2 := call_store ⟨n, i, none⟩ (some ⟨c, 0, none⟩) u w hc hz
  go_enter Yba.func7, Yba.ntmps7
  go_wp2
  go_end0
  exact ⟨rfl, rfl⟩

theorem load_some (n i c : Nat) (w : World) (hc : w.cell? ⟨n, i, none⟩ = some (.pointer (some ⟨c, 0, none⟩))) (hv : w.shape? c = some (27, 4)) :
    Calls Yba.prog 8 #[.pointer (some ⟨n, i, none⟩)] w fun e w' => e = .returned (.pointer (some ⟨c, 0, none⟩)) ∧ w = w' := by
  have h1 := of_bare c w hv
  have h2 := call_load ⟨n, i, none⟩ (some ⟨c, 0, none⟩) w hc
  go_enter Yba.func8, Yba.ntmps8
  go_wp2
  go_ret
  exact ⟨rfl, rfl⟩

theorem load_nil (n i : Nat) (w : World) (hc : w.cell? ⟨n, i, none⟩ = some (.pointer none)) :
    Calls Yba.prog 8 #[.pointer (some ⟨n, i, none⟩)] w fun e w' => e = .returned (.pointer none) ∧ w = w' := by
  have h1 := of_nil w
  have h2 := call_load ⟨n, i, none⟩ none w hc
  go_enter Yba.func8, Yba.ntmps8
  go_wp2
  go_ret
  exact ⟨rfl, rfl⟩
end Go.Proofs.Ybulkaaus
