/-
  The walk of (*Class).leaf.
-/
import Derived.Test.YbulkaawiProg
import Derived.WalkKit
import Derived.WalkSpells
import Derived.WalkLawsBesides
import Derived.Maps.OwnOps
import Derived.Maps.OwnSet
import Derived.BigQuiet
import Derived.Deep.QuietTactic
namespace Go.Proofs.Ybulkaawi
open Go.RowKit Go.Maps

theorem leaf_none (K : Nat) (w : World) (h5 : w.cell? ⟨K, 6, none⟩ = some (.pointer none)) :
    Calls Yba.prog 5 #[.pointer (some ⟨K, 0, none⟩)] w fun e w' => e = .returned (.pointer none) ∧ w = w' := by
  go_enter Yba.func5, Yba.ntmps5
  go_wp2
  go_ret
  exact ⟨rfl, rfl⟩

theorem leaf_some (K C : Nat) (m v : Value) (q : ByteArray) (w : World) (h5 : w.cell? ⟨K, 6, none⟩ = some (.pointer (some ⟨C, 0, none⟩))) (h0 : w.cell? ⟨K, 0, none⟩ = some (.string q))
    (h9 : w.cell? ⟨C, 12, none⟩ = some m) (hl : ∀ nq, (Instr.lookup 24 m (.string q) false).run Yba.prog (w.drewN nq) = .ok v (w.drewN nq)) :
    Calls Yba.prog 5 #[.pointer (some ⟨K, 0, none⟩)] w fun e w' => e = .returned v ∧ ∃ n, w' = w.drewN n := by
  go_enter Yba.func5, Yba.ntmps5
  go_wp2
  go_quiet (fail)
  go_wp2
  go_ret
  exact ⟨rfl, _, rfl⟩
end Go.Proofs.Ybulkaawi
