/-
  LawS1347CPicks at every input.
-/
import Derived.Test.YbulkaawiPicksW
namespace Go.Proofs.Ybulkaawi
open Go.RowKit

theorem below_boxed (w : World) (o : Obj) : Below w.heap.size w (w.alloc o) := (Below.refl _ _).alloc (Nat.le_refl _) _

theorem picks_over (seed len cap klen kcap : Nat) (cv kv : Option Addr) (w : World) (h : 1024 < len) :
    Calls Yba.prog 4 #[.int .u64 seed, .slice cv len cap, .slice kv klen kcap] w fun e w' => e = .returned (.bool true) ∧ Below w.heap.size w w' := by
  have HB := hide' (below_boxed w (.cells #[.slice kv klen kcap] 71))
  go_enter Yba.func4, Yba.ntmps4
  go_wp2_with fail
  go_ret
  exact ⟨rfl, HB.out⟩

theorem picks_over2 (seed len cap klen kcap : Nat) (cv kv : Option Addr) (w : World) (h0 : len ≤ 1024) (h : 1024 < klen) :
    Calls Yba.prog 4 #[.int .u64 seed, .slice cv len cap, .slice kv klen kcap] w fun e w' => e = .returned (.bool true) ∧ Below w.heap.size w w' := by
  have HB := hide' (below_boxed w (.cells #[.slice kv klen kcap] 71))
  go_enter Yba.func4, Yba.ntmps4
  go_wp2_with fail
  go_ret
  exact ⟨rfl, HB.out⟩

theorem picks_all (seed len cap b off klen kcap kb koff : Nat) (cv kv : Option Addr) (zs : List Int) (ks : List Bool) (w : World) (hseed : seed < 18446744073709551616) (hz : zs.length = len)
    (hc : ArgAt w cv len b off zs) (hkc : ∀ j, j < klen → kv = some ⟨kb, koff, none⟩ ∧ w.cell? ⟨kb, koff + j, none⟩ = some (.bool (ks.getD j false))) :
    Calls Yba.prog 4 #[.int .u64 seed, .slice cv len cap, .slice kv klen kcap] w fun e w' => e = .returned (.bool true) ∧ Below w.heap.size w w' := by
  by_cases h1 : 1024 < len
  · exact picks_over seed len cap klen kcap cv kv w h1
  by_cases h2 : 1024 < klen
  · exact picks_over2 seed len cap klen kcap cv kv w (by omega) h2
  have hE := E_le zs (kp klen ks) len
  by_cases hm : (E zs (kp klen ks) len).length = 0
  · exact picks_any seed len cap b off klen kcap kb koff 0 0 0 cv kv zs ks w hseed hz (by omega) (by omega) hc hkc (fun h => absurd hm h)
  · obtain ⟨r, h', l', hr, hh, hl, H⟩ := intn_is (E zs (kp klen ks) len).length seed seed (by omega) (by omega) hseed
    exact picks_any seed len cap b off klen kcap kb koff r h' l' cv kv zs ks w hseed hz (by omega) (by omega) hc hkc (fun _ => ⟨hr, ⟨hh, hl⟩, H⟩)
end Go.Proofs.Ybulkaawi
