/-
  The generator: (*PCG).next, (*PCG).Uint64, (*Rand).Uint64.
-/
import Derived.Test.YbulkaawiRngA
import Derived.Test.YbulkaawiLcg
import Derived.BigQuiet
import Derived.Deep.QuietTactic
namespace Go.Proofs.Ybulkaawi
open Go.RowKit

theorem hide' {p : Prop} (h : p) : Hid p := h

/-- The two halves of the generator's state, in memory. -/
def PcgAt (w : World) (pc hi lo : Nat) : Prop :=
  w.cell? ⟨pc, 0, none⟩ = some (.int .u64 hi) ∧ w.cell? ⟨pc, 1, none⟩ = some (.int .u64 lo) ∧ w.frozen? ⟨pc, 0, none⟩ = false ∧ w.frozen? ⟨pc, 1, none⟩ = false

/-- The world w' is w but for the generator's state, which is hi, lo now. -/
def Rolled (pc : Nat) (w w' : World) (hi lo : Nat) : Prop :=
  w'.os = w.os ∧ w'.tape = w.tape ∧ w'.output = w.output ∧ w'.heap.size = w.heap.size ∧ (∀ b, b ≠ pc → w'.heap[b]? = w.heap[b]?) ∧ PcgAt w' pc hi lo

theorem Rolled.trans {pc : Nat} {w w1 w2 : World} {h l h' l' : Nat} (a : Rolled pc w w1 h l) (b : Rolled pc w1 w2 h' l') : Rolled pc w w2 h' l' :=
  ⟨b.1.trans a.1, b.2.1.trans a.2.1, b.2.2.1.trans a.2.2.1, b.2.2.2.1.trans a.2.2.2.1, fun r hr => (b.2.2.2.2.1 r hr).trans (a.2.2.2.2.1 r hr), b.2.2.2.2.2⟩

theorem rolled_store {pc hi lo : Nat} {w : World} (n hi' lo' : Nat) (h : PcgAt w pc hi lo) :
    Rolled pc w (((w.setCell ⟨pc, 1, none⟩ (.int .u64 lo')).setCell ⟨pc, 0, none⟩ (.int .u64 hi')).drewN n) hi' lo' := by
  obtain ⟨c0, c1, f0, f1⟩ := h
  have e0 : (w.setCell ⟨pc, 1, none⟩ (.int .u64 lo')).cell? ⟨pc, 0, none⟩ = some (.int .u64 hi) := by
    rw [World.cell?_setCell_other]
    · exact c0
    · intro e; injection e with _ e _; omega
  refine ⟨rfl, rfl, rfl, by simp [World.setCell], fun b hb => ?_, ?_, ?_, ?_, ?_⟩
  · show ((w.setCell ⟨pc, 1, none⟩ (.int .u64 lo')).setCell ⟨pc, 0, none⟩ (.int .u64 hi')).heap[b]? = _
    rw [Below.heap_setCell _ _ _ _ hb, Below.heap_setCell _ _ _ _ hb]
  · exact World.cell?_setCell_same _ ⟨pc, 0, none⟩ _ e0
  · show ((w.setCell ⟨pc, 1, none⟩ (.int .u64 lo')).setCell ⟨pc, 0, none⟩ (.int .u64 hi')).cell? ⟨pc, 1, none⟩ = _
    rw [World.cell?_setCell_other]
    · exact World.cell?_setCell_same _ ⟨pc, 1, none⟩ _ c1
    · intro e; injection e with _ e _; omega
  · show ((w.setCell ⟨pc, 1, none⟩ (.int .u64 lo')).setCell ⟨pc, 0, none⟩ (.int .u64 hi')).frozen? ⟨pc, 0, none⟩ = _
    rw [World.frozen?_setCell, World.frozen?_setCell]; exact f0
  · show ((w.setCell ⟨pc, 1, none⟩ (.int .u64 lo')).setCell ⟨pc, 0, none⟩ (.int .u64 hi')).frozen? ⟨pc, 1, none⟩ = _
    rw [World.frozen?_setCell, World.frozen?_setCell]; exact f1

set_option maxHeartbeats 400000 in
theorem next_walk (pc hi lo h1 l1 h3 l2 c h2 d : Nat) (w : World) (h : PcgAt w pc hi lo)
    (H15 : Hid (∀ w, Calls Yba.prog 15 #[.int .u64 lo, .int .u64 4865540595714422341] w fun e w' => e = .returned (.tuple #[.int .u64 h1, .int .u64 l1]) ∧ w = w'))
    (eE : IntKind.u64.wrap (↑h1 + IntKind.u64.wrap (IntKind.u64.wrap (↑hi * 4865540595714422341) + IntKind.u64.wrap (↑lo * 2549297995355413924))) = (h3 : Int))
    (A1 : ∀ w, (callFunc 53 #[.int .u64 l1, .int .u64 1442695040888963407, .int .u64 0]).run Yba.prog w = .ok (.value (.tuple #[.int .u64 l2, .int .u64 c])) w)
    (A2 : ∀ w, (callFunc 53 #[.int .u64 h3, .int .u64 6364136223846793005, .int .u64 c]).run Yba.prog w = .ok (.value (.tuple #[.int .u64 h2, .int .u64 d])) w) :
    Calls Yba.prog 52 #[.pointer (some ⟨pc, 0, none⟩)] w fun e w' => e = .returned (.tuple #[.int .u64 h2, .int .u64 l2]) ∧ Rolled pc w w' h2 l2 := by
  have hR := hide' (fun n => rolled_store n h2 l2 h)
  obtain ⟨c0, c1, f0, f1⟩ := h
  go_enter Yba.func52, Yba.ntmps52
  go_wp2_with (go_at_call 15; refine (H15.out _).mono ?_; rintro e w' ⟨rfl, rfl⟩)
  go_quiet (fail)
  go_wp2
  go_ret2
  exact ⟨rfl, hR.out _⟩

open Lcg

theorem tup2 {a b c d : Int} (w : World) (h1 : a = c) (h2 : b = d) : (Result.ok (Next.value (.tuple #[.int .u64 a, .int .u64 b])) w) = .ok (.value (.tuple #[.int .u64 c, .int .u64 d])) w := by rw [h1, h2]

theorem next_any (pc hi lo : Nat) (hlo : lo < 18446744073709551616) (w : World) (h : PcgAt w pc hi lo) :
    Calls Yba.prog 52 #[.pointer (some ⟨pc, 0, none⟩)] w fun e w' => e = .returned (.tuple #[.int .u64 (nxH hi lo), .int .u64 (nxL hi lo)]) ∧ Rolled pc w w' (nxH hi lo) (nxL hi lo) := by
  obtain ⟨eL, eH⟩ := nx_eq hi lo
  obtain ⟨h1, q1⟩ : ∃ x, x = lo * 4865540595714422341 / 18446744073709551616 := ⟨_, rfl⟩
  obtain ⟨l1, q2⟩ : ∃ x, x = lo * 4865540595714422341 % 18446744073709551616 := ⟨_, rfl⟩
  obtain ⟨h3, q3⟩ : ∃ x, x = (h1 + (hi * 4865540595714422341 % 18446744073709551616 + lo * 2549297995355413924 % 18446744073709551616) % 18446744073709551616) % 18446744073709551616 := ⟨_, rfl⟩
  obtain ⟨c, q4⟩ : ∃ x, x = (l1 + 1442695040888963407) / 18446744073709551616 := ⟨_, rfl⟩
  obtain ⟨d, q5⟩ : ∃ x, x = (h3 + 6364136223846793005 + c) / 18446744073709551616 := ⟨_, rfl⟩
  rw [← q1, ← q2, ← q3, ← q4] at eH
  rw [← q2] at eL
  refine next_walk pc hi lo h1 l1 h3 (nxL hi lo) c (nxH hi lo) d w h (fun w => ?_) ?_ (fun w => ?_) (fun w => ?_)
  · rw [q1, q2]
    exact mul64_any lo 4865540595714422341 hlo (by decide) w
  · simp only [IntKind.wrap_u64]
    omega
  · rw [call_add64 _ _ _ (by omega) (by omega) (by omega) (by omega)]
    exact tup2 w (by omega) (by omega)
  · rw [call_add64 _ _ _ (by omega) (by omega) (by omega) (by omega)]
    exact tup2 w (by omega) (by omega)

theorem pcg_walk (pc h l a b c d x : Nat) (w : World) (H : Hid (Calls Yba.prog 52 #[.pointer (some ⟨pc, 0, none⟩)] w fun e w' => e = .returned (.tuple #[.int .u64 h, .int .u64 l]) ∧ Rolled pc w w' h l))
    (e1 : bits .xor .u64 (h : Int) ((h : Int) / 4294967296) = (a : Int)) (e2 : IntKind.u64.wrap ((a : Int) * 15750249268501108917) = (b : Int)) (e3 : bits .xor .u64 (b : Int) ((b : Int) / 281474976710656) = (c : Int))
    (e4 : bits .or .u64 (l : Int) 1 = (d : Int)) (e5 : IntKind.u64.wrap ((c : Int) * (d : Int)) = (x : Int)) :
    Calls Yba.prog 51 #[.pointer (some ⟨pc, 0, none⟩)] w fun e w' => e = .returned (.int .u64 x) ∧ Rolled pc w w' h l := by
  go_enter Yba.func51, Yba.ntmps51
  go_wp2_with (go_at_call 52; refine (H.out).mono ?_; rintro e w' ⟨rfl, hr⟩)
  have hR := hide' hr
  clear hr
  go_wp2
  go_ret
  exact ⟨rfl, hR.out⟩

theorem method_uint64 (a : Addr) (w : World) : (method 455 127 (.pointer (some a)) "Uint64").run Yba.prog w = .ok (51, .pointer (some a)) w := by kernel_rfl

theorem rand_walk (pc rr h l x : Nat) (w : World) (hrr : w.cell? ⟨rr, 0, none⟩ = some (.iface 127 (.pointer (some ⟨pc, 0, none⟩)))) (H : Hid (Calls Yba.prog 51 #[.pointer (some ⟨pc, 0, none⟩)] w fun e w' => e = .returned (.int .u64 x) ∧ Rolled pc w w' h l)) :
    Calls Yba.prog 10 #[.pointer (some ⟨rr, 0, none⟩)] w fun e w' => e = .returned (.int .u64 x) ∧ Rolled pc w w' h l := by
  have hm := fun w => method_uint64 ⟨pc, 0, none⟩ w
  go_enter Yba.func10, Yba.ntmps10
  go_wp2_with (go_at_call 51; refine (H.out).mono ?_; rintro e w' ⟨rfl, hr⟩)
  have hR := hide' hr
  clear hr
  go_wp2
  go_ret
  exact ⟨rfl, hR.out⟩

/-- The generator in memory: a Rand over it. -/
def RngAt (w : World) (rr pc hi lo : Nat) : Prop := w.cell? ⟨rr, 0, none⟩ = some (.iface 127 (.pointer (some ⟨pc, 0, none⟩))) ∧ PcgAt w pc hi lo ∧ rr ≠ pc

theorem xorN (a b : Nat) (ha : a < 18446744073709551616) (hb : b < 18446744073709551616) : bits .xor .u64 (a : Int) (b : Int) = ((a ^^^ b : Nat) : Int) := u64_xor_nat a b ha hb

/-- (*Rand).Uint64: one number, one step. -/
theorem draw_any (rr pc hi lo : Nat) (hlo : lo < 18446744073709551616) (w : World) (h : RngAt w rr pc hi lo) :
    Calls Yba.prog 10 #[.pointer (some ⟨rr, 0, none⟩)] w fun e w' => e = .returned (.int .u64 (outp (nxH hi lo) (nxL hi lo))) ∧ Rolled pc w w' (nxH hi lo) (nxL hi lo) := by
  obtain ⟨hrr, hp, _⟩ := h
  have H := next_any pc hi lo hlo w hp
  have bH := nxH_lt hi lo
  have bL := nxL_lt hi lo
  generalize nxH hi lo = h at H bH ⊢
  generalize nxL hi lo = l at H bL ⊢
  obtain ⟨a, qa⟩ : ∃ a, a = h ^^^ h / 4294967296 := ⟨_, rfl⟩
  obtain ⟨b, qb⟩ : ∃ b, b = a * 15750249268501108917 % 18446744073709551616 := ⟨_, rfl⟩
  obtain ⟨c, qc⟩ : ∃ c, c = b ^^^ b / 281474976710656 := ⟨_, rfl⟩
  have hx : outp h l = c * (l ||| 1) % 18446744073709551616 := by rw [qc, qb, qa]; rfl
  have bb : b < 18446744073709551616 := by rw [qb]; exact Nat.mod_lt _ (by decide)
  refine rand_walk pc rr h l _ w hrr (pcg_walk pc h l a b c (l ||| 1) _ w H ?_ ?_ ?_ ?_ ?_)
  · have e : (h : Int) / 4294967296 = ((h / 4294967296 : Nat) : Int) := by omega
    rw [e, qa]
    exact xorN _ _ bH (by omega)
  · rw [IntKind.wrap_u64]; omega
  · have e : (b : Int) / 281474976710656 = ((b / 281474976710656 : Nat) : Int) := by omega
    rw [e, qc]
    exact xorN _ _ bb (by omega)
  · exact u64_or_nat l 1 bL (by decide)
  · rw [IntKind.wrap_u64, ← Int.natCast_mul, hx]
    omega
end Go.Proofs.Ybulkaawi
