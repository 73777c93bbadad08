/-
  The proof of 'Rows.LawS1347BLeafSaid': the kit's shell for a law over slices (proof-skeleton.mjs), its lines for a slice of strings added by hand.
-/
import Derived.Test.YbulkaawiRows
import Derived.WalkKit
import Derived.ProofKit
import Derived.OpenShut
import Derived.ShutString
import Derived.ChangeOld
import Derived.Below
import Derived.SliceStrings
import Derived.Test.YbulkaawiLeafB
namespace Go.Proofs.Ybulkaawi.lawS1347BLeaf
open Go.ChangeShapes Go.WideShapes Go.ChangeAt Go.RowKit
open Go.ChangeMaps (open_string shut_string)

theorem own : ownKnob Yba.prog.godebug = none := by kernel_rfl
theorem laidOut : laidOutB Yba.prog = true := by kernel_rfl

/-- What the walk is told of a slice of strings that came in: it is nil; or it leads to a row of 'cap' cells, the strings 'ss'. -/
def IsRow (w : World) (a : Option Addr) (len cap : Nat) (ss : List ByteArray) : Prop :=
  (a = none ∧ len = 0 ∧ cap = 0 ∧ ss = []) ∨
  ∃ x, a = some x ∧ len ≤ cap ∧ ss.length = cap ∧ (∀ i, i < ss.length → w.cell? (x.add i) = some (.string (ss.getD i ByteArray.empty))) ∧ ∀ s ∈ ss, s.size ≤ maxLen

theorem add_none (b off j : Nat) : (⟨b, off, none⟩ : Addr).add j = ⟨b, off + j, none⟩ := by
  by_cases e : j = 0
  · subst e; simp [Addr.add]
  · simp [Addr.add, e]

theorem getD_size {ss : List ByteArray} (h : ∀ s ∈ ss, s.size ≤ maxLen) (j : Nat) : (ss.getD j ByteArray.empty).size ≤ maxLen := by
  rw [List.getD_eq_getElem?_getD]
  cases e : ss[j]? with
  | none => exact Nat.zero_le _
  | some s => exact h s (List.mem_of_getElem? e)

theorem walk (a0 : Option Addr) (len cap : Nat) (ss : List ByteArray) (q : ByteArray) (c m : Bool) (w : World) (h0 : IsRow w a0 len cap ss) (hq : q.size ≤ maxLen) :
    Calls Yba.prog 3 #[.slice a0 len cap, .string q, .bool c, .bool m] w fun e w' => e = .returned (.bool true) ∧ Below w.heap.size w w' := by
  by_cases hov : 1024 < len
  · exact leaf_over a0 len cap q c m w hov
  by_cases hz : len = 0
  · subst hz
    cases c <;> cases m
    · exact leaf_nm0 a0 cap q w
    · exact leaf_nn0 a0 cap q w
    · exact leaf_cm0 a0 cap q w hq
    · exact leaf_cn0 a0 cap q w hq
  · rcases h0 with ⟨_, h, _⟩ | ⟨x, rfl, hl, hn, hcell, hws⟩
    · exact absurd h hz
    · obtain ⟨b, off, spot⟩ := x
      have hc0 := hcell 0 (by omega)
      have hspot : spot = none := by simpa [Addr.add] using World.cell?_spot hc0
      subst hspot
      have hb : b < w.heap.size := by simpa [Addr.add] using World.block_lt_of_cell? w _ hc0
      have hc : ∀ j, j < len → w.cell? ⟨b, off + j, none⟩ = some (.string (ss.getD j ByteArray.empty)) := fun j hj => by rw [← add_none]; exact hcell j (by omega)
      have hsz := getD_size hws
      cases c <;> cases m
      · exact leaf_nm b off len cap ss q w (by omega) (Or.inl hb) hc hsz
      · exact leaf_nn b off len cap ss q w (by omega) (Or.inl hb) hc
      · exact leaf_cm b off len cap ss q w (by omega) (Or.inl hb) hc hsz hq
      · exact leaf_cn b off len cap ss q w (by omega) (Or.inl hb) hc hq

set_option maxRecDepth 100000 in
theorem lifted (os : Os) (started : os.Started) (H : Type) (enc : TypeId × Value → H) :
    ReturnsInHanded {} Yba.checked os 3 .any (Rows.lawS1347BLeafSpec.pre6 enc Yba.prog Yba.f3 Rows.lawS1347BLeafRow.domain false) (Rows.lawS1347BLeafSpec.post enc Yba.prog Yba.f3 false true false false) := by
  refine returnsInHanded_of_change (C := Yba.checked) own started (by kernel_rfl) Yba.func3
    (ChangeSpec.witness6 (enc := enc) (C := Yba.checked) false ⟨#[], #[.slice none 0 0, .string ByteArray.empty, .bool false, .bool false], []⟩ 8 (by kernel_rfl) (by kernel_rfl) (by kernel_rfl) (by kernel_rfl)) ?_
  intro W base args ds gs before hval0 hW hcnd _
  have hval : ∀ (j : Nat) t v, Yba.f3.params[j]? = some t → args[j]? = some v → Value.okWide Yba.prog W .any base t v := hval0
  have hW' := hW
  obtain ⟨p, q, hA0, hV, rfl, hfz, hnd⟩ := hW
  have hA : DataW.TrodAll enc Yba.prog W 0 (fun _ => true) true Yba.f3.params.toList args.toList ds p := hA0
  rw [Yba.params3] at hA hval
  obtain ⟨v0, vs0, d0, ds0, p0, q0, hargs, rfl, rfl, h0, r0⟩ := trodAll_cons hA
  obtain ⟨v1, vs1, d1, ds1, p1, q1, rfl, rfl, rfl, h1, r1⟩ := trodAll_cons r0
  obtain ⟨v2, vs2, d2, ds2, p2, q2, rfl, rfl, rfl, h2, r2⟩ := trodAll_cons r1
  obtain ⟨v3, vs3, d3, ds3, p3, q3, rfl, rfl, rfl, h3, r3⟩ := trodAll_cons r2
  obtain ⟨rfl, rfl, rfl⟩ := trodAll_nil r3
  obtain rfl : args = #[v0, v1, v2, v3] := by cases args; simp_all
  obtain ⟨rfl, rfl⟩ := trodVars_none hV
  obtain ⟨a0, len0, cap0, rfl⟩ := okWide_slice Yba.underlying22 (hval 0 22 v0 rfl rfl)
  have k0 := h0
  have lt0 : ∀ x ∈ p0, x.block < W.heap.size := by obtain ⟨m, hm⟩ := k0; exact DataW.trod_lt m _ _ _ hm
  obtain ⟨z0, w0⟩ : ∃ zs, IsRow W a0 len0 cap0 zs := by
    obtain ⟨fuel, hf⟩ := h0
    rcases open_strings Yba.underlying22 Yba.underlying9 (by kernel_rfl) hf with ⟨hcs, _⟩ | ⟨x, l, c, zs, hcs, _, hl, hm, hz, _, hcell, hwz⟩
    · simp [Value.cells] at hcs
      obtain ⟨rfl, rfl, rfl⟩ := hcs
      exact ⟨[], .inl ⟨rfl, rfl, rfl, rfl⟩⟩
    · simp [Value.cells] at hcs
      obtain ⟨rfl, rfl, rfl⟩ := hcs
      exact ⟨zs, .inr ⟨_, rfl, hl, by simpa using hz, hcell, hwz⟩⟩
  obtain ⟨a1, rfl, rfl, rfl, w1⟩ := open_string Yba.underlying9 (hval 1 9 v1 rfl rfl) h1
  obtain ⟨a2, rfl, rfl, rfl⟩ := open_bool Yba.underlying4 (hval 2 4 v2 rfl rfl) h2
  obtain ⟨a3, rfl, rfl, rfl⟩ := open_bool Yba.underlying4 (hval 3 4 v3 rfl rfl) h3
  clear hA0 hval0
  refine (walk a0 len0 cap0 z0 a1 a2 a3 W w0 w1).mono fun e W' ⟨he, bel⟩ => ?_
  subst he
  exact ⟨_, rfl, _, _, _, [], _, [], hW', trodAll_mk1 (shut_bool Yba.underlying4 _), (trodAll_cons_mk (Below.trod laidOut (by kernel_rfl) (of_decide_eq_true (by kernel_rfl)) k0 bel lt0) (trodAll_cons_mk (shut_string Yba.underlying9 w1) (trodAll_cons_mk (shut_bool Yba.underlying4 _) (trodAll_cons_mk (shut_bool Yba.underlying4 _) trodAll_mk0)))), rfl, bel.frame _, fun h => by cases h⟩

theorem over : Rows.lawS1347BLeafRow.holds Yba.pinned (OpenSpec.ofChange Rows.lawS1347BLeafSpec) :=
  OpenClaim.holds_of_wide 3 Yba.f3 rfl rfl rfl rfl rfl rfl rfl ⟨rfl, rfl, rfl, rfl, rfl⟩ rfl rfl rfl rfl rfl (by kernel_rfl) Yba.func3 (by kernel_rfl)
    (of_decide_eq_true (by kernel_rfl)) (by unfold Func.isWrapper; first | (rw [if_pos (by decide +kernel)]; kernel_rfl) | (rw [if_neg (by decide +kernel)]; exact ⟨rfl, rfl⟩))
    (fun os started H enc _ => lifted os started H enc)

/-- THE STATEMENT -/
theorem proved : Rows.LawS1347BLeafSaid :=
  over
#print axioms proved
end Go.Proofs.Ybulkaawi.lawS1347BLeaf
