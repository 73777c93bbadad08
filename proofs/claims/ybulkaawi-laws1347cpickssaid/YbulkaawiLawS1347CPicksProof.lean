/-
  The proof of 'Rows.LawS1347CPicksSaid': the kit's shell for a law over slices (proof-skeleton.mjs), its lines for a number, a slice of numbers and a slice of bools put in by hand.
-/
import Derived.Test.YbulkaawiRows
import Derived.WalkKit
import Derived.ProofKit
import Derived.OpenShut
import Derived.ChangeOld
import Derived.Below
import Derived.ChangeSlices
import Derived.Deep.Grids
import Derived.Test.YbulkaawiPicksO
namespace Go.Proofs.Ybulkaawi.lawS1347CPicks
open Go.ChangeShapes Go.WideShapes Go.ChangeAt Go.RowKit

theorem own : ownKnob Yba.prog.godebug = none := by kernel_rfl
theorem laidOut : laidOutB Yba.prog = true := by kernel_rfl

/-- A slice of numbers that came in, as the walk asks for it. -/
theorem arg_of {W : World} {x : Addr} {len : Nat} {zs : List Int} (hl : len ≤ zs.length) (hcell : ∀ i, i < zs.length → W.cell? (x.add i) = some (.int .i64 (zs.getD i 0))) :
    ∃ b off ys, ys.length = len ∧ ArgAt W (some x) len b off ys := by
  by_cases hz : len = 0
  · exact ⟨0, 0, [], hz.symm, fun j hj => absurd hj (by omega)⟩
  · obtain ⟨b, off, spot⟩ := x
    have hspot : spot = none := by simpa [Addr.add] using World.cell?_spot (hcell 0 (by omega))
    subst hspot
    refine ⟨b, off, zs.take len, by simp; omega, fun j hj => ⟨rfl, ?_⟩⟩
    rw [← add_none, hcell j (by omega)]
    simp [List.getD_eq_getElem?_getD, hj]

/-- A slice of bools that came in. -/
theorem keep_of {W : World} {x : Addr} {len cap : Nat} {B : Nat → Bool} (hl : len ≤ cap) (hcell : ∀ i, i < cap → W.cell? (x.add i) = some (.bool (B i))) :
    ∃ b off ks, ∀ j, j < len → some x = some (⟨b, off, none⟩ : Addr) ∧ W.cell? ⟨b, off + j, none⟩ = some (.bool (List.getD ks j false)) := by
  by_cases hz : len = 0
  · exact ⟨0, 0, [], fun j hj => absurd hj (by omega)⟩
  · obtain ⟨b, off, spot⟩ := x
    have hspot : spot = none := by simpa [Addr.add] using World.cell?_spot (hcell 0 (by omega))
    subst hspot
    refine ⟨b, off, (List.range len).map B, fun j hj => ⟨rfl, ?_⟩⟩
    rw [← add_none, hcell j (by omega)]
    simp [List.getD_eq_getElem?_getD, hj]

set_option maxRecDepth 100000 in
theorem lifted (os : Os) (started : os.Started) (H : Type) (enc : TypeId × Value → H) :
    ReturnsInHanded {} Yba.checked os 4 .any (Rows.lawS1347CPicksSpec.pre6 enc Yba.prog Yba.f4 Rows.lawS1347CPicksRow.domain false) (Rows.lawS1347CPicksSpec.post enc Yba.prog Yba.f4 false true false false) := by
  refine returnsInHanded_of_change (C := Yba.checked) own started (by kernel_rfl) Yba.func4
    (ChangeSpec.witness6 (enc := enc) (C := Yba.checked) false ⟨#[], #[.int .u64 0, .slice none 0 0, .slice none 0 0], []⟩ 8 (by kernel_rfl) (by kernel_rfl) (by kernel_rfl) (by kernel_rfl)) ?_
  intro W base args ds gs before hval0 hW hcnd _
  have hval : ∀ (j : Nat) t v, Yba.f4.params[j]? = some t → args[j]? = some v → Value.okWide Yba.prog W .any base t v := hval0
  have hW' := hW
  obtain ⟨p, q, hA0, hV, rfl, hfz, hnd⟩ := hW
  have hA : DataW.TrodAll enc Yba.prog W 0 (fun _ => true) true Yba.f4.params.toList args.toList ds p := hA0
  rw [Yba.params4] at hA hval
  obtain ⟨v0, vs0, d0, ds0, p0, q0, hargs, rfl, rfl, h0, r0⟩ := trodAll_cons hA
  obtain ⟨v1, vs1, d1, ds1, p1, q1, rfl, rfl, rfl, h1, r1⟩ := trodAll_cons r0
  obtain ⟨v2, vs2, d2, ds2, p2, q2, rfl, rfl, rfl, h2, r2⟩ := trodAll_cons r1
  obtain ⟨rfl, rfl, rfl⟩ := trodAll_nil r2
  obtain rfl : args = #[v0, v1, v2] := by cases args; simp_all
  obtain ⟨rfl, rfl⟩ := trodVars_none hV
  obtain ⟨a1, len1, cap1, rfl⟩ := okWide_slice Yba.underlying96 (hval 1 96 v1 rfl rfl)
  obtain ⟨a2, len2, cap2, rfl⟩ := okWide_slice Yba.underlying71 (hval 2 71 v2 rfl rfl)
  obtain ⟨a0, rfl, rfl, rfl, w0⟩ := open_int Yba.underlying46 (hval 0 46 v0 rfl rfl) h0
  have k1 := h1
  have k2 := h2
  have lt1 : ∀ x ∈ p1, x.block < W.heap.size := by obtain ⟨m, hm⟩ := k1; exact DataW.trod_lt m _ _ _ hm
  have lt2 : ∀ x ∈ p2, x.block < W.heap.size := by obtain ⟨m, hm⟩ := k2; exact DataW.trod_lt m _ _ _ hm
  obtain ⟨b, off, zs, hz, hc⟩ : ∃ b off ys, ys.length = len1 ∧ ArgAt W a1 len1 b off ys := by
    obtain ⟨fuel, hf⟩ := h1
    rcases open_ints Yba.underlying96 Yba.underlying3 (by kernel_rfl) hf with ⟨hcs, _⟩ | ⟨x, l, c, zs, hcs, _, hl, hm, hz, _, hcell, hwz⟩
    · simp [Value.cells] at hcs
      obtain ⟨rfl, rfl, rfl⟩ := hcs
      exact ⟨0, 0, [], rfl, fun j hj => absurd hj (by omega)⟩
    · simp [Value.cells] at hcs
      obtain ⟨rfl, rfl, rfl⟩ := hcs
      exact arg_of (by simp at hz; omega) hcell
  obtain ⟨kb, koff, ks, hk⟩ : ∃ b off ks, ∀ j, j < len2 → a2 = some (⟨b, off, none⟩ : Addr) ∧ W.cell? ⟨b, off + j, none⟩ = some (.bool (List.getD ks j false)) := by
    obtain ⟨fuel, hf⟩ := h2
    rcases Go.Deep.open_bools Yba.underlying71 Yba.underlying4 (by kernel_rfl) hf with ⟨hcs, _⟩ | ⟨x, l, c, B, hcs, _, hl, hm, _, hcell⟩
    · simp [Value.cells] at hcs
      obtain ⟨rfl, rfl, rfl⟩ := hcs
      exact ⟨0, 0, [], fun j hj => absurd hj (by omega)⟩
    · simp [Value.cells] at hcs
      obtain ⟨rfl, rfl, rfl⟩ := hcs
      exact keep_of hl hcell
  have hb := Go.bounds_u64 w0
  obtain ⟨seed, rfl⟩ := Int.eq_ofNat_of_zero_le hb.1
  clear hA0 hval0
  refine (picks_all seed len1 cap1 b off len2 cap2 kb koff a1 a2 zs ks W (by omega) hz hc hk).mono fun e W' ⟨he, bel⟩ => ?_
  subst he
  exact ⟨_, rfl, _, _, _, [], _, [], hW', trodAll_mk1 (shut_bool Yba.underlying4 _), (trodAll_cons_mk (shut_int Yba.underlying46 w0) (trodAll_cons_mk (Below.trod laidOut (by kernel_rfl) (of_decide_eq_true (by kernel_rfl)) k1 bel lt1) (trodAll_cons_mk (Below.trod laidOut (by kernel_rfl) (of_decide_eq_true (by kernel_rfl)) k2 bel lt2) trodAll_mk0))), rfl, bel.frame _, fun h => by cases h⟩

theorem over : Rows.lawS1347CPicksRow.holds Yba.pinned (OpenSpec.ofChange Rows.lawS1347CPicksSpec) :=
  OpenClaim.holds_of_wide 4 Yba.f4 rfl rfl rfl rfl rfl rfl rfl ⟨rfl, rfl, rfl, rfl, rfl⟩ rfl rfl rfl rfl rfl (by kernel_rfl) Yba.func4 (by kernel_rfl)
    (of_decide_eq_true (by kernel_rfl)) (by unfold Func.isWrapper; first | (rw [if_pos (by decide +kernel)]; kernel_rfl) | (rw [if_neg (by decide +kernel)]; exact ⟨rfl, rfl⟩))
    (fun os started H enc _ => lifted os started H enc)

/-- THE STATEMENT -/
theorem proved : Rows.LawS1347CPicksSaid :=
  over
#print axioms proved
end Go.Proofs.Ybulkaawi.lawS1347CPicks
