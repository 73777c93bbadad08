/-
  What holds behind the draws of LawS1347CPicks.
-/
import Derived.Test.YbulkaawiPicksL
namespace Go.Proofs.Ybulkaawi
open Go.RowKit

/-- Where a scheduler's generator stands: sc holds it, and its state is hi, lo. -/
def Gen (w : World) (sc rr pc hi lo : Nat) : Prop := w.cell? ⟨sc, 1, none⟩ = some (.pointer (some ⟨rr, 0, none⟩)) ∧ RngAt w rr pc hi lo

/-- All that the tail of the law reads. -/
def Tail (w : World) (k b off m g gl lcap C LB sc rr pc sc' rr' pc' hi lo hi' lo' : Nat) (cv ga la : Option Addr) (zs es : List Int) (p : Nat → Bool) (w5 : World) : Prop :=
  ArgAt w5 cv k b off zs ∧ RowAt w5 0 g m ga es ∧ w5.heap[C]? = some (.cells (ints (R zs p k)) 3) ∧ w5.cell? ⟨LB, 0, none⟩ = some (.slice la k lcap) ∧ RowAt w5 0 gl k la zs ∧
    Gen w5 sc rr pc hi lo ∧ Gen w5 sc' rr' pc' hi' lo' ∧ (sc' ≠ pc ∧ rr' ≠ pc ∧ pc' ≠ pc) ∧ (w.heap.size ≤ pc ∧ w.heap.size ≤ pc') ∧ Below w.heap.size w w5

theorem Tail.drewN {w : World} {k b off m g gl lcap C LB sc rr pc sc' rr' pc' hi lo hi' lo' : Nat} {cv ga la : Option Addr} {zs es : List Int} {p : Nat → Bool} {w5 : World}
    (h : Tail w k b off m g gl lcap C LB sc rr pc sc' rr' pc' hi lo hi' lo' cv ga la zs es p w5) (n : Nat) : Tail w k b off m g gl lcap C LB sc rr pc sc' rr' pc' hi lo hi' lo' cv ga la zs es p (w5.drewN n) := by
  obtain ⟨h1, h2, h3, h4, h5, h6, h7, h8, h0, h9⟩ := h
  exact ⟨h1, h2, h3, h4, h5, h6, h7, h8, h0, below_drewN h9 n⟩

theorem RowAt.lower {w : World} {lo g m : Nat} {ga : Option Addr} {l : List Int} (h : RowAt w lo g m ga l) : RowAt w 0 g m ga l :=
  fun hm => ⟨(h hm).1, Nat.zero_le _, (h hm).2.2⟩

theorem not4 {a x y z t : Nat} (h1 : a ≠ x) (h2 : a ≠ y) (h3 : a ≠ z) (h4 : a ≠ t) : ¬ (a = x ∨ a = y ∨ a = z ∨ a = t) := by rintro (h | h | h | h); exact h1 h; exact h2 h; exact h3 h; exact h4 h

theorem tail_of {w w1 wr W2 w3 : World} {o : Obj} {k b off g hi lo : Nat} {cv ga : Option Addr} {zs es : List Int} {p : Nat → Bool} (hc : ArgAt w cv k b off zs) (hz : zs.length = k)
    (hB1 : Below (w.heap.size + 1) (w.alloc o) w1) (hB2 : Below (w.heap.size + 1 + 1) w1 wr) (hs : w.heap.size + 1 + 1 ≤ wr.heap.size) (hrow : RowAt wr (w.heap.size + 1 + 1) g es.length ga es)
    (hO : (∀ r, r < wr.heap.size → W2.heap[r]? = wr.heap[r]?) ∧ W2.os = wr.os ∧ W2.tape = wr.tape ∧ W2.output = wr.output) (hz2 : W2.heap.size = wr.heap.size + 5)
    (hsc : W2.cell? ⟨wr.heap.size + 1 + 1 + 1 + 1, 1, none⟩ = some (.pointer (some ⟨wr.heap.size + 1 + 1 + 1, 0, none⟩)))
    (hd : ADone (wr.heap.size + 5) (wr.heap.size + 1 + 1 + 1) (wr.heap.size + 1 + 1) (w.heap.size + 1) wr.heap.size (wr.heap.size + 1) k hi lo zs p W2 w3) :
    ∃ gl lcap la, ∀ w5 hi' lo', Below w3.heap.size w3 w5 → Gen w5 (w3.heap.size + 1 + 1) (w3.heap.size + 1) w3.heap.size hi' lo' →
      Tail w k b off es.length g gl lcap (w.heap.size + 1) wr.heap.size (wr.heap.size + 1 + 1 + 1 + 1) (wr.heap.size + 1 + 1 + 1) (wr.heap.size + 1 + 1) (w3.heap.size + 1 + 1) (w3.heap.size + 1) w3.heap.size hi lo hi' lo' cv ga la zs es p w5 := by
  obtain ⟨hC, ⟨v, hv, ho⟩, hr, hk⟩ := hd
  obtain ⟨la, lcap, gl, rfl, hlog⟩ := row_of_owns hz ho
  have hB0 : Below w.heap.size w wr := (((Below.refl _ _).alloc (Nat.le_refl _) o).trans (hB1.mono (Nat.le_succ _))).trans (hB2.mono (by omega))
  have h23 : W2.heap.size ≤ w3.heap.size := hk.2.2.2.1
  have hB3 : Below w.heap.size w w3 := hB0.trans ⟨hk.1.trans hO.2.1, hk.2.1.trans hO.2.2.1, hk.2.2.1.trans hO.2.2.2, by omega, fun r hr => (hk.2.2.2.2 r (by omega) (not4 (by omega) (by omega) (by omega) (by omega))).trans (hO.1 r (by omega))⟩
  refine ⟨gl, lcap, la, fun w5 hi' lo' hB5 hG => ?_⟩
  have hlt : w3.heap.size ≤ w5.heap.size := hB5.size
  have hB : Below w.heap.size w w5 := hB3.trans (hB5.mono (by have := hB3.size; omega))
  refine ⟨fun j hj => ⟨(hc j hj).1, ?_⟩, ?_, ?_, ?_, ?_, ⟨?_, ?_⟩, hG, ⟨by omega, by omega, by omega⟩, ⟨by omega, by omega⟩, hB⟩
  · exact (World.cell?_of_block (w := w) (a := ⟨b, off + j, none⟩) (hB.block b (World.block_lt_of_cell? w _ (hc j hj).2))).trans (hc j hj).2
  · refine RowAt.lower (hrow.keep (by omega) fun hm => ?_)
    obtain ⟨_, hg1, hg2, _⟩ := hrow hm
    rw [hB5.block g (by omega), hk.2.2.2.2 g (by omega) (not4 (by omega) (by omega) (by omega) (by omega)), hO.1 g hg2]
  · rw [hB5.block _ (by omega)]
    exact hC
  · exact (World.cell?_of_block (w := w3) (a := ⟨wr.heap.size, 0, none⟩) (hB5.block _ (by simp; omega))).trans hv
  · exact RowAt.lower (hlog.keep hlt fun hm => hB5.block _ (hlog hm).2.2.1)
  · have e : w5.heap[wr.heap.size + 1 + 1 + 1 + 1]? = W2.heap[wr.heap.size + 1 + 1 + 1 + 1]? := (hB5.block _ (by omega)).trans (hk.2.2.2.2 _ (by omega) (not4 (by omega) (by omega) (by omega) (by omega)))
    exact (World.cell?_of_block (w := W2) (a := ⟨wr.heap.size + 1 + 1 + 1 + 1, 1, none⟩) e).trans hsc
  · exact hr.keep (hB5.block _ (by omega)) (hB5.block _ (by omega))

theorem gen_new (w : World) (seed : Nat) : Gen (withNew w seed) (w.heap.size + 1 + 1) (w.heap.size + 1) w.heap.size seed seed := ⟨withNew_sched w seed, withNew_rng w seed⟩

theorem Gen.roll {w w' : World} {sc rr pc hi lo h' l' : Nat} (h : Gen w sc rr pc hi lo) (hs : sc ≠ pc) (r : Rolled pc w w' h' l') : Gen w' sc rr pc h' l' :=
  ⟨(World.cell?_of_block (w := w) (a := ⟨sc, 1, none⟩) (r.2.2.2.2.1 sc hs)).trans h.1, h.2.roll r⟩

theorem below_roll {w w' : World} {n pc h' l' : Nat} (hn : n ≤ pc) (r : Rolled pc w w' h' l') : Below n w w' :=
  ⟨r.1, r.2.1, r.2.2.1, Nat.le_of_eq r.2.2.2.1.symm, fun b hb => r.2.2.2.2.1 b (by omega)⟩

theorem Gen.other {w w' : World} {sc rr pc hi lo p h' l' : Nat} (h : Gen w sc rr pc hi lo) (hs : sc ≠ p ∧ rr ≠ p ∧ pc ≠ p) (r : Rolled p w w' h' l') : Gen w' sc rr pc hi lo :=
  ⟨(World.cell?_of_block (w := w) (a := ⟨sc, 1, none⟩) (r.2.2.2.2.1 sc hs.1)).trans h.1, h.2.keep (r.2.2.2.2.1 rr hs.2.1) (r.2.2.2.2.1 pc hs.2.2)⟩

/-- The same, without the names of what the walk need not name. -/
def Tail1 (w : World) (k b off m g C LB sc sc' : Nat) (cv ga : Option Addr) (zs es : List Int) (p : Nat → Bool) (w5 : World) : Prop :=
  ∃ gl lcap la rr pc rr' pc' hi lo, lo < 18446744073709551616 ∧ Tail w k b off m g gl lcap C LB sc rr pc sc' rr' pc' hi lo hi lo cv ga la zs es p w5

theorem rest_cell {w : World} {C len j : Nat} {zs : List Int} {p : Nat → Bool} (hz : zs.length = len) (h : w.heap[C]? = some (.cells (ints (R zs p len)) 3)) (hj : ¬ j < (E zs p len).length) (hl : j < len) : w.cell? ⟨C, j, none⟩ = some (.int .i64 (zs.getD j 0)) := by
  have := row_cell h j (by rw [R_len]; omega)
  rw [R_at zs _ len (by omega), if_neg hj] at this
  exact this
end Go.Proofs.Ybulkaawi
