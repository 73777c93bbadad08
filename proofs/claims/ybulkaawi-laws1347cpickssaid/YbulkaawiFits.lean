/-
  The closure of LawS1347CPicks: it logs its argument, counts, and answers whether the count is among the kept.
-/
import Derived.Test.YbulkaawiRngC
namespace Go.Proofs.Ybulkaawi
open Go.RowKit

theorem info3 : (Yba.prog.info? 3).map (fun i => (i.zero, i.size, i.bytes)) = some (some (.int .i64 0), 1, 8) := by kernel_rfl

theorem ret_bool {a b : Bool} (h : a = b) : Ending.returned (.bool a) = .returned (.bool b) := by rw [h]

/-- Is the k-th kept? -/
def kp (klen : Nat) (ks : List Bool) (k : Nat) : Bool := decide (k < klen) && ks.getD k false

/-- The log and the count behind k calls. -/
def LogAt (w : World) (base LB NB k : Nat) (xs : List Value) : Prop :=
  (∃ v, w.cell? ⟨LB, 0, none⟩ = some v ∧ w.ownsRow base 3 1 v k xs) ∧ w.frozen? ⟨LB, 0, none⟩ = false ∧ w.cell? ⟨NB, 0, none⟩ = some (.int .i64 k) ∧ w.frozen? ⟨NB, 0, none⟩ = false

/-- Below 'base' the world is as it was, but for some blocks. -/
def Kept (base : Nat) (but : Nat → Prop) (w w' : World) : Prop :=
  w'.os = w.os ∧ w'.tape = w.tape ∧ w'.output = w.output ∧ w.heap.size ≤ w'.heap.size ∧ ∀ b, b < base → ¬ but b → w'.heap[b]? = w.heap[b]?

theorem Kept.refl (base : Nat) (but : Nat → Prop) (w : World) : Kept base but w w := ⟨rfl, rfl, rfl, Nat.le_refl _, fun _ _ _ => rfl⟩
theorem Kept.trans {base : Nat} {but : Nat → Prop} {a b c : World} (h : Kept base but a b) (k : Kept base but b c) : Kept base but a c :=
  ⟨k.1.trans h.1, k.2.1.trans h.2.1, k.2.2.1.trans h.2.2.1, Nat.le_trans h.2.2.2.1 k.2.2.2.1, fun r hr hb => (k.2.2.2.2 r hr hb).trans (h.2.2.2.2 r hr hb)⟩
theorem Kept.wider {base : Nat} {but but' : Nat → Prop} {a b : World} (h : Kept base but a b) (hi : ∀ r, but r → but' r) : Kept base but' a b :=
  ⟨h.1, h.2.1, h.2.2.1, h.2.2.2.1, fun r hr hb => h.2.2.2.2 r hr (fun c => hb (hi r c))⟩

/-- The slice of bools that came in, in a box. -/
def KeepAt (w : World) (KB : Nat) (kv : Option Addr) (klen kcap kb koff : Nat) (ks : List Bool) : Prop :=
  w.cell? ⟨KB, 0, none⟩ = some (.slice kv klen kcap) ∧ ∀ j, j < klen → kv = some ⟨kb, koff, none⟩ ∧ w.cell? ⟨kb, koff + j, none⟩ = some (.bool (ks.getD j false))

theorem row_shape {w : World} {base n : Nat} {v : Value} {xs : List Value} (h : w.ownsRow base 3 1 v n xs) (hn : n ≠ 0) : ∃ g cap, v = .slice (some ⟨g, 0, none⟩) n cap := by
  rcases h.2 with ⟨_, h0⟩ | ⟨g, cap, _, hv, _⟩
  · exact absurd h0 hn
  · exact ⟨g, cap, hv⟩

/-- What the two stores make of the log and the count. -/
theorem log_step {base LB NB k : Nat} {w w1 : World} {v v' : Value} {ys : List Value} (hL : LB < base) (hN : NB < base) (hLN : LB ≠ NB) (hz : w.heap.size ≤ w1.heap.size)
    (ho : w1.os = w.os ∧ w1.tape = w.tape ∧ w1.output = w.output) (hold : ∀ b, b < base → w1.heap[b]? = w.heap[b]?)
    (hv : w1.cell? ⟨LB, 0, none⟩ = some v) (fL : w1.frozen? ⟨LB, 0, none⟩ = false) (hn : w1.cell? ⟨NB, 0, none⟩ = some (.int .i64 k)) (fN : w1.frozen? ⟨NB, 0, none⟩ = false) (hown : w1.ownsRow base 3 1 v' (k + 1) ys) :
    LogAt ((w1.setCell ⟨LB, 0, none⟩ v').setCell ⟨NB, 0, none⟩ (.int .i64 ((k : Int) + 1))) base LB NB (k + 1) ys ∧
      Kept base (fun b => b = LB ∨ b = NB) w ((w1.setCell ⟨LB, 0, none⟩ v').setCell ⟨NB, 0, none⟩ (.int .i64 ((k : Int) + 1))) := by
  have hne : (⟨LB, 0, none⟩ : Addr) ≠ ⟨NB, 0, none⟩ := by intro e; injection e with e _ _; exact hLN e
  have e1 : (w1.setCell ⟨LB, 0, none⟩ v').cell? ⟨NB, 0, none⟩ = some (.int .i64 k) := by rw [World.cell?_setCell_other _ _ _ _ hne]; exact hn
  refine ⟨⟨⟨v', ?_, ?_⟩, ?_, ?_, ?_⟩, ho.1, ho.2.1, ho.2.2, ?_, fun b hb hnot => ?_⟩
  · rw [World.cell?_setCell_other _ _ _ _ (Ne.symm hne)]
    exact World.cell?_setCell_same w1 _ _ hv
  · exact ownsRow_setCell_below (ownsRow_setCell_below hown hL _) hN _
  · rw [World.frozen?_setCell, World.frozen?_setCell]; exact fL
  · exact World.cell?_setCell_same _ _ _ e1
  · rw [World.frozen?_setCell, World.frozen?_setCell]; exact fN
  · simpa [World.setCell] using hz
  · rw [Below.heap_setCell _ _ _ _ (fun e => hnot (Or.inr e)), Below.heap_setCell _ _ _ _ (fun e => hnot (Or.inl e))]
    exact hold b hb

set_option maxHeartbeats 400000 in
theorem fits_any (base LB NB KB k klen kcap kb koff : Nat) (kv : Option Addr) (ks : List Bool) (x : Int) (xs : List Value) (w : World)
    (hL : LB < base) (hN : NB < base) (hLN : LB ≠ NB) (hbase : base ≤ w.heap.size) (hk : k < 1024)
    (hK1 : KB < base) (hK2 : KB ≠ LB) (hK3 : KB ≠ NB) (hb : klen ≠ 0 → kb < base ∧ kb ≠ LB ∧ kb ≠ NB)
    (hlog : LogAt w base LB NB k xs) (hkeep : KeepAt w KB kv klen kcap kb koff ks) :
    Calls Yba.prog 6 #[.int .i64 x, .pointer (some ⟨LB, 0, none⟩), .pointer (some ⟨NB, 0, none⟩), .pointer (some ⟨KB, 0, none⟩)] w fun e w' =>
      e = .returned (.bool (kp klen ks k)) ∧ LogAt w' base LB NB (k + 1) (xs ++ [.int .i64 x]) ∧ Kept base (fun b => b = LB ∨ b = NB) w w' := by
  obtain ⟨i0, hi, hz0, hz1, hz2⟩ := info_parts info3
  obtain ⟨⟨v, hv, hown⟩, fL, hn, fN⟩ := hlog
  go_enter Yba.func6, Yba.ntmps6
  go_wp2_with (at_builtin; refine wpList_append_own _ rfl _ _ 96 rfl base 3 i0 (.int .i64 0) 1 8 Yba.underlying96 hi hz0 hz1 hz2 rfl (by decide) _ _ _ rfl (hown.alloc _) ⟨w.heap.size, 0, none⟩ 1 1 [.int .i64 x] rfl rfl (cell_one_new _ _ _) (ints_oneCell _ [x]) (by unfold maxLen; omega) (by omega) (by simp; omega) ?_)
  intro v' w1 hown' hgrow _
  have hold : ∀ b, b < base → w1.heap[b]? = w.heap[b]? := fun b hb' =>
    (hgrow.block b (by simp; omega) (fun e => by have := (hown.lt b e.symm).1; omega)).trans (Below.heap_alloc _ _ _ (by omega))
  have hv1 : w1.cell? ⟨LB, 0, none⟩ = some v := (World.cell?_of_block (w := w) (a := ⟨LB, 0, none⟩) (hold LB hL)).trans hv
  have hn1 : w1.cell? ⟨NB, 0, none⟩ = some (.int .i64 k) := (World.cell?_of_block (w := w) (a := ⟨NB, 0, none⟩) (hold NB hN)).trans hn
  have fL1 : w1.frozen? ⟨LB, 0, none⟩ = false := (World.frozen?_of_block (w := w) (a := ⟨LB, 0, none⟩) (hold LB hL)).trans fL
  have fN1 : w1.frozen? ⟨NB, 0, none⟩ = false := (World.frozen?_of_block (w := w) (a := ⟨NB, 0, none⟩) (hold NB hN)).trans fN
  have hk1 : w1.cell? ⟨KB, 0, none⟩ = some (.slice kv klen kcap) := (World.cell?_of_block (w := w) (a := ⟨KB, 0, none⟩) (hold KB hK1)).trans hkeep.1
  have hzz : w.heap.size ≤ w1.heap.size := by have := hgrow.size; simp at this; omega
  have HS := hide' (log_step hL hN hLN hzz ⟨hgrow.os, hgrow.tape, hgrow.output⟩ hold hv1 fL1 hn1 fN1 hown')
  obtain ⟨g, cap, hv'⟩ := row_shape hown' (by omega)
  rw [hv'] at HS ⊢
  have hLN' : NB ≠ LB := Ne.symm hLN
  clear hown' hown hgrow hv hn fL fN hv'
  by_cases hkk : k < klen
  · obtain ⟨hkv, hkc⟩ := hkeep.2 k hkk
    have hkc1 : w1.cell? ⟨kb, koff + k, none⟩ = some (.bool (ks.getD k false)) := (World.cell?_of_block (w := w) (a := ⟨kb, koff + k, none⟩) (hold kb (hb (by omega)).1)).trans hkc
    have hb2 := (hb (by omega)).2.1
    have hb3 := (hb (by omega)).2.2
    rw [hkv] at hk1
    have hkp : Hid (kp klen ks k = ks.getD k false) := by unfold Hid; unfold kp; rw [decide_eq_true hkk, Bool.true_and]
    generalize ks.getD k false = kk at hkc1 hkp
    clear hkc hkv hkeep hold hb
    go_wp2_with fail
    go_ret
    exact ⟨ret_bool hkp.out.symm, HS.out⟩
  · have hkp : Hid (kp klen ks k = false) := by unfold Hid; unfold kp; rw [decide_eq_false hkk, Bool.false_and]
    clear hkeep hold hb
    go_wp2_with fail
    go_ret
    exact ⟨ret_bool hkp.out.symm, HS.out⟩
end Go.Proofs.Ybulkaawi
