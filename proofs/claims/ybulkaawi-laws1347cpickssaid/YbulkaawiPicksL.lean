/-
  Laws for the stages of LawS1347CPicks.
-/
import Derived.Test.YbulkaawiNew
namespace Go.Proofs.Ybulkaawi
open Go.RowKit

/-! ### The copy of the argument's row -/
/-- A row of L zeros. -/
def izeros (L : Nat) : Array Value := madeCells #[.int .i64 0] L

theorem make_ints (L : Nat) (h : L ≤ 1024) (w : World) : (Instr.makeSlice 96 (.int .i64 (L : Int)) (.int .i64 (L : Int))).run Yba.prog w = .ok (.slice (some ⟨w.heap.size, 0, none⟩) L L) (w.alloc (.cells (izeros L) 3)) := by
  obtain ⟨i, hi, hz, hs, hb⟩ := info_parts info3
  have := run_make (P := Yba.prog) w 96 3 i (.int .i64 0) Yba.underlying96 hi hz .i64 .i64 L L (by omega) (Int.le_refl _) (by rw [hb]; omega) (by omega)
  rw [this, hs]
  simp [izeros, Value.cells]

/-- The slice of numbers that came in. -/
def ArgAt (w : World) (cv : Option Addr) (len b off : Nat) (zs : List Int) : Prop :=
  ∀ j, j < len → cv = some ⟨b, off, none⟩ ∧ w.cell? ⟨b, off + j, none⟩ = some (.int .i64 (zs.getD j 0))

theorem add_none (b off j : Nat) : (⟨b, off, none⟩ : Addr).add j = ⟨b, off + j, none⟩ := by
  by_cases e : j = 0
  · subst e; simp [Addr.add]
  · simp [Addr.add, e]

theorem copy_is (w : World) (kc : Array Value) (len cap b off : Nat) (cv : Option Addr) (zs : List Int) (hz : zs.length = len) (hc : ArgAt w cv len b off zs) :
    ∃ w1, (∀ ty, (Builtin.copy_ #[96, 96] ty #[.slice (some ⟨w.heap.size + 1, 0, none⟩) len len, .slice cv len cap]).run Yba.prog ((w.alloc (.cells kc 71)).alloc (.cells (izeros len) 3)) = .ok (.int .i64 len) w1) ∧
      w1.heap[w.heap.size + 1]? = some (.cells (ints zs) 3) ∧ w1.heap.size = w.heap.size + 1 + 1 ∧ Below (w.heap.size + 1) (w.alloc (.cells kc 71)) w1 := by
  have hi : (Yba.prog.info? 3).map (·.size) = some 1 := by kernel_rfl
  have hg : ((w.alloc (.cells kc 71)).alloc (.cells (izeros len) 3)).heap[w.heap.size + 1]? = some (.cells (izeros len) 3) := heap_at _ _ _ (by simp)
  have hs : (izeros len).size = len := by unfold izeros; simp [size_madeCells]
  have hB : Below (w.heap.size + 1) (w.alloc (.cells kc 71)) ((w.alloc (.cells kc 71)).alloc (.cells (izeros len) 3)) := (Below.refl _ _).alloc (by simp) _
  by_cases h0 : len = 0
  · subst h0
    obtain rfl : zs = [] := List.eq_nil_of_length_eq_zero hz
    refine ⟨_, fun ty => (run_copy_none (P := Yba.prog) _ 96 96 ty 3 _ _ _ _ _ _ Yba.underlying96 hi (by simp)), hg.trans (by simp [izeros, madeCells, ints]), by simp, hB⟩
  · obtain ⟨rfl, _⟩ := hc 0 (by omega)
    have hsrc : ∀ j v, (zs.map (Value.int .i64))[j]? = some v → ((w.alloc (.cells kc 71)).alloc (.cells (izeros len) 3)).cell? ((⟨b, off, none⟩ : Addr).add j) = some v := by
      intro j v hj
      have hjl : j < len := by
        have := (List.getElem?_eq_some_iff.1 hj).1
        simpa [hz] using this
      have hv : v = .int .i64 (zs.getD j 0) := by
        rw [List.getElem?_map] at hj
        rw [List.getD_eq_getElem?_getD]
        cases e : zs[j]? with
        | none => rw [e] at hj; cases hj
        | some x => rw [e] at hj; simpa using hj.symm
      have hcell := (hc j hjl).2
      have hb := World.block_lt_of_cell? w _ hcell
      rw [add_none, hv]
      exact (World.cell?_of_block (w := w) (a := ⟨b, off + j, none⟩) ((Below.heap_alloc _ _ _ (by simp at hb ⊢; omega)).trans (Below.heap_alloc _ _ _ hb))).trans hcell
    have hrun := fun ty => run_copy_row (P := Yba.prog) ((w.alloc (.cells kc 71)).alloc (.cells (izeros len) 3)) 96 96 ty 3 (w.heap.size + 1) 0 len len ⟨b, off, none⟩ len cap (izeros len) 3 (zs.map (Value.int .i64)) Yba.underlying96 hi hg (by simp [hz]) hsrc (by simp [hs, hz]) (ints_oneCell .i64 zs)
    have harr : ((izeros len).toList.take 0 ++ zs.map (Value.int .i64) ++ (izeros len).toList.drop (0 + (zs.map (Value.int .i64)).length)).toArray = ints zs := by
      rw [List.drop_of_length_le (by simp [hs, hz])]
      simp [ints]
    rw [harr] at hrun
    refine ⟨((w.alloc (.cells kc 71)).alloc (.cells (izeros len) 3)).setRow (w.heap.size + 1) (ints zs), fun ty => ?_, setRow_heap _ _ _ _ _ _ hg, by simp, hB.trans ⟨rfl, rfl, rfl, by simp, fun k hk => setRow_other _ _ _ _ (by omega)⟩⟩
    rw [hrun ty]
    simp [goInt, hz]

/-! ### The first loop -/
def L1 (n2 : Nat) (zs : List Int) (p : Nat → Bool) (w1 : World) (k : Nat) (v : Value) (wr : World) : Prop :=
  wr.ownsRow n2 3 1 v (E zs p k).length ((E zs p k).map (Value.int .i64)) ∧ Below n2 w1 wr ∧ n2 ≤ wr.heap.size

theorem L1.start (n2 : Nat) (zs : List Int) (p : Nat → Bool) (w1 : World) (h : w1.heap.size = n2) : L1 n2 zs p w1 0 (.slice none 0 0) w1 :=
  ⟨World.ownsRow_nil _ _ _ _, Below.refl _ _, Nat.le_of_eq h.symm⟩

theorem L1.no {n2 : Nat} {zs : List Int} {p : Nat → Bool} {w1 : World} {k : Nat} {v : Value} {wr : World} (h : L1 n2 zs p w1 k v wr) (hp : p k = false) : L1 n2 zs p w1 (k + 1) v wr := by
  unfold L1
  rw [E_no hp]
  exact h

theorem L1.yes {n2 : Nat} {zs : List Int} {p : Nat → Bool} {w1 : World} {k : Nat} {v v' : Value} {wr w' : World} {x : Int} (h : L1 n2 zs p w1 k v wr) (hp : p k = true) (hx : zs.getD k 0 = x)
    (ho : w'.ownsRow n2 3 1 v' ((E zs p k).length + 1) ((E zs p k).map (Value.int .i64) ++ [.int .i64 x])) (hg : (wr.alloc (.cells #[.int .i64 x] 3)).grownBy w' v.ownBlock) : L1 n2 zs p w1 (k + 1) v' w' := by
  have hsz : n2 ≤ (wr.alloc (.cells #[.int .i64 x] 3)).heap.size := by have := h.2.2; simp; omega
  refine ⟨?_, (h.2.1.alloc h.2.2 _).grown hg hsz (fun j hj => (h.1.lt j hj).1), Nat.le_trans hsz hg.size⟩
  rw [E_yes hp, hx]
  simpa using ho

/-- A slice that the call has made, of m numbers. -/
def RowAt (w : World) (lo g m : Nat) (ga : Option Addr) (l : List Int) : Prop :=
  m ≠ 0 → ga = some ⟨g, 0, none⟩ ∧ lo ≤ g ∧ g < w.heap.size ∧ ∀ j, j < m → w.cell? ⟨g, j, none⟩ = some (.int .i64 (l.getD j 0))

theorem RowAt.keep {w w' : World} {lo g m : Nat} {ga : Option Addr} {l : List Int} (h : RowAt w lo g m ga l) (hz : w.heap.size ≤ w'.heap.size) (e : m ≠ 0 → w'.heap[g]? = w.heap[g]?) : RowAt w' lo g m ga l :=
  fun hm => ⟨(h hm).1, (h hm).2.1, Nat.lt_of_lt_of_le (h hm).2.2.1 hz, fun j hj => (World.cell?_of_block (w := w) (a := ⟨g, j, none⟩) (e hm)).trans ((h hm).2.2.2 j hj)⟩

theorem row_of_owns {w : World} {base m : Nat} {v : Value} {l : List Int} (hl : l.length = m) (h : w.ownsRow base 3 1 v m (l.map (Value.int .i64))) : ∃ ga cap g, v = .slice ga m cap ∧ RowAt w base g m ga l := by
  rcases h.2 with ⟨rfl, rfl⟩ | ⟨g, cap, cur, rfl, h1, h2, h3, _, h4, h5⟩
  · exact ⟨none, 0, 0, rfl, fun h => absurd rfl h⟩
  · refine ⟨_, cap, g, rfl, fun _ => ⟨rfl, h1, (Array.getElem?_eq_some_iff.1 h2).1, fun j hj => ?_⟩⟩
    unfold World.cell?
    dsimp only
    rw [h2]
    have e : (cur.toList.take (m * 1))[j]? = some (.int .i64 (l.getD j 0)) := by
      rw [h5, List.getElem?_map, List.getD_eq_getElem?_getD, List.getElem?_eq_getElem (by omega)]
      rfl
    rw [List.getElem?_take, if_pos (by omega)] at e
    simpa using e

/-- What came in, in a later world. -/
theorem came {w w1 wr : World} {len b off klen kcap kb koff n2 : Nat} {cv kv : Option Addr} {zs : List Int} {ks : List Bool} (hc : ArgAt w cv len b off zs)
    (hkc : ∀ j, j < klen → kv = some ⟨kb, koff, none⟩ ∧ w.cell? ⟨kb, koff + j, none⟩ = some (.bool (ks.getD j false))) (hB1 : Below (w.heap.size + 1) (w.alloc (.cells #[.slice kv klen kcap] 71)) w1) (hn : w.heap.size + 1 ≤ n2) (hB : Below n2 w1 wr) :
    ArgAt wr cv len b off zs ∧ KeepAt wr w.heap.size kv klen kcap kb koff ks := by
  have hold : ∀ r, r < w.heap.size → wr.heap[r]? = w.heap[r]? := fun r hr => (hB.block r (by omega)).trans ((hB1.block r (by omega)).trans (Below.heap_alloc _ _ _ hr))
  have hbox : wr.heap[w.heap.size]? = some (.cells #[.slice kv klen kcap] 71) := (hB.block _ (by omega)).trans ((hB1.block _ (by omega)).trans (heap_at w _ _ rfl))
  refine ⟨fun j hj => ⟨(hc j hj).1, ?_⟩, ?_, fun j hj => ⟨(hkc j hj).1, ?_⟩⟩
  · exact (World.cell?_of_block (w := w) (a := ⟨b, off + j, none⟩) (hold b (World.block_lt_of_cell? w _ (hc j hj).2))).trans (hc j hj).2
  · unfold World.cell?; dsimp only; rw [hbox]; rfl
  · exact (World.cell?_of_block (w := w) (a := ⟨kb, koff + j, none⟩) (hold kb (World.block_lt_of_cell? w _ (hkc j hj).2))).trans (hkc j hj).2

theorem kp_in {klen : Nat} {ks : List Bool} {k : Nat} {x : Bool} (h : k < klen) (e : ks.getD k false = x) : kp klen ks k = x := by unfold kp; rw [decide_eq_true h, Bool.true_and, e]
theorem kp_out {klen : Nat} {ks : List Bool} {k : Nat} (h : ¬ k < klen) : kp klen ks k = false := by unfold kp; rw [decide_eq_false h, Bool.false_and]

/-! ### Ahead of among -/
/-- The log's box, the count's box. -/
def withBoxes (w : World) : World := (w.alloc (.cells #[.slice none 0 0] 96)).alloc (.cells #[.int .i64 0] 3)

theorem withBoxes_size (w : World) : (withBoxes w).heap.size = w.heap.size + 1 + 1 := by unfold withBoxes; simp
theorem withBoxes_old (w : World) (b : Nat) (h : b < w.heap.size) : (withBoxes w).heap[b]? = w.heap[b]? := by
  unfold withBoxes
  rw [Below.heap_alloc _ _ _ (by simp; omega), Below.heap_alloc _ _ _ h]

theorem log_new (w : World) (seed : Nat) : LogAt (withNew (withBoxes w) seed) (withNew (withBoxes w) seed).heap.size w.heap.size (w.heap.size + 1) 0 [] := by
  have e0 : (withNew (withBoxes w) seed).heap[w.heap.size]? = some (.cells #[.slice none 0 0] 96) := by
    rw [withNew_old _ _ _ (by rw [withBoxes_size]; omega)]
    unfold withBoxes
    rw [Below.heap_alloc _ _ _ (by simp)]
    exact heap_at w _ _ rfl
  have e1 : (withNew (withBoxes w) seed).heap[w.heap.size + 1]? = some (.cells #[.int .i64 0] 3) := by
    rw [withNew_old _ _ _ (by rw [withBoxes_size]; omega)]
    unfold withBoxes
    exact heap_at _ _ _ (by simp)
  refine ⟨⟨.slice none 0 0, ?_, World.ownsRow_nil _ _ _ _⟩, ?_, ?_, ?_⟩
  · unfold World.cell?; dsimp only; rw [e0]; rfl
  · unfold World.frozen?; dsimp only; rw [e0]; rfl
  · unfold World.cell?; dsimp only; rw [e1]; rfl
  · unfold World.frozen?; dsimp only; rw [e1]; rfl

theorem stage_apart {s n klen kb : Nat} (hs : n + 2 ≤ s) (hkb : klen ≠ 0 → kb < n) : Apart (s + 5) (s + 1 + 1 + 1 + 1) (s + 1 + 1 + 1) (s + 1 + 1) (n + 1) s (s + 1) n klen kb :=
  ⟨⟨by omega, by omega, by omega, by omega⟩, ⟨by omega, by omega, by omega⟩, ⟨by omega, by omega⟩, ⟨by omega, by omega, by omega, by omega⟩, fun h => by have := hkb h; exact ⟨by omega, by omega, by omega, by omega⟩,
    ⟨by omega, by omega, by omega, by omega⟩, ⟨by omega, by omega, by omega, by omega⟩, by omega⟩

theorem new2_old (w : World) (seed b : Nat) (h : b < w.heap.size) : (withNew (withBoxes w) seed).heap[b]? = w.heap[b]? :=
  (withNew_old _ _ _ (by rw [withBoxes_size]; omega)).trans (withBoxes_old w b h)

theorem new2_size (w : World) (seed : Nat) : (withNew (withBoxes w) seed).heap.size = w.heap.size + 5 := by rw [withNew_size, withBoxes_size]

theorem new_boxes (seed : Nat) (w : World) :
    Calls Yba.prog 7 #[.int .u64 seed] (withBoxes w) fun e w' => e = .returned (.pointer (some ⟨w.heap.size + 1 + 1 + 1 + 1, 0, none⟩)) ∧ w' = withNew (withBoxes w) seed := by
  have h := new_any seed (withBoxes w)
  rw [withBoxes_size] at h
  exact h

/-- All that among asks, and what was there. -/
theorem stage2 {w w1 wr : World} {klen kcap kb koff seed : Nat} {kv : Option Addr} {zs : List Int} {ks : List Bool} (hC : w1.heap[w.heap.size + 1]? = some (.cells (ints zs) 3)) (hB : Below (w.heap.size + 1 + 1) w1 wr)
    (hs : w.heap.size + 1 + 1 ≤ wr.heap.size) (hkc : ∀ j, j < klen → kv = some ⟨kb, koff, none⟩ ∧ w.cell? ⟨kb, koff + j, none⟩ = some (.bool (ks.getD j false))) (hk : KeepAt wr w.heap.size kv klen kcap kb koff ks) :
    ∃ W2, W2 = withNew (withBoxes wr) seed ∧ W2.heap.size = wr.heap.size + 5 ∧ Apart (wr.heap.size + 5) (wr.heap.size + 1 + 1 + 1 + 1) (wr.heap.size + 1 + 1 + 1) (wr.heap.size + 1 + 1) (w.heap.size + 1) wr.heap.size (wr.heap.size + 1) w.heap.size klen kb ∧
      W2.heap[w.heap.size + 1]? = some (.cells (ints zs) 3) ∧ LogAt W2 (wr.heap.size + 5) wr.heap.size (wr.heap.size + 1) 0 [] ∧ KeepAt W2 w.heap.size kv klen kcap kb koff ks ∧
      W2.cell? ⟨wr.heap.size + 1 + 1 + 1 + 1, 1, none⟩ = some (.pointer (some ⟨wr.heap.size + 1 + 1 + 1, 0, none⟩)) ∧ RngAt W2 (wr.heap.size + 1 + 1 + 1) (wr.heap.size + 1 + 1) seed seed ∧ (∀ r, r < wr.heap.size → W2.heap[r]? = wr.heap[r]?) ∧ W2.os = wr.os ∧ W2.tape = wr.tape ∧ W2.output = wr.output := by
  have hkb : klen ≠ 0 → kb < w.heap.size := fun h => World.block_lt_of_cell? w _ (hkc 0 (by omega)).2
  refine ⟨_, rfl, new2_size wr seed, stage_apart hs hkb, ?_, ?_, ?_, ?_, ?_, fun r hr => new2_old wr seed r hr, rfl, rfl, rfl⟩
  · rw [new2_old wr seed _ (by omega), hB.block _ (by omega)]
    exact hC
  · have := log_new wr seed
    rwa [new2_size] at this
  · exact hk.keep (new2_old wr seed _ (by omega)) (fun h => new2_old wr seed _ (by have := hkb h; omega))
  · have := withNew_sched (withBoxes wr) seed
    rwa [withBoxes_size] at this
  · have := withNew_rng (withBoxes wr) seed
    rwa [withBoxes_size] at this
end Go.Proofs.Ybulkaawi
