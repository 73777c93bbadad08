/-
  parted builds a chain of nodes: 'Chain' says which, of the world behind the call.
-/
import Derived.Test.YbulkaausSlots
import Derived.LaidEqlPtr
namespace Go.Proofs.Ybulkaaus
open Go.RowKit

/-- Old blocks stand, no mark has turned. -/
def Ext (w w' : World) : Prop := Below w.heap.size w w' ∧ ∀ a, w'.frozen? a = w.frozen? a

theorem Ext.refl (w : World) : Ext w w := ⟨Below.refl _ _, fun _ => rfl⟩
theorem Ext.trans {w w1 w2 : World} (h : Ext w w1) (k : Ext w1 w2) : Ext w w2 :=
  ⟨h.1.trans (k.1.mono h.1.size), fun a => (k.2 a).trans (h.2 a)⟩
theorem Ext.alloc {w w1 : World} (h : Ext w w1) (c : Array Value) (t : TypeId) : Ext w (w1.alloc (.cells c t)) :=
  ⟨h.1.alloc h.1.size _, fun a => (frozen?_alloc_cells w1 c t a).trans (h.2 a)⟩
theorem Ext.setCell {w w1 : World} (h : Ext w w1) {p : Addr} (hp : w.heap.size ≤ p.block) (u : Value) : Ext w (w1.setCell p u) :=
  ⟨h.1.setCell hp u, fun a => (World.frozen?_setCell _ _ _ _).trans (h.2 a)⟩
theorem Ext.grown {w w1 : World} (h : Ext w w1) : Grown w w1 := ⟨h.1.frame _, h.2, h.1.size⟩

/-- Block n holds a node's 32 slots. -/
def NodeIs (w : World) (n : Nat) (f : Nat → Option Addr) : Prop := ∀ i, i < 32 → w.cell? ⟨n, i, none⟩ = some (.pointer (f i))

/-- Block c is a cell of the trie. -/
def CelIs (w : World) (c : Nat) (child : Option Addr) (key : ByteArray) (val : Int) (next : Option Addr) : Prop :=
  w.heap[c]? = some (.cells #[.pointer child, .string key, .int .i64 val, .pointer next] 27)

/-- A node with one slot taken. -/
def one (i c : Nat) : Nat → Option Addr := fun j => if j = i then some ⟨c, 0, none⟩ else none
/-- A node with two slots taken. -/
def two (i a k b : Nat) : Nat → Option Addr := fun j => if j = i then some ⟨a, 0, none⟩ else if j = k then some ⟨b, 0, none⟩ else none

/-- The chain that starts at block n at the level of shift s, of at most k levels, all its blocks from lo on. -/
def Chain (w : World) (a b ha hb lo : Nat) : Nat → Nat → Nat → Prop
  | 0, _, _ => False
  | k + 1, n, s => lo ≤ n ∧ n < w.heap.size ∧
    if idx ha s = idx hb s then ∃ c m, lo ≤ c ∧ c < w.heap.size ∧ NodeIs w n (one (idx ha s) c) ∧ CelIs w c (some ⟨m, 0, none⟩) { data := #[] } 0 none ∧ Chain w a b ha hb lo k m (s + 5)
    else NodeIs w n (two (idx ha s) a (idx hb s) b)

theorem NodeIs.keep {w w' : World} {n : Nat} {f : Nat → Option Addr} (h : NodeIs w n f) (e : w'.heap[n]? = w.heap[n]?) : NodeIs w' n f :=
  fun i hi => (World.cell?_of_block (w := w) (a := ⟨n, i, none⟩) e).trans (h i hi)

theorem Chain.keep {w w' : World} {a b ha hb lo lo' : Nat} (hlo : lo' ≤ lo) (e : ∀ r, lo ≤ r → r < w.heap.size → w'.heap[r]? = w.heap[r]?) (hz : w.heap.size ≤ w'.heap.size) :
    ∀ (k n s : Nat), Chain w a b ha hb lo k n s → Chain w' a b ha hb lo' k n s
  | 0, _, _, h => h.elim
  | k + 1, n, s, ⟨h1, h2, h3⟩ => by
    refine ⟨Nat.le_trans hlo h1, Nat.lt_of_lt_of_le h2 hz, ?_⟩
    by_cases hi : idx ha s = idx hb s
    · rw [if_pos hi] at h3 ⊢
      obtain ⟨c, m, c1, c2, hn, hc, hm⟩ := h3
      exact ⟨c, m, Nat.le_trans hlo c1, Nat.lt_of_lt_of_le c2 hz, hn.keep (e n h1 h2), (e c c1 c2).trans hc, Chain.keep hlo e hz k m (s + 5) hm⟩
    · rw [if_neg hi] at h3 ⊢
      exact h3.keep (e n h1 h2)

theorem NodeIs.set {w : World} {n i : Nat} {f : Nat → Option Addr} (h : NodeIs w n f) (hi : i < 32) (p : Option Addr) :
    NodeIs (w.setCell ⟨n, i, none⟩ (.pointer p)) n (fun j => if j = i then p else f j) := by
  intro j hj
  show _ = some (Value.pointer (if j = i then p else f j))
  by_cases e : j = i
  · subst e
    rw [if_pos rfl]
    exact World.cell?_setCell_same w ⟨n, j, none⟩ _ (h j hj)
  · rw [if_neg e, World.cell?_setCell_other]
    · exact h j hj
    · intro e'; injection e' with _ e2 _; exact e e2.symm

/-- The 32 empty slots, as the text lays them. -/
def empty32 : Array Value := #[.pointer none, .pointer none, .pointer none, .pointer none, .pointer none, .pointer none, .pointer none, .pointer none, .pointer none, .pointer none, .pointer none, .pointer none, .pointer none, .pointer none, .pointer none, .pointer none, .pointer none, .pointer none, .pointer none, .pointer none, .pointer none, .pointer none, .pointer none, .pointer none, .pointer none, .pointer none, .pointer none, .pointer none, .pointer none, .pointer none, .pointer none, .pointer none]

theorem empty32_at (i : Nat) (hi : i < 32) : empty32[i]? = some (.pointer none) := by
  have e : empty32 = Array.replicate 32 (.pointer none) := rfl
  rw [e, Array.getElem?_replicate, if_pos hi]

theorem nodeIs_new (w : World) : NodeIs (w.alloc (.cells empty32 39)) w.heap.size (fun _ => none) := by
  intro i hi
  simp only [World.cell?, World.alloc, Array.getElem?_push_size]
  simpa using empty32_at i hi

/-! ### The tests on pointers -/
theorem eql_slots (n i j : Nat) (w : World) : (binOp .eql 40 (.pointer (some ⟨n, i, none⟩)) (.pointer (some ⟨n, j, none⟩))).run Yba.prog w = .ok (.bool (i == j)) w := by
  obtain ⟨t, hp, ti, hi, hsz⟩ : ∃ t, Yba.prog.underlying 40 = some (.pointer t) ∧ ∃ ti, Yba.prog.info? t = some ti ∧ ti.size ≠ 0 := ⟨_, Yba.underlying40, _, rfl, by decide⟩
  have hs : ∀ w, (sameAddr ⟨n, i, none⟩ ⟨n, j, none⟩).run Yba.prog w = .ok (i == j) w := by
    intro w
    have e : ((⟨n, i, none⟩ : Addr) == ⟨n, j, none⟩) = (i == j) := by rw [Bool.eq_iff_iff]; simp
    simp [sameAddr, e]
  have h : ∀ d : Nat, (Op.equalIn (d + 1) 40 (.pointer (some ⟨n, i, none⟩)) (.pointer (some ⟨n, j, none⟩))).run Yba.prog w = .ok (i == j) w := fun d => by
    simp [Op.equalIn, run_underlying hp, sizeOf, typeInfo, hi, hsz, hs]
  simp only [binOp]
  simp [Op.equal, Op.maxDepth, h 9999]

/-! ### The walk -/
theorem heap_new (w : World) (o : Obj) : (w.alloc o).heap[w.heap.size]? = some o := (MapKept.heap_alloc w _).1
theorem cell_new (w : World) (c : Array Value) (t : TypeId) (i : Nat) (v : Value) (h : c[i]? = some v) : (w.alloc (.cells c t)).cell? ⟨w.heap.size, i, none⟩ = some v := by
  unfold World.cell?
  dsimp only
  rw [heap_new]
  simpa using h
theorem new_unfrozen (w : World) (c : Array Value) (t : TypeId) (i : Nat) : (w.alloc (.cells c t)).frozen? ⟨w.heap.size, i, none⟩ = false := by
  rw [frozen?_alloc_cells]
  simp [World.frozen?]

/-- The last level: the two slots part. -/
theorem parted_last (a b ha hb s : Nat) (va vb : Value) (w : World) (hha : ha < 18446744073709551616) (hhb : hb < 18446744073709551616) (hs : s < 64)
    (hne : idx ha s ≠ idx hb s) (hca : w.cell? ⟨a, 0, none⟩ = some va) (hcb : w.cell? ⟨b, 0, none⟩ = some vb) :
    Calls Yba.prog 4 #[.pointer (some ⟨a, 0, none⟩), .int .u64 ha, .pointer (some ⟨b, 0, none⟩), .int .u64 hb, .int .u64 s] w fun e w' =>
      e = .returned (.pointer (some ⟨w.heap.size, 0, none⟩)) ∧ Ext w w' ∧ w.heap.size < w'.heap.size ∧ NodeIs w' w.heap.size (two (idx ha s) a (idx hb s) b) := by
  have hab : (idx ha s == idx hb s) = false := by simpa using hne
  have hq := fun w' n => eql_slots n (idx ha s) (idx hb s) w'
  rw [hab] at hq
  have h0 := nodeIs_new w
  have hx0 := (Ext.refl w).alloc empty32 39
  have hz0 : (w.alloc (.cells empty32 39)).heap.size = w.heap.size + 1 := by simp
  have hf0 := fun i => new_unfrozen w empty32 39 i
  have hla : a < w.heap.size := World.block_lt_of_cell? w _ hca
  have hlb : b < w.heap.size := World.block_lt_of_cell? w _ hcb
  have hca0 : (w.alloc (.cells empty32 39)).cell? ⟨a, 0, none⟩ = some va := (hx0.1.cell (p := ⟨a, 0, none⟩) hla).trans hca
  have hcb0 : (w.alloc (.cells empty32 39)).cell? ⟨b, 0, none⟩ = some vb := (hx0.1.cell (p := ⟨b, 0, none⟩) hlb).trans hcb
  go_enter Yba.func4, Yba.ntmps4
  go_wp2_with fail
  refine (slot_any _ ha s hha hs _).mono ?_
  rintro e w' ⟨rfl, hw1⟩
  change w.alloc (.cells empty32 39) = w' at hw1
  rw [hw1] at h0 hx0 hz0 hf0 hca0 hcb0
  clear hw1 hab
  go_wp2_with fail
  refine (slot_any _ hb s hhb hs _).mono ?_
  rintro e w2 ⟨rfl, rfl⟩
  go_wp2_with fail
  refine (store_any _ (idx ha s) a _ _ _ (h0 _ (idx_lt ha s)) (hf0 _) hca0).mono ?_
  rintro e w3 ⟨rfl, hw3⟩
  have h1 := h0.set (idx_lt ha s) (some ⟨a, 0, none⟩)
  have hx1 := hx0.setCell (p := ⟨w.heap.size, idx ha s, none⟩) (Nat.le_refl _) (.pointer (some ⟨a, 0, none⟩))
  rw [hw3] at h1 hx1
  have hz1 : w3.heap.size = w.heap.size + 1 := by rw [← hw3]; simpa [World.setCell] using hz0
  have hf1 : w3.frozen? ⟨w.heap.size, idx hb s, none⟩ = false := by rw [← hw3, World.frozen?_setCell]; exact hf0 _
  have hcb1 : w3.cell? ⟨b, 0, none⟩ = some vb := (hx1.1.cell (p := ⟨b, 0, none⟩) hlb).trans hcb
  clear hw3 h0 hx0 hz0 hf0 hca0 hcb0
  go_wp2_with fail
  refine (store_any _ (idx hb s) b _ _ _ (h1 _ (idx_lt hb s)) hf1 hcb1).mono ?_
  rintro e w4 ⟨rfl, hw4⟩
  have h2 := h1.set (idx_lt hb s) (some ⟨b, 0, none⟩)
  have hx2 := hx1.setCell (p := ⟨w.heap.size, idx hb s, none⟩) (Nat.le_refl _) (.pointer (some ⟨b, 0, none⟩))
  rw [hw4] at h2 hx2
  have hz2 : w4.heap.size = w.heap.size + 1 := by rw [← hw4]; simpa [World.setCell] using hz1
  clear hw4 h1 hx1 hz1 hf1 hcb1
  go_wp2_with fail
  go_ret
  refine ⟨rfl, hx2, by omega, fun i hi => ?_⟩
  rw [h2 i hi]
  unfold two
  dsimp only
  by_cases e1 : i = idx hb s
  · have e2 : i ≠ idx ha s := fun e => hne (by omega)
    rw [if_pos e1, if_neg e2, if_pos e1]
  · rw [if_neg e1, if_neg e1]

/-- The two hashes part at or above s. -/
def Diff (ha hb s : Nat) : Prop := (ha ^^^ hb) / 2 ^ s ≠ 0

theorem diff_lt {ha hb s : Nat} (hha : ha < 18446744073709551616) (hhb : hb < 18446744073709551616) (h : Diff ha hb s) : s < 64 := by
  have hx : ha ^^^ hb < 2 ^ 64 := Nat.xor_lt_two_pow hha hhb
  by_cases c : s < 64
  · exact c
  · exact absurd (Nat.div_eq_of_lt (Nat.lt_of_lt_of_le hx (Nat.pow_le_pow_right (by decide) (by omega)))) h

theorem diff_next {ha hb s : Nat} (h : Diff ha hb s) (e : idx ha s = idx hb s) : Diff ha hb (s + 5) := by
  unfold Diff at *
  unfold idx at e
  rw [Nat.pow_add, ← Nat.div_div_eq_div_mul]
  have hx : (ha ^^^ hb) / 2 ^ s = (ha / 2 ^ s) ^^^ (hb / 2 ^ s) := by
    rw [← Nat.shiftRight_eq_div_pow, ← Nat.shiftRight_eq_div_pow, ← Nat.shiftRight_eq_div_pow, Nat.shiftRight_xor_distrib]
  have hm : ((ha ^^^ hb) / 2 ^ s) % 2 ^ 5 = 0 := by
    rw [hx, Nat.xor_mod_two_pow]
    have e' : ha / 2 ^ s % 2 ^ 5 = hb / 2 ^ s % 2 ^ 5 := e
    rw [e', Nat.xor_self]
  intro h0
  have := Nat.div_add_mod ((ha ^^^ hb) / 2 ^ s) (2 ^ 5)
  rw [h0, hm] at this
  omega

set_option maxHeartbeats 400000 in
theorem parted_any (a b ha hb : Nat) (va vb : Value) (hha : ha < 18446744073709551616) (hhb : hb < 18446744073709551616) (k : Nat) :
    ∀ (s : Nat) (w : World), 64 ≤ s + 5 * k → Diff ha hb s → w.cell? ⟨a, 0, none⟩ = some va → w.cell? ⟨b, 0, none⟩ = some vb →
    Calls Yba.prog 4 #[.pointer (some ⟨a, 0, none⟩), .int .u64 ha, .pointer (some ⟨b, 0, none⟩), .int .u64 hb, .int .u64 s] w fun e w' =>
      ∃ n, e = .returned (.pointer (some ⟨n, 0, none⟩)) ∧ Ext w w' ∧ Chain w' a b ha hb w.heap.size k n s := by
  induction k with
  | zero =>
    intro s w hk hd
    have := diff_lt hha hhb hd
    omega
  | succ k ih =>
    intro s w hk hd hca hcb
    have hs := diff_lt hha hhb hd
    by_cases hi : idx ha s = idx hb s
    · have IH := fun (w1 : World) (h1 : w1.cell? ⟨a, 0, none⟩ = some va) (h2 : w1.cell? ⟨b, 0, none⟩ = some vb) => ih (s + 5) w1 (by omega) (diff_next hd hi) h1 h2
      clear ih
      have H : Hid (∀ (w1 : World) (h1 : w1.cell? ⟨a, 0, none⟩ = some va) (h2 : w1.cell? ⟨b, 0, none⟩ = some vb), Calls Yba.prog 4 #[.pointer (some ⟨a, 0, none⟩), .int .u64 ha, .pointer (some ⟨b, 0, none⟩), .int .u64 hb, .int .u64 ((s : Int) + 5)] w1 fun e w' =>
        ∃ n, e = .returned (.pointer (some ⟨n, 0, none⟩)) ∧ Ext w1 w' ∧ Chain w' a b ha hb w1.heap.size k n (s + 5)) := IH
      clear IH
      have HI : Hid (idx ha s = idx hb s) := hi
      have hab : (idx ha s == idx hb s) = true := by simpa using hi
      have hq := fun w' n => eql_slots n (idx ha s) (idx hb s) w'
      rw [hab] at hq
      clear hi hab
      have h0 := nodeIs_new w
      have hx0 := (Ext.refl w).alloc empty32 39
      have hz0 : (w.alloc (.cells empty32 39)).heap.size = w.heap.size + 1 := by simp
      have hf0 := fun i => new_unfrozen w empty32 39 i
      have hla : a < w.heap.size := World.block_lt_of_cell? w _ hca
      have hlb : b < w.heap.size := World.block_lt_of_cell? w _ hcb
      have hca0 : (w.alloc (.cells empty32 39)).cell? ⟨a, 0, none⟩ = some va := (hx0.1.cell (p := ⟨a, 0, none⟩) hla).trans hca
      have hcb0 : (w.alloc (.cells empty32 39)).cell? ⟨b, 0, none⟩ = some vb := (hx0.1.cell (p := ⟨b, 0, none⟩) hlb).trans hcb
      go_enter Yba.func4, Yba.ntmps4
      go_wp2_with fail
      refine (slot_any _ ha s hha hs _).mono ?_
      rintro e w1 ⟨rfl, hw1⟩
      change w.alloc (.cells empty32 39) = w1 at hw1
      rw [hw1] at h0 hx0 hz0 hf0 hca0 hcb0
      clear hw1
      go_wp2_with fail
      refine (slot_any _ hb s hhb hs _).mono ?_
      rintro e w2 ⟨rfl, rfl⟩
      go_wp2_with fail
      refine (H.out w1 hca0 hcb0).mono ?_
      rintro e w2 ⟨m, rfl, hx2, hch⟩
      have h2 : NodeIs w2 w.heap.size (fun _ => none) := h0.keep (hx2.1.block _ (by omega))
      have hf2 : w2.frozen? ⟨w.heap.size, idx ha s, none⟩ = false := (hx2.2 _).trans (hf0 _)
      have hz2 : w.heap.size < w2.heap.size := by have := hx2.1.size; omega
      have hx3 := (hx0.trans hx2).alloc #[.pointer (some ⟨m, 0, none⟩), .string { data := #[] }, .int .i64 0, .pointer none] 27
      have hb3 : Below w2.heap.size w2 (w2.alloc (.cells #[.pointer (some ⟨m, 0, none⟩), .string { data := #[] }, .int .i64 0, .pointer none] 27)) := (Below.refl _ _).alloc (Nat.le_refl _) _
      have h3 := h2.keep (hb3.block w.heap.size hz2)
      have hf3 := (frozen?_alloc_cells w2 #[.pointer (some ⟨m, 0, none⟩), .string { data := #[] }, .int .i64 0, .pointer none] 27 ⟨w.heap.size, idx ha s, none⟩).trans hf2
      have hc3 := heap_new w2 (.cells #[.pointer (some ⟨m, 0, none⟩), .string { data := #[] }, .int .i64 0, .pointer none] 27)
      have hd3 := cell_new w2 #[.pointer (some ⟨m, 0, none⟩), .string { data := #[] }, .int .i64 0, .pointer none] 27 0 _ rfl
      clear h0 hx0 hf0 hca0 hcb0 H
      go_wp2_with fail
      refine (store_any _ (idx ha s) w2.heap.size _ _ _ (h3 _ (idx_lt ha s)) hf3 hd3).mono ?_
      rintro e w4 ⟨rfl, hw4⟩
      have h4 := h3.set (idx_lt ha s) (some ⟨w2.heap.size, 0, none⟩)
      have hx4 := hx3.setCell (p := ⟨w.heap.size, idx ha s, none⟩) (Nat.le_refl _) (.pointer (some ⟨w2.heap.size, 0, none⟩))
      have hr4 := fun r (h : r ≠ w.heap.size) => Below.heap_setCell (w2.alloc (.cells #[.pointer (some ⟨m, 0, none⟩), .string { data := #[] }, .int .i64 0, .pointer none] 27)) ⟨w.heap.size, idx ha s, none⟩ (.pointer (some ⟨w2.heap.size, 0, none⟩)) r h
      rw [hw4] at h4 hx4
      rw [hw4] at hr4
      have hz4 : w2.heap.size < w4.heap.size := by rw [← hw4]; simp [World.setCell]
      clear hw4 h3 hx3 hf3 hd3 h2 hf2
      go_wp2_with fail
      go_ret
      refine ⟨_, rfl, hx4, Nat.le_refl _, by omega, ?_⟩
      rw [if_pos HI.out]
      refine ⟨w2.heap.size, m, by omega, hz4, fun i hi => ?_, (hr4 _ (by omega)).trans hc3, hch.keep (by omega) (fun r h1 h2 => ?_) (by omega)⟩
      · rw [h4 i hi]; rfl
      · rw [hr4 r (by omega)]
        exact hb3.block r h2
    · refine (parted_last a b ha hb s va vb w hha hhb hs hi hca hcb).mono ?_
      rintro e w' ⟨rfl, hx, hz, hn⟩
      exact ⟨_, rfl, hx, Nat.le_refl _, hz, by rw [if_neg hi]; exact hn⟩
end Go.Proofs.Ybulkaaus
