/-
  The walk of LawS1344AParts: it returns true. Two hashes that part at or above the shift, or are made to; with a tail or without.
-/
import Derived.Test.YbulkaausWalk
import Derived.OpenShut
namespace Go.Proofs.Ybulkaaus
open Go.RowKit

/-- A cell's four parts, as the text lays them. -/
def cel (k : ByteArray) (v : Int) (next : Option Addr) : Array Value := #[.pointer none, .string k, .int .i64 v, .pointer next]

theorem celIs_last (w : World) (n : Nat) (hn : w.heap.size = n) (k : ByteArray) (v : Int) (next : Option Addr) : CelIs (w.alloc (.cells (cel k v next) 27)) n none k v next := by
  subst hn
  exact heap_new w _

theorem CelIs.keep {w w' : World} {c : Nat} {child : Option Addr} {key : ByteArray} {val : Int} {next : Option Addr} (h : CelIs w c child key val next) (e : w'.heap[c]? = w.heap[c]?) : CelIs w' c child key val next := e.trans h

theorem diff_made {x y s : Nat} (h : ¬ Diff x y s) : Diff x (y ^^^ 2 ^ s) s := by
  have h0 : (x ^^^ y) / 2 ^ s = 0 := by
    by_cases c : (x ^^^ y) / 2 ^ s = 0
    · exact c
    · exact absurd c h
  unfold Diff
  rw [← Nat.xor_assoc, ← Nat.shiftRight_eq_div_pow, Nat.shiftRight_xor_distrib, Nat.shiftRight_eq_div_pow, Nat.shiftRight_eq_div_pow, h0, Nat.zero_xor, Nat.div_self (Nat.two_pow_pos _)]
  decide

theorem xor_one (y s : Nat) (hy : y < 18446744073709551616) (hs : s < 64) : bits .xor .u64 (y : Int) (IntKind.u64.wrap (2 ^ s)) = ((y ^^^ 2 ^ s : Nat) : Int) ∧ y ^^^ 2 ^ s < 18446744073709551616 := by
  have h2 : 2 ^ s < 18446744073709551616 := Nat.pow_lt_pow_right (by decide) (show s < 64 from hs)
  have e : IntKind.u64.wrap (2 ^ s) = ((2 ^ s : Nat) : Int) := by
    rw [IntKind.wrap_u64]
    have : ((2 : Int) ^ s) = ((2 ^ s : Nat) : Int) := by simp
    rw [this]
    exact Int.emod_eq_of_lt (Int.natCast_nonneg _) (Int.ofNat_lt.2 h2)
  exact ⟨by rw [e, u64_xor_nat _ _ hy h2], Nat.xor_lt_two_pow (n := 64) hy h2⟩

set_option maxRecDepth 100000 in
theorem law_dc (x y y' s : Nat) (z : Int) (ka kb : ByteArray) (va vb : Int) (w : World) (hx : x < 18446744073709551616) (hy' : y' < 18446744073709551616) (hz0 : 0 ≤ z) (hz1 : z ≤ 255) (hs : s < 64) (ez : z % 64 = (s : Int))
    (ex : bits .xor .u64 (x : Int) (y : Int) = ((x ^^^ y : Nat) : Int)) (et : (((x ^^^ y : Nat) : Int) / 2 ^ s == 0) = false)
    (ey : y = y') (hd : Diff x y' s) :
    Calls Yba.prog 3 #[.int .u64 x, .int .u64 y, .int .u8 z, .string ka, .string kb, .int .i64 va, .int .i64 vb, .bool true] w fun e w' => e = .returned (.bool true) ∧ Grown w w' := by
  subst ey
  have HD : Hid (Diff x y s) := hd
  clear hd
  have hx0 : Ext w (((w.alloc (.cells (cel kb vb none) 27)).alloc (.cells (cel ka va (some ⟨w.heap.size, 0, none⟩)) 27)).alloc (.cells (cel kb vb none) 27)) := (((Ext.refl w).alloc (cel kb vb none) 27).alloc (cel ka va (some ⟨w.heap.size, 0, none⟩)) 27).alloc (cel kb vb none) 27
  have hB0 : CelIs (((w.alloc (.cells (cel kb vb none) 27)).alloc (.cells (cel ka va (some ⟨w.heap.size, 0, none⟩)) 27)).alloc (.cells (cel kb vb none) 27)) (w.heap.size + 1 + 1) none kb vb none := celIs_last ((w.alloc (.cells (cel kb vb none) 27)).alloc (.cells (cel ka va (some ⟨w.heap.size, 0, none⟩)) 27)) _ (by simp) kb vb none
  have hA0 : CelIs (((w.alloc (.cells (cel kb vb none) 27)).alloc (.cells (cel ka va (some ⟨w.heap.size, 0, none⟩)) 27)).alloc (.cells (cel kb vb none) 27)) (w.heap.size + 1) none ka va (some ⟨w.heap.size, 0, none⟩) := (celIs_last (w.alloc (.cells (cel kb vb none) 27)) _ (by simp) ka va (some ⟨w.heap.size, 0, none⟩)).keep (Below.heap_alloc _ _ _ (by simp))
  have hlA : (w.heap.size + 1) < (((w.alloc (.cells (cel kb vb none) 27)).alloc (.cells (cel ka va (some ⟨w.heap.size, 0, none⟩)) 27)).alloc (.cells (cel kb vb none) 27)).heap.size := by simp
  have hlB : (w.heap.size + 1 + 1) < (((w.alloc (.cells (cel kb vb none) 27)).alloc (.cells (cel ka va (some ⟨w.heap.size, 0, none⟩)) 27)).alloc (.cells (cel kb vb none) 27)).heap.size := by simp
  have hns := fun w1 => neq_same ⟨w.heap.size, 0, none⟩ w1
  go_enter Yba.func3, Yba.ntmps3
  go_wp2_with fail
  refine (parted_any (w.heap.size + 1) (w.heap.size + 1 + 1) x y _ _ hx hy' 13 s (((w.alloc (.cells (cel kb vb none) 27)).alloc (.cells (cel ka va (some ⟨w.heap.size, 0, none⟩)) 27)).alloc (.cells (cel kb vb none) 27)) (by omega) HD.out (hA0.cell 0 rfl) (hB0.cell 0 rfl)).mono ?_
  rintro e w1 ⟨n, rfl, hx1, hch⟩
  have hA1 := hA0.keep (hx1.1.block _ hlA)
  have hB1 := hB0.keep (hx1.1.block _ hlB)
  have a0 := hA1.cell 0 rfl
  have a1 := hA1.cell 1 rfl
  have a2 := hA1.cell 2 rfl
  have a3 := hA1.cell 3 rfl
  have b0 := hB1.cell 0 rfl
  have b1 := hB1.cell 1 rfl
  have b2 := hB1.cell 2 rfl
  have b3 := hB1.cell 3 rfl
  have hE : Hid (Ext w w1) := hx0.trans hx1
  generalize (((w.alloc (.cells (cel kb vb none) 27)).alloc (.cells (cel ka va (some ⟨w.heap.size, 0, none⟩)) 27)).alloc (.cells (cel kb vb none) 27)).heap.size = lo at hch
  clear hA0 hB0 hx0 hx1 hlA hlB
  go_wp2_with fail
  refine (walk_any (w.heap.size + 1) (w.heap.size + 1 + 1) x y lo w1 hx hy' hA1.shape hB1.shape n s 13 HD.out hch).mono ?_
  rintro e w2 ⟨rfl, rfl⟩
  clear hch hA1 hB1
  go_wp2_with fail
  go_ret
  exact ⟨rfl, hE.out.grown⟩

set_option maxRecDepth 100000 in
theorem law_dn (x y y' s : Nat) (z : Int) (ka kb : ByteArray) (va vb : Int) (w : World) (hx : x < 18446744073709551616) (hy' : y' < 18446744073709551616) (hz0 : 0 ≤ z) (hz1 : z ≤ 255) (hs : s < 64) (ez : z % 64 = (s : Int))
    (ex : bits .xor .u64 (x : Int) (y : Int) = ((x ^^^ y : Nat) : Int)) (et : (((x ^^^ y : Nat) : Int) / 2 ^ s == 0) = false)
    (ey : y = y') (hd : Diff x y' s) :
    Calls Yba.prog 3 #[.int .u64 x, .int .u64 y, .int .u8 z, .string ka, .string kb, .int .i64 va, .int .i64 vb, .bool false] w fun e w' => e = .returned (.bool true) ∧ Grown w w' := by
  subst ey
  have HD : Hid (Diff x y s) := hd
  clear hd
  have hx0 : Ext w ((w.alloc (.cells (cel ka va none) 27)).alloc (.cells (cel kb vb none) 27)) := ((Ext.refl w).alloc (cel ka va none) 27).alloc (cel kb vb none) 27
  have hB0 : CelIs ((w.alloc (.cells (cel ka va none) 27)).alloc (.cells (cel kb vb none) 27)) (w.heap.size + 1) none kb vb none := celIs_last (w.alloc (.cells (cel ka va none) 27)) _ (by simp) kb vb none
  have hA0 : CelIs ((w.alloc (.cells (cel ka va none) 27)).alloc (.cells (cel kb vb none) 27)) w.heap.size none ka va none := (celIs_last (w) _ (by simp) ka va none).keep (Below.heap_alloc _ _ _ (by simp))
  have hlA : w.heap.size < ((w.alloc (.cells (cel ka va none) 27)).alloc (.cells (cel kb vb none) 27)).heap.size := by simp; omega
  have hlB : (w.heap.size + 1) < ((w.alloc (.cells (cel ka va none) 27)).alloc (.cells (cel kb vb none) 27)).heap.size := by simp
  have hns := fun w1 => neq_same ⟨w.heap.size, 0, none⟩ w1
  go_enter Yba.func3, Yba.ntmps3
  go_wp2_with fail
  refine (parted_any w.heap.size (w.heap.size + 1) x y _ _ hx hy' 13 s ((w.alloc (.cells (cel ka va none) 27)).alloc (.cells (cel kb vb none) 27)) (by omega) HD.out (hA0.cell 0 rfl) (hB0.cell 0 rfl)).mono ?_
  rintro e w1 ⟨n, rfl, hx1, hch⟩
  have hA1 := hA0.keep (hx1.1.block _ hlA)
  have hB1 := hB0.keep (hx1.1.block _ hlB)
  have a0 := hA1.cell 0 rfl
  have a1 := hA1.cell 1 rfl
  have a2 := hA1.cell 2 rfl
  have a3 := hA1.cell 3 rfl
  have b0 := hB1.cell 0 rfl
  have b1 := hB1.cell 1 rfl
  have b2 := hB1.cell 2 rfl
  have b3 := hB1.cell 3 rfl
  have hE : Hid (Ext w w1) := hx0.trans hx1
  generalize ((w.alloc (.cells (cel ka va none) 27)).alloc (.cells (cel kb vb none) 27)).heap.size = lo at hch
  clear hA0 hB0 hx0 hx1 hlA hlB
  go_wp2_with fail
  refine (walk_any w.heap.size (w.heap.size + 1) x y lo w1 hx hy' hA1.shape hB1.shape n s 13 HD.out hch).mono ?_
  rintro e w2 ⟨rfl, rfl⟩
  clear hch hA1 hB1
  go_wp2_with fail
  go_ret
  exact ⟨rfl, hE.out.grown⟩

set_option maxRecDepth 100000 in
theorem law_mc (x y y' s : Nat) (z : Int) (ka kb : ByteArray) (va vb : Int) (w : World) (hx : x < 18446744073709551616) (hy' : y' < 18446744073709551616) (hz0 : 0 ≤ z) (hz1 : z ≤ 255) (hs : s < 64) (ez : z % 64 = (s : Int))
    (ex : bits .xor .u64 (x : Int) (y : Int) = ((x ^^^ y : Nat) : Int)) (et : (((x ^^^ y : Nat) : Int) / 2 ^ s == 0) = true)
    (ey : bits .xor .u64 (y : Int) (IntKind.u64.wrap (2 ^ s)) = (y' : Int)) (hd : Diff x y' s) :
    Calls Yba.prog 3 #[.int .u64 x, .int .u64 y, .int .u8 z, .string ka, .string kb, .int .i64 va, .int .i64 vb, .bool true] w fun e w' => e = .returned (.bool true) ∧ Grown w w' := by
  have HD : Hid (Diff x y' s) := hd
  clear hd
  have hx0 : Ext w (((w.alloc (.cells (cel kb vb none) 27)).alloc (.cells (cel ka va (some ⟨w.heap.size, 0, none⟩)) 27)).alloc (.cells (cel kb vb none) 27)) := (((Ext.refl w).alloc (cel kb vb none) 27).alloc (cel ka va (some ⟨w.heap.size, 0, none⟩)) 27).alloc (cel kb vb none) 27
  have hB0 : CelIs (((w.alloc (.cells (cel kb vb none) 27)).alloc (.cells (cel ka va (some ⟨w.heap.size, 0, none⟩)) 27)).alloc (.cells (cel kb vb none) 27)) (w.heap.size + 1 + 1) none kb vb none := celIs_last ((w.alloc (.cells (cel kb vb none) 27)).alloc (.cells (cel ka va (some ⟨w.heap.size, 0, none⟩)) 27)) _ (by simp) kb vb none
  have hA0 : CelIs (((w.alloc (.cells (cel kb vb none) 27)).alloc (.cells (cel ka va (some ⟨w.heap.size, 0, none⟩)) 27)).alloc (.cells (cel kb vb none) 27)) (w.heap.size + 1) none ka va (some ⟨w.heap.size, 0, none⟩) := (celIs_last (w.alloc (.cells (cel kb vb none) 27)) _ (by simp) ka va (some ⟨w.heap.size, 0, none⟩)).keep (Below.heap_alloc _ _ _ (by simp))
  have hlA : (w.heap.size + 1) < (((w.alloc (.cells (cel kb vb none) 27)).alloc (.cells (cel ka va (some ⟨w.heap.size, 0, none⟩)) 27)).alloc (.cells (cel kb vb none) 27)).heap.size := by simp
  have hlB : (w.heap.size + 1 + 1) < (((w.alloc (.cells (cel kb vb none) 27)).alloc (.cells (cel ka va (some ⟨w.heap.size, 0, none⟩)) 27)).alloc (.cells (cel kb vb none) 27)).heap.size := by simp
  have hns := fun w1 => neq_same ⟨w.heap.size, 0, none⟩ w1
  go_enter Yba.func3, Yba.ntmps3
  go_wp2_with fail
  refine (parted_any (w.heap.size + 1) (w.heap.size + 1 + 1) x y' _ _ hx hy' 13 s (((w.alloc (.cells (cel kb vb none) 27)).alloc (.cells (cel ka va (some ⟨w.heap.size, 0, none⟩)) 27)).alloc (.cells (cel kb vb none) 27)) (by omega) HD.out (hA0.cell 0 rfl) (hB0.cell 0 rfl)).mono ?_
  rintro e w1 ⟨n, rfl, hx1, hch⟩
  have hA1 := hA0.keep (hx1.1.block _ hlA)
  have hB1 := hB0.keep (hx1.1.block _ hlB)
  have a0 := hA1.cell 0 rfl
  have a1 := hA1.cell 1 rfl
  have a2 := hA1.cell 2 rfl
  have a3 := hA1.cell 3 rfl
  have b0 := hB1.cell 0 rfl
  have b1 := hB1.cell 1 rfl
  have b2 := hB1.cell 2 rfl
  have b3 := hB1.cell 3 rfl
  have hE : Hid (Ext w w1) := hx0.trans hx1
  generalize (((w.alloc (.cells (cel kb vb none) 27)).alloc (.cells (cel ka va (some ⟨w.heap.size, 0, none⟩)) 27)).alloc (.cells (cel kb vb none) 27)).heap.size = lo at hch
  clear hA0 hB0 hx0 hx1 hlA hlB
  go_wp2_with fail
  refine (walk_any (w.heap.size + 1) (w.heap.size + 1 + 1) x y' lo w1 hx hy' hA1.shape hB1.shape n s 13 HD.out hch).mono ?_
  rintro e w2 ⟨rfl, rfl⟩
  clear hch hA1 hB1
  go_wp2_with fail
  go_ret
  exact ⟨rfl, hE.out.grown⟩

set_option maxRecDepth 100000 in
theorem law_mn (x y y' s : Nat) (z : Int) (ka kb : ByteArray) (va vb : Int) (w : World) (hx : x < 18446744073709551616) (hy' : y' < 18446744073709551616) (hz0 : 0 ≤ z) (hz1 : z ≤ 255) (hs : s < 64) (ez : z % 64 = (s : Int))
    (ex : bits .xor .u64 (x : Int) (y : Int) = ((x ^^^ y : Nat) : Int)) (et : (((x ^^^ y : Nat) : Int) / 2 ^ s == 0) = true)
    (ey : bits .xor .u64 (y : Int) (IntKind.u64.wrap (2 ^ s)) = (y' : Int)) (hd : Diff x y' s) :
    Calls Yba.prog 3 #[.int .u64 x, .int .u64 y, .int .u8 z, .string ka, .string kb, .int .i64 va, .int .i64 vb, .bool false] w fun e w' => e = .returned (.bool true) ∧ Grown w w' := by
  have HD : Hid (Diff x y' s) := hd
  clear hd
  have hx0 : Ext w ((w.alloc (.cells (cel ka va none) 27)).alloc (.cells (cel kb vb none) 27)) := ((Ext.refl w).alloc (cel ka va none) 27).alloc (cel kb vb none) 27
  have hB0 : CelIs ((w.alloc (.cells (cel ka va none) 27)).alloc (.cells (cel kb vb none) 27)) (w.heap.size + 1) none kb vb none := celIs_last (w.alloc (.cells (cel ka va none) 27)) _ (by simp) kb vb none
  have hA0 : CelIs ((w.alloc (.cells (cel ka va none) 27)).alloc (.cells (cel kb vb none) 27)) w.heap.size none ka va none := (celIs_last (w) _ (by simp) ka va none).keep (Below.heap_alloc _ _ _ (by simp))
  have hlA : w.heap.size < ((w.alloc (.cells (cel ka va none) 27)).alloc (.cells (cel kb vb none) 27)).heap.size := by simp; omega
  have hlB : (w.heap.size + 1) < ((w.alloc (.cells (cel ka va none) 27)).alloc (.cells (cel kb vb none) 27)).heap.size := by simp
  have hns := fun w1 => neq_same ⟨w.heap.size, 0, none⟩ w1
  go_enter Yba.func3, Yba.ntmps3
  go_wp2_with fail
  refine (parted_any w.heap.size (w.heap.size + 1) x y' _ _ hx hy' 13 s ((w.alloc (.cells (cel ka va none) 27)).alloc (.cells (cel kb vb none) 27)) (by omega) HD.out (hA0.cell 0 rfl) (hB0.cell 0 rfl)).mono ?_
  rintro e w1 ⟨n, rfl, hx1, hch⟩
  have hA1 := hA0.keep (hx1.1.block _ hlA)
  have hB1 := hB0.keep (hx1.1.block _ hlB)
  have a0 := hA1.cell 0 rfl
  have a1 := hA1.cell 1 rfl
  have a2 := hA1.cell 2 rfl
  have a3 := hA1.cell 3 rfl
  have b0 := hB1.cell 0 rfl
  have b1 := hB1.cell 1 rfl
  have b2 := hB1.cell 2 rfl
  have b3 := hB1.cell 3 rfl
  have hE : Hid (Ext w w1) := hx0.trans hx1
  generalize ((w.alloc (.cells (cel ka va none) 27)).alloc (.cells (cel kb vb none) 27)).heap.size = lo at hch
  clear hA0 hB0 hx0 hx1 hlA hlB
  go_wp2_with fail
  refine (walk_any w.heap.size (w.heap.size + 1) x y' lo w1 hx hy' hA1.shape hB1.shape n s 13 HD.out hch).mono ?_
  rintro e w2 ⟨rfl, rfl⟩
  clear hch hA1 hB1
  go_wp2_with fail
  go_ret
  exact ⟨rfl, hE.out.grown⟩

theorem law_any (x y z : Nat) (ka kb : ByteArray) (va vb : Int) (c : Bool) (w : World) (hx : x < 18446744073709551616) (hy : y < 18446744073709551616) (hz : z ≤ 255) :
    Calls Yba.prog 3 #[.int .u64 x, .int .u64 y, .int .u8 z, .string ka, .string kb, .int .i64 va, .int .i64 vb, .bool c] w fun e w' => e = .returned (.bool true) ∧ Grown w w' := by
  have hs : z % 64 < 64 := Nat.mod_lt _ (by decide)
  have ez : (z : Int) % 64 = ((z % 64 : Nat) : Int) := by simp
  generalize z % 64 = s at hs ez
  have ex : bits .xor .u64 (x : Int) (y : Int) = ((x ^^^ y : Nat) : Int) := u64_xor_nat x y hx hy
  have eq : ((x ^^^ y : Nat) : Int) / 2 ^ s = (((x ^^^ y) / 2 ^ s : Nat) : Int) := by simp
  by_cases hd : Diff x y s
  · have et : (((x ^^^ y : Nat) : Int) / 2 ^ s == 0) = false := by
      rw [eq]
      unfold Diff at hd
      simp only [beq_eq_false_iff_ne]
      omega
    cases c with
    | true => exact law_dc x y y s z ka kb va vb w hx hy (by omega) (by omega) hs ez ex et rfl hd
    | false => exact law_dn x y y s z ka kb va vb w hx hy (by omega) (by omega) hs ez ex et rfl hd
  · have et : (((x ^^^ y : Nat) : Int) / 2 ^ s == 0) = true := by
      rw [eq]
      unfold Diff at hd
      simp only [beq_iff_eq]
      omega
    obtain ⟨ey, hy'⟩ := xor_one y s hy hs
    cases c with
    | true => exact law_mc x y _ s z ka kb va vb w hx hy' (by omega) (by omega) hs ez ex et ey (diff_made hd)
    | false => exact law_mn x y _ s z ka kb va vb w hx hy' (by omega) (by omega) hs ez ex et ey (diff_made hd)
end Go.Proofs.Ybulkaaus
