/-
  The walks of LawS1347BLeaf: with a cell, the map nil; with no cell.
-/
import Derived.Test.YbulkaawiLeafA
import Derived.Maps.Own
namespace Go.Proofs.Ybulkaawi
open Go.RowKit Go.Maps Go.WideMaps

set_option maxRecDepth 100000 in
set_option maxHeartbeats 1000000 in
theorem leaf_cn (b off len cap : Nat) (ss : List ByteArray) (q : ByteArray) (w : World) (hlen : len ≤ 1024) (hb : b < w.heap.size ∨ len = 0) (hc : ∀ j, j < len → w.cell? ⟨b, off + j, none⟩ = some (.string (ss.getD j ByteArray.empty))) (hq : q.size ≤ maxLen) :
    Calls Yba.prog 3 #[.slice (some ⟨b, off, none⟩) len cap, .string q, .bool true, .bool true] w fun e w' => e = .returned (.bool true) ∧ Below w.heap.size w w' := by
  have hmk := make_nils len hlen
  have hnm := fun w r => run_neq_map_nil (P := Yba.prog) w 24 9 25 r Yba.underlying24
  go_enter Yba.func3, Yba.ntmps3
  go_wp2_with fail
  go_loopw [11] (fun i wr => ∃ (k : Nat) (g : Nat → Nat), k ≤ len ∧ i = .int .i64 k ∧ Ptrs wr w.heap.size len k g ∧ Below w.heap.size w wr ∧ w.heap.size + 1 ≤ wr.heap.size)
    (fun i _ => len - (intOf i).toNat)
  case atStart =>
    exact ⟨0, fun _ => 0, Nat.zero_le _, rfl, Ptrs.made w len, (Below.refl _ _).alloc (Nat.le_refl _) _, by simp⟩
  case round =>
    obtain ⟨k, g, hk, rfl, hptr, hbel, hwz⟩ := hrel
    by_cases hlt : k < len
    · obtain ⟨s, hs⟩ : ∃ s, s = ss.getD k ByteArray.empty := ⟨_, rfl⟩
      have hcx : wr.cell? ⟨b, off + k, none⟩ = some (.string s) := by rw [hs]; exact (hbel.cell (p := ⟨b, off + k, none⟩) (by simp; omega)).trans (hc k hlt)
      have hpc := hptr.2.1 k (Nat.le_refl _) hlt
      have hpf := hptr.2.2 k
      have hbz : b < wr.heap.size := by omega
      have hPz : w.heap.size < wr.heap.size := by omega
      clear hs
      have hszW : ((wr.setCell ⟨w.heap.size, k, none⟩ (.pointer (some ⟨wr.heap.size, 0, none⟩)))).heap.size = wr.heap.size := by simp [World.setCell]
      have R1 := fun c => (hptr.set (x := wr.heap.size) hlt).keep (Below.heap_alloc _ (.cells c 53) _ (by rw [hszW]; exact hPz))
      have R3 := fun c => (hbel.setCell (p := ⟨w.heap.size, k, none⟩) (Nat.le_refl _) (.pointer (some ⟨wr.heap.size, 0, none⟩))).alloc (by rw [hszW]; omega) (.cells c 53)
      have H1 := hide R1
      have H3 := hide R3
      have H4 := hide hszW
      clear R1 R3 hszW hptr hbel
      go_wp2_with fail
      go_roundw
      case rel => exact ⟨k + 1, _, by omega, by go_num, H1.out _, H3.out _, by simp [H4.out]; omega⟩
      case measure => simp [intOf]; omega
    · obtain rfl : k = len := by omega
      have HL : Hid (∀ (c1 c2 : Array Value) (m : Nat), (Instr.lookup 24 (.map none) (.string q) false).run Yba.prog ((((wr.alloc (.cells c1 115)).alloc (.cells c2 120))).drewN m) =
          .ok (.pointer none) (((wr.alloc (.cells c1 115)).alloc (.cells c2 120)).drewN m)) :=
        fun c1 c2 m => look_nil false law Yba.underlying24 (zero25 _) (keyOf_string_mk Yba.underlying9 hq)
      obtain ⟨cc, hb1, hb2⟩ := build_cell none
      have hB := hide hb1
      clear hb1
      go_wp2_with (refine wpList_build_op _ rfl 115 9 (.tmp 53) rfl (.map none) rfl cc (hB.out _) ?_)
      have hA := cell_new2 wr cc 115 (cls q (some ⟨wr.heap.size, 0, none⟩)) 120
      have hW0 : Below wr.heap.size wr ((wr.alloc (.cells cc 115)).alloc (.cells (cls q (some ⟨wr.heap.size, 0, none⟩)) 120)) := ((Below.refl _ _).alloc (Nat.le_refl _) _).alloc (by simp) _
      have c0 := hA.2 0 _ rfl
      have c6 := hA.2 6 _ rfl
      have d12 := hA.1 12 _ hb2
      refine (leaf_some _ (wr.heap.size) _ _ q _ c6 c0 d12 (HL.out _ _)).mono ?_
      rintro e w1 ⟨rfl, m, rfl⟩
      have hW1 : Below w.heap.size w (((wr.alloc (.cells cc 115)).alloc (.cells (cls q (some ⟨wr.heap.size, 0, none⟩)) 120)).drewN m) := below_drewN' (hbel.trans (hW0.mono (Nat.le_trans (Nat.le_add_right _ 1) hwz)))
      have c0' : (((wr.alloc (.cells cc 115)).alloc (.cells (cls q (some ⟨wr.heap.size, 0, none⟩)) 120)).drewN m).cell? ⟨wr.heap.size + 1, 0, none⟩ = some (.string q) := c0
      have c6' : (((wr.alloc (.cells cc 115)).alloc (.cells (cls q (some ⟨wr.heap.size, 0, none⟩)) 120)).drewN m).cell? ⟨wr.heap.size + 1, 6, none⟩ = some (.pointer (some ⟨wr.heap.size, 0, none⟩)) := c6
      generalize (((wr.alloc (.cells cc 115)).alloc (.cells (cls q (some ⟨wr.heap.size, 0, none⟩)) 120)).drewN m) = w2 at hW1 c0' c6' ⊢
      clear hA hW0 c0 c6 d12 HL hB hb2 hptr
      have hneq := neq_same ⟨wr.heap.size, 0, none⟩ w2
      go_wp2_with fail
      go_ret
      exact ⟨rfl, hW1⟩

set_option maxRecDepth 100000 in
set_option maxHeartbeats 1000000 in
theorem leaf_cn0 (av : Option Addr) (cap : Nat) (q : ByteArray) (w : World) (hq : q.size ≤ maxLen) :
    Calls Yba.prog 3 #[.slice av 0 cap, .string q, .bool true, .bool true] w fun e w' => e = .returned (.bool true) ∧ Below w.heap.size w w' := by
  have hmk : ∀ w, (Instr.makeSlice 23 (.int .i64 0) (.int .i64 0)).run Yba.prog w = .ok (.slice (some ⟨w.heap.size, 0, none⟩) 0 0) (w.alloc (.cells (nils 0) 25)) := fun w => make_nils 0 (by omega) w
  have hnm := fun w r => run_neq_map_nil (P := Yba.prog) w 24 9 25 r Yba.underlying24
  go_enter Yba.func3, Yba.ntmps3
  go_wp2_with fail
  go_loopw [11] (fun i wr => ∃ (k : Nat) (g : Nat → Nat), k ≤ 0 ∧ i = .int .i64 k ∧ Ptrs wr w.heap.size 0 k g ∧ Below w.heap.size w wr ∧ w.heap.size + 1 ≤ wr.heap.size)
    (fun i _ => 0 - (intOf i).toNat)
  case atStart =>
    exact ⟨0, fun _ => 0, Nat.zero_le _, rfl, Ptrs.made w 0, (Below.refl _ _).alloc (Nat.le_refl _) _, by simp⟩
  case round =>
    obtain ⟨k, g, hk, rfl, hptr, hbel, hwz⟩ := hrel
    obtain rfl : k = 0 := by omega
    have HL : Hid (∀ (c1 c2 : Array Value) (m : Nat), (Instr.lookup 24 (.map none) (.string q) false).run Yba.prog ((((wr.alloc (.cells c1 115)).alloc (.cells c2 120))).drewN m) =
        .ok (.pointer none) (((wr.alloc (.cells c1 115)).alloc (.cells c2 120)).drewN m)) :=
      fun c1 c2 m => look_nil false law Yba.underlying24 (zero25 _) (keyOf_string_mk Yba.underlying9 hq)
    obtain ⟨cc, hb1, hb2⟩ := build_cell none
    have hB := hide hb1
    clear hb1
    go_wp2_with (refine wpList_build_op _ rfl 115 9 (.tmp 53) rfl (.map none) rfl cc (hB.out _) ?_)
    have hA := cell_new2 wr cc 115 (cls q (some ⟨wr.heap.size, 0, none⟩)) 120
    have hW0 : Below wr.heap.size wr ((wr.alloc (.cells cc 115)).alloc (.cells (cls q (some ⟨wr.heap.size, 0, none⟩)) 120)) := ((Below.refl _ _).alloc (Nat.le_refl _) _).alloc (by simp) _
    have c0 := hA.2 0 _ rfl
    have c6 := hA.2 6 _ rfl
    have d12 := hA.1 12 _ hb2
    refine (leaf_some _ (wr.heap.size) _ _ q _ c6 c0 d12 (HL.out _ _)).mono ?_
    rintro e w1 ⟨rfl, m, rfl⟩
    have hW1 : Below w.heap.size w (((wr.alloc (.cells cc 115)).alloc (.cells (cls q (some ⟨wr.heap.size, 0, none⟩)) 120)).drewN m) := below_drewN' (hbel.trans (hW0.mono (Nat.le_trans (Nat.le_add_right _ 1) hwz)))
    have c0' : (((wr.alloc (.cells cc 115)).alloc (.cells (cls q (some ⟨wr.heap.size, 0, none⟩)) 120)).drewN m).cell? ⟨wr.heap.size + 1, 0, none⟩ = some (.string q) := c0
    have c6' : (((wr.alloc (.cells cc 115)).alloc (.cells (cls q (some ⟨wr.heap.size, 0, none⟩)) 120)).drewN m).cell? ⟨wr.heap.size + 1, 6, none⟩ = some (.pointer (some ⟨wr.heap.size, 0, none⟩)) := c6
    generalize (((wr.alloc (.cells cc 115)).alloc (.cells (cls q (some ⟨wr.heap.size, 0, none⟩)) 120)).drewN m) = w2 at hW1 c0' c6' ⊢
    clear hA hW0 c0 c6 d12 HL hB hb2 hptr
    have hneq := neq_same ⟨wr.heap.size, 0, none⟩ w2
    go_wp2_with fail
    go_ret
    exact ⟨rfl, hW1⟩

set_option maxRecDepth 100000 in
set_option maxHeartbeats 1000000 in
theorem leaf_nm (b off len cap : Nat) (ss : List ByteArray) (q : ByteArray) (w : World) (hlen : len ≤ 1024) (hb : b < w.heap.size ∨ len = 0) (hc : ∀ j, j < len → w.cell? ⟨b, off + j, none⟩ = some (.string (ss.getD j ByteArray.empty))) (hsz : ∀ j, (ss.getD j ByteArray.empty).size ≤ maxLen) :
    Calls Yba.prog 3 #[.slice (some ⟨b, off, none⟩) len cap, .string q, .bool false, .bool false] w fun e w' => e = .returned (.bool true) ∧ Below w.heap.size w w' := by
  have hmk := make_nils len hlen
  have hmm := @run_makeMap Yba.prog
  have hnm := fun w r => run_neq_map_nil (P := Yba.prog) w 24 9 25 r Yba.underlying24
  go_enter Yba.func3, Yba.ntmps3
  go_wp2_with fail
  go_loopw [11] (fun i wr => ∃ (k : Nat) (g : Nat → Nat), k ≤ len ∧ i = .int .i64 k ∧ Ptrs wr w.heap.size len k g ∧ MapIs wr (w.heap.size + 1) ss q k g ∧ Below w.heap.size w wr ∧ w.heap.size + 2 ≤ wr.heap.size)
    (fun i _ => len - (intOf i).toNat)
  case atStart =>
    refine ⟨0, fun _ => 0, Nat.zero_le _, rfl, (Ptrs.made w len).keep (Below.heap_alloc _ _ _ (by simp)), ⟨.map [], ?_, rfl⟩, ((Below.refl _ _).alloc (Nat.le_refl _) _).alloc (by simp) _, by simp⟩
    have := World.ownsMap_made (w.alloc (.cells (nils len) 25)) Yba.prog 9 rd25
    simpa using this
  case round =>
    obtain ⟨k, g, hk, rfl, hptr, hmap, hbel, hwz⟩ := hrel
    by_cases hlt : k < len
    · obtain ⟨D, hown, hat⟩ := hmap
      obtain ⟨s, hs⟩ : ∃ s, s = ss.getD k ByteArray.empty := ⟨_, rfl⟩
      have hcx : wr.cell? ⟨b, off + k, none⟩ = some (.string s) := by rw [hs]; exact (hbel.cell (p := ⟨b, off + k, none⟩) (by simp; omega)).trans (hc k hlt)
      have hkey : keyOf Yba.prog 9 (.string s) = some (.string s.data.toList) := keyOf_string_mk Yba.underlying9 (by rw [hs]; exact hsz k)
      have hpc := hptr.2.1 k (Nat.le_refl _) hlt
      have hpf := hptr.2.2 k
      have hbz : b < wr.heap.size := by omega
      have hPz : w.heap.size < wr.heap.size := by omega
      have HS : Hid (s = ss.getD k ByteArray.empty) := hs
      clear hs
      have hown' := fun (c : Array Value) (u : Value) => (hown.setCell (a := ⟨w.heap.size, k, none⟩) (by simp) u).alloc (.cells c 53)
      have hn : k < maxLen := by unfold maxLen; omega
      go_wp2_with (first
        | (at_mapUpdate; refine wpList_mapUpdate_own _ rfl _ _ _ 24 rfl 9 25 law Yba.underlying24 rd25 (w.heap.size + 1) k D rfl (hown' _ _) hn _ _ _ rfl rfl hkey (.lit (.int .i64 (wr.heap.size : Int))) [] rfl ?_)
        | go_in)
      intro w1 hown1 hgrow1
      have hszW : ((wr.setCell ⟨w.heap.size, k, none⟩ (.pointer (some ⟨wr.heap.size, 0, none⟩)))).heap.size = wr.heap.size := by simp [World.setCell]
      have R1 : Ptrs w1 w.heap.size len (k + 1) (ext g k wr.heap.size) :=
        ((hptr.set (x := wr.heap.size) hlt).keep (Below.heap_alloc _ _ _ (by rw [hszW]; exact hPz))).keep (hgrow1.block _ (by simp [hszW]; omega) (by simp))
      have R2 : MapIs w1 (w.heap.size + 1) ss q (k + 1) (ext g k wr.heap.size) := MapIs.put HS.out hat hown hown1
      have R3 : Below w.heap.size w w1 := ((hbel.setCell (p := ⟨w.heap.size, k, none⟩) (Nat.le_refl _) _).alloc (by rw [hszW]; omega) _).grown hgrow1 (by simp [hszW]; omega) (fun j hj => by cases hj; exact Nat.le_succ _)
      have R4 : w.heap.size + 2 ≤ w1.heap.size := by have := hgrow1.size; simp [hszW] at this; omega
      clear hown1 hgrow1 hown hat hptr hown' hcx hkey hpc hpf hbel hszW
      go_wp2
      go_roundw
      case rel => exact ⟨k + 1, _, by omega, by go_num, R1, R2, R3, R4⟩
      case measure => simp [intOf]; omega
    · obtain rfl : k = len := by omega
      have c0 : (wr.alloc (.cells (cls q none) 120)).cell? ⟨wr.heap.size, 0, none⟩ = some (.string q) := cell_new1 wr (cls q none) 120 0 _ rfl
      have c6 : (wr.alloc (.cells (cls q none) 120)).cell? ⟨wr.heap.size, 6, none⟩ = some (.pointer none) := cell_new1 wr (cls q none) 120 6 _ rfl
      have hW1 : Below w.heap.size w (wr.alloc (.cells (cls q none) 120)) := hbel.alloc (Nat.le_trans (Nat.le_add_right _ 2) hwz) _
      clear hptr hmap
      go_wp2_with fail
      refine (leaf_none _ _ c6).mono ?_
      rintro e w1 ⟨rfl, rfl⟩
      generalize wr.alloc (.cells (cls q none) 120) = w2 at hW1 c0 c6 ⊢
      have hW2 := hide hW1
      clear hW1
      go_wp2_with fail
      go_ret
      exact ⟨rfl, hW2.out⟩

set_option maxRecDepth 100000 in
set_option maxHeartbeats 1000000 in
theorem leaf_nm0 (av : Option Addr) (cap : Nat) (q : ByteArray) (w : World)  :
    Calls Yba.prog 3 #[.slice av 0 cap, .string q, .bool false, .bool false] w fun e w' => e = .returned (.bool true) ∧ Below w.heap.size w w' := by
  obtain ⟨ss, hss⟩ : ∃ ss : List ByteArray, ss = [] := ⟨_, rfl⟩
  clear hss
  have hmk : ∀ w, (Instr.makeSlice 23 (.int .i64 0) (.int .i64 0)).run Yba.prog w = .ok (.slice (some ⟨w.heap.size, 0, none⟩) 0 0) (w.alloc (.cells (nils 0) 25)) := fun w => make_nils 0 (by omega) w
  have hmm := @run_makeMap Yba.prog
  go_enter Yba.func3, Yba.ntmps3
  go_wp2_with fail
  go_loopw [11] (fun i wr => ∃ (k : Nat) (g : Nat → Nat), k ≤ 0 ∧ i = .int .i64 k ∧ Ptrs wr w.heap.size 0 k g ∧ MapIs wr (w.heap.size + 1) ss q k g ∧ Below w.heap.size w wr ∧ w.heap.size + 2 ≤ wr.heap.size)
    (fun i _ => 0 - (intOf i).toNat)
  case atStart =>
    refine ⟨0, fun _ => 0, Nat.zero_le _, rfl, (Ptrs.made w 0).keep (Below.heap_alloc _ _ _ (by simp)), ⟨.map [], ?_, rfl⟩, ((Below.refl _ _).alloc (Nat.le_refl _) _).alloc (by simp) _, by simp⟩
    have := World.ownsMap_made (w.alloc (.cells (nils 0) 25)) Yba.prog 9 rd25
    simpa using this
  case round =>
    obtain ⟨k, g, hk, rfl, hptr, hmap, hbel, hwz⟩ := hrel
    obtain rfl : k = 0 := by omega
    have c0 : (wr.alloc (.cells (cls q none) 120)).cell? ⟨wr.heap.size, 0, none⟩ = some (.string q) := cell_new1 wr (cls q none) 120 0 _ rfl
    have c6 : (wr.alloc (.cells (cls q none) 120)).cell? ⟨wr.heap.size, 6, none⟩ = some (.pointer none) := cell_new1 wr (cls q none) 120 6 _ rfl
    have hW1 : Below w.heap.size w (wr.alloc (.cells (cls q none) 120)) := hbel.alloc (Nat.le_trans (Nat.le_add_right _ 2) hwz) _
    clear hptr hmap
    go_wp2_with fail
    refine (leaf_none _ _ c6).mono ?_
    rintro e w1 ⟨rfl, rfl⟩
    generalize wr.alloc (.cells (cls q none) 120) = w2 at hW1 c0 c6 ⊢
    have hW2 := hide hW1
    clear hW1
    go_wp2_with fail
    go_ret
    exact ⟨rfl, hW2.out⟩

set_option maxRecDepth 100000 in
set_option maxHeartbeats 1000000 in
theorem leaf_nn (b off len cap : Nat) (ss : List ByteArray) (q : ByteArray) (w : World) (hlen : len ≤ 1024) (hb : b < w.heap.size ∨ len = 0) (hc : ∀ j, j < len → w.cell? ⟨b, off + j, none⟩ = some (.string (ss.getD j ByteArray.empty))) :
    Calls Yba.prog 3 #[.slice (some ⟨b, off, none⟩) len cap, .string q, .bool false, .bool true] w fun e w' => e = .returned (.bool true) ∧ Below w.heap.size w w' := by
  have hmk := make_nils len hlen
  have hnm := fun w r => run_neq_map_nil (P := Yba.prog) w 24 9 25 r Yba.underlying24
  go_enter Yba.func3, Yba.ntmps3
  go_wp2_with fail
  go_loopw [11] (fun i wr => ∃ (k : Nat) (g : Nat → Nat), k ≤ len ∧ i = .int .i64 k ∧ Ptrs wr w.heap.size len k g ∧ Below w.heap.size w wr ∧ w.heap.size + 1 ≤ wr.heap.size)
    (fun i _ => len - (intOf i).toNat)
  case atStart =>
    exact ⟨0, fun _ => 0, Nat.zero_le _, rfl, Ptrs.made w len, (Below.refl _ _).alloc (Nat.le_refl _) _, by simp⟩
  case round =>
    obtain ⟨k, g, hk, rfl, hptr, hbel, hwz⟩ := hrel
    by_cases hlt : k < len
    · obtain ⟨s, hs⟩ : ∃ s, s = ss.getD k ByteArray.empty := ⟨_, rfl⟩
      have hcx : wr.cell? ⟨b, off + k, none⟩ = some (.string s) := by rw [hs]; exact (hbel.cell (p := ⟨b, off + k, none⟩) (by simp; omega)).trans (hc k hlt)
      have hpc := hptr.2.1 k (Nat.le_refl _) hlt
      have hpf := hptr.2.2 k
      have hbz : b < wr.heap.size := by omega
      have hPz : w.heap.size < wr.heap.size := by omega
      clear hs
      have hszW : ((wr.setCell ⟨w.heap.size, k, none⟩ (.pointer (some ⟨wr.heap.size, 0, none⟩)))).heap.size = wr.heap.size := by simp [World.setCell]
      have R1 := fun c => (hptr.set (x := wr.heap.size) hlt).keep (Below.heap_alloc _ (.cells c 53) _ (by rw [hszW]; exact hPz))
      have R3 := fun c => (hbel.setCell (p := ⟨w.heap.size, k, none⟩) (Nat.le_refl _) (.pointer (some ⟨wr.heap.size, 0, none⟩))).alloc (by rw [hszW]; omega) (.cells c 53)
      have H1 := hide R1
      have H3 := hide R3
      have H4 := hide hszW
      clear R1 R3 hszW hptr hbel
      go_wp2_with fail
      go_roundw
      case rel => exact ⟨k + 1, _, by omega, by go_num, H1.out _, H3.out _, by simp [H4.out]; omega⟩
      case measure => simp [intOf]; omega
    · obtain rfl : k = len := by omega
      have c0 : (wr.alloc (.cells (cls q none) 120)).cell? ⟨wr.heap.size, 0, none⟩ = some (.string q) := cell_new1 wr (cls q none) 120 0 _ rfl
      have c6 : (wr.alloc (.cells (cls q none) 120)).cell? ⟨wr.heap.size, 6, none⟩ = some (.pointer none) := cell_new1 wr (cls q none) 120 6 _ rfl
      have hW1 : Below w.heap.size w (wr.alloc (.cells (cls q none) 120)) := hbel.alloc (Nat.le_trans (Nat.le_add_right _ 1) hwz) _
      clear hptr
      go_wp2_with fail
      refine (leaf_none _ _ c6).mono ?_
      rintro e w1 ⟨rfl, rfl⟩
      generalize wr.alloc (.cells (cls q none) 120) = w2 at hW1 c0 c6 ⊢
      have hW2 := hide hW1
      clear hW1
      go_wp2_with fail
      go_ret
      exact ⟨rfl, hW2.out⟩

set_option maxRecDepth 100000 in
set_option maxHeartbeats 1000000 in
theorem leaf_nn0 (av : Option Addr) (cap : Nat) (q : ByteArray) (w : World)  :
    Calls Yba.prog 3 #[.slice av 0 cap, .string q, .bool false, .bool true] w fun e w' => e = .returned (.bool true) ∧ Below w.heap.size w w' := by
  have hmk : ∀ w, (Instr.makeSlice 23 (.int .i64 0) (.int .i64 0)).run Yba.prog w = .ok (.slice (some ⟨w.heap.size, 0, none⟩) 0 0) (w.alloc (.cells (nils 0) 25)) := fun w => make_nils 0 (by omega) w
  go_enter Yba.func3, Yba.ntmps3
  go_wp2_with fail
  go_loopw [11] (fun i wr => ∃ (k : Nat) (g : Nat → Nat), k ≤ 0 ∧ i = .int .i64 k ∧ Ptrs wr w.heap.size 0 k g ∧ Below w.heap.size w wr ∧ w.heap.size + 1 ≤ wr.heap.size)
    (fun i _ => 0 - (intOf i).toNat)
  case atStart =>
    exact ⟨0, fun _ => 0, Nat.zero_le _, rfl, Ptrs.made w 0, (Below.refl _ _).alloc (Nat.le_refl _) _, by simp⟩
  case round =>
    obtain ⟨k, g, hk, rfl, hptr, hbel, hwz⟩ := hrel
    obtain rfl : k = 0 := by omega
    have c0 : (wr.alloc (.cells (cls q none) 120)).cell? ⟨wr.heap.size, 0, none⟩ = some (.string q) := cell_new1 wr (cls q none) 120 0 _ rfl
    have c6 : (wr.alloc (.cells (cls q none) 120)).cell? ⟨wr.heap.size, 6, none⟩ = some (.pointer none) := cell_new1 wr (cls q none) 120 6 _ rfl
    have hW1 : Below w.heap.size w (wr.alloc (.cells (cls q none) 120)) := hbel.alloc (Nat.le_trans (Nat.le_add_right _ 1) hwz) _
    clear hptr
    go_wp2_with fail
    refine (leaf_none _ _ c6).mono ?_
    rintro e w1 ⟨rfl, rfl⟩
    generalize wr.alloc (.cells (cls q none) 120) = w2 at hW1 c0 c6 ⊢
    have hW2 := hide hW1
    clear hW1
    go_wp2_with fail
    go_ret
    exact ⟨rfl, hW2.out⟩

/-- More names than 1024: it returns at once. -/
theorem leaf_over (av : Option Addr) (len cap : Nat) (q : ByteArray) (c m : Bool) (w : World) (h : 1024 < len) :
    Calls Yba.prog 3 #[.slice av len cap, .string q, .bool c, .bool m] w fun e w' => e = .returned (.bool true) ∧ Below w.heap.size w w' := by
  go_enter Yba.func3, Yba.ntmps3
  go_wp2_with fail
  go_ret
  exact ⟨rfl, Below.refl _ _⟩
end Go.Proofs.Ybulkaawi
