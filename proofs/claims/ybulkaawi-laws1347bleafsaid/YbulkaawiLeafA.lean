/-
  The walks of LawS1347BLeaf: with a cell and a map.
-/
import Derived.Test.YbulkaawiLeafL
import Derived.Maps.Own
namespace Go.Proofs.Ybulkaawi
open Go.RowKit Go.Maps Go.WideMaps

/-- A Class's parts, as the text lays them. -/
def cls (q : ByteArray) (c : Option Addr) : Array Value := #[.string q, .int .i64 0, .int .i64 0, .string { data := #[] }, .string { data := #[] }, .slice none 0 0, .pointer c, .pointer none]

theorem cell_new1 (w : World) (c1 : Array Value) (t1 : TypeId) : ∀ i v, c1[i]? = some v → (w.alloc (.cells c1 t1)).cell? ⟨w.heap.size, i, none⟩ = some v := by
  intro i v h
  unfold World.cell?
  dsimp only
  rw [(MapKept.heap_alloc w _).1]
  simpa using h

theorem cell_new2 (w : World) (c1 : Array Value) (t1 : TypeId) (c2 : Array Value) (t2 : TypeId) :
    (∀ i v, c1[i]? = some v → ((w.alloc (.cells c1 t1)).alloc (.cells c2 t2)).cell? ⟨w.heap.size, i, none⟩ = some v) ∧
    (∀ i v, c2[i]? = some v → ((w.alloc (.cells c1 t1)).alloc (.cells c2 t2)).cell? ⟨w.heap.size + 1, i, none⟩ = some v) := by
  have e1 : ((w.alloc (.cells c1 t1)).alloc (.cells c2 t2)).heap[w.heap.size]? = some (.cells c1 t1) := (Below.heap_alloc _ _ _ (by simp)).trans (MapKept.heap_alloc w _).1
  have e2 : ((w.alloc (.cells c1 t1)).alloc (.cells c2 t2)).heap[w.heap.size + 1]? = some (.cells c2 t2) := by
    have := (MapKept.heap_alloc (w.alloc (.cells c1 t1)) (.cells c2 t2)).1
    simpa using this
  refine ⟨fun i v h => ?_, fun i v h => ?_⟩
  · unfold World.cell?; dsimp only; rw [e1]; simpa using h
  · unfold World.cell?; dsimp only; rw [e2]; simpa using h

theorem below_drewN' {B n : Nat} {a w : World} (h : Below B a w) : Below B a (w.drewN n) := ⟨h.os, h.tape, h.output, h.size, h.block⟩

theorem hide {p : Prop} (h : p) : Hid p := h

set_option maxRecDepth 100000 in
set_option maxHeartbeats 1000000 in
theorem leaf_cm (b off len cap : Nat) (ss : List ByteArray) (q : ByteArray) (w : World) (hlen : len ≤ 1024) (hb : b < w.heap.size ∨ len = 0) (hc : ∀ j, j < len → w.cell? ⟨b, off + j, none⟩ = some (.string (ss.getD j ByteArray.empty))) (hsz : ∀ j, (ss.getD j ByteArray.empty).size ≤ maxLen) (hq : q.size ≤ maxLen) :
    Calls Yba.prog 3 #[.slice (some ⟨b, off, none⟩) len cap, .string q, .bool true, .bool false] w fun e w' => e = .returned (.bool true) ∧ Below w.heap.size w w' := by
  have hmk := make_nils len hlen
  have hmm := @run_makeMap Yba.prog
  have hnm := fun w r => run_neq_map_nil (P := Yba.prog) w 24 9 25 r Yba.underlying24
  go_enter Yba.func3, Yba.ntmps3
  go_wp2_with fail
  go_loopw [11] (fun i wr => ∃ (k : Nat) (g : Nat → Nat), k ≤ len ∧ i = .int .i64 k ∧ Ptrs wr w.heap.size len k g ∧ MapIs wr (w.heap.size + 1) ss q k g ∧ Below w.heap.size w wr ∧ w.heap.size + 2 ≤ wr.heap.size)
    (fun i _ => len - (intOf i).toNat)
  case atStart =>
    refine ⟨0, fun _ => 0, Nat.zero_le _, rfl, (Ptrs.made w len).keep (Below.heap_alloc _ _ _ (by simp)), ⟨.map [], ?_, rfl⟩, ((Below.refl _ _).alloc (Nat.le_refl _) _).alloc (by simp) _, by simp⟩
    have := World.ownsMap_made (w.alloc (.cells (nils len) 25)) Yba.prog 9 rd25
    simpa using this
  case round =>
    obtain ⟨k, g, hk, rfl, hptr, hmap, hbel, hwz⟩ := hrel
    by_cases hlt : k < len
    · obtain ⟨D, hown, hat⟩ := hmap
      obtain ⟨s, hs⟩ : ∃ s, s = ss.getD k ByteArray.empty := ⟨_, rfl⟩
      have hcx : wr.cell? ⟨b, off + k, none⟩ = some (.string s) := by rw [hs]; exact (hbel.cell (p := ⟨b, off + k, none⟩) (by simp; omega)).trans (hc k hlt)
      have hkey : keyOf Yba.prog 9 (.string s) = some (.string s.data.toList) := keyOf_string_mk Yba.underlying9 (by rw [hs]; exact hsz k)
      have hpc := hptr.2.1 k (Nat.le_refl _) hlt
      have hpf := hptr.2.2 k
      have hbz : b < wr.heap.size := by omega
      have hPz : w.heap.size < wr.heap.size := by omega
      have HS : Hid (s = ss.getD k ByteArray.empty) := hs
      clear hs
      have hown' := fun (c : Array Value) (u : Value) => (hown.setCell (a := ⟨w.heap.size, k, none⟩) (by simp) u).alloc (.cells c 53)
      have hn : k < maxLen := by unfold maxLen; omega
      go_wp2_with (first
        | (at_mapUpdate; refine wpList_mapUpdate_own _ rfl _ _ _ 24 rfl 9 25 law Yba.underlying24 rd25 (w.heap.size + 1) k D rfl (hown' _ _) hn _ _ _ rfl rfl hkey (.lit (.int .i64 (wr.heap.size : Int))) [] rfl ?_)
        | go_in)
      intro w1 hown1 hgrow1
      have hszW : ((wr.setCell ⟨w.heap.size, k, none⟩ (.pointer (some ⟨wr.heap.size, 0, none⟩)))).heap.size = wr.heap.size := by simp [World.setCell]
      have R1 : Ptrs w1 w.heap.size len (k + 1) (ext g k wr.heap.size) :=
        ((hptr.set (x := wr.heap.size) hlt).keep (Below.heap_alloc _ _ _ (by rw [hszW]; exact hPz))).keep (hgrow1.block _ (by simp [hszW]; omega) (by simp))
      have R2 : MapIs w1 (w.heap.size + 1) ss q (k + 1) (ext g k wr.heap.size) := MapIs.put HS.out hat hown hown1
      have R3 : Below w.heap.size w w1 := ((hbel.setCell (p := ⟨w.heap.size, k, none⟩) (Nat.le_refl _) _).alloc (by rw [hszW]; omega) _).grown hgrow1 (by simp [hszW]; omega) (fun j hj => by cases hj; exact Nat.le_succ _)
      have R4 : w.heap.size + 2 ≤ w1.heap.size := by have := hgrow1.size; simp [hszW] at this; omega
      clear hown1 hgrow1 hown hat hptr hown' hcx hkey hpc hpf hbel hszW
      go_wp2
      go_roundw
      case rel => exact ⟨k + 1, _, by omega, by go_num, R1, R2, R3, R4⟩
      case measure => simp [intOf]; omega
    · obtain rfl : k = len := by omega
      obtain ⟨D, hown, hat⟩ := hmap
      have HL : Hid (∀ (c1 c2 : Array Value) (m : Nat), (Instr.lookup 24 (.map (some (w.heap.size + 1))) (.string q) false).run Yba.prog ((((wr.alloc (.cells c1 115)).alloc (.cells c2 120))).drewN m) =
          .ok (.pointer (ptrOf (spot g (wantAt ss q k)))) (((wr.alloc (.cells c1 115)).alloc (.cells c2 120)).drewN m)) :=
        fun c1 c2 m => lookup_is (ownsMap_drewN ((hown.alloc (.cells c1 115)).alloc (.cells c2 120)) m) hq hat
      clear hown hat D
      obtain ⟨cc, hb1, hb2⟩ := build_cell (some (w.heap.size + 1))
      have hB := hide hb1
      clear hb1
      go_wp2_with (refine wpList_build_op _ rfl 115 9 (.tmp 53) rfl (.map (some (w.heap.size + 1))) rfl cc (hB.out _) ?_)
      have hA := cell_new2 wr cc 115 (cls q (some ⟨wr.heap.size, 0, none⟩)) 120
      have hW0 : Below wr.heap.size wr ((wr.alloc (.cells cc 115)).alloc (.cells (cls q (some ⟨wr.heap.size, 0, none⟩)) 120)) := ((Below.refl _ _).alloc (Nat.le_refl _) _).alloc (by simp) _
      have c0 := hA.2 0 _ rfl
      have c6 := hA.2 6 _ rfl
      have d12 := hA.1 12 _ hb2
      refine (leaf_some _ (wr.heap.size) _ _ q _ c6 c0 d12 (HL.out _ _)).mono ?_
      rintro e w1 ⟨rfl, m, rfl⟩
      have hW1 : Below w.heap.size w (((wr.alloc (.cells cc 115)).alloc (.cells (cls q (some ⟨wr.heap.size, 0, none⟩)) 120)).drewN m) := below_drewN' (hbel.trans (hW0.mono (Nat.le_trans (Nat.le_add_right _ 2) hwz)))
      have hn1 : ∀ j, j < k → (((wr.alloc (.cells cc 115)).alloc (.cells (cls q (some ⟨wr.heap.size, 0, none⟩)) 120)).drewN m).cell? ⟨b, off + j, none⟩ = some (.string (ss.getD j ByteArray.empty)) :=
        fun j hj => (hW1.cell (p := ⟨b, off + j, none⟩) (by simp; omega)).trans (hc j hj)
      have hp1 : ∀ j, j < k → (((wr.alloc (.cells cc 115)).alloc (.cells (cls q (some ⟨wr.heap.size, 0, none⟩)) 120)).drewN m).cell? ⟨w.heap.size, j, none⟩ = some (.pointer (some ⟨g j, 0, none⟩)) :=
        fun j hj => (hW0.cell (p := ⟨w.heap.size, j, none⟩) (by simp; omega)).trans (hptr.1 j hj)
      have c0' : (((wr.alloc (.cells cc 115)).alloc (.cells (cls q (some ⟨wr.heap.size, 0, none⟩)) 120)).drewN m).cell? ⟨wr.heap.size + 1, 0, none⟩ = some (.string q) := c0
      have c6' : (((wr.alloc (.cells cc 115)).alloc (.cells (cls q (some ⟨wr.heap.size, 0, none⟩)) 120)).drewN m).cell? ⟨wr.heap.size + 1, 6, none⟩ = some (.pointer (some ⟨wr.heap.size, 0, none⟩)) := c6
      generalize (((wr.alloc (.cells cc 115)).alloc (.cells (cls q (some ⟨wr.heap.size, 0, none⟩)) 120)).drewN m) = w2 at hW1 hn1 hp1 c0' c6' ⊢
      clear hA hW0 c0 c6 d12 HL hB hb2 hptr
      have HN := hide hn1
      have HP := hide hp1
      clear hn1 hp1
      have hneq := neq_same ⟨wr.heap.size, 0, none⟩ w2
      have HG : Hid (ptrOf (spot g (wantAt ss q k)) = if wantAt ss q k < 0 then none else some ⟨g (wantAt ss q k).toNat, 0, none⟩) := ptrOf_spot
      generalize ptrOf (spot g (wantAt ss q k)) = pg at HG ⊢
      go_wp2_with fail
      go_loop [16, 17] (fun x i => ∃ t : Nat, t ≤ k ∧ i = .int .i64 t ∧ x = .int .i64 (wantAt ss q t)) (fun _ i => k - (intOf i).toNat)
      case atStart => exact ⟨0, Nat.zero_le _, rfl, rfl⟩
      case round =>
        obtain ⟨t, ht, rfl, rfl⟩ := hrel
        by_cases htk : t < k
        · have hs := HN.out t htk
          cases he : ((ss.getD t ByteArray.empty).toList == q.toList) with
          | true =>
            have HW : Hid (wantAt ss q (t + 1) = (t : Int)) := by unfold Hid wantAt; rw [if_pos he]
            generalize ss.getD t ByteArray.empty = s at hs he
            go_wp2_with fail
            go_round
            case rel => exact ⟨t + 1, by omega, by go_num, by rw [HW.out]⟩
            case measure => simp [intOf]; omega
          | false =>
            have HW : Hid (wantAt ss q (t + 1) = wantAt ss q t) := by unfold Hid; rw [wantAt, if_neg (by rw [he]; decide)]
            generalize ss.getD t ByteArray.empty = s at hs he
            go_wp2_with fail
            go_round
            case rel => exact ⟨t + 1, by omega, by go_num, by rw [HW.out]⟩
            case measure => simp [intOf]; omega
        · obtain rfl : t = k := by omega
          have hz1 := wantAt_lt ss q t
          have hz2 := wantAt_ge ss q t
          generalize wantAt ss q t = z at HG hz1 hz2
          by_cases hz : z < 0
          · have hpg : pg = none := by rw [HG.out, if_pos hz]
            subst hpg
            clear HG
            go_wp2_with fail
            go_ret
            exact ⟨rfl, hW1⟩
          · obtain ⟨n, rfl⟩ : ∃ n : Nat, z = n := ⟨z.toNat, by omega⟩
            have hpg : pg = some ⟨g n, 0, none⟩ := by rw [HG.out, if_neg hz]; simp
            subst hpg
            clear HG
            have hpn := HP.out n (by omega)
            have heq := eql_same ⟨g n, 0, none⟩ w2
            go_wp2_with fail
            go_ret
            exact ⟨rfl, hW1⟩

set_option maxRecDepth 100000 in
set_option maxHeartbeats 1000000 in
theorem leaf_cm0 (av : Option Addr) (cap : Nat) (q : ByteArray) (w : World) (hq : q.size ≤ maxLen) :
    Calls Yba.prog 3 #[.slice av 0 cap, .string q, .bool true, .bool false] w fun e w' => e = .returned (.bool true) ∧ Below w.heap.size w w' := by
  obtain ⟨ss, hss⟩ : ∃ ss : List ByteArray, ss = [] := ⟨_, rfl⟩
  clear hss
  have hmk : ∀ w, (Instr.makeSlice 23 (.int .i64 0) (.int .i64 0)).run Yba.prog w = .ok (.slice (some ⟨w.heap.size, 0, none⟩) 0 0) (w.alloc (.cells (nils 0) 25)) := fun w => make_nils 0 (by omega) w
  have hmm := @run_makeMap Yba.prog
  have hnm := fun w r => run_neq_map_nil (P := Yba.prog) w 24 9 25 r Yba.underlying24
  go_enter Yba.func3, Yba.ntmps3
  go_wp2_with fail
  go_loopw [11] (fun i wr => ∃ (k : Nat) (g : Nat → Nat), k ≤ 0 ∧ i = .int .i64 k ∧ Ptrs wr w.heap.size 0 k g ∧ MapIs wr (w.heap.size + 1) ss q k g ∧ Below w.heap.size w wr ∧ w.heap.size + 2 ≤ wr.heap.size)
    (fun i _ => 0 - (intOf i).toNat)
  case atStart =>
    refine ⟨0, fun _ => 0, Nat.zero_le _, rfl, (Ptrs.made w 0).keep (Below.heap_alloc _ _ _ (by simp)), ⟨.map [], ?_, rfl⟩, ((Below.refl _ _).alloc (Nat.le_refl _) _).alloc (by simp) _, by simp⟩
    have := World.ownsMap_made (w.alloc (.cells (nils 0) 25)) Yba.prog 9 rd25
    simpa using this
  case round =>
    obtain ⟨k, g, hk, rfl, hptr, hmap, hbel, hwz⟩ := hrel
    obtain rfl : k = 0 := by omega
    obtain ⟨D, hown, hat⟩ := hmap
    have HL : Hid (∀ (c1 c2 : Array Value) (m : Nat), (Instr.lookup 24 (.map (some (w.heap.size + 1))) (.string q) false).run Yba.prog ((((wr.alloc (.cells c1 115)).alloc (.cells c2 120))).drewN m) =
        .ok (.pointer (ptrOf (spot g (wantAt ss q 0)))) (((wr.alloc (.cells c1 115)).alloc (.cells c2 120)).drewN m)) :=
      fun c1 c2 m => lookup_is (ownsMap_drewN ((hown.alloc (.cells c1 115)).alloc (.cells c2 120)) m) hq hat
    clear hown hat D
    obtain ⟨cc, hb1, hb2⟩ := build_cell (some (w.heap.size + 1))
    have hB := hide hb1
    clear hb1
    go_wp2_with (refine wpList_build_op _ rfl 115 9 (.tmp 53) rfl (.map (some (w.heap.size + 1))) rfl cc (hB.out _) ?_)
    have hA := cell_new2 wr cc 115 (cls q (some ⟨wr.heap.size, 0, none⟩)) 120
    have hW0 : Below wr.heap.size wr ((wr.alloc (.cells cc 115)).alloc (.cells (cls q (some ⟨wr.heap.size, 0, none⟩)) 120)) := ((Below.refl _ _).alloc (Nat.le_refl _) _).alloc (by simp) _
    have c0 := hA.2 0 _ rfl
    have c6 := hA.2 6 _ rfl
    have d12 := hA.1 12 _ hb2
    refine (leaf_some _ (wr.heap.size) _ _ q _ c6 c0 d12 (HL.out _ _)).mono ?_
    rintro e w1 ⟨rfl, m, rfl⟩
    have hW1 : Below w.heap.size w (((wr.alloc (.cells cc 115)).alloc (.cells (cls q (some ⟨wr.heap.size, 0, none⟩)) 120)).drewN m) := below_drewN' (hbel.trans (hW0.mono (Nat.le_trans (Nat.le_add_right _ 2) hwz)))
    have c0' : (((wr.alloc (.cells cc 115)).alloc (.cells (cls q (some ⟨wr.heap.size, 0, none⟩)) 120)).drewN m).cell? ⟨wr.heap.size + 1, 0, none⟩ = some (.string q) := c0
    have c6' : (((wr.alloc (.cells cc 115)).alloc (.cells (cls q (some ⟨wr.heap.size, 0, none⟩)) 120)).drewN m).cell? ⟨wr.heap.size + 1, 6, none⟩ = some (.pointer (some ⟨wr.heap.size, 0, none⟩)) := c6
    generalize (((wr.alloc (.cells cc 115)).alloc (.cells (cls q (some ⟨wr.heap.size, 0, none⟩)) 120)).drewN m) = w2 at hW1 c0' c6' ⊢
    clear hA hW0 c0 c6 d12 HL hB hb2 hptr
    have hneq := neq_same ⟨wr.heap.size, 0, none⟩ w2
    rw [show ptrOf (spot g (wantAt ss q 0)) = none from rfl]
    go_wp2_with fail
    refine wp_loop_rounds 1 ?_
    rw [rounds_succ]
    go_wp2_with fail
    go_ret
    exact ⟨rfl, hW1⟩

end Go.Proofs.Ybulkaawi
