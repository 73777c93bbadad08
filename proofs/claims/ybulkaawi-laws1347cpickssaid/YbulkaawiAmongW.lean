/-
  The walk of (*Scheduler).among.
-/
import Derived.Test.YbulkaawiAmong
namespace Go.Proofs.Ybulkaawi
open Go.RowKit

theorem ret_i64 {a b : Int} (h : a = b) : Ending.returned (.int .i64 a) = .returned (.int .i64 b) := by rw [h]

theorem not2 {a x y : Nat} (h1 : a ≠ x) (h2 : a ≠ y) : ¬ (a = x ∨ a = y) := by rintro (h | h); exact h1 h; exact h2 h
theorem not3 {a x y z : Nat} (h1 : a ≠ x) (h2 : a ≠ y) (h3 : a ≠ z) : ¬ (a = x ∨ a = y ∨ a = z) := by rintro (h | h | h); exact h1 h; exact h2 h; exact h3 h

/-- What the loop of among carries. -/
def AInv (w : World) (base C LB NB : Nat) (zs : List Int) (p : Nat → Bool) (k : Nat) (wr : World) : Prop :=
  wr.heap[C]? = some (.cells (ints (R zs p k)) 3) ∧ LogAt wr base LB NB k ((zs.take k).map (Value.int .i64)) ∧ Kept base (fun b => b = LB ∨ b = NB ∨ b = C) w wr

theorem KeepAt.keep {w w' : World} {KB : Nat} {kv : Option Addr} {klen kcap kb koff : Nat} {ks : List Bool} (h : KeepAt w KB kv klen kcap kb koff ks) (e1 : w'.heap[KB]? = w.heap[KB]?) (e2 : klen ≠ 0 → w'.heap[kb]? = w.heap[kb]?) :
    KeepAt w' KB kv klen kcap kb koff ks :=
  ⟨(World.cell?_of_block (w := w) (a := ⟨KB, 0, none⟩) e1).trans h.1, fun j hj => ⟨(h.2 j hj).1, (World.cell?_of_block (w := w) (a := ⟨kb, koff + j, none⟩) (e2 (by omega))).trans (h.2 j hj).2⟩⟩

theorem RngAt.keep {w w' : World} {rr pc hi lo : Nat} (h : RngAt w rr pc hi lo) (e1 : w'.heap[rr]? = w.heap[rr]?) (e2 : w'.heap[pc]? = w.heap[pc]?) : RngAt w' rr pc hi lo :=
  ⟨(World.cell?_of_block (w := w) (a := ⟨rr, 0, none⟩) e1).trans h.1,
    ⟨(World.cell?_of_block (w := w) (a := ⟨pc, 0, none⟩) e2).trans h.2.1.1, (World.cell?_of_block (w := w) (a := ⟨pc, 1, none⟩) e2).trans h.2.1.2.1,
      (World.frozen?_of_block (w := w) (a := ⟨pc, 0, none⟩) e2).trans h.2.1.2.2.1, (World.frozen?_of_block (w := w) (a := ⟨pc, 1, none⟩) e2).trans h.2.1.2.2.2⟩, h.2.2⟩

theorem LogAt.keep {w w' : World} {base LB NB k : Nat} {xs : List Value} (h : LogAt w base LB NB k xs) (eL : w'.heap[LB]? = w.heap[LB]?) (eN : w'.heap[NB]? = w.heap[NB]?)
    (eR : ∀ g, base ≤ g → g < w.heap.size → w'.heap[g]? = w.heap[g]?) : LogAt w' base LB NB k xs := by
  obtain ⟨⟨v, hv, ho⟩, fL, hn, fN⟩ := h
  refine ⟨⟨v, (World.cell?_of_block (w := w) (a := ⟨LB, 0, none⟩) eL).trans hv, ho.1, ?_⟩, (World.frozen?_of_block (w := w) (a := ⟨LB, 0, none⟩) eL).trans fL,
    (World.cell?_of_block (w := w) (a := ⟨NB, 0, none⟩) eN).trans hn, (World.frozen?_of_block (w := w) (a := ⟨NB, 0, none⟩) eN).trans fN⟩
  rcases ho.2 with h0 | ⟨g, cap, cur, h1, h2, h3, h4⟩
  · exact Or.inl h0
  · exact Or.inr ⟨g, cap, cur, h1, h2, (eR g h2 (Array.getElem?_eq_some_iff.1 h3).1).trans h3, h4⟩

theorem take_snoc (zs : List Int) (k : Nat) (h : k < zs.length) : (zs.take k).map (Value.int .i64) ++ [.int .i64 (zs.getD k 0)] = (zs.take (k + 1)).map (Value.int .i64) := by
  rw [List.take_succ_eq_append_getElem h, List.map_append]
  simp [h]

/-- A round on which the element is dropped. -/
theorem AInv.no {w wr w1 : World} {base C LB NB k : Nat} {zs : List Int} {p : Nat → Bool} (h : AInv w base C LB NB zs p k wr) (hk : k < zs.length) (hp : p k = false) (hC : C < base ∧ C ≠ LB ∧ C ≠ NB)
    (hl : LogAt w1 base LB NB (k + 1) ((zs.take k).map (Value.int .i64) ++ [.int .i64 (zs.getD k 0)])) (hk1 : Kept base (fun b => b = LB ∨ b = NB) wr w1) : AInv w base C LB NB zs p (k + 1) w1 := by
  refine ⟨?_, take_snoc zs k hk ▸ hl, h.2.2.trans (hk1.wider fun b hb => by rcases hb with h | h; exact Or.inl h; exact Or.inr (Or.inl h))⟩
  rw [R_no hp, hk1.2.2.2.2 C hC.1 (not2 hC.2.1 hC.2.2)]
  exact h.1

/-- A round on which the element is kept. -/
theorem AInv.yes {w wr w1 w3 : World} {base C LB NB k : Nat} {zs : List Int} {p : Nat → Bool} (h : AInv w base C LB NB zs p k wr) (hk : k < zs.length) (hp : p k = true) (hL : LB < base ∧ LB ≠ C) (hN : NB < base ∧ NB ≠ C) (hC : C < base) (hb : base ≤ w1.heap.size)
    (hl : LogAt w1 base LB NB (k + 1) ((zs.take k).map (Value.int .i64) ++ [.int .i64 (zs.getD k 0)])) (hk1 : Kept base (fun b => b = LB ∨ b = NB) wr w1)
    (hr : w3.heap[C]? = some (.cells (ints ((R zs p k).set (E zs p k).length (zs.getD k 0))) 3)) (hk3 : Kept w1.heap.size (fun b => b = C) w1 w3) : AInv w base C LB NB zs p (k + 1) w3 := by
  refine ⟨by rw [R_yes hp]; exact hr, ?_, ?_⟩
  · rw [← take_snoc zs k hk]
    exact hl.keep (hk3.2.2.2.2 LB (by omega) hL.2) (hk3.2.2.2.2 NB (by omega) hN.2) (fun g h1 h2 => hk3.2.2.2.2 g h2 (by omega))
  · refine (h.2.2.trans (hk1.wider fun b hb => by rcases hb with h | h; exact Or.inl h; exact Or.inr (Or.inl h))).trans ?_
    exact ⟨hk3.1, hk3.2.1, hk3.2.2.1, hk3.2.2.2.1, fun b hb' hn => hk3.2.2.2.2 b (by omega) (fun e => hn (Or.inr (Or.inr e)))⟩

theorem round_cell {w wr : World} {base C LB NB len k : Nat} {zs : List Int} {p : Nat → Bool} (hz : zs.length = len) (hlt : k < len) (hA : AInv w base C LB NB zs p k wr) : ∃ x, wr.cell? ⟨C, k, none⟩ = some (.int .i64 x) ∧ Hid (zs.getD k 0 = x) := by
  refine ⟨zs.getD k 0, ?_, rfl⟩
  have h1 := E_le zs p k
  have := row_cell hA.1 k (by rw [R_len]; omega)
  rw [R_at zs _ k (by omega), if_neg (by omega)] at this
  exact this

/-- Where the blocks lie. -/
def Apart (base sc rr pc C LB NB KB klen kb : Nat) : Prop :=
  (C < base ∧ C ≠ LB ∧ C ≠ NB ∧ C ≠ pc) ∧ (LB < base ∧ LB ≠ NB ∧ LB ≠ pc) ∧ (NB < base ∧ NB ≠ pc) ∧ (KB < base ∧ KB ≠ LB ∧ KB ≠ NB ∧ KB ≠ C) ∧
  (klen ≠ 0 → kb < base ∧ kb ≠ LB ∧ kb ≠ NB ∧ kb ≠ C) ∧ (sc < base ∧ sc ≠ LB ∧ sc ≠ NB ∧ sc ≠ C) ∧ (rr < base ∧ rr ≠ LB ∧ rr ≠ NB ∧ rr ≠ C) ∧ pc < base

/-- One call of the closure inside the loop: what stands behind it, and behind the append where there is one. -/
theorem fits_round {base sc rr pc C LB NB KB len klen kcap kb koff k : Nat} {kv : Option Addr} {ks : List Bool} {zs : List Int} {w wr : World} (x : Int) (hx : zs.getD k 0 = x) (hz : zs.length = len) (hlen : len ≤ 1024) (hlt : k < len) (hbase : w.heap.size = base)
    (d : Apart base sc rr pc C LB NB KB klen kb) (hkeep : KeepAt w KB kv klen kcap kb koff ks) (hA : AInv w base C LB NB zs (kp klen ks) k wr) :
    Calls Yba.prog 6 #[.int .i64 x, .pointer (some ⟨LB, 0, none⟩), .pointer (some ⟨NB, 0, none⟩), .pointer (some ⟨KB, 0, none⟩)] wr fun e w1 =>
      (e = .returned (.bool false) ∧ Hid (AInv w base C LB NB zs (kp klen ks) (k + 1) w1) ∧ Hid ((E zs (kp klen ks) (k + 1)).length = (E zs (kp klen ks) k).length)) ∨
      (e = .returned (.bool true) ∧ ∃ w3, Hid (∀ ty, (Builtin.append_ #[96, 96] ty #[.slice (some ⟨C, 0, none⟩) (E zs (kp klen ks) k).length len, .slice (some ⟨w1.heap.size, 0, none⟩) 1 1]).run Yba.prog (w1.alloc (.cells #[.int .i64 x] 3)) = .ok (.slice (some ⟨C, 0, none⟩) ((E zs (kp klen ks) k).length + 1) len) w3) ∧
        Hid (AInv w base C LB NB zs (kp klen ks) (k + 1) w3) ∧ Hid ((E zs (kp klen ks) (k + 1)).length = (E zs (kp klen ks) k).length + 1)) := by
  have hEl := E_le zs (kp klen ks) k
  have hElt : (E zs (kp klen ks) k).length < len := by omega
  have hk1024 : k < 1024 := by omega
  have hkz : k < zs.length := by omega
  have hb1 : base ≤ wr.heap.size := by have := hA.2.2.2.2.2.1; omega
  obtain ⟨dC, dL, dN, dK, db, dS, dR, dP⟩ := d
  have hkeep1 : KeepAt wr KB kv klen kcap kb koff ks := hkeep.keep (hA.2.2.2.2.2.2 KB dK.1 (not3 dK.2.1 dK.2.2.1 dK.2.2.2)) (fun h => hA.2.2.2.2.2.2 kb (db h).1 (not3 (db h).2.1 (db h).2.2.1 (db h).2.2.2))
  refine (fits_any base LB NB KB k klen kcap kb koff kv ks x _ wr dL.1 dN.1 dL.2.1 hb1 hk1024 dK.1 dK.2.1 dK.2.2.1 (fun h => ⟨(db h).1, (db h).2.1, (db h).2.2.1⟩) hA.2.1 hkeep1).mono ?_
  rintro e w1 ⟨rfl, hl1, hk1⟩
  rw [← hx] at hl1
  have hb2 : base ≤ w1.heap.size := Nat.le_trans hb1 hk1.2.2.2.1
  have hC1 : w1.heap[C]? = some (.cells (ints (R zs (kp klen ks) k)) 3) := (hk1.2.2.2.2 C dC.1 (not2 dC.2.1 dC.2.2.1)).trans hA.1
  cases hp : kp klen ks k with
  | true =>
    obtain ⟨w3, hrun, hr3, hk3⟩ := append_room (x := x) hC1 (by rw [R_len]; exact hz) hElt
    rw [← hx] at hr3
    exact Or.inr ⟨rfl, w3, hrun, hA.yes hkz hp ⟨dL.1, Ne.symm dC.2.1⟩ ⟨dN.1, Ne.symm dC.2.2.1⟩ dC.1 hb2 hl1 hk1 hr3 hk3, by unfold Hid; rw [E_yes hp]; simp⟩
  | false =>
    exact Or.inl ⟨rfl, hA.no hkz hp ⟨dC.1, dC.2.1, dC.2.2.1⟩ hl1 hk1, by unfold Hid; rw [E_no hp]⟩

/-- What among leaves behind. -/
def ADone (base rr pc C LB NB len hi lo : Nat) (zs : List Int) (p : Nat → Bool) (w w' : World) : Prop :=
  w'.heap[C]? = some (.cells (ints (R zs p len)) 3) ∧ (∃ v, w'.cell? ⟨LB, 0, none⟩ = some v ∧ w'.ownsRow base 3 1 v len (zs.map (Value.int .i64))) ∧ RngAt w' rr pc hi lo ∧ Kept base (fun b => b = LB ∨ b = NB ∨ b = C ∨ b = pc) w w'

theorem AInv.done {base sc rr pc C LB NB KB len klen kb hi lo : Nat} {p : Nat → Bool} {zs : List Int} {w wr : World} (hz : zs.length = len) (d : Apart base sc rr pc C LB NB KB klen kb) (hrng : RngAt w rr pc hi lo) (hA : AInv w base C LB NB zs p len wr) :
    ADone base rr pc C LB NB len hi lo zs p w wr := by
  have hzl : zs.length ≤ len := Nat.le_of_eq hz
  obtain ⟨dC, dL, dN, dK, db, dS, dR, dP⟩ := d
  obtain ⟨hC, hl, hk⟩ := hA
  refine ⟨hC, ?_, hrng.keep (hk.2.2.2.2 rr dR.1 (not3 dR.2.1 dR.2.2.1 dR.2.2.2)) (hk.2.2.2.2 pc dP (not3 (Ne.symm dL.2.2) (Ne.symm dN.2) (Ne.symm dC.2.2.2))), hk.wider (fun b hb => by rcases hb with h | h | h; exact Or.inl h; exact Or.inr (Or.inl h); exact Or.inr (Or.inr (Or.inl h)))⟩
  have := hl.1
  rwa [List.take_of_length_le hzl] at this

theorem ADone.roll {base rr pc C LB NB len hi lo h' l' : Nat} {p : Nat → Bool} {zs : List Int} {w w1 w2 : World} (dC : C ≠ pc) (dL : LB ≠ pc) (dP : pc < base) (h : ADone base rr pc C LB NB len hi lo zs p w w1) (r : Rolled pc w1 w2 h' l') :
    ADone base rr pc C LB NB len h' l' zs p w w2 := by
  obtain ⟨hC, ⟨v, hv, ho⟩, hr, hk⟩ := h
  refine ⟨(r.2.2.2.2.1 C dC).trans hC, ⟨v, (World.cell?_of_block (w := w1) (a := ⟨LB, 0, none⟩) (r.2.2.2.2.1 LB dL)).trans hv, ho.1, ?_⟩, hr.roll r, hk.trans ⟨r.1, r.2.1, r.2.2.1, Nat.le_of_eq r.2.2.2.1.symm, fun b hb hn => r.2.2.2.2.1 b (fun e => hn (Or.inr (Or.inr (Or.inr e))))⟩⟩
  rcases ho.2 with h0 | ⟨g, cap, cur, h1, h2, h3, h4⟩
  · exact Or.inl h0
  · exact Or.inr ⟨g, cap, cur, h1, h2, (r.2.2.2.2.1 g (by omega)).trans h3, h4⟩

theorem sched_cell {base sc rr pc C LB NB KB klen kb k : Nat} {p : Nat → Bool} {zs : List Int} {w wr : World} {v : Value} (d : Apart base sc rr pc C LB NB KB klen kb) (hA : AInv w base C LB NB zs p k wr) (h : w.cell? ⟨sc, 1, none⟩ = some v) :
    wr.cell? ⟨sc, 1, none⟩ = some v := by
  obtain ⟨dC, dL, dN, dK, db, dS, dR, dP⟩ := d
  exact (World.cell?_of_block (w := w) (a := ⟨sc, 1, none⟩) (hA.2.2.2.2.2.2 sc dS.1 (not3 dS.2.1 dS.2.2.1 dS.2.2.2))).trans h

theorem pick_cell {w : World} {C len j : Nat} {zs : List Int} {p : Nat → Bool} (hz : zs.length = len) (h : w.heap[C]? = some (.cells (ints (R zs p len)) 3)) (hj : j < (E zs p len).length) : w.cell? ⟨C, j, none⟩ = some (.int .i64 ((E zs p len).getD j 0)) := by
  have h1 := E_le zs p len
  have := row_cell h j (by rw [R_len]; omega)
  rw [R_at zs _ len (by omega), if_pos hj] at this
  exact this

set_option maxRecDepth 100000 in
set_option maxHeartbeats 400000 in
theorem among_any (base sc rr pc C LB NB KB len klen kcap kb koff r hi lo h' l' : Nat) (kv : Option Addr) (ks : List Bool) (zs : List Int) (w : World)
    (hz : zs.length = len) (hlen : len ≤ 1024) (hbase : Hid (w.heap.size = base)) (d : Hid (Apart base sc rr pc C LB NB KB klen kb))
    (hC : w.heap[C]? = some (.cells (ints zs) 3)) (hlog : LogAt w base LB NB 0 []) (hkeep : Hid (KeepAt w KB kv klen kcap kb koff ks))
    (hsc : w.cell? ⟨sc, 1, none⟩ = some (.pointer (some ⟨rr, 0, none⟩))) (hrng : Hid (RngAt w rr pc hi lo)) (hr : Hid ((E zs (kp klen ks) len).length ≠ 0 → r < (E zs (kp klen ks) len).length))
    (HI : Hid ((E zs (kp klen ks) len).length ≠ 0 → ∀ w, RngAt w rr pc hi lo → Calls Yba.prog 9 #[.pointer (some ⟨rr, 0, none⟩), .int .i64 (E zs (kp klen ks) len).length] w fun e w' => e = .returned (.int .i64 r) ∧ Rolled pc w w' h' l')) :
    Calls Yba.prog 8 #[.pointer (some ⟨sc, 0, none⟩), .slice (some ⟨C, 0, none⟩) len len, .func (.func 6) #[] #[.pointer (some ⟨LB, 0, none⟩), .pointer (some ⟨NB, 0, none⟩), .pointer (some ⟨KB, 0, none⟩)]] w fun e w' =>
      ((E zs (kp klen ks) len).length = 0 ∧ e = .returned (.int .i64 (-1)) ∧ ADone base rr pc C LB NB len hi lo zs (kp klen ks) w w') ∨
      ((E zs (kp klen ks) len).length ≠ 0 ∧ e = .returned (.int .i64 ((E zs (kp klen ks) len).getD r 0)) ∧ ADone base rr pc C LB NB len h' l' zs (kp klen ks) w w') := by
  have HA0 : Hid (AInv w base C LB NB zs (kp klen ks) 0 w) := ⟨hC, hlog, Kept.refl _ _ _⟩
  have HSC := hide' hsc
  clear hC hlog hsc
  go_enter Yba.func8, Yba.ntmps8
  go_wp2_with fail
  go_loopw [7, 14] (fun f i wr => ∃ k : Nat, k ≤ len ∧ i = .int .i64 k ∧ f = .slice (some ⟨C, 0, none⟩) (E zs (kp klen ks) k).length len ∧ Hid (AInv w base C LB NB zs (kp klen ks) k wr)) (fun _ i _ => len - (intOf i).toNat)
  case atStart => exact ⟨0, Nat.zero_le _, rfl, rfl, HA0⟩
  case round =>
    clear HA0
    obtain ⟨k, hk, rfl, rfl, hA⟩ := hrel
    by_cases hlt : k < len
    · obtain ⟨x, hcx, HX⟩ := round_cell hz hlt hA.out
      have HF := hide' (fits_round x HX.out hz hlen hlt hbase.out d.out hkeep.out hA.out)
      have hEl := E_le zs (kp klen ks) k
      generalize (E zs (kp klen ks) k).length = m at HF hEl ⊢
      clear hA
      go_wp2_with fail
      refine (HF.out).mono ?_
      rintro e w1 (⟨rfl, HA', HE⟩ | ⟨rfl, w3, HR, HA', HE⟩)
      · clear HF
        go_wp2_with fail
        go_roundw
        case rel => exact ⟨k + 1, by omega, by go_num, by rw [HE.out], HA'⟩
        case measure => simp [intOf]; omega
      · clear HF
        go_wp2_with (at_builtin; refine wpList_append_run (w1.alloc (.cells #[.int .i64 x] 3)) rfl (.tmp 21) (.tmp 23) 96 rfl (.slice (some ⟨C, 0, none⟩) m len) (.slice (some ⟨w1.heap.size, 0, none⟩) 1 1) (.slice (some ⟨C, 0, none⟩) (m + 1) len) w3 rfl rfl HR.out ?_)
        go_roundw
        case rel => exact ⟨k + 1, by omega, by go_num, by rw [HE.out], HA'⟩
        case measure => simp [intOf]; omega
    · obtain rfl : k = len := by omega
      have HD := hide' (AInv.done hz d.out hrng.out hA.out)
      have hsc1 := sched_cell d.out hA.out HSC.out
      by_cases hm : (E zs (kp klen ks) k).length = 0
      · clear HI hr
        go_wp2_with fail
        go_ret
        exact Or.inl ⟨hm, rfl, HD.out⟩
      · have hm1 : (((E zs (kp klen ks) k).length : Int) == 0) = false := by simpa using hm
        have HM := hide' hm
        have hrm := hr.out hm
        have H9 := hide' (HI.out hm wr HD.out.2.2.1)
        have HE : Hid ((E zs (kp klen ks) k).length ≤ k) := E_le zs (kp klen ks) k
        clear hm HI hr hA
        generalize hml : (E zs (kp klen ks) k).length = m at hm1 hrm H9 HE ⊢
        have HML := hide' hml
        clear hml
        have hmk : m ≤ 1024 := by have := HE.out; omega
        go_wp2_with fail
        refine (H9.out).mono ?_
        rintro e w2 ⟨rfl, hroll⟩
        have HD2 := hide' (HD.out.roll d.out.1.2.2.2 d.out.2.1.2.2 d.out.2.2.2.2.2.2.2 hroll)
        have hcr : w2.cell? ⟨C, r, none⟩ = some (.int .i64 ((E zs (kp klen ks) k).getD r 0)) := pick_cell hz HD2.out.1 (by rw [HML.out]; exact hrm)
        generalize hy : (E zs (kp klen ks) k).getD r 0 = y at hcr
        have HY := hide' hy
        clear hy hroll
        go_wp2_with fail
        go_ret
        exact Or.inr ⟨HM.out, ret_i64 HY.out.symm, HD2.out⟩
end Go.Proofs.Ybulkaawi
