/-
  What the two loops of LawS1347BLeaf carry: the row of pointers, the map, the place of the last name that is the query.
-/
import Derived.Test.YbulkaawiLeafW
import Derived.LaidEqlPtr
namespace Go.Proofs.Ybulkaawi
open Go.RowKit Go.Maps

/-- A row of nil pointers. -/
def nils (L : Nat) : Array Value := madeCells #[.pointer none] L

theorem nils_at (L i : Nat) (h : i < L) : (nils L)[i]? = some (.pointer none) := by
  have e : (nils L).toList = List.replicate L (.pointer none) := toList_madeCells_one _ _
  rw [← Array.getElem?_toList, e, List.getElem?_replicate, if_pos h]

theorem info25 : (Yba.prog.info? 25).map (fun i => (i.zero, i.size, i.bytes)) = some (some (.pointer none), 1, 8) := by kernel_rfl

theorem make_nils (L : Nat) (h : L ≤ 1024) (w : World) : (Instr.makeSlice 23 (.int .i64 (L : Int)) (.int .i64 (L : Int))).run Yba.prog w = .ok (.slice (some ⟨w.heap.size, 0, none⟩) L L) (w.alloc (.cells (nils L) 25)) := by
  obtain ⟨i, hi, hz, hs, hb⟩ := info_parts info25
  have := run_make (P := Yba.prog) w 23 25 i (.pointer none) Yba.underlying23 hi hz .i64 .i64 L L (by omega) (Int.le_refl _) (by rw [hb]; omega) (by omega)
  rw [this, hs]
  simp [nils, Value.cells]

/-! ### The plain side -/
/-- The last of the first k names that is the query; -1 if there is none. -/
def wantAt (ss : List ByteArray) (q : ByteArray) : Nat → Int
  | 0 => -1
  | k + 1 => if ((ss.getD k ByteArray.empty).toList == q.toList) = true then (k : Int) else wantAt ss q k

theorem wantAt_lt (ss : List ByteArray) (q : ByteArray) : ∀ k, wantAt ss q k < k
  | 0 => by simp [wantAt]
  | k + 1 => by
    unfold wantAt
    have := wantAt_lt ss q k
    split <;> omega

theorem wantAt_ge (ss : List ByteArray) (q : ByteArray) : ∀ k, -1 ≤ wantAt ss q k
  | 0 => by simp [wantAt]
  | k + 1 => by
    unfold wantAt
    have := wantAt_ge ss q k
    split <;> omega

/-- The block of the role at place z. -/
def spot (g : Nat → Nat) (z : Int) : Int := if z < 0 then -1 else (g z.toNat : Int)

/-- How a pointer to a role reads here: by its block. -/
def rd25 : Value → Option (DataW Unit × List MemPlace)
  | .pointer none => some (.lit (.int .i64 (-1)), [])
  | .pointer (some ⟨x, 0, none⟩) => some (.lit (.int .i64 x), [])
  | _ => none

theorem rd25_inv {v : Value} {z : Int} {ps : List MemPlace} (h : rd25 v = some (.lit (.int .i64 z), ps)) : (z < 0 ∧ v = .pointer none) ∨ ∃ x : Nat, z = x ∧ v = .pointer (some ⟨x, 0, none⟩) := by
  unfold rd25 at h
  split at h
  · simp only [Option.some.injEq, Prod.mk.injEq, DataW.lit.injEq, Lit.int.injEq, true_and] at h
    exact Or.inl ⟨by omega, rfl⟩
  · rename_i x
    simp only [Option.some.injEq, Prod.mk.injEq, DataW.lit.injEq, Lit.int.injEq, true_and] at h
    exact Or.inr ⟨x, by omega, rfl⟩
  · cases h

/-! ### What the first loop carries -/
/-- The row of pointers behind k rounds. -/
def Ptrs (wr : World) (P len k : Nat) (g : Nat → Nat) : Prop :=
  (∀ j, j < k → wr.cell? ⟨P, j, none⟩ = some (.pointer (some ⟨g j, 0, none⟩))) ∧ (∀ j, k ≤ j → j < len → wr.cell? ⟨P, j, none⟩ = some (.pointer none)) ∧ ∀ j, wr.frozen? ⟨P, j, none⟩ = false

/-- The map behind k rounds, as far as the query asks. -/
def MapIs (wr : World) (M : Nat) (ss : List ByteArray) (q : ByteArray) (k : Nat) (g : Nat → Nat) : Prop :=
  ∃ D : DataW Unit, wr.ownsMap Yba.prog 9 rd25 M k D ∧ D.atKey (.string q.data.toList) (.lit (.int .i64 (-1))) = .lit (.int .i64 (spot g (wantAt ss q k)))

theorem law : Keyed Yba.prog 9 := string_keyed Yba.underlying9

theorem Ptrs.made (w : World) (len : Nat) : Ptrs (w.alloc (.cells (nils len) 25)) w.heap.size len 0 (fun _ => 0) := by
  refine ⟨fun j h => absurd h (Nat.not_lt_zero j), fun j _ hj => ?_, fun j => ?_⟩
  · unfold World.cell?
    dsimp only
    rw [(MapKept.heap_alloc w _).1]
    simpa using nils_at len j hj
  · rw [frozen?_alloc_cells]
    simp [World.frozen?]

theorem Ptrs.keep {wr w' : World} {P len k : Nat} {g : Nat → Nat} (h : Ptrs wr P len k g) (e : w'.heap[P]? = wr.heap[P]?) : Ptrs w' P len k g :=
  ⟨fun j hj => (World.cell?_of_block (w := wr) (a := ⟨P, j, none⟩) e).trans (h.1 j hj), fun j h1 h2 => (World.cell?_of_block (w := wr) (a := ⟨P, j, none⟩) e).trans (h.2.1 j h1 h2),
    fun j => (World.frozen?_of_block (w := wr) (a := ⟨P, j, none⟩) e).trans (h.2.2 j)⟩

/-- The new function of blocks. -/
def ext (g : Nat → Nat) (k x : Nat) : Nat → Nat := fun j => if j = k then x else g j

theorem Ptrs.set {wr : World} {P len k x : Nat} {g : Nat → Nat} (h : Ptrs wr P len k g) (hk : k < len) : Ptrs (wr.setCell ⟨P, k, none⟩ (.pointer (some ⟨x, 0, none⟩))) P len (k + 1) (ext g k x) := by
  refine ⟨fun j hj => ?_, fun j h1 h2 => ?_, fun j => by rw [World.frozen?_setCell]; exact h.2.2 j⟩
  · by_cases e : j = k
    · subst e
      unfold ext
      rw [if_pos rfl]
      exact World.cell?_setCell_same wr ⟨P, j, none⟩ _ (h.2.1 j (Nat.le_refl _) hk)
    · unfold ext
      rw [if_neg e, World.cell?_setCell_other]
      · exact h.1 j (by omega)
      · intro e'; injection e' with _ e2 _; exact e e2.symm
  · rw [World.cell?_setCell_other]
    · exact h.2.1 j (by omega) h2
    · intro e'; injection e' with _ e2 _; omega

theorem spot_ext {g : Nat → Nat} {z : Int} {k x : Nat} (h : z < k) : spot (ext g k x) z = spot g z := by
  unfold spot ext
  by_cases c : z < 0
  · rw [if_pos c, if_pos c]
  · rw [if_neg c, if_neg c, if_neg (by omega)]

theorem MapIs.put {wr : World} {M k x : Nat} {ss : List ByteArray} {q s : ByteArray} {g : Nat → Nat} {D : DataW Unit} {w1 : World} (hs : s = ss.getD k ByteArray.empty)
    (hat : D.atKey (.string q.data.toList) (.lit (.int .i64 (-1))) = .lit (.int .i64 (spot g (wantAt ss q k)))) (hmap : wr.ownsMap Yba.prog 9 rd25 M k D)
    (hown : w1.ownsMap Yba.prog 9 rd25 M (k + 1) (D.put (.string s.data.toList) (.lit (.int .i64 (x : Int))))) : MapIs w1 M ss q (k + 1) (ext g k x) := by
  refine ⟨_, hown, ?_⟩
  unfold wantAt
  rw [← hs]
  by_cases e : (s.toList == q.toList) = true
  · rw [if_pos e]
    have e' : s.data.toList = q.data.toList := by
      have : s.toList = q.toList := by simpa using e
      rwa [ByteArray.toList_eq, ByteArray.toList_eq] at this
    rw [e', atKey_put_same (hmap.tidy law).isMap (by simp [WideAt.IsKeyLit])]
    simp [spot, ext]
  · rw [if_neg e, spot_ext (wantAt_lt ss q k), atKey_put_other, hat]
    intro h
    injection h with h
    apply e
    rw [ByteArray.toList_eq, ByteArray.toList_eq, h]
    simp

/-! ### What comes out -/
/-- The pointer that a block's number stands for. -/
def ptrOf (z : Int) : Option Addr := if z < 0 then none else some ⟨z.toNat, 0, none⟩

theorem zero25 (w : World) : (zeroValue 25).run Yba.prog w = .ok (.pointer none) w := by kernel_rfl

theorem lookup_is {W : World} {M n : Nat} {D : DataW Unit} {q : ByteArray} {z : Int} (hown : W.ownsMap Yba.prog 9 rd25 M n D) (hq : q.size ≤ maxLen)
    (hat : D.atKey (.string q.data.toList) (.lit (.int .i64 (-1))) = .lit (.int .i64 z)) :
    (Instr.lookup 24 (.map (some M)) (.string q) false).run Yba.prog W = .ok (.pointer (ptrOf z)) W := by
  obtain ⟨v, ps, hrun, hv⟩ := hown.lookup law Yba.underlying24 (zero25 W) (show rd25 (.pointer none) = some (.lit (.int .i64 (-1)), []) from rfl) (Go.WideMaps.keyOf_string_mk Yba.underlying9 hq)
  rw [hat] at hv
  rw [hrun]
  unfold ptrOf
  rcases rd25_inv hv with ⟨hz, rfl⟩ | ⟨x, rfl, rfl⟩
  · rw [if_pos hz]
  · rw [if_neg (by omega)]
    simp

theorem ownsMap_drewN {W : World} {M n : Nat} {D : DataW Unit} (hown : W.ownsMap Yba.prog 9 rd25 M n D) : ∀ m, (W.drewN m).ownsMap Yba.prog 9 rd25 M n D := fun _ => hown

theorem ptrOf_spot {g : Nat → Nat} {z : Int} : ptrOf (spot g z) = if z < 0 then none else some ⟨g z.toNat, 0, none⟩ := by
  unfold ptrOf spot
  by_cases c : z < 0
  · rw [if_pos c, if_pos c, if_pos (by omega)]
  · rw [if_neg c, if_neg c, if_neg (by omega)]
    simp

theorem eql_same (a : Addr) (w : World) : (binOp .eql 25 (.pointer (some a)) (.pointer (some a))).run Yba.prog w = .ok (.bool true) w := by
  obtain ⟨ti, hi⟩ : ∃ ti, Yba.prog.info? 53 = some ti := Option.isSome_iff_exists.1 (by kernel_rfl)
  exact run_eql_ptr_same w a Yba.underlying25 hi

theorem neq_same (a : Addr) (w : World) : (binOp .neq 54 (.pointer (some a)) (.pointer (some a))).run Yba.prog w = .ok (.bool false) w := by
  obtain ⟨ti, hi⟩ : ∃ ti, Yba.prog.info? 115 = some ti := Option.isSome_iff_exists.1 (by kernel_rfl)
  have h : ∀ d : Nat, (Op.equalIn (d + 1) 54 (.pointer (some a)) (.pointer (some a))).run Yba.prog w = .ok true w := fun d => by
    simp [Op.equalIn, run_underlying Yba.underlying54, sizeOf, typeInfo, hi, run_sameAddr_same]
  simp only [binOp]
  simp [Op.equal, Op.maxDepth, h 9999]

/-! ### The great struct Cell, laid: what the walk wants of it -/
/-- A struct's literal, at the operation, by a fact on its run (the walk's own set would write a great one out). -/
theorem wpList_build_op {P : Program} (w : World) {ops : Array Oper} {rest : List Oper} {o : Oper} {a : Act} {Q : Exit → Act → World → Prop} (hg : o.guard = none) (t : TypeId) (i : Nat) (x : Operand)
    (hop : o.op = Op.build t #[(i, x)]) (v : Value) (hx : a.eval x = v) (c : Array Value) (hrun : (Instr.build t #[(i, v)]).run P w = .ok (.agg c) w)
    (hK : wpList P ops Q rest (a.put o.dst (.agg c)) w) : wpList P ops Q (o :: rest) a w := by
  refine wpList_plain hg fun K' hK' => ?_
  unfold Oper.wp
  simp [execOp, hop, hx, hrun, Result.andThen]
  exact hK' _ _ hK

theorem build115 (m : Option Nat) (w : World) : (Instr.build 115 #[(9, .map m)]).run Yba.prog w = .ok (.agg (((((Yba.prog.info? 115).bind (·.zero)).map (·.cells)).getD #[]).setIfInBounds 12 (.map m))) w := by kernel_rfl
theorem at115 (m : Option Nat) : (((((Yba.prog.info? 115).bind (·.zero)).map (·.cells)).getD #[]).setIfInBounds 12 (.map m))[12]? = some (.map m) := by kernel_rfl

theorem build_cell (m : Option Nat) : ∃ c : Array Value, (∀ w, (Instr.build 115 #[(9, .map m)]).run Yba.prog w = .ok (.agg c) w) ∧ c[12]? = some (.map m) := ⟨_, build115 m, at115 m⟩
end Go.Proofs.Ybulkaawi
