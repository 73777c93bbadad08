/-
  (*Scheduler).among: it filters the row in its place, calling the closure on each, and hands back what one draw picks.
-/
import Derived.Test.YbulkaawiFits
namespace Go.Proofs.Ybulkaawi
open Go.RowKit

/-! ### The plain side -/
/-- Those of the first k that are kept. -/
def E (zs : List Int) (p : Nat → Bool) : Nat → List Int
  | 0 => []
  | k + 1 => if p k then E zs p k ++ [zs.getD k 0] else E zs p k

/-- The row behind k rounds. -/
def R (zs : List Int) (p : Nat → Bool) : Nat → List Int
  | 0 => zs
  | k + 1 => if p k then (R zs p k).set (E zs p k).length (zs.getD k 0) else R zs p k

theorem E_yes {zs : List Int} {p : Nat → Bool} {k : Nat} (h : p k = true) : E zs p (k + 1) = E zs p k ++ [zs.getD k 0] := by rw [E, if_pos h]
theorem E_no {zs : List Int} {p : Nat → Bool} {k : Nat} (h : p k = false) : E zs p (k + 1) = E zs p k := by rw [E, if_neg (by rw [h]; decide)]
theorem R_yes {zs : List Int} {p : Nat → Bool} {k : Nat} (h : p k = true) : R zs p (k + 1) = (R zs p k).set (E zs p k).length (zs.getD k 0) := by rw [R, if_pos h]
theorem R_no {zs : List Int} {p : Nat → Bool} {k : Nat} (h : p k = false) : R zs p (k + 1) = R zs p k := by rw [R, if_neg (by rw [h]; decide)]

theorem E_le (zs : List Int) (p : Nat → Bool) : ∀ k, (E zs p k).length ≤ k
  | 0 => Nat.le_refl _
  | k + 1 => by
    have := E_le zs p k
    cases h : p k with
    | true => rw [E_yes h]; simp; omega
    | false => rw [E_no h]; omega

theorem R_len (zs : List Int) (p : Nat → Bool) : ∀ k, (R zs p k).length = zs.length
  | 0 => rfl
  | k + 1 => by
    have := R_len zs p k
    cases h : p k with
    | true => rw [R_yes h]; simpa using this
    | false => rw [R_no h]; exact this

theorem R_at (zs : List Int) (p : Nat → Bool) : ∀ k, k ≤ zs.length → ∀ j, (R zs p k).getD j 0 = if j < (E zs p k).length then (E zs p k).getD j 0 else zs.getD j 0
  | 0, _, j => by simp [R, E]
  | k + 1, hk, j => by
    have ih := R_at zs p k (by omega) j
    have hl := R_len zs p k
    have he := E_le zs p k
    cases h : p k with
    | true =>
      rw [R_yes h, E_yes h]
      generalize E zs p k = e at ih he
      generalize R zs p k = r at ih hl
      simp only [List.getD_eq_getElem?_getD, List.getElem?_set, List.getElem?_append, List.length_append, List.length_cons, List.length_nil] at ih ⊢
      by_cases c : e.length = j
      · rw [if_pos c, if_pos (by omega), if_pos (by omega), if_neg (by omega)]
        simp [c]
      · rw [if_neg c, ih]
        by_cases c2 : j < e.length
        · rw [if_pos c2, if_pos (by omega), if_pos c2]
        · rw [if_neg c2, if_neg (by omega)]
    | false =>
      rw [R_no h, E_no h]
      exact ih

/-- A row of numbers as cells. -/
def ints (l : List Int) : Array Value := (l.map (Value.int .i64)).toArray

theorem ints_at (l : List Int) (j : Nat) (h : j < l.length) : (ints l)[j]? = some (.int .i64 (l.getD j 0)) := by
  unfold ints
  simp [h]

theorem row_cell {w : World} {C : Nat} {l : List Int} (h : w.heap[C]? = some (.cells (ints l) 3)) (j : Nat) (hj : j < l.length) : w.cell? ⟨C, j, none⟩ = some (.int .i64 (l.getD j 0)) := by
  unfold World.cell?
  dsimp only
  rw [h]
  simpa using ints_at l j hj

/-- append, at the operation, by a fact on its run. -/
theorem wpList_append_run {P : Program} (w : World) {ops : Array Oper} {rest : List Oper} {o : Oper} {a : Act} {Q : Exit → Act → World → Prop} (hgd : o.guard = none) (s x : Operand) (t : TypeId)
    (ho : o.op = .call { callee := .builtin .append, args := #[s, x], argTypes := #[t, t] }) (v u v' : Value) (w' : World) (hs : a.eval s = v) (hx : a.eval x = u)
    (hr : ∀ ty, (Builtin.append_ #[t, t] ty #[v, u]).run P w = .ok v' w') (h : wpList P ops Q rest (a.put o.dst v') w') : wpList P ops Q (o :: rest) a w :=
  wpList_plain hgd fun K hK => by
    unfold Oper.wp execOp
    simp only [ho, resolve, invoke, builtin, Sem.run_bind, Sem.run_pure, Result.andThen_ok, List.map_toArray, List.map_cons, List.map_nil, hs, hx, hr]
    exact hK _ _ h

/-- append of one number with room: the row's next cell is set. -/
theorem append_room {w : World} {C m len : Nat} {l : List Int} {x : Int} (h : w.heap[C]? = some (.cells (ints l) 3)) (hl : l.length = len) (hm : m < len) :
    ∃ w', (∀ ty, (Builtin.append_ #[96, 96] ty #[.slice (some ⟨C, 0, none⟩) m len, .slice (some ⟨w.heap.size, 0, none⟩) 1 1]).run Yba.prog (w.alloc (.cells #[.int .i64 x] 3)) = .ok (.slice (some ⟨C, 0, none⟩) (m + 1) len) w') ∧
      w'.heap[C]? = some (.cells (ints (l.set m x)) 3) ∧ Kept w.heap.size (fun b => b = C) w w' := by
  obtain ⟨i0, hi, hz0, hz1, hz2⟩ := info_parts info3
  have hC : C < w.heap.size := (Array.getElem?_eq_some_iff.1 h).1
  have hg : (w.alloc (.cells #[.int .i64 x] 3)).heap[C]? = some (.cells (ints l) 3) := (Below.heap_alloc _ _ _ hC).trans h
  have hs : (ints l).size = len := by simp [ints, hl]
  refine ⟨_, fun ty => run_append_room (P := Yba.prog) (w.alloc (.cells #[.int .i64 x] 3)) 96 ty 3 i0 Yba.underlying96 hi C m len (ints l) hg ⟨w.heap.size, 0, none⟩ 1 1 [.int .i64 x] (by rw [hz1]; rfl) (cell_one_new w _ _) (ints_oneCell .i64 [x]) (by omega) (by rw [hz1, hs]; simp; omega), ?_, ?_⟩
  · have e : ((ints l).toList.take (m * 1) ++ [Value.int .i64 x] ++ (ints l).toList.drop (m * 1 + [Value.int .i64 x].length)) = (l.set m x).map (Value.int .i64) := by
      apply List.ext_getElem?
      intro j
      simp only [ints, Nat.mul_one, List.length_singleton, List.getElem?_append, List.getElem?_take, List.getElem?_drop, List.getElem?_map, List.getElem?_set, List.length_take, List.length_append, List.length_map]
      by_cases c : j = m
      · subst c
        rw [if_pos (by omega), if_neg (by omega), if_pos rfl, if_pos (by omega)]
        have : j - min j l.length = 0 := by omega
        simp [this]
      · by_cases c2 : j < m
        · rw [if_pos (by omega), if_pos (by omega), if_pos c2, if_neg (by omega)]
        · rw [if_neg (by omega), if_neg (by omega)]
          have : m + 1 + (j - (min m l.length + 1)) = j := by omega
          rw [this]
    have e' : ((ints l).toList.take (m * i0.size) ++ [Value.int .i64 x] ++ (ints l).toList.drop (m * i0.size + [Value.int .i64 x].length)).toArray = ints (l.set m x) := by rw [hz1, e]; rfl
    rw [e']
    exact setRow_heap _ _ _ _ _ _ hg
  · refine ⟨rfl, rfl, rfl, by simp, fun b hb hne => ?_⟩
    rw [setRow_other _ _ _ _ hne]
    exact Below.heap_alloc _ _ _ hb
end Go.Proofs.Ybulkaawi
