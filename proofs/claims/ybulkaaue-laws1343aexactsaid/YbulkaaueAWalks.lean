/-
  The walk of (Share).length: it computes 'lenP', and lays one new block (its receiver's copy).
-/
import Derived.Test.YbulkaaueProg
import Derived.WalkKit
import Derived.WalkSpells
import Derived.WalkLawsBesides
import Derived.Test.YbulkaaueFloat
namespace Go.Proofs.Ybulkaaue
open Go.RowKit

/-- The least of the bounds that apply, raised to mn: 'fr' is the share of what remains, where that bound applies. -/
def lenP (dur rem mn : Int) (b : Bool) (fr : Option Int) : Int :=
  let l0 : Int := if b then rem else 9223372036854775807
  let l1 : Int := if 0 < dur then min l0 dur else l0
  let l2 : Int := match fr with | some k => min l1 k | none => l1
  max l2 mn

/-- Is the float above nought? -/
def pos (x : Nat) : Bool := FloatKind.f64.format.order x 0 == some .gt

/-- What the conversion of the product gives, where it is made. -/
def FrIs (x : Nat) (rem : Int) (b : Bool) (fr : Option Int) : Prop :=
  (b = true ∧ pos x = true ∧ ∃ r k, floatBits .mul .f64 x (floatOfInt .f64 rem) = some r ∧ floatToIntVal .f64 r .i64 = some k ∧ fr = some k) ∨
  ((b = false ∨ pos x = false) ∧ fr = none)

theorem ret_int {k : IntKind} {a b : Int} (h : a = b) : Ending.returned (.int k a) = .returned (.int k b) := by rw [h]
theorem ret_true {b : Bool} (h : b = true) : Ending.returned (.bool b) = .returned (.bool true) := by rw [h]

theorem length_fr (label : ByteArray) (dur rem mn : Int) (x r : Nat) (k : Int) (w : World)
    (h0 : (FloatKind.f64.format.order x 0 == some .gt) = true)
    (hm : floatBits .mul .f64 x (floatOfInt .f64 rem) = some r) (hc : floatToIntVal .f64 r .i64 = some k) :
    Calls Yba.prog 7 #[.agg #[.string label, .int .i64 dur, .float .f64 x, .int .i64 mn], .int .i64 rem, .bool true] w fun e w' =>
      e = .returned (.int .i64 (lenP dur rem mn true (some k))) ∧ w' = w.alloc (.cells #[.string label, .int .i64 dur, .float .f64 x, .int .i64 mn] 25) := by
  have ha : ∀ t w, (binOp .mul t (.float .f64 x) (.float .f64 (floatOfInt .f64 rem))).run Yba.prog w = .ok (.float .f64 r) w := fun t w => run_float_arith w .mul t .f64 x _ r hm
  have hv : ∀ w, (convert 22 23 (.float .f64 r)).run Yba.prog w = .ok (.int .i64 k) w := fun w => run_convert_float_int w 22 23 .f64 .i64 r k (by rw [Yba.underlying22]; rfl) Yba.underlying23 hc
  clear hm hc
  by_cases hd : 0 < dur
  · have e : lenP dur rem mn true (some k) = max (min (min rem dur) k) mn := by simp [lenP, hd]
    rw [e]
    clear e
    go_enter Yba.func7, Yba.ntmps7
    go_wp2_with (simp only [ha, hv])
    all_goals
      go_ret
      exact ⟨ret_int (by omega), rfl⟩
  · have e : lenP dur rem mn true (some k) = max (min rem k) mn := by simp [lenP, hd]
    rw [e]
    clear e
    go_enter Yba.func7, Yba.ntmps7
    go_wp2_with (simp only [ha, hv])
    all_goals
      go_ret
      exact ⟨ret_int (by omega), rfl⟩

theorem length_no (label : ByteArray) (dur rem mn : Int) (x : Nat) (b : Bool) (w : World)
    (h0 : b = false ∨ (FloatKind.f64.format.order x 0 == some .gt) = false) :
    Calls Yba.prog 7 #[.agg #[.string label, .int .i64 dur, .float .f64 x, .int .i64 mn], .int .i64 rem, .bool b] w fun e w' =>
      e = .returned (.int .i64 (lenP dur rem mn b none)) ∧ w' = w.alloc (.cells #[.string label, .int .i64 dur, .float .f64 x, .int .i64 mn] 25) := by
  obtain ⟨l0, hl0⟩ : ∃ l0 : Int, l0 = if b then rem else 9223372036854775807 := ⟨_, rfl⟩
  by_cases hd : 0 < dur
  · have e : lenP dur rem mn b none = max (min l0 dur) mn := by simp [lenP, hd, hl0]
    rw [e]
    clear e
    cases hb : b
    · have hl : l0 = 9223372036854775807 := by simp [hl0, hb]
      subst hl
      clear hl0 hb
      by_cases hp : (FloatKind.f64.format.order x 0 == some .gt) = true
      all_goals
        clear h0
        go_enter Yba.func7, Yba.ntmps7
        go_wp2
        all_goals
          go_ret
          exact ⟨ret_int (by omega), rfl⟩
    · have hl : l0 = rem := by simp [hl0, hb]
      subst hl
      have hp : (FloatKind.f64.format.order x 0 == some .gt) = false := by simpa [hb] using h0
      clear hl0 hb h0
      go_enter Yba.func7, Yba.ntmps7
      go_wp2
      all_goals
        go_ret
        exact ⟨ret_int (by omega), rfl⟩
  · have e : lenP dur rem mn b none = max l0 mn := by simp [lenP, hd, hl0]
    rw [e]
    clear e
    cases hb : b
    · have hl : l0 = 9223372036854775807 := by simp [hl0, hb]
      subst hl
      clear hl0 hb
      by_cases hp : (FloatKind.f64.format.order x 0 == some .gt) = true
      all_goals
        clear h0
        go_enter Yba.func7, Yba.ntmps7
        go_wp2
        all_goals
          go_ret
          exact ⟨ret_int (by omega), rfl⟩
    · have hl : l0 = rem := by simp [hl0, hb]
      subst hl
      have hp : (FloatKind.f64.format.order x 0 == some .gt) = false := by simpa [hb] using h0
      clear hl0 hb h0
      go_enter Yba.func7, Yba.ntmps7
      go_wp2
      all_goals
        go_ret
        exact ⟨ret_int (by omega), rfl⟩

theorem length_any (label : ByteArray) (dur rem mn : Int) (x : Nat) (b : Bool) (fr : Option Int) (w : World) (h : FrIs x rem b fr) :
    Calls Yba.prog 7 #[.agg #[.string label, .int .i64 dur, .float .f64 x, .int .i64 mn], .int .i64 rem, .bool b] w fun e w' =>
      e = .returned (.int .i64 (lenP dur rem mn b fr)) ∧ w' = w.alloc (.cells #[.string label, .int .i64 dur, .float .f64 x, .int .i64 mn] 25) := by
  rcases h with ⟨rfl, hp, r, k, hm, hc, rfl⟩ | ⟨h0, rfl⟩
  · exact length_fr label dur rem mn x r k w hp hm hc
  · exact length_no label dur rem mn x b w h0
end Go.Proofs.Ybulkaaue
