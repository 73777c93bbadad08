/-
  The walk of LawS1343ABounds: it returns true.
-/
import Derived.Test.YbulkaaueAWalks
import Derived.OpenShut
namespace Go.Proofs.Ybulkaaue
open Go.RowKit

/-- A float stored into a cell: the walk's law that the library lacks. -/
theorem run_store_float (P : Program) (w : World) (a : Addr) (m : Mode) (k : FloatKind) (n : Nat) : (store a (.float k n) m).run P w = stored P w a (.float k n) m := run_store P w a _ m rfl
attribute [local go_sem] run_store_float

theorem hide {p : Prop} (h : p) : Hid p := h
theorem unhide {p : Prop} (h : Hid p) : p := h

theorem lenP_ge (dur rem mn : Int) (b : Bool) (fr : Option Int) : mn ≤ lenP dur rem mn b fr := by
  unfold lenP; exact Int.le_max_right _ _

theorem lenP_dur (dur rem mn : Int) (b : Bool) (fr : Option Int) (h : 0 < dur) (hm : mn ≤ dur) : lenP dur rem mn b fr ≤ dur := by
  unfold lenP
  dsimp only
  rw [if_pos h]
  cases fr with
  | none => dsimp only; omega
  | some k => dsimp only; omega

theorem lenP_rem (dur rem mn : Int) (fr : Option Int) (hm : mn ≤ rem) : lenP dur rem mn true fr ≤ rem := by
  unfold lenP
  dsimp only
  rw [if_pos rfl]
  by_cases h : 0 < dur
  · rw [if_pos h]
    cases fr with
    | none => dsimp only; omega
    | some k => dsimp only; omega
  · rw [if_neg h]
    cases fr with
    | none => dsimp only; omega
    | some k => dsimp only; omega

theorem lenP_free (dur rem mn : Int) (h : ¬ 0 < dur) (hm : mn ≤ 9223372036854775807) : lenP dur rem mn false none = 9223372036854775807 := by
  unfold lenP
  dsimp only
  rw [if_neg h, if_neg (by decide)]
  omega

/-- Bounded, and the share applies. -/
theorem bounds_share (dur rem mn L : Int) (x : Nat) (w : World)
    (h1 : (FloatKind.f64.format.order x 4607182418800017408 == some .gt) = false)
    (hp : (FloatKind.f64.format.order x 0 == some .gt) = true) (hlo : -9007199254740992 ≤ rem) (hhi : rem ≤ 9007199254740992)
    (k1 : mn ≤ L) (k2 : 0 < dur → mn ≤ dur → L ≤ dur) (k3 : mn ≤ rem → L ≤ rem)
    (HL : Hid (∀ w, Calls Yba.prog 7 #[.agg #[.string { data := #[100, 98] }, .int .i64 dur, .float .f64 x, .int .i64 mn], .int .i64 rem, .bool true] w fun e w' =>
      e = .returned (.int .i64 L) ∧ w' = w.alloc (.cells #[.string { data := #[100, 98] }, .int .i64 dur, .float .f64 x, .int .i64 mn] 25))) :
    Calls Yba.prog 4 #[.int .i64 dur, .int .i64 rem, .int .i64 mn, .float .f64 x, .bool true] w fun e w' => e = .returned (.bool true) ∧ Grown w w' := by
  go_enter Yba.func4, Yba.ntmps4
  go_wp2_with (go_at_call 7; refine (HL.out _).mono ?_; rintro e w' ⟨rfl, rfl⟩)
  all_goals
    go_ret
    exact ⟨rfl, by repeat (first | exact Grown.refl _ | apply Grown.drew | apply Grown.alloc)⟩

/-- Bounded, and the share does not apply. -/
theorem bounds_bare (dur rem mn L : Int) (x : Nat) (w : World)
    (h1 : (FloatKind.f64.format.order x 4607182418800017408 == some .gt) = false)
    (hp : (FloatKind.f64.format.order x 0 == some .gt) = false)
    (k1 : mn ≤ L) (k2 : 0 < dur → mn ≤ dur → L ≤ dur) (k3 : mn ≤ rem → L ≤ rem)
    (HL : Hid (∀ w, Calls Yba.prog 7 #[.agg #[.string { data := #[100, 98] }, .int .i64 dur, .float .f64 x, .int .i64 mn], .int .i64 rem, .bool true] w fun e w' =>
      e = .returned (.int .i64 L) ∧ w' = w.alloc (.cells #[.string { data := #[100, 98] }, .int .i64 dur, .float .f64 x, .int .i64 mn] 25))) :
    Calls Yba.prog 4 #[.int .i64 dur, .int .i64 rem, .int .i64 mn, .float .f64 x, .bool true] w fun e w' => e = .returned (.bool true) ∧ Grown w w' := by
  go_enter Yba.func4, Yba.ntmps4
  go_wp2_with (go_at_call 7; refine (HL.out _).mono ?_; rintro e w' ⟨rfl, rfl⟩)
  all_goals
    go_ret
    exact ⟨rfl, by repeat (first | exact Grown.refl _ | apply Grown.drew | apply Grown.alloc)⟩

/-- Not bounded. -/
theorem bounds_free (dur rem mn L : Int) (x : Nat) (w : World)
    (h1 : (FloatKind.f64.format.order x 4607182418800017408 == some .gt) = false)
    (k1 : mn ≤ L) (k2 : 0 < dur → mn ≤ dur → L ≤ dur) (k4 : 0 < dur ∨ (L == 9223372036854775807) = true)
    (HL : Hid (∀ w, Calls Yba.prog 7 #[.agg #[.string { data := #[100, 98] }, .int .i64 dur, .float .f64 x, .int .i64 mn], .int .i64 rem, .bool false] w fun e w' =>
      e = .returned (.int .i64 L) ∧ w' = w.alloc (.cells #[.string { data := #[100, 98] }, .int .i64 dur, .float .f64 x, .int .i64 mn] 25))) :
    Calls Yba.prog 4 #[.int .i64 dur, .int .i64 rem, .int .i64 mn, .float .f64 x, .bool false] w fun e w' => e = .returned (.bool true) ∧ Grown w w' := by
  by_cases hd : 0 < dur
  · clear k4
    go_enter Yba.func4, Yba.ntmps4
    go_wp2_with (go_at_call 7; refine (HL.out _).mono ?_; rintro e w' ⟨rfl, rfl⟩)
    all_goals
      go_ret
      exact ⟨rfl, by repeat (first | exact Grown.refl _ | apply Grown.drew | apply Grown.alloc)⟩
  · have k5 : (L != 9223372036854775807) = false := by rcases k4 with h | h; exact absurd h hd; simpa [bne] using h
    clear k4
    go_enter Yba.func4, Yba.ntmps4
    go_wp2_with (go_at_call 7; refine (HL.out _).mono ?_; rintro e w' ⟨rfl, rfl⟩)
    all_goals
      go_ret
      exact ⟨rfl, by repeat (first | exact Grown.refl _ | apply Grown.drew | apply Grown.alloc)⟩

/-- The two ways that return at once. -/
theorem bounds_over (dur rem mn : Int) (x : Nat) (b : Bool) (w : World)
    (h1 : (FloatKind.f64.format.order x 4607182418800017408 == some .gt) = true) :
    Calls Yba.prog 4 #[.int .i64 dur, .int .i64 rem, .int .i64 mn, .float .f64 x, .bool b] w fun e w' => e = .returned (.bool true) ∧ Grown w w' := by
  go_enter Yba.func4, Yba.ntmps4
  go_wp2_with fail
  go_ret
  exact ⟨rfl, Grown.refl _⟩

theorem bounds_wide (dur rem mn : Int) (x : Nat) (w : World)
    (h1 : (FloatKind.f64.format.order x 4607182418800017408 == some .gt) = false)
    (hp : (FloatKind.f64.format.order x 0 == some .gt) = true) (hw : rem < -9007199254740992 ∨ 9007199254740992 < rem) :
    Calls Yba.prog 4 #[.int .i64 dur, .int .i64 rem, .int .i64 mn, .float .f64 x, .bool true] w fun e w' => e = .returned (.bool true) ∧ Grown w w' := by
  rcases hw with hw | hw
  · go_enter Yba.func4, Yba.ntmps4
    go_wp2_with fail
    go_ret
    exact ⟨rfl, Grown.refl _⟩
  · have hw' : ¬ rem < -9007199254740992 := by omega
    go_enter Yba.func4, Yba.ntmps4
    go_wp2_with fail
    go_ret
    exact ⟨rfl, Grown.refl _⟩

theorem bounds_any (dur rem mn : Int) (x : Nat) (b : Bool) (w : World) (hmax : mn ≤ 9223372036854775807) :
    Calls Yba.prog 4 #[.int .i64 dur, .int .i64 rem, .int .i64 mn, .float .f64 x, .bool b] w fun e w' => e = .returned (.bool true) ∧ Grown w w' := by
  cases h1 : (FloatKind.f64.format.order x 4607182418800017408 == some .gt) with
  | true => exact bounds_over dur rem mn x b w h1
  | false =>
    cases b with
    | false =>
      refine bounds_free dur rem mn (lenP dur rem mn false none) x w h1 (lenP_ge ..) (lenP_dur _ _ _ _ _) ?_ (hide fun w => length_any _ dur rem mn x false none w (Or.inr ⟨Or.inl rfl, rfl⟩))
      by_cases h : 0 < dur
      · exact Or.inl h
      · exact Or.inr (by rw [lenP_free dur rem mn h hmax]; rfl)
    | true =>
      cases hp : pos x with
      | false =>
        exact bounds_bare dur rem mn (lenP dur rem mn true none) x w h1 hp (lenP_ge ..) (lenP_dur _ _ _ _ _) (lenP_rem dur rem mn none) (hide fun w => length_any _ dur rem mn x true none w (Or.inr ⟨Or.inr hp, rfl⟩))
      | true =>
        by_cases hr : -9007199254740992 ≤ rem ∧ rem ≤ 9007199254740992
        · obtain ⟨r, k, hm, hc⟩ := Fl.share_int x rem h1 hp hr.1 hr.2
          exact bounds_share dur rem mn (lenP dur rem mn true (some k)) x w h1 hp hr.1 hr.2 (lenP_ge ..) (lenP_dur _ _ _ _ _) (lenP_rem dur rem mn _) (hide fun w => length_any _ dur rem mn x true (some k) w (Or.inl ⟨rfl, hp, r, k, hm, hc, rfl⟩))
        · exact bounds_wide dur rem mn x w h1 hp (by omega)
end Go.Proofs.Ybulkaaue
