/-
  The walk of LawS1343AExact: it returns true. One theorem for each set of bounds that apply (bounded, a duration, a share).
-/
import Derived.Test.YbulkaaueABounds
namespace Go.Proofs.Ybulkaaue
open Go.RowKit
attribute [local go_sem] run_store_float

/-- The least of the greatest int64 and the first k of three numbers. -/
def least (c0 c1 c2 : Int) : Nat → Int
  | 0 => 9223372036854775807
  | 1 => min 9223372036854775807 c0
  | 2 => min (min 9223372036854775807 c0) c1
  | _ => min (min (min 9223372036854775807 c0) c1) c2

section
variable {c0 c1 c2 : Int}
theorem l0a (h : c0 < least c0 c1 c2 0) : Value.int .i64 c0 = .int .i64 (least c0 c1 c2 1) := by simp only [least] at *; congr 1; omega
theorem l0b (h : least c0 c1 c2 0 ≤ c0) : Value.int .i64 (least c0 c1 c2 0) = .int .i64 (least c0 c1 c2 1) := by simp only [least] at *; congr 1; omega
theorem l1a (h : c1 < least c0 c1 c2 1) : Value.int .i64 c1 = .int .i64 (least c0 c1 c2 2) := by simp only [least] at *; congr 1; omega
theorem l1b (h : least c0 c1 c2 1 ≤ c1) : Value.int .i64 (least c0 c1 c2 1) = .int .i64 (least c0 c1 c2 2) := by simp only [least] at *; congr 1; omega
theorem l2a (h : c2 < least c0 c1 c2 2) : Value.int .i64 c2 = .int .i64 (least c0 c1 c2 3) := by simp only [least] at *; congr 1; omega
theorem l2b (h : least c0 c1 c2 2 ≤ c2) : Value.int .i64 (least c0 c1 c2 2) = .int .i64 (least c0 c1 c2 3) := by simp only [least] at *; congr 1; omega
end
theorem fa {L mn v : Int} (e : L = max v mn) (h : v < mn) : (L == mn) = true := by simp; omega
theorem fb {L mn v : Int} (e : L = max v mn) (h : mn ≤ v) : (L == v) = true := by simp; omega

def LenIs (label : ByteArray) (dur rem mn : Int) (x : Nat) (b : Bool) (L : Int) : Prop :=
  ∀ w, Calls Yba.prog 7 #[.agg #[.string label, .int .i64 dur, .float .f64 x, .int .i64 mn], .int .i64 rem, .bool b] w fun e w' =>
      e = .returned (.int .i64 L) ∧ w' = w.alloc (.cells #[.string label, .int .i64 dur, .float .f64 x, .int .i64 mn] 25)

theorem exact_bdp (label : ByteArray) (dur rem mn L : Int) (x : Nat) (r : Nat) (k : Int) (w : World)
    (h1 : (FloatKind.f64.format.order x 4607182418800017408 == some .gt) = false)
    (hp : (FloatKind.f64.format.order x 0 == some .gt) = true) (hlo : -9007199254740992 ≤ rem) (hhi : rem ≤ 9007199254740992)
    (ha : ∀ t w, (binOp .mul t (.float .f64 x) (.float .f64 (floatOfInt .f64 rem))).run Yba.prog w = .ok (.float .f64 r) w)
    (hv : ∀ w, (convert 22 2 (.float .f64 r)).run Yba.prog w = .ok (.int .i64 k) w)
    (hd : 0 < dur)
    (hL : Hid (L = max (least rem dur k 3) mn))
    (HL : Hid (LenIs label dur rem mn x true L)) :
    Calls Yba.prog 3 #[.string label, .int .i64 dur, .int .i64 rem, .int .i64 mn, .float .f64 x, .bool true] w fun e w' => e = .returned (.bool true) ∧ Grown w w' := by
  go_enter Yba.func3, Yba.ntmps3
  go_wp2_with (first | (go_at_call 7; refine (HL.out _).mono ?_; rintro e w' ⟨rfl, rfl⟩) | rw [ha] | rw [hv])
  go_loop [17, 18] (fun t i => ∃ j : Nat, j ≤ 3 ∧ i = .int .i64 j ∧ t = .int .i64 (least rem dur k j)) (fun _ i => 3 - (intOf i).toNat)
  case atStart => exact ⟨0, by omega, rfl, rfl⟩
  case round =>
    obtain ⟨j, hj, rfl, rfl⟩ := hrel
    obtain rfl | rfl | rfl | rfl : j = 0 ∨ j = 1 ∨ j = 2 ∨ j = 3 := by omega
    · go_wp2
      · go_round
        case rel => exact ⟨1, by omega, rfl, l0a ‹_›⟩
        case measure => simp [intOf]
      · go_round
        case rel => exact ⟨1, by omega, rfl, l0b ‹_›⟩
        case measure => simp [intOf]
    · go_wp2
      · go_round
        case rel => exact ⟨2, by omega, rfl, l1a ‹_›⟩
        case measure => simp [intOf]
      · go_round
        case rel => exact ⟨2, by omega, rfl, l1b ‹_›⟩
        case measure => simp [intOf]
    · go_wp2
      · go_round
        case rel => exact ⟨3, by omega, rfl, l2a ‹_›⟩
        case measure => simp [intOf]
      · go_round
        case rel => exact ⟨3, by omega, rfl, l2b ‹_›⟩
        case measure => simp [intOf]
    · go_wp2
      · go_ret
        exact ⟨ret_true (fa hL.out ‹_›), by repeat (first | exact Grown.refl _ | apply Grown.drew | apply Grown.alloc)⟩
      · go_ret
        exact ⟨ret_true (fb hL.out ‹_›), by repeat (first | exact Grown.refl _ | apply Grown.drew | apply Grown.alloc)⟩

theorem exact_bdn (label : ByteArray) (dur rem mn L : Int) (x : Nat) (w : World)
    (h1 : (FloatKind.f64.format.order x 4607182418800017408 == some .gt) = false)
    (hp : (FloatKind.f64.format.order x 0 == some .gt) = false)
    (hd : 0 < dur)
    (hL : Hid (L = max (least rem dur 0 2) mn))
    (HL : Hid (LenIs label dur rem mn x true L)) :
    Calls Yba.prog 3 #[.string label, .int .i64 dur, .int .i64 rem, .int .i64 mn, .float .f64 x, .bool true] w fun e w' => e = .returned (.bool true) ∧ Grown w w' := by
  go_enter Yba.func3, Yba.ntmps3
  go_wp2_with (go_at_call 7; refine (HL.out _).mono ?_; rintro e w' ⟨rfl, rfl⟩)
  go_loop [17, 18] (fun t i => ∃ j : Nat, j ≤ 2 ∧ i = .int .i64 j ∧ t = .int .i64 (least rem dur 0 j)) (fun _ i => 2 - (intOf i).toNat)
  case atStart => exact ⟨0, by omega, rfl, rfl⟩
  case round =>
    obtain ⟨j, hj, rfl, rfl⟩ := hrel
    obtain rfl | rfl | rfl : j = 0 ∨ j = 1 ∨ j = 2 := by omega
    · go_wp2
      · go_round
        case rel => exact ⟨1, by omega, rfl, l0a ‹_›⟩
        case measure => simp [intOf]
      · go_round
        case rel => exact ⟨1, by omega, rfl, l0b ‹_›⟩
        case measure => simp [intOf]
    · go_wp2
      · go_round
        case rel => exact ⟨2, by omega, rfl, l1a ‹_›⟩
        case measure => simp [intOf]
      · go_round
        case rel => exact ⟨2, by omega, rfl, l1b ‹_›⟩
        case measure => simp [intOf]
    · go_wp2
      · go_ret
        exact ⟨ret_true (fa hL.out ‹_›), by repeat (first | exact Grown.refl _ | apply Grown.drew | apply Grown.alloc)⟩
      · go_ret
        exact ⟨ret_true (fb hL.out ‹_›), by repeat (first | exact Grown.refl _ | apply Grown.drew | apply Grown.alloc)⟩

theorem exact_bnp (label : ByteArray) (dur rem mn L : Int) (x : Nat) (r : Nat) (k : Int) (w : World)
    (h1 : (FloatKind.f64.format.order x 4607182418800017408 == some .gt) = false)
    (hp : (FloatKind.f64.format.order x 0 == some .gt) = true) (hlo : -9007199254740992 ≤ rem) (hhi : rem ≤ 9007199254740992)
    (ha : ∀ t w, (binOp .mul t (.float .f64 x) (.float .f64 (floatOfInt .f64 rem))).run Yba.prog w = .ok (.float .f64 r) w)
    (hv : ∀ w, (convert 22 2 (.float .f64 r)).run Yba.prog w = .ok (.int .i64 k) w)
    (hd : ¬ 0 < dur)
    (hL : Hid (L = max (least rem k 0 2) mn))
    (HL : Hid (LenIs label dur rem mn x true L)) :
    Calls Yba.prog 3 #[.string label, .int .i64 dur, .int .i64 rem, .int .i64 mn, .float .f64 x, .bool true] w fun e w' => e = .returned (.bool true) ∧ Grown w w' := by
  go_enter Yba.func3, Yba.ntmps3
  go_wp2_with (first | (go_at_call 7; refine (HL.out _).mono ?_; rintro e w' ⟨rfl, rfl⟩) | rw [ha] | rw [hv])
  go_loop [17, 18] (fun t i => ∃ j : Nat, j ≤ 2 ∧ i = .int .i64 j ∧ t = .int .i64 (least rem k 0 j)) (fun _ i => 2 - (intOf i).toNat)
  case atStart => exact ⟨0, by omega, rfl, rfl⟩
  case round =>
    obtain ⟨j, hj, rfl, rfl⟩ := hrel
    obtain rfl | rfl | rfl : j = 0 ∨ j = 1 ∨ j = 2 := by omega
    · go_wp2
      · go_round
        case rel => exact ⟨1, by omega, rfl, l0a ‹_›⟩
        case measure => simp [intOf]
      · go_round
        case rel => exact ⟨1, by omega, rfl, l0b ‹_›⟩
        case measure => simp [intOf]
    · go_wp2
      · go_round
        case rel => exact ⟨2, by omega, rfl, l1a ‹_›⟩
        case measure => simp [intOf]
      · go_round
        case rel => exact ⟨2, by omega, rfl, l1b ‹_›⟩
        case measure => simp [intOf]
    · go_wp2
      · go_ret
        exact ⟨ret_true (fa hL.out ‹_›), by repeat (first | exact Grown.refl _ | apply Grown.drew | apply Grown.alloc)⟩
      · go_ret
        exact ⟨ret_true (fb hL.out ‹_›), by repeat (first | exact Grown.refl _ | apply Grown.drew | apply Grown.alloc)⟩

theorem exact_bnn (label : ByteArray) (dur rem mn L : Int) (x : Nat) (w : World)
    (h1 : (FloatKind.f64.format.order x 4607182418800017408 == some .gt) = false)
    (hp : (FloatKind.f64.format.order x 0 == some .gt) = false)
    (hd : ¬ 0 < dur)
    (hL : Hid (L = max (least rem 0 0 1) mn))
    (HL : Hid (LenIs label dur rem mn x true L)) :
    Calls Yba.prog 3 #[.string label, .int .i64 dur, .int .i64 rem, .int .i64 mn, .float .f64 x, .bool true] w fun e w' => e = .returned (.bool true) ∧ Grown w w' := by
  go_enter Yba.func3, Yba.ntmps3
  go_wp2_with (go_at_call 7; refine (HL.out _).mono ?_; rintro e w' ⟨rfl, rfl⟩)
  go_loop [17, 18] (fun t i => ∃ j : Nat, j ≤ 1 ∧ i = .int .i64 j ∧ t = .int .i64 (least rem 0 0 j)) (fun _ i => 1 - (intOf i).toNat)
  case atStart => exact ⟨0, by omega, rfl, rfl⟩
  case round =>
    obtain ⟨j, hj, rfl, rfl⟩ := hrel
    obtain rfl | rfl : j = 0 ∨ j = 1 := by omega
    · go_wp2
      · go_round
        case rel => exact ⟨1, by omega, rfl, l0a ‹_›⟩
        case measure => simp [intOf]
      · go_round
        case rel => exact ⟨1, by omega, rfl, l0b ‹_›⟩
        case measure => simp [intOf]
    · go_wp2
      · go_ret
        exact ⟨ret_true (fa hL.out ‹_›), by repeat (first | exact Grown.refl _ | apply Grown.drew | apply Grown.alloc)⟩
      · go_ret
        exact ⟨ret_true (fb hL.out ‹_›), by repeat (first | exact Grown.refl _ | apply Grown.drew | apply Grown.alloc)⟩

theorem exact_ndn (label : ByteArray) (dur rem mn L : Int) (x : Nat) (w : World)
    (h1 : (FloatKind.f64.format.order x 4607182418800017408 == some .gt) = false)
    (hd : 0 < dur)
    (hL : Hid (L = max (least dur 0 0 1) mn))
    (HL : Hid (LenIs label dur rem mn x false L)) :
    Calls Yba.prog 3 #[.string label, .int .i64 dur, .int .i64 rem, .int .i64 mn, .float .f64 x, .bool false] w fun e w' => e = .returned (.bool true) ∧ Grown w w' := by
  go_enter Yba.func3, Yba.ntmps3
  go_wp2_with (go_at_call 7; refine (HL.out _).mono ?_; rintro e w' ⟨rfl, rfl⟩)
  go_loop [17, 18] (fun t i => ∃ j : Nat, j ≤ 1 ∧ i = .int .i64 j ∧ t = .int .i64 (least dur 0 0 j)) (fun _ i => 1 - (intOf i).toNat)
  case atStart => exact ⟨0, by omega, rfl, rfl⟩
  case round =>
    obtain ⟨j, hj, rfl, rfl⟩ := hrel
    obtain rfl | rfl : j = 0 ∨ j = 1 := by omega
    · go_wp2
      · go_round
        case rel => exact ⟨1, by omega, rfl, l0a ‹_›⟩
        case measure => simp [intOf]
      · go_round
        case rel => exact ⟨1, by omega, rfl, l0b ‹_›⟩
        case measure => simp [intOf]
    · go_wp2
      · go_ret
        exact ⟨ret_true (fa hL.out ‹_›), by repeat (first | exact Grown.refl _ | apply Grown.drew | apply Grown.alloc)⟩
      · go_ret
        exact ⟨ret_true (fb hL.out ‹_›), by repeat (first | exact Grown.refl _ | apply Grown.drew | apply Grown.alloc)⟩

theorem exact_nnn (label : ByteArray) (dur rem mn L : Int) (x : Nat) (w : World)
    (h1 : (FloatKind.f64.format.order x 4607182418800017408 == some .gt) = false)
    (hd : ¬ 0 < dur)
    (hL : Hid (L = max (least 0 0 0 0) mn))
    (HL : Hid (LenIs label dur rem mn x false L)) :
    Calls Yba.prog 3 #[.string label, .int .i64 dur, .int .i64 rem, .int .i64 mn, .float .f64 x, .bool false] w fun e w' => e = .returned (.bool true) ∧ Grown w w' := by
  go_enter Yba.func3, Yba.ntmps3
  go_wp2_with (go_at_call 7; refine (HL.out _).mono ?_; rintro e w' ⟨rfl, rfl⟩)
  go_loop [17, 18] (fun t i => ∃ j : Nat, j ≤ 0 ∧ i = .int .i64 j ∧ t = .int .i64 (least 0 0 0 j)) (fun _ i => 0 - (intOf i).toNat)
  case atStart => exact ⟨0, by omega, rfl, rfl⟩
  case round =>
    obtain ⟨j, hj, rfl, rfl⟩ := hrel
    obtain rfl : j = 0 := by omega
    · go_wp2
      · go_ret
        exact ⟨ret_true (fa hL.out ‹_›), by repeat (first | exact Grown.refl _ | apply Grown.drew | apply Grown.alloc)⟩
      · go_ret
        exact ⟨ret_true (fb hL.out ‹_›), by repeat (first | exact Grown.refl _ | apply Grown.drew | apply Grown.alloc)⟩

/-- The two ways that return at once. -/
theorem exact_over (label : ByteArray) (dur rem mn : Int) (x : Nat) (b : Bool) (w : World)
    (h1 : (FloatKind.f64.format.order x 4607182418800017408 == some .gt) = true) :
    Calls Yba.prog 3 #[.string label, .int .i64 dur, .int .i64 rem, .int .i64 mn, .float .f64 x, .bool b] w fun e w' => e = .returned (.bool true) ∧ Grown w w' := by
  go_enter Yba.func3, Yba.ntmps3
  go_wp2_with fail
  go_ret
  exact ⟨rfl, Grown.refl _⟩

theorem exact_wide (label : ByteArray) (dur rem mn : Int) (x : Nat) (w : World)
    (h1 : (FloatKind.f64.format.order x 4607182418800017408 == some .gt) = false)
    (hp : (FloatKind.f64.format.order x 0 == some .gt) = true) (hw : rem < -9007199254740992 ∨ 9007199254740992 < rem) :
    Calls Yba.prog 3 #[.string label, .int .i64 dur, .int .i64 rem, .int .i64 mn, .float .f64 x, .bool true] w fun e w' => e = .returned (.bool true) ∧ Grown w w' := by
  rcases hw with hw | hw
  · go_enter Yba.func3, Yba.ntmps3
    go_wp2_with fail
    go_ret
    exact ⟨rfl, Grown.refl _⟩
  · have hw' : ¬ rem < -9007199254740992 := by omega
    go_enter Yba.func3, Yba.ntmps3
    go_wp2_with fail
    go_ret
    exact ⟨rfl, Grown.refl _⟩

theorem lenIs (label : ByteArray) (dur rem mn : Int) (x : Nat) (b : Bool) (fr : Option Int) (h : FrIs x rem b fr) : Hid (LenIs label dur rem mn x b (lenP dur rem mn b fr)) :=
  hide fun w => length_any label dur rem mn x b fr w h

theorem exact_any (label : ByteArray) (dur rem mn : Int) (x : Nat) (b : Bool) (w : World) (hdm : dur ≤ 9223372036854775807) (hrm : rem ≤ 9223372036854775807) :
    Calls Yba.prog 3 #[.string label, .int .i64 dur, .int .i64 rem, .int .i64 mn, .float .f64 x, .bool b] w fun e w' => e = .returned (.bool true) ∧ Grown w w' := by
  cases h1 : (FloatKind.f64.format.order x 4607182418800017408 == some .gt) with
  | true => exact exact_over label dur rem mn x b w h1
  | false =>
    cases b with
    | false =>
      have hl := lenIs label dur rem mn x false none (Or.inr ⟨Or.inl rfl, rfl⟩)
      by_cases hd : 0 < dur
      · exact exact_ndn label dur rem mn _ x w h1 hd (hide (by simp [lenP, hd, least])) hl
      · exact exact_nnn label dur rem mn _ x w h1 hd (hide (by simp [lenP, hd, least])) hl
    | true =>
      cases hp : pos x with
      | false =>
        have hl := lenIs label dur rem mn x true none (Or.inr ⟨Or.inr hp, rfl⟩)
        by_cases hd : 0 < dur
        · exact exact_bdn label dur rem mn _ x w h1 hp hd (hide (by simp [lenP, hd, least]; omega)) hl
        · exact exact_bnn label dur rem mn _ x w h1 hp hd (hide (by simp [lenP, hd, least]; omega)) hl
      | true =>
        by_cases hr : -9007199254740992 ≤ rem ∧ rem ≤ 9007199254740992
        · obtain ⟨r, k, hm, hc⟩ := Fl.share_int x rem h1 hp hr.1 hr.2
          have hl := lenIs label dur rem mn x true (some k) (Or.inl ⟨rfl, hp, r, k, hm, hc, rfl⟩)
          have ha : ∀ t w, (binOp .mul t (.float .f64 x) (.float .f64 (floatOfInt .f64 rem))).run Yba.prog w = .ok (.float .f64 r) w := fun t w => run_float_arith w .mul t .f64 x _ r hm
          have hv : ∀ w, (convert 22 2 (.float .f64 r)).run Yba.prog w = .ok (.int .i64 k) w := fun w => run_convert_float_int w 22 2 .f64 .i64 r k (by rw [Yba.underlying22]; rfl) Yba.underlying2 hc
          by_cases hd : 0 < dur
          · exact exact_bdp label dur rem mn _ x r k w h1 hp hr.1 hr.2 ha hv hd (hide (by simp [lenP, hd, least]; omega)) hl
          · exact exact_bnp label dur rem mn _ x r k w h1 hp hr.1 hr.2 ha hv hd (hide (by simp [lenP, hd, least]; omega)) hl
        · exact exact_wide label dur rem mn x w h1 hp (by omega)
end Go.Proofs.Ybulkaaue
