/-
  (*Rand).uint64n, (*Rand).IntN: a number below n, and the generator's state behind it, both a matter of n and the state before alone.
-/
import Derived.Test.YbulkaawiRngB
import Derived.Deep.LoopGhost
namespace Go.Proofs.Ybulkaawi
open Go.RowKit Lcg

theorem RngAt.roll {w w' : World} {rr pc h l h' l' : Nat} (a : RngAt w rr pc h l) (b : Rolled pc w w' h' l') : RngAt w' rr pc h' l' :=
  ⟨(World.cell?_of_block (w := w) (a := ⟨rr, 0, none⟩) (b.2.2.2.2.1 rr a.2.2)).trans a.1, b.2.2.2.2.2, a.2.2⟩

/-- n a power of two. -/
theorem u64n_pow (n hi lo : Nat) (h1 : 1 ≤ n) (h2 : n ≤ 1024) (hlo : lo < 18446744073709551616) (hp : (bits .and .u64 (n : Int) ((n : Int) - 1) == 0) = true) (w : World) (rr pc : Nat) (h : RngAt w rr pc hi lo) :
    Calls Yba.prog 13 #[.pointer (some ⟨rr, 0, none⟩), .int .u64 n] w fun e w' => e = .returned (.int .u64 ((outp (nxH hi lo) (nxL hi lo) &&& (n - 1) : Nat) : Int)) ∧ Rolled pc w w' (nxH hi lo) (nxL hi lo) := by
  have H := hide' (draw_any rr pc hi lo hlo w h)
  have bx : outp (nxH hi lo) (nxL hi lo) < 18446744073709551616 := Nat.mod_lt _ (by decide)
  generalize nxH hi lo = h' at H bx ⊢
  generalize nxL hi lo = l' at H bx ⊢
  generalize outp h' l' = x at H bx ⊢
  have e : bits .and .u64 (x : Int) ((n : Int) - 1) = ((x &&& (n - 1) : Nat) : Int) := by
    have e1 : (n : Int) - 1 = ((n - 1 : Nat) : Int) := by omega
    rw [e1]
    exact u64_and_nat x (n - 1) bx (by omega)
  go_enter Yba.func13, Yba.ntmps13
  go_wp2_with (go_at_call 10; refine (H.out).mono ?_; rintro e w' ⟨rfl, hr⟩)
  have hR := hide' hr
  clear hr
  go_wp2
  go_ret
  exact ⟨rfl, hR.out⟩

/-- n no power of two: the first number serves. -/
theorem u64n_once (n x a b h' l' : Nat) (h1 : 1 ≤ n) (h2 : n ≤ 1024) (hp : (bits .and .u64 (n : Int) ((n : Int) - 1) == 0) = false) (w : World) (rr pc : Nat)
    (H : Hid (Calls Yba.prog 10 #[.pointer (some ⟨rr, 0, none⟩)] w fun e w' => e = .returned (.int .u64 x) ∧ Rolled pc w w' h' l'))
    (HM : Hid (∀ w, Calls Yba.prog 15 #[.int .u64 x, .int .u64 n] w fun e w' => e = .returned (.tuple #[.int .u64 a, .int .u64 b]) ∧ w = w')) (hlt : ¬ b < n) :
    Calls Yba.prog 13 #[.pointer (some ⟨rr, 0, none⟩), .int .u64 n] w fun e w' => e = .returned (.int .u64 a) ∧ Rolled pc w w' h' l' := by
  go_enter Yba.func13, Yba.ntmps13
  go_wp2_with (first | (go_at_call 10; refine (H.out).mono ?_; rintro e w' ⟨rfl, hr⟩) | (go_at_call 15; refine (HM.out _).mono ?_; rintro e w' ⟨rfl, rfl⟩))
  go_ret
  exact ⟨rfl, by assumption⟩

set_option maxHeartbeats 400000 in
/-- n no power of two: numbers are drawn till one serves. -/
theorem u64n_more (n t m : Nat) (X A B : Nat → Nat) (S : Nat → Nat × Nat) (h1 : 1 ≤ n) (h2 : n ≤ 1024) (hp : (bits .and .u64 (n : Int) ((n : Int) - 1) == 0) = false) (w : World) (rr pc h0 l0 : Nat) (h : RngAt w rr pc h0 l0)
    (H0 : Hid (Calls Yba.prog 10 #[.pointer (some ⟨rr, 0, none⟩)] w fun e w' => e = .returned (.int .u64 (X 0)) ∧ Rolled pc w w' (S 0).1 (S 0).2))
    (H : Hid (∀ j w, RngAt w rr pc (S j).1 (S j).2 → Calls Yba.prog 10 #[.pointer (some ⟨rr, 0, none⟩)] w fun e w' => e = .returned (.int .u64 (X (j + 1))) ∧ Rolled pc w w' (S (j + 1)).1 (S (j + 1)).2))
    (HM : Hid (∀ j w, Calls Yba.prog 15 #[.int .u64 (X j), .int .u64 n] w fun e w' => e = .returned (.tuple #[.int .u64 (A j), .int .u64 (B j)]) ∧ w = w'))
    (et : (IntKind.u64.wrap (-(n : Int))).tmod (n : Int) = (t : Int)) (hlt : B 0 < n) (hm : ¬ B m < t) (hless : ∀ j, j < m → B j < t) :
    Calls Yba.prog 13 #[.pointer (some ⟨rr, 0, none⟩), .int .u64 n] w fun e w' => e = .returned (.int .u64 (A m)) ∧ Rolled pc w w' (S m).1 (S m).2 := by
  have hX := hide' h
  clear h
  go_enter Yba.func13, Yba.ntmps13
  go_wp2_with (first | (go_at_call 10; refine (H0.out).mono ?_; rintro e w' ⟨rfl, hr⟩) | (go_at_call 15; refine (HM.out 0 _).mono ?_; rintro e w' ⟨rfl, rfl⟩))
  rename_i w1 hr
  clear H0
  go_loopg [5, 6] m (fun g a b wr => ∃ j, j + g = m ∧ a = .int .u64 (A j) ∧ b = .int .u64 (B j) ∧ Rolled pc w wr (S j).1 (S j).2)
  case atStart => exact ⟨0, by omega, rfl, rfl, by assumption⟩
  case round =>
    obtain ⟨j, hj, rfl, rfl, hr⟩ := hrel
    have hR := hide' hr
    clear hr
    by_cases hjm : j = m
    · subst hjm
      have hge : ¬ (B j : Int) < (t : Int) := by omega
      go_wp2_with fail
      go_ret
      exact ⟨rfl, hR.out⟩
    · have hl : (B j : Int) < (t : Int) := by have := hless j (by omega); omega
      go_wp2_with (first | (go_at_call 10; refine (H.out j _ (hX.out.roll hR.out)).mono ?_; rintro e w2 ⟨rfl, hr2⟩) | (go_at_call 15; refine (HM.out (j + 1) _).mono ?_; rintro e w' ⟨rfl, rfl⟩))
      go_roundg (gk - 1)
      case measure => omega
      case rel => exact ⟨j + 1, by omega, rfl, rfl, hR.out.trans (by assumption)⟩

theorem outp_lt (h l : Nat) : outp h l < 18446744073709551616 := Nat.mod_lt _ (by decide)

theorem hi_lt {x n : Nat} (hx : x < 18446744073709551616) (hn : 1 ≤ n) : x * n / 18446744073709551616 < n := by
  rw [Nat.div_lt_iff_lt_mul (by decide), Nat.mul_comm n]
  exact Nat.mul_lt_mul_of_pos_right hx hn

theorem thresh_is (n : Nat) (h1 : 1 ≤ n) (h2 : n ≤ 1024) : (IntKind.u64.wrap (-(n : Int))).tmod (n : Int) = (((18446744073709551616 - n) % n : Nat) : Int) := by
  have e : IntKind.u64.wrap (-(n : Int)) = ((18446744073709551616 - n : Nat) : Int) := by rw [IntKind.wrap_u64]; omega
  rw [e]
  exact (Int.ofNat_tmod _ _).symm

/-- (*Rand).uint64n: the number and the state behind it are a matter of n and the state before alone. -/
theorem u64n_is (n hi lo : Nat) (h1 : 1 ≤ n) (h2 : n ≤ 1024) (hlo : lo < 18446744073709551616) :
    ∃ r hi' lo', r < n ∧ hi' < 18446744073709551616 ∧ lo' < 18446744073709551616 ∧ ∀ w rr pc, RngAt w rr pc hi lo →
      Calls Yba.prog 13 #[.pointer (some ⟨rr, 0, none⟩), .int .u64 n] w fun e w' => e = .returned (.int .u64 r) ∧ Rolled pc w w' hi' lo' := by
  cases hp : (bits .and .u64 (n : Int) ((n : Int) - 1) == 0) with
  | true =>
    refine ⟨_, _, _, ?_, nxH_lt hi lo, nxL_lt hi lo, fun w rr pc h => u64n_pow n hi lo h1 h2 hlo hp w rr pc h⟩
    have : outp (nxH hi lo) (nxL hi lo) &&& (n - 1) ≤ n - 1 := Nat.and_le_right
    omega
  | false =>
    by_cases hlt : outp (nxH hi lo) (nxL hi lo) * n % 18446744073709551616 < n
    · have hS := fun j => stp_lt (nxH hi lo) (nxL hi lo) (nxH_lt hi lo) (nxL_lt hi lo) j
      obtain ⟨i, hi1⟩ := ends (nxH hi lo) (nxL hi lo) n (nxH_lt hi lo) (nxL_lt hi lo) h1 h2
      have ht : (18446744073709551616 - n) % n < n := Nat.mod_lt _ h1
      obtain ⟨m, hm, hleast⟩ := exists_least (p := fun i => ¬ outp (stp (nxH hi lo) (nxL hi lo) i).1 (stp (nxH hi lo) (nxL hi lo) i).2 * n % 18446744073709551616 < (18446744073709551616 - n) % n) ⟨i, by omega⟩
      refine ⟨outp (stp (nxH hi lo) (nxL hi lo) m).1 (stp (nxH hi lo) (nxL hi lo) m).2 * n / 18446744073709551616, (stp (nxH hi lo) (nxL hi lo) m).1, (stp (nxH hi lo) (nxL hi lo) m).2, hi_lt (outp_lt _ _) h1, (hS m).1, (hS m).2, fun w rr pc h => ?_⟩
      refine u64n_more n ((18446744073709551616 - n) % n) m (fun j => outp (stp (nxH hi lo) (nxL hi lo) j).1 (stp (nxH hi lo) (nxL hi lo) j).2) (fun j => outp (stp (nxH hi lo) (nxL hi lo) j).1 (stp (nxH hi lo) (nxL hi lo) j).2 * n / 18446744073709551616)
        (fun j => outp (stp (nxH hi lo) (nxL hi lo) j).1 (stp (nxH hi lo) (nxL hi lo) j).2 * n % 18446744073709551616) (stp (nxH hi lo) (nxL hi lo)) h1 h2 hp w rr pc hi lo h (draw_any rr pc hi lo hlo w h)
        (fun j w' h' => draw_any rr pc _ _ (hS j).2 w' h') (fun j w' => mul64_any _ n (outp_lt _ _) (by omega) w') (thresh_is n h1 h2) hlt hm (fun j hj => ?_)
      by_cases c : outp (stp (nxH hi lo) (nxL hi lo) j).1 (stp (nxH hi lo) (nxL hi lo) j).2 * n % 18446744073709551616 < (18446744073709551616 - n) % n
      · exact c
      · have := hleast j c
        omega
    · exact ⟨_, _, _, hi_lt (outp_lt _ _) h1, nxH_lt hi lo, nxL_lt hi lo, fun w rr pc h =>
        u64n_once n _ _ _ _ _ h1 h2 hp w rr pc (draw_any rr pc hi lo hlo w h) (fun w => mul64_any _ n (outp_lt _ _) (by omega) w) hlt⟩

theorem intn_walk (n r h' l' : Nat) (h1 : 1 ≤ n) (h2 : n ≤ 1024) (hr : r < n) (w : World) (rr pc : Nat)
    (H : Hid (Calls Yba.prog 13 #[.pointer (some ⟨rr, 0, none⟩), .int .u64 n] w fun e w' => e = .returned (.int .u64 r) ∧ Rolled pc w w' h' l')) :
    Calls Yba.prog 9 #[.pointer (some ⟨rr, 0, none⟩), .int .i64 n] w fun e w' => e = .returned (.int .i64 r) ∧ Rolled pc w w' h' l' := by
  go_enter Yba.func9, Yba.ntmps9
  go_wp2_with (go_at_call 13; refine (H.out).mono ?_; rintro e w' ⟨rfl, hr⟩)
  go_ret
  exact ⟨rfl, by assumption⟩

/-- (*Rand).IntN likewise. -/
theorem intn_is (n hi lo : Nat) (h1 : 1 ≤ n) (h2 : n ≤ 1024) (hlo : lo < 18446744073709551616) :
    ∃ r hi' lo', r < n ∧ hi' < 18446744073709551616 ∧ lo' < 18446744073709551616 ∧ ∀ w rr pc, RngAt w rr pc hi lo →
      Calls Yba.prog 9 #[.pointer (some ⟨rr, 0, none⟩), .int .i64 n] w fun e w' => e = .returned (.int .i64 r) ∧ Rolled pc w w' hi' lo' := by
  obtain ⟨r, hi', lo', hr, hh, hl, H⟩ := u64n_is n hi lo h1 h2 hlo
  exact ⟨r, hi', lo', hr, hh, hl, fun w rr pc h => intn_walk n r hi' lo' h1 h2 hr w rr pc (H w rr pc h)⟩
end Go.Proofs.Ybulkaawi
