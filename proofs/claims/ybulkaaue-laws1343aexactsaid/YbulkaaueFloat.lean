/-
  Plain law, no Go in sight: a float64 in (0, 1] times float64(n), n an integer of at most 2^53 in size, is a finite number whose whole part fits an int64.
-/
import Derived.Laws.FloatArith
namespace Go.Proofs.Ybulkaaue.Fl
open Ieee

theorem shl (m k : Nat) : m <<< k = m * 2 ^ k := Nat.shiftLeft_eq m k

theorem cut_le (w : Toward) (neg : Bool) (n drop : Nat) : w.cut neg n drop ≤ n / 2 ^ min drop (n.log2 + 2) + 1 := by
  unfold Toward.cut
  dsimp only
  rw [shl, Nat.one_mul]
  refine Nat.add_le_add_left ?_ _
  exact Bool.toNat_le _

theorem cut_zero (neg : Bool) (n drop : Nat) : Toward.zero.cut neg n drop ≤ n := by
  unfold Toward.cut
  dsimp only
  simp only [Bool.toNat_false, Nat.add_zero]
  exact Nat.div_le_self _ _

theorem cut_none (neg : Bool) (n : Nat) : Toward.even.cut neg n 0 = n := by
  unfold Toward.cut
  simp [Nat.mod_one]

/-- The rung of a rounded number, bounded by its leading digit's place. -/
theorem kept_le (neg : Bool) (mag : Nat) (place : Int) :
    Toward.even.cut neg (mag <<< (place - max (place + mag.log2 - 52) (-1074)).toNat) (max (place + mag.log2 - 52) (-1074) - place).toNat ≤ 2 ^ 53 := by
  have hlast : place + mag.log2 - 52 ≤ max (place + mag.log2 - 52) (-1074) := Int.le_max_left _ _
  generalize max (place + (mag.log2 : Int) - 52) (-1074) = last at hlast
  have hm : mag < 2 ^ (mag.log2 + 1) := Nat.lt_log2_self
  by_cases h : last ≤ place
  · have e0 : (last - place).toNat = 0 := by omega
    rw [e0, cut_none, shl]
    obtain ⟨d, hd⟩ : ∃ d : Nat, place - last = d := ⟨(place - last).toNat, by omega⟩
    have e1 : (place - last).toNat = d := by omega
    rw [e1]
    have h1 : mag * 2 ^ d < 2 ^ (mag.log2 + 1) * 2 ^ d := Nat.mul_lt_mul_of_pos_right hm (Nat.two_pow_pos _)
    rw [← Nat.pow_add] at h1
    have h2 : 2 ^ (mag.log2 + 1 + d) ≤ 2 ^ 53 := Nat.pow_le_pow_right (by decide) (by omega)
    omega
  · have e0 : (place - last).toNat = 0 := by omega
    rw [e0, shl, Nat.pow_zero, Nat.mul_one]
    obtain ⟨d, hd⟩ : ∃ d : Nat, last - place = d := ⟨(last - place).toNat, by omega⟩
    have e1 : (last - place).toNat = d := by omega
    rw [e1]
    refine Nat.le_trans (cut_le _ _ _ _) ?_
    suffices mag / 2 ^ min d (mag.log2 + 2) < 2 ^ 53 by omega
    rw [Nat.div_lt_iff_lt_mul (Nat.two_pow_pos _), ← Nat.pow_add]
    refine Nat.lt_of_lt_of_le hm (Nat.pow_le_pow_right (by decide) ?_)
    omega

theorem nearest_rung (neg : Bool) (mag : Nat) (place : Int) (K : Nat) (h : mag ≠ 0 → place + mag.log2 ≤ K) :
    ∃ rung, double.nearest neg mag place = double.word neg rung ∧ rung ≤ (K + 1024) * 2 ^ 52 := by
  unfold Format.nearest
  by_cases h0 : mag = 0
  · rw [if_pos h0]
    exact ⟨0, rfl, Nat.zero_le _⟩
  · rw [if_neg h0]
    have hK := h h0
    have hk := kept_le neg mag place
    have e1 : ((double.fractionBits : Nat) : Int) = 52 := rfl
    have e2 : double.leastPlace = -1074 := by decide
    have e3 : double.binade = 2 ^ 52 := rfl
    dsimp only
    rw [e1, e2, e3]
    refine ⟨_, rfl, Nat.le_trans (Nat.min_le_left _ _) ?_⟩
    have hl : (max (place + (mag.log2 : Int) - 52) (-1074) - (-1074)).toNat ≤ K + 1022 := by
      have : max (place + (mag.log2 : Int) - 52) (-1074) ≤ (K : Int) - 52 ∨ max (place + (mag.log2 : Int) - 52) (-1074) = -1074 := by omega
      omega
    have hl2 := Nat.mul_le_mul_right (2 ^ 52) hl
    have e4 : (K + 1024) * 2 ^ 52 = (K + 1022) * 2 ^ 52 + 2 ^ 53 := by omega
    rw [e4]
    exact Nat.add_le_add hl2 hk

theorem read_word (neg : Bool) (rung K : Nat) (hK : K ≤ 1000) (h : rung ≤ (K + 1024) * 2 ^ 52) :
    ∃ m p, double.read (double.word neg rung) = .number neg m p ∧ m < 2 ^ 53 ∧ p ≤ (K : Int) - 51 := by
  have es : double.signWeight = 2 ^ 63 := rfl
  have eb : double.binade = 2 ^ 52 := rfl
  have ei : double.infRung = 2047 * 2 ^ 52 := rfl
  have el : double.leastPlace = -1074 := by decide
  have hr : rung < 2047 * 2 ^ 52 := by omega
  have hneg : (double.word neg rung / double.signWeight % 2 == 1) = neg := by
    unfold Format.word
    rw [es]
    cases neg
    · have : rung / 2 ^ 63 = 0 := Nat.div_eq_of_lt (by omega)
      simp [this]
    · have : (2 ^ 63 + rung) / 2 ^ 63 = 1 := by omega
      simp [this]
  have hmod : double.word neg rung % double.signWeight = rung := by
    unfold Format.word
    rw [es]
    cases neg
    · show rung % 2 ^ 63 = rung
      exact Nat.mod_eq_of_lt (by omega)
    · show (2 ^ 63 + rung) % 2 ^ 63 = rung
      omega
  unfold Format.read
  dsimp only
  rw [hneg, hmod, eb, ei, el]
  by_cases h1 : rung < 2 ^ 52
  · rw [if_pos h1]
    exact ⟨_, _, rfl, by omega, by omega⟩
  · rw [if_neg h1, if_pos hr]
    refine ⟨_, _, rfl, by omega, ?_⟩
    have : rung / 2 ^ 52 ≤ K + 1024 := by
      have e : (K + 1024) * 2 ^ 52 / 2 ^ 52 = K + 1024 := Nat.mul_div_cancel _ (Nat.two_pow_pos _)
      rw [← e]
      exact Nat.div_le_div_right h
    omega

/-- A rounded number that is below 2 ^ 62 becomes an int64. -/
theorem nearest_int (neg : Bool) (mag : Nat) (place : Int) (h : mag ≠ 0 → place + mag.log2 ≤ 61) :
    ∃ n : Int, floatToIntVal .f64 (double.nearest neg mag place) .i64 = some n := by
  obtain ⟨rung, hw, hr⟩ := nearest_rung neg mag place 61 (by simpa using h)
  obtain ⟨m, p, hread, hm, hp⟩ := read_word neg rung 61 (by decide) hr
  have hd : FloatKind.f64.decode (double.nearest neg mag place) = .number neg m p := by
    rw [hw]; exact hread
  have hc : Toward.zero.cut neg (m <<< p.toNat) (-p).toNat < 2 ^ 63 := by
    refine Nat.lt_of_le_of_lt (cut_zero _ _ _) ?_
    rw [shl]
    have h1 : m * 2 ^ p.toNat < 2 ^ 53 * 2 ^ p.toNat := Nat.mul_lt_mul_of_pos_right hm (Nat.two_pow_pos _)
    rw [← Nat.pow_add] at h1
    have h2 : 2 ^ (53 + p.toNat) ≤ 2 ^ 63 := Nat.pow_le_pow_right (by decide) (by omega)
    omega
  unfold floatToIntVal
  rw [hd]
  unfold Datum.toInt Datum.integral
  dsimp only
  generalize Toward.zero.cut neg (m <<< p.toNat) (-p).toNat = c at hc
  refine ⟨signed neg c 0, if_pos ?_⟩
  have e1 : IntKind.i64.min = -2 ^ 63 := by decide
  have e2 : IntKind.i64.max = 2 ^ 63 - 1 := by decide
  rw [e1, e2]
  unfold signed
  rw [shl]
  cases neg
  · simp; omega
  · simp; omega

theorem log2_mul (a b : Nat) (ha : a ≠ 0) (hb : b ≠ 0) : (a * b).log2 ≤ a.log2 + b.log2 + 1 := by
  have h1 : a < 2 ^ (a.log2 + 1) := Nat.lt_log2_self
  have h2 : b < 2 ^ (b.log2 + 1) := Nat.lt_log2_self
  have h3 : a * b < 2 ^ (a.log2 + 1) * 2 ^ (b.log2 + 1) := Nat.mul_lt_mul'' h1 h2
  rw [← Nat.pow_add] at h3
  have := (Nat.log2_lt (Nat.mul_ne_zero ha hb)).2 h3
  omega

/-- What a float64 that is above 0 and not above 1 stands for. -/
theorem unit_read (x : Nat) (h1 : (double.order x 4607182418800017408 == some .gt) = false) (h0 : (double.order x 0 == some .gt) = true) :
    ∃ m i, double.read x = .number false m i ∧ i + (m.log2 : Int) ≤ 0 := by
  have e1 : double.read 4607182418800017408 = .number false (2 ^ 52) (-52) := by decide
  have e0 : double.read 0 = .number false 0 (-1074) := by decide
  unfold Format.order at h1 h0
  rw [e1] at h1
  rw [e0] at h0
  cases hx : double.read x with
  | nan s t => rw [hx] at h0; simp [Datum.order] at h0
  | infinity s =>
    rw [hx] at h1 h0
    cases s <;> simp [Datum.order] at h1 h0
  | number s m i =>
    rw [hx] at h1 h0
    simp only [Datum.order, signed, shl, beq_iff_eq, Option.some.injEq, beq_eq_false_iff_ne, ne_eq] at h1 h0
    cases s with
    | true =>
      have hp : (0 : Int) ≤ ((m * 2 ^ (i - min i (-1074)).toNat : Nat) : Int) := Int.natCast_nonneg _
      simp only [if_true, Int.compare_eq_gt, Bool.false_eq_true, if_false, Nat.zero_mul] at h0
      omega
    | false =>
      simp only [Int.compare_eq_gt, Bool.false_eq_true, if_false] at h0 h1
      refine ⟨m, i, rfl, ?_⟩
      by_cases hm : m = 0
      · subst hm; simp at h0
      have hl : 2 ^ m.log2 ≤ m := Nat.log2_self_le hm
      obtain ⟨d, hd⟩ : ∃ d : Nat, i - min i (-52) = d := ⟨(i - min i (-52)).toNat, by omega⟩
      obtain ⟨e, he⟩ : ∃ e : Nat, -52 - min i (-52) = e := ⟨(-52 - min i (-52)).toNat, by omega⟩
      have h2 : m * 2 ^ d ≤ 2 ^ 52 * 2 ^ e := by
        rw [hd, he, Int.toNat_natCast, Int.toNat_natCast] at h1
        omega
      have h3 : 2 ^ m.log2 * 2 ^ d ≤ 2 ^ 52 * 2 ^ e := Nat.le_trans (Nat.mul_le_mul_right _ hl) h2
      rw [← Nat.pow_add, ← Nat.pow_add] at h3
      have h4 := (Nat.pow_le_pow_iff_right (by decide : 1 < 2)).1 h3
      omega

/-- THE PLAIN LAW. -/
theorem share_int (x : Nat) (n : Int) (h1 : (FloatKind.f64.format.order x 4607182418800017408 == some .gt) = false)
    (h0 : (FloatKind.f64.format.order x 0 == some .gt) = true) (hlo : -9007199254740992 ≤ n) (hhi : n ≤ 9007199254740992) :
    ∃ r k, floatBits .mul .f64 x (floatOfInt .f64 n) = some r ∧ floatToIntVal .f64 r .i64 = some k := by
  obtain ⟨m, i, hx, hi⟩ := unit_read x h1 h0
  obtain ⟨rung, hw, hr⟩ := nearest_rung (n < 0) n.natAbs 0 53 (by
    intro hne
    have : n.natAbs < 2 ^ 54 := by omega
    have := (Nat.log2_lt hne).2 this
    omega)
  obtain ⟨m', j, hy, hm', hj⟩ := read_word (n < 0) rung 53 (by decide) hr
  have hy' : double.read (floatOfInt .f64 n) = .number (n < 0) m' j := by
    show double.read (double.nearest (n < 0) n.natAbs 0) = _
    rw [hw]; exact hy
  refine ⟨double.nearest (false ^^ decide (n < 0)) (m * m') (i + j), ?_⟩
  obtain ⟨k, hk⟩ := nearest_int (false ^^ decide (n < 0)) (m * m') (i + j) (by
    intro hne
    have a1 : m ≠ 0 := by intro e; subst e; simp at hne
    have a2 : m' ≠ 0 := by intro e; subst e; simp at hne
    have b1 := log2_mul m m' a1 a2
    have b2 := (Nat.log2_lt a2).2 hm'
    omega)
  refine ⟨k, ?_, hk⟩
  show double.mul x (floatOfInt .f64 n) = _
  unfold Format.mul
  rw [hx, hy']
  rfl

end Go.Proofs.Ybulkaaue.Fl
