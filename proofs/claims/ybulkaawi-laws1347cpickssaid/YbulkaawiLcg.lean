/-
  Plain law, no Go in sight: the linear congruence under the generator (multiplier 1 mod 4, increment odd, modulus 2^128) comes from every state to every state. So a search that draws until a number is met that some state gives comes to its end.
-/
import Derived.Laws.BitsLemmas
namespace Go.Proofs.Ybulkaawi.Lcg

/-- The multiplier and the increment. -/
def mul : Nat := 2549297995355413924 * 18446744073709551616 + 4865540595714422341
def inc : Nat := 6364136223846793005 * 18446744073709551616 + 1442695040888963407

/-- One step. -/
def f (s : Nat) : Nat := (s * mul + inc) % 2 ^ 128

/-- i steps. -/
def it (s : Nat) : Nat → Nat
  | 0 => s
  | i + 1 => f (it s i)

theorem it_add (s i : Nat) : ∀ j, it s (i + j) = it (it s i) j
  | 0 => rfl
  | j + 1 => by
    show f (it s (i + j)) = f (it (it s i) j)
    rw [it_add s i j]

theorem f_lt (s : Nat) : f s < 2 ^ 128 := Nat.mod_lt _ (Nat.two_pow_pos _)

theorem sq (p u : Nat) : (1 + 4 * p * u) * (1 + 4 * p * u) = 1 + 8 * p * (u + 2 * p * (u * u)) := by
  have e1 : 4 * p * u = 4 * (p * u) := Nat.mul_assoc 4 p u
  have e2 : 8 * p * (u + 2 * p * (u * u)) = 8 * (p * u) + 16 * (p * u * (p * u)) := by
    rw [Nat.mul_add, Nat.mul_assoc 8 p u, Nat.mul_assoc 8 p, Nat.mul_assoc 2 p, Nat.mul_left_comm p 2, ← Nat.mul_assoc 8 2, ← Nat.mul_assoc p p, Nat.mul_mul_mul_comm p p u u]
  have e3 : 4 * (p * u) * (4 * (p * u)) = 16 * (p * u * (p * u)) := by rw [Nat.mul_mul_mul_comm]
  rw [e1, e2, Nat.add_mul, Nat.mul_add, Nat.mul_add, e3]
  omega

theorem odd_mul (p u v : Nat) : (1 + 4 * p * u) * (p * (1 + 2 * v)) + p * (1 + 2 * v) = 2 * p * (1 + 2 * (v + p * u * (1 + 2 * v))) := by
  have e1 : 4 * p * u * (p * (1 + 2 * v)) = 4 * (p * (p * u * (1 + 2 * v))) := by
    rw [Nat.mul_assoc 4 p u, Nat.mul_assoc 4, Nat.mul_left_comm (p * u) p]
  have e2 : 2 * p * (1 + 2 * (v + p * u * (1 + 2 * v))) = 2 * (p * (1 + 2 * v)) + 4 * (p * (p * u * (1 + 2 * v))) := by
    generalize p * u * (1 + 2 * v) = x
    have e : 1 + 2 * (v + x) = (1 + 2 * v) + 2 * x := by omega
    rw [e, Nat.mul_assoc 2 p, Nat.mul_add p, Nat.mul_left_comm p 2 x]
    omega
  rw [Nat.add_mul, Nat.one_mul, e1, e2]
  omega

theorem comp (a b s : Nat) : a * (a * s + b) + b = a * a * s + (a * b + b) := by
  rw [Nat.mul_add, Nat.mul_assoc a a s, Nat.add_assoc]

theorem low (p u v x : Nat) : (1 + 4 * p * u) * x + p * (1 + 2 * v) = x + p + p * 2 * (2 * u * x + v) := by
  have e1 : 4 * p * u * x = p * 2 * (2 * u * x) := by
    rw [Nat.mul_assoc p 2, ← Nat.mul_assoc 2 (2 * u), ← Nat.mul_assoc 2 2 u, Nat.mul_assoc 4 p u, Nat.mul_assoc 4, Nat.mul_assoc p u x, Nat.mul_left_comm 4 p, Nat.mul_assoc 4 u x]
  have e2 : p * (1 + 2 * v) = p + p * 2 * v := by rw [Nat.mul_add, Nat.mul_one, Nat.mul_assoc]
  rw [Nat.add_mul, Nat.one_mul, e1, e2, Nat.mul_add (p * 2)]
  omega

/-- 2^k steps at once. -/
theorem pow_step : ∀ k, ∃ u v, ∀ s, it s (2 ^ k) % 2 ^ 128 = ((1 + 4 * 2 ^ k * u) * s + 2 ^ k * (1 + 2 * v)) % 2 ^ 128
  | 0 => by
    refine ⟨(mul - 1) / 4, (inc - 1) / 2, fun s => ?_⟩
    show ((s * mul + inc) % 2 ^ 128) % 2 ^ 128 = _
    have e1 : 1 + 4 * 2 ^ 0 * ((mul - 1) / 4) = mul := by decide
    have e2 : 2 ^ 0 * (1 + 2 * ((inc - 1) / 2)) = inc := by decide
    rw [e1, e2, Nat.mod_mod, Nat.mul_comm]
  | k + 1 => by
    obtain ⟨u, v, h⟩ := pow_step k
    refine ⟨u + 2 * 2 ^ k * (u * u), v + 2 ^ k * u * (1 + 2 * v), fun s => ?_⟩
    have e : 2 ^ (k + 1) = 2 ^ k + 2 ^ k := by rw [Nat.pow_succ]; omega
    have e2 : 2 ^ (k + 1) = 2 * 2 ^ k := by rw [Nat.pow_succ]; omega
    have ha : 1 + 4 * 2 ^ (k + 1) * (u + 2 * 2 ^ k * (u * u)) = (1 + 4 * 2 ^ k * u) * (1 + 4 * 2 ^ k * u) := by
      rw [sq, e2, ← Nat.mul_assoc 4 2]
    have hb : 2 ^ (k + 1) * (1 + 2 * (v + 2 ^ k * u * (1 + 2 * v))) = (1 + 4 * 2 ^ k * u) * (2 ^ k * (1 + 2 * v)) + 2 ^ k * (1 + 2 * v) := by
      rw [odd_mul, e2]
    rw [ha, hb, e, it_add, h (it s (2 ^ k)), ← comp]
    rw [Nat.add_mod, Nat.mul_mod, h s, ← Nat.mul_mod, ← Nat.add_mod]

theorem next_bit {s t p : Nat} (hp : 0 < p) (h : s % p = t % p) (hne : ¬ s % (p * 2) = t % (p * 2)) : (s + p) % (p * 2) = t % (p * 2) := by
  rw [Nat.mod_mul, Nat.mod_mul] at hne
  rw [Nat.mod_mul, Nat.mod_mul, Nat.add_mod_right, Nat.add_div_right _ hp, h]
  rw [h] at hne
  have h1 : s / p % 2 ≠ t / p % 2 := fun e => hne (by rw [e])
  have h2 : (s / p + 1) % 2 = t / p % 2 := by omega
  rw [h2]

/-- The states agree in k digits, after some steps. -/
theorem reach_mod (s t : Nat) : ∀ k, k ≤ 128 → ∃ i, it s i % 2 ^ k = t % 2 ^ k
  | 0, _ => ⟨0, by simp [Nat.mod_one]⟩
  | k + 1, hk => by
    obtain ⟨i, hi⟩ := reach_mod s t k (by omega)
    rw [Nat.pow_succ]
    by_cases c : it s i % (2 ^ k * 2) = t % (2 ^ k * 2)
    · exact ⟨i, c⟩
    · refine ⟨i + 2 ^ k, ?_⟩
      obtain ⟨u, v, h⟩ := pow_step k
      have hd : 2 ^ k * 2 ∣ 2 ^ 128 := by rw [← Nat.pow_succ]; exact Nat.pow_dvd_pow 2 hk
      have h1 : it s (i + 2 ^ k) % (2 ^ k * 2) = (it s i + 2 ^ k) % (2 ^ k * 2) := by
        rw [it_add]
        have := congrArg (· % (2 ^ k * 2)) (h (it s i))
        simp only [Nat.mod_mod_of_dvd _ hd] at this
        rw [this]
        generalize it s i = x
        generalize 2 ^ k = p
        rw [low, Nat.add_mul_mod_self_left]
      rw [h1]
      exact next_bit (Nat.two_pow_pos _) hi c

/-- From every state to every state. -/
theorem reach (s t : Nat) (hs : s < 2 ^ 128) (ht : t < 2 ^ 128) : ∃ i, it s i = t := by
  obtain ⟨i, hi⟩ := reach_mod s t 128 (Nat.le_refl _)
  refine ⟨i, ?_⟩
  have hl : it s i < 2 ^ 128 := by
    cases i with
    | zero => exact hs
    | succ i => exact f_lt _
  rwa [Nat.mod_eq_of_lt hl, Nat.mod_eq_of_lt ht] at hi

/-! ### The state in two halves, and what is drawn from it -/
def val (h l : Nat) : Nat := h * 18446744073709551616 + l
def nxH (h l : Nat) : Nat := f (val h l) / 18446744073709551616
def nxL (h l : Nat) : Nat := f (val h l) % 18446744073709551616

theorem val_nx (h l : Nat) : val (nxH h l) (nxL h l) = f (val h l) := by
  show nxH h l * 18446744073709551616 + nxL h l = _
  unfold nxH nxL
  omega

theorem nxL_lt (h l : Nat) : nxL h l < 18446744073709551616 := Nat.mod_lt _ (by decide)
theorem nxH_lt (h l : Nat) : nxH h l < 18446744073709551616 := by
  have := f_lt (val h l)
  unfold nxH
  omega

theorem halves (A B D F : Nat) (e : F = (A * 18446744073709551616 + D * 18446744073709551616 + B + (6364136223846793005 * 18446744073709551616 + 1442695040888963407)) % 340282366920938463463374607431768211456) :
    F % 18446744073709551616 = (B % 18446744073709551616 + 1442695040888963407) % 18446744073709551616 ∧
    F / 18446744073709551616 = ((B / 18446744073709551616 + (A % 18446744073709551616 + D % 18446744073709551616) % 18446744073709551616) % 18446744073709551616
      + 6364136223846793005 + (B % 18446744073709551616 + 1442695040888963407) / 18446744073709551616) % 18446744073709551616 := ⟨by omega, by omega⟩

theorem nx_eq (h l : Nat) :
    nxL h l = (l * 4865540595714422341 % 18446744073709551616 + 1442695040888963407) % 18446744073709551616 ∧
    nxH h l = ((l * 4865540595714422341 / 18446744073709551616 + (h * 4865540595714422341 % 18446744073709551616 + l * 2549297995355413924 % 18446744073709551616) % 18446744073709551616) % 18446744073709551616
      + 6364136223846793005 + (l * 4865540595714422341 % 18446744073709551616 + 1442695040888963407) / 18446744073709551616) % 18446744073709551616 := by
  have e : f (val h l) = (h * 4865540595714422341 * 18446744073709551616 + l * 2549297995355413924 * 18446744073709551616 + l * 4865540595714422341 + inc) % 340282366920938463463374607431768211456 := by
    unfold f val
    have e1 : (h * 18446744073709551616 + l) * mul = 340282366920938463463374607431768211456 * (h * 2549297995355413924) + (h * 4865540595714422341 * 18446744073709551616 + l * 2549297995355413924 * 18446744073709551616 + l * 4865540595714422341) := by
      unfold mul; omega
    rw [e1, Nat.add_assoc, show (2 : Nat) ^ 128 = 340282366920938463463374607431768211456 from rfl, Nat.mul_add_mod]
  exact halves _ _ _ _ e

/-- What a state gives. -/
def outp (h l : Nat) : Nat :=
  ((h ^^^ h / 4294967296) * 15750249268501108917 % 18446744073709551616 ^^^ (h ^^^ h / 4294967296) * 15750249268501108917 % 18446744073709551616 / 281474976710656) * (l ||| 1) % 18446744073709551616

/-- i steps of the halves. -/
def stp (h l : Nat) : Nat → Nat × Nat
  | 0 => (h, l)
  | i + 1 => (nxH (stp h l i).1 (stp h l i).2, nxL (stp h l i).1 (stp h l i).2)

theorem stp_val (h l : Nat) : ∀ i, val (stp h l i).1 (stp h l i).2 = it (val h l) i
  | 0 => rfl
  | i + 1 => by
    show val (nxH _ _) (nxL _ _) = f (it (val h l) i)
    rw [val_nx, stp_val h l i]

theorem stp_lt (h l : Nat) (hh : h < 18446744073709551616) (hl : l < 18446744073709551616) : ∀ i, (stp h l i).1 < 18446744073709551616 ∧ (stp h l i).2 < 18446744073709551616
  | 0 => ⟨hh, hl⟩
  | _ + 1 => ⟨nxH_lt _ _, nxL_lt _ _⟩

theorem stp_head (h l : Nat) : ∀ i, stp (nxH h l) (nxL h l) i = stp h l (i + 1)
  | 0 => rfl
  | i + 1 => by
    show (nxH (stp (nxH h l) (nxL h l) i).1 _, nxL _ _) = (nxH (stp h l (i + 1)).1 _, nxL _ _)
    rw [stp_head h l i]

theorem one_gives : outp 1 1 = 15750249268501119521 := by decide

theorem one_good : ∀ n, n < 1025 → 1 ≤ n → n ≤ 15750249268501119521 * n % 18446744073709551616 := by decide +kernel

/-- THE SEARCH ENDS: some state on the way gives a number that is not too small. -/
theorem ends (h l n : Nat) (hh : h < 18446744073709551616) (hl : l < 18446744073709551616) (h1 : 1 ≤ n) (h2 : n ≤ 1024) :
    ∃ i, n ≤ outp (stp h l i).1 (stp h l i).2 * n % 18446744073709551616 := by
  have hv : val h l < 2 ^ 128 := by unfold val; omega
  obtain ⟨i, hi⟩ := reach (val h l) (val 1 1) hv (by decide)
  rw [← stp_val] at hi
  have hlt := stp_lt h l hh hl i
  have e : (stp h l i).1 = 1 ∧ (stp h l i).2 = 1 := by
    generalize stp h l i = st at hi hlt
    unfold val at hi
    omega
  exact ⟨i, by rw [e.1, e.2, one_gives]; exact one_good n (by omega) h1⟩
end Go.Proofs.Ybulkaawi.Lcg
