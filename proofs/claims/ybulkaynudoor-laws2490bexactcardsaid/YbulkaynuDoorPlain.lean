/-
  PLAIN MATHEMATICS OF SEAT b2490aD: no Go in sight. The binary GCD, Euclid's, and the fraction's law.
-/
import Derived.Lib.TrailingZeros
namespace Go.Proofs.YbulkaynuDoor.Plain

/-- x > 0 below 2^64: x = 2^k * (2m+1). -/
theorem ctz_spec (x : Nat) (h0 : x ≠ 0) (h : x < 18446744073709551616) :
    ∃ m, x = 2 ^ Lib.ctz 64 x * (2 * m + 1) ∧ Lib.ctz 64 x < 64 := by
  obtain ⟨m, hm, hk⟩ := Lib.ctzFrom_spec 64 x (by omega) (by simpa using h)
  have e : Lib.ctz 64 x = Lib.ctzFrom 64 x := by simp [Lib.ctz, h0]
  rw [e]
  exact ⟨m, hm, hk⟩

/-- The odd part. -/
def oddp (x : Nat) : Nat := x / 2 ^ Lib.ctz 64 x

theorem oddp_spec (x : Nat) (h0 : x ≠ 0) (h : x < 18446744073709551616) :
    x = 2 ^ Lib.ctz 64 x * oddp x ∧ oddp x % 2 = 1 ∧ Lib.ctz 64 x < 64 ∧ oddp x ≤ x ∧ 0 < oddp x := by
  obtain ⟨m, hm, hk⟩ := ctz_spec x h0 h
  have e : oddp x = 2 * m + 1 := by
    unfold oddp
    generalize Lib.ctz 64 x = k at *
    rw [hm]
    exact Nat.mul_div_cancel_left _ (Nat.two_pow_pos k)
  refine ⟨by rw [e]; exact hm, by omega, hk, ?_, by omega⟩
  unfold oddp
  exact Nat.div_le_self _ _

theorem cop_two_pow (a k : Nat) (h : a % 2 = 1) : Nat.Coprime (2 ^ k) a := by
  apply Nat.Coprime.pow_left
  have : Nat.gcd 2 a = 1 := by
    rw [Nat.gcd_rec, h]
    rfl
  exact this

theorem gcd_oddp_right (a b : Nat) (ha : a % 2 = 1) (hb : b ≠ 0) (h : b < 18446744073709551616) : Nat.gcd a (oddp b) = Nat.gcd a b := by
  obtain ⟨e, _, _, _, _⟩ := oddp_spec b hb h
  rw [Nat.gcd_comm a (oddp b), Nat.gcd_comm a b]
  conv => rhs; rw [e]
  rw [Nat.Coprime.gcd_mul_left_cancel _ (cop_two_pow a _ ha)]

/-- One round: the lesser stays, the difference goes on. -/
theorem gcd_round_le (a b : Nat) (h : a ≤ b) : Nat.gcd a (b - a) = Nat.gcd a b := by
  rw [Nat.gcd_sub_self_right h]

theorem gcd_round_gt (a b : Nat) (h : b < a) : Nat.gcd b (a - b) = Nat.gcd a b := by
  rw [Nat.gcd_sub_self_right (Nat.le_of_lt h), Nat.gcd_comm]

theorem testBit_low (x k i : Nat) (h : 2 ^ k ∣ x) (hi : i < k) : x.testBit i = false := by
  obtain ⟨c, rfl⟩ := h
  rw [Nat.mul_comm, Nat.testBit_mul_two_pow]
  simp; omega

theorem dvd_of_low (x k : Nat) (h : ∀ i, i < k → x.testBit i = false) : 2 ^ k ∣ x := by
  apply Nat.dvd_of_mod_eq_zero
  apply Nat.eq_of_testBit_eq
  intro i
  rw [Nat.testBit_mod_two_pow]
  by_cases hi : i < k
  · simp [h i hi]
  · simp [hi]

theorem or_dvd (a b k : Nat) (h : 2 ^ k ∣ a ||| b) : 2 ^ k ∣ a ∧ 2 ^ k ∣ b := by
  constructor
  · apply dvd_of_low
    intro i hi
    have := testBit_low _ _ _ h hi
    rw [Nat.testBit_or] at this
    simp at this
    exact this.1
  · apply dvd_of_low
    intro i hi
    have := testBit_low _ _ _ h hi
    rw [Nat.testBit_or] at this
    simp at this
    exact this.2

theorem or_ne (a b : Nat) (ha : a ≠ 0) : a ||| b ≠ 0 := by
  intro h
  have := Nat.left_le_or (n := a) (m := b)
  omega

theorem or_lt (a b : Nat) (ha : a < 18446744073709551616) (hb : b < 18446744073709551616) : a ||| b < 18446744073709551616 := by
  have := Nat.or_lt_two_pow (n := 64) (x := a) (y := b) (by simpa using ha) (by simpa using hb)
  simpa using this

/-- gcd(a0, b0) = 2^s * gcd(odd part of a0, b0), s the trailing zeros of a0 | b0. -/
theorem gcd_shift (a b : Nat) (ha : a ≠ 0) (la : a < 18446744073709551616) (lb : b < 18446744073709551616) :
    Nat.gcd (oddp a) b * 2 ^ Lib.ctz 64 (a ||| b) = Nat.gcd a b := by
  obtain ⟨m, hm, hk⟩ := ctz_spec (a ||| b) (or_ne a b ha) (or_lt a b la lb)
  generalize hs : Lib.ctz 64 (a ||| b) = s at *
  obtain ⟨⟨a', ea⟩, ⟨b', eb⟩⟩ := or_dvd a b s ⟨_, hm⟩
  obtain ⟨e1, o1, _, _, p1⟩ := oddp_spec a ha la
  generalize oddp a = q at *
  -- one of a', b' is odd
  have hodd : a' % 2 = 1 ∨ b' % 2 = 1 := by
    have t : (a ||| b).testBit s = true := by
      rw [hm, Nat.mul_comm, Nat.testBit_mul_two_pow]; simp [Nat.testBit_zero]
    rw [Nat.testBit_or, ea, eb, Nat.mul_comm, Nat.testBit_mul_two_pow, Nat.mul_comm (2 ^ s) b', Nat.testBit_mul_two_pow] at t
    simp [Nat.testBit_zero] at t
    exact t
  generalize hka : Lib.ctz 64 a = k at *
  -- s ≤ k
  have hsk : s ≤ k := by
    apply Nat.le_of_not_lt
    intro hlt
    obtain ⟨d, rfl⟩ : ∃ d, s = k + (d + 1) := ⟨s - k - 1, by omega⟩
    rw [Nat.pow_add, Nat.mul_assoc] at ea
    have h2 : 2 ^ k * q = 2 ^ k * (2 ^ (d + 1) * a') := by rw [← e1]; exact ea
    have h3 := Nat.eq_of_mul_eq_mul_left (Nat.two_pow_pos k) h2
    rw [h3, Nat.pow_succ, Nat.mul_assoc, Nat.mul_left_comm, Nat.mul_mod_right] at o1
    omega
  obtain ⟨j, rfl⟩ : ∃ j, k = s + j := ⟨k - s, by omega⟩
  have ea' : a' = 2 ^ j * q := by
    rw [Nat.pow_add, Nat.mul_assoc] at e1
    have h2 : 2 ^ s * a' = 2 ^ s * (2 ^ j * q) := by rw [← ea]; exact e1
    exact Nat.eq_of_mul_eq_mul_left (Nat.two_pow_pos s) h2
  have g1 : Nat.gcd a b = 2 ^ s * Nat.gcd a' b' := by rw [ea, eb, Nat.gcd_mul_left]
  have g2 : Nat.gcd q b = Nat.gcd q b' := by
    rw [eb, Nat.gcd_comm q, Nat.gcd_comm q, Nat.Coprime.gcd_mul_left_cancel _ (cop_two_pow q s o1)]
  have g3 : Nat.gcd a' b' = Nat.gcd q b' := by
    rw [ea']
    rcases hodd with h | h
    · have hj : j = 0 := by
        rcases j with _ | j
        · rfl
        · rw [ea', Nat.pow_succ, Nat.mul_assoc, Nat.mul_left_comm, Nat.mul_mod_right] at h
          omega
      subst hj
      simp
    · rw [Nat.Coprime.gcd_mul_left_cancel _ (cop_two_pow b' j h)]
  rw [g1, g2, g3, Nat.mul_comm]

theorem gcd_le_r (a b : Nat) (hb : b ≠ 0) : Nat.gcd a b ≤ b := Nat.le_of_dvd (by omega) (Nat.gcd_dvd_right a b)
theorem gcd_pos_r (a b : Nat) (hb : b ≠ 0) : 0 < Nat.gcd a b := Nat.gcd_pos_of_pos_right a (by omega)

/-- The reduced fraction: lowest terms, the same value. -/
theorem frac (num : Int) (den : Nat) (hd : den ≠ 0) (p s : Int) (h : num * p = s * (den : Int)) :
    Nat.gcd (num / (Nat.gcd num.natAbs den : Int)).natAbs (den / Nat.gcd num.natAbs den) = 1 ∧
    num / (Nat.gcd num.natAbs den : Int) * p = s * ((den / Nat.gcd num.natAbs den : Nat) : Int) := by
  have hg : 0 < Nat.gcd num.natAbs den := gcd_pos_r _ _ hd
  have h1 : ((Nat.gcd num.natAbs den : Nat) : Int) ∣ num := by
    rw [← Int.dvd_natAbs]; exact Int.ofNat_dvd.2 (Nat.gcd_dvd_left _ _)
  have h2 : Nat.gcd num.natAbs den ∣ den := Nat.gcd_dvd_right _ _
  have e3 : (num / (Nat.gcd num.natAbs den : Int)).natAbs = num.natAbs / Nat.gcd num.natAbs den := by
    rw [Int.natAbs_ediv_of_dvd h1, Int.natAbs_natCast]
  refine ⟨?_, ?_⟩
  · rw [e3]
    exact Nat.coprime_div_gcd_div_gcd hg
  · generalize Nat.gcd num.natAbs den = g at *
    obtain ⟨n', rfl⟩ := h1
    obtain ⟨d', rfl⟩ := h2
    have g0 : (g : Int) ≠ 0 := by omega
    rw [Int.mul_ediv_cancel_left _ g0, Nat.mul_div_cancel_left _ hg]
    rw [Int.natCast_mul, Int.mul_assoc, Int.mul_left_comm s] at h
    exact Int.eq_of_mul_eq_mul_left g0 h

end Go.Proofs.YbulkaynuDoor.Plain
