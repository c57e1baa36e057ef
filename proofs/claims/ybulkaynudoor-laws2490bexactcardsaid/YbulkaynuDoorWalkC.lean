/-
  SEAT b2490aD: gcd (11) whole, zzs2490bgcd (7), add (9), mul (12), small (14).
-/
import Derived.Test.YbulkaynuDoorWalkB
namespace Go.Proofs.YbulkaynuDoor
open Go.RowKit

set_option maxHeartbeats 400000 in
theorem gcd_zero (b : Nat) (hb : b < 9223372036854775808) (w : World) :
    Calls Ybad.prog 11 #[.int .u64 0, .int .u64 b] w fun e w' => e = .returned (.int .u64 (b : Int)) ∧ w' = w := by
  have hor := bits_or_u64_nat 0 b (by omega) (by omega)
  rw [Nat.zero_or] at hor
  have hor' : bits .or .u64 0 (b : Int) = (b : Int) := hor
  clear hor
  go_enter Ybad.func11, Ybad.ntmps11
  go_wp2
  go_ret
  exact ⟨rfl, rfl⟩

/-- gcd: the greatest common divisor; b not 0. -/
theorem gcd_any (a b : Nat) (ha : a < 9223372036854775808) (hb : b < 9223372036854775808) (hb0 : b ≠ 0) (w : World) (hT : Tab w) :
    Calls Ybad.prog 11 #[.int .u64 a, .int .u64 b] w fun e w' => e = .returned (.int .u64 (Nat.gcd a b : Int)) ∧ w' = w := by
  by_cases h : a = 0
  · subst h
    rw [Nat.gcd_zero_left]
    exact gcd_zero b hb w
  · obtain ⟨_, o1, o2, o3, _⟩ := Plain.oddp_spec a h (by omega)
    obtain ⟨_, _, o4⟩ := Plain.ctz_spec (a ||| b) (Plain.or_ne a b h) (Plain.or_lt a b (by omega) (by omega))
    exact gcd_main a b (a ||| b) _ _ (Plain.oddp a) _ ha hb (by simp; exact h) (by simp; exact hb0) (bits_or_u64_nat a b (by omega) (by omega)) (Plain.or_lt a b (by omega) (by omega))
      (Plain.or_ne a b h) o4 o2 rfl rfl (oddp_int a) o1 (by omega) rfl (Plain.gcd_shift a b h (by omega) (by omega)) w hT

set_option maxHeartbeats 400000 in
/-- add, where nothing overflows. -/
theorem add_any (a b : Int) (h1 : -4611686018427387904 < a) (h2 : a < 4611686018427387904) (h3 : -4611686018427387904 < b) (h4 : b < 4611686018427387904) (w : World) :
    Calls Ybad.prog 9 #[.int .i64 a, .int .i64 b] w fun e w' => e = .returned (.tuple #[.int .i64 (a + b), .bool true]) ∧ w' = w := by
  have hne : ((a + b) != (-9223372036854775808 : Int)) = true := by rw [bne_iff_ne]; omega
  by_cases p : 0 ≤ a <;> by_cases q : 0 ≤ b <;> by_cases r : 0 ≤ a + b
  all_goals try omega
  all_goals
    go_enter Ybad.func9, Ybad.ntmps9
    go_wp2
    go_ret2
    exact ⟨rfl, rfl⟩

set_option maxHeartbeats 400000 in
theorem euclid_nat (a : Int) (p0 q0 g : Nat) (ha : a = p0 ∨ a = -(p0 : Int)) (h2 : p0 < 4611686018427387904) (h4 : q0 < 4611686018427387904) (Hg : Hid (Nat.gcd p0 q0 = g)) (w : World) :
    Calls Ybad.prog 7 #[.int .i64 a, .int .i64 q0] w fun e w' => e = .returned (.int .i64 (g : Int)) ∧ ∃ n, w' = w.drewN n := by
  have hbn : decide ((q0 : Int) < 0) = false := by simp
  by_cases hn : a < 0
  all_goals
    go_enter Ybad.func7, Ybad.ntmps7
    go_wp2
    go_loopw [0, 1] (fun x y w' => ∃ p q : Nat, x = .int .i64 p ∧ y = .int .i64 q ∧ p < 4611686018427387904 ∧ q < 4611686018427387904 ∧ Hid (Nat.gcd p q = g) ∧ ∃ n, w' = w.drewN n)
      (fun _ y _ => (intOf y).toNat)
    case atStart => exact ⟨p0, q0, by congr 1; omega, rfl, h2, h4, Hg, 0, rfl⟩
    case round =>
      obtain ⟨p, q, rfl, rfl, hp, hq, HG, n, rfl⟩ := hrel
      by_cases hq0 : q = 0
      · subst hq0
        go_wp2
        go_ret
        refine ⟨ret_int ?_, n, rfl⟩
        have := HG.out
        rw [Nat.gcd_zero_right] at this
        omega
      · have hqn : ((q : Int) != 0) = true := by simp; exact hq0
        have hqz : ((q : Int) == 0) = false := by simp; exact hq0
        have HG2 : Hid (Nat.gcd q (p % q) = g) := by
          show Nat.gcd q (p % q) = g
          rw [← HG.out, Nat.gcd_comm q (p % q), ← Nat.gcd_rec, Nat.gcd_comm]
        have hm := Nat.mod_lt p (Nat.pos_of_ne_zero hq0)
        go_wp2
        go_quiet (fail)
        go_wp2
        go_roundw
        case rel => exact ⟨q, p % q, rfl, by go_num, hq, by omega, HG2, n + nq, by simp⟩
        case measure => simp [intOf]; omega
end Go.Proofs.YbulkaynuDoor
