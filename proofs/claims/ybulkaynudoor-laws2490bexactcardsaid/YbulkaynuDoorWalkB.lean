/-
  SEAT b2490aD: THE WALK OF gcd (11), the binary GCD.
-/
import Derived.Test.YbulkaynuDoorWalkA
namespace Go.Proofs.YbulkaynuDoor
open Go.RowKit

theorem oddp_int (x : Nat) : (x : Int) / 2 ^ Lib.ctz 64 x = (Plain.oddp x : Int) := by
  unfold Plain.oddp
  rw [Int.natCast_ediv, Int.natCast_pow]
  rfl

set_option maxHeartbeats 1000000 in
theorem gcd_main (a b o s k p0 g : Nat) (ha : a < 9223372036854775808) (hb : b < 9223372036854775808) (ha0 : ((a : Int) == 0) = false) (hb0 : ((b : Int) == 0) = false)
    (hor : bits .or .u64 (a : Int) (b : Int) = (o : Int)) (ho : o < 18446744073709551616) (ho0 : o ≠ 0) (hs : s < 64) (hk : k < 64)
    (Hs : Hid (Lib.ctz 64 o = s)) (Hk : Hid (Lib.ctz 64 a = k)) (hp0 : (a : Int) / 2 ^ k = (p0 : Int)) (hpo : p0 % 2 = 1) (hpl : p0 < 9223372036854775808)
    (Hg : Hid (Nat.gcd p0 b = g)) (Hr : Hid (g * 2 ^ s = Nat.gcd a b))
    (w : World) (hT : Tab w) :
    Calls Ybad.prog 11 #[.int .u64 a, .int .u64 b] w fun e w' => e = .returned (.int .u64 (Nat.gcd a b : Int)) ∧ w' = w := by
  go_enter Ybad.func11, Ybad.ntmps11
  go_wp2_with fail
  refine (tz_any o ho ho0 _ hT).mono ?_
  rintro e w' ⟨rfl, hw⟩
  rw [Hs.out, hw]
  clear hw
  go_wp2_with fail
  refine (tz_any a (by omega) (by simpa using ha0) _ hT).mono ?_
  rintro e w' ⟨rfl, hw⟩
  rw [Hk.out, hw]
  clear hw
  go_wp2_with fail
  go_loop [0, 1] (fun x y => ∃ p q : Nat, x = .int .u64 p ∧ y = .int .u64 q ∧ p % 2 = 1 ∧ p < 9223372036854775808 ∧ q < 9223372036854775808 ∧ Hid (Nat.gcd p q = g))
    (fun x y => (intOf x).toNat + (intOf y).toNat)
  case atStart => exact ⟨p0, b, rfl, rfl, hpo, hpl, hb, Hg⟩
  case round =>
    obtain ⟨p, q, rfl, rfl, hp, hpl', hql, HG⟩ := hrel
    by_cases hq : q = 0
    · subst hq
      go_wp2
      go_ret
      refine ⟨ret_int ?_, rfl⟩
      have hG := HG.out
      rw [Nat.gcd_zero_right] at hG
      have hR := Hr.out
      have hle := Plain.gcd_le_r a b (by simpa using hb0)
      rw [← hR, hG]
      rw [← hR, ← hG] at hle
      rw [← hG] at hR ⊢
      have e1 : (p : Int) * 2 ^ s = ((p * 2 ^ s : Nat) : Int) := by rw [Int.natCast_mul, Int.natCast_pow]; rfl
      first | rw [e1, IntKind.wrap_u64] | (rw [IntKind.wrap_u64, e1])
      omega
    · have hq0 : ((q : Int) == 0) = false := by simp; exact hq
      have hqn : ((q : Int) != 0) = true := by simp; exact hq
      obtain ⟨e1, e2, e3, e4, e5⟩ := Plain.oddp_spec q hq (by omega)
      have hgr := Plain.gcd_oddp_right p q hp hq (by omega)
      have hdi := oddp_int q
      clear e1
      generalize hkq : Lib.ctz 64 q = kq at *
      have Hkq : Hid (Lib.ctz 64 q = kq) := hkq
      clear hkq
      generalize hr : Plain.oddp q = r at *
      clear hr
      by_cases hlt : r < p
      · have HG2 : Hid (Nat.gcd r (p - r) = g) := by
          show Nat.gcd r (p - r) = g
          rw [Plain.gcd_round_gt _ _ hlt, hgr]; exact HG.out
        clear hgr
        go_wp2_with fail
        refine (tz_any q (by omega) hq _ hT).mono ?_
        rintro e w' ⟨rfl, hw⟩
        rw [Hkq.out, hw]
        clear hw
        go_wp2_with fail
        go_round
        case rel => exact ⟨r, p - r, rfl, by go_num, e2, by omega, by omega, HG2⟩
        case measure => simp [intOf]; omega
      · have HG2 : Hid (Nat.gcd p (r - p) = g) := by
          show Nat.gcd p (r - p) = g
          rw [Plain.gcd_round_le _ _ (by omega), hgr]; exact HG.out
        clear hgr
        go_wp2_with fail
        refine (tz_any q (by omega) hq _ hT).mono ?_
        rintro e w' ⟨rfl, hw⟩
        rw [Hkq.out, hw]
        clear hw
        go_wp2_with fail
        go_round
        case rel => exact ⟨p, r - p, rfl, by go_num, hp, by omega, by omega, HG2⟩
        case measure => simp [intOf]; omega
end Go.Proofs.YbulkaynuDoor
