/-
  SEAT b2490aD: mul (12), small (14), reduced (10).
-/
import Derived.Test.YbulkaynuDoorWalkC
namespace Go.Proofs.YbulkaynuDoor
open Go.RowKit

theorem abs_mul_lt (a b : Int) (h1 : a.natAbs < 2147483648) (h2 : b.natAbs < 2147483648) : a.natAbs * b.natAbs < 4611686018427387904 := by
  have := Nat.mul_le_mul (show a.natAbs ≤ 2147483647 by omega) (show b.natAbs ≤ 2147483647 by omega)
  omega

theorem prod_nn (a b : Int) (ha : ¬ a < 0) (hb : ¬ b < 0) : ((a.natAbs * b.natAbs : Nat) : Int) = a * b := by
  rw [Int.natCast_mul, Int.natAbs_of_nonneg (by omega), Int.natAbs_of_nonneg (by omega)]
theorem prod_pp (a b : Int) (ha : a < 0) (hb : b < 0) : ((a.natAbs * b.natAbs : Nat) : Int) = a * b := by
  rw [Int.natCast_mul, Int.ofNat_natAbs_of_nonpos (by omega), Int.ofNat_natAbs_of_nonpos (by omega), Int.neg_mul_neg]
theorem prod_pn (a b : Int) (ha : a < 0) (hb : ¬ b < 0) : -((a.natAbs * b.natAbs : Nat) : Int) = a * b := by
  rw [Int.natCast_mul, Int.ofNat_natAbs_of_nonpos (by omega), Int.natAbs_of_nonneg (by omega), Int.neg_mul, Int.neg_neg]
theorem prod_np (a b : Int) (ha : ¬ a < 0) (hb : b < 0) : -((a.natAbs * b.natAbs : Nat) : Int) = a * b := by
  rw [Int.natCast_mul, Int.natAbs_of_nonneg (by omega), Int.ofNat_natAbs_of_nonpos (by omega), Int.mul_neg, Int.neg_neg]

theorem ret_pair {k : IntKind} {a b : Int} {v : Value} (h : a = b) : Ending.returned (.tuple #[.int k a, v]) = .returned (.tuple #[.int k b, v]) := by rw [h]

set_option maxHeartbeats 800000 in
/-- mul, where nothing overflows. -/
theorem mul_any (a b : Int) (h1 : -2147483648 < a) (h2 : a < 2147483648) (h3 : -2147483648 < b) (h4 : b < 2147483648) (w : World) :
    Calls Ybad.prog 12 #[.int .i64 a, .int .i64 b] w fun e w' => e = .returned (.tuple #[.int .i64 (a * b), .bool true]) ∧ w' = w := by
  have hlt := abs_mul_lt a b (by omega) (by omega)
  have e0 : a.natAbs * b.natAbs / 18446744073709551616 = 0 := by omega
  have e1 : a.natAbs * b.natAbs % 18446744073709551616 = a.natAbs * b.natAbs := by omega
  have c1 := prod_nn a b
  have c2 := prod_pp a b
  have c3 := prod_pn a b
  have c4 := prod_np a b
  have h64 := mul64_any a.natAbs b.natAbs (by omega) (by omega)
  rw [e0, e1] at h64
  clear e0 e1
  generalize a.natAbs * b.natAbs = m at *
  generalize a * b = r at *
  have H64 : Hid (∀ (w : World), Calls Ybad.prog 16 #[Value.int IntKind.u64 ↑a.natAbs, Value.int IntKind.u64 ↑b.natAbs] w fun e w' => e = Ending.returned (Value.tuple #[Value.int IntKind.u64 ((0 : Nat) : Int), Value.int IntKind.u64 (m : Int)]) ∧ w' = w) := h64
  clear h64
  by_cases p : a < 0 <;> by_cases q : b < 0
  · have C : Hid ((m : Int) = r) := c2 p q
    clear c1 c2 c3 c4
    have p' : decide (a < 0) = true := by simpa using p
    have q' : decide (b < 0) = true := by simpa using q
    go_enter Ybad.func12, Ybad.ntmps12
    go_wp2_with fail
    refine (abs_any a (by omega) (by omega) _).mono ?_
    rintro e w' ⟨rfl, hw⟩
    rw [hw]; clear hw
    go_wp2_with fail
    refine (abs_any b (by omega) (by omega) _).mono ?_
    rintro e w' ⟨rfl, hw⟩
    rw [hw]; clear hw
    go_wp2_with fail
    refine (H64.out _).mono ?_
    rintro e w' ⟨rfl, hw⟩
    rw [hw]; clear hw
    go_wp2_with fail
    go_ret2
    exact ⟨ret_pair C.out, rfl⟩
  · have C : Hid (-(m : Int) = r) := c3 p q
    clear c1 c2 c3 c4
    have p' : decide (a < 0) = true := by simpa using p
    have q' : decide (b < 0) = false := by simpa using q
    go_enter Ybad.func12, Ybad.ntmps12
    go_wp2_with fail
    refine (abs_any a (by omega) (by omega) _).mono ?_
    rintro e w' ⟨rfl, hw⟩
    rw [hw]; clear hw
    go_wp2_with fail
    refine (abs_any b (by omega) (by omega) _).mono ?_
    rintro e w' ⟨rfl, hw⟩
    rw [hw]; clear hw
    go_wp2_with fail
    refine (H64.out _).mono ?_
    rintro e w' ⟨rfl, hw⟩
    rw [hw]; clear hw
    go_wp2_with fail
    go_ret2
    exact ⟨ret_pair C.out, rfl⟩
  · have C : Hid (-(m : Int) = r) := c4 p q
    clear c1 c2 c3 c4
    have p' : decide (a < 0) = false := by simpa using p
    have q' : decide (b < 0) = true := by simpa using q
    go_enter Ybad.func12, Ybad.ntmps12
    go_wp2_with fail
    refine (abs_any a (by omega) (by omega) _).mono ?_
    rintro e w' ⟨rfl, hw⟩
    rw [hw]; clear hw
    go_wp2_with fail
    refine (abs_any b (by omega) (by omega) _).mono ?_
    rintro e w' ⟨rfl, hw⟩
    rw [hw]; clear hw
    go_wp2_with fail
    refine (H64.out _).mono ?_
    rintro e w' ⟨rfl, hw⟩
    rw [hw]; clear hw
    go_wp2_with fail
    go_ret2
    exact ⟨ret_pair C.out, rfl⟩
  · have C : Hid ((m : Int) = r) := c1 p q
    clear c1 c2 c3 c4
    have p' : decide (a < 0) = false := by simpa using p
    have q' : decide (b < 0) = false := by simpa using q
    go_enter Ybad.func12, Ybad.ntmps12
    go_wp2_with fail
    refine (abs_any a (by omega) (by omega) _).mono ?_
    rintro e w' ⟨rfl, hw⟩
    rw [hw]; clear hw
    go_wp2_with fail
    refine (abs_any b (by omega) (by omega) _).mono ?_
    rintro e w' ⟨rfl, hw⟩
    rw [hw]; clear hw
    go_wp2_with fail
    refine (H64.out _).mono ?_
    rintro e w' ⟨rfl, hw⟩
    rw [hw]; clear hw
    go_wp2_with fail
    go_ret2
    exact ⟨ret_pair C.out, rfl⟩

set_option maxHeartbeats 400000 in
/-- small. -/
theorem small_one (n : Int) (w : World) :
    Calls Ybad.prog 14 #[.int .i64 n, .int .i64 1] w fun e w' => e = .returned (.agg #[.int .i64 n, .int .i64 0, .pointer none]) ∧ Below w.heap.size w w' := by
  go_enter Ybad.func14, Ybad.ntmps14
  go_wp2
  exact bodyPost_ret (v := .agg #[.int .i64 n, .int .i64 0, .pointer none]) (by simp [results, Ybad.results14, go_sem]) rfl ⟨rfl, (Below.refl _ _).alloc (Nat.le_refl _) _⟩

set_option maxHeartbeats 400000 in
theorem small_more (n d : Int) (hd : (d == 1) = false) (w : World) :
    Calls Ybad.prog 14 #[.int .i64 n, .int .i64 d] w fun e w' => e = .returned (.agg #[.int .i64 n, .int .i64 d, .pointer none]) ∧ Below w.heap.size w w' := by
  go_enter Ybad.func14, Ybad.ntmps14
  go_wp2
  exact bodyPost_ret (v := .agg #[.int .i64 n, .int .i64 d, .pointer none]) (by simp [results, Ybad.results14, go_sem]) rfl ⟨rfl, (Below.refl _ _).alloc (Nat.le_refl _) _⟩

/-- What small stores for a denominator: 0 for 1. -/
def dstored (d : Int) : Int := if d = 1 then 0 else d

theorem small_any (n d : Int) (w : World) :
    Calls Ybad.prog 14 #[.int .i64 n, .int .i64 d] w fun e w' => e = .returned (.agg #[.int .i64 n, .int .i64 (dstored d), .pointer none]) ∧ Below w.heap.size w w' := by
  by_cases h : d = 1
  · subst h; exact small_one n w
  · have := small_more n d (by simp [h]) w
    rw [show dstored d = d by simp [dstored, h]]
    exact this
end Go.Proofs.YbulkaynuDoor
