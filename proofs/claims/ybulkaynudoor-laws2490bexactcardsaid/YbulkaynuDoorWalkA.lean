/-
  SEAT b2490aD: WALKS OF THE LEAVES: TrailingZeros64 (15), Mul64 (16), abs (13), add (9), mul (12), zzs2490bgcd (7), gcd (11).
-/
import Derived.Test.YbulkaynuDoorRows
import Derived.Test.YbulkaynuDoorPlain
import Derived.WalkKit
import Derived.WalkSpells
import Derived.WalkLawsBesides
import Derived.Laws.Bits64b
import Derived.Lib.Mul64
import Derived.Deep.QuietTactic
import Derived.BigQuiet
namespace Go.Proofs.YbulkaynuDoor
open Go.RowKit

/-- The table lies in variable 0. -/
def Tab (w : World) : Prop := 0 < w.heap.size ∧ ∀ j, j < 64 → w.cell? ⟨0, j, none⟩ = some (.int .u8 (Lib.deBruijn64tab.getD j 0))

theorem Tab.below {w w' : World} (h : Tab w) (b : Below w.heap.size w w') : Tab w' :=
  ⟨Nat.lt_of_lt_of_le h.1 b.size, fun j hj => by rw [b.cell (p := ⟨0, j, none⟩) h.1]; exact h.2 j hj⟩

theorem tz_key (x a : Nat) (hx : x < 18446744073709551616) (hx0 : x ≠ 0) (hlow : x &&& (18446744073709551616 - x) = a) :
    IntKind.u64.wrap (bits BinOp.and IntKind.u64 (x : Int) (IntKind.u64.wrap (-(x : Int))) * 285870213051353865) / 288230376151711744 = ((a * 285870213051353865 % 18446744073709551616 / 288230376151711744 : Nat) : Int) := by
  have e1 : IntKind.u64.wrap (-(x : Int)) = ((18446744073709551616 - x : Nat) : Int) := by rw [IntKind.wrap_u64]; omega
  rw [e1, bits_and_u64_nat x _ hx (by omega), hlow, IntKind.wrap_u64]
  omega

set_option maxHeartbeats 1000000 in
theorem tz_core (x k idx : Nat) (w : World) (hx0 : ((x : Int) == 0) = false)
    (key : IntKind.u64.wrap (bits BinOp.and IntKind.u64 (x : Int) (IntKind.u64.wrap (-(x : Int))) * 285870213051353865) / 288230376151711744 = (idx : Int))
    (hi : idx < 64) (hk : k < 64) (hcell : w.cell? ⟨0, idx, none⟩ = some (.int .u8 k)) :
    Calls Ybad.prog 15 #[.int .u64 x] w fun e w' => e = .returned (.int .i64 k) ∧ w' = w := by
  go_enter Ybad.func15, Ybad.ntmps15
  go_wp2_with (simp only [key])
  go_ret
  exact ⟨rfl, rfl⟩

/-- math/bits.TrailingZeros64 at x not 0. -/
theorem tz_any (x : Nat) (hx : x < 18446744073709551616) (hx0 : x ≠ 0) (w : World) (hT : Tab w) :
    Calls Ybad.prog 15 #[.int .u64 x] w fun e w' => e = .returned (.int .i64 (Lib.ctz 64 x)) ∧ w' = w := by
  obtain ⟨hlow, hk⟩ := Lib.lowest_bit 64 x hx0 hx
  obtain ⟨hi, htab⟩ := Lib.deBruijn64_at _ hk
  have hcell := hT.2 _ hi
  rw [htab] at hcell
  exact tz_core x _ _ w (by simp; omega) (tz_key x _ hx hx0 hlow) hi hk hcell

namespace M64
theorem maskN (a : Nat) (ha : a < 18446744073709551616) : bits .and .u64 (a : Int) 4294967295 = ((a % 4294967296 : Nat) : Int) := by
  have h := bits_and_u64_nat a 4294967295 ha (by omega)
  have e : a &&& 4294967295 = a % 4294967296 := Nat.and_two_pow_sub_one_eq_mod a 32
  rw [e] at h
  exact h
theorem divN (a : Nat) : (a : Int) / 4294967296 = ((a / 4294967296 : Nat) : Int) := by omega
theorem mulN (a b : Nat) : (a : Int) * (b : Int) = ((a * b : Nat) : Int) := (Int.natCast_mul a b).symm
theorem addN (a b : Nat) : (a : Int) + (b : Int) = ((a + b : Nat) : Int) := (Int.natCast_add a b).symm
theorem wrapN (a : Nat) (ha : a < 18446744073709551616) : IntKind.u64.wrap (a : Int) = (a : Int) := by rw [IntKind.wrap_u64]; omega
theorem wrapM (a : Nat) : IntKind.u64.wrap (a : Int) = ((a % 18446744073709551616 : Nat) : Int) := by rw [IntKind.wrap_u64]; omega
end M64

set_option maxHeartbeats 1000000 in
theorem mul64_any (x y : Nat) (hx : x < 18446744073709551616) (hy : y < 18446744073709551616) (w : World) :
    Calls Ybad.prog 16 #[.int .u64 x, .int .u64 y] w fun e w' => e = .returned (.tuple #[.int .u64 ((x * y / 18446744073709551616 : Nat) : Int), .int .u64 ((x * y % 18446744073709551616 : Nat) : Int)]) ∧ w' = w := by
  obtain ⟨bd, bt, bw, hhi⟩ := Lib.mul64_hi x y hx hy
  have ba := Lib.half_mul_le (a := x / 4294967296) (b := y / 4294967296) (by omega) (by omega)
  have bb := Lib.half_mul_le (a := x / 4294967296) (b := y % 4294967296) (by omega) (by omega)
  have bc := Lib.half_mul_le (a := x % 4294967296) (b := y / 4294967296) (by omega) (by omega)
  have ba' : x / 4294967296 * (y / 4294967296) < 18446744073709551616 := by omega
  have bb' : x / 4294967296 * (y % 4294967296) < 18446744073709551616 := by omega
  have bc' : x % 4294967296 * (y / 4294967296) < 18446744073709551616 := by omega
  have bh1 : x / 4294967296 * (y / 4294967296) + (x / 4294967296 * (y % 4294967296) + x % 4294967296 * (y % 4294967296) / 4294967296) / 4294967296 < 18446744073709551616 := by omega
  have bh : x / 4294967296 * (y / 4294967296) + (x / 4294967296 * (y % 4294967296) + x % 4294967296 * (y % 4294967296) / 4294967296) / 4294967296 + ((x / 4294967296 * (y % 4294967296) + x % 4294967296 * (y % 4294967296) / 4294967296) % 4294967296 + x % 4294967296 * (y / 4294967296)) / 4294967296 < 18446744073709551616 := by omega
  go_enter Ybad.func16, Ybad.ntmps16
  go_wp2
  simp only [M64.maskN x hx, M64.maskN y hy, M64.divN, M64.mulN, M64.addN, M64.wrapN _ bd, M64.wrapN _ bb', M64.wrapN _ bt, M64.maskN _ bt, M64.wrapN _ bc', M64.wrapN _ bw, M64.wrapN _ ba', M64.wrapN _ bh1, M64.wrapN _ bh, M64.wrapM (x * y)]
  rw [hhi]
  go_ret2
  exact ⟨rfl, rfl⟩

theorem ret_int {k : IntKind} {a b : Int} (h : a = b) : Ending.returned (.int k a) = .returned (.int k b) := by rw [h]

/-- abs. -/
theorem abs_any (n : Int) (h1 : -9223372036854775808 < n) (h2 : n < 9223372036854775808) (w : World) :
    Calls Ybad.prog 13 #[.int .i64 n] w fun e w' => e = .returned (.int .u64 (n.natAbs : Int)) ∧ w' = w := by
  by_cases h : n < 0
  · go_enter Ybad.func13, Ybad.ntmps13
    go_wp2
    go_ret
    exact ⟨ret_int (by simp only [IntKind.wrap_u64]; omega), rfl⟩
  · go_enter Ybad.func13, Ybad.ntmps13
    go_wp2
    go_ret
    exact ⟨ret_int (by first | (simp only [IntKind.wrap_u64]; omega) | omega), rfl⟩
end Go.Proofs.YbulkaynuDoor
