/-
  SEAT b2490aD: THE LAW's WALK (3).
-/
import Derived.Test.YbulkaynuDoorWalkF
namespace Go.Proofs.YbulkaynuDoor
open Go.RowKit

theorem w64_off (x : Int) : ∃ k, wrap64 x = x + 18446744073709551616 * k := ⟨-((x + 9223372036854775808) / 18446744073709551616), by unfold wrap64; omega⟩
theorem w64_add (x k : Int) : wrap64 (x + 18446744073709551616 * k) = wrap64 x := by unfold wrap64; omega

theorem law_eq (n a c B D dd : Int) (h : n * (B * D) = (a * D + c * B) * dd) :
    (wrap64 (n * wrap64 (B * D)) == wrap64 (wrap64 (wrap64 (a * D) + wrap64 (c * B)) * dd)) = true := by
  rw [beq_iff_eq]
  obtain ⟨k1, e1⟩ := w64_off (B * D)
  obtain ⟨k2, e2⟩ := w64_off (a * D)
  obtain ⟨k3, e3⟩ := w64_off (c * B)
  obtain ⟨k4, e4⟩ := w64_off (wrap64 (a * D) + wrap64 (c * B))
  rw [e4, e1, e2, e3]
  have f1 : n * (B * D + 18446744073709551616 * k1) = n * (B * D) + 18446744073709551616 * (n * k1) := by
    rw [Int.mul_add, Int.mul_left_comm n 18446744073709551616 k1]
  have f2 : (a * D + 18446744073709551616 * k2 + (c * B + 18446744073709551616 * k3) + 18446744073709551616 * k4) * dd = (a * D + c * B) * dd + 18446744073709551616 * ((k2 + k3 + k4) * dd) := by
    have : a * D + 18446744073709551616 * k2 + (c * B + 18446744073709551616 * k3) + 18446744073709551616 * k4 = (a * D + c * B) + 18446744073709551616 * (k2 + k3 + k4) := by omega
    rw [this, Int.add_mul, Int.mul_assoc]
  rw [f1, f2, w64_add, w64_add, h]

theorem law_eq1 (n a c B D : Int) (h : n * (B * D) = (a * D + c * B) * 1) :
    (wrap64 (n * wrap64 (B * D)) == wrap64 (wrap64 (wrap64 (a * D) + wrap64 (c * B)))) = true := by
  have := law_eq n a c B D 1 h
  rwa [Int.mul_one] at this

theorem ret_bool {a b : Bool} (h : a = b) : Ending.returned (.bool a) = .returned (.bool b) := by rw [h]
theorem below_end {w w1 : World} (h : Below w.heap.size w w1) (o : Obj) (n : Nat) : Below w.heap.size w ((w1.alloc o).drewN n) := below_drewN (h.alloc h.size o) n

set_option maxHeartbeats 1600000 in
theorem law_any (a c : Int) (bu du : Nat) (h1 : -32768 ≤ a) (h2 : a ≤ 32767) (h3 : -32768 ≤ c) (h4 : c ≤ 32767) (hb : bu ≤ 255) (hd : du ≤ 255) (w : World) (hT : Tab w) :
    Calls Ybad.prog 3 #[.int .i16 a, .int .u8 bu, .int .i16 c, .int .u8 du] w fun e w' => e = .returned (.bool true) ∧ Below w.heap.size w w' := by
  go_enter Ybad.func3, Ybad.ntmps3
  go_wp2_with fail
  have hc := addSmall_any a c (bu + 1) (du + 1) h1 (by omega) h3 (by omega) (by omega) (by omega) (by omega) (by omega) w hT
  rw [Int.natCast_add, Int.natCast_add] at hc
  refine hc.mono ?_
  rintro e w1 ⟨n, dd, rfl, ⟨l1, l2, l3, l4, l5⟩, hbel⟩
  have L1 : Hid (Nat.gcd n.natAbs dd = 1) := l1
  have L2 : Hid (n * (((bu : Int) + 1) * ((du : Int) + 1)) = (a * ((du : Int) + 1) + c * ((bu : Int) + 1)) * (dd : Int)) := l2
  clear l1 l2 hc
  by_cases hdd : dd = 1
  · subst hdd
    have e0 : dstored ((1 : Nat) : Int) = 0 := rfl
    rw [e0]
    clear e0
    go_wp2_with fail
    refine (euclid_nat n n.natAbs 1 1 (by omega) (by omega) (by omega) L1 _).mono ?_
    rintro e w2 ⟨rfl, nq, hw⟩
    rw [hw]; clear hw
    go_wp2_with fail
    go_ret
    exact ⟨ret_bool (law_eq1 _ _ _ _ _ L2.out), below_end hbel _ _⟩
  · have e0 : dstored (dd : Int) = (dd : Int) := by simp [dstored]; omega
    rw [e0]
    clear e0
    go_wp2_with fail
    refine (euclid_nat n n.natAbs dd 1 (by omega) (by omega) (by omega) L1 _).mono ?_
    rintro e w2 ⟨rfl, nq, hw⟩
    rw [hw]; clear hw
    go_wp2_with fail
    go_ret
    exact ⟨ret_bool (law_eq _ _ _ _ _ _ L2.out), below_end hbel _ _⟩
end Go.Proofs.YbulkaynuDoor
