/-
  SEAT b2490aD: reduced (10).
-/
import Derived.Test.YbulkaynuDoorWalkD
namespace Go.Proofs.YbulkaynuDoor
open Go.RowKit

theorem bcell {W w1 : World} (hb : Below W.heap.size W w1) : (∀ b o, b < W.heap.size → w1.cell? ⟨b, o, none⟩ = W.cell? ⟨b, o, none⟩) ∧ (∀ b o, b < W.heap.size → w1.frozen? ⟨b, o, none⟩ = W.frozen? ⟨b, o, none⟩) :=
  ⟨fun b o h => hb.cell (p := ⟨b, o, none⟩) h, fun b o h => hb.frozen (p := ⟨b, o, none⟩) h⟩

theorem Tab.alloc {w : World} (h : Tab w) (o : Obj) : Tab (w.alloc o) := h.below ((Below.refl _ _).alloc (Nat.le_refl _) _)

theorem below_drewN {B : Nat} {a w : World} (h : Below B a w) (n : Nat) : Below B a (w.drewN n) := h.trans ⟨rfl, rfl, rfl, Nat.le_refl _, fun _ _ => rfl⟩
theorem below_under {w w1 : World} (o : Obj) (n : Nat) (hb : Below ((w.alloc o).drewN n).heap.size ((w.alloc o).drewN n) w1) : Below w.heap.size w w1 :=
  (below_drewN ((Below.refl _ _).alloc (Nat.le_refl _) o) n).trans (hb.mono (by simp))
theorem below_set3 {w w1 : World} (h : Below w.heap.size w w1) (u0 u1 u2 : Value) :
    Below w.heap.size w (((w1.setCell ⟨w.heap.size, 0, none⟩ u0).setCell ⟨w.heap.size, 1, none⟩ u1).setCell ⟨w.heap.size, 2, none⟩ u2) :=
  ((h.setCell (Nat.le_refl _) _).setCell (Nat.le_refl _) _).setCell (Nat.le_refl _) _

theorem tdiv_exact (num : Int) (den g : Nat) (hg : Nat.gcd num.natAbs den = g) : num.tdiv (g : Int) = num / (g : Int) := by
  have h1 : (g : Int) ∣ num := by
    rw [← Int.dvd_natAbs, ← hg]; exact Int.ofNat_dvd.2 (Nat.gcd_dvd_left _ _)
  exact Int.tdiv_eq_ediv_of_dvd h1

theorem den_exact (den g : Nat) (h3 : den < 4611686018427387904) : wrap64 ((den : Int) / (g : Int)) = ((den / g : Nat) : Int) := by
  have : den / g ≤ den := Nat.div_le_self _ _
  rw [← Int.natCast_ediv]
  generalize den / g = x at *
  unfold wrap64
  omega

set_option maxHeartbeats 800000 in
theorem reduced_more (num : Int) (den g : Nat) (h1 : -4611686018427387904 < num) (h2 : num < 4611686018427387904) (h3 : den < 4611686018427387904) (hd : den ≠ 0) (hgl : g ≤ den)
    (Hg : Hid (Nat.gcd num.natAbs den = g)) (hg1 : 1 < g) (w : World) (hT : Tab w) :
    Calls Ybad.prog 10 #[.int .i64 num, .int .i64 den] w fun e w' => e = .returned (.agg #[.int .i64 (num / (g : Int)), .int .i64 (dstored ((den / g : Nat) : Int)), .pointer none]) ∧ Below w.heap.size w w' := by
  have H1 : Hid (num.tdiv (g : Int) = num / (g : Int)) := tdiv_exact num den g Hg.out
  have H2 : Hid (wrap64 ((den : Int) / (g : Int)) = ((den / g : Nat) : Int)) := den_exact den g h3
  go_enter Ybad.func10, Ybad.ntmps10
  go_wp2_with fail
  refine (abs_any num (by omega) (by omega) _).mono ?_
  rintro e w' ⟨rfl, hw⟩
  rw [hw]; clear hw
  go_wp2_with fail
  refine (gcd_any num.natAbs den (by omega) (by omega) hd _ (hT.alloc _)).mono ?_
  rintro e w' ⟨rfl, hw⟩
  rw [hw, Hg.out]; clear hw
  go_wp2_with fail
  go_quiet (fail)
  go_wp2_with fail
  rw [H1.out, H2.out]
  clear H1 H2
  refine (small_any _ _ _).mono ?_
  rintro e w1 ⟨rfl, hb⟩
  obtain ⟨hc, hf⟩ := bcell hb
  have hbase : Below w.heap.size w w1 := below_under _ nq hb
  go_wp2_with fail
  refine bodyPost_ret (v := .agg #[.int .i64 (num / (g : Int)), .int .i64 (dstored ((den / g : Nat) : Int)), .pointer none]) (by simp [results, Ybad.results10, go_sem, hc]) rfl ⟨rfl, ?_⟩
  exact below_set3 hbase _ _ _

set_option maxHeartbeats 800000 in
theorem reduced_one (num : Int) (den : Nat) (h1 : -4611686018427387904 < num) (h2 : num < 4611686018427387904) (h3 : den < 4611686018427387904) (hd : den ≠ 0)
    (Hg : Hid (Nat.gcd num.natAbs den = 1)) (w : World) (hT : Tab w) :
    Calls Ybad.prog 10 #[.int .i64 num, .int .i64 den] w fun e w' => e = .returned (.agg #[.int .i64 num, .int .i64 (dstored (den : Int)), .pointer none]) ∧ Below w.heap.size w w' := by
  go_enter Ybad.func10, Ybad.ntmps10
  go_wp2_with fail
  refine (abs_any num (by omega) (by omega) _).mono ?_
  rintro e w' ⟨rfl, hw⟩
  rw [hw]; clear hw
  go_wp2_with fail
  refine (gcd_any num.natAbs den (by omega) (by omega) hd _ (hT.alloc _)).mono ?_
  rintro e w' ⟨rfl, hw⟩
  rw [hw, Hg.out]; clear hw
  go_wp2_with fail
  refine (small_any _ _ _).mono ?_
  rintro e w1 ⟨rfl, hb⟩
  obtain ⟨hc, hf⟩ := bcell hb
  have hbase : Below w.heap.size w w1 := below_under _ 0 hb
  go_wp2_with fail
  refine bodyPost_ret (v := .agg #[.int .i64 num, .int .i64 (dstored (den : Int)), .pointer none]) (by simp [results, Ybad.results10, go_sem, hc]) rfl ⟨rfl, ?_⟩
  exact below_set3 hbase _ _ _
end Go.Proofs.YbulkaynuDoor
