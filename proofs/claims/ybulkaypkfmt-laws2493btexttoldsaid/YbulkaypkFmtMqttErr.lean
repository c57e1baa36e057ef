/-
  SEAT b2493aF: checkWall (11) and FormatMQTT (6) at a wall out of range: the error wraps ErrInvalidTimestamp.
-/
import Derived.Test.YbulkaypkFmtMqtt
import Derived.Test.YbulkaypkFmtErrorf2
namespace Go.Proofs.YbulkaypkFmt
open Go.RowKit Go.Bufs Plain
open Go.Extern.Stop Go.Stop Go.Extern

theorem below_after {w W w' : World} (h0 : Below w.heap.size w W) (h : Below W.heap.size W w') : Below w.heap.size w w' := h0.trans (h.mono h0.size)
theorem below_one (w : World) (a : Obj) : Below w.heap.size w (w.alloc a) := (Below.refl _ _).alloc (Nat.le_refl _) _

set_option maxRecDepth 100000 in
set_option maxHeartbeats 1600000 in
theorem checkWall_neg (F : Interp) (a : Addr) (s : ByteArray) (wall lg : Int) (z0 z1 z2 z3 z4 z5 z6 z7 z8 z9 z10 z11 z12 z13 z14 z15 : UInt8) (w : World) (hF : F.answers w.tape) (h : wall < 0) (hg : 0 < w.heap.size)
    (hc : w.cell? ⟨0, 0, none⟩ = some (.iface 86 (.pointer (some a)))) (hs : w.cell? a = some (.string s)) :
    Calls Ybaf.prog 11 #[.agg (tsArr wall lg z0 z1 z2 z3 z4 z5 z6 z7 z8 z9 z10 z11 z12 z13 z14 z15)] w fun e w' =>
      ∃ N, e = .returned (.iface 71 (.pointer (some ⟨N, 0, none⟩))) ∧ Below w.heap.size w w' ∧ w'.cell? ⟨N, 0 + 1, none⟩ = some (.iface 86 (.pointer (some a))) := by
  have ha : a.block < w.heap.size := World.block_lt_of_cell? _ _ hs
  unfold tsArr
  go_enter Ybaf.func11, Ybaf.ntmps11
  go_wp2_with fail
  refine (errorf_below F a s (w.heap.size + 1) wall _ ?_ ?_ ?_ ?_).mono ?_
  · exact hF
  · simp
  · simp
  · exact ((below_two w _ _).cell ha).trans hs
  rintro e w' ⟨N, rfl, hb, hN⟩
  have hB := below_after (below_two w _ _) hb
  go_wp2_with fail
  go_ret
  exact ⟨N, rfl, hB, hN⟩

set_option maxRecDepth 100000 in
set_option maxHeartbeats 1600000 in
theorem format_neg (F : Interp) (a : Addr) (s : ByteArray) (wall lg : Int) (z0 z1 z2 z3 z4 z5 z6 z7 z8 z9 z10 z11 z12 z13 z14 z15 : UInt8) (w : World) (hF : F.answers w.tape) (h : wall < 0) (hg : 0 < w.heap.size)
    (hc : w.cell? ⟨0, 0, none⟩ = some (.iface 86 (.pointer (some a)))) (hs : w.cell? a = some (.string s)) :
    Calls Ybaf.prog 6 #[.agg (tsArr wall lg z0 z1 z2 z3 z4 z5 z6 z7 z8 z9 z10 z11 z12 z13 z14 z15)] w fun e w' =>
      ∃ N, e = .returned (.tuple #[.string ⟨#[]⟩, .iface 71 (.pointer (some ⟨N, 0, none⟩))]) ∧ Below w.heap.size w w' ∧ w'.cell? ⟨N, 0 + 1, none⟩ = some (.iface 86 (.pointer (some a))) := by
  have ha : a.block < w.heap.size := World.block_lt_of_cell? _ _ hs
  have hA1 : (w.alloc (.cells (tsArr wall lg z0 z1 z2 z3 z4 z5 z6 z7 z8 z9 z10 z11 z12 z13 z14 z15) 26)).heap[w.heap.size]? = some (.cells (tsArr wall lg z0 z1 z2 z3 z4 z5 z6 z7 z8 z9 z10 z11 z12 z13 z14 z15) 26 (0, 0)) := heap_alloc_new w _
  go_enter Ybaf.func6, Ybaf.ntmps6
  go_wp2_with (first
    | ((with_reducible refine wpList_load_row rfl 26 _ rfl w.heap.size ?_ 26 (tsArr wall lg z0 z1 z2 z3 z4 z5 z6 z7 z8 z9 z10 z11 z12 z13 z14 z15) (0, 0) _ ?_ Ybaf.underlying26 ?_ ?_ ?_); (exact rfl); (exact hA1); (exact rfl); kernel_rfl))
  have hb0 := below_one w (.cells (tsArr wall lg z0 z1 z2 z3 z4 z5 z6 z7 z8 z9 z10 z11 z12 z13 z14 z15) 26)
  refine (checkWall_neg F a s wall lg z0 z1 z2 z3 z4 z5 z6 z7 z8 z9 z10 z11 z12 z13 z14 z15 _ ?_ h ?_ ?_ ?_).mono ?_
  · exact hF
  · simp
  · exact (hb0.cell (p := ⟨0, 0, none⟩) hg).trans hc
  · exact (hb0.cell ha).trans hs
  rintro e w1 ⟨N, rfl, hb, hN⟩
  have hB := below_after hb0 hb
  clear hA1 hb0
  go_wp2_with fail
  go_ret2
  exact ⟨N, rfl, hB, hN⟩

set_option maxRecDepth 100000 in
set_option maxHeartbeats 1600000 in
theorem format_past (F : Interp) (a : Addr) (s : ByteArray) (wall lg : Int) (z0 z1 z2 z3 z4 z5 z6 z7 z8 z9 z10 z11 z12 z13 z14 z15 : UInt8) (w : World) (hF : F.answers w.tape) (h : 9223372036854000000 < wall) (hg : 0 < w.heap.size)
    (hc : w.cell? ⟨0, 0, none⟩ = some (.iface 86 (.pointer (some a)))) (hs : w.cell? a = some (.string s)) :
    Calls Ybaf.prog 6 #[.agg (tsArr wall lg z0 z1 z2 z3 z4 z5 z6 z7 z8 z9 z10 z11 z12 z13 z14 z15)] w fun e w' =>
      ∃ N, e = .returned (.tuple #[.string ⟨#[]⟩, .iface 71 (.pointer (some ⟨N, 0, none⟩))]) ∧ Below w.heap.size w w' ∧ w'.cell? ⟨N, 0 + 1, none⟩ = some (.iface 86 (.pointer (some a))) := by
  have ha : a.block < w.heap.size := World.block_lt_of_cell? _ _ hs
  have hA1 : (w.alloc (.cells (tsArr wall lg z0 z1 z2 z3 z4 z5 z6 z7 z8 z9 z10 z11 z12 z13 z14 z15) 26)).heap[w.heap.size]? = some (.cells (tsArr wall lg z0 z1 z2 z3 z4 z5 z6 z7 z8 z9 z10 z11 z12 z13 z14 z15) 26 (0, 0)) := heap_alloc_new w _
  go_enter Ybaf.func6, Ybaf.ntmps6
  go_wp2_with (first
    | ((with_reducible refine wpList_load_row rfl 26 _ rfl w.heap.size ?_ 26 (tsArr wall lg z0 z1 z2 z3 z4 z5 z6 z7 z8 z9 z10 z11 z12 z13 z14 z15) (0, 0) _ ?_ Ybaf.underlying26 ?_ ?_ ?_); (exact rfl); (exact hA1); (exact rfl); kernel_rfl))
  have hb0 := below_one w (.cells (tsArr wall lg z0 z1 z2 z3 z4 z5 z6 z7 z8 z9 z10 z11 z12 z13 z14 z15) 26)
  refine (checkWall_ok wall lg z0 z1 z2 z3 z4 z5 z6 z7 z8 z9 z10 z11 z12 z13 z14 z15 _ (by omega)).mono ?_
  rintro e w1 ⟨rfl, hb1⟩
  obtain ⟨c0, _, _⟩ := ts_get w _ _ _ _ _ _ _ _ _ _ _ _ _ _ _ _ _ _ w1 hb1
  have hb := below_after hb0 hb1
  have hN : w.heap.size < w1.heap.size := by have := hb1.size; simp at this; omega
  have hg1 : 0 < w1.heap.size := by omega
  have hc1 : w1.cell? ⟨0, 0, none⟩ = some (.iface 86 (.pointer (some a))) := (hb.cell (p := ⟨0, 0, none⟩) hg).trans hc
  have hs1 : w1.cell? a = some (.string s) := (hb.cell ha).trans hs
  have hF1 : F.answers w1.tape := by rw [hb.tape]; exact hF
  clear hA1 hb0 hb1 hc hs
  go_wp2_with fail
  refine (errorf_past F a s w1.heap.size wall 9223372036854000000 _ ?_ ?_ ?_ ?_ ?_).mono ?_
  · exact hF1
  · simp
  · simp
  · simp
  · exact ((below_one w1 _).cell (by omega)).trans hs1
  rintro e w2 ⟨N, rfl, hb2, hN2⟩
  have hB := below_after hb (below_after (below_one w1 _) hb2)
  go_wp2_with fail
  go_ret2
  exact ⟨N, rfl, hB, hN2⟩
end Go.Proofs.YbulkaypkFmt
