/-
  SEAT b2493aF: THE LAW's WALK: LawS2493CKind (5), the closed clock.
-/
import Derived.Test.YbulkaypkFmtKind0
namespace Go.Proofs.YbulkaypkFmt
open Go.RowKit Go.Bufs Plain
open Go.Extern.Stop Go.Stop Go.Extern

abbrev zero26 : Array Value := #[.int .i64 0, .int .u32 0, .int .u8 0, .int .u8 0, .int .u8 0, .int .u8 0, .int .u8 0, .int .u8 0, .int .u8 0, .int .u8 0, .int .u8 0, .int .u8 0, .int .u8 0, .int .u8 0, .int .u8 0, .int .u8 0, .int .u8 0, .int .u8 0]

theorem below_three (w : World) (a b c : Obj) : Below w.heap.size w (((w.alloc a).alloc b).alloc c) := (below_two w a b).alloc (by simp; omega) c

theorem flag_three (w : World) (a c : Obj) (f : Bool) (z0 z1 z2 z3 z4 z5 z6 z7 z8 z9 z10 z11 z12 z13 z14 z15 : UInt8) : (((w.alloc a).alloc (.cells (clockArr f z0 z1 z2 z3 z4 z5 z6 z7 z8 z9 z10 z11 z12 z13 z14 z15) 55)).alloc c).cell? ⟨w.heap.size + 1, 170, none⟩ = some (.bool f) := by
  rw [World.cell?_alloc_past _ _ _ (by simp)]
  have := clock_flag f z0 z1 z2 z3 z4 z5 z6 z7 z8 z9 z10 z11 z12 z13 z14 z15 (w.alloc a)
  rwa [show (w.alloc a).heap.size = w.heap.size + 1 by simp] at this

set_option maxRecDepth 100000 in
set_option maxHeartbeats 400000 in
theorem kind_closed (a1 a2 : Addr) (ca1 ca2 : Array Value) (t1 t2 : TypeId) (wall lg : Int) (z0 z1 z2 z3 z4 z5 z6 z7 z8 z9 z10 z11 z12 z13 z14 z15 : UInt8) (w : World) (hg : 2 < w.heap.size)
    (hc1 : w.cell? ⟨1, 0, none⟩ = some (.iface 86 (.pointer (some a1)))) (hc2 : w.cell? ⟨2, 0, none⟩ = some (.iface 86 (.pointer (some a2)))) (hne : a1 ≠ a2)
    (hb1 : w.heap[a1.block]? = some (.cells ca1 t1 (0, 0))) (hb2 : w.heap[a2.block]? = some (.cells ca2 t2 (0, 0))) :
    Calls Ybaf.prog 5 #[.bool true, .int .i64 wall, .int .u32 lg, .agg (nodeArr z0 z1 z2 z3 z4 z5 z6 z7 z8 z9 z10 z11 z12 z13 z14 z15)] w fun e w' => e = .returned (.bool true) ∧ Below w.heap.size w w' := by
  have hA1 : (w.alloc (.cells (nodeArr z0 z1 z2 z3 z4 z5 z6 z7 z8 z9 z10 z11 z12 z13 z14 z15) 23)).heap[w.heap.size]? = some (.cells (nodeArr z0 z1 z2 z3 z4 z5 z6 z7 z8 z9 z10 z11 z12 z13 z14 z15) 23 (0, 0)) := heap_alloc_new w _
  have hA2 : ((w.alloc (.cells (nodeArr z0 z1 z2 z3 z4 z5 z6 z7 z8 z9 z10 z11 z12 z13 z14 z15) 23)).alloc (.cells (clockArr true z0 z1 z2 z3 z4 z5 z6 z7 z8 z9 z10 z11 z12 z13 z14 z15) 55)).heap[w.heap.size]? = some (.cells (nodeArr z0 z1 z2 z3 z4 z5 z6 z7 z8 z9 z10 z11 z12 z13 z14 z15) 23 (0, 0)) := (Below.heap_alloc _ _ _ (by simp)).trans hA1
  have hsz : ((w.alloc (.cells (nodeArr z0 z1 z2 z3 z4 z5 z6 z7 z8 z9 z10 z11 z12 z13 z14 z15) 23)).alloc (.cells (clockArr true z0 z1 z2 z3 z4 z5 z6 z7 z8 z9 z10 z11 z12 z13 z14 z15) 55)).heap.size = w.heap.size + 1 + 1 := by simp
  have hB0 : (((w.alloc (.cells (nodeArr z0 z1 z2 z3 z4 z5 z6 z7 z8 z9 z10 z11 z12 z13 z14 z15) 23)).alloc (.cells (clockArr true z0 z1 z2 z3 z4 z5 z6 z7 z8 z9 z10 z11 z12 z13 z14 z15) 55)).alloc (.cells zero26 26)).heap[w.heap.size + 1 + 1]? = some (.cells zero26 26 (0, 0)) := by rw [← hsz]; exact heap_alloc_new _ _
  have hB1 : (((w.alloc (.cells (nodeArr z0 z1 z2 z3 z4 z5 z6 z7 z8 z9 z10 z11 z12 z13 z14 z15) 23)).alloc (.cells (clockArr true z0 z1 z2 z3 z4 z5 z6 z7 z8 z9 z10 z11 z12 z13 z14 z15) 55)).alloc (.cells zero26 26)).setRow (w.heap.size + 1 + 1) (tsArr wall lg z0 z1 z2 z3 z4 z5 z6 z7 z8 z9 z10 z11 z12 z13 z14 z15) = ((w.alloc (.cells (nodeArr z0 z1 z2 z3 z4 z5 z6 z7 z8 z9 z10 z11 z12 z13 z14 z15) 23)).alloc (.cells (clockArr true z0 z1 z2 z3 z4 z5 z6 z7 z8 z9 z10 z11 z12 z13 z14 z15) 55)).alloc (.cells (tsArr wall lg z0 z1 z2 z3 z4 z5 z6 z7 z8 z9 z10 z11 z12 z13 z14 z15) 26) := by rw [← hsz]; exact setRow_new _ _ _ _
  have hB2 : (((w.alloc (.cells (nodeArr z0 z1 z2 z3 z4 z5 z6 z7 z8 z9 z10 z11 z12 z13 z14 z15) 23)).alloc (.cells (clockArr true z0 z1 z2 z3 z4 z5 z6 z7 z8 z9 z10 z11 z12 z13 z14 z15) 55)).alloc (.cells (tsArr wall lg z0 z1 z2 z3 z4 z5 z6 z7 z8 z9 z10 z11 z12 z13 z14 z15) 26)).heap[w.heap.size + 1 + 1]? = some (.cells (tsArr wall lg z0 z1 z2 z3 z4 z5 z6 z7 z8 z9 z10 z11 z12 z13 z14 z15) 26 (0, 0)) := by rw [← hsz]; exact heap_alloc_new _ _
  go_enter Ybaf.func5, Ybaf.ntmps5
  go_wp2_with (first
    | ((with_reducible refine wpList_load_row rfl 23 _ rfl w.heap.size ?_ 23 (nodeArr z0 z1 z2 z3 z4 z5 z6 z7 z8 z9 z10 z11 z12 z13 z14 z15) (0, 0) _ ?_ Ybaf.underlying23 ?_ ?_ ?_); (exact rfl); (first | exact hA1 | exact hA2); (exact rfl); kernel_rfl)
    | ((with_reducible refine wpList_buildTo rfl 55 _ rfl _ rfl (clockArr true z0 z1 z2 z3 z4 z5 z6 z7 z8 z9 z10 z11 z12 z13 z14 z15) ?_ ?_); kernel_rfl)
    | ((with_reducible refine wpList_buildTo rfl 26 _ rfl _ rfl (tsArr wall lg z0 z1 z2 z3 z4 z5 z6 z7 z8 z9 z10 z11 z12 z13 z14 z15) ?_ ?_); kernel_rfl)
    | ((with_reducible refine wpList_store_rowTo rfl 26 _ _ rfl rfl (w.heap.size + 1 + 1) (tsArr wall lg z0 z1 z2 z3 z4 z5 z6 z7 z8 z9 z10 z11 z12 z13 z14 z15) ?_ ?_ 26 zero26 ?_ ?_ ?_ ?_ ?_); (exact rfl); (exact rfl); (exact hB0); kernel_rfl; kernel_rfl; kernel_rfl; rw [hB1])
    | ((with_reducible refine wpList_load_row rfl 26 _ rfl (w.heap.size + 1 + 1) ?_ 26 (tsArr wall lg z0 z1 z2 z3 z4 z5 z6 z7 z8 z9 z10 z11 z12 z13 z14 z15) (0, 0) _ ?_ Ybaf.underlying26 ?_ ?_ ?_); (exact rfl); (exact hB2); (exact rfl); kernel_rfl))
  have hB3 := below_three w (.cells (nodeArr z0 z1 z2 z3 z4 z5 z6 z7 z8 z9 z10 z11 z12 z13 z14 z15) 23) (.cells (clockArr true z0 z1 z2 z3 z4 z5 z6 z7 z8 z9 z10 z11 z12 z13 z14 z15) 55) (.cells (tsArr wall lg z0 z1 z2 z3 z4 z5 z6 z7 z8 z9 z10 z11 z12 z13 z14 z15) 26)
  refine (exhausted_closed (w.heap.size + 1) a1 wall lg z0 z1 z2 z3 z4 z5 z6 z7 z8 z9 z10 z11 z12 z13 z14 z15 _ ?_ ?_ ?_ ?_).mono ?_
  · simp
  · simp
  · exact flag_three w _ _ true z0 z1 z2 z3 z4 z5 z6 z7 z8 z9 z10 z11 z12 z13 z14 z15
  · exact (hB3.cell (by show 1 < _; omega)).trans hc1
  rintro e w4 ⟨rfl, hB4⟩
  have hB : Below w.heap.size w w4 := hB3.trans (hB4.mono hB3.size)
  have hfl : w4.cell? ⟨w.heap.size + 1, 170, none⟩ = some (.bool true) := (hB4.cell (by simp)).trans (flag_three w _ _ true z0 z1 z2 z3 z4 z5 z6 z7 z8 z9 z10 z11 z12 z13 z14 z15)
  have h14 : w4.cell? ⟨1, 0, none⟩ = some (.iface 86 (.pointer (some a1))) := (hB.cell (by show 1 < _; omega)).trans hc1
  have h24 : w4.cell? ⟨2, 0, none⟩ = some (.iface 86 (.pointer (some a2))) := (hB.cell (by show 2 < _; omega)).trans hc2
  have hl1 : a1.block < w.heap.size := (Array.getElem?_eq_some_iff.1 hb1).1
  have hl2 : a2.block < w.heap.size := (Array.getElem?_eq_some_iff.1 hb2).1
  have g1 : Hid (w4.heap[a1.block]? = some (.cells ca1 t1 (0, 0))) := (hB.block _ hl1).trans hb1
  have g2 : Hid (w4.heap[a2.block]? = some (.cells ca2 t2 (0, 0))) := (hB.block _ hl2).trans hb2
  obtain ⟨i, hi, hcmp⟩ := Option.map_eq_some_iff.1 Ybaf.isComp
  obtain ⟨j, hj, hjs⟩ := Option.map_eq_some_iff.1 Ybaf.isSize
  have heq := run_eql_iface_ptr_same (P := Ybaf.prog) w4 a1 Ybaf.underlying28 Ybaf.underlying86 hi hcmp hj
  clear hB3 hB4 hA1 hA2 hB0 hB1 hB2 hsz hb1 hb2 hc1 hc2
  go_wp2_with (go_at_call 7; refine (is_other a1 a2 ca1 ca2 t1 t2 _ hne g1.out g2.out).mono ?_; rintro e w' ⟨rfl, hw⟩; rw [hw]; clear hw)
  go_ret
  exact ⟨rfl, hB⟩
end Go.Proofs.YbulkaypkFmt
