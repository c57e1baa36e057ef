/-
  SEAT b2493aF: THE LAW's WALK: LawS2493CKind (5), the open clock.
-/
import Derived.Test.YbulkaypkFmtKind
namespace Go.Proofs.YbulkaypkFmt
open Go.RowKit Go.Bufs Plain
open Go.Extern.Stop Go.Stop Go.Extern

theorem run_neq_iface_types {P : Program} {ti : TypeId} {ms : Array (String × TypeId)} (tx ty : TypeId) (vx vy : Value) (hi : P.underlying ti = some (.interface ms)) (hne : tx ≠ ty) (w : World) :
    (binOp .neq ti (.iface tx vx) (.iface ty vy)).run P w = .ok (.bool true) w := by
  have h : ∀ d : Nat, (Op.equalIn (d + 1) ti (.iface tx vx) (.iface ty vy)).run P w = .ok false w := fun d => by simp [Op.equalIn, run_underlying hi, hne]
  simp only [binOp]
  simp [Op.equal, Op.maxDepth, h 9999]

set_option maxRecDepth 100000 in
set_option maxHeartbeats 800000 in
theorem kind_open (F : Interp) (a1 a2 : Addr) (s2 : ByteArray) (ca1 ca2 : Array Value) (t1 t2 : TypeId) (wall lg : Int) (z0 z1 z2 z3 z4 z5 z6 z7 z8 z9 z10 z11 z12 z13 z14 z15 : UInt8) (w : World) (hF : F.answers w.tape) (hg : 2 < w.heap.size)
    (h1 : -9223372036854775808 ≤ wall) (h2 : wall ≤ 9223372036854775807) (l1 : 0 ≤ lg) (l2 : lg ≤ 4294967295)
    (hc1 : w.cell? ⟨1, 0, none⟩ = some (.iface 86 (.pointer (some a1)))) (hc2 : w.cell? ⟨2, 0, none⟩ = some (.iface 86 (.pointer (some a2)))) (hs2 : w.cell? a2 = some (.string s2)) (hne : a1 ≠ a2)
    (hb1 : w.heap[a1.block]? = some (.cells ca1 t1 (0, 0))) (hb2 : w.heap[a2.block]? = some (.cells ca2 t2 (0, 0))) :
    Calls Ybaf.prog 5 #[.bool false, .int .i64 wall, .int .u32 lg, .agg (nodeArr z0 z1 z2 z3 z4 z5 z6 z7 z8 z9 z10 z11 z12 z13 z14 z15)] w fun e w' => e = .returned (.bool true) ∧ Below w.heap.size w w' := by
  have hA1 : (w.alloc (.cells (nodeArr z0 z1 z2 z3 z4 z5 z6 z7 z8 z9 z10 z11 z12 z13 z14 z15) 23)).heap[w.heap.size]? = some (.cells (nodeArr z0 z1 z2 z3 z4 z5 z6 z7 z8 z9 z10 z11 z12 z13 z14 z15) 23 (0, 0)) := heap_alloc_new w _
  have hA2 : ((w.alloc (.cells (nodeArr z0 z1 z2 z3 z4 z5 z6 z7 z8 z9 z10 z11 z12 z13 z14 z15) 23)).alloc (.cells (clockArr false z0 z1 z2 z3 z4 z5 z6 z7 z8 z9 z10 z11 z12 z13 z14 z15) 55)).heap[w.heap.size]? = some (.cells (nodeArr z0 z1 z2 z3 z4 z5 z6 z7 z8 z9 z10 z11 z12 z13 z14 z15) 23 (0, 0)) := (Below.heap_alloc _ _ _ (by simp)).trans hA1
  have hsz : ((w.alloc (.cells (nodeArr z0 z1 z2 z3 z4 z5 z6 z7 z8 z9 z10 z11 z12 z13 z14 z15) 23)).alloc (.cells (clockArr false z0 z1 z2 z3 z4 z5 z6 z7 z8 z9 z10 z11 z12 z13 z14 z15) 55)).heap.size = w.heap.size + 1 + 1 := by simp
  have hB0 : (((w.alloc (.cells (nodeArr z0 z1 z2 z3 z4 z5 z6 z7 z8 z9 z10 z11 z12 z13 z14 z15) 23)).alloc (.cells (clockArr false z0 z1 z2 z3 z4 z5 z6 z7 z8 z9 z10 z11 z12 z13 z14 z15) 55)).alloc (.cells zero26 26)).heap[w.heap.size + 1 + 1]? = some (.cells zero26 26 (0, 0)) := by rw [← hsz]; exact heap_alloc_new _ _
  have hB1 : (((w.alloc (.cells (nodeArr z0 z1 z2 z3 z4 z5 z6 z7 z8 z9 z10 z11 z12 z13 z14 z15) 23)).alloc (.cells (clockArr false z0 z1 z2 z3 z4 z5 z6 z7 z8 z9 z10 z11 z12 z13 z14 z15) 55)).alloc (.cells zero26 26)).setRow (w.heap.size + 1 + 1) (tsArr wall lg z0 z1 z2 z3 z4 z5 z6 z7 z8 z9 z10 z11 z12 z13 z14 z15) = ((w.alloc (.cells (nodeArr z0 z1 z2 z3 z4 z5 z6 z7 z8 z9 z10 z11 z12 z13 z14 z15) 23)).alloc (.cells (clockArr false z0 z1 z2 z3 z4 z5 z6 z7 z8 z9 z10 z11 z12 z13 z14 z15) 55)).alloc (.cells (tsArr wall lg z0 z1 z2 z3 z4 z5 z6 z7 z8 z9 z10 z11 z12 z13 z14 z15) 26) := by rw [← hsz]; exact setRow_new _ _ _ _
  have hB2 : (((w.alloc (.cells (nodeArr z0 z1 z2 z3 z4 z5 z6 z7 z8 z9 z10 z11 z12 z13 z14 z15) 23)).alloc (.cells (clockArr false z0 z1 z2 z3 z4 z5 z6 z7 z8 z9 z10 z11 z12 z13 z14 z15) 55)).alloc (.cells (tsArr wall lg z0 z1 z2 z3 z4 z5 z6 z7 z8 z9 z10 z11 z12 z13 z14 z15) 26)).heap[w.heap.size + 1 + 1]? = some (.cells (tsArr wall lg z0 z1 z2 z3 z4 z5 z6 z7 z8 z9 z10 z11 z12 z13 z14 z15) 26 (0, 0)) := by rw [← hsz]; exact heap_alloc_new _ _
  go_enter Ybaf.func5, Ybaf.ntmps5
  go_wp2_with (first
    | ((with_reducible refine wpList_load_row rfl 23 _ rfl w.heap.size ?_ 23 (nodeArr z0 z1 z2 z3 z4 z5 z6 z7 z8 z9 z10 z11 z12 z13 z14 z15) (0, 0) _ ?_ Ybaf.underlying23 ?_ ?_ ?_); (exact rfl); (first | exact hA1 | exact hA2); (exact rfl); kernel_rfl)
    | ((with_reducible refine wpList_buildTo rfl 55 _ rfl _ rfl (clockArr false z0 z1 z2 z3 z4 z5 z6 z7 z8 z9 z10 z11 z12 z13 z14 z15) ?_ ?_); kernel_rfl)
    | ((with_reducible refine wpList_buildTo rfl 26 _ rfl _ rfl (tsArr wall lg z0 z1 z2 z3 z4 z5 z6 z7 z8 z9 z10 z11 z12 z13 z14 z15) ?_ ?_); kernel_rfl)
    | ((with_reducible refine wpList_store_rowTo rfl 26 _ _ rfl rfl (w.heap.size + 1 + 1) (tsArr wall lg z0 z1 z2 z3 z4 z5 z6 z7 z8 z9 z10 z11 z12 z13 z14 z15) ?_ ?_ 26 zero26 ?_ ?_ ?_ ?_ ?_); (exact rfl); (exact rfl); (exact hB0); kernel_rfl; kernel_rfl; kernel_rfl; rw [hB1])
    | ((with_reducible refine wpList_load_row rfl 26 _ rfl (w.heap.size + 1 + 1) ?_ 26 (tsArr wall lg z0 z1 z2 z3 z4 z5 z6 z7 z8 z9 z10 z11 z12 z13 z14 z15) (0, 0) _ ?_ Ybaf.underlying26 ?_ ?_ ?_); (exact rfl); (exact hB2); (exact rfl); kernel_rfl))
  have hB3 := below_three w (.cells (nodeArr z0 z1 z2 z3 z4 z5 z6 z7 z8 z9 z10 z11 z12 z13 z14 z15) 23) (.cells (clockArr false z0 z1 z2 z3 z4 z5 z6 z7 z8 z9 z10 z11 z12 z13 z14 z15) 55) (.cells (tsArr wall lg z0 z1 z2 z3 z4 z5 z6 z7 z8 z9 z10 z11 z12 z13 z14 z15) 26)
  have hl1 : a1.block < w.heap.size := (Array.getElem?_eq_some_iff.1 hb1).1
  have hl2 : a2.block < w.heap.size := (Array.getElem?_eq_some_iff.1 hb2).1
  refine (exhausted_open F (w.heap.size + 1) a2 s2 wall lg z0 z1 z2 z3 z4 z5 z6 z7 z8 z9 z10 z11 z12 z13 z14 z15 _ ?_ h1 h2 l1 l2 ?_ ?_ ?_ ?_ ?_).mono ?_
  · exact hF
  · simp
  · simp
  · exact flag_three w _ _ false z0 z1 z2 z3 z4 z5 z6 z7 z8 z9 z10 z11 z12 z13 z14 z15
  · exact (hB3.cell (by show 2 < _; omega)).trans hc2
  · exact (hB3.cell hl2).trans hs2
  rintro e w4 ⟨N, rfl, hB4, hN⟩
  have hB : Below w.heap.size w w4 := hB3.trans (hB4.mono hB3.size)
  have hfl : w4.cell? ⟨w.heap.size + 1, 170, none⟩ = some (.bool false) := (hB4.cell (by simp)).trans (flag_three w _ _ false z0 z1 z2 z3 z4 z5 z6 z7 z8 z9 z10 z11 z12 z13 z14 z15)
  have h14 : w4.cell? ⟨1, 0, none⟩ = some (.iface 86 (.pointer (some a1))) := (hB.cell (by show 1 < _; omega)).trans hc1
  have h24 : w4.cell? ⟨2, 0, none⟩ = some (.iface 86 (.pointer (some a2))) := (hB.cell (by show 2 < _; omega)).trans hc2
  have g1 : Hid (w4.heap[a1.block]? = some (.cells ca1 t1 (0, 0))) := (hB.block _ hl1).trans hb1
  have g2 : Hid (w4.heap[a2.block]? = some (.cells ca2 t2 (0, 0))) := (hB.block _ hl2).trans hb2
  have hnt := run_neq_iface_types (P := Ybaf.prog) 71 86 (.pointer (some ⟨N, 0, none⟩)) (.pointer (some a2)) Ybaf.underlying28 (by decide) w4
  have HN : Hid (w4.cell? ⟨N, 0 + 1, none⟩ = some (.iface 86 (.pointer (some a2)))) := hN
  clear hB3 hB4 hA1 hA2 hB0 hB1 hB2 hsz hb1 hb2 hc1 hc2 hN
  go_wp2_with fail
  refine (is_wrap_same N 0 a2 _ HN.out).mono ?_
  rintro e w' ⟨rfl, hw⟩
  rw [hw]; clear hw
  go_wp2_with fail
  refine (is_wrap_other N 0 a1 a2 ca2 ca1 t2 t1 _ HN.out (fun e => hne e.symm) g2.out g1.out).mono ?_
  rintro e w' ⟨rfl, hw⟩
  rw [hw]; clear hw
  go_wp2_with fail
  go_ret
  exact ⟨rfl, hB⟩
end Go.Proofs.YbulkaypkFmt
