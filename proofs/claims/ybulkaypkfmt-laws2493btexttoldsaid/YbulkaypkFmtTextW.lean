/-
  SEAT b2493aF: LawS2493BText (3): the walk.
-/
import Derived.Test.YbulkaypkFmtMqttErr
import Derived.Test.YbulkaypkFmtZuuid
import Derived.Test.YbulkaypkFmtKind
namespace Go.Proofs.YbulkaypkFmt
open Go.RowKit Go.Bufs Plain
open Go.Extern.Stop Go.Stop Go.Extern

set_option maxRecDepth 100000 in
set_option maxHeartbeats 1600000 in
theorem text_neg (F : Interp) (a : Addr) (s : ByteArray) (wall lg : Int) (z0 z1 z2 z3 z4 z5 z6 z7 z8 z9 z10 z11 z12 z13 z14 z15 : UInt8) (w : World) (hF : F.answers w.tape) (h : wall < 0) (hg : 0 < w.heap.size)
    (hc : w.cell? ⟨0, 0, none⟩ = some (.iface 86 (.pointer (some a)))) (hs : w.cell? a = some (.string s)) :
    Calls Ybaf.prog 3 #[.int .i64 wall, .int .u32 lg, .agg (nodeArr z0 z1 z2 z3 z4 z5 z6 z7 z8 z9 z10 z11 z12 z13 z14 z15)] w fun e w' => e = .returned (.bool true) ∧ Below w.heap.size w w' := by
  have ha : a.block < w.heap.size := World.block_lt_of_cell? _ _ hs
  have hA1 : (w.alloc (.cells (nodeArr z0 z1 z2 z3 z4 z5 z6 z7 z8 z9 z10 z11 z12 z13 z14 z15) 23)).heap[w.heap.size]? = some (.cells (nodeArr z0 z1 z2 z3 z4 z5 z6 z7 z8 z9 z10 z11 z12 z13 z14 z15) 23 (0, 0)) := heap_alloc_new w _
  have hsz : (w.alloc (.cells (nodeArr z0 z1 z2 z3 z4 z5 z6 z7 z8 z9 z10 z11 z12 z13 z14 z15) 23)).heap.size = w.heap.size + 1 := by simp
  have hB0 : ((w.alloc (.cells (nodeArr z0 z1 z2 z3 z4 z5 z6 z7 z8 z9 z10 z11 z12 z13 z14 z15) 23)).alloc (.cells zero26 26)).heap[w.heap.size + 1]? = some (.cells zero26 26 (0, 0)) := by rw [← hsz]; exact heap_alloc_new _ _
  have hB1 : ((w.alloc (.cells (nodeArr z0 z1 z2 z3 z4 z5 z6 z7 z8 z9 z10 z11 z12 z13 z14 z15) 23)).alloc (.cells zero26 26)).setRow (w.heap.size + 1) (tsArr wall lg z0 z1 z2 z3 z4 z5 z6 z7 z8 z9 z10 z11 z12 z13 z14 z15) = (w.alloc (.cells (nodeArr z0 z1 z2 z3 z4 z5 z6 z7 z8 z9 z10 z11 z12 z13 z14 z15) 23)).alloc (.cells (tsArr wall lg z0 z1 z2 z3 z4 z5 z6 z7 z8 z9 z10 z11 z12 z13 z14 z15) 26) := by rw [← hsz]; exact setRow_new _ _ _ _
  have hB2 : ((w.alloc (.cells (nodeArr z0 z1 z2 z3 z4 z5 z6 z7 z8 z9 z10 z11 z12 z13 z14 z15) 23)).alloc (.cells (tsArr wall lg z0 z1 z2 z3 z4 z5 z6 z7 z8 z9 z10 z11 z12 z13 z14 z15) 26)).heap[w.heap.size + 1]? = some (.cells (tsArr wall lg z0 z1 z2 z3 z4 z5 z6 z7 z8 z9 z10 z11 z12 z13 z14 z15) 26 (0, 0)) := by rw [← hsz]; exact heap_alloc_new _ _
  go_enter Ybaf.func3, Ybaf.ntmps3
  go_wp2_with (first
    | ((with_reducible refine wpList_load_row rfl 23 _ rfl w.heap.size ?_ 23 (nodeArr z0 z1 z2 z3 z4 z5 z6 z7 z8 z9 z10 z11 z12 z13 z14 z15) (0, 0) _ ?_ Ybaf.underlying23 ?_ ?_ ?_); (exact rfl); (exact hA1); (exact rfl); kernel_rfl)
    | ((with_reducible refine wpList_buildTo rfl 26 _ rfl _ rfl (tsArr wall lg z0 z1 z2 z3 z4 z5 z6 z7 z8 z9 z10 z11 z12 z13 z14 z15) ?_ ?_); kernel_rfl)
    | ((with_reducible refine wpList_store_rowTo rfl 26 _ _ rfl rfl (w.heap.size + 1) (tsArr wall lg z0 z1 z2 z3 z4 z5 z6 z7 z8 z9 z10 z11 z12 z13 z14 z15) ?_ ?_ 26 zero26 ?_ ?_ ?_ ?_ ?_); (exact rfl); (exact rfl); (exact hB0); kernel_rfl; kernel_rfl; kernel_rfl; rw [hB1])
    | ((with_reducible refine wpList_load_row rfl 26 _ rfl (w.heap.size + 1) ?_ 26 (tsArr wall lg z0 z1 z2 z3 z4 z5 z6 z7 z8 z9 z10 z11 z12 z13 z14 z15) (0, 0) _ ?_ Ybaf.underlying26 ?_ ?_ ?_); (exact rfl); (exact hB2); (exact rfl); kernel_rfl))
  have hb0 := below_two w (.cells (nodeArr z0 z1 z2 z3 z4 z5 z6 z7 z8 z9 z10 z11 z12 z13 z14 z15) 23) (.cells (tsArr wall lg z0 z1 z2 z3 z4 z5 z6 z7 z8 z9 z10 z11 z12 z13 z14 z15) 26)
  refine (format_neg F a s wall lg z0 z1 z2 z3 z4 z5 z6 z7 z8 z9 z10 z11 z12 z13 z14 z15 _ ?_ h ?_ ?_ ?_).mono ?_
  · exact hF
  · simp
  · exact (hb0.cell (p := ⟨0, 0, none⟩) hg).trans hc
  · exact (hb0.cell ha).trans hs
  rintro e w1 ⟨N, rfl, hb1, hN⟩
  have hB := below_after hb0 hb1
  have hc1 : w1.cell? ⟨0, 0, none⟩ = some (.iface 86 (.pointer (some a))) := (hB.cell (p := ⟨0, 0, none⟩) hg).trans hc
  have HN : Hid (w1.cell? ⟨N, 0 + 1, none⟩ = some (.iface 86 (.pointer (some a)))) := hN
  clear hA1 hsz hB0 hB1 hB2 hb0 hb1 hN hc
  go_wp2_with fail
  refine (is_wrap_same N 0 a _ HN.out).mono ?_
  rintro e w' ⟨rfl, hw⟩
  rw [hw]; clear hw
  go_wp2_with fail
  go_ret
  exact ⟨rfl, hB⟩

set_option maxRecDepth 100000 in
set_option maxHeartbeats 1600000 in
theorem text_past (F : Interp) (a : Addr) (s : ByteArray) (wall lg : Int) (z0 z1 z2 z3 z4 z5 z6 z7 z8 z9 z10 z11 z12 z13 z14 z15 : UInt8) (w : World) (hF : F.answers w.tape) (h : 9223372036854000000 < wall) (hg : 0 < w.heap.size)
    (hc : w.cell? ⟨0, 0, none⟩ = some (.iface 86 (.pointer (some a)))) (hs : w.cell? a = some (.string s)) :
    Calls Ybaf.prog 3 #[.int .i64 wall, .int .u32 lg, .agg (nodeArr z0 z1 z2 z3 z4 z5 z6 z7 z8 z9 z10 z11 z12 z13 z14 z15)] w fun e w' => e = .returned (.bool true) ∧ Below w.heap.size w w' := by
  have ha : a.block < w.heap.size := World.block_lt_of_cell? _ _ hs
  have hA1 : (w.alloc (.cells (nodeArr z0 z1 z2 z3 z4 z5 z6 z7 z8 z9 z10 z11 z12 z13 z14 z15) 23)).heap[w.heap.size]? = some (.cells (nodeArr z0 z1 z2 z3 z4 z5 z6 z7 z8 z9 z10 z11 z12 z13 z14 z15) 23 (0, 0)) := heap_alloc_new w _
  have hsz : (w.alloc (.cells (nodeArr z0 z1 z2 z3 z4 z5 z6 z7 z8 z9 z10 z11 z12 z13 z14 z15) 23)).heap.size = w.heap.size + 1 := by simp
  have hB0 : ((w.alloc (.cells (nodeArr z0 z1 z2 z3 z4 z5 z6 z7 z8 z9 z10 z11 z12 z13 z14 z15) 23)).alloc (.cells zero26 26)).heap[w.heap.size + 1]? = some (.cells zero26 26 (0, 0)) := by rw [← hsz]; exact heap_alloc_new _ _
  have hB1 : ((w.alloc (.cells (nodeArr z0 z1 z2 z3 z4 z5 z6 z7 z8 z9 z10 z11 z12 z13 z14 z15) 23)).alloc (.cells zero26 26)).setRow (w.heap.size + 1) (tsArr wall lg z0 z1 z2 z3 z4 z5 z6 z7 z8 z9 z10 z11 z12 z13 z14 z15) = (w.alloc (.cells (nodeArr z0 z1 z2 z3 z4 z5 z6 z7 z8 z9 z10 z11 z12 z13 z14 z15) 23)).alloc (.cells (tsArr wall lg z0 z1 z2 z3 z4 z5 z6 z7 z8 z9 z10 z11 z12 z13 z14 z15) 26) := by rw [← hsz]; exact setRow_new _ _ _ _
  have hB2 : ((w.alloc (.cells (nodeArr z0 z1 z2 z3 z4 z5 z6 z7 z8 z9 z10 z11 z12 z13 z14 z15) 23)).alloc (.cells (tsArr wall lg z0 z1 z2 z3 z4 z5 z6 z7 z8 z9 z10 z11 z12 z13 z14 z15) 26)).heap[w.heap.size + 1]? = some (.cells (tsArr wall lg z0 z1 z2 z3 z4 z5 z6 z7 z8 z9 z10 z11 z12 z13 z14 z15) 26 (0, 0)) := by rw [← hsz]; exact heap_alloc_new _ _
  go_enter Ybaf.func3, Ybaf.ntmps3
  go_wp2_with (first
    | ((with_reducible refine wpList_load_row rfl 23 _ rfl w.heap.size ?_ 23 (nodeArr z0 z1 z2 z3 z4 z5 z6 z7 z8 z9 z10 z11 z12 z13 z14 z15) (0, 0) _ ?_ Ybaf.underlying23 ?_ ?_ ?_); (exact rfl); (exact hA1); (exact rfl); kernel_rfl)
    | ((with_reducible refine wpList_buildTo rfl 26 _ rfl _ rfl (tsArr wall lg z0 z1 z2 z3 z4 z5 z6 z7 z8 z9 z10 z11 z12 z13 z14 z15) ?_ ?_); kernel_rfl)
    | ((with_reducible refine wpList_store_rowTo rfl 26 _ _ rfl rfl (w.heap.size + 1) (tsArr wall lg z0 z1 z2 z3 z4 z5 z6 z7 z8 z9 z10 z11 z12 z13 z14 z15) ?_ ?_ 26 zero26 ?_ ?_ ?_ ?_ ?_); (exact rfl); (exact rfl); (exact hB0); kernel_rfl; kernel_rfl; kernel_rfl; rw [hB1])
    | ((with_reducible refine wpList_load_row rfl 26 _ rfl (w.heap.size + 1) ?_ 26 (tsArr wall lg z0 z1 z2 z3 z4 z5 z6 z7 z8 z9 z10 z11 z12 z13 z14 z15) (0, 0) _ ?_ Ybaf.underlying26 ?_ ?_ ?_); (exact rfl); (exact hB2); (exact rfl); kernel_rfl))
  have hb0 := below_two w (.cells (nodeArr z0 z1 z2 z3 z4 z5 z6 z7 z8 z9 z10 z11 z12 z13 z14 z15) 23) (.cells (tsArr wall lg z0 z1 z2 z3 z4 z5 z6 z7 z8 z9 z10 z11 z12 z13 z14 z15) 26)
  refine (format_past F a s wall lg z0 z1 z2 z3 z4 z5 z6 z7 z8 z9 z10 z11 z12 z13 z14 z15 _ ?_ h ?_ ?_ ?_).mono ?_
  · exact hF
  · simp
  · exact (hb0.cell (p := ⟨0, 0, none⟩) hg).trans hc
  · exact (hb0.cell ha).trans hs
  rintro e w1 ⟨N, rfl, hb1, hN⟩
  have hB := below_after hb0 hb1
  have hc1 : w1.cell? ⟨0, 0, none⟩ = some (.iface 86 (.pointer (some a))) := (hB.cell (p := ⟨0, 0, none⟩) hg).trans hc
  have HN : Hid (w1.cell? ⟨N, 0 + 1, none⟩ = some (.iface 86 (.pointer (some a)))) := hN
  clear hA1 hsz hB0 hB1 hB2 hb0 hb1 hN hc
  go_wp2_with fail
  refine (is_wrap_same N 0 a _ HN.out).mono ?_
  rintro e w' ⟨rfl, hw⟩
  rw [hw]; clear hw
  go_wp2_with fail
  go_ret
  exact ⟨rfl, hB⟩

/-- A buffer of bytes as a source. -/
theorem buf_src {w : World} {v : Value} {k : Nat} {bs : List UInt8} (h : Buf w 1 v k (bs.map bcell)) : Src Ybaf.prog 1 33 v k (bs.map bcell) w := by
  have hl := h.1
  rcases h.2 with ⟨rfl, rfl⟩ | ⟨g, cap, rfl, _, _, _, hc, _⟩
  · have : bs.map bcell = [] := List.eq_nil_of_length_eq_zero (by simpa using hl)
    rw [this]
    exact Src.ofNil w Ybaf.underlying33 0
  · refine Src.ofSlice w Ybaf.underlying33 ⟨g, 0, none⟩ k cap _ hl (fun j u hj => by rw [Addr.add_lit, Nat.zero_add]; exact hc j u hj) (fun u hu => ?_)
    obtain ⟨b, _, rfl⟩ := List.mem_map.1 hu
    rfl

/-- string(buf). -/
theorem buf_string {w : World} {v : Value} {k : Nat} {bs : List UInt8} (h : Buf w 1 v k (bs.map bcell)) (hk : 0 < k) : (convert 33 9 v).run Ybaf.prog w = .ok (.string ⟨bs.toArray⟩) w := by
  have hl := h.1
  obtain ⟨g, cap, rfl, _, _, _, hc, _⟩ := h.shape hk
  obtain rfl : bs.length = k := by simpa using hl
  exact run_convert_bytes_back w 33 9 5 ⟨g, 0, none⟩ cap bs Ybaf.underlying33 Ybaf.underlying5 Ybaf.underlying9 (fun j hj => by
    rw [Addr.add_lit, Nat.zero_add]
    exact hc j _ (by rw [List.getElem?_map, List.getElem?_eq_getElem hj]; rfl))

set_option maxRecDepth 100000 in
set_option maxHeartbeats 1600000 in
theorem text_in (wall lg m : Nat) (z0 z1 z2 z3 z4 z5 z6 z7 z8 z9 z10 z11 z12 z13 z14 z15 : UInt8) (w : World) (hw : wall ≤ 9223372036854000000) (hl : lg ≤ 4294967295) (hm : ceilMs wall = m) :
    Calls Ybaf.prog 3 #[.int .i64 (wall : Int), .int .u32 (lg : Int), .agg (nodeArr z0 z1 z2 z3 z4 z5 z6 z7 z8 z9 z10 z11 z12 z13 z14 z15)] w fun e w' => e = .returned (.bool true) ∧ Below w.heap.size w w' := by
  have hA1 : (w.alloc (.cells (nodeArr z0 z1 z2 z3 z4 z5 z6 z7 z8 z9 z10 z11 z12 z13 z14 z15) 23)).heap[w.heap.size]? = some (.cells (nodeArr z0 z1 z2 z3 z4 z5 z6 z7 z8 z9 z10 z11 z12 z13 z14 z15) 23 (0, 0)) := heap_alloc_new w _
  have hsz : (w.alloc (.cells (nodeArr z0 z1 z2 z3 z4 z5 z6 z7 z8 z9 z10 z11 z12 z13 z14 z15) 23)).heap.size = w.heap.size + 1 := by simp
  have hB0 : ((w.alloc (.cells (nodeArr z0 z1 z2 z3 z4 z5 z6 z7 z8 z9 z10 z11 z12 z13 z14 z15) 23)).alloc (.cells zero26 26)).heap[w.heap.size + 1]? = some (.cells zero26 26 (0, 0)) := by rw [← hsz]; exact heap_alloc_new _ _
  have hB1 : ((w.alloc (.cells (nodeArr z0 z1 z2 z3 z4 z5 z6 z7 z8 z9 z10 z11 z12 z13 z14 z15) 23)).alloc (.cells zero26 26)).setRow (w.heap.size + 1) (tsArr (wall : Int) (lg : Int) z0 z1 z2 z3 z4 z5 z6 z7 z8 z9 z10 z11 z12 z13 z14 z15) = (w.alloc (.cells (nodeArr z0 z1 z2 z3 z4 z5 z6 z7 z8 z9 z10 z11 z12 z13 z14 z15) 23)).alloc (.cells (tsArr (wall : Int) (lg : Int) z0 z1 z2 z3 z4 z5 z6 z7 z8 z9 z10 z11 z12 z13 z14 z15) 26) := by rw [← hsz]; exact setRow_new _ _ _ _
  have hB2 : ((w.alloc (.cells (nodeArr z0 z1 z2 z3 z4 z5 z6 z7 z8 z9 z10 z11 z12 z13 z14 z15) 23)).alloc (.cells (tsArr (wall : Int) (lg : Int) z0 z1 z2 z3 z4 z5 z6 z7 z8 z9 z10 z11 z12 z13 z14 z15) 26)).heap[w.heap.size + 1]? = some (.cells (tsArr (wall : Int) (lg : Int) z0 z1 z2 z3 z4 z5 z6 z7 z8 z9 z10 z11 z12 z13 z14 z15) 26 (0, 0)) := by rw [← hsz]; exact heap_alloc_new _ _
  go_enter Ybaf.func3, Ybaf.ntmps3
  go_wp2_with (first
    | ((with_reducible refine wpList_load_row rfl 23 _ rfl w.heap.size ?_ 23 (nodeArr z0 z1 z2 z3 z4 z5 z6 z7 z8 z9 z10 z11 z12 z13 z14 z15) (0, 0) _ ?_ Ybaf.underlying23 ?_ ?_ ?_); (exact rfl); (exact hA1); (exact rfl); kernel_rfl)
    | ((with_reducible refine wpList_buildTo rfl 26 _ rfl _ rfl (tsArr (wall : Int) (lg : Int) z0 z1 z2 z3 z4 z5 z6 z7 z8 z9 z10 z11 z12 z13 z14 z15) ?_ ?_); kernel_rfl)
    | ((with_reducible refine wpList_store_rowTo rfl 26 _ _ rfl rfl (w.heap.size + 1) (tsArr (wall : Int) (lg : Int) z0 z1 z2 z3 z4 z5 z6 z7 z8 z9 z10 z11 z12 z13 z14 z15) ?_ ?_ 26 zero26 ?_ ?_ ?_ ?_ ?_); (exact rfl); (exact rfl); (exact hB0); kernel_rfl; kernel_rfl; kernel_rfl; rw [hB1])
    | ((with_reducible refine wpList_load_row rfl 26 _ rfl (w.heap.size + 1) ?_ 26 (tsArr (wall : Int) (lg : Int) z0 z1 z2 z3 z4 z5 z6 z7 z8 z9 z10 z11 z12 z13 z14 z15) (0, 0) _ ?_ Ybaf.underlying26 ?_ ?_ ?_); (exact rfl); (exact hB2); (exact rfl); kernel_rfl))
  have hb0 := below_two w (.cells (nodeArr z0 z1 z2 z3 z4 z5 z6 z7 z8 z9 z10 z11 z12 z13 z14 z15) 23) (.cells (tsArr (wall : Int) (lg : Int) z0 z1 z2 z3 z4 z5 z6 z7 z8 z9 z10 z11 z12 z13 z14 z15) 26)
  have hA2 : Hid (((w.alloc (.cells (nodeArr z0 z1 z2 z3 z4 z5 z6 z7 z8 z9 z10 z11 z12 z13 z14 z15) 23)).alloc (.cells (tsArr (wall : Int) (lg : Int) z0 z1 z2 z3 z4 z5 z6 z7 z8 z9 z10 z11 z12 z13 z14 z15) 26)).heap[w.heap.size]? = some (.cells (nodeArr z0 z1 z2 z3 z4 z5 z6 z7 z8 z9 z10 z11 z12 z13 z14 z15) 23 (0, 0))) := (Below.heap_alloc _ _ _ (by simp)).trans hA1
  refine (format_ok wall lg m z0 z1 z2 z3 z4 z5 z6 z7 z8 z9 z10 z11 z12 z13 z14 z15 _ hw hl hm).mono ?_
  rintro e w1 ⟨k, hp, rfl, hb1⟩
  have hb : Below w.heap.size w w1 := below_after hb0 hb1
  have hA3 : Hid (w1.heap[w.heap.size]? = some (.cells (nodeArr z0 z1 z2 z3 z4 z5 z6 z7 z8 z9 z10 z11 z12 z13 z14 z15) 23 (0, 0))) := (hb1.block w.heap.size (by simp; omega)).trans hA2.out
  have hNw : w.heap.size < w1.heap.size := by have := hb1.size; simp at this; omega
  have hmi : ((wall : Int) + 999999) / 1000000 = (m : Int) := by unfold ceilMs at hm; omega
  have hm15 : m ≤ 9223372036854 := by unfold ceilMs at hm; omega
  obtain ⟨i0, hi0, hz0, hz1, hz2⟩ := info_parts Ybaf.info5
  clear hA1 hsz hB0 hB1 hB2 hb0 hb1 hA2
  generalize hS : mqttStr m lg k [z0, z1, z2, z3, z4, z5, z6, z7, z8, z9, z10, z11, z12, z13, z14, z15] = S
  go_wp2_with fail
  refine (zpad_any m 15 _ (by omega) (by omega) (by omega)).mono ?_
  rintro e w2 ⟨k1, v1, hp1, -, rfl, hB1, hG1⟩
  obtain rfl : k1 = 15 := hp1.width (by omega)
  go_wp2_with (at_builtin; refine wpList_append_buf1 _ rfl _ _ 33 33 rfl 5 5 i0 _ 1 Ybaf.underlying33 Ybaf.underlying33 hi0 hz0 hz1 hz2 rfl v1 15 (dig m 15) rfl _ _ _ rfl rfl 58 rfl hB1 (by unfold maxLen; omega) (by omega) ?_; intro v2 w3 hB2 hS2)
  refine (zpad_any lg 5 _ (by omega) (by omega) (by omega)).mono ?_
  rintro e w4 ⟨k2, v3, hp2, hk2, rfl, hB3, hG3⟩
  obtain rfl : k = k2 := hp.unique hp2
  have hG2 := (hG1.step hS2).below' hG3.below
  have hB2' := hB2.below hG3.below
  have hsrc := buf_src hB3
  have hfin : Hid ((⟨(dig m 15 ++ [58] ++ dig lg k ++ [58] ++ vv [z0, z1, z2, z3, z4, z5, z6, z7, z8, z9, z10, z11, z12, z13, z14, z15] 16).toArray⟩ : ByteArray) = S) := by
    rw [← hS, ← uu_vv]
    rfl
  clear hB1 hG1 hS2 hB2 hG3 hB3 hS hp2 hp1 hp hm hmi
  go_wp2_with (first
    | (at_builtin; refine wpList_append_buf _ rfl (.tmp 45) (.tmp 48) 33 33 rfl 5 i0 _ 1 1 Ybaf.underlying33 hi0 hz0 hz1 hz2 rfl v2 16 ((dig m 15 ++ [58]).map bcell) rfl hB2' v3 k ((dig lg k).map bcell) rfl hsrc (by unfold maxLen; omega) (by omega) ?_; intro v4 w5 hB4 hS4; rw [← List.map_append] at hB4)
    | (at_builtin; refine wpList_append_buf1 _ rfl (.tmp 50) (.tmp 51) 33 33 rfl 5 5 i0 _ 1 Ybaf.underlying33 Ybaf.underlying33 hi0 hz0 hz1 hz2 rfl v4 (16 + k) (dig m 15 ++ [58] ++ dig lg k) rfl _ _ _ rfl rfl 58 rfl hB4 (by unfold maxLen; omega) (by omega) ?_; intro v5 w6 hB5 hS5; have hA6 : w6.heap[w.heap.size]? = some (.cells (nodeArr z0 z1 z2 z3 z4 z5 z6 z7 z8 z9 z10 z11 z12 z13 z14 z15) 23 (0, 0)) := (((hG2.step hS4).step hS5).below.block _ hNw).trans hA3.out)
    | ((with_reducible refine wpList_load_row rfl 23 _ rfl w.heap.size ?_ 23 (nodeArr z0 z1 z2 z3 z4 z5 z6 z7 z8 z9 z10 z11 z12 z13 z14 z15) (0, 0) _ ?_ Ybaf.underlying23 ?_ ?_ ?_); (exact rfl); (exact hA6); (exact rfl); kernel_rfl))
  refine (zuuid_any v5 (16 + k + 1) (dig m 15 ++ [58] ++ dig lg k ++ [58]) z0 z1 z2 z3 z4 z5 z6 z7 z8 z9 z10 z11 z12 z13 z14 z15 _ hB5 (by omega)).mono ?_
  rintro e w7 ⟨v6, n6, rfl, hB6, hS6⟩
  have hn6 : 0 < n6 := by
    have h1 := hB6.1
    rw [List.length_map, List.length_append, List.length_append, List.length_append, List.length_append, dig_length] at h1
    omega
  have hcv := buf_string hB6 hn6
  rw [hfin.out] at hcv
  have hB : Below w.heap.size w w7 := below_after hb ((((hG2.step hS4).step hS5).step hS6).below)
  clear hB6 hS6 hB5 hS5 hB4 hS4 hA6 hsrc hB2' hG2 hA3 hfin
  go_wp2_with fail
  go_ret
  exact ⟨rfl, hB⟩
end Go.Proofs.YbulkaypkFmt
