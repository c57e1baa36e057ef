/-
  SEAT b2493aF: (*Clock).exhausted (10).
-/
import Derived.Test.YbulkaypkFmtErrorf
namespace Go.Proofs.YbulkaypkFmt
open Go.RowKit Go.Bufs Plain
open Go.Extern.Stop Go.Stop Go.Extern

set_option maxRecDepth 100000 in
set_option maxHeartbeats 1600000 in
theorem exhausted_closed (C : Nat) (a1 : Addr) (wall lg : Int) (z0 z1 z2 z3 z4 z5 z6 z7 z8 z9 z10 z11 z12 z13 z14 z15 : UInt8) (w : World) (hC : C < w.heap.size) (hg : 1 < w.heap.size) (hcl : w.cell? ⟨C, 170, none⟩ = some (.bool true)) (hc1 : w.cell? ⟨1, 0, none⟩ = some (.iface 86 (.pointer (some a1)))) :
    Calls Ybaf.prog 10 #[.pointer (some ⟨C, 0, none⟩), .agg (tsCells wall lg z0 z1 z2 z3 z4 z5 z6 z7 z8 z9 z10 z11 z12 z13 z14 z15)] w fun e w' => e = .returned (.iface 86 (.pointer (some a1))) ∧ Below w.heap.size w w' := by
  go_enter Ybaf.func10, Ybaf.ntmps10
  go_wp2
  go_ret
  exact ⟨rfl, (Below.refl _ _).alloc (Nat.le_refl _) _⟩

theorem below_end2 {w W w₃ : World} (h0 : Below w.heap.size w W) (h : Below W.heap.size W w₃) (o : Obj) : Below w.heap.size w (w₃.alloc o).drew :=
  ((h0.trans (h.mono h0.size)).alloc (Nat.le_trans h0.size h.size) _).drew

set_option maxRecDepth 100000 in
set_option maxHeartbeats 1600000 in
theorem exhausted_open (F : Interp) (C : Nat) (a2 : Addr) (s2 : ByteArray) (wall lg : Int) (z0 z1 z2 z3 z4 z5 z6 z7 z8 z9 z10 z11 z12 z13 z14 z15 : UInt8) (w : World) (hF : F.answers w.tape) (h1 : -9223372036854775808 ≤ wall) (h2 : wall ≤ 9223372036854775807) (l1 : 0 ≤ lg) (l2 : lg ≤ 4294967295)
    (hC : C < w.heap.size) (hg : 2 < w.heap.size) (hcl : w.cell? ⟨C, 170, none⟩ = some (.bool false)) (hc2 : w.cell? ⟨2, 0, none⟩ = some (.iface 86 (.pointer (some a2)))) (hs2 : w.cell? a2 = some (.string s2)) :
    Calls Ybaf.prog 10 #[.pointer (some ⟨C, 0, none⟩), .agg (tsCells wall lg z0 z1 z2 z3 z4 z5 z6 z7 z8 z9 z10 z11 z12 z13 z14 z15)] w fun e w' =>
      ∃ N, e = .returned (.iface 71 (.pointer (some ⟨N, 0, none⟩))) ∧ Below w.heap.size w w' ∧ w'.cell? ⟨N, 0 + 1, none⟩ = some (.iface 86 (.pointer (some a2))) := by
  have ha : a2.block < w.heap.size := World.block_lt_of_cell? _ _ hs2
  go_enter Ybaf.func10, Ybaf.ntmps10
  go_wp2_with fail
  refine (errorf_after F a2 s2 (w.heap.size + 1) wall lg z0 z1 z2 z3 z4 z5 z6 z7 z8 z9 z10 z11 z12 z13 z14 z15 _ ?_ h1 h2 l1 l2 ?_ ?_ ?_).mono ?_
  · exact hF
  · simp
  · simp
  · exact ((below_two w _ _).cell ha).trans hs2
  rintro e w' ⟨w₃, t, hx, rfl, rfl⟩
  have hB := below_end2 (below_two w _ _) hx (.cells #[.string t, .iface 86 (.pointer (some a2))] 130)
  have hN : (w₃.alloc (.cells #[.string t, .iface 86 (.pointer (some a2))] 130)).drew.cell? ⟨w₃.heap.size, 0 + 1, none⟩ = some (.iface 86 (.pointer (some a2))) := World.cell?_alloc_new w₃ _ _ 1
  clear hx
  go_wp2
  go_ret
  exact ⟨w₃.heap.size, rfl, hB, hN⟩
end Go.Proofs.YbulkaypkFmt
