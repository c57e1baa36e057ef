/-
  SEAT b2493aF: fmt.Errorf (12) at '%w: after %s' over a sentinel and a Timestamp, whose String is called by the stop.
-/
import Derived.Test.YbulkaypkFmtString
import Derived.Test.YbulkaypkFmtFacts
namespace Go.Proofs.YbulkaypkFmt
open Go.RowKit Go.Bufs Plain
open Go.Extern.Stop Go.Stop Go.Extern

abbrev fmtAfter : Value := .string ⟨#[37, 119, 58, 32, 97, 102, 116, 101, 114, 32, 37, 115]⟩

set_option maxRecDepth 100000 in
set_option maxHeartbeats 1600000 in
theorem errorf_after (F : Interp) (a : Addr) (s : ByteArray) (blk : Nat) (wall lg : Int) (z0 z1 z2 z3 z4 z5 z6 z7 z8 z9 z10 z11 z12 z13 z14 z15 : UInt8) (w : World) (hF : F.answers w.tape)
    (h1 : -9223372036854775808 ≤ wall) (h2 : wall ≤ 9223372036854775807) (l1 : 0 ≤ lg) (l2 : lg ≤ 4294967295)
    (hc0 : w.cell? ⟨blk, 0, none⟩ = some (.iface 86 (.pointer (some a)))) (hc1 : w.cell? ⟨blk, 1, none⟩ = some (.iface 26 (.agg (tsCells wall lg z0 z1 z2 z3 z4 z5 z6 z7 z8 z9 z10 z11 z12 z13 z14 z15)))) (hs : w.cell? a = some (.string s)) :
    Calls Ybaf.prog 12 #[fmtAfter, .slice (some ⟨blk, 0, none⟩) 2 2] w fun e w' =>
      ∃ w₃ t, Below w.heap.size w w₃ ∧ e = .returned (.iface 71 (.pointer (some ⟨w₃.heap.size, 0, none⟩))) ∧ w' = (w₃.alloc (.cells #[.string t, .iface 86 (.pointer (some a))] 130)).drew := by
  have hF' := answers_open hF
  have hb : blk < w.heap.size := World.block_lt_of_cell? _ _ hc0
  have ha : a.block < w.heap.size := World.block_lt_of_cell? _ _ hs
  have hop := Ybaf.opPlain86_119w "fmt.errorf" a s
  go_enter Ybaf.func12, Ybaf.ntmps12
  go_wp2
  apply rows_call Ybaf.nextTurns
  case hr =>
    go_simp
    exact ⟨⟨rfl, rfl, rfl⟩, rfl⟩
  case hi => exact Ybaf.invokeString26 _ _
  case hc =>
    refine (string_any wall lg z0 z1 z2 z3 z4 z5 z6 z7 z8 z9 z10 z11 z12 z13 z14 z15 _ h1 h2 l1 l2).mono fun e w₃ ⟨s3, he, hx⟩ => ?_
    subst he
    have hF3 := answers_open (show F.answers w₃.tape by rw [hx.tape]; exact hF)
    have hc03 : w₃.cell? ⟨blk, 0, none⟩ = some (.iface 86 (.pointer (some a))) := by rw [hx.cell hb]; exact hc0
    have hc13 : w₃.cell? ⟨blk, 1, none⟩ = some (.iface 26 (.agg (tsCells wall lg z0 z1 z2 z3 z4 z5 z6 z7 z8 z9 z10 z11 z12 z13 z14 z15))) := by rw [hx.cell hb]; exact hc1
    have hs3 : w₃.cell? a = some (.string s) := by rw [hx.cell ha]; exact hs
    have hop3 := hop w₃ hs3
    apply rows_value Ybaf.nextReturned
    case hr =>
      go_simp
      exact ⟨rfl, rfl⟩
    case h =>
      go_wp2
      go_ret
      exact ⟨w₃, _, hx, rfl, rfl⟩
end Go.Proofs.YbulkaypkFmt
