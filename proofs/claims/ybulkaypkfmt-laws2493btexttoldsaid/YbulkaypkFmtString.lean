/-
  SEAT b2493aF: (Timestamp).String (19): it returns a string, and writes nothing that was there.
-/
import Derived.Test.YbulkaypkFmtText
namespace Go.Proofs.YbulkaypkFmt
open Go.RowKit Go.Bufs Plain

theorem zero89 : Ybaf.zeroCells89.size = 74 := by kernel_rfl

theorem room_new (w : World) (a : Obj) : Room ((w.alloc a).alloc (.cells Ybaf.zeroCells89 89)) (w.heap.size + 1) 74 0 := by
  have h := Fit.ofNew (w.alloc a) Ybaf.zeroCells89 89 (by rw [zero89]; simp [maxLen])
  rw [zero89] at h
  have e : (w.alloc a).heap.size = w.heap.size + 1 := by simp
  rw [e] at h
  exact ⟨[], rfl, h⟩

theorem Room.drew {w : World} {g cap n : Nat} (h : Room w g cap n) : Room w.drew g cap n := h.below ((Below.refl _ _).drew)

theorem below_str {w W w5 : World} (hW : Below w.heap.size w W) (hO : Only W w5 (w.heap.size + 1)) : Below w.heap.size w w5 := hW.trans (hO.below hW.size (by omega))
theorem below_two (w : World) (a b : Obj) : Below w.heap.size w ((w.alloc a).alloc b) := ((Below.refl _ _).alloc (Nat.le_refl _) _).alloc (by simp) _

set_option maxRecDepth 100000 in
set_option maxHeartbeats 1600000 in
theorem string_any (wall lg : Int) (z0 z1 z2 z3 z4 z5 z6 z7 z8 z9 z10 z11 z12 z13 z14 z15 : UInt8) (w : World) (h1 : -9223372036854775808 ≤ wall) (h2 : wall ≤ 9223372036854775807) (l1 : 0 ≤ lg) (l2 : lg ≤ 4294967295) :
    Calls Ybaf.prog 19 #[.agg (tsCells wall lg z0 z1 z2 z3 z4 z5 z6 z7 z8 z9 z10 z11 z12 z13 z14 z15)] w fun e w' => ∃ s : ByteArray, e = .returned (.string s) ∧ Below w.heap.size w w' := by
  have hr0 := room_new w (.cells (tsCells wall lg z0 z1 z2 z3 z4 z5 z6 z7 z8 z9 z10 z11 z12 z13 z14 z15) 26)
  have hr1 := hr0.drew
  have hb0 := below_two w (.cells (tsCells wall lg z0 z1 z2 z3 z4 z5 z6 z7 z8 z9 z10 z11 z12 z13 z14 z15) 26) (.cells Ybaf.zeroCells89 89)
  have hb1 := hb0.drew
  go_enter Ybaf.func19, Ybaf.ntmps19
  go_wp2_with fail
  go_region_with (go_at_call 22; refine (appendText_new wall lg z0 z1 z2 z3 z4 z5 z6 z7 z8 z9 z10 z11 z12 z13 z14 z15 _ (w.heap.size + 1) ?_ h1 h2 l1 l2).mono ?_; (first | exact hr1 | exact hr0); rintro e w5 ⟨rfl, hO5, s5, hs5⟩; have hB5 : Below w.heap.size w w5 := (by first | exact below_str hb1 hO5 | exact below_str hb0 hO5))
  all_goals (try go_wp2)
  all_goals (go_ret; exact ⟨_, rfl, by first | assumption | exact Below.drew (by assumption)⟩)
end Go.Proofs.YbulkaypkFmt
