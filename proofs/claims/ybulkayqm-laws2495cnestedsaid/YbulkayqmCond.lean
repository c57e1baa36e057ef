/-
  SEAT b2495a: appendReads (12), at the conditions that LawS2495CNested lays.
-/
import Derived.Test.YbulkayqmLawC
namespace Go.Proofs.Ybulkayqm
open Go.RowKit Go.Bufs

theorem as51_51 (W : World) (v : Value) : (Instr.typeAssert (.iface 51 v) 65 51 true).run Yba.prog W = .ok (.tuple #[v, .bool true]) W := by kernel_rfl
theorem as51_54 (W : World) (v : Value) : (Instr.typeAssert (.iface 54 v) 65 51 true).run Yba.prog W = .ok (.tuple #[.agg #[.string ⟨#[]⟩, .int .i64 0, .slice none 0 0], .bool false]) W := by kernel_rfl
theorem as51_56 (W : World) (v : Value) : (Instr.typeAssert (.iface 56 v) 65 51 true).run Yba.prog W = .ok (.tuple #[.agg #[.string ⟨#[]⟩, .int .i64 0, .slice none 0 0], .bool false]) W := by kernel_rfl
theorem as51_57 (W : World) (v : Value) : (Instr.typeAssert (.iface 57 v) 65 51 true).run Yba.prog W = .ok (.tuple #[.agg #[.string ⟨#[]⟩, .int .i64 0, .slice none 0 0], .bool false]) W := by kernel_rfl
theorem as54_54 (W : World) (v : Value) : (Instr.typeAssert (.iface 54 v) 65 54 true).run Yba.prog W = .ok (.tuple #[v, .bool true]) W := by kernel_rfl
theorem as54_56 (W : World) (v : Value) : (Instr.typeAssert (.iface 56 v) 65 54 true).run Yba.prog W = .ok (.tuple #[.agg #[.string ⟨#[]⟩, .int .i64 0, .pointer none, .pointer none, .pointer none, .pointer none], .bool false]) W := by kernel_rfl
theorem as54_57 (W : World) (v : Value) : (Instr.typeAssert (.iface 57 v) 65 54 true).run Yba.prog W = .ok (.tuple #[.agg #[.string ⟨#[]⟩, .int .i64 0, .pointer none, .pointer none, .pointer none, .pointer none], .bool false]) W := by kernel_rfl
theorem as56_56 (W : World) (v : Value) : (Instr.typeAssert (.iface 56 v) 65 56 true).run Yba.prog W = .ok (.tuple #[v, .bool true]) W := by kernel_rfl
theorem as56_57 (W : World) (v : Value) : (Instr.typeAssert (.iface 57 v) 65 56 true).run Yba.prog W = .ok (.tuple #[.slice none 0 0, .bool false]) W := by kernel_rfl
theorem as57_57 (W : World) (v : Value) : (Instr.typeAssert (.iface 57 v) 65 57 true).run Yba.prog W = .ok (.tuple #[v, .bool true]) W := by kernel_rfl

/-- The two tests, as interface values. -/
def tiered (m : ByteArray) (g : Int) : Value := .iface 51 (.agg #[.string m, .int .i64 g, .slice none 0 0])
def linear (m : ByteArray) (g : Int) : Value := .iface 54 (.agg #[.string m, .int .i64 g, .pointer none, .pointer none, .pointer none, .pointer none])

set_option maxRecDepth 100000 in
set_option maxHeartbeats 800000 in
theorem reads_tiered (m : ByteArray) (g y : Int) (v : Value) (n : Nat) (ms : List (ByteArray × Int)) (w : World) (hB : Buf w 2 v n (mc ms)) (hn : n ≤ 100000) :
    Calls Yba.prog 12 #[v, tiered m g, .int .i64 y] w fun e w' => ∃ v', e = .returned v' ∧ Buf w' 2 v' (n + (meas m g y).length) (mc (ms ++ meas m g y)) ∧ Step w w' v v' := by
  unfold tiered
  have q := as51_51
  go_enter Yba.func12, Yba.ntmps12
  go_wp2_with fail
  refine (measure_any m g y v n ms _ (hB.alloc _) hn).mono ?_
  rintro e w1 ⟨v1, rfl, hB1, hS1, _⟩
  go_wp2_with fail
  go_ret
  exact ⟨v1, rfl, hB1, (Step.alloc w v _).trans hS1⟩

set_option maxRecDepth 100000 in
set_option maxHeartbeats 800000 in
theorem reads_linear (m : ByteArray) (g y : Int) (v : Value) (n : Nat) (ms : List (ByteArray × Int)) (w : World) (hB : Buf w 2 v n (mc ms)) (hn : n ≤ 100000) :
    Calls Yba.prog 12 #[v, linear m g, .int .i64 y] w fun e w' => ∃ v', e = .returned v' ∧ Buf w' 2 v' (n + (meas m g y).length) (mc (ms ++ meas m g y)) ∧ Step w w' v v' := by
  unfold linear
  have q1 := as51_54
  have q2 := as54_54
  go_enter Yba.func12, Yba.ntmps12
  go_wp2_with fail
  refine (measure_any m g y v n ms _ (hB.alloc _) hn).mono ?_
  rintro e w1 ⟨v1, rfl, hB1, hS1, _⟩
  go_wp2_with fail
  go_ret
  exact ⟨v1, rfl, hB1, (Step.alloc w v _).trans hS1⟩

/-- AnyOf{Linear{..}}, its row at block b. -/
def anyOf (b : Nat) : Value := .iface 56 (.slice (some ⟨b, 0, none⟩) 1 1)

set_option maxRecDepth 100000 in
set_option maxHeartbeats 800000 in
theorem reads_any (b : Nat) (m : ByteArray) (g y : Int) (v : Value) (n : Nat) (ms : List (ByteArray × Int)) (w : World) (hB : Buf w 2 v n (mc ms)) (hn : n ≤ 100000) (hc : w.cell? ⟨b, 0, none⟩ = some (linear m g)) :
    Calls Yba.prog 12 #[v, anyOf b, .int .i64 y] w fun e w' => ∃ v', e = .returned v' ∧ Buf w' 2 v' (n + (meas m g y).length) (mc (ms ++ meas m g y)) ∧ Step w w' v v' := by
  unfold anyOf
  have q1 := as51_56
  have q2 := as54_56
  have q3 := as56_56
  go_enter Yba.func12, Yba.ntmps12
  go_wp2_with fail
  go_loopw [0, 41] (fun u i wr => (i = .int .i64 0 ∧ u = v ∧ wr = w) ∨ (i = .int .i64 1 ∧ Buf wr 2 u (n + (meas m g y).length) (mc (ms ++ meas m g y)) ∧ Step w wr v u)) (fun _ i _ => 1 - (intOf i).toNat)
  case atStart => exact .inl ⟨rfl, rfl, rfl⟩
  case round =>
    rcases hrel with ⟨rfl, rfl, rfl⟩ | ⟨rfl, hB1, hS1⟩
    · go_wp2_with fail
      refine (reads_linear m g y _ n ms _ hB hn).mono ?_
      rintro e w1 ⟨v1, rfl, hB1, hS1⟩
      go_wp2_with fail
      go_roundw
      case rel => exact .inr ⟨by go_num, hB1, hS1⟩
      case measure => simp [intOf]
    · go_wp2_with fail
      go_ret
      exact ⟨_, rfl, hB1, hS1⟩

/-- AllOf{Tiered{..}, AnyOf{Linear{..}}}, its row at block b. -/
def allOf (b : Nat) : Value := .iface 57 (.slice (some ⟨b, 0, none⟩) 2 2)

set_option maxRecDepth 100000 in
set_option maxHeartbeats 800000 in
theorem reads_all (b b2 : Nat) (m m2 : ByteArray) (g g2 y : Int) (v : Value) (n : Nat) (ms : List (ByteArray × Int)) (w : World) (hB : Buf w 2 v n (mc ms)) (hn : n ≤ 90000)
    (hb : b < w.heap.size) (hbv : some b ≠ v.ownBlock) (hb2 : b2 < w.heap.size) (hbv2 : some b2 ≠ v.ownBlock)
    (hc0 : w.cell? ⟨b, 0, none⟩ = some (tiered m g)) (hc1 : w.cell? ⟨b, 1, none⟩ = some (anyOf b2)) (hc2 : w.cell? ⟨b2, 0, none⟩ = some (linear m2 g2)) :
    Calls Yba.prog 12 #[v, allOf b, .int .i64 y] w fun e w' => ∃ v', e = .returned v' ∧ Buf w' 2 v' (n + (meas m g y).length + (meas m2 g2 y).length) (mc (ms ++ meas m g y ++ meas m2 g2 y)) ∧ Step w w' v v' := by
  unfold allOf
  have q1 := as51_57
  have q2 := as54_57
  have q3 := as56_57
  have q4 := as57_57
  have hl := meas_length m g y
  go_enter Yba.func12, Yba.ntmps12
  go_wp2_with fail
  go_loopw [0, 41] (fun u i wr => (i = .int .i64 0 ∧ u = v ∧ wr = w) ∨ (i = .int .i64 1 ∧ Buf wr 2 u (n + (meas m g y).length) (mc (ms ++ meas m g y)) ∧ Step w wr v u)
    ∨ (i = .int .i64 2 ∧ Buf wr 2 u (n + (meas m g y).length + (meas m2 g2 y).length) (mc (ms ++ meas m g y ++ meas m2 g2 y)) ∧ Step w wr v u)) (fun _ i _ => 2 - (intOf i).toNat)
  case atStart => exact .inl ⟨rfl, rfl, rfl⟩
  case round =>
    rcases hrel with ⟨rfl, rfl, rfl⟩ | ⟨rfl, hB1, hS1⟩ | ⟨rfl, hB1, hS1⟩
    · go_wp2_with fail
      refine (reads_tiered m g y _ n ms _ hB (by omega)).mono ?_
      rintro e w1 ⟨v1, rfl, hB1, hS1⟩
      go_wp2_with fail
      go_roundw
      case rel => exact .inr (.inl ⟨by go_num, hB1, hS1⟩)
      case measure => simp [intOf]
    · have hc1' : wr.cell? ⟨b, 1, none⟩ = some (anyOf b2) := (hS1.cell hb hbv).trans hc1
      have hc2' : wr.cell? ⟨b2, 0, none⟩ = some (linear m2 g2) := (hS1.cell hb2 hbv2).trans hc2
      go_wp2_with fail
      refine (reads_any b2 m2 g2 y _ _ _ _ hB1 (by omega) hc2').mono ?_
      rintro e w1 ⟨v1, rfl, hB2, hS2⟩
      go_wp2_with fail
      go_roundw
      case rel => exact .inr (.inr ⟨by go_num, hB2, hS1.trans hS2⟩)
      case measure => simp [intOf]
    · go_wp2_with fail
      go_ret
      exact ⟨_, rfl, hB1, hS1⟩
end Go.Proofs.Ybulkayqm
