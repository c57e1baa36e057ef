/-
  SEAT b2495a: (*RatingIndex).link (6).
-/
import Derived.Test.YbulkayqmBit
import Derived.Deep.RegionWith
namespace Go.Proofs.Ybulkayqm
open Go.RowKit Go.Bufs

set_option maxRecDepth 100000 in
set_option maxHeartbeats 800000 in
theorem link_none (X : Nat) (y : Int) (w : World) :
    Calls Yba.prog 6 #[.pointer (some ⟨X, 0, none⟩), .int .i64 (-1), .int .i64 y] w fun e w' => e = .returned (.agg #[.int .i64 y, .int .i32 (-1)]) ∧ Below w.heap.size w w' := by
  go_enter Yba.func6, Yba.ntmps6
  go_wp2
  refine bodyPost_ret (v := .agg #[.int .i64 y, .int .i32 (-1)]) (by simp [results, Yba.results6, go_sem]) rfl ⟨rfl, ?_⟩
  exact ((Below.refl _ _).alloc (Nat.le_refl _) _).alloc (by simp) _

/-- What link leaves behind: one head turned; all other old blocks as they were. -/
structure Linked (w w' : World) (H f : Nat) (l : Int) (z : Nat) : Prop where
  grown : w.grownBy w' (some H)
  head0 : w'.cell? ⟨H, f * 2, none⟩ = some (.int .i32 l)
  head1 : w'.cell? ⟨H, f * 2 + 1, none⟩ = some (.int .u32 (z : Int))
  rest : ∀ j, j ≠ f * 2 → j ≠ f * 2 + 1 → w'.cell? ⟨H, j, none⟩ = w.cell? ⟨H, j, none⟩
  frozen : ∀ j, w'.frozen? ⟨H, j, none⟩ = w.frozen? ⟨H, j, none⟩

theorem linked_mk (w : World) (H f : Nat) (l : Int) (z : Nat) (u v : Value) (o o' : Obj) (hH : H < w.heap.size) (h0 : w.cell? ⟨H, f * 2, none⟩ = some u) (h1 : w.cell? ⟨H, f * 2 + 1, none⟩ = some v) :
    Linked w ((((w.setCell ⟨H, f * 2, none⟩ (.int .i32 l)).setCell ⟨H, f * 2 + 1, none⟩ (.int .u32 (z : Int))).alloc o).alloc o').drew.drew H f l z := by
  have hsz : (w.setCells H (f * 2) [.int .i32 l, .int .u32 (z : Int)]).heap.size = w.heap.size := by
    show ((w.setCell ⟨H, f * 2, none⟩ (.int .i32 l)).setCell ⟨H, f * 2 + 1, none⟩ (.int .u32 (z : Int))).heap.size = _
    simp
  have hb : Below w.heap.size (w.setCells H (f * 2) [.int .i32 l, .int .u32 (z : Int)]) ((((w.setCell ⟨H, f * 2, none⟩ (.int .i32 l)).setCell ⟨H, f * 2 + 1, none⟩ (.int .u32 (z : Int))).alloc o).alloc o').drew.drew :=
    (((Below.refl _ _).alloc (by omega) _).alloc (by simp; omega) _).drew.drew
  have hsome : ∀ j, j < [Value.int .i32 l, .int .u32 (z : Int)].length → (w.cell? ⟨H, f * 2 + j, none⟩).isSome = true := by
    intro j hj
    match j, hj with
    | 0, _ => rw [Nat.add_zero, h0]; rfl
    | 1, _ => rw [h1]; rfl
  refine ⟨⟨rfl, rfl, rfl, by simp; omega, fun k hk hne => ?_⟩, ?_, ?_, fun j j0 j1 => ?_, fun j => ?_⟩
  · rw [hb.block k hk]
    exact World.heap_setCells_other w H _ _ hk (fun e => hne (by rw [e]))
  · rw [hb.cell (p := ⟨H, f * 2, none⟩) hH]
    exact World.cell?_setCells_in H _ (f * 2) w hsome 0 (by simp)
  · rw [hb.cell (p := ⟨H, f * 2 + 1, none⟩) hH]
    exact World.cell?_setCells_in H _ (f * 2) w hsome 1 (by simp)
  · rw [hb.cell (p := ⟨H, j, none⟩) hH]
    exact World.cell?_setCells_out H _ _ _ _ (fun _ _ => by show j < f * 2 ∨ f * 2 + 2 ≤ j; omega)
  · have e := hb.block H hH
    rw [World.frozen?_of_block (a := ⟨H, j, none⟩) e]
    exact World.frozen?_setCells H _ _ _ _

set_option maxRecDepth 100000 in
set_option maxHeartbeats 1600000 in
theorem link_some (X H m k c f : Nat) (a : Option Addr) (y l : Int) (z : Nat) (w : World) (hf : f < m) (_hm : m ≤ 8) (hk : k ≤ 1024) (hX : X < w.heap.size) (hH : H < w.heap.size) (_hne : X ≠ H)
    (hx2 : w.cell? ⟨X, 2, none⟩ = some (.slice (some ⟨H, 0, none⟩) m m)) (hx3 : w.cell? ⟨X, 3, none⟩ = some (.slice a k c))
    (h0 : w.cell? ⟨H, f * 2, none⟩ = some (.int .i32 l)) (h1 : w.cell? ⟨H, f * 2 + 1, none⟩ = some (.int .u32 (z : Int)))
    (z0 : w.frozen? ⟨H, f * 2, none⟩ = false) (z1 : w.frozen? ⟨H, f * 2 + 1, none⟩ = false) (hz : z < 4294967296) :
    Calls Yba.prog 6 #[.pointer (some ⟨X, 0, none⟩), .int .i64 (f : Int), .int .i64 y] w fun e w' => e = .returned (.agg #[.int .i64 y, .int .i32 l]) ∧ Linked w w' H f k (z ||| bitOf y) := by
  have hor := u32_or_nat z (bitOf y) hz (bitOf_lt y)
  have hyb := yearBit_any y
  go_enter Yba.func6, Yba.ntmps6
  go_wp2
  go_region
  go_wp2_with fail
  go_region_with (go_at_call 13; refine (hyb _).mono ?_; rintro e w' ⟨rfl, rfl⟩)
  all_goals go_wp2_with fail
  all_goals refine bodyPost_ret (v := .agg #[.int .i64 y, .int .i32 l]) (by simp [results, Yba.results6, go_sem]) rfl ⟨rfl, ?_⟩
  all_goals exact linked_mk w H f k (z ||| bitOf y) _ _ _ _ hH h0 h1
end Go.Proofs.Ybulkayqm
