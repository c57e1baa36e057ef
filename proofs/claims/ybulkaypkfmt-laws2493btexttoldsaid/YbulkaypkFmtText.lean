/-
  SEAT b2493aF: appendText (22), (Timestamp).String (19).
-/
import Derived.Test.YbulkaypkFmtStr
namespace Go.Proofs.YbulkaypkFmt
open Go.RowKit Go.Bufs Plain

/-- A Timestamp's cells. -/
abbrev tsCells (wall lg : Int) (z0 z1 z2 z3 z4 z5 z6 z7 z8 z9 z10 z11 z12 z13 z14 z15 : UInt8) : Array Value := #[.int .i64 wall, .int .u32 lg, .int .u8 (z0.toNat : Int), .int .u8 (z1.toNat : Int), .int .u8 (z2.toNat : Int), .int .u8 (z3.toNat : Int), .int .u8 (z4.toNat : Int), .int .u8 (z5.toNat : Int), .int .u8 (z6.toNat : Int), .int .u8 (z7.toNat : Int), .int .u8 (z8.toNat : Int), .int .u8 (z9.toNat : Int), .int .u8 (z10.toNat : Int), .int .u8 (z11.toNat : Int), .int .u8 (z12.toNat : Int), .int .u8 (z13.toNat : Int), .int .u8 (z14.toNat : Int), .int .u8 (z15.toNat : Int)]

/-- The node's bytes behind the boxed stamp. -/
theorem ts_node (w : World) (wall lg : Int) (z0 z1 z2 z3 z4 z5 z6 z7 z8 z9 z10 z11 z12 z13 z14 z15 : UInt8) (T : TypeId) : ∀ j (b : UInt8), [z0, z1, z2, z3, z4, z5, z6, z7, z8, z9, z10, z11, z12, z13, z14, z15][j]? = some b → (w.alloc (.cells (tsCells wall lg z0 z1 z2 z3 z4 z5 z6 z7 z8 z9 z10 z11 z12 z13 z14 z15) T)).cell? ⟨w.heap.size, 2 + j, none⟩ = some (bcell b) := by
  intro j b hj
  rw [show (w.alloc (.cells (tsCells wall lg z0 z1 z2 z3 z4 z5 z6 z7 z8 z9 z10 z11 z12 z13 z14 z15) T)).cell? ⟨w.heap.size, 2 + j, none⟩ = _ from World.cell?_alloc_new w _ _ (2 + j)]
  have h16 : j < 16 := (List.getElem?_eq_some_iff.1 hj).1
  match j, h16, hj with
  | 0, _, hj => cases hj; rfl
  | 1, _, hj => cases hj; rfl
  | 2, _, hj => cases hj; rfl
  | 3, _, hj => cases hj; rfl
  | 4, _, hj => cases hj; rfl
  | 5, _, hj => cases hj; rfl
  | 6, _, hj => cases hj; rfl
  | 7, _, hj => cases hj; rfl
  | 8, _, hj => cases hj; rfl
  | 9, _, hj => cases hj; rfl
  | 10, _, hj => cases hj; rfl
  | 11, _, hj => cases hj; rfl
  | 12, _, hj => cases hj; rfl
  | 13, _, hj => cases hj; rfl
  | 14, _, hj => cases hj; rfl
  | 15, _, hj => cases hj; rfl
  | n + 16, h, _ => exact absurd h (by omega)

set_option maxRecDepth 100000 in
set_option maxHeartbeats 1600000 in
theorem appendText_room (g cap n : Nat) (wall lg : Int) (z0 z1 z2 z3 z4 z5 z6 z7 z8 z9 z10 z11 z12 z13 z14 z15 : UInt8) (w : World) (hR : Room w g cap n) (h1 : -9223372036854775808 ≤ wall) (h2 : wall ≤ 9223372036854775807) (l1 : 0 ≤ lg) (l2 : lg ≤ 4294967295) (hroom : n + 74 ≤ cap) (hc : cap ≤ 1000) :
    Calls Ybaf.prog 22 #[.agg (tsCells wall lg z0 z1 z2 z3 z4 z5 z6 z7 z8 z9 z10 z11 z12 z13 z14 z15), .slice (some ⟨g, 0, none⟩) n cap] w fun e w' =>
      e = .returned (.slice (some ⟨g, 0, none⟩) (n + 74) cap) ∧ Room w' g cap (n + 74) ∧ Only w w' g := by
  obtain ⟨i0, hi0, hz0, hz1, hz2⟩ := info_parts Ybaf.info5
  have hgl := hR.lt
  have hnode := ts_node w wall lg z0 z1 z2 z3 z4 z5 z6 z7 z8 z9 z10 z11 z12 z13 z14 z15 26
  have HN : Hid (∀ j (b : UInt8), [z0, z1, z2, z3, z4, z5, z6, z7, z8, z9, z10, z11, z12, z13, z14, z15][j]? = some b → (w.alloc (.cells (tsCells wall lg z0 z1 z2 z3 z4 z5 z6 z7 z8 z9 z10 z11 z12 z13 z14 z15) 26)).cell? ⟨w.heap.size, 2 + j, none⟩ = some (bcell b)) := hnode
  clear hnode
  go_enter Ybaf.func22, Ybaf.ntmps22
  go_wp2_with fail
  refine (appendWall_any g cap n wall _ (hR.alloc _) h1 h2 (by omega)).mono ?_
  rintro e w1 ⟨rfl, hR1, hO1⟩
  go_wp2_with (at_builtin; refine wpList_append_room1 _ rfl _ _ 33 33 rfl 5 5 i0 Ybaf.underlying33 Ybaf.underlying33 hi0 hz1 g cap _ rfl _ _ _ rfl rfl ⟨47, rfl⟩ hR1 (by omega) ?_; intro w2 hR2 hO2; have hO12 := hO1.trans hO2; have hlg : w2.cell? ⟨w.heap.size, 1, none⟩ = some (.int .u32 lg) := (by rw [hO12.cell (by simp) (by omega)]; exact World.cell?_alloc_new w _ _ 1))
  refine (padded_room g cap _ _ _ 10 10000000000 _ hR2 rfl rfl (by omega) (by omega) (by omega) (by omega) (by omega)).mono ?_
  rintro e w3 ⟨rfl, hR3, hO3⟩
  go_wp2_with (at_builtin; refine wpList_append_room1 _ rfl _ _ 33 33 rfl 5 5 i0 Ybaf.underlying33 Ybaf.underlying33 hi0 hz1 g cap _ rfl _ _ _ rfl rfl ⟨47, rfl⟩ hR3 (by omega) ?_; intro w4 hR4 hO4)
  have hO14 := (hO12.trans hO3).trans hO4
  have hsz : w.heap.size < w4.heap.size := by have := hO14.size; simp at this; omega
  obtain ⟨bs, hbs, hF4⟩ := hR4
  have hA := appendEncode_fit g cap w.heap.size 2 16 bs [z0, z1, z2, z3, z4, z5, z6, z7, z8, z9, z10, z11, z12, z13, z14, z15] rfl w4 hF4 (by omega) hc (by omega) hsz (fun j b hj => by rw [hO14.cell (by simp) (by omega)]; exact HN.out j b hj)
  rw [hbs] at hA
  refine hA.mono ?_
  rintro e w5 ⟨rfl, hF5, hO5⟩
  have hl : (bs ++ hexs [z0, z1, z2, z3, z4, z5, z6, z7, z8, z9, z10, z11, z12, z13, z14, z15]).length = n + 74 := by rw [List.length_append, hexs_length, hbs]; simp
  have hO := ((Only.alloc w g _).trans hO14).trans hO5
  rw [show n + 30 + 1 + 10 + 1 + 32 = n + 74 by omega]
  clear hA HN hbs
  go_wp2
  go_ret
  exact ⟨rfl, ⟨_, hl, hF5⟩, hO⟩

/-- 'string(b)'. -/
theorem fit_string {w : World} {g cap : Nat} {bs : List UInt8} (h : Fit w g cap bs) : (convert 33 9 (.slice (some ⟨g, 0, none⟩) bs.length cap)).run Ybaf.prog w = .ok (.string ⟨bs.toArray⟩) w :=
  run_convert_bytes_back w 33 9 5 ⟨g, 0, none⟩ cap bs Ybaf.underlying33 Ybaf.underlying5 Ybaf.underlying9 (fun j hj => by
    rw [Addr.add_lit, Nat.zero_add]
    exact h.holds j _ (List.getElem?_eq_getElem hj))

theorem appendText_new (wall lg : Int) (z0 z1 z2 z3 z4 z5 z6 z7 z8 z9 z10 z11 z12 z13 z14 z15 : UInt8) (w : World) (g : Nat) (hR : Room w g 74 0) (h1 : -9223372036854775808 ≤ wall) (h2 : wall ≤ 9223372036854775807) (l1 : 0 ≤ lg) (l2 : lg ≤ 4294967295) :
    Calls Ybaf.prog 22 #[.agg (tsCells wall lg z0 z1 z2 z3 z4 z5 z6 z7 z8 z9 z10 z11 z12 z13 z14 z15), .slice (some ⟨g, 0, none⟩) 0 74] w fun e w' =>
      e = .returned (.slice (some ⟨g, 0, none⟩) 74 74) ∧ Only w w' g ∧ ∃ s : ByteArray, (convert 33 9 (.slice (some ⟨g, 0, none⟩) 74 74)).run Ybaf.prog w' = .ok (.string s) w' := by
  refine (appendText_room g 74 0 wall lg z0 z1 z2 z3 z4 z5 z6 z7 z8 z9 z10 z11 z12 z13 z14 z15 w hR h1 h2 l1 l2 (by omega) (by omega)).mono ?_
  rintro e w' ⟨rfl, ⟨bs, hbs, hF⟩, hO⟩
  refine ⟨rfl, hO, ⟨bs.toArray⟩, ?_⟩
  have := fit_string hF
  rw [hbs] at this
  exact this

end Go.Proofs.YbulkaypkFmt
