/-
  SEAT b2493aF: checkWall (11) and (Timestamp).FormatMQTT (6) at a wall in range.
-/
import Derived.Test.YbulkaypkFmtUuid
import Derived.Deep.Cut
import Derived.Deep.CutRange
import Derived.Deep.MidRow
namespace Go.Proofs.YbulkaypkFmt
open Go.RowKit Go.Bufs Plain

set_option maxRecDepth 100000 in
set_option maxHeartbeats 800000 in
theorem checkWall_ok (wall lg : Int) (z0 z1 z2 z3 z4 z5 z6 z7 z8 z9 z10 z11 z12 z13 z14 z15 : UInt8) (w : World) (h : 0 ≤ wall) :
    Calls Ybaf.prog 11 #[.agg (tsArr wall lg z0 z1 z2 z3 z4 z5 z6 z7 z8 z9 z10 z11 z12 z13 z14 z15)] w fun e w' => e = .returned .nilIface ∧ Below w.heap.size w w' := by
  unfold tsArr
  go_enter Ybaf.func11, Ybaf.ntmps11
  go_wp2
  go_ret
  exact ⟨rfl, (Below.refl _ _).alloc (Nat.le_refl _) _⟩

/-- The whole millisecond at or above. -/
def ceilMs (wall : Nat) : Nat := (wall + 999999) / 1000000

theorem wpList_load_midA {P : Program} {ops : Array Oper} {rest : List Oper} {op : Oper} {a : Act} {w : World} {Q : Exit → Act → World → Prop} (hgd : op.guard = none) (ty : TypeId) (x : Operand) (ho : op.op = .load ty x)
    (b o : Nat) (hx : a.eval x = .pointer (some ⟨b, o, none⟩)) (cs : Array Value) (d : TypeDesc) (hc : w.rangeAt b o cs.toList)
    (hu : P.underlying ty = some d) (hd : d.isRow = true) (hi : (P.info? ty).map (·.size) = some cs.size)
    (h : wpList P ops Q rest (a.put op.dst (.agg cs)) w) : wpList P ops Q (op :: rest) a w :=
  wpList_load_mid hgd ty x ho b o hx cs.toList d hc hu hd (by simpa using hi) (by simpa using h)

theorem Pads.most {x width k W : Nat} (h : Pads x width k) (hW : width ≤ W) (hx : x < 10 ^ W) : k ≤ W := by
  rcases h.least with e | e
  · omega
  · apply Nat.le_of_not_lt
    intro hlt
    have : x / 10 ^ (k - 1) = 0 := Nat.div_eq_of_lt (Nat.lt_of_lt_of_le hx (Nat.pow_le_pow_right (by omega) (by omega)))
    omega

theorem padded_n (g cap n : Nat) (bs : List UInt8) (x width W : Nat) (w : World) (hF : Fit w g cap bs) (hn : bs.length = n) (hx : x < 10 ^ W) (hW : width ≤ W) (hW2 : W ≤ 19) (hw0 : 1 ≤ width) (hroom : n + W ≤ cap) :
    Calls Ybaf.prog 13 #[.slice (some ⟨g, 0, none⟩) n cap, .int .u64 (x : Int), .int .i64 (width : Int)] w fun e w' =>
      ∃ k, Pads x width k ∧ k ≤ W ∧ e = .returned (.slice (some ⟨g, 0, none⟩) (n + k) cap) ∧ Fit w' g cap (bs ++ dig x k) ∧ Only w w' g := by
  subst hn
  have h19 : 10 ^ W ≤ 10 ^ 19 := Nat.pow_le_pow_right (by omega) hW2
  refine (appendPadded_fit g cap bs x width w hF (by omega) hw0 (by omega) (fun k hk => by have := Pads.most hk hW hx; omega)).mono ?_
  rintro e w' ⟨k, hk, rfl, h1, h2⟩
  exact ⟨k, hk, Pads.most hk hW hx, rfl, h1, h2⟩

theorem ts_get (w : World) (wall lg : Int) (z0 z1 z2 z3 z4 z5 z6 z7 z8 z9 z10 z11 z12 z13 z14 z15 : UInt8) (w1 : World) (hb : Below (w.alloc (.cells (tsArr wall lg z0 z1 z2 z3 z4 z5 z6 z7 z8 z9 z10 z11 z12 z13 z14 z15) 26)).heap.size (w.alloc (.cells (tsArr wall lg z0 z1 z2 z3 z4 z5 z6 z7 z8 z9 z10 z11 z12 z13 z14 z15) 26)) w1) :
    w1.cell? ⟨w.heap.size, 0, none⟩ = some (.int .i64 wall) ∧ w1.cell? ⟨w.heap.size, 1, none⟩ = some (.int .u32 lg) ∧ w1.rangeAt w.heap.size 2 (nodeArr z0 z1 z2 z3 z4 z5 z6 z7 z8 z9 z10 z11 z12 z13 z14 z15).toList := by
  have e : ∀ j, w1.cell? ⟨w.heap.size, j, none⟩ = (tsArr wall lg z0 z1 z2 z3 z4 z5 z6 z7 z8 z9 z10 z11 z12 z13 z14 z15)[j]? := fun j => (hb.cell (p := ⟨w.heap.size, j, none⟩) (by simp)).trans (World.cell?_alloc_new w _ _ j)
  refine ⟨e 0, e 1, fun j v hj => ?_⟩
  rw [e]
  have h16 : j < 16 := (List.getElem?_eq_some_iff.1 hj).1
  match j, h16, hj with
  | 0, _, hj => exact hj
  | 1, _, hj => exact hj
  | 2, _, hj => exact hj
  | 3, _, hj => exact hj
  | 4, _, hj => exact hj
  | 5, _, hj => exact hj
  | 6, _, hj => exact hj
  | 7, _, hj => exact hj
  | 8, _, hj => exact hj
  | 9, _, hj => exact hj
  | 10, _, hj => exact hj
  | 11, _, hj => exact hj
  | 12, _, hj => exact hj
  | 13, _, hj => exact hj
  | 14, _, hj => exact hj
  | 15, _, hj => exact hj
  | n + 16, h, _ => exact absurd h (by omega)

theorem range_only {w w' : World} {g b o : Nat} {cs : List Value} (h : w.rangeAt b o cs) (hO : Only w w' g) (hb : b < w.heap.size) (hne : b ≠ g) : w'.rangeAt b o cs := fun j v hj => (hO.cell hb hne).trans (h j v hj)

theorem fit_string_n {w : World} {g cap n : Nat} {bs : List UInt8} (h : Fit w g cap bs) (hn : bs.length = n) : (convert 33 9 (.slice (some ⟨g, 0, none⟩) n cap)).run Ybaf.prog w = .ok (.string ⟨bs.toArray⟩) w := by
  subst hn
  exact fit_string h

/-- The text. -/
def mqtt (m lg k : Nat) (zs : List UInt8) : List UInt8 := dig m 15 ++ [58] ++ dig lg k ++ [58] ++ uu zs 36
def mqttStr (m lg k : Nat) (zs : List UInt8) : ByteArray := ⟨(mqtt m lg k zs).toArray⟩

theorem fit63 (w : World) (cs : Array Value) (h : cs.size = 63) : Fit (w.alloc (.cells cs 60)) w.heap.size 63 [] := by
  have := Fit.ofNew w cs 60 (by rw [h]; simp [maxLen])
  rwa [h] at this

set_option maxRecDepth 100000 in
set_option maxHeartbeats 1600000 in
theorem format_ok (wall lg m : Nat) (z0 z1 z2 z3 z4 z5 z6 z7 z8 z9 z10 z11 z12 z13 z14 z15 : UInt8) (w : World) (hw : wall ≤ 9223372036854000000) (hl : lg ≤ 4294967295) (hm : ceilMs wall = m) :
    Calls Ybaf.prog 6 #[.agg (tsArr (wall : Int) (lg : Int) z0 z1 z2 z3 z4 z5 z6 z7 z8 z9 z10 z11 z12 z13 z14 z15)] w fun e w' =>
      ∃ k, Pads lg 5 k ∧ e = .returned (.tuple #[.string (mqttStr m lg k [z0, z1, z2, z3, z4, z5, z6, z7, z8, z9, z10, z11, z12, z13, z14, z15]), .nilIface]) ∧ Below w.heap.size w w' := by
  unfold ceilMs at hm
  have hA1 : (w.alloc (.cells (tsArr (wall : Int) (lg : Int) z0 z1 z2 z3 z4 z5 z6 z7 z8 z9 z10 z11 z12 z13 z14 z15) 26)).heap[w.heap.size]? = some (.cells (tsArr (wall : Int) (lg : Int) z0 z1 z2 z3 z4 z5 z6 z7 z8 z9 z10 z11 z12 z13 z14 z15) 26 (0, 0)) := heap_alloc_new w _
  go_enter Ybaf.func6, Ybaf.ntmps6
  go_wp2_with (first
    | ((with_reducible refine wpList_load_row rfl 26 _ rfl w.heap.size ?_ 26 (tsArr (wall : Int) (lg : Int) z0 z1 z2 z3 z4 z5 z6 z7 z8 z9 z10 z11 z12 z13 z14 z15) (0, 0) _ ?_ Ybaf.underlying26 ?_ ?_ ?_); (exact rfl); (exact hA1); (exact rfl); kernel_rfl))
  refine (checkWall_ok (wall : Int) (lg : Int) z0 z1 z2 z3 z4 z5 z6 z7 z8 z9 z10 z11 z12 z13 z14 z15 _ (by omega)).mono ?_
  rintro e w1 ⟨rfl, hb1⟩
  obtain ⟨c0, c1, c2⟩ := ts_get w _ _ _ _ _ _ _ _ _ _ _ _ _ _ _ _ _ _ w1 hb1
  have HR : Hid (w1.rangeAt w.heap.size 2 (nodeArr z0 z1 z2 z3 z4 z5 z6 z7 z8 z9 z10 z11 z12 z13 z14 z15).toList) := c2
  have hb : Below w.heap.size w w1 := ((Below.refl _ _).alloc (Nat.le_refl _) _).trans (hb1.mono (by simp))
  have hN : w.heap.size < w1.heap.size := by have := hb1.size; simp at this; omega
  clear hA1 c2 hb1
  have hm15 : m ≤ 9223372036854 := by omega
  go_upto_if 29 with fail
  go_cut [5] from 30 to 31 (fun v wx => v = .int .i64 (m : Int) ∧ wx = w1)
  case first =>
    by_cases hz : wall % 1000000 = 0
    · have hz' : ((wall : Int) % 1000000 != 0) = false := by rw [bne_eq_false_iff_eq]; omega
      go_wp2_with fail
      go_meet
      exact ⟨by congr 1; omega, rfl⟩
    · have hz' : ((wall : Int) % 1000000 != 0) = true := by rw [bne_iff_ne]; omega
      go_wp2_with fail
      go_meet
      exact ⟨by congr 1; omega, rfl⟩
  case rest =>
    obtain ⟨rfl, rfl⟩ := hcut
    obtain ⟨i0, hi0, hz0, hz1, hz2⟩ := info_parts Ybaf.info5
    go_wp2_with fail
    refine (padded_n wc.heap.size 63 0 [] m 15 15 _ (fit63 wc _ rfl) rfl (by omega) (Nat.le_refl _) (by omega) (by omega) (by omega)).mono ?_
    rintro e w2 ⟨k1, hp1, -, rfl, hF2, hO2⟩
    obtain rfl : k1 = 15 := hp1.width (by omega)
    have hb2 : Below wc.heap.size wc w2 := ((Below.refl _ _).alloc (Nat.le_refl _) _).trans (hO2.below (by simp) (Nat.le_refl _))
    have hs2 : wc.heap.size < w2.heap.size := by have := hO2.size; simp at this; omega
    clear hO2 hp1 c0
    go_wp2_with (at_builtin; refine wpList_append_fit1 _ rfl _ _ 33 33 rfl 5 5 i0 Ybaf.underlying33 Ybaf.underlying33 hi0 hz1 wc.heap.size 63 15 ([] ++ dig m 15) (by simp [dig_length]) rfl _ _ _ rfl rfl 58 rfl hF2 (by omega) ?_; intro w3 hF3 hO3; have hb3 : Below wc.heap.size wc w3 := hb2.trans (hO3.below hb2.size (Nat.le_refl _)); have c1' : w3.cell? ⟨w.heap.size, 1, none⟩ = some (.int .u32 (lg : Int)) := (hb3.cell (p := ⟨w.heap.size, 1, none⟩) hN).trans c1)
    refine (padded_n wc.heap.size 63 16 _ lg 5 10 _ hF3 (by simp [dig_length]) (by omega) (by omega) (by omega) (by omega) (by omega)).mono ?_
    rintro e w4 ⟨k, hp, hk, rfl, hF4, hO4⟩
    have hb4 : Below wc.heap.size wc w4 := hb3.trans (hO4.below hb3.size (Nat.le_refl _))
    clear hO4 hF3 hO3 hF2 hb2 c1 c1'
    go_wp2_with (first
      | (at_builtin; refine wpList_append_fit1 _ rfl _ _ 33 33 rfl 5 5 i0 Ybaf.underlying33 Ybaf.underlying33 hi0 hz1 wc.heap.size 63 (16 + k) ([] ++ dig m 15 ++ [58] ++ dig lg k) (by simp [dig_length]; omega) rfl _ _ _ rfl rfl 58 rfl hF4 (by omega) ?_; intro w5 hF5 hO5; have hb5 : Below wc.heap.size wc w5 := hb4.trans (hO5.below hb4.size (Nat.le_refl _)); have HR5 : w5.rangeAt w.heap.size 2 (nodeArr z0 z1 z2 z3 z4 z5 z6 z7 z8 z9 z10 z11 z12 z13 z14 z15).toList := fun j v hj => (hb5.cell (p := ⟨w.heap.size, 2 + j, none⟩) hN).trans (HR.out j v hj))
      | ((with_reducible refine wpList_load_midA rfl 24 _ rfl w.heap.size 2 ?_ (nodeArr z0 z1 z2 z3 z4 z5 z6 z7 z8 z9 z10 z11 z12 z13 z14 z15) _ ?_ Ybaf.underlying24 ?_ ?_ ?_); (exact rfl); (exact HR5); (exact rfl); kernel_rfl))
    refine (uuid_fit wc.heap.size 63 (16 + k + 1) _ z0 z1 z2 z3 z4 z5 z6 z7 z8 z9 z10 z11 z12 z13 z14 z15 _ hF5 (by simp [dig_length]; omega) (by omega)).mono ?_
    rintro e w6 ⟨rfl, hF6, hO6⟩
    have hb6 : Below wc.heap.size wc w6 := hb5.trans (hO6.below hb5.size (Nat.le_refl _))
    have hB : Below w.heap.size w w6 := hb.trans (hb6.mono hb.size)
    have hl6 : ([] ++ dig m 15 ++ [58] ++ dig lg k ++ [58] ++ uu [z0, z1, z2, z3, z4, z5, z6, z7, z8, z9, z10, z11, z12, z13, z14, z15] 36).length = 16 + k + 1 + 36 := by simp [dig_length, uu_length]; omega
    have hs : (convert 33 9 (.slice (some ⟨wc.heap.size, 0, none⟩) (16 + k + 1 + 36) 63)).run Ybaf.prog w6 = .ok (.string (mqttStr m lg k [z0, z1, z2, z3, z4, z5, z6, z7, z8, z9, z10, z11, z12, z13, z14, z15])) w6 := fit_string_n hF6 hl6
    clear hl6
    clear hF6 hO6 hF5 hO5 HR5 HR hF4
    go_wp2_with fail
    go_ret2
    exact ⟨k, hp, rfl, hB⟩
end Go.Proofs.YbulkaypkFmt
