/-
  SEAT b2493aF: LawS2493BCeil (4): the walk.
-/
import Derived.Test.YbulkaypkFmtMqtt
import Derived.Test.YbulkaypkFmtKind
namespace Go.Proofs.YbulkaypkFmt
open Go.RowKit Go.Bufs Plain

set_option maxRecDepth 100000 in
set_option maxHeartbeats 800000 in
theorem ceil_out (wall lg : Int) (z0 z1 z2 z3 z4 z5 z6 z7 z8 z9 z10 z11 z12 z13 z14 z15 : UInt8) (w : World) (h : wall < 0 ∨ 9223372036854000000 < wall) :
    Calls Ybaf.prog 4 #[.int .i64 wall, .int .u32 lg, .agg (nodeArr z0 z1 z2 z3 z4 z5 z6 z7 z8 z9 z10 z11 z12 z13 z14 z15)] w fun e w' => e = .returned (.bool true) ∧ Below w.heap.size w w' := by
  by_cases h0 : wall < 0
  · clear h
    go_enter Ybaf.func4, Ybaf.ntmps4
    go_wp2
    go_ret
    exact ⟨rfl, (Below.refl _ _).alloc (Nat.le_refl _) _⟩
  · have h1 : 9223372036854000000 < wall := by omega
    clear h
    go_enter Ybaf.func4, Ybaf.ntmps4
    go_wp2
    go_ret
    exact ⟨rfl, (Below.refl _ _).alloc (Nat.le_refl _) _⟩

theorem mqtt_size (m lg k : Nat) (zs : List UInt8) : (mqttStr m lg k zs).size = 53 + k := by
  show (mqtt m lg k zs).toArray.size = _
  simp [mqtt, dig_length, uu_length]
  omega

theorem mqtt_get (m lg k : Nat) (zs : List UInt8) (i : Nat) (h : i < (mqttStr m lg k zs).size) (h15 : i < 15) : ((mqttStr m lg k zs)[i]'h).toNat = 48 + m / 10 ^ (14 - i) % 10 := by
  have e : (mqttStr m lg k zs)[i]'h = dbyte m (15 - 1 - i) := by
    have hd := dig_get m 15 i h15
    have hl : (mqtt m lg k zs)[i]? = some (dbyte m (15 - 1 - i)) := by
      unfold mqtt
      rw [List.append_assoc, List.append_assoc, List.append_assoc, List.getElem?_append_left (by rw [dig_length]; exact h15)]
      exact hd
    obtain ⟨h2, h3⟩ := List.getElem?_eq_some_iff.1 hl
    exact h3
  rw [e, dbyte_toNat]

theorem mqtt_15 (m lg k : Nat) (zs : List UInt8) (h : 15 < (mqttStr m lg k zs).size) : ((mqttStr m lg k zs)[15]'h).toNat = 58 := by
  have hl : (mqtt m lg k zs)[15]? = some 58 := by
    unfold mqtt
    rw [List.append_assoc, List.append_assoc, List.append_assoc, List.getElem?_append_right (by rw [dig_length]; omega), dig_length]
    rfl
  obtain ⟨h2, h3⟩ := List.getElem?_eq_some_iff.1 hl
  have e : (mqttStr m lg k zs)[15]'h = 58 := h3
  rw [e]
  rfl

theorem digit_step (m j : Nat) (hj : j < 15) : m / 10 ^ (14 - j) = m / 10 ^ (15 - j) * 10 + m / 10 ^ (14 - j) % 10 := by
  have e : m / 10 ^ (15 - j) = m / 10 ^ (14 - j) / 10 := by rw [div_step, show 14 - j + 1 = 15 - j by omega]
  rw [e]
  omega

set_option maxRecDepth 100000 in
set_option maxHeartbeats 1600000 in
theorem ceil_in (wall lg m : Nat) (z0 z1 z2 z3 z4 z5 z6 z7 z8 z9 z10 z11 z12 z13 z14 z15 : UInt8) (w : World) (hw : wall ≤ 9223372036854000000) (hl : lg ≤ 4294967295) (hm : ceilMs wall = m) :
    Calls Ybaf.prog 4 #[.int .i64 (wall : Int), .int .u32 (lg : Int), .agg (nodeArr z0 z1 z2 z3 z4 z5 z6 z7 z8 z9 z10 z11 z12 z13 z14 z15)] w fun e w' => e = .returned (.bool true) ∧ Below w.heap.size w w' := by
  have hA1 : (w.alloc (.cells (nodeArr z0 z1 z2 z3 z4 z5 z6 z7 z8 z9 z10 z11 z12 z13 z14 z15) 23)).heap[w.heap.size]? = some (.cells (nodeArr z0 z1 z2 z3 z4 z5 z6 z7 z8 z9 z10 z11 z12 z13 z14 z15) 23 (0, 0)) := heap_alloc_new w _
  have hsz : (w.alloc (.cells (nodeArr z0 z1 z2 z3 z4 z5 z6 z7 z8 z9 z10 z11 z12 z13 z14 z15) 23)).heap.size = w.heap.size + 1 := by simp
  have hB0 : ((w.alloc (.cells (nodeArr z0 z1 z2 z3 z4 z5 z6 z7 z8 z9 z10 z11 z12 z13 z14 z15) 23)).alloc (.cells zero26 26)).heap[w.heap.size + 1]? = some (.cells zero26 26 (0, 0)) := by rw [← hsz]; exact heap_alloc_new _ _
  have hB1 : ((w.alloc (.cells (nodeArr z0 z1 z2 z3 z4 z5 z6 z7 z8 z9 z10 z11 z12 z13 z14 z15) 23)).alloc (.cells zero26 26)).setRow (w.heap.size + 1) (tsArr (wall : Int) (lg : Int) z0 z1 z2 z3 z4 z5 z6 z7 z8 z9 z10 z11 z12 z13 z14 z15) = (w.alloc (.cells (nodeArr z0 z1 z2 z3 z4 z5 z6 z7 z8 z9 z10 z11 z12 z13 z14 z15) 23)).alloc (.cells (tsArr (wall : Int) (lg : Int) z0 z1 z2 z3 z4 z5 z6 z7 z8 z9 z10 z11 z12 z13 z14 z15) 26) := by rw [← hsz]; exact setRow_new _ _ _ _
  have hB2 : ((w.alloc (.cells (nodeArr z0 z1 z2 z3 z4 z5 z6 z7 z8 z9 z10 z11 z12 z13 z14 z15) 23)).alloc (.cells (tsArr (wall : Int) (lg : Int) z0 z1 z2 z3 z4 z5 z6 z7 z8 z9 z10 z11 z12 z13 z14 z15) 26)).heap[w.heap.size + 1]? = some (.cells (tsArr (wall : Int) (lg : Int) z0 z1 z2 z3 z4 z5 z6 z7 z8 z9 z10 z11 z12 z13 z14 z15) 26 (0, 0)) := by rw [← hsz]; exact heap_alloc_new _ _
  go_enter Ybaf.func4, Ybaf.ntmps4
  go_wp2_with (first
    | ((with_reducible refine wpList_load_row rfl 23 _ rfl w.heap.size ?_ 23 (nodeArr z0 z1 z2 z3 z4 z5 z6 z7 z8 z9 z10 z11 z12 z13 z14 z15) (0, 0) _ ?_ Ybaf.underlying23 ?_ ?_ ?_); (exact rfl); (exact hA1); (exact rfl); kernel_rfl)
    | ((with_reducible refine wpList_buildTo rfl 26 _ rfl _ rfl (tsArr (wall : Int) (lg : Int) z0 z1 z2 z3 z4 z5 z6 z7 z8 z9 z10 z11 z12 z13 z14 z15) ?_ ?_); kernel_rfl)
    | ((with_reducible refine wpList_store_rowTo rfl 26 _ _ rfl rfl (w.heap.size + 1) (tsArr (wall : Int) (lg : Int) z0 z1 z2 z3 z4 z5 z6 z7 z8 z9 z10 z11 z12 z13 z14 z15) ?_ ?_ 26 zero26 ?_ ?_ ?_ ?_ ?_); (exact rfl); (exact rfl); (exact hB0); kernel_rfl; kernel_rfl; kernel_rfl; rw [hB1])
    | ((with_reducible refine wpList_load_row rfl 26 _ rfl (w.heap.size + 1) ?_ 26 (tsArr (wall : Int) (lg : Int) z0 z1 z2 z3 z4 z5 z6 z7 z8 z9 z10 z11 z12 z13 z14 z15) (0, 0) _ ?_ Ybaf.underlying26 ?_ ?_ ?_); (exact rfl); (exact hB2); (exact rfl); kernel_rfl))
  have hb0 := below_two w (.cells (nodeArr z0 z1 z2 z3 z4 z5 z6 z7 z8 z9 z10 z11 z12 z13 z14 z15) 23) (.cells (tsArr (wall : Int) (lg : Int) z0 z1 z2 z3 z4 z5 z6 z7 z8 z9 z10 z11 z12 z13 z14 z15) 26)
  refine (format_ok wall lg m z0 z1 z2 z3 z4 z5 z6 z7 z8 z9 z10 z11 z12 z13 z14 z15 _ hw hl hm).mono ?_
  rintro e w1 ⟨k, hp, rfl, hb1⟩
  have hb : Below w.heap.size w w1 := hb0.trans (hb1.mono hb0.size)
  have s1 := mqtt_size m lg k [z0, z1, z2, z3, z4, z5, z6, z7, z8, z9, z10, z11, z12, z13, z14, z15]
  have s2 := mqtt_get m lg k [z0, z1, z2, z3, z4, z5, z6, z7, z8, z9, z10, z11, z12, z13, z14, z15]
  have s3 := mqtt_15 m lg k [z0, z1, z2, z3, z4, z5, z6, z7, z8, z9, z10, z11, z12, z13, z14, z15]
  clear hA1 hsz hB0 hB1 hB2 hb0 hb1
  generalize mqttStr m lg k [z0, z1, z2, z3, z4, z5, z6, z7, z8, z9, z10, z11, z12, z13, z14, z15] = S at *
  have S2 : Hid (∀ (i : Nat) (h : i < S.size), i < 15 → (S[i]'h).toNat = 48 + m / 10 ^ (14 - i) % 10) := s2
  clear s2
  have hm15 : m ≤ 9223372036854 := by unfold ceilMs at hm; omega
  go_wp2_with fail
  go_loopw [10, 11] (fun acc i wr => ∃ (j q : Nat), j ≤ 15 ∧ Hid (m / 10 ^ (15 - j) = q) ∧ q ≤ m ∧ acc = .int .u64 (q : Int) ∧ i = .int .i64 (j : Int) ∧ wr = w1) (fun _ i _ => 15 - (intOf i).toNat)
  case atStart => exact ⟨0, 0, by omega, Nat.div_eq_of_lt (by omega), by omega, rfl, rfl, rfl⟩
  case round =>
    obtain ⟨j, q, hj, hq, hqm, rfl, rfl, rfl⟩ := hrel
    by_cases hlt : j < 15
    · obtain ⟨d, hd⟩ : ∃ d, d = m / 10 ^ (14 - j) % 10 := ⟨_, rfl⟩
      obtain ⟨q', hq'⟩ : ∃ q', q' = m / 10 ^ (14 - j) := ⟨_, rfl⟩
      have hd9 : d < 10 := by rw [hd]; exact Nat.mod_lt _ (by omega)
      have hstep : q' = q * 10 + d := by rw [hq', hd, ← hq.out]; exact digit_step m j hlt
      have hqm' : q' ≤ m := by rw [hq']; exact Nat.div_le_self _ _
      have sj : ∀ (h : j < S.size), (S[j]'h).toNat = 48 + d := fun h => by rw [hd]; exact S2.out j h hlt
      have hjk : (j : Int) < 53 + (k : Int) := by omega
      have HQ : Hid (m / 10 ^ (15 - (j + 1)) = q') := by rw [hq', show 15 - (j + 1) = 14 - j by omega]; rfl
      clear hd hq' s3
      go_wp2_with fail
      go_roundw
      case rel => exact ⟨j + 1, q', by omega, HQ, hqm', by congr 1; omega, by go_num, by first | rfl | trivial⟩
      case measure => simp [intOf]; omega
    · obtain rfl : j = 15 := by omega
      obtain rfl : m = q := by have := hq.out; simpa using this
      have hge : (wall : Int) ≤ (m : Int) * 1000000 := by unfold ceilMs at hm; omega
      have hlt2 : (m : Int) * 1000000 - (wall : Int) < 1000000 := by unfold ceilMs at hm; omega
      clear s3
      go_wp2_with fail
      go_ret
      exact ⟨rfl, hb⟩
end Go.Proofs.YbulkaypkFmt
