/-
  SEAT b2494a: binary.AppendUvarint (11), appendName (10).
-/
import Derived.Test.YbulkaypyRows
import Derived.Test.YbulkaypyBuf
import Derived.WalkSpells
import Derived.WalkLawsBesides
namespace Go.Proofs.Ybulkaypy
open Go.RowKit Go.Bufs

theorem Yba.info5 : (Yba.prog.info? 5).map (fun i => (i.zero, i.size, i.bytes)) = some (some (.int .u8 0), 1, 1) := by kernel_rfl

/-- A byte of a varint that is not the last. -/
def moreByte (x : Nat) : Int := bits .or .u8 ((x % 256 : Nat) : Int) 128

/-- The first k bytes of a varint. -/
def vfirst (x k : Nat) : List Value := (List.range k).map fun i => Value.int .u8 (moreByte (x / 128 ^ i))
theorem vfirst_length (x k : Nat) : (vfirst x k).length = k := by simp [vfirst]
theorem vfirst_succ (x k : Nat) : vfirst x (k + 1) = vfirst x k ++ [.int .u8 (moreByte (x / 128 ^ k))] := by simp [vfirst, List.range_succ]

/-- How many bytes ahead of the last. -/
structure VLen (x k : Nat) : Prop where
  last : x / 128 ^ k < 128
  more : k = 0 ∨ 128 ≤ x / 128 ^ (k - 1)

theorem VLen.le {x k k' : Nat} (h : VLen x k) (h' : VLen x k') : k ≤ k' := by
  apply Nat.le_of_not_lt
  intro hlt
  rcases h.more with e | e
  · omega
  · have hd : x / 128 ^ (k - 1) ≤ x / 128 ^ k' := Nat.div_le_div_left (Nat.pow_le_pow_right (by omega) (by omega)) (Nat.pow_pos (by omega))
    have := h'.last
    omega
theorem VLen.unique {x k k' : Nat} (h : VLen x k) (h' : VLen x k') : k = k' := Nat.le_antisymm (h.le h') (h'.le h)

/-- A varint's cells. -/
def vcells (x k : Nat) : List Value := vfirst x k ++ [.int .u8 ((x / 128 ^ k : Nat) : Int)]
theorem vcells_length (x k : Nat) : (vcells x k).length = k + 1 := by simp [vcells, vfirst_length]

theorem div128 (x k : Nat) : x / 128 ^ k / 128 = x / 128 ^ (k + 1) := by rw [Nat.div_div_eq_div_mul, Nat.pow_succ]
theorem vround_lt (x k : Nat) (hx : x ≤ 4096) (h : 128 ≤ x / 128 ^ k) : k < 2 := by
  apply Nat.lt_of_not_le
  intro hle
  have h2 : 128 ^ 2 ≤ 128 ^ k := Nat.pow_le_pow_right (by omega) hle
  have : x / 128 ^ k = 0 := Nat.div_eq_of_lt (by omega)
  omega

set_option maxRecDepth 100000 in
set_option maxHeartbeats 800000 in
theorem uvarint_any (v : Value) (n x : Nat) (xs : List Value) (w : World) (hB : Buf w 1 v n xs) (hx : x ≤ 4096) (hn : n ≤ 100000) :
    Calls Yba.prog 11 #[v, .int .u64 x] w fun e w' => ∃ k v', VLen x k ∧ k ≤ 2 ∧ e = .returned v' ∧ Buf w' 1 v' (n + (k + 1)) (xs ++ vcells x k) ∧ Step w w' v v' := by
  obtain ⟨i0, hi0, hz0, hz1, hz2⟩ := info_parts Yba.info5
  go_enter Yba.func11, Yba.ntmps11
  go_wp2
  go_loopw [0, 1] (fun u y wr => ∃ k q : Nat, Hid (x / 128 ^ k = q) ∧ k ≤ 2 ∧ q ≤ 4096 ∧ y = .int .u64 (q : Int) ∧ Buf wr 1 u (n + k) (xs ++ vfirst x k) ∧ Step w wr v u ∧ (k = 0 ∨ 128 ≤ x / 128 ^ (k - 1)))
    (fun _ y _ => (intOf y).toNat)
  case atStart => exact ⟨0, x, by simp [Hid], by omega, hx, rfl, by simpa [vfirst] using hB, Step.refl _ _, .inl rfl⟩
  case round =>
    obtain ⟨k, q, Hq, hk, hq, rfl, hBu, hSu, hmin⟩ := hrel
    by_cases h128 : 128 ≤ q
    · have Hk : Hid (128 ≤ x / 128 ^ k) := by rw [Hid, Hq.out]; exact h128
      have hk2 := vround_lt x k hx Hk.out
      go_wp2_with (at_builtin; refine wpList_append_cell _ rfl _ _ 22 22 rfl 5 5 i0 (.int .u8 0) 1 Yba.underlying22 Yba.underlying22 hi0 hz0 hz1 hz2 rfl _ (n + k) _ rfl _ _ _ rfl rfl rfl hBu (by unfold maxLen; omega) (by omega) ?_; intro v2 w2 hB2 hS2)
      go_roundw
      case rel =>
        refine ⟨k + 1, q / 128, by rw [Hid, ← div128, Hq.out], by omega, by omega, by go_num, ?_, hSu.trans hS2, .inr Hk.out⟩
        rw [vfirst_succ, Hq.out, ← List.append_assoc]
        exact hB2
      case measure => simp [intOf]; omega
    · have Hk : Hid (x / 128 ^ k < 128) := by rw [Hid, Hq.out]; omega
      go_wp2_with (at_builtin; refine wpList_append_cell _ rfl _ _ 22 22 rfl 5 5 i0 (.int .u8 0) 1 Yba.underlying22 Yba.underlying22 hi0 hz0 hz1 hz2 rfl _ (n + k) _ rfl _ _ _ rfl rfl rfl hBu (by unfold maxLen; omega) (by omega) ?_; intro v2 w2 hB2 hS2)
      go_ret
      refine ⟨k, v2, ⟨Hk.out, hmin⟩, hk, rfl, ?_, hSu.trans hS2⟩
      rw [vcells, Hq.out, ← List.append_assoc]
      exact hB2

set_option maxRecDepth 100000 in
set_option maxHeartbeats 800000 in
theorem appendName_any (v : Value) (n : Nat) (key : ByteArray) (xs : List Value) (w : World) (hB : Buf w 1 v n xs) (hx : key.size ≤ 4096) (hn : n ≤ 100000) :
    Calls Yba.prog 10 #[v, .string key] w fun e w' => ∃ k v', VLen key.size k ∧ k ≤ 2 ∧ e = .returned v' ∧ Buf w' 1 v' (n + (k + 1) + key.size) (xs ++ vcells key.size k ++ byteCells key) ∧ Step w w' v v' := by
  obtain ⟨i0, hi0, hz0, hz1, hz2⟩ := info_parts Yba.info5
  go_enter Yba.func10, Yba.ntmps10
  go_wp2_with fail
  refine (uvarint_any v n key.size xs _ hB hx hn).mono ?_
  rintro e w1 ⟨k, v1, hV, hk, rfl, hB1, hS1⟩
  go_wp2_with (at_builtin; refine wpList_append_buf _ rfl _ _ 22 9 rfl 5 i0 (.int .u8 0) 1 1 Yba.underlying22 hi0 hz0 hz1 hz2 rfl _ _ _ rfl hB1 _ key.size (byteCells key) rfl (Src.ofString _ Yba.underlying9 key) (by unfold maxLen; omega) (by omega) ?_; intro v2 w2 hB2 hS2)
  go_ret
  exact ⟨k, v2, hV, hk, rfl, hB2, hS1.trans hS2⟩
end Go.Proofs.Ybulkaypy
