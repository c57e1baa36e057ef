/-
  SEAT b2494a: zzs2494bmodel (7), zzs2494beq (6).
-/
import Derived.Test.YbulkaypyWalkB
import Derived.Deep.QuietTactic
import Derived.BigQuiet
namespace Go.Proofs.Ybulkaypy
open Go.RowKit Go.Bufs

set_option maxRecDepth 100000 in
set_option maxHeartbeats 1600000 in
theorem model_any (op : Int) (key : ByteArray) (a2 : Option Addr) (len2 cap2 : Nat) (cells : List Value) (w : World) (hx : key.size ≤ 4096) (hl : len2 ≤ 4096)
    (hsrc : ∀ w', Below w.heap.size w w' → Src Yba.prog 1 22 (.slice a2 len2 cap2) len2 cells w') :
    Calls Yba.prog 7 #[.int .u8 op, .string key, .slice a2 len2 cap2] w fun e w' => ∃ k v', VLen key.size k ∧ k ≤ 2 ∧ e = .returned v' ∧ Buf w' 1 v' (1 + (k + 1) + key.size + len2) (cmd op key k cells) ∧ Below w.heap.size w w' := by
  obtain ⟨i0, hi0, hz0, hz1, hz2⟩ := info_parts Yba.info5
  go_enter Yba.func7, Yba.ntmps7
  go_wp2_with (first
    | (at_make; refine wpList_make_own _ rfl _ _ 22 rfl w.heap.size 5 i0 (.int .u8 0) 1 Yba.underlying22 hi0 hz0 hz1 _ _ _ (11 + key.size + len2) rfl rfl (by omega) (by rw [hz2]; omega) (by unfold maxLen; omega) (Nat.le_refl _) ?_; intro w1 hown1 hgrow1; have hG1 := Grew.made (11 + key.size + len2) hgrow1; have hB1 := Buf.ofOwns hown1; clear hown1 hgrow1)
    | (at_builtin; refine wpList_append_cell _ rfl _ _ 22 22 rfl 5 5 i0 (.int .u8 0) 1 Yba.underlying22 Yba.underlying22 hi0 hz0 hz1 hz2 rfl _ 0 _ rfl _ _ _ rfl rfl rfl hB1 (by unfold maxLen; omega) (by omega) ?_; intro v2 w2 hB2 hS2; have hG2 := hG1.step hS2))
  clear hB1 hG1 hS2
  obtain ⟨x, Hx⟩ : ∃ x, Hid (key.size = x) := ⟨_, rfl⟩
  go_loopw [7, 8] (fun u y wr => ∃ k q : Nat, Hid (key.size / 128 ^ k = q) ∧ k ≤ 2 ∧ q ≤ 4096 ∧ y = .int .u64 (q : Int) ∧ Buf wr 1 u (1 + k) ([.int .u8 op] ++ vfirst key.size k) ∧ Grew w.heap.size w wr u ∧ (k = 0 ∨ 128 ≤ key.size / 128 ^ (k - 1)))
    (fun _ y _ => (intOf y).toNat)
  case atStart => exact ⟨0, key.size, by simp [Hid], by omega, hx, rfl, by simpa [vfirst] using hB2, hG2, .inl rfl⟩
  case round =>
    obtain ⟨k, q, Hq, hk, hq, rfl, hBu, hGu, hmin⟩ := hrel
    clear hB2 hG2
    by_cases h128 : 128 ≤ q
    · have Hk : Hid (128 ≤ key.size / 128 ^ k) := by rw [Hid, Hq.out]; exact h128
      have hk2 := vround_lt key.size k hx Hk.out
      go_wp2_with (at_builtin; refine wpList_append_cell _ rfl _ _ 22 22 rfl 5 5 i0 (.int .u8 0) 1 Yba.underlying22 Yba.underlying22 hi0 hz0 hz1 hz2 rfl _ (1 + k) _ rfl _ _ _ rfl rfl rfl hBu (by unfold maxLen; omega) (by omega) ?_; intro v3 w3 hB3 hS3)
      go_roundw
      case rel =>
        refine ⟨k + 1, q / 128, by rw [Hid, ← div128, Hq.out], by omega, by omega, by go_num, ?_, hGu.step hS3, .inr Hk.out⟩
        rw [vfirst_succ, Hq.out, ← List.append_assoc]
        exact hB3
      case measure => simp [intOf]; omega
    · have Hk : Hid (key.size / 128 ^ k < 128) := by rw [Hid, Hq.out]; omega
      go_wp2_with (first
        | (at_builtin; refine wpList_append_cell _ rfl (.tmp 33) (.tmp 36) 22 22 rfl 5 5 i0 (.int .u8 0) 1 Yba.underlying22 Yba.underlying22 hi0 hz0 hz1 hz2 rfl _ (1 + k) _ rfl _ _ _ rfl rfl rfl hBu (by unfold maxLen; omega) (by omega) ?_; intro v3 w3 hB3 hS3)
        | (at_builtin; refine wpList_append_buf _ rfl (.tmp 38) (.tmp 39) 22 9 rfl 5 i0 (.int .u8 0) 1 1 Yba.underlying22 hi0 hz0 hz1 hz2 rfl _ _ _ rfl hB3 _ key.size (byteCells key) rfl (Src.ofString _ Yba.underlying9 key) (by unfold maxLen; omega) (by omega) ?_; intro v4 w4 hB4 hS4; have hG4 := (hGu.step hS3).step hS4; have hs4 := hsrc w4 hG4.below)
        | (at_builtin; refine wpList_append_buf _ rfl (.tmp 41) (.tmp 42) 22 22 rfl 5 i0 (.int .u8 0) 1 1 Yba.underlying22 hi0 hz0 hz1 hz2 rfl _ _ _ rfl hB4 _ len2 cells rfl hs4 (by unfold maxLen; omega) (by omega) ?_; intro v5 w5 hB5 hS5))
      go_ret
      refine ⟨k, v5, ⟨Hk.out, hmin⟩, hk, rfl, ?_, (hG4.step hS5).below⟩
      have e : cmd op key k cells = [.int .u8 op] ++ vfirst key.size k ++ [.int .u8 (q : Int)] ++ byteCells key ++ cells := by
        rw [cmd, vcells, Hq.out]; simp [List.append_assoc]
      rw [e, show 1 + (k + 1) = 1 + k + 1 by omega]
      exact hB5
end Go.Proofs.Ybulkaypy
