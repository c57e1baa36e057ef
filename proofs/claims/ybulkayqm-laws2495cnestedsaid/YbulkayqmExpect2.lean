/-
  SEAT b2495a: zzs2495cexpect (10).
-/
import Derived.Test.YbulkayqmExpect
namespace Go.Proofs.Ybulkayqm
open Go.RowKit Go.Bufs

theorem take_snoc {α : Type} (ms : List α) (k : Nat) (p : α) (h : ms[k]? = some p) : ms.take (k + 1) = ms.take k ++ [p] := by
  rw [List.take_add_one, h]; rfl

set_option maxRecDepth 100000 in
set_option maxHeartbeats 1600000 in
theorem expect_some (b off c : Nat) (ms : List (ByteArray × Int)) (m : ByteArray) (g y : Int) (w : World) (hb : b < w.heap.size) (hn : ms.length ≤ 2000)
    (hc : ∀ j u, (mc ms)[j]? = some u → w.cell? ⟨b, off + j, none⟩ = some u) :
    Calls Yba.prog 10 #[.slice (some ⟨b, off, none⟩) ms.length c, .string m, .int .i64 g, .int .i64 y] w fun e w' =>
      ∃ v', e = .returned v' ∧ Buf w' 2 v' (ms.length + (meas m g y).length) (mc (ms ++ meas m g y)) ∧ Below w.heap.size w w' := by
  have HC : Hid (∀ j u, (mc ms)[j]? = some u → w.cell? ⟨b, off + j, none⟩ = some u) := hc
  clear hc
  obtain ⟨i0, hi0, hz0, hz1, hz2⟩ := info_parts Yba.info63
  go_enter Yba.func10, Yba.ntmps10
  go_wp2_with (at_make; refine wpList_make_own _ rfl _ _ 41 rfl w.heap.size 63 i0 _ 2 Yba.underlying41 hi0 hz0 hz1 _ _ _ (ms.length + 2) rfl rfl (by omega) (by rw [hz2]; omega) (by unfold maxLen; omega) (Nat.le_refl _) ?_; intro w1 hown1 hgrow1; have hG1 := Grew.made 0 (ms.length + 2) hgrow1; have hB1 := Buf.ofOwns hown1; clear hown1 hgrow1)
  go_loopw [9, 10] (fun u i wr => ∃ k : Nat, k ≤ ms.length ∧ i = .int .i64 (k : Int) ∧ Buf wr 2 u k (mc (ms.take k)) ∧ Grew w.heap.size w wr u) (fun _ i _ => ms.length - (intOf i).toNat)
  case atStart => exact ⟨0, Nat.zero_le _, rfl, by simpa [mc_nil] using hB1, hG1⟩
  case round =>
    obtain ⟨k, hk, rfl, hBu, hGu⟩ := hrel
    clear hB1 hG1
    by_cases hlt : k < ms.length
    · obtain ⟨p, hp⟩ : ∃ p, ms[k]? = some p := ⟨_, List.getElem?_eq_getElem hlt⟩
      obtain ⟨p1, p2⟩ := mc_get ms k p hp
      have h1 : wr.cell? ⟨b, off + k * 2, none⟩ = some (.string p.1) := by rw [hGu.below.cell (p := ⟨b, off + k * 2, none⟩) hb, Nat.mul_comm]; exact HC.out _ _ p1
      have h2 : wr.cell? ⟨b, off + k * 2 + 1, none⟩ = some (.int .i64 p.2) := by rw [hGu.below.cell (p := ⟨b, off + k * 2 + 1, none⟩) hb, Nat.mul_comm, Nat.add_assoc]; exact HC.out _ _ p2
      have HP : Hid (ms[k]? = some p) := hp
      clear hp p1 p2
      go_wp2_with (at_builtin; refine wpList_append_pair _ rfl _ _ 41 41 rfl 63 63 i0 _ 24 Yba.underlying41 Yba.underlying41 hi0 hz0 hz1 hz2 rfl _ k _ rfl _ _ _ _ rfl _ rfl rfl rfl rfl hBu (by unfold maxLen; omega) (by omega) ?_; intro v2 w2 hB2 hS2 hG2)
      go_roundw
      case rel => exact ⟨k + 1, by omega, by go_num, by rw [take_snoc ms k p HP.out, mc_append]; exact hB2, hGu.step hS2⟩
      case measure => simp [intOf]; omega
    · obtain rfl : k = ms.length := by omega
      rw [List.take_length] at hBu
      by_cases hg : g = 0
      · subst hg
        go_wp2_with (at_builtin; refine wpList_append_pair _ rfl (.tmp 28) (.tmp 32) 41 41 rfl 63 63 i0 _ 24 Yba.underlying41 Yba.underlying41 hi0 hz0 hz1 hz2 rfl _ ms.length _ rfl _ _ _ _ rfl _ rfl rfl rfl rfl hBu (by unfold maxLen; omega) (by omega) ?_; intro v2 w2 hB2 hS2 hG2)
        go_ret
        refine ⟨v2, rfl, ?_, (hGu.step hS2).below⟩
        have e : meas m 0 y = [(m, y)] := by simp [meas]
        rw [e, mc_append, mc_one]
        exact hB2
      · have hg0 : (g != 0) = true := by simp [hg]
        go_wp2_with (first
          | (at_builtin; refine wpList_append_pair _ rfl (.tmp 28) (.tmp 32) 41 41 rfl 63 63 i0 _ 24 Yba.underlying41 Yba.underlying41 hi0 hz0 hz1 hz2 rfl _ ms.length _ rfl _ _ _ _ rfl _ rfl rfl rfl rfl hBu (by unfold maxLen; omega) (by omega) ?_; intro v2 w2 hB2 hS2 hG2)
          | (at_builtin; refine wpList_append_pair _ rfl (.tmp 36) (.tmp 40) 41 41 rfl 63 63 i0 _ 24 Yba.underlying41 Yba.underlying41 hi0 hz0 hz1 hz2 rfl _ (ms.length + 1) _ rfl _ _ _ _ rfl _ rfl rfl rfl rfl hB2 (by unfold maxLen; omega) (by omega) ?_; intro v3 w3 hB3 hS3 hG3))
        go_ret
        refine ⟨v3, rfl, ?_, ((hGu.step hS2).step hS3).below⟩
        have e : meas m g y = [(m, y), (m, g)] := by simp [meas, hg]
        have e2 : mc ms ++ mc [(m, y), (m, g)] = mc ms ++ [.string m, .int .i64 y] ++ [.string m, .int .i64 g] := by simp [mc]
        rw [e, mc_append, e2]
        exact hB3

set_option maxRecDepth 100000 in
set_option maxHeartbeats 1600000 in
theorem expect_none (a : Option Addr) (c : Nat) (m : ByteArray) (g y : Int) (w : World) :
    Calls Yba.prog 10 #[.slice a 0 c, .string m, .int .i64 g, .int .i64 y] w fun e w' =>
      ∃ v', e = .returned v' ∧ Buf w' 2 v' (0 + (meas m g y).length) (mc ([] ++ meas m g y)) ∧ Below w.heap.size w w' := by
  obtain ⟨i0, hi0, hz0, hz1, hz2⟩ := info_parts Yba.info63
  go_enter Yba.func10, Yba.ntmps10
  go_wp2_with (at_make; refine wpList_make_own _ rfl _ _ 41 rfl w.heap.size 63 i0 _ 2 Yba.underlying41 hi0 hz0 hz1 _ _ _ 2 rfl rfl (by omega) (by rw [hz2]; omega) (by unfold maxLen; omega) (Nat.le_refl _) ?_; intro w1 hown1 hgrow1; have hG1 := Grew.made 0 2 hgrow1; have hB1 := Buf.ofOwns hown1; clear hown1 hgrow1)
  go_loopw [9, 10] (fun u i wr => i = .int .i64 0 ∧ Buf wr 2 u 0 (mc []) ∧ Grew w.heap.size w wr u) (fun _ _ _ => 0)
  case atStart => exact ⟨rfl, hB1, hG1⟩
  case round =>
    obtain ⟨rfl, hBu, hGu⟩ := hrel
    clear hB1 hG1
    by_cases hg : g = 0
    · subst hg
      go_wp2_with (at_builtin; refine wpList_append_pair _ rfl (.tmp 28) (.tmp 32) 41 41 rfl 63 63 i0 _ 24 Yba.underlying41 Yba.underlying41 hi0 hz0 hz1 hz2 rfl _ 0 _ rfl _ _ _ _ rfl _ rfl rfl rfl rfl hBu (by unfold maxLen; omega) (by omega) ?_; intro v2 w2 hB2 hS2 hG2)
      go_ret
      refine ⟨v2, rfl, ?_, (hGu.step hS2).below⟩
      have e : meas m 0 y = [(m, y)] := by simp [meas]
      rw [e]
      simpa [mc] using hB2
    · have hg0 : (g != 0) = true := by simp [hg]
      go_wp2_with (first
        | (at_builtin; refine wpList_append_pair _ rfl (.tmp 28) (.tmp 32) 41 41 rfl 63 63 i0 _ 24 Yba.underlying41 Yba.underlying41 hi0 hz0 hz1 hz2 rfl _ 0 _ rfl _ _ _ _ rfl _ rfl rfl rfl rfl hBu (by unfold maxLen; omega) (by omega) ?_; intro v2 w2 hB2 hS2 hG2)
        | (at_builtin; refine wpList_append_pair _ rfl (.tmp 36) (.tmp 40) 41 41 rfl 63 63 i0 _ 24 Yba.underlying41 Yba.underlying41 hi0 hz0 hz1 hz2 rfl _ (0 + 1) _ rfl _ _ _ _ rfl _ rfl rfl rfl rfl hB2 (by unfold maxLen; omega) (by omega) ?_; intro v3 w3 hB3 hS3 hG3))
      go_ret
      refine ⟨v3, rfl, ?_, ((hGu.step hS2).step hS3).below⟩
      have e : meas m g y = [(m, y), (m, g)] := by simp [meas, hg]
      rw [e]
      simpa [mc] using hB3
end Go.Proofs.Ybulkayqm
