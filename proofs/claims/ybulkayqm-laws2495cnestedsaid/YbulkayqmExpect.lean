/-
  SEAT b2495a: zzs2495cclone (8), zzs2495cexpect (10), zzs2495ceq (11).
-/
import Derived.Test.YbulkayqmMetric
import Derived.Deep.QuietTactic
import Derived.BigQuiet
namespace Go.Proofs.Ybulkayqm
open Go.RowKit Go.Bufs

/-- WHAT THE WALKS ARE TOLD OF A []MetricYear: no element, or it leads to a row of cells. -/
def Rd (w : World) (a : Option Addr) (ms : List (ByteArray × Int)) : Prop :=
  ms = [] ∨ ∃ b off, a = some ⟨b, off, none⟩ ∧ b < w.heap.size ∧ ∀ j u, (mc ms)[j]? = some u → w.cell? ⟨b, off + j, none⟩ = some u

theorem Rd.below {w w' : World} {a : Option Addr} {ms : List (ByteArray × Int)} (h : Rd w a ms) (hb : Below w.heap.size w w') : Rd w' a ms := by
  rcases h with h | ⟨b, off, rfl, hlt, hc⟩
  · exact .inl h
  · exact .inr ⟨b, off, rfl, Nat.lt_of_lt_of_le hlt hb.size, fun j u hj => (hb.cell (p := ⟨b, off + j, none⟩) hlt).trans (hc j u hj)⟩

theorem Rd.ofBuf {w : World} {v : Value} {n : Nat} {ms : List (ByteArray × Int)} (h : Buf w 2 v n (mc ms)) : ∃ a c, v = .slice a n c ∧ ms.length = n ∧ Rd w a ms := by
  have hl := h.1
  rw [mc_length] at hl
  rcases h.2 with ⟨rfl, rfl⟩ | ⟨g, cap, rfl, _, _, hg, hc, _⟩
  · exact ⟨none, 0, rfl, by omega, .inl (List.eq_nil_of_length_eq_zero (by omega))⟩
  · exact ⟨_, cap, rfl, by omega, .inr ⟨g, 0, rfl, hg, fun j u hj => by rw [Nat.zero_add]; exact hc j u hj⟩⟩

/-- As a source. -/
theorem Rd.src {w : World} {a : Option Addr} {ms : List (ByteArray × Int)} (h : Rd w a ms) (c : Nat) : Src Yba.prog 2 41 (.slice a ms.length c) ms.length (mc ms) w := by
  rcases h with rfl | ⟨b, off, rfl, hlt, hc⟩
  · cases a with
    | none => exact Src.ofNil w Yba.underlying41 c
    | some x => exact Src.ofSlice w Yba.underlying41 x 0 c [] (by simp) (fun j u hj => by simp at hj) (fun u hu => by cases hu)
  · exact Src.ofSlice w Yba.underlying41 ⟨b, off, none⟩ _ c _ (mc_length ms) (fun j u hj => by rw [Addr.add_lit]; exact hc j u hj) (mc_oneCell ms)

theorem buf_there {w : World} {g n m : Nat} {xs : List Value} (h : Buf w 2 (.slice (some ⟨g, 0, none⟩) n m) n xs) : g < w.heap.size ∧ ∀ j, j < m * 2 → (w.cell? ⟨g, j, none⟩).isSome = true ∧ w.frozen? ⟨g, j, none⟩ = false := by
  rcases h.2 with ⟨h', _⟩ | ⟨g', cap, h', _, _, hg, _, hf⟩
  · cases h'
  · simp only [Value.slice.injEq, Option.some.injEq, Addr.mk.injEq, and_true, true_and] at h'
    obtain ⟨rfl, rfl⟩ := h'
    exact ⟨hg, hf⟩

set_option maxRecDepth 100000 in
set_option maxHeartbeats 800000 in
theorem clone_nil (w : World) : Calls Yba.prog 8 #[.slice none 0 0] w fun e w' => e = .returned (.slice none 0 0) ∧ w' = w := by
  have q41 : ∀ (w : World) (a : Option Addr) (n c : Nat), (binOp .eql 41 (.slice a n c) (.slice none 0 0)).run Yba.prog w = .ok (.bool a.isNone) w := fun w a n c => Lib.run_eql_slice_nil w _ _ _ _ _ _ _ Yba.underlying41
  go_enter Yba.func8, Yba.ntmps8
  go_wp2
  go_ret
  exact ⟨rfl, rfl⟩

set_option maxRecDepth 100000 in
set_option maxHeartbeats 800000 in
theorem clone_some (x : Addr) (c : Nat) (ms : List (ByteArray × Int)) (w : World) (hR : Rd w (some x) ms) (hn : ms.length ≤ 1024) :
    Calls Yba.prog 8 #[.slice (some x) ms.length c] w fun e w' => ∃ g, e = .returned (.slice (some ⟨g, 0, none⟩) ms.length ms.length) ∧ Buf w' 2 (.slice (some ⟨g, 0, none⟩) ms.length ms.length) ms.length (mc ms) ∧ Below w.heap.size w w' ∧ w.heap.size ≤ g := by
  have q41 : ∀ (w : World) (a : Option Addr) (n c : Nat), (binOp .eql 41 (.slice a n c) (.slice none 0 0)).run Yba.prog w = .ok (.bool a.isNone) w := fun w a n c => Lib.run_eql_slice_nil w _ _ _ _ _ _ _ Yba.underlying41
  obtain ⟨i0, hi0, hz0, hz1, hz2⟩ := info_parts Yba.info63
  go_enter Yba.func8, Yba.ntmps8
  go_wp2_with (first
    | (at_make; refine wpList_make_full _ rfl _ _ 41 rfl w.heap.size 63 i0 _ 2 Yba.underlying41 hi0 hz0 hz1 _ _ _ _ ms.length rfl rfl rfl rfl (by rw [hz2]; omega) (by unfold maxLen; omega) (Nat.le_refl _) ?_; intro w1 hown1 hgrow1; have hG1 := Grew.made ms.length ms.length hgrow1; have hB1 := Buf.ofOwns hown1; have hR1 := hR.below hG1.below; have hth := buf_there hB1; clear hown1 hgrow1)
    | ((with_reducible refine wpList_copy_buf _ rfl _ _ 41 41 rfl 63 i0 2 Yba.underlying41 hi0 hz1 w.heap.size ms.length ?_ ?_ ?_ ?_ (.slice (some x) ms.length c) (mc ms) ?_ ?_ ?_); (exact rfl); (unfold maxLen; omega); (exact hth.1); (exact hth.2); (exact rfl); (exact hR1.src c); intro w2 hB2 hG2))
  go_ret
  exact ⟨w.heap.size, rfl, hB2, hG1.below.trans ⟨hG2.os, hG2.tape, hG2.output, hG2.size, fun k hk => hG2.block k (Nat.lt_of_lt_of_le hk hG1.size) (fun e => by cases e; omega)⟩, Nat.le_refl _⟩
end Go.Proofs.Ybulkayqm
