/-
  SEAT b2494a: encode (5), zzs2494bmodel (7).
-/
import Derived.Test.YbulkaypyWalkA
namespace Go.Proofs.Ybulkaypy
open Go.RowKit Go.Bufs

/-- The command's cells. -/
def cmd (op : Int) (key : ByteArray) (k : Nat) (cells : List Value) : List Value := [.int .u8 op] ++ vcells key.size k ++ byteCells key ++ cells

/-- Old memory below B is as it was; the value lies at B or above. -/
structure Grew (B : Nat) (w wr : World) (u : Value) : Prop where
  below : Below B w wr
  size : B ≤ wr.heap.size
  own : ∀ k, u.ownBlock = some k → B ≤ k

theorem Grew.step {B : Nat} {w wr w2 : World} {u u2 : Value} (h : Grew B w wr u) (s : Step wr w2 u u2) : Grew B w w2 u2 :=
  ⟨h.below.trans (s.below h.size h.own), Nat.le_trans h.size s.grown.size, s.base h.size h.own⟩

theorem Grew.made {w w1 : World} (n : Nat) (hg : w.grownBy w1 none) : Grew w.heap.size w w1 (.slice (some ⟨w.heap.size, 0, none⟩) 0 n) :=
  ⟨(Below.refl _ _).grown hg (Nat.le_refl _) (fun k e => by cases e), hg.size, fun k e => by simp [Value.ownBlock] at e; omega⟩

set_option maxRecDepth 100000 in
set_option maxHeartbeats 800000 in
theorem encode_any (op : Int) (key : ByteArray) (a2 : Option Addr) (len2 cap2 : Nat) (cells : List Value) (w : World) (hx : key.size ≤ 4096) (hl : len2 ≤ 4096)
    (hsrc : ∀ w', Below w.heap.size w w' → Src Yba.prog 1 22 (.slice a2 len2 cap2) len2 cells w') :
    Calls Yba.prog 5 #[.int .u8 op, .string key, .slice a2 len2 cap2] w fun e w' => ∃ k v', VLen key.size k ∧ k ≤ 2 ∧ e = .returned v' ∧ Buf w' 1 v' (1 + (k + 1) + key.size + len2) (cmd op key k cells) ∧ Below w.heap.size w w' := by
  obtain ⟨i0, hi0, hz0, hz1, hz2⟩ := info_parts Yba.info5
  go_enter Yba.func5, Yba.ntmps5
  go_wp2_with (first
    | (at_make; refine wpList_make_own _ rfl _ _ 22 rfl w.heap.size 5 i0 (.int .u8 0) 1 Yba.underlying22 hi0 hz0 hz1 _ _ _ (11 + key.size + len2) rfl rfl (by omega) (by rw [hz2]; omega) (by unfold maxLen; omega) (Nat.le_refl _) ?_; intro w1 hown1 hgrow1; have hG1 := Grew.made (11 + key.size + len2) hgrow1; have hB1 := Buf.ofOwns hown1; clear hown1 hgrow1)
    | (at_builtin; refine wpList_append_cell _ rfl _ _ 22 22 rfl 5 5 i0 (.int .u8 0) 1 Yba.underlying22 Yba.underlying22 hi0 hz0 hz1 hz2 rfl _ 0 _ rfl _ _ _ rfl rfl rfl hB1 (by unfold maxLen; omega) (by omega) ?_; intro v2 w2 hB2 hS2; have hG2 := hG1.step hS2))
  refine (appendName_any v2 1 key _ _ (by simpa using hB2) hx (by omega)).mono ?_
  rintro e w3 ⟨k, v3, hV, hk, rfl, hB3, hS3⟩
  have hG3 := hG2.step hS3
  have hs3 := hsrc w3 hG3.below
  clear hB1 hB2 hG1 hG2 hS2 hS3
  go_wp2_with (at_builtin; refine wpList_append_buf _ rfl _ _ 22 22 rfl 5 i0 (.int .u8 0) 1 1 Yba.underlying22 hi0 hz0 hz1 hz2 rfl _ _ _ rfl hB3 _ len2 cells rfl hs3 (by unfold maxLen; omega) (by omega) ?_; intro v4 w4 hB4 hS4)
  go_ret
  exact ⟨k, v4, hV, hk, rfl, hB4, (hG3.step hS4).below⟩
end Go.Proofs.Ybulkaypy
