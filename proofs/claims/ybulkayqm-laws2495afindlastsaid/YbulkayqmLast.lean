/-
  SEAT b2495a: LawS2495AFindLast (3): the walk.
-/
import Derived.Test.YbulkayqmFind
namespace Go.Proofs.Ybulkayqm
open Go.RowKit Go.Bufs

set_option maxRecDepth 100000 in
set_option maxHeartbeats 800000 in
theorem last_big (n q pick : Int) (y : Int) (a : Option Addr) (len c : Nat) (w : World) (hm : len ≤ maxLen) (h : 1024 < len) :
    Calls Yba.prog 3 #[.int .u8 n, .slice a len c, .int .u8 q, .int .u8 pick, .int .i64 y] w fun e w' => e = .returned (.bool true) ∧ Below w.heap.size w w' := by
  unfold maxLen at hm
  go_enter Yba.func3, Yba.ntmps3
  go_wp2
  go_ret
  exact ⟨rfl, Below.refl _ _⟩

theorem Yba.info32 : (Yba.prog.info? 32).map (fun i => (i.zero, i.size, i.bytes)) = some (some (.agg #[.int .i32 0, .int .u32 0]), 2, 8) := by kernel_rfl
theorem Yba.info37 : (Yba.prog.info? 37).map (fun i => (i.zero, i.size, i.bytes)) = some (some (.agg #[.int .i64 0, .int .i32 0]), 2, 16) := by kernel_rfl

/-- The rows that make lays. -/
def madeH (M : Nat) : Array Value := madeCells #[.int .i32 0, .int .u32 0] (M * 2)
def madeC (len : Nat) : Array Value := madeCells #[.int .i64 0, .int .i32 0] (len * 2)

theorem make24 (M : Nat) (hM : M ≤ 8) (w : World) : (Instr.makeSlice 24 (.int .i64 (M : Int)) (.int .i64 (M : Int))).run Yba.prog w = .ok (.slice (some ⟨w.heap.size, 0, none⟩) M M) (w.alloc (.cells (madeH M) 32)) := by
  obtain ⟨i0, hi0, hz0, hz1, hz2⟩ := info_parts Yba.info32
  have hr := run_make (P := Yba.prog) w 24 32 i0 _ Yba.underlying24 hi0 hz0 .i64 .i64 M M (by omega) (Int.le_refl _) (by rw [hz2]; omega) (by omega)
  simp only [Int.toNat_natCast, hz1] at hr
  exact hr

theorem make25 (len : Nat) (hl : len ≤ 1024) (w : World) : (Instr.makeSlice 25 (.int .i64 0) (.int .i64 (len : Int))).run Yba.prog w = .ok (.slice (some ⟨w.heap.size, 0, none⟩) 0 len) (w.alloc (.cells (madeC len) 37)) := by
  obtain ⟨i0, hi0, hz0, hz1, hz2⟩ := info_parts Yba.info37
  have hr := run_make (P := Yba.prog) w 25 37 i0 _ Yba.underlying25 hi0 hz0 .i64 .i64 0 len (by omega) (by omega) (by rw [hz2]; omega) (by omega)
  simp only [Int.toNat_natCast, hz1] at hr
  exact hr

theorem madeH_size (M : Nat) : (madeH M).size = M * 2 := size_madeCells _ _
theorem madeC_size (len : Nat) : (madeC len).size = len * 2 := size_madeCells _ _
theorem madeH_get (M t : Nat) (ht : t < M) : (madeH M)[t * 2]? = some (.int .i32 0) ∧ (madeH M)[t * 2 + 1]? = some (.int .u32 0) := by
  have e1 : t * 2 % 2 = 0 := by omega
  have e2 : (t * 2 + 1) % 2 = 1 := by omega
  have l1 : t * 2 < M * 2 := by omega
  have l2 : t * 2 + 1 < M * 2 := by omega
  constructor
  · simp [madeH, madeCells, l1]
  · simp [madeH, madeCells, l2, e2]

/-- Three new blocks. -/
theorem three (w : World) (c1 c2 c3 : Array Value) (t1 t2 t3 : TypeId) (W : World) (hW : W = ((w.alloc (.cells c1 t1)).alloc (.cells c2 t2)).alloc (.cells c3 t3)) :
    W.heap.size = w.heap.size + 3 ∧ Below w.heap.size w W ∧ (∀ j, W.cell? ⟨w.heap.size, j, none⟩ = c1[j]? ∧ W.frozen? ⟨w.heap.size, j, none⟩ = false) ∧
      (∀ j, W.cell? ⟨w.heap.size + 1, j, none⟩ = c2[j]? ∧ W.frozen? ⟨w.heap.size + 1, j, none⟩ = false) ∧ (∀ j, W.cell? ⟨w.heap.size + 2, j, none⟩ = c3[j]? ∧ W.frozen? ⟨w.heap.size + 2, j, none⟩ = false) := by
  subst hW
  have b1 : Below w.heap.size w (w.alloc (.cells c1 t1)) := (Below.refl _ _).alloc (Nat.le_refl _) _
  have b2 : Below (w.heap.size + 1) (w.alloc (.cells c1 t1)) ((w.alloc (.cells c1 t1)).alloc (.cells c2 t2)) := (Below.refl _ _).alloc (by simp) _
  have b3 : Below (w.heap.size + 2) ((w.alloc (.cells c1 t1)).alloc (.cells c2 t2)) (((w.alloc (.cells c1 t1)).alloc (.cells c2 t2)).alloc (.cells c3 t3)) := (Below.refl _ _).alloc (by simp) _
  refine ⟨by simp, b1.trans ((b2.mono (by omega)).trans (b3.mono (by omega))), fun j => ⟨?_, ?_⟩, fun j => ⟨?_, ?_⟩, fun j => ⟨?_, ?_⟩⟩
  · rw [b3.cell (p := ⟨w.heap.size, j, none⟩) (by simp), b2.cell (p := ⟨w.heap.size, j, none⟩) (by simp)]
    exact World.cell?_alloc_new w _ _ j
  · rw [World.frozen?_of_block (a := ⟨w.heap.size, j, none⟩) (b3.block _ (by simp)), World.frozen?_of_block (a := ⟨w.heap.size, j, none⟩) (b2.block _ (by simp))]
    exact World.frozen?_alloc_new w _ _ j
  · rw [b3.cell (p := ⟨w.heap.size + 1, j, none⟩) (by simp)]
    simp
  · rw [World.frozen?_of_block (a := ⟨w.heap.size + 1, j, none⟩) (b3.block _ (by simp))]
    simp
  · have := World.cell?_alloc_new ((w.alloc (.cells c1 t1)).alloc (.cells c2 t2)) c3 t3 j
    simpa using this
  · have := World.frozen?_alloc_new ((w.alloc (.cells c1 t1)).alloc (.cells c2 t2)) c3 t3 j
    simpa using this

/-- The index as it is laid; the first i heads have their -1. -/
structure R1 (w wr : World) (X H C M len i : Nat) : Prop where
  below : Below w.heap.size w wr
  hX : w.heap.size ≤ X ∧ X < wr.heap.size
  hH : w.heap.size ≤ H ∧ H < wr.heap.size
  hC : w.heap.size ≤ C
  ne : X ≠ H ∧ C ≠ X ∧ C ≠ H
  x2 : wr.cell? ⟨X, 2, none⟩ = some (.slice (some ⟨H, 0, none⟩) M M)
  x3 : wr.cell? ⟨X, 3, none⟩ = some (.slice (some ⟨C, 0, none⟩) 0 len)
  fx : wr.frozen? ⟨X, 3, none⟩ = false
  chain : Buf wr 2 (.slice (some ⟨C, 0, none⟩) 0 len) 0 []
  heads : ∀ t, t < M → wr.cell? ⟨H, t * 2, none⟩ = some (.int .i32 (if t < i then -1 else 0)) ∧ wr.cell? ⟨H, t * 2 + 1, none⟩ = some (.int .u32 0) ∧ wr.frozen? ⟨H, t * 2, none⟩ = false ∧ wr.frozen? ⟨H, t * 2 + 1, none⟩ = false

theorem buf_new (W : World) (C len : Nat) (hC : C < W.heap.size) (hl : len ≤ maxLen) (h : ∀ j, W.cell? ⟨C, j, none⟩ = (madeC len)[j]? ∧ W.frozen? ⟨C, j, none⟩ = false) : Buf W 2 (.slice (some ⟨C, 0, none⟩) 0 len) 0 [] := by
  refine ⟨by simp, .inr ⟨C, len, rfl, Nat.zero_le _, hl, hC, fun j u hj => by simp at hj, fun j hj => ⟨?_, (h j).2⟩⟩⟩
  rw [(h j).1, Array.getElem?_eq_getElem (by rw [madeC_size]; exact hj)]
  rfl

theorem R1.start1 (w : World) (M len : Nat) (hl : len ≤ 1024) :
    R1 w ((((w.alloc (.cells (madeH M) 32)).alloc (.cells (madeC len) 37)).alloc (.cells #[.slice none 0 0, .pointer none, .slice (some ⟨w.heap.size, 0, none⟩) M M, .slice (some ⟨w.heap.size + 1, 0, none⟩) 0 len] 29)).drew) (w.heap.size + 1 + 1) w.heap.size (w.heap.size + 1) M len 0 := by
  obtain ⟨hs, hb, h1, h2, h3⟩ := three w (madeH M) (madeC len) #[.slice none 0 0, .pointer none, .slice (some ⟨w.heap.size, 0, none⟩) M M, .slice (some ⟨w.heap.size + 1, 0, none⟩) 0 len] 32 37 29 _ rfl
  refine ⟨hb.drew, ⟨by omega, ?_⟩, ⟨Nat.le_refl _, ?_⟩, by omega, by omega, (h3 2).1, (h3 3).1, (h3 3).2, buf_new _ _ _ ?_ (by unfold maxLen; omega) h2, fun t ht => ⟨?_, ?_, (h1 _).2, (h1 _).2⟩⟩
  · exact Nat.lt_of_lt_of_eq (by omega) hs.symm
  · exact Nat.lt_of_lt_of_eq (by omega) hs.symm
  · exact Nat.lt_of_lt_of_eq (by omega) hs.symm
  · rw [if_neg (by omega), ← (madeH_get M t ht).1]; exact (h1 _).1
  · rw [← (madeH_get M t ht).2]; exact (h1 _).1

theorem R1.start2 (w : World) (M len : Nat) (hl : len ≤ 1024) :
    R1 w ((((w.alloc (.cells (madeC len) 37)).alloc (.cells (madeH M) 32)).alloc (.cells #[.slice none 0 0, .pointer none, .slice (some ⟨w.heap.size + 1, 0, none⟩) M M, .slice (some ⟨w.heap.size, 0, none⟩) 0 len] 29)).drew) (w.heap.size + 1 + 1) (w.heap.size + 1) w.heap.size M len 0 := by
  obtain ⟨hs, hb, h1, h2, h3⟩ := three w (madeC len) (madeH M) #[.slice none 0 0, .pointer none, .slice (some ⟨w.heap.size + 1, 0, none⟩) M M, .slice (some ⟨w.heap.size, 0, none⟩) 0 len] 37 32 29 _ rfl
  refine ⟨hb.drew, ⟨by omega, ?_⟩, ⟨by omega, ?_⟩, Nat.le_refl _, by omega, (h3 2).1, (h3 3).1, (h3 3).2, buf_new _ _ _ ?_ (by unfold maxLen; omega) h1, fun t ht => ⟨?_, ?_, (h2 _).2, (h2 _).2⟩⟩
  · exact Nat.lt_of_lt_of_eq (by omega) hs.symm
  · exact Nat.lt_of_lt_of_eq (by omega) hs.symm
  · exact Nat.lt_of_lt_of_eq (by omega) hs.symm
  · rw [if_neg (by omega), ← (madeH_get M t ht).1]; exact (h2 _).1
  · rw [← (madeH_get M t ht).2]; exact (h2 _).1
end Go.Proofs.Ybulkayqm
