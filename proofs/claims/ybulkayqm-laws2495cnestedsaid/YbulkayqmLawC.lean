/-
  SEAT b2495a: LawS2495CExact (4): the walk.
-/
import Derived.Test.YbulkayqmEq
namespace Go.Proofs.Ybulkayqm
open Go.RowKit Go.Bufs

theorem clone_any (a : Option Addr) (c : Nat) (ms : List (ByteArray × Int)) (w : World) (hR : Rd w a ms) (hn : ms.length ≤ 1024) (h0 : a = none → c = 0) :
    Calls Yba.prog 8 #[.slice a ms.length c] w fun e w' => ∃ v, e = .returned v ∧ Buf w' 2 v ms.length (mc ms) ∧ Grew w.heap.size w w' v ∧ capOf v < ms.length + 1 := by
  cases a with
  | none =>
    obtain rfl : ms = [] := by
      rcases hR with h | ⟨_, _, h, _⟩
      · exact h
      · cases h
    obtain rfl := h0 rfl
    refine (clone_nil w).mono ?_
    rintro e w' ⟨rfl, rfl⟩
    exact ⟨_, rfl, Buf.nil _ _, ⟨Below.refl _ _, Nat.le_refl _, fun k hk => by simp [Value.ownBlock] at hk⟩, by simp [capOf]⟩
  | some x =>
    refine (clone_some x c ms w hR hn).mono ?_
    rintro e w' ⟨g, rfl, hB, hb, hg⟩
    exact ⟨_, rfl, hB, ⟨hb, hb.size, fun k hk => by simp [Value.ownBlock] at hk; omega⟩, by simp [capOf]⟩

theorem expect_any (a : Option Addr) (n c : Nat) (ms : List (ByteArray × Int)) (m : ByteArray) (g y : Int) (w : World) (hR : Rd w a ms) (hl : ms.length = n) (hn : n ≤ 2000) :
    Calls Yba.prog 10 #[.slice a n c, .string m, .int .i64 g, .int .i64 y] w fun e w' =>
      ∃ v', e = .returned v' ∧ Buf w' 2 v' (n + (meas m g y).length) (mc (ms ++ meas m g y)) ∧ Below w.heap.size w w' := by
  subst hl
  rcases hR with rfl | ⟨b, off, rfl, hb, hc⟩
  · exact expect_none a c m g y w
  · exact expect_some b off c ms m g y w hb hn hc

theorem eq_bufs (u v : Value) (n : Nat) (ms : List (ByteArray × Int)) (w : World) (hn : n ≤ 200000) (h : Buf w 2 u n (mc ms)) (h' : Buf w 2 v n (mc ms)) :
    Calls Yba.prog 11 #[u, v] w fun e w' => e = .returned (.bool true) ∧ ∃ m, w' = w.drewN m := by
  obtain ⟨a, c, rfl, hl, hR⟩ := Rd.ofBuf h
  obtain ⟨a', c', rfl, _, hR'⟩ := Rd.ofBuf h'
  subst hl
  exact eq_any a a' c c' ms w hn hR hR'

theorem eq_buf_rd (u : Value) (a : Option Addr) (n c : Nat) (ms : List (ByteArray × Int)) (w : World) (hn : n ≤ 200000) (h : Buf w 2 u n (mc ms)) (h' : Rd w a ms) :
    Calls Yba.prog 11 #[u, .slice a n c] w fun e w' => e = .returned (.bool true) ∧ ∃ m, w' = w.drewN m := by
  obtain ⟨a', c', rfl, hl, hR⟩ := Rd.ofBuf h
  subst hl
  exact eq_any a' a c' c ms w hn hR h'

theorem below_drewN (w : World) (B m : Nat) : Below B w (w.drewN m) := ⟨rfl, rfl, rfl, Nat.le_refl _, fun _ _ => rfl⟩

set_option maxRecDepth 100000 in
set_option maxHeartbeats 800000 in
theorem exact_big (a : Option Addr) (n c : Nat) (m : ByteArray) (g y : Int) (w : World) (hm : n ≤ maxLen) (h : 1024 < n) :
    Calls Yba.prog 4 #[.slice a n c, .string m, .int .i64 g, .int .i64 y] w fun e w' => e = .returned (.bool true) ∧ Below w.heap.size w w' := by
  unfold maxLen at hm
  go_enter Yba.func4, Yba.ntmps4
  go_wp2
  go_ret
  exact ⟨rfl, Below.refl _ _⟩

set_option maxRecDepth 100000 in
set_option maxHeartbeats 800000 in
theorem exact_small (a : Option Addr) (c : Nat) (ms : List (ByteArray × Int)) (m : ByteArray) (g y : Int) (w : World) (hR : Rd w a ms) (hn : ms.length ≤ 1024) (h0 : a = none → c = 0) :
    Calls Yba.prog 4 #[.slice a ms.length c, .string m, .int .i64 g, .int .i64 y] w fun e w' => e = .returned (.bool true) ∧ Below w.heap.size w w' := by
  go_enter Yba.func4, Yba.ntmps4
  go_wp2_with fail
  refine (clone_any a c ms _ hR hn h0).mono ?_
  rintro e w1 ⟨v, rfl, hB, hG, hcap⟩
  go_wp2_with fail
  refine (measure_any m g y v ms.length ms _ hB (by omega)).mono ?_
  rintro e w2 ⟨v2, rfl, hB2, _, hG2⟩
  have hG2 := hG2 hcap
  have hb2 : Below w.heap.size w w2 := hG.below.trans (hG2.below.mono hG.size)
  have hBi := hB.below hG2.below
  go_wp2_with fail
  refine (expect_any a ms.length c ms m g y _ (hR.below hb2) rfl (by omega)).mono ?_
  rintro e w3 ⟨v3, rfl, hB3, hb3⟩
  have hB2' := hB2.below hb3
  have hBi' := hBi.below hb3
  have hb : Below w.heap.size w w3 := hb2.trans (hb3.mono hb2.size)
  have hl := meas_length m g y
  have hE1 : Hid (Calls Yba.prog 11 #[v2, v3] w3 fun e w' => e = .returned (.bool true) ∧ ∃ m, w' = w3.drewN m) := eq_bufs v2 v3 _ _ w3 (by omega) hB2' hB3
  have hE2 : ∀ m, Hid (Calls Yba.prog 11 #[v, .slice a ms.length c] (w3.drewN m) fun e w' => e = .returned (.bool true) ∧ ∃ k, w' = (w3.drewN m).drewN k) := fun m => eq_buf_rd v a ms.length c ms (w3.drewN m) (by omega) (hBi'.below (below_drewN _ _ _)) ((hR.below hb).below (below_drewN _ _ _))
  go_wp2_with fail
  refine hE1.out.mono ?_
  rintro e w4 ⟨rfl, m4, rfl⟩
  go_wp2_with fail
  refine (hE2 m4).out.mono ?_
  rintro e w5 ⟨rfl, m5, rfl⟩
  go_wp2_with fail
  go_ret
  exact ⟨rfl, hb.trans (below_drewN _ _ _)⟩
end Go.Proofs.Ybulkayqm
