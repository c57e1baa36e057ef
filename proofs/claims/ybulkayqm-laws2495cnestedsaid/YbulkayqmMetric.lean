/-
  SEAT b2495a: []MetricYear as a list of pairs; (Measure).appendReads (9).
-/
import Derived.Test.YbulkayqmRows
import Derived.Test.YbulkayqmBuf
import Derived.WalkSpells
import Derived.WalkLawsBesides
namespace Go.Proofs.Ybulkayqm
open Go.RowKit Go.Bufs

/-- A MetricYear's cells, one behind the other. -/
def mc (ms : List (ByteArray × Int)) : List Value := ms.flatMap fun p => [.string p.1, .int .i64 p.2]

theorem mc_nil : mc [] = [] := rfl
theorem mc_cons (p : ByteArray × Int) (ms : List (ByteArray × Int)) : mc (p :: ms) = .string p.1 :: .int .i64 p.2 :: mc ms := rfl
theorem mc_append (a b : List (ByteArray × Int)) : mc (a ++ b) = mc a ++ mc b := by simp [mc]
theorem mc_one (m : ByteArray) (y : Int) : mc [(m, y)] = [.string m, .int .i64 y] := rfl
theorem mc_length : ∀ ms, (mc ms).length = ms.length * 2
  | [] => rfl
  | p :: ms => by rw [mc_cons, List.length_cons, List.length_cons, mc_length ms, List.length_cons]; omega
theorem mc_get : ∀ (ms : List (ByteArray × Int)) (i : Nat) (p : ByteArray × Int), ms[i]? = some p → (mc ms)[2 * i]? = some (.string p.1) ∧ (mc ms)[2 * i + 1]? = some (.int .i64 p.2)
  | [], _, _, h => by simp at h
  | q :: ms, 0, p, h => by
    simp at h; subst h
    exact ⟨rfl, rfl⟩
  | q :: ms, i + 1, p, h => by
    have := mc_get ms i p (by simpa using h)
    rw [mc_cons, show 2 * (i + 1) = 2 * i + 1 + 1 by omega, show 2 * i + 1 + 1 + 1 = (2 * i + 1) + 1 + 1 by omega]
    simpa using this
theorem mc_oneCell (ms : List (ByteArray × Int)) : ∀ u ∈ mc ms, u.oneCell' = true := by
  intro u hu
  obtain ⟨p, _, h⟩ := List.mem_flatMap.1 hu
  simp at h
  rcases h with rfl | rfl <;> rfl

/-- What a measure reads in a year. -/
def meas (m : ByteArray) (g y : Int) : List (ByteArray × Int) := (m, y) :: if g = 0 then [] else [(m, g)]
theorem meas_length (m : ByteArray) (g y : Int) : (meas m g y).length ≤ 2 ∧ 1 ≤ (meas m g y).length := by
  unfold meas; split <;> simp

theorem Yba.info63 : (Yba.prog.info? 63).map (fun i => (i.zero, i.size, i.bytes)) = some (some (.agg #[.string ⟨#[]⟩, .int .i64 0]), 2, 24) := by kernel_rfl

set_option maxRecDepth 100000 in
set_option maxHeartbeats 800000 in
theorem measure_any (m : ByteArray) (g y : Int) (v : Value) (n : Nat) (ms : List (ByteArray × Int)) (w : World) (hB : Buf w 2 v n (mc ms)) (hn : n ≤ 100000) :
    Calls Yba.prog 9 #[.agg #[.string m, .int .i64 g], v, .int .i64 y] w fun e w' => ∃ v', e = .returned v' ∧ Buf w' 2 v' (n + (meas m g y).length) (mc (ms ++ meas m g y)) ∧ Step w w' v v' ∧ (capOf v < n + 1 → Grew w.heap.size w w' v') := by
  obtain ⟨i0, hi0, hz0, hz1, hz2⟩ := info_parts Yba.info63
  have hB0 := hB.alloc (.cells #[.string m, .int .i64 g] 44)
  have hlt0 := hB.lt
  by_cases hg : g = 0
  · subst hg
    go_enter Yba.func9, Yba.ntmps9
    go_wp2_with (at_builtin; refine wpList_append_pair _ rfl _ _ 41 41 rfl 63 63 i0 _ 24 Yba.underlying41 Yba.underlying41 hi0 hz0 hz1 hz2 rfl v n _ rfl _ _ _ _ rfl _ rfl (by simp) rfl rfl hB0 (by unfold maxLen; omega) (by omega) ?_; intro v1 w1 hB1 hS1 hG1; have hcell : w1.cell? ⟨w.heap.size, 1, none⟩ = some (.int .i64 0) := (by rw [hS1.cell (by simp) (fun e => by have := hlt0 _ e.symm; omega)]; exact World.cell?_alloc_new w _ _ 1))
    go_ret
    refine ⟨v1, rfl, ?_, (Step.alloc w v _).trans hS1, fun hc => ?_⟩
    · have e : meas m 0 y = [(m, y)] := by simp [meas]
      rw [e, mc_append, mc_one]
      exact hB1
    · have hG := hG1 hc
      exact ⟨((Below.refl _ _).alloc (Nat.le_refl _) _).trans (hG.below.mono (by simp)), by have := hG.size; simp at this; omega, fun k hk => by have := hG.own k hk; simp at this; omega⟩
  · have hg0 : (g != 0) = true := by simp [hg]
    go_enter Yba.func9, Yba.ntmps9
    go_wp2_with (first
      | (at_builtin; refine wpList_append_pair _ rfl (.tmp 7) (.tmp 12) 41 41 rfl 63 63 i0 _ 24 Yba.underlying41 Yba.underlying41 hi0 hz0 hz1 hz2 rfl v n _ rfl _ _ _ _ rfl _ rfl (by simp) rfl rfl hB0 (by unfold maxLen; omega) (by omega) ?_; intro v1 w1 hB1 hS1 hG1; have hcell0 : w1.cell? ⟨w.heap.size, 0, none⟩ = some (.string m) := (by rw [hS1.cell (by simp) (fun e => by have := hlt0 _ e.symm; omega)]; exact World.cell?_alloc_new w _ _ 0); have hcell : w1.cell? ⟨w.heap.size, 1, none⟩ = some (.int .i64 g) := (by rw [hS1.cell (by simp) (fun e => by have := hlt0 _ e.symm; omega)]; exact World.cell?_alloc_new w _ _ 1))
      | (at_builtin; refine wpList_append_pair _ rfl (.tmp 17) (.tmp 23) 41 41 rfl 63 63 i0 _ 24 Yba.underlying41 Yba.underlying41 hi0 hz0 hz1 hz2 rfl v1 (n + 1) _ rfl _ _ _ _ rfl _ rfl rfl rfl rfl hB1 (by unfold maxLen; omega) (by omega) ?_; intro v2 w2 hB2 hS2 hG2))
    go_ret
    refine ⟨v2, rfl, ?_, ((Step.alloc w v _).trans hS1).trans hS2, fun hc => ?_⟩
    · have e : meas m g y = [(m, y), (m, g)] := by simp [meas, hg]
      rw [e, mc_append]
      have : mc ms ++ mc [(m, y), (m, g)] = mc ms ++ [.string m, .int .i64 y] ++ [.string m, .int .i64 g] := by simp [mc]
      rw [this]
      exact hB2
    · have hG := hG1 hc
      have hG' : Grew w.heap.size w w1 v1 := ⟨((Below.refl _ _).alloc (Nat.le_refl _) _).trans (hG.below.mono (by simp)), by have := hG.size; simp at this; omega, fun k hk => by have := hG.own k hk; simp at this; omega⟩
      exact hG'.step hS2
end Go.Proofs.Ybulkayqm
