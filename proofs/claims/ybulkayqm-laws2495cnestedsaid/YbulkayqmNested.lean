/-
  SEAT b2495a: THE PROOF of ledger.LawS2495CNested's row: the walk of (5) over YbulkayqmCond.lean, and the frame as the guide's tool wrote it for a like seat.
-/
import Derived.Test.YbulkayqmExact
import Derived.Test.YbulkayqmCond
namespace Go.Proofs.Ybulkayqm.lawS2495CNested
open Go.Bufs
open Go.ChangeShapes Go.WideShapes Go.ChangeAt Go.RowKit
open Go.ChangeMaps (open_string shut_string)
set_option linter.unusedVariables false

theorem own : ownKnob Yba.prog.godebug = none := by kernel_rfl
theorem laidOut : laidOutB Yba.prog = true := by kernel_rfl

set_option maxRecDepth 100000 in
set_option maxHeartbeats 800000 in
theorem nested_big (a : Option Addr) (n c : Nat) (m m2 : ByteArray) (g g2 y : Int) (w : World) (hm : n ≤ maxLen) (h : 1024 < n) :
    Calls Yba.prog 5 #[.slice a n c, .string m, .int .i64 g, .string m2, .int .i64 g2, .int .i64 y] w fun e w' => e = .returned (.bool true) ∧ Below w.heap.size w w' := by
  unfold maxLen at hm
  go_enter Yba.func5, Yba.ntmps5
  go_wp2
  go_ret
  exact ⟨rfl, Below.refl _ _⟩

theorem expect_buf (v : Value) (n : Nat) (ms : List (ByteArray × Int)) (m : ByteArray) (g y : Int) (w : World) (hB : Buf w 2 v n (mc ms)) (hn : n ≤ 2000) :
    Calls Yba.prog 10 #[v, .string m, .int .i64 g, .int .i64 y] w fun e w' =>
      ∃ v', e = .returned v' ∧ Buf w' 2 v' (n + (meas m g y).length) (mc (ms ++ meas m g y)) ∧ Below w.heap.size w w' := by
  obtain ⟨a, c, rfl, hl, hR⟩ := Rd.ofBuf hB
  exact expect_any a n c ms m g y w hR hl hn

theorem reads_laid (m m2 : ByteArray) (g g2 y : Int) (v : Value) (n : Nat) (ms : List (ByteArray × Int)) (w : World) (hB : Buf w 2 v n (mc ms)) (hn : n ≤ 90000) :
    Calls Yba.prog 12 #[v, allOf (w.heap.size + 1), .int .i64 y] ((w.alloc (.cells #[linear m2 g2] 65)).alloc (.cells #[tiered m g, anyOf w.heap.size] 65)) fun e w' =>
      ∃ v', e = .returned v' ∧ Buf w' 2 v' (n + (meas m g y).length + (meas m2 g2 y).length) (mc (ms ++ meas m g y ++ meas m2 g2 y)) ∧ Step w w' v v' := by
  have hlt := hB.lt
  have c0 : ((w.alloc (.cells #[linear m2 g2] 65)).alloc (.cells #[tiered m g, anyOf w.heap.size] 65)).cell? ⟨w.heap.size + 1, 0, none⟩ = some (tiered m g) := by
    simp
  have c1 : ((w.alloc (.cells #[linear m2 g2] 65)).alloc (.cells #[tiered m g, anyOf w.heap.size] 65)).cell? ⟨w.heap.size + 1, 1, none⟩ = some (anyOf w.heap.size) := by
    simp
  have c2 : ((w.alloc (.cells #[linear m2 g2] 65)).alloc (.cells #[tiered m g, anyOf w.heap.size] 65)).cell? ⟨w.heap.size, 0, none⟩ = some (linear m2 g2) := by
    have hb : Below (w.heap.size + 1) (w.alloc (.cells #[linear m2 g2] 65)) ((w.alloc (.cells #[linear m2 g2] 65)).alloc (.cells #[tiered m g, anyOf w.heap.size] 65)) := (Below.refl _ _).alloc (by simp) _
    rw [hb.cell (p := ⟨w.heap.size, 0, none⟩) (by simp)]
    simp
  refine (reads_all (w.heap.size + 1) w.heap.size m m2 g g2 y v n ms _ ((hB.alloc _).alloc _) hn (by simp) (fun e => by have := hlt _ e.symm; omega) (by simp; omega) (fun e => by have := hlt _ e.symm; omega) c0 c1 c2).mono ?_
  rintro e w' ⟨v', rfl, h1, h2⟩
  exact ⟨v', rfl, h1, ((Step.alloc w v _).trans (Step.alloc _ v _)).trans h2⟩

set_option maxRecDepth 100000 in
set_option maxHeartbeats 1600000 in
theorem nested_small (a : Option Addr) (c : Nat) (ms : List (ByteArray × Int)) (m m2 : ByteArray) (g g2 y : Int) (w : World) (hR : Rd w a ms) (hn : ms.length ≤ 1024) (h0 : a = none → c = 0) :
    Calls Yba.prog 5 #[.slice a ms.length c, .string m, .int .i64 g, .string m2, .int .i64 g2, .int .i64 y] w fun e w' => e = .returned (.bool true) ∧ Below w.heap.size w w' := by
  go_enter Yba.func5, Yba.ntmps5
  go_wp2_with fail
  refine (clone_any a c ms _ hR hn h0).mono ?_
  rintro e w1 ⟨v, rfl, hB, hG, hcap⟩
  go_wp2_with fail
  refine (reads_laid m m2 g g2 y v ms.length ms w1 hB (by omega)).mono ?_
  rintro e w2 ⟨v2, rfl, hB2, hS2⟩
  have hb2 : Below w.heap.size w w2 := hG.below.trans (hS2.below hG.size hG.own)
  have hl := meas_length m g y
  have hl2 := meas_length m2 g2 y
  go_wp2_with fail
  refine (expect_any a ms.length c ms m g y _ (hR.below hb2) rfl (by omega)).mono ?_
  rintro e w3 ⟨v3, rfl, hB3, hb3⟩
  go_wp2_with fail
  refine (expect_buf v3 _ _ m2 g2 y _ hB3 (by omega)).mono ?_
  rintro e w4 ⟨v4, rfl, hB4, hb4⟩
  have hB2' := (hB2.below hb3).below hb4
  have hb : Below w.heap.size w w4 := (hb2.trans (hb3.mono hb2.size)).trans (hb4.mono (Nat.le_trans hb2.size hb3.size))
  have hE1 : Hid (Calls Yba.prog 11 #[v2, v4] w4 fun e w' => e = .returned (.bool true) ∧ ∃ m, w' = w4.drewN m) := eq_bufs v2 v4 _ _ w4 (by omega) hB2' hB4
  go_wp2_with fail
  refine hE1.out.mono ?_
  rintro e w5 ⟨rfl, m5, rfl⟩
  go_wp2_with fail
  go_ret
  exact ⟨rfl, hb.trans (below_drewN _ _ _)⟩

theorem walk (a : Option Addr) (len cap : Nat) (ms : List (ByteArray × Int)) (m : ByteArray) (g : Int) (m2 : ByteArray) (g2 y : Int) (w : World) (hl : ms.length = len) (hR : Rd w a ms) (h0 : a = none → cap = 0) (hm : len ≤ maxLen) :
    Calls Yba.prog 5 #[.slice a len cap, .string m, .int .i64 g, .string m2, .int .i64 g2, .int .i64 y] w fun e w' => e = .returned (.bool true) ∧ Below w.heap.size w w' := by
  by_cases hbig : 1024 < len
  · exact nested_big a len cap m m2 g g2 y w hm hbig
  · subst hl
    exact nested_small a cap ms m m2 g g2 y w hR (by omega) h0

set_option maxRecDepth 100000 in
theorem lifted (os : Os) (started : os.Started) (H : Type) (enc : TypeId × Value → H) :
    ReturnsInHanded {} Yba.checked os 5 .any (Rows.lawS2495CNestedSpec.pre6 enc Yba.prog Yba.f5 Rows.lawS2495CNestedRow.domain false) (Rows.lawS2495CNestedSpec.post enc Yba.prog Yba.f5 false true false false) := by
  refine returnsInHanded_of_change (C := Yba.checked) own started (by kernel_rfl) Yba.func5
    (ChangeSpec.witness6 (enc := enc) (C := Yba.checked) false ⟨#[], #[.slice none 0 0, .string ByteArray.empty, .int .i64 0, .string ByteArray.empty, .int .i64 0, .int .i64 0], []⟩ 8 (by kernel_rfl) (by kernel_rfl) (by kernel_rfl) (by kernel_rfl)) ?_
  intro W base args ds gs before hval0 hW hcnd _
  have hval : ∀ (j : Nat) t v, Yba.f5.params[j]? = some t → args[j]? = some v → Value.okWide Yba.prog W .any base t v := hval0
  have hW' := hW
  obtain ⟨p, q, hA0, hV, rfl, hfz, hnd⟩ := hW
  have hA : DataW.TrodAll enc Yba.prog W 0 (fun _ => true) true Yba.f5.params.toList args.toList ds p := hA0
  rw [Yba.params5] at hA hval
  obtain ⟨v0, vs0, d0, ds0, p0, q0, hargs, rfl, rfl, h0, r0⟩ := trodAll_cons hA
  obtain ⟨v1, vs1, d1, ds1, p1, q1, rfl, rfl, rfl, h1, r1⟩ := trodAll_cons r0
  obtain ⟨v2, vs2, d2, ds2, p2, q2, rfl, rfl, rfl, h2, r2⟩ := trodAll_cons r1
  obtain ⟨v3, vs3, d3, ds3, p3, q3, rfl, rfl, rfl, h3, r3⟩ := trodAll_cons r2
  obtain ⟨v4, vs4, d4, ds4, p4, q4, rfl, rfl, rfl, h4, r4⟩ := trodAll_cons r3
  obtain ⟨v5, vs5, d5, ds5, p5, q5, rfl, rfl, rfl, h5, r5⟩ := trodAll_cons r4
  obtain ⟨rfl, rfl, rfl⟩ := trodAll_nil r5
  obtain rfl : args = #[v0, v1, v2, v3, v4, v5] := by cases args; simp_all
  obtain ⟨rfl, rfl⟩ := trodVars_none hV
  obtain ⟨a1, rfl, rfl, rfl, w1⟩ := open_string Yba.underlying9 (hval 1 9 v1 rfl rfl) h1
  obtain ⟨a2, rfl, rfl, rfl, w2⟩ := open_int Yba.underlying3 (hval 2 3 v2 rfl rfl) h2
  obtain ⟨a3, rfl, rfl, rfl, w3⟩ := open_string Yba.underlying9 (hval 3 9 v3 rfl rfl) h3
  obtain ⟨a4, rfl, rfl, rfl, w4⟩ := open_int Yba.underlying3 (hval 4 3 v4 rfl rfl) h4
  obtain ⟨a5, rfl, rfl, rfl, w5⟩ := open_int Yba.underlying3 (hval 5 3 v5 rfl rfl) h5
  obtain ⟨a0, len0, cap0, rfl⟩ := okWide_slice Yba.underlying41 (hval 0 41 v0 rfl rfl)
  have k0 := h0
  have lt0 : ∀ x ∈ p0, x.block < W.heap.size := by obtain ⟨m, hm⟩ := k0; exact DataW.trod_lt m _ _ _ hm
  obtain ⟨ms, hl, hR, hn0, hmx⟩ : ∃ ms : List (ByteArray × Int), ms.length = len0 ∧ Rd W a0 ms ∧ (a0 = none → cap0 = 0) ∧ len0 ≤ maxLen := by
    obtain ⟨fuel, hf⟩ := h0
    exact rd_open hf
  clear hA0 hval0
  refine (walk a0 len0 cap0 ms a1 a2 a3 a4 a5 W hl hR hn0 hmx).mono fun e W' ⟨he, bel⟩ => ?_
  subst he
  exact ⟨_, rfl, _, _, _, [], _, [], hW', trodAll_mk1 (shut_bool Yba.underlying4 _), (trodAll_cons_mk (Below.trod laidOut (by kernel_rfl) (of_decide_eq_true (by kernel_rfl)) k0 bel lt0) (trodAll_cons_mk (shut_string Yba.underlying9 w1) (trodAll_cons_mk (shut_int Yba.underlying3 w2) (trodAll_cons_mk (shut_string Yba.underlying9 w3) (trodAll_cons_mk (shut_int Yba.underlying3 w4) (trodAll_cons_mk (shut_int Yba.underlying3 w5) trodAll_mk0)))))), rfl, bel.frame _, fun h => by cases h⟩

theorem over : Rows.lawS2495CNestedRow.holds Yba.pinned (OpenSpec.ofChange Rows.lawS2495CNestedSpec) :=
  OpenClaim.holds_of_wide 5 Yba.f5 rfl rfl rfl rfl rfl rfl rfl ⟨rfl, rfl, rfl, rfl, rfl⟩ rfl rfl rfl rfl rfl (by kernel_rfl) Yba.func5 (by kernel_rfl)
    (of_decide_eq_true (by kernel_rfl)) (by unfold Func.isWrapper; first | (rw [if_pos (by decide +kernel)]; kernel_rfl) | (rw [if_neg (by decide +kernel)]; exact ⟨rfl, rfl⟩))
    (fun os started H enc _ => lifted os started H enc)

/-- ████ THE STATEMENT ████ -/
theorem proved : Rows.LawS2495CNestedSaid := over
end Go.Proofs.Ybulkayqm.lawS2495CNested
