/-
  SEAT b2495a: THE PROOF of ledger.LawS2495AFindLast's row: the frame as the guide's tool wrote it for a like seat; the walk: YbulkayqmLaw3.lean.
-/
import Derived.Test.YbulkayqmLaw3
import Derived.WalkKit
import Derived.ProofKit
import Derived.OpenShut
import Derived.ChangeOld
import Derived.Below
import Derived.Deep.SlicePairs
namespace Go.Proofs.Ybulkayqm.lawS2495AFindLast
open Go.Bufs
open Go.ChangeShapes Go.WideShapes Go.ChangeAt Go.RowKit
set_option linter.unusedVariables false

theorem own : ownKnob Yba.prog.godebug = none := by kernel_rfl
theorem laidOut : laidOutB Yba.prog = true := by kernel_rfl

theorem spot_none {W : World} {x : Addr} {v : Value} (h : W.cell? x = some v) : x.spot = none := by
  unfold World.cell? at h
  split at h
  · split at h
    · cases h
    · rename_i hs
      simpa using hs
  · cases h

theorem u8_bounds {n : Int} (h : (Lit.int .u8 n).wf = true) : ∃ k : Nat, n = k ∧ k < 256 := by
  have := bounds_u8 h
  exact ⟨n.toNat, by omega, by omega⟩

/-- The steps opened. -/
theorem steps_open {H : Type} {enc : TypeId × Value → H} {W : World} {sp : Nat → Bool} {a : Option Addr} {len cap fuel : Nat} {x : DataW H × List MemPlace}
    (h : DataW.trod enc Yba.prog W 0 sp true fuel 22 [.slice a len cap] = some x) : ∃ (P : Nat → Nat) (ys : Nat → Int), StepsIs W a len P ys ∧ len ≤ maxLen := by
  rcases Go.Deep.open_slice_pairs Yba.underlying22 Yba.underlying35 (by kernel_rfl) rfl rfl (by kernel_rfl) (by kernel_rfl) h with ⟨hc, _⟩ | ⟨x, l, c, m, n, V0, V1, D0, D1, P0, P1, hc, _, hl, hm, hmm, _, hall⟩
  · simp at hc
    obtain ⟨rfl, rfl, rfl⟩ := hc
    exact ⟨fun _ => 0, fun _ => 0, .inl rfl, Nat.zero_le _⟩
  · simp at hc
    obtain ⟨rfl, rfl, rfl⟩ := hc
    have hlm : len ≤ m := by rw [hmm]; split <;> omega
    have each : ∀ i, i < len → ∃ q : Nat × Int, W.cell? (x.add (i * 2)) = some (.int .u8 (q.1 : Int)) ∧ W.cell? (x.add (i * 2 + 1)) = some (.int .i64 q.2) ∧ q.1 < 256 := by
      intro i hi
      obtain ⟨c0, c1, t0, t1⟩ := hall i (by omega)
      obtain ⟨s, e0, _, ws⟩ := DataW.trod_int Yba.underlying5 t0
      obtain ⟨z, e1, _⟩ := DataW.trod_int Yba.underlying3 t1
      obtain ⟨k, rfl, hk⟩ := u8_bounds ws
      simp at e0 e1
      exact ⟨(k, z), by rw [c0, e0], by rw [c1, e1], hk⟩
    obtain ⟨q, hq⟩ := Go.Deep.choose_lt each
    refine ⟨fun i => (q i).1, fun i => (q i).2, ?_, by omega⟩
    rcases Nat.eq_zero_or_pos len with h0 | h0
    · exact .inl h0
    · have c0 := (hq 0 h0).1
      have hs : x.spot = none := by
        have := spot_none c0
        simpa [Addr.add] using this
      obtain ⟨b, off, spot⟩ := x
      simp at hs
      subst hs
      refine .inr ⟨b, off, rfl, World.block_lt_of_cell? _ _ c0, fun i hi => ?_⟩
      obtain ⟨h1, h2, h3⟩ := hq i hi
      rw [Addr.add_lit] at h1 h2
      exact ⟨h1, h2, h3⟩

theorem walk (n q pick : Nat) (y : Int) (a : Option Addr) (len cap : Nat) (P : Nat → Nat) (ys : Nat → Int) (w : World) (hn : n < 256) (hq : q < 256) (hp : pick < 256) (hst : StepsIs w a len P ys) (hm : len ≤ maxLen) :
    Calls Yba.prog 3 #[.int .u8 (n : Int), .slice a len cap, .int .u8 (q : Int), .int .u8 (pick : Int), .int .i64 y] w fun e w' => e = .returned (.bool true) ∧ Below w.heap.size w w' := by
  by_cases hbig : 1024 < len
  · exact last_big n q pick y a len cap w hm hbig
  · exact last_small n q pick _ y a len cap P _ ys w hn hq hp rfl (by omega) hst (fun _ => rfl)

set_option maxRecDepth 100000 in
theorem lifted (os : Os) (started : os.Started) (H : Type) (enc : TypeId × Value → H) :
    ReturnsInHanded {} Yba.checked os 3 .any (Rows.lawS2495AFindLastSpec.pre6 enc Yba.prog Yba.f3 Rows.lawS2495AFindLastRow.domain false) (Rows.lawS2495AFindLastSpec.post enc Yba.prog Yba.f3 false true false false) := by
  refine returnsInHanded_of_change (C := Yba.checked) own started (by kernel_rfl) Yba.func3
    (ChangeSpec.witness6 (enc := enc) (C := Yba.checked) false ⟨#[], #[.int .u8 0, .slice none 0 0, .int .u8 0, .int .u8 0, .int .i64 0], []⟩ 8 (by kernel_rfl) (by kernel_rfl) (by kernel_rfl) (by kernel_rfl)) ?_
  intro W base args ds gs before hval0 hW hcnd _
  have hval : ∀ (j : Nat) t v, Yba.f3.params[j]? = some t → args[j]? = some v → Value.okWide Yba.prog W .any base t v := hval0
  have hW' := hW
  obtain ⟨p, q, hA0, hV, rfl, hfz, hnd⟩ := hW
  have hA : DataW.TrodAll enc Yba.prog W 0 (fun _ => true) true Yba.f3.params.toList args.toList ds p := hA0
  rw [Yba.params3] at hA hval
  obtain ⟨v0, vs0, d0, ds0, p0, q0, hargs, rfl, rfl, h0, r0⟩ := trodAll_cons hA
  obtain ⟨v1, vs1, d1, ds1, p1, q1, rfl, rfl, rfl, h1, r1⟩ := trodAll_cons r0
  obtain ⟨v2, vs2, d2, ds2, p2, q2, rfl, rfl, rfl, h2, r2⟩ := trodAll_cons r1
  obtain ⟨v3, vs3, d3, ds3, p3, q3, rfl, rfl, rfl, h3, r3⟩ := trodAll_cons r2
  obtain ⟨v4, vs4, d4, ds4, p4, q4, rfl, rfl, rfl, h4, r4⟩ := trodAll_cons r3
  obtain ⟨rfl, rfl, rfl⟩ := trodAll_nil r4
  obtain rfl : args = #[v0, v1, v2, v3, v4] := by cases args; simp_all
  obtain ⟨rfl, rfl⟩ := trodVars_none hV
  obtain ⟨a0, rfl, rfl, rfl, w0⟩ := open_int Yba.underlying5 (hval 0 5 v0 rfl rfl) h0
  obtain ⟨a2, rfl, rfl, rfl, w2⟩ := open_int Yba.underlying5 (hval 2 5 v2 rfl rfl) h2
  obtain ⟨a3, rfl, rfl, rfl, w3⟩ := open_int Yba.underlying5 (hval 3 5 v3 rfl rfl) h3
  obtain ⟨a4, rfl, rfl, rfl, w4⟩ := open_int Yba.underlying3 (hval 4 3 v4 rfl rfl) h4
  obtain ⟨a1, len1, cap1, rfl⟩ := okWide_slice Yba.underlying22 (hval 1 22 v1 rfl rfl)
  have k1 := h1
  have lt1 : ∀ x ∈ p1, x.block < W.heap.size := by obtain ⟨m, hm⟩ := k1; exact DataW.trod_lt m _ _ _ hm
  obtain ⟨P, ys, hst, hmx⟩ : ∃ (P : Nat → Nat) (ys : Nat → Int), StepsIs W a1 len1 P ys ∧ len1 ≤ maxLen := by
    obtain ⟨fuel, hf⟩ := h1
    exact steps_open hf
  obtain ⟨n0, rfl, hn0⟩ := u8_bounds w0
  obtain ⟨n2, rfl, hn2⟩ := u8_bounds w2
  obtain ⟨n3, rfl, hn3⟩ := u8_bounds w3
  clear hA0 hval0
  refine (walk n0 n2 n3 a4 a1 len1 cap1 P ys W hn0 hn2 hn3 hst hmx).mono fun e W' ⟨he, bel⟩ => ?_
  subst he
  exact ⟨_, rfl, _, _, _, [], _, [], hW', trodAll_mk1 (shut_bool Yba.underlying4 _), (trodAll_cons_mk (shut_int Yba.underlying5 w0) (trodAll_cons_mk (Below.trod laidOut (by kernel_rfl) (of_decide_eq_true (by kernel_rfl)) k1 bel lt1) (trodAll_cons_mk (shut_int Yba.underlying5 w2) (trodAll_cons_mk (shut_int Yba.underlying5 w3) (trodAll_cons_mk (shut_int Yba.underlying3 w4) trodAll_mk0))))), rfl, bel.frame _, fun h => by cases h⟩

theorem over : Rows.lawS2495AFindLastRow.holds Yba.pinned (OpenSpec.ofChange Rows.lawS2495AFindLastSpec) :=
  OpenClaim.holds_of_wide 3 Yba.f3 rfl rfl rfl rfl rfl rfl rfl ⟨rfl, rfl, rfl, rfl, rfl⟩ rfl rfl rfl rfl rfl (by kernel_rfl) Yba.func3 (by kernel_rfl)
    (of_decide_eq_true (by kernel_rfl)) (by unfold Func.isWrapper; first | (rw [if_pos (by decide +kernel)]; kernel_rfl) | (rw [if_neg (by decide +kernel)]; exact ⟨rfl, rfl⟩))
    (fun os started H enc _ => lifted os started H enc)

/-- ████ THE STATEMENT ████ -/
theorem proved : Rows.LawS2495AFindLastSaid := over
end Go.Proofs.Ybulkayqm.lawS2495AFindLast
