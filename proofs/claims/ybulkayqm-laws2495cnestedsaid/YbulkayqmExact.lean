/-
  SEAT b2495a: THE PROOF of ledger.LawS2495CExact's row: the frame as the guide's tool wrote it for a like seat; the walk: YbulkayqmLawC.lean.
-/
import Derived.Test.YbulkayqmRows
import Derived.Test.YbulkayqmLawC
import Derived.WalkKit
import Derived.ProofKit
import Derived.OpenShut
import Derived.ShutString
import Derived.ChangeOld
import Derived.Below
import Derived.Deep.SlicePairs
namespace Go.Proofs.Ybulkayqm
open Go.ChangeShapes Go.WideShapes Go.ChangeAt Go.RowKit Go.Bufs

theorem spot_none {W : World} {x : Addr} {v : Value} (h : W.cell? x = some v) : x.spot = none := by
  unfold World.cell? at h
  split at h
  · split at h
    · cases h
    · rename_i hs
      simpa using hs
  · cases h

theorem mc_at (q : Nat → ByteArray × Int) : ∀ (n j : Nat) (u : Value), (mc ((List.range n).map q))[j]? = some u → ∃ i, i < n ∧ ((j = i * 2 ∧ u = .string (q i).1) ∨ (j = i * 2 + 1 ∧ u = .int .i64 (q i).2)) := by
  intro n j u hj
  have hlt : j < n * 2 := by
    have := (List.getElem?_eq_some_iff.1 hj).1
    rw [mc_length] at this
    simpa using this
  have hi : j / 2 < n := by omega
  obtain ⟨h1, h2⟩ := mc_get ((List.range n).map q) (j / 2) (q (j / 2)) (by simp [hi])
  refine ⟨j / 2, hi, ?_⟩
  rcases Nat.mod_two_eq_zero_or_one j with h | h
  · have e : j = 2 * (j / 2) := by omega
    rw [← e, hj] at h1
    exact .inl ⟨by omega, Option.some.inj h1⟩
  · have e : j = 2 * (j / 2) + 1 := by omega
    rw [← e, hj] at h2
    exact .inr ⟨by omega, Option.some.inj h2⟩

/-- The argument opened. -/
theorem rd_open {H : Type} {enc : TypeId × Value → H} {W : World} {sp : Nat → Bool} {a : Option Addr} {len cap fuel : Nat} {x : DataW H × List MemPlace}
    (h : DataW.trod enc Yba.prog W 0 sp true fuel 41 [.slice a len cap] = some x) : ∃ ms : List (ByteArray × Int), ms.length = len ∧ Rd W a ms ∧ (a = none → cap = 0) ∧ len ≤ maxLen := by
  rcases Go.Deep.open_slice_pairs Yba.underlying41 Yba.underlying63 (by kernel_rfl) rfl rfl (by kernel_rfl) (by kernel_rfl) h with ⟨hc, _⟩ | ⟨x, l, c, m, n, V0, V1, D0, D1, P0, P1, hc, _, hl, hm, hmm, _, hall⟩
  · simp at hc
    obtain ⟨rfl, rfl, rfl⟩ := hc
    exact ⟨[], rfl, .inl rfl, fun _ => rfl, Nat.zero_le _⟩
  · simp at hc
    obtain ⟨rfl, rfl, rfl⟩ := hc
    have hlm : len ≤ m := by rw [hmm]; split <;> omega
    have each : ∀ i, i < len → ∃ q : ByteArray × Int, W.cell? (x.add (i * 2)) = some (.string q.1) ∧ W.cell? (x.add (i * 2 + 1)) = some (.int .i64 q.2) := by
      intro i hi
      obtain ⟨c0, c1, t0, t1⟩ := hall i (by omega)
      obtain ⟨s, e0, _⟩ := DataW.trod_string Yba.underlying9 t0
      obtain ⟨z, e1, _⟩ := DataW.trod_int Yba.underlying3 t1
      simp at e0 e1
      exact ⟨(s, z), by rw [c0, e0], by rw [c1, e1]⟩
    obtain ⟨q, hq⟩ := Go.Deep.choose_lt each
    refine ⟨(List.range len).map q, by simp, ?_, (fun h => by simp at h), by omega⟩
    rcases Nat.eq_zero_or_pos len with h0 | h0
    · subst h0; exact .inl rfl
    · have c0 := (hq 0 h0).1
      have hs : x.spot = none := by
        have := spot_none c0
        simpa [Addr.add] using this
      obtain ⟨b, off, spot⟩ := x
      simp at hs
      subst hs
      refine .inr ⟨b, off, rfl, World.block_lt_of_cell? _ _ c0, fun j u hj => ?_⟩
      obtain ⟨i, hi, h | h⟩ := mc_at q len j u hj
      · obtain ⟨rfl, rfl⟩ := h
        have := (hq i hi).1
        rwa [Addr.add_lit] at this
      · obtain ⟨rfl, rfl⟩ := h
        have := (hq i hi).2
        rwa [Addr.add_lit] at this
end Go.Proofs.Ybulkayqm

namespace Go.Proofs.Ybulkayqm.lawS2495CExact
open Go.Bufs
open Go.ChangeShapes Go.WideShapes Go.ChangeAt Go.RowKit
open Go.ChangeMaps (open_string shut_string)
set_option linter.unusedVariables false

theorem own : ownKnob Yba.prog.godebug = none := by kernel_rfl
theorem laidOut : laidOutB Yba.prog = true := by kernel_rfl

theorem walk (a : Option Addr) (len cap : Nat) (ms : List (ByteArray × Int)) (m : ByteArray) (g y : Int) (w : World) (hl : ms.length = len) (hR : Rd w a ms) (h0 : a = none → cap = 0) (hm : len ≤ maxLen) :
    Calls Yba.prog 4 #[.slice a len cap, .string m, .int .i64 g, .int .i64 y] w fun e w' => e = .returned (.bool true) ∧ Below w.heap.size w w' := by
  by_cases hbig : 1024 < len
  · exact exact_big a len cap m g y w hm hbig
  · subst hl
    exact exact_small a cap ms m g y w hR (by omega) h0

set_option maxRecDepth 100000 in
theorem lifted (os : Os) (started : os.Started) (H : Type) (enc : TypeId × Value → H) :
    ReturnsInHanded {} Yba.checked os 4 .any (Rows.lawS2495CExactSpec.pre6 enc Yba.prog Yba.f4 Rows.lawS2495CExactRow.domain false) (Rows.lawS2495CExactSpec.post enc Yba.prog Yba.f4 false true false false) := by
  refine returnsInHanded_of_change (C := Yba.checked) own started (by kernel_rfl) Yba.func4
    (ChangeSpec.witness6 (enc := enc) (C := Yba.checked) false ⟨#[], #[.slice none 0 0, .string ByteArray.empty, .int .i64 0, .int .i64 0], []⟩ 8 (by kernel_rfl) (by kernel_rfl) (by kernel_rfl) (by kernel_rfl)) ?_
  intro W base args ds gs before hval0 hW hcnd _
  have hval : ∀ (j : Nat) t v, Yba.f4.params[j]? = some t → args[j]? = some v → Value.okWide Yba.prog W .any base t v := hval0
  have hW' := hW
  obtain ⟨p, q, hA0, hV, rfl, hfz, hnd⟩ := hW
  have hA : DataW.TrodAll enc Yba.prog W 0 (fun _ => true) true Yba.f4.params.toList args.toList ds p := hA0
  rw [Yba.params4] at hA hval
  obtain ⟨v0, vs0, d0, ds0, p0, q0, hargs, rfl, rfl, h0, r0⟩ := trodAll_cons hA
  obtain ⟨v1, vs1, d1, ds1, p1, q1, rfl, rfl, rfl, h1, r1⟩ := trodAll_cons r0
  obtain ⟨v2, vs2, d2, ds2, p2, q2, rfl, rfl, rfl, h2, r2⟩ := trodAll_cons r1
  obtain ⟨v3, vs3, d3, ds3, p3, q3, rfl, rfl, rfl, h3, r3⟩ := trodAll_cons r2
  obtain ⟨rfl, rfl, rfl⟩ := trodAll_nil r3
  obtain rfl : args = #[v0, v1, v2, v3] := by cases args; simp_all
  obtain ⟨rfl, rfl⟩ := trodVars_none hV
  obtain ⟨a1, rfl, rfl, rfl, w1⟩ := open_string Yba.underlying9 (hval 1 9 v1 rfl rfl) h1
  obtain ⟨a2, rfl, rfl, rfl, w2⟩ := open_int Yba.underlying3 (hval 2 3 v2 rfl rfl) h2
  obtain ⟨a3, rfl, rfl, rfl, w3⟩ := open_int Yba.underlying3 (hval 3 3 v3 rfl rfl) h3
  obtain ⟨a0, len0, cap0, rfl⟩ := okWide_slice Yba.underlying41 (hval 0 41 v0 rfl rfl)
  have k0 := h0
  have lt0 : ∀ x ∈ p0, x.block < W.heap.size := by obtain ⟨m, hm⟩ := k0; exact DataW.trod_lt m _ _ _ hm
  obtain ⟨ms, hl, hR, hn0, hmx⟩ : ∃ ms : List (ByteArray × Int), ms.length = len0 ∧ Rd W a0 ms ∧ (a0 = none → cap0 = 0) ∧ len0 ≤ maxLen := by
    obtain ⟨fuel, hf⟩ := h0
    exact rd_open hf
  clear hA0 hval0
  refine (walk a0 len0 cap0 ms a1 a2 a3 W hl hR hn0 hmx).mono fun e W' ⟨he, bel⟩ => ?_
  subst he
  exact ⟨_, rfl, _, _, _, [], _, [], hW', trodAll_mk1 (shut_bool Yba.underlying4 _), (trodAll_cons_mk (Below.trod laidOut (by kernel_rfl) (of_decide_eq_true (by kernel_rfl)) k0 bel lt0) (trodAll_cons_mk (shut_string Yba.underlying9 w1) (trodAll_cons_mk (shut_int Yba.underlying3 w2) (trodAll_cons_mk (shut_int Yba.underlying3 w3) trodAll_mk0)))), rfl, bel.frame _, fun h => by cases h⟩

theorem over : Rows.lawS2495CExactRow.holds Yba.pinned (OpenSpec.ofChange Rows.lawS2495CExactSpec) :=
  OpenClaim.holds_of_wide 4 Yba.f4 rfl rfl rfl rfl rfl rfl rfl ⟨rfl, rfl, rfl, rfl, rfl⟩ rfl rfl rfl rfl rfl (by kernel_rfl) Yba.func4 (by kernel_rfl)
    (of_decide_eq_true (by kernel_rfl)) (by unfold Func.isWrapper; first | (rw [if_pos (by decide +kernel)]; kernel_rfl) | (rw [if_neg (by decide +kernel)]; exact ⟨rfl, rfl⟩))
    (fun os started H enc _ => lifted os started H enc)

/-- ████ THE STATEMENT ████ -/
theorem proved : Rows.LawS2495CExactSaid := over
end Go.Proofs.Ybulkayqm.lawS2495CExact
