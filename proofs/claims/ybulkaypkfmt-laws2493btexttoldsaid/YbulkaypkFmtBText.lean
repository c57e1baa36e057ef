/-
  SEAT b2493aF: THE ROW's STEP AND THE TOLD AND TIED CARD of driftline.LawS2493BText.
-/
import Derived.Test.YbulkaypkFmtFrame
import Derived.Test.YbulkaypkFmtTextW
namespace Go.Proofs.YbulkaypkFmt
open Go.ChangeShapes Go.WideShapes Go.ChangeAt Go.RowKit Go.Bufs
open Go.Extern.Stop Go.Stop Go.Extern

namespace BText
abbrev nIv : String := Rows.lawS2493BTextSpec.vars.headD ""
theorem gIv : Ybaf.prog.globalNamed nIv = some 0 := by kernel_rfl
theorem tIv : (Ybaf.prog.globals[0]?).map (·.type) = some 28 := by kernel_rfl

theorem door_met (os : Os) (args : Array Value) : laidMetH Ybaf.prog Rows.lawS2493BTextRow.laid ((World.doorLaid Ybaf.prog 400 os).forCall (fun _ _ => 0) ⟨#[], args, []⟩).memory :=
  laidMetH_of_parts3 (fuel := 8) (laidMet_of_run' 8 (by kernel_rfl) (by kernel_rfl)) (by kernel_rfl) (by kernel_rfl)

set_option maxRecDepth 100000 in
theorem lifted (os : Os) (started : os.Started) (H : Type) (enc : TypeId × Value → H) :
    ReturnsInTold none {} Ybaf.checked os 3 .any Input.okWide ((OpenSpec.ofChange Rows.lawS2493BTextSpec).preRow enc Ybaf.prog Ybaf.f3 [] false Rows.lawS2493BTextRow.laid)
      (fun F => ((OpenSpec.ofChange Rows.lawS2493BTextSpec).at F).post enc Ybaf.prog Ybaf.f3 false true false false) (aloneAtReturn Ybaf.prog) nothingAlways := by
  refine returnsInTold_of_row (C := Ybaf.checked) (s := OpenSpec.ofChange Rows.lawS2493BTextSpec) (by kernel_rfl) Ybaf.own started (by kernel_rfl) Ybaf.func3
    (OpenSpec.witness_stopped_atRef (enc := enc) (C := Ybaf.checked) false (World.doorLaid Ybaf.prog 400 os) #[.int .i64 0, .int .u32 0, .agg #[.int .u8 0, .int .u8 0, .int .u8 0, .int .u8 0, .int .u8 0, .int .u8 0, .int .u8 0, .int .u8 0, .int .u8 0, .int .u8 0, .int .u8 0, .int .u8 0, .int .u8 0, .int .u8 0, .int .u8 0, .int .u8 0]] rfl (by kernel_rfl) (by kernel_rfl) (by kernel_rfl)
      (OpenSpec.preRow_of_B rfl 8 (by kernel_rfl) (by kernel_rfl) (door_met os _))) ?_
  intro F W base args ds gs before _ hF hval0 hW _ _ _ hL _
  have hval : ∀ (j : Nat) t v, Ybaf.f3.params[j]? = some t → args[j]? = some v → Value.okWide Ybaf.prog W .any base t v := hval0
  have hW' := hW
  obtain ⟨p, q, hA0, hV0, rfl, hfz, hnd⟩ := hW
  have hA : DataW.TrodAll enc Ybaf.prog W 0 (fun _ => true) true Ybaf.f3.params.toList args.toList ds p := hA0
  have hV : DataW.TrodVars enc Ybaf.prog W (fun _ => true) [nIv] gs q := hV0
  rw [Ybaf.params3] at hA hval
  obtain ⟨v1, v2, v3, d1, d2, d3, p1, p2, p3, rfl, rfl, rfl, h1, h2, h3⟩ := trodAll_three hA
  obtain ⟨wall, rfl, rfl, rfl, ww⟩ := open_int Ybaf.underlying2 (hval 0 2 v1 rfl rfl) h1
  obtain ⟨lg, rfl, rfl, rfl, wl⟩ := open_int Ybaf.underlying22 (hval 1 22 v2 rfl rfl) h2
  obtain ⟨bs, hbl, rfl⟩ := open_node (hval 2 23 v3 rfl rfl) h3
  have lt3 : ∀ x ∈ p3, x.block < W.heap.size := by obtain ⟨m, hm⟩ := h3; exact DataW.trod_lt m _ _ _ hm
  obtain ⟨z0, z1, z2, z3, z4, z5, z6, z7, z8, z9, z10, z11, z12, z13, z14, z15, rfl⟩ := list16 bs hbl
  rw [MakeChecks.laidMetH_plain _ _ _ (by kernel_rfl)] at hL
  obtain ⟨a0, s0, hv0, hs0, _, _⟩ := laid_sentinel (n := nIv) hL gIv tIv Ybaf.underlying28 Ybaf.row86 Ybaf.underlying86 Ybaf.underlying88 rfl rfl Ybaf.underlying9 Ybaf.cells88 Ybaf.cells9
  have vr : ∀ {X : World}, X.var? Ybaf.prog nIv = some #[.iface 86 (.pointer (some a0))] → ∀ sp : Nat → Bool,
      DataW.TrodVars enc Ybaf.prog X sp [nIv] [tok enc (.iface 86 (.pointer (some a0)))] [.cell 0 0] :=
    fun x0 sp => vars_read1 enc gIv tIv Ybaf.underlying28 x0 trivial sp
  obtain ⟨rfl, rfl⟩ := hV.unique (vr hv0 _)
  clear hA0 hV0 hval0
  have hg0 : W.cell? ⟨0, 0, none⟩ = some (.iface 86 (.pointer (some a0))) := by simpa using World.var?_cell gIv hv0 0
  have hlt : 0 < W.heap.size := World.block_lt_of_cell? _ _ hg0
  have bw := bounds_i64 ww
  have bl := bounds_u32 wl
  have fin : ∀ (e : Ending) (W' : World), (e = .returned (.bool true) ∧ Below W.heap.size W W') → ∃ v, e = .returned v ∧ ((OpenSpec.ofChange Rows.lawS2493BTextSpec).at F.told).post enc Ybaf.checked.prog Ybaf.f3 false true false false W #[.int .i64 wall, .int .u32 lg, .agg (List.map bcell [z0, z1, z2, z3, z4, z5, z6, z7, z8, z9, z10, z11, z12, z13, z14, z15]).toArray] v W' := by
    rintro e W' ⟨rfl, bel⟩
    exact ⟨_, rfl, _, _, _, [], _, [.cell 0 0], hW', trodAll_mk1 (shut_bool Ybaf.underlying4 _), trodAll_mk3 (shut_int Ybaf.underlying2 ww) (shut_int Ybaf.underlying22 wl) (Below.trod Ybaf.laidOut (by kernel_rfl) (of_decide_eq_true (by kernel_rfl)) h3 bel lt3),
      vr (var?_below bel gIv (by omega) hv0) _, bel.frame _, fun h => by cases h⟩
  by_cases hneg : wall < 0
  · exact (text_neg F.told a0 s0 wall lg z0 z1 z2 z3 z4 z5 z6 z7 z8 z9 z10 z11 z12 z13 z14 z15 W hF hneg hlt hg0 hs0).mono fin
  · by_cases hpast : 9223372036854000000 < wall
    · exact (text_past F.told a0 s0 wall lg z0 z1 z2 z3 z4 z5 z6 z7 z8 z9 z10 z11 z12 z13 z14 z15 W hF hpast hlt hg0 hs0).mono fin
    · obtain ⟨wn, rfl⟩ := Int.eq_ofNat_of_zero_le (show 0 ≤ wall by omega)
      obtain ⟨ln, rfl⟩ := Int.eq_ofNat_of_zero_le bl.1
      exact (text_in wn ln _ z0 z1 z2 z3 z4 z5 z6 z7 z8 z9 z10 z11 z12 z13 z14 z15 W (by omega) (by omega) rfl).mono fin

/-- THE TOLD AND TIED CARD. -/
theorem card_holds : Rows.LawS2493BTextToldSaid :=
  Claim7.holds_of_told_tied_any_at .later 3 Ybaf.f3 _ [] [] _ _ _ _ _ (by kernel_rfl) rfl rfl rfl Ybaf.laidOut (by kernel_rfl) rfl ⟨rfl, rfl, rfl, rfl, rfl, rfl, rfl⟩ rfl rfl (by kernel_rfl) (by kernel_rfl) Ybaf.func3 (by kernel_rfl)
    (of_decide_eq_true (by kernel_rfl)) (of_decide_eq_true (by kernel_rfl)) Ybaf.stops.symm rfl Ybaf.stopKnobs.symm (by kernel_rfl)
    (by kernel_rfl) (by kernel_rfl) (by kernel_rfl) (by kernel_rfl) (by kernel_rfl) (by kernel_rfl) (by kernel_rfl) (by kernel_rfl) (by kernel_rfl) rfl (by kernel_rfl) rfl rfl
    rfl rfl
    rfl (by kernel_rfl) (by kernel_rfl) (by kernel_rfl) (by decide) (by kernel_rfl) lawS2493BText_row_tie
    (OpenClaim.moreEntering_of (by kernel_rfl) (by kernel_rfl) (by kernel_rfl) (by kernel_rfl) (by kernel_rfl) (by kernel_rfl) (by kernel_rfl) (by kernel_rfl) (by kernel_rfl) (by kernel_rfl))
    ⟨_, WideRow.started_initial, Ybaf.quiet _⟩
    (fun os started _ H enc _ => lifted os started H enc)
end BText
end Go.Proofs.YbulkaypkFmt
