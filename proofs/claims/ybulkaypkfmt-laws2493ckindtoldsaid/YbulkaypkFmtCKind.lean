/-
  SEAT b2493aF: THE ROW's STEP AND THE TOLD AND TIED CARD of driftline.LawS2493CKind.
-/
import Derived.Test.YbulkaypkFmtFrame
import Derived.Test.YbulkaypkFmtKind2
namespace Go.Proofs.YbulkaypkFmt
open Go.ChangeShapes Go.WideShapes Go.ChangeAt Go.RowKit Go.Bufs
open Go.Extern.Stop Go.Stop Go.Extern

namespace CKind
abbrev nCl : String := Rows.lawS2493CKindSpec.vars.headD ""
abbrev nEx : String := Rows.lawS2493CKindSpec.vars.tail.headD ""
theorem gCl : Ybaf.prog.globalNamed nCl = some 1 := by kernel_rfl
theorem gEx : Ybaf.prog.globalNamed nEx = some 2 := by kernel_rfl
theorem tCl : (Ybaf.prog.globals[1]?).map (·.type) = some 28 := by kernel_rfl
theorem tEx : (Ybaf.prog.globals[2]?).map (·.type) = some 28 := by kernel_rfl

theorem door_met (os : Os) (args : Array Value) : laidMetH Ybaf.prog Rows.lawS2493CKindRow.laid ((World.doorLaid Ybaf.prog 400 os).forCall (fun _ _ => 0) ⟨#[], args, []⟩).memory :=
  laidMetH_of_parts3 (fuel := 8) (laidMet_of_run' 8 (by kernel_rfl) (by kernel_rfl)) (by kernel_rfl) (by kernel_rfl)

set_option maxRecDepth 100000 in
theorem lifted (os : Os) (started : os.Started) (H : Type) (enc : TypeId × Value → H) :
    ReturnsInTold none {} Ybaf.checked os 5 .any Input.okWide ((OpenSpec.ofChange Rows.lawS2493CKindSpec).preRow enc Ybaf.prog Ybaf.f5 [] false Rows.lawS2493CKindRow.laid)
      (fun F => ((OpenSpec.ofChange Rows.lawS2493CKindSpec).at F).post enc Ybaf.prog Ybaf.f5 false true false false) (aloneAtReturn Ybaf.prog) nothingAlways := by
  refine returnsInTold_of_row (C := Ybaf.checked) (s := OpenSpec.ofChange Rows.lawS2493CKindSpec) (by kernel_rfl) Ybaf.own started (by kernel_rfl) Ybaf.func5
    (OpenSpec.witness_stopped_atRef (enc := enc) (C := Ybaf.checked) false (World.doorLaid Ybaf.prog 400 os) #[.bool false, .int .i64 0, .int .u32 0, .agg #[.int .u8 0, .int .u8 0, .int .u8 0, .int .u8 0, .int .u8 0, .int .u8 0, .int .u8 0, .int .u8 0, .int .u8 0, .int .u8 0, .int .u8 0, .int .u8 0, .int .u8 0, .int .u8 0, .int .u8 0, .int .u8 0]] rfl (by kernel_rfl) (by kernel_rfl) (by kernel_rfl)
      (OpenSpec.preRow_of_B rfl 8 (by kernel_rfl) (by kernel_rfl) (door_met os _))) ?_
  intro F W base args ds gs before _ hF hval0 hW _ _ _ hL _
  have hval : ∀ (j : Nat) t v, Ybaf.f5.params[j]? = some t → args[j]? = some v → Value.okWide Ybaf.prog W .any base t v := hval0
  have hW' := hW
  obtain ⟨p, q, hA0, hV0, rfl, hfz, hnd⟩ := hW
  have hA : DataW.TrodAll enc Ybaf.prog W 0 (fun _ => true) true Ybaf.f5.params.toList args.toList ds p := hA0
  have hV : DataW.TrodVars enc Ybaf.prog W (fun _ => true) [nCl, nEx] gs q := hV0
  rw [Ybaf.params5] at hA hval
  obtain ⟨v0, v1, v2, v3, d0, d1, d2, d3, p0, p1, p2, p3, rfl, rfl, rfl, h0, h1, h2, h3⟩ := trodAll_four hA
  obtain ⟨c, rfl, rfl, rfl⟩ := open_bool Ybaf.underlying4 (hval 0 4 v0 rfl rfl) h0
  obtain ⟨wall, rfl, rfl, rfl, ww⟩ := open_int Ybaf.underlying2 (hval 1 2 v1 rfl rfl) h1
  obtain ⟨lg, rfl, rfl, rfl, wl⟩ := open_int Ybaf.underlying22 (hval 2 22 v2 rfl rfl) h2
  obtain ⟨bs, hbl, rfl⟩ := open_node (hval 3 23 v3 rfl rfl) h3
  have lt3 : ∀ x ∈ p3, x.block < W.heap.size := by obtain ⟨m, hm⟩ := h3; exact DataW.trod_lt m _ _ _ hm
  obtain ⟨z0, z1, z2, z3, z4, z5, z6, z7, z8, z9, z10, z11, z12, z13, z14, z15, rfl⟩ := list16 bs hbl
  rw [MakeChecks.laidMetH_plain _ _ _ (by kernel_rfl)] at hL
  obtain ⟨a2, a1, s2, s1, ca2, ca1, t2, t1, hv2, hv1, hs2, _, _, hs1, _, _, hne, hb2, hb1⟩ := laid_sentinels2 (n0 := nEx) (n1 := nCl) hL gEx tEx gCl tCl Ybaf.underlying28 Ybaf.row86 Ybaf.underlying86 Ybaf.underlying88 rfl rfl Ybaf.underlying9 Ybaf.cells88 Ybaf.cells9
  have vr : ∀ {X : World}, X.var? Ybaf.prog nCl = some #[.iface 86 (.pointer (some a1))] → X.var? Ybaf.prog nEx = some #[.iface 86 (.pointer (some a2))] → ∀ sp : Nat → Bool,
      DataW.TrodVars enc Ybaf.prog X sp [nCl, nEx] [tok enc (.iface 86 (.pointer (some a1))), tok enc (.iface 86 (.pointer (some a2)))] [.cell 1 0, .cell 2 0] :=
    fun x0 x1 sp => vars_read2 enc gCl tCl Ybaf.underlying28 x0 trivial gEx tEx Ybaf.underlying28 x1 trivial sp
  obtain ⟨rfl, rfl⟩ := hV.unique (vr hv1 hv2 _)
  clear hA0 hV0 hval0
  have hg1 : W.cell? ⟨1, 0, none⟩ = some (.iface 86 (.pointer (some a1))) := by simpa using World.var?_cell gCl hv1 0
  have hg2 : W.cell? ⟨2, 0, none⟩ = some (.iface 86 (.pointer (some a2))) := by simpa using World.var?_cell gEx hv2 0
  have hlt : 2 < W.heap.size := World.block_lt_of_cell? _ _ hg2
  have bw := bounds_i64 ww
  have bl := bounds_u32 wl
  have fin : ∀ (e : Ending) (W' : World), (e = .returned (.bool true) ∧ Below W.heap.size W W') → ∃ v, e = .returned v ∧ ((OpenSpec.ofChange Rows.lawS2493CKindSpec).at F.told).post enc Ybaf.checked.prog Ybaf.f5 false true false false W #[.bool c, .int .i64 wall, .int .u32 lg, .agg (List.map bcell [z0, z1, z2, z3, z4, z5, z6, z7, z8, z9, z10, z11, z12, z13, z14, z15]).toArray] v W' := by
    rintro e W' ⟨rfl, bel⟩
    exact ⟨_, rfl, _, _, _, [], _, [.cell 1 0, .cell 2 0], hW', trodAll_mk1 (shut_bool Ybaf.underlying4 _), trodAll_mk4 (shut_bool Ybaf.underlying4 c) (shut_int Ybaf.underlying2 ww) (shut_int Ybaf.underlying22 wl) (Below.trod Ybaf.laidOut (by kernel_rfl) (of_decide_eq_true (by kernel_rfl)) h3 bel lt3),
      vr (var?_below bel gCl (by omega) hv1) (var?_below bel gEx (by omega) hv2) _, bel.frame _, fun h => by cases h⟩
  cases c
  · exact (kind_open F.told a1 a2 s2 ca1 ca2 t1 t2 wall lg z0 z1 z2 z3 z4 z5 z6 z7 z8 z9 z10 z11 z12 z13 z14 z15 W hF hlt bw.1 bw.2 bl.1 bl.2 hg1 hg2 hs2 (fun e => hne e.symm) hb1 hb2).mono fin
  · exact (kind_closed a1 a2 ca1 ca2 t1 t2 wall lg z0 z1 z2 z3 z4 z5 z6 z7 z8 z9 z10 z11 z12 z13 z14 z15 W hlt hg1 hg2 (fun e => hne e.symm) hb1 hb2).mono fin

/-- THE TOLD AND TIED CARD. -/
theorem card_holds : Rows.LawS2493CKindToldSaid :=
  Claim7.holds_of_told_tied_any_at .later 5 Ybaf.f5 _ [] [] _ _ _ _ _ (by kernel_rfl) rfl rfl rfl Ybaf.laidOut (by kernel_rfl) rfl ⟨rfl, rfl, rfl, rfl, rfl, rfl, rfl⟩ rfl rfl (by kernel_rfl) (by kernel_rfl) Ybaf.func5 (by kernel_rfl)
    (of_decide_eq_true (by kernel_rfl)) (of_decide_eq_true (by kernel_rfl)) Ybaf.stops.symm rfl Ybaf.stopKnobs.symm (by kernel_rfl)
    (by kernel_rfl) (by kernel_rfl) (by kernel_rfl) (by kernel_rfl) (by kernel_rfl) (by kernel_rfl) (by kernel_rfl) (by kernel_rfl) (by kernel_rfl) rfl (by kernel_rfl) rfl rfl
    rfl rfl
    rfl (by kernel_rfl) (by kernel_rfl) (by kernel_rfl) (by decide) (by kernel_rfl) lawS2493CKind_row_tie
    (OpenClaim.moreEntering_of (by kernel_rfl) (by kernel_rfl) (by kernel_rfl) (by kernel_rfl) (by kernel_rfl) (by kernel_rfl) (by kernel_rfl) (by kernel_rfl) (by kernel_rfl) (by kernel_rfl))
    ⟨_, WideRow.started_initial, Ybaf.quiet _⟩
    (fun os started _ H enc _ => lifted os started H enc)
end CKind
end Go.Proofs.YbulkaypkFmt
