/-
  SEAT b2490aD: THE ROW's STEP AND THE TIED CARD of decimal.LawS2490BExact.
-/
import Derived.Test.YbulkaynuDoorWalkG
import Derived.Test.YbulkaynuDoorTie
import Derived.Test.YbulkaynuDoorCards
import Derived.ProofKit
import Derived.LaidMore
import Derived.OpenShut
import Derived.Lib.LaidTab
import Derived.Stop.Joined
import Derived.SevenTiedAt
namespace Go.Proofs.YbulkaynuDoor
open Go.ChangeShapes Go.WideShapes Go.ChangeAt Go.RowKit

theorem own : ownKnob Ybad.prog.godebug = none := by kernel_rfl
theorem laidOut : laidOutB Ybad.prog = true := by kernel_rfl
/-- The listed variable's name, off the given row. -/
abbrev tabName : String := Rows.lawS2490BExactRow.named.headD ""
theorem gTab : Ybad.prog.globalNamed tabName = some 0 := by kernel_rfl
theorem tTab : (Ybad.prog.globals[0]?).map (·.type) = some 42 := by kernel_rfl
theorem cells42 : Ybad.prog.cellsOf 42 = 64 := by kernel_rfl
theorem cells5 : Ybad.prog.cellsOf 5 = 1 := by kernel_rfl

def tabInts : List Int := Lib.deBruijn64tab.map (fun (n : Nat) => Int.ofNat n)
abbrev laid1 : List (String × DataW Unit) := Rows.lawS2490BExactRow.laid

theorem door_met (os : Os) (args : Array Value) : laidMetH Ybad.prog laid1 ((World.doorLaid Ybad.prog 400 os).forCall (fun _ _ => 0) ⟨#[], args, []⟩).memory :=
  laidMetH_of_parts3 (fuel := 8) (laidMet_of_run' 8 (by kernel_rfl) (by kernel_rfl)) (by kernel_rfl) (by kernel_rfl)

theorem tab_is : (Rows.laid_math_bits_deBruijn64tab : DataW Unit) = Lib.tabData .u8 tabInts := by rfl

theorem tab_at : ∀ j, j < 64 → tabInts.getD j 0 = ((Lib.deBruijn64tab.getD j 0 : Nat) : Int) := by decide +kernel

/-- WHAT THE CONDITION GIVES THE WALKS: the table. -/
theorem of_laid {W : World} (h : laidMetH Ybad.prog laid1 W) : Tab W := by
  rw [MakeChecks.laidMetH_plain _ _ _ (by kernel_rfl)] at h
  have h' : laidMet Ybad.prog ((tabName, Lib.tabData .u8 tabInts) :: []) W := by
    rw [← tab_is]; exact h
  have hT := Lib.tabIs_of_head gTab tTab Ybad.underlying42 Ybad.underlying5 cells5 cells42 h'
  have hc : ∀ j, j < 64 → W.cell? ⟨0, j, none⟩ = some (.int .u8 (Lib.deBruijn64tab.getD j 0)) := fun j hj => by
    rw [← tab_at j hj]
    exact hT.cell gTab j (by show j < 64; exact hj)
  refine ⟨?_, hc⟩
  have h0 := hc 0 (by decide)
  apply Nat.lt_of_not_le
  intro hle
  have : W.heap[0]? = none := Array.getElem?_eq_none (by omega)
  simp [World.cell?, this] at h0

set_option maxRecDepth 100000 in
theorem lifted (os : Os) (started : os.Started) (H : Type) (enc : TypeId × Value → H) :
    ReturnsInHanded {} Ybad.checked os 3 .any (fun w args => (Rows.lawS2490BExactSpec.pre enc Ybad.prog Ybad.f3 [] false w args ∧ laidMetH Ybad.prog laid1 w) ∧ sizedMet enc Ybad.prog Ybad.f3 (OpenSpec.ofChange Rows.lawS2490BExactSpec) false w args)
      (Rows.lawS2490BExactSpec.post enc Ybad.prog Ybad.f3 false true false false) := by
  refine returnsInHanded_of_change_and (C := Ybad.checked) (X := fun w _ => laidMetH Ybad.prog laid1 w) (fun _ _ _ hh h => h.of_heap hh) own started (by kernel_rfl) Ybad.func3
    (ChangeSpec.witness_shaped (enc := enc) (C := Ybad.checked) (os := os) (X := fun w _ => laidMetH Ybad.prog laid1 w) false (World.doorLaid Ybad.prog 400 os) #[.int .i16 0, .int .u8 0, .int .i16 0, .int .u8 0] 8 rfl (World.shaped_of_RefB (by kernel_rfl) (by kernel_rfl)) (by kernel_rfl) (by kernel_rfl) (by kernel_rfl) (door_met os _)) ?_
  intro W base args ds gs before hval0 hW _ _ hL _
  have hval : ∀ (j : Nat) t v, Ybad.f3.params[j]? = some t → args[j]? = some v → Value.okWide Ybad.prog W .any base t v := hval0
  have hW' := hW
  obtain ⟨p, q, hA0, hV, rfl, hfz, hnd⟩ := hW
  have hA : DataW.TrodAll enc Ybad.prog W 0 (fun _ => true) true Ybad.f3.params.toList args.toList ds p := hA0
  rw [Ybad.params3] at hA hval
  obtain ⟨v0, v1, v2, v3, d0, d1, d2, d3, p0, p1, p2, p3, rfl, rfl, rfl, h0, h1, h2, h3⟩ := trodAll_four hA
  obtain ⟨rfl, rfl⟩ := trodVars_none hV
  obtain ⟨a, rfl, rfl, rfl, wa⟩ := open_int Ybad.underlying22 (hval 0 22 v0 rfl rfl) h0
  obtain ⟨b, rfl, rfl, rfl, wb⟩ := open_int Ybad.underlying5 (hval 1 5 v1 rfl rfl) h1
  obtain ⟨c, rfl, rfl, rfl, wc⟩ := open_int Ybad.underlying22 (hval 2 22 v2 rfl rfl) h2
  obtain ⟨d, rfl, rfl, rfl, wd⟩ := open_int Ybad.underlying5 (hval 3 5 v3 rfl rfl) h3
  have hT := of_laid hL
  clear hA0 hval0 hval h0 h1 h2 h3 hA hV
  have ba := bounds_i16 wa
  have bb := bounds_u8 wb
  have bc := bounds_i16 wc
  have bd := bounds_u8 wd
  obtain ⟨bu, rfl⟩ := Int.eq_ofNat_of_zero_le bb.1
  obtain ⟨du, rfl⟩ := Int.eq_ofNat_of_zero_le bd.1
  refine (law_any a c bu du ba.1 (by omega) bc.1 (by omega) (by omega) (by omega) W hT).mono fun e W' ⟨he, bel⟩ => ?_
  subst he
  exact ⟨_, rfl, _, _, _, [], _, [], hW', trodAll_mk1 (shut_bool Ybad.underlying4 _), trodAll_mk4 (shut_int Ybad.underlying22 wa) (shut_int Ybad.underlying5 wb) (shut_int Ybad.underlying22 wc) (shut_int Ybad.underlying5 wd), rfl, bel.frame _, fun h => by cases h⟩

theorem row_holds : Rows.LawS2490BExactSaid :=
  OpenClaim.holds_of_wide 3 Ybad.f3 rfl rfl rfl rfl rfl rfl rfl ⟨rfl, rfl, rfl, rfl, rfl⟩ rfl rfl rfl rfl rfl (by kernel_rfl) Ybad.func3 (by kernel_rfl)
    (of_decide_eq_true (by kernel_rfl)) (by unfold Func.isWrapper; first | (rw [if_pos (by decide +kernel)]; kernel_rfl) | (rw [if_neg (by decide +kernel)]; exact ⟨rfl, rfl⟩))
    (fun os started H enc _ => lifted os started H enc)

/-- THE TIED CARD. -/
theorem card_holds : Rows.LawS2490BExactCardSaid :=
  Claim7.holds_tied_plain_at .later [] [.data] true (true, "68bbdc9dfa1f53e603eb898197b06880545ec80e5ed59fb5da184c6f1277b4d0") false
    row_holds (fun _ h => by cases h) (by kernel_rfl) (fun _ h => by cases h) lawS2490BExact_row_tie rfl ⟨rfl, rfl⟩ (by kernel_rfl) rfl
    (fun f fn hf hfn => by
      obtain rfl : f = 3 := Option.some.inj ((show Ybad.prog.funcNamed Rows.lawS2490BExactRow.func = some 3 by kernel_rfl).symm.trans hf) |>.symm
      obtain rfl : fn = Ybad.f3 := (Option.some.inj (Ybad.func3.symm.trans hfn)).symm
      exact ⟨by kernel_rfl, fun j t ht => by
        rw [Ybad.params3] at ht
        have h3 : t = 22 ∨ t = 5 := by
          rcases j with _ | _ | _ | _ | j
          · left; simpa using ht.symm
          · right; simpa using ht.symm
          · left; simpa using ht.symm
          · right; simpa using ht.symm
          · simp at ht
        rcases h3 with h3 | h3
        · subst h3; exact (show Ybad.prog.wantsStandIn 22 = false by kernel_rfl)
        · subst h3; exact (show Ybad.prog.wantsStandIn 5 = false by kernel_rfl)⟩)
    (by kernel_rfl)
end Go.Proofs.YbulkaynuDoor
