/-
  SEAT b2493aF: THE WALKS OF civilDate (25).
-/
import Derived.Test.YbulkaypkFmtPad
namespace Go.Proofs.YbulkaypkFmt
open Go.RowKit Go.Bufs Plain

set_option maxHeartbeats 800000 in
theorem civilDate_any (d : Nat) (hd : d ≤ 900000) (w : World) :
    Calls Ybaf.prog 25 #[.int .u64 d] w fun e w' => ∃ y m q : Int, e = .returned (.tuple #[.int .u64 y, .int .u64 m, .int .u64 q]) ∧ (0 ≤ y ∧ y < 10000) ∧ (0 ≤ m ∧ m < 100) ∧ (0 ≤ q ∧ q < 100) ∧ w' = w := by
  go_enter Ybaf.func25, Ybaf.ntmps25
  go_wp2
  all_goals go_ret3
  all_goals refine ⟨_, _, _, rfl, ?_, ?_, ?_, rfl⟩
  all_goals omega
end Go.Proofs.YbulkaypkFmt
