/-
  SEAT b2495a: zzs2495ceq (11): two slices that hold the same pairs.
-/
import Derived.Test.YbulkayqmExpect2
namespace Go.Proofs.Ybulkayqm
open Go.RowKit Go.Bufs

set_option maxRecDepth 100000 in
set_option maxHeartbeats 1600000 in
theorem eq_some (b off c b' off' c' : Nat) (ms : List (ByteArray × Int)) (w : World) (hn : ms.length ≤ 200000)
    (hc : ∀ j u, (mc ms)[j]? = some u → w.cell? ⟨b, off + j, none⟩ = some u) (hc' : ∀ j u, (mc ms)[j]? = some u → w.cell? ⟨b', off' + j, none⟩ = some u) :
    Calls Yba.prog 11 #[.slice (some ⟨b, off, none⟩) ms.length c, .slice (some ⟨b', off', none⟩) ms.length c'] w fun e w' => e = .returned (.bool true) ∧ ∃ m, w' = w.drewN m := by
  have HC : Hid (∀ j u, (mc ms)[j]? = some u → w.cell? ⟨b, off + j, none⟩ = some u) := hc
  have HC' : Hid (∀ j u, (mc ms)[j]? = some u → w.cell? ⟨b', off' + j, none⟩ = some u) := hc'
  clear hc hc'
  go_enter Yba.func11, Yba.ntmps11
  go_wp2
  go_loopw [5] (fun i wr => ∃ k d : Nat, k ≤ ms.length ∧ i = .int .i64 (k : Int) ∧ wr = w.drewN d) (fun i _ => ms.length - (intOf i).toNat)
  case atStart => exact ⟨0, 0, Nat.zero_le _, rfl, rfl⟩
  case round =>
    obtain ⟨k, d, hk, rfl, rfl⟩ := hrel
    by_cases hlt : k < ms.length
    · obtain ⟨p, hp⟩ : ∃ p, ms[k]? = some p := ⟨_, List.getElem?_eq_getElem hlt⟩
      obtain ⟨p1, p2⟩ := mc_get ms k p hp
      have h1 : w.cell? ⟨b, off + k * 2, none⟩ = some (.string p.1) := by rw [Nat.mul_comm]; exact HC.out _ _ p1
      have h2 : w.cell? ⟨b, off + k * 2 + 1, none⟩ = some (.int .i64 p.2) := by rw [Nat.mul_comm, Nat.add_assoc]; exact HC.out _ _ p2
      have h3 : w.cell? ⟨b', off' + k * 2, none⟩ = some (.string p.1) := by rw [Nat.mul_comm]; exact HC'.out _ _ p1
      have h4 : w.cell? ⟨b', off' + k * 2 + 1, none⟩ = some (.int .i64 p.2) := by rw [Nat.mul_comm, Nat.add_assoc]; exact HC'.out _ _ p2
      have hb1 : (k : Int) < (ms.length : Int) := by omega
      have hb0 : (0 : Int) ≤ (k : Int) := by omega
      clear hp p1 p2
      go_wp2
      go_quiet (fail)
      go_wp2
      go_roundw
      case rel => exact ⟨k + 1, _, by omega, by go_num, rfl⟩
      case measure => simp [intOf]; omega
    · obtain rfl : k = ms.length := by omega
      go_wp2
      go_ret
      exact ⟨rfl, _, rfl⟩

set_option maxRecDepth 100000 in
set_option maxHeartbeats 1600000 in
theorem eq_none (a a' : Option Addr) (c c' : Nat) (w : World) :
    Calls Yba.prog 11 #[.slice a 0 c, .slice a' 0 c'] w fun e w' => e = .returned (.bool true) ∧ ∃ m, w' = w.drewN m := by
  go_enter Yba.func11, Yba.ntmps11
  go_wp2
  go_loopw [5] (fun i wr => i = .int .i64 0 ∧ wr = w) (fun _ _ => 0)
  case atStart => exact ⟨rfl, rfl⟩
  case round =>
    obtain ⟨rfl, rfl⟩ := hrel
    go_wp2
    go_ret
    exact ⟨rfl, 0, rfl⟩

/-- TWO SLICES OF THE SAME PAIRS ARE EQUAL. -/
theorem eq_any (a a' : Option Addr) (c c' : Nat) (ms : List (ByteArray × Int)) (w : World) (hn : ms.length ≤ 200000) (h : Rd w a ms) (h' : Rd w a' ms) :
    Calls Yba.prog 11 #[.slice a ms.length c, .slice a' ms.length c'] w fun e w' => e = .returned (.bool true) ∧ ∃ m, w' = w.drewN m := by
  rcases h with rfl | ⟨b, off, rfl, _, hc⟩
  · exact eq_none a a' c c' w
  · rcases h' with rfl | ⟨b', off', rfl, _, hc'⟩
    · exact eq_none _ a' c c' w
    · exact eq_some b off c b' off' c' ms w hn hc hc'
end Go.Proofs.Ybulkayqm
