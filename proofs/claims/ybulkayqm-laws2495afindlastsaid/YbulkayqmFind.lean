/-
  SEAT b2495a: (*RatingIndex).find (7).
-/
import Derived.Test.YbulkayqmLink
import Derived.Deep.QuietTactic
import Derived.BigQuiet
namespace Go.Proofs.Ybulkayqm
open Go.RowKit Go.Bufs

/-- One where participant and year are the asked ones. -/
def hit (fs ys : Nat → Int) (f y : Int) (i : Nat) : Int := if fs i = f ∧ ys i = y then 1 else 0
theorem hit_one {fs ys : Nat → Int} {f y : Int} {i : Nat} (h1 : fs i = f) (h2 : ys i = y) : hit fs ys f y i = 1 := by unfold hit; rw [if_pos ⟨h1, h2⟩]
theorem hit_zero {fs ys : Nat → Int} {f y : Int} {i : Nat} (h : ¬ (fs i = f ∧ ys i = y)) : hit fs ys f y i ≠ 1 := by unfold hit; rw [if_neg h]; decide

/-- What the chain's cells say of the first n ratings. -/
def ChainIs (w : World) (fs ys : Nat → Int) (n : Nat) (a : Option Addr) : Prop :=
  n = 0 ∨ ∃ C, a = some ⟨C, 0, none⟩ ∧ C < w.heap.size ∧ ∀ i, i < n → w.cell? ⟨C, i * 2, none⟩ = some (.int .i64 (ys i)) ∧ ∃ e, w.cell? ⟨C, i * 2 + 1, none⟩ = some (.int .i32 e) ∧ (0 ≤ fs i → IsLast fs i (fs i) e)

set_option maxRecDepth 100000 in
set_option maxHeartbeats 1600000 in
theorem find_any (X H m n c q : Nat) (a : Option Addr) (fs ys : Nat → Int) (qy l : Int) (z : Nat) (w : World) (hq : q < m) (_hm : m ≤ 8) (hn : n ≤ 1024) (hX : X < w.heap.size) (_hH : H < w.heap.size)
    (hx2 : w.cell? ⟨X, 2, none⟩ = some (.slice (some ⟨H, 0, none⟩) m m)) (hx3 : w.cell? ⟨X, 3, none⟩ = some (.slice a n c))
    (h0 : w.cell? ⟨H, q * 2, none⟩ = some (.int .i32 l)) (h1 : w.cell? ⟨H, q * 2 + 1, none⟩ = some (.int .u32 (z : Int)))
    (hhead : HeadIs fs ys n (q : Int) l z) (hchain : ChainIs w fs ys n a) :
    Calls Yba.prog 7 #[.pointer (some ⟨X, 0, none⟩), .int .i64 (q : Int), .int .i64 qy] w fun e w' => ∃ r, e = .returned (.int .i64 r) ∧ IsLast (hit fs ys q qy) n 1 r ∧ Below w.heap.size w w' := by
  have hand := u32_and_nat z (bitOf qy) hhead.2.1 (bitOf_lt qy)
  have hyb := yearBit_any qy
  have HD : Hid (HeadIs fs ys n (q : Int) l z) := hhead
  have HCh : Hid (ChainIs w fs ys n a) := hchain
  clear hhead hchain
  by_cases hbit : z &&& bitOf qy = 0
  · rw [hbit] at hand
    go_enter Yba.func7, Yba.ntmps7
    go_wp2_with fail
    go_quiet (first | (go_at_call 13; exact Calls.quiet_of_same (hyb _)))
    go_wp2_with fail
    go_ret
    refine ⟨-1, rfl, .inl ⟨rfl, fun i hi => hit_zero ?_⟩, ((Below.refl _ _).alloc (Nat.le_refl _) _).trans ⟨rfl, rfl, rfl, Nat.le_refl _, fun _ _ => rfl⟩⟩
    rintro ⟨e1, e2⟩
    have := HD.out.2.2 i hi e1
    rw [e2, no_bit hbit] at this
    cases this
  · have hbit' : (((z &&& bitOf qy : Nat) : Int) == 0) = false := by
      rw [beq_eq_false_iff_ne]; omega
    go_enter Yba.func7, Yba.ntmps7
    go_wp2_with fail
    go_quiet (first | (go_at_call 13; exact Calls.quiet_of_same (hyb _)))
    go_wp2_with fail
    go_loopw [8] (fun u wr => ∃ (rr : Int) (j : Nat), u = .int .i32 rr ∧ j ≤ n ∧ IsLast fs j (q : Int) rr ∧ (∀ i, j ≤ i → i < n → hit fs ys q qy i ≠ 1) ∧ Below w.heap.size w wr) (fun u _ => (intOf u + 1).toNat)
    case atStart => exact ⟨l, n, rfl, Nat.le_refl _, HD.out.1, fun i h1 h2 => by omega, ((Below.refl _ _).alloc (Nat.le_refl _) _).trans ⟨rfl, rfl, rfl, Nat.le_refl _, fun _ _ => rfl⟩⟩
    case round =>
      obtain ⟨rr, j, rfl, hj, hlast, hno, hb⟩ := hrel
      rcases hlast with ⟨rfl, hl⟩ | ⟨i, rfl, hi, hfi, hbet⟩
      · go_wp2_with fail
        go_ret
        refine ⟨-1, rfl, .inl ⟨rfl, fun i hi => ?_⟩, hb⟩
        by_cases hij : i < j
        · exact hit_zero fun e => hl i hij e.1
        · exact hno i (by omega) hi
      · have hin : i < n := by omega
        have hno' : ∀ i', i < i' → i' < n → hit fs ys q qy i' ≠ 1 := fun i' h1 h2 => by
          by_cases hij : i' < j
          · exact hit_zero fun e => hbet i' h1 hij e.1
          · exact hno i' (by omega) h2
        rcases HCh.out with h | ⟨C, rfl, hC, hcs⟩
        · omega
        obtain ⟨c0, e, c1, he⟩ := hcs i hin
        have c0' : wr.cell? ⟨C, i * 2, none⟩ = some (.int .i64 (ys i)) := (hb.cell (p := ⟨C, i * 2, none⟩) hC).trans c0
        have c1' : wr.cell? ⟨C, i * 2 + 1, none⟩ = some (.int .i32 e) := (hb.cell (p := ⟨C, i * 2 + 1, none⟩) hC).trans c1
        have x3 : wr.cell? ⟨X, 3, none⟩ = some (.slice (some ⟨C, 0, none⟩) n c) := (hb.cell (p := ⟨X, 3, none⟩) hX).trans hx3
        have HE : Hid (IsLast fs i (q : Int) e) := by have := he (by omega); rwa [hfi] at this
        have HN : Hid (∀ i', i < i' → i' < n → hit fs ys q qy i' ≠ 1) := hno'
        clear hno hbet hno' hcs he c0 c1
        by_cases hy : ys i = qy
        · have hyb' : (ys i == qy) = true := by simp [hy]
          go_wp2_with fail
          go_ret
          exact ⟨i, rfl, .inr ⟨i, rfl, hin, hit_one hfi hy, HN.out⟩, hb⟩
        · have hyb' : (ys i == qy) = false := by simp [hy]
          go_wp2_with fail
          go_roundw
          case rel =>
            refine ⟨e, i, rfl, by omega, HE.out, fun i' h1 h2 => ?_, hb⟩
            rcases Nat.eq_or_lt_of_le h1 with h | h
            · subst h; exact hit_zero fun h' => hy h'.2
            · exact HN.out i' h h2
          case measure =>
            have := HE.out
            simp [intOf]
            rcases this with ⟨rfl, _⟩ | ⟨k, rfl, hk, _⟩ <;> omega
end Go.Proofs.Ybulkayqm
