/-
  SEAT b2495a: yearBit (13), and the law's plain part: the last index of a participant.
-/
import Derived.Test.YbulkayqmRows
import Derived.Test.YbulkayqmBuf
import Derived.WalkSpells
import Derived.WalkLawsBesides
import Derived.Laws.BitsAllLaws
import Derived.Laws.ShiftsVarLaws
namespace Go.Proofs.Ybulkayqm
open Go.RowKit Go.Bufs

/-- A year's bit's place. -/
def pos (y : Int) : Nat := (y % 32).toNat
theorem pos_lt (y : Int) : pos y < 32 := by unfold pos; omega
theorem bit_lt (y : Int) : 2 ^ pos y < 4294967296 := Nat.pow_lt_pow_right (a := 2) (by omega) (pos_lt y)

/-- A year's bit. -/
def bitOf (y : Int) : Nat := 2 ^ pos y
theorem bitOf_lt (y : Int) : bitOf y < 4294967296 := bit_lt y

theorem shift_year (y : Int) : Op.shift .shl .u32 1 .u64 ((IntKind.u64.wrap y).tmod 32) = pure (.int .u32 (bitOf y : Int)) := by
  unfold bitOf
  have e : (IntKind.u64.wrap y).tmod 32 = (pos y : Int) := by
    have h : IntKind.u64.wrap y = y % 18446744073709551616 := by rfl
    rw [h, Int.tmod_eq_emod_of_nonneg (by omega)]
    unfold pos
    omega
  rw [e, shift_shl .u32 .u64 1 (pos y : Int) (by omega) (by have := pos_lt y; show pos y ≤ (32 : Int); omega), Int.toNat_natCast]
  have h : IntKind.u32.wrap (1 * 2 ^ pos y) = (1 * 2 ^ pos y : Int) % 4294967296 := by rfl
  have hc : (2 ^ pos y : Int) = ((2 ^ pos y : Nat) : Int) := by rw [Int.natCast_pow]; rfl
  have hb := bit_lt y
  rw [h, Int.one_mul, hc]
  generalize 2 ^ pos y = b at hb
  rw [Int.emod_eq_of_lt (by omega) (by omega)]

set_option maxRecDepth 100000 in
set_option maxHeartbeats 400000 in
theorem yearBit_any (y : Int) (w : World) : Calls Yba.prog 13 #[.int .i64 y] w fun e w' => e = .returned (.int .u32 (bitOf y : Int)) ∧ w' = w := by
  have h := shift_year y
  go_enter Yba.func13, Yba.ntmps13
  go_wp2
  go_ret
  exact ⟨rfl, rfl⟩

/-- 'r' is the last index below j at which fs says f, or -1. -/
def IsLast (fs : Nat → Int) (j : Nat) (f r : Int) : Prop :=
  (r = -1 ∧ ∀ i, i < j → fs i ≠ f) ∨ (∃ n : Nat, r = n ∧ n < j ∧ fs n = f ∧ ∀ i, n < i → i < j → fs i ≠ f)

theorem IsLast.zero (fs : Nat → Int) (f : Int) : IsLast fs 0 f (-1) := .inl ⟨rfl, fun i h => by omega⟩

theorem IsLast.same {fs : Nat → Int} {j : Nat} {f : Int} (h : fs j = f) : IsLast fs (j + 1) f j := .inr ⟨j, rfl, by omega, h, fun i h1 h2 => by omega⟩

theorem IsLast.other {fs : Nat → Int} {j : Nat} {f r : Int} (h : IsLast fs j f r) (hne : fs j ≠ f) : IsLast fs (j + 1) f r := by
  rcases h with ⟨rfl, h⟩ | ⟨n, rfl, h1, h2, h3⟩
  · exact .inl ⟨rfl, fun i hi => by rcases Nat.lt_succ_iff_lt_or_eq.1 hi with h' | rfl; exact h i h'; exact hne⟩
  · exact .inr ⟨n, rfl, by omega, h2, fun i hi hj => by rcases Nat.lt_succ_iff_lt_or_eq.1 hj with h' | rfl; exact h3 i hi h'; exact hne⟩

theorem IsLast.unique {fs : Nat → Int} {j : Nat} {f r r' : Int} (h : IsLast fs j f r) (h' : IsLast fs j f r') : r = r' := by
  rcases h with ⟨rfl, h⟩ | ⟨n, rfl, h1, h2, h3⟩ <;> rcases h' with ⟨rfl, k⟩ | ⟨n', rfl, k1, k2, k3⟩
  · rfl
  · exact absurd k2 (h _ k1)
  · exact absurd h2 (k _ h1)
  · by_cases a : n < n'
    · exact absurd k2 (h3 _ a k1)
    · by_cases b : n' < n
      · exact absurd h2 (k3 _ b h1)
      · have : n = n' := by omega
        rw [this]

/-- The head of participant f when k ratings are in: its last index, and the bits of its years. -/
def HeadIs (fs ys : Nat → Int) (k : Nat) (f : Int) (l : Int) (z : Nat) : Prop :=
  IsLast fs k f l ∧ z < 4294967296 ∧ ∀ i, i < k → fs i = f → z.testBit (pos (ys i)) = true

theorem HeadIs.zero (fs ys : Nat → Int) (f : Int) : HeadIs fs ys 0 f (-1) 0 := ⟨IsLast.zero fs f, by omega, fun i h => by omega⟩

theorem HeadIs.other {fs ys : Nat → Int} {k : Nat} {f l : Int} {z : Nat} (h : HeadIs fs ys k f l z) (hne : fs k ≠ f) : HeadIs fs ys (k + 1) f l z :=
  ⟨h.1.other hne, h.2.1, fun i hi hf => by rcases Nat.lt_succ_iff_lt_or_eq.1 hi with h' | rfl; exact h.2.2 i h' hf; exact absurd hf hne⟩

theorem HeadIs.same {fs ys : Nat → Int} {k : Nat} {f l : Int} {z : Nat} (h : HeadIs fs ys k f l z) (he : fs k = f) : HeadIs fs ys (k + 1) f k (z ||| bitOf (ys k)) := by
  unfold bitOf
  refine ⟨IsLast.same he, Nat.or_lt_two_pow (n := 32) h.2.1 (bit_lt _), fun i hi hf => ?_⟩
  rw [Nat.testBit_or]
  rcases Nat.lt_succ_iff_lt_or_eq.1 hi with h' | rfl
  · rw [h.2.2 i h' hf, Bool.true_or]
  · rw [Nat.testBit_two_pow_self, Bool.or_true]

/-- A bit that is not set: no such year. -/
theorem no_bit {z : Nat} {y : Int} (h : z &&& bitOf y = 0) : z.testBit (pos y) = false := by
  unfold bitOf at h
  have := congrArg (fun x => Nat.testBit x (pos y)) h
  simpa [Nat.testBit_and, Nat.testBit_two_pow_self] using this

theorem a_bit {z : Nat} {y : Int} (h : z.testBit (pos y) = true) : z &&& bitOf y ≠ 0 := by
  intro e
  rw [no_bit e] at h
  cases h
end Go.Proofs.Ybulkayqm
