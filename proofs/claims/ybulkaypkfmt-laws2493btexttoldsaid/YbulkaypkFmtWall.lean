/-
  SEAT b2493aF: THE WALK OF appendWall (23): it writes 30 bytes.
-/
import Derived.Test.YbulkaypkFmtDate
namespace Go.Proofs.YbulkaypkFmt
open Go.RowKit Go.Bufs Plain

/-- n bytes so far, whatever they are. -/
def Room (w : World) (g cap n : Nat) : Prop := ∃ bs : List UInt8, bs.length = n ∧ Fit w g cap bs

theorem Room.alloc {w : World} {g cap n : Nat} (h : Room w g cap n) (o : Obj) : Room (w.alloc o) g cap n := by
  obtain ⟨bs, h1, h2⟩ := h
  exact ⟨bs, h1, h2.alloc o⟩
theorem Room.below {w w' : World} {g cap n : Nat} (h : Room w g cap n) (hb : Below w.heap.size w w') : Room w' g cap n := by
  obtain ⟨bs, h1, h2⟩ := h
  exact ⟨bs, h1, h2.below hb⟩
theorem Room.lt {w : World} {g cap n : Nat} (h : Room w g cap n) : g < w.heap.size := by
  obtain ⟨bs, h1, h2⟩ := h
  exact h2.lt

theorem wpList_append_room1 {P : Program} (w : World) {ops : Array Oper} {rest : List Oper} {o : Oper} {a : Act} {Q : Exit → Act → World → Prop}
    (hg : o.guard = none) (s x : Operand) (t tx : TypeId) (hop : o.op = Op.call { callee := Callee.builtin Builtin.append, args := #[s, x], argTypes := #[t, tx] })
    (e e' : TypeId) (i : TypeInfo) (h1 : P.underlying t = some (.slice e)) (hk : P.underlying tx = some (.slice e')) (h2 : P.info? e = some i) (h4 : i.size = 1)
    (g cap n : Nat) (hv : a.eval s = .slice (some ⟨g, 0, none⟩) n cap) (w0 : World) (T : TypeId) (xv : Value) (hw : w = w0.alloc (.cells #[xv] T)) (hx : a.eval x = .slice (some ⟨w0.heap.size, 0, none⟩) 1 1)
    (hb : ∃ b, xv = bcell b) (hR : Room w0 g cap n) (b1 : n + 1 ≤ cap)
    (hK : ∀ w', Room w' g cap (n + 1) → Only w0 w' g → wpList P ops Q rest (a.put o.dst (.slice (some ⟨g, 0, none⟩) (n + 1) cap)) w') :
    wpList P ops Q (o :: rest) a w := by
  subst hw
  obtain ⟨bs, hn, hF⟩ := hR
  obtain ⟨b, rfl⟩ := hb
  refine wpList_append_fit _ hg s x t tx hop e i h1 h2 h4 g cap n bs hn hv (hF.alloc _) _ [b] hx (src_one w0 hk b _ rfl T) b1 ?_
  intro w' hF' hO
  exact hK w' ⟨_, by simp [hn], hF'⟩ ((Only.alloc w0 g _).trans hO)

/-- appendPadded of a number below 10^width: width bytes more. -/
theorem padded_room (g cap n : Nat) (xi wi : Int) (width M : Nat) (w : World) (hR : Room w g cap n) (hwi : wi = (width : Int)) (hM : 10 ^ width = M) (hx0 : 0 ≤ xi) (hx : xi < (M : Int)) (hw0 : 1 ≤ width) (hw : width ≤ 19) (hroom : n + width ≤ cap) :
    Calls Ybaf.prog 13 #[.slice (some ⟨g, 0, none⟩) n cap, .int .u64 xi, .int .i64 wi] w fun e w' =>
      e = .returned (.slice (some ⟨g, 0, none⟩) (n + width) cap) ∧ Room w' g cap (n + width) ∧ Only w w' g := by
  obtain ⟨bs, rfl, hF⟩ := hR
  obtain ⟨x, rfl⟩ := Int.eq_ofNat_of_zero_le hx0
  subst hwi
  have hxM : x < 10 ^ width := by omega
  have h19 : 10 ^ width ≤ 10 ^ 19 := Nat.pow_le_pow_right (by omega) hw
  refine (appendPadded_fit g cap bs x width w hF (by omega) hw0 (by omega) (fun k hk => by rw [hk.width hxM]; exact hroom)).mono ?_
  rintro e w' ⟨k, hk, rfl, hF', hO⟩
  have e1 := hk.width hxM
  subst e1
  exact ⟨rfl, ⟨_, by rw [List.length_append, dig_length], hF'⟩, hO⟩

theorem civilDate_int (d : Int) (h0 : 0 ≤ d) (hd : d ≤ 900000) (w : World) :
    Calls Ybaf.prog 25 #[.int .u64 d] w fun e w' => ∃ y m q : Int, e = .returned (.tuple #[.int .u64 y, .int .u64 m, .int .u64 q]) ∧ (0 ≤ y ∧ y < 10000) ∧ (0 ≤ m ∧ m < 100) ∧ (0 ≤ q ∧ q < 100) ∧ w' = w := by
  obtain ⟨d, rfl⟩ := Int.eq_ofNat_of_zero_le h0
  exact civilDate_any d (by omega) w

set_option maxHeartbeats 1600000 in
theorem appendWall_core (g cap n : Nat) (wall S N : Int) (w : World) (hR : Room w g cap n) (hS : wall.tdiv 1000000000 = S) (hN : wall.tmod 1000000000 = N)
    (s1 : -9223372037 ≤ S) (s2 : S ≤ 9223372036) (n1 : -1000000000 < N) (n2 : N < 1000000000) (hroom : n + 30 ≤ cap) :
    Calls Ybaf.prog 23 #[.slice (some ⟨g, 0, none⟩) n cap, .int .i64 wall] w fun e w' =>
      e = .returned (.slice (some ⟨g, 0, none⟩) (n + 30) cap) ∧ Room w' g cap (n + 30) ∧ Only w w' g := by
  obtain ⟨i0, hi0, hz0, hz1, hz2⟩ := info_parts Ybaf.info5
  by_cases hneg : N < 0
  · go_enter Ybaf.func23, Ybaf.ntmps23
    go_wp2_with fail
    refine (civilDate_int _ (by omega) (by omega) _).mono ?_
    rintro e w' ⟨y, m, q, rfl, ⟨y1, y2⟩, ⟨m1, m2⟩, ⟨q1, q2⟩, hw⟩
    rw [hw]; clear hw
    go_wp2_with fail
    refine (padded_room g cap _ _ _ 4 10000 _ hR rfl rfl (by omega) (by omega) (by omega) (by omega) (by omega)).mono ?_
    rintro e w1 ⟨rfl, hR1, hO1⟩
    go_wp2_with (at_builtin; refine wpList_append_room1 _ rfl _ _ 33 33 rfl 5 5 i0 Ybaf.underlying33 Ybaf.underlying33 hi0 hz1 g cap _ rfl _ _ _ rfl rfl ⟨45, rfl⟩ hR1 (by omega) ?_; intro w2 hR2 hO2)
    refine (padded_room g cap _ _ _ 2 100 _ hR2 rfl rfl (by omega) (by omega) (by omega) (by omega) (by omega)).mono ?_
    rintro e w3 ⟨rfl, hR3, hO3⟩
    go_wp2_with (at_builtin; refine wpList_append_room1 _ rfl _ _ 33 33 rfl 5 5 i0 Ybaf.underlying33 Ybaf.underlying33 hi0 hz1 g cap _ rfl _ _ _ rfl rfl ⟨45, rfl⟩ hR3 (by omega) ?_; intro w4 hR4 hO4)
    refine (padded_room g cap _ _ _ 2 100 _ hR4 rfl rfl (by omega) (by omega) (by omega) (by omega) (by omega)).mono ?_
    rintro e w5 ⟨rfl, hR5, hO5⟩
    go_wp2_with (at_builtin; refine wpList_append_room1 _ rfl _ _ 33 33 rfl 5 5 i0 Ybaf.underlying33 Ybaf.underlying33 hi0 hz1 g cap _ rfl _ _ _ rfl rfl ⟨84, rfl⟩ hR5 (by omega) ?_; intro w6 hR6 hO6)
    refine (padded_room g cap _ _ _ 2 100 _ hR6 rfl rfl (by omega) (by omega) (by omega) (by omega) (by omega)).mono ?_
    rintro e w7 ⟨rfl, hR7, hO7⟩
    go_wp2_with (at_builtin; refine wpList_append_room1 _ rfl _ _ 33 33 rfl 5 5 i0 Ybaf.underlying33 Ybaf.underlying33 hi0 hz1 g cap _ rfl _ _ _ rfl rfl ⟨58, rfl⟩ hR7 (by omega) ?_; intro w8 hR8 hO8)
    refine (padded_room g cap _ _ _ 2 100 _ hR8 rfl rfl (by omega) (by omega) (by omega) (by omega) (by omega)).mono ?_
    rintro e w9 ⟨rfl, hR9, hO9⟩
    go_wp2_with (at_builtin; refine wpList_append_room1 _ rfl _ _ 33 33 rfl 5 5 i0 Ybaf.underlying33 Ybaf.underlying33 hi0 hz1 g cap _ rfl _ _ _ rfl rfl ⟨58, rfl⟩ hR9 (by omega) ?_; intro w10 hR10 hO10)
    refine (padded_room g cap _ _ _ 2 100 _ hR10 rfl rfl (by omega) (by omega) (by omega) (by omega) (by omega)).mono ?_
    rintro e w11 ⟨rfl, hR11, hO11⟩
    go_wp2_with (at_builtin; refine wpList_append_room1 _ rfl _ _ 33 33 rfl 5 5 i0 Ybaf.underlying33 Ybaf.underlying33 hi0 hz1 g cap _ rfl _ _ _ rfl rfl ⟨46, rfl⟩ hR11 (by omega) ?_; intro w12 hR12 hO12)
    refine (padded_room g cap _ _ _ 9 1000000000 _ hR12 rfl rfl (by omega) (by omega) (by omega) (by omega) (by omega)).mono ?_
    rintro e w13 ⟨rfl, hR13, hO13⟩
    go_wp2_with (at_builtin; refine wpList_append_room1 _ rfl _ _ 33 33 rfl 5 5 i0 Ybaf.underlying33 Ybaf.underlying33 hi0 hz1 g cap _ rfl _ _ _ rfl rfl ⟨90, rfl⟩ hR13 (by omega) ?_; intro w14 hR14 hO14)
    go_ret
    exact ⟨rfl, hR14, ((((((((((((hO1.trans hO2).trans hO3).trans hO4).trans hO5).trans hO6).trans hO7).trans hO8).trans hO9).trans hO10).trans hO11).trans hO12).trans hO13).trans hO14⟩
  · go_enter Ybaf.func23, Ybaf.ntmps23
    go_wp2_with fail
    refine (civilDate_int _ (by omega) (by omega) _).mono ?_
    rintro e w' ⟨y, m, q, rfl, ⟨y1, y2⟩, ⟨m1, m2⟩, ⟨q1, q2⟩, hw⟩
    rw [hw]; clear hw
    go_wp2_with fail
    refine (padded_room g cap _ _ _ 4 10000 _ hR rfl rfl (by omega) (by omega) (by omega) (by omega) (by omega)).mono ?_
    rintro e w1 ⟨rfl, hR1, hO1⟩
    go_wp2_with (at_builtin; refine wpList_append_room1 _ rfl _ _ 33 33 rfl 5 5 i0 Ybaf.underlying33 Ybaf.underlying33 hi0 hz1 g cap _ rfl _ _ _ rfl rfl ⟨45, rfl⟩ hR1 (by omega) ?_; intro w2 hR2 hO2)
    refine (padded_room g cap _ _ _ 2 100 _ hR2 rfl rfl (by omega) (by omega) (by omega) (by omega) (by omega)).mono ?_
    rintro e w3 ⟨rfl, hR3, hO3⟩
    go_wp2_with (at_builtin; refine wpList_append_room1 _ rfl _ _ 33 33 rfl 5 5 i0 Ybaf.underlying33 Ybaf.underlying33 hi0 hz1 g cap _ rfl _ _ _ rfl rfl ⟨45, rfl⟩ hR3 (by omega) ?_; intro w4 hR4 hO4)
    refine (padded_room g cap _ _ _ 2 100 _ hR4 rfl rfl (by omega) (by omega) (by omega) (by omega) (by omega)).mono ?_
    rintro e w5 ⟨rfl, hR5, hO5⟩
    go_wp2_with (at_builtin; refine wpList_append_room1 _ rfl _ _ 33 33 rfl 5 5 i0 Ybaf.underlying33 Ybaf.underlying33 hi0 hz1 g cap _ rfl _ _ _ rfl rfl ⟨84, rfl⟩ hR5 (by omega) ?_; intro w6 hR6 hO6)
    refine (padded_room g cap _ _ _ 2 100 _ hR6 rfl rfl (by omega) (by omega) (by omega) (by omega) (by omega)).mono ?_
    rintro e w7 ⟨rfl, hR7, hO7⟩
    go_wp2_with (at_builtin; refine wpList_append_room1 _ rfl _ _ 33 33 rfl 5 5 i0 Ybaf.underlying33 Ybaf.underlying33 hi0 hz1 g cap _ rfl _ _ _ rfl rfl ⟨58, rfl⟩ hR7 (by omega) ?_; intro w8 hR8 hO8)
    refine (padded_room g cap _ _ _ 2 100 _ hR8 rfl rfl (by omega) (by omega) (by omega) (by omega) (by omega)).mono ?_
    rintro e w9 ⟨rfl, hR9, hO9⟩
    go_wp2_with (at_builtin; refine wpList_append_room1 _ rfl _ _ 33 33 rfl 5 5 i0 Ybaf.underlying33 Ybaf.underlying33 hi0 hz1 g cap _ rfl _ _ _ rfl rfl ⟨58, rfl⟩ hR9 (by omega) ?_; intro w10 hR10 hO10)
    refine (padded_room g cap _ _ _ 2 100 _ hR10 rfl rfl (by omega) (by omega) (by omega) (by omega) (by omega)).mono ?_
    rintro e w11 ⟨rfl, hR11, hO11⟩
    go_wp2_with (at_builtin; refine wpList_append_room1 _ rfl _ _ 33 33 rfl 5 5 i0 Ybaf.underlying33 Ybaf.underlying33 hi0 hz1 g cap _ rfl _ _ _ rfl rfl ⟨46, rfl⟩ hR11 (by omega) ?_; intro w12 hR12 hO12)
    refine (padded_room g cap _ _ _ 9 1000000000 _ hR12 rfl rfl (by omega) (by omega) (by omega) (by omega) (by omega)).mono ?_
    rintro e w13 ⟨rfl, hR13, hO13⟩
    go_wp2_with (at_builtin; refine wpList_append_room1 _ rfl _ _ 33 33 rfl 5 5 i0 Ybaf.underlying33 Ybaf.underlying33 hi0 hz1 g cap _ rfl _ _ _ rfl rfl ⟨90, rfl⟩ hR13 (by omega) ?_; intro w14 hR14 hO14)
    go_ret
    exact ⟨rfl, hR14, ((((((((((((hO1.trans hO2).trans hO3).trans hO4).trans hO5).trans hO6).trans hO7).trans hO8).trans hO9).trans hO10).trans hO11).trans hO12).trans hO13).trans hO14⟩

theorem tdiv_bd (a : Int) (h1 : -9223372036854775808 ≤ a) (h2 : a ≤ 9223372036854775807) :
    -9223372037 ≤ a.tdiv 1000000000 ∧ a.tdiv 1000000000 ≤ 9223372036 ∧ -1000000000 < a.tmod 1000000000 ∧ a.tmod 1000000000 < 1000000000 := by
  have hm := Int.tmod_add_mul_tdiv a 1000000000
  rcases Int.le_total 0 a with h | h
  · rw [Int.tdiv_eq_ediv_of_nonneg h] at hm ⊢
    omega
  · have e : a.tdiv 1000000000 = -((-a) / 1000000000) := by
      rw [← Int.tdiv_eq_ediv_of_nonneg (by omega : 0 ≤ -a), Int.neg_tdiv, Int.neg_neg]
    rw [e] at hm ⊢
    omega

/-- appendWall: 30 bytes more. -/
theorem appendWall_any (g cap n : Nat) (wall : Int) (w : World) (hR : Room w g cap n) (h1 : -9223372036854775808 ≤ wall) (h2 : wall ≤ 9223372036854775807) (hroom : n + 30 ≤ cap) :
    Calls Ybaf.prog 23 #[.slice (some ⟨g, 0, none⟩) n cap, .int .i64 wall] w fun e w' =>
      e = .returned (.slice (some ⟨g, 0, none⟩) (n + 30) cap) ∧ Room w' g cap (n + 30) ∧ Only w w' g :=
  have b := tdiv_bd wall h1 h2
  appendWall_core g cap n wall _ _ w hR rfl rfl b.1 b.2.1 b.2.2.1 b.2.2.2 hroom
end Go.Proofs.YbulkaypkFmt
