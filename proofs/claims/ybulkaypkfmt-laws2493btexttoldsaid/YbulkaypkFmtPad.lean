/-
  SEAT b2493aF: THE WALK OF appendPadded (13).
-/
import Derived.Test.YbulkaypkFmtRows
import Derived.Test.YbulkaypkFmtPlain
import Derived.Test.YbulkaypkFmtBuf
import Derived.WalkSpells
import Derived.WalkLawsBesides
namespace Go.Proofs.YbulkaypkFmt
open Go.RowKit Go.Bufs Plain

theorem Ybaf.info5 : (Ybaf.prog.info? 5).map (fun i => (i.zero, i.size, i.bytes)) = some (some (.int .u8 0), 1, 1) := by kernel_rfl

/-- The local array's block behind k digits. -/
structure Digs (w wr : World) (x k : Nat) : Prop where
  below : Below w.heap.size w wr
  size : wr.heap.size = w.heap.size + 1
  holds : ∀ j, j < k → wr.cell? ⟨w.heap.size, 19 - j, none⟩ = some (.int .u8 (dbyte x j).toNat)
  there : ∀ j, j < 20 → (wr.cell? ⟨w.heap.size, j, none⟩).isSome = true ∧ wr.frozen? ⟨w.heap.size, j, none⟩ = false

theorem Digs.start (w : World) (x : Nat) (cs : Array Value) (T : TypeId) (h : cs.size = 20) : Digs w (w.alloc (.cells cs T)) x 0 := by
  refine ⟨(Below.refl _ _).alloc (Nat.le_refl _) _, by simp, fun j hj => absurd hj (Nat.not_lt_zero _), fun j hj => ?_⟩
  have e1 : (w.alloc (.cells cs T)).cell? ⟨w.heap.size, j, none⟩ = _ := World.cell?_alloc_new w _ _ j
  have e2 : (w.alloc (.cells cs T)).frozen? ⟨w.heap.size, j, none⟩ = _ := World.frozen?_alloc_new w _ _ j
  rw [e1, e2, Array.getElem?_eq_getElem (by omega)]
  exact ⟨rfl, rfl⟩

theorem Digs.step {w wr : World} {x k n q : Nat} (h : Digs w wr x k) (hn : n + 1 + k = 20) (hq : x / 10 ^ k = q) : Digs w (wr.setCell ⟨w.heap.size, n, none⟩ (.int .u8 (48 + (q : Int) % 10))) x (k + 1) := by
  have hv : (48 + (q : Int) % 10) = ((dbyte x k).toNat : Int) := by rw [dbyte_toNat, hq]; omega
  rw [hv]
  refine ⟨h.below.setCell (Nat.le_refl _) _, by rw [← h.size]; simp [World.setCell], fun j hj => ?_, fun j hj => ?_⟩
  · by_cases e : j = k
    · subst e
      obtain ⟨c, hc⟩ := Option.isSome_iff_exists.1 (h.there n (by omega)).1
      rw [show 19 - j = n by omega]
      exact World.cell?_setCell_same _ _ _ hc
    · rw [World.cell?_setCell_other _ _ _ _ (fun e' => by have h9 := congrArg Addr.off e'; dsimp only at h9; omega)]
      exact h.holds j (by omega)
  · refine ⟨?_, by rw [World.frozen?_setCell]; exact (h.there j hj).2⟩
    by_cases e : j = n
    · subst e
      rw [World.cell?_setCell_same' _ _ _ (h.there j hj).1]; rfl
    · rw [World.cell?_setCell_other _ _ _ _ (fun e' => by have h9 := congrArg Addr.off e'; dsimp only at h9; omega)]
      exact (h.there j hj).1

theorem Ybaf.len72 : Ybaf.prog.arrayLen 72 = 20 := by kernel_rfl
theorem Ybaf.elem72 : Ybaf.prog.elem 72 = 5 := by kernel_rfl
theorem Ybaf.size5 (W : World) : (Go.sizeOf 5).run Ybaf.prog W = .ok 1 W := by kernel_rfl

/-- 'digits[i:]'. -/
theorem slice72 (D n : Nat) (hn : n < 20) (W : World) :
    (Instr.sliceAt 72 (.pointer (some ⟨D, 0, none⟩)) (some (.int .i64 (n : Int))) none none).run Ybaf.prog W = .ok (.slice (some ⟨D, n, none⟩) (20 - n) (20 - n)) W := by
  rw [run_sliceAt_array_l W 72 ⟨D, 0, none⟩ (by rw [Ybaf.len72, Ybaf.elem72]; exact Ybaf.underlying72) .i64 (n : Int) (by omega) (by rw [Ybaf.len72]; omega), Ybaf.len72, Ybaf.elem72, Ybaf.size5]
  simp [slicedAt, Result.andThen, Addr.add_lit]
  omega

/-- The digits as a source. -/
theorem Digs.src {w wr : World} {x k n : Nat} (h : Digs w wr x k) (hn : n + k = 20) (c : Nat) :
    Src Ybaf.prog 1 33 (.slice (some ⟨w.heap.size, n, none⟩) k c) (dig x k).length ((dig x k).map bcell) wr := by
  rw [dig_length]
  refine Src.ofSlice (P := Ybaf.prog) _ Ybaf.underlying33 ⟨w.heap.size, n, none⟩ k c _ (by simp [dig_length]) (fun j u hj => ?_) (fun u hu => ?_)
  · rw [List.getElem?_map] at hj
    obtain ⟨b, hb, rfl⟩ := Option.map_eq_some_iff.1 hj
    have hjk : j < k := by have := (List.getElem?_eq_some_iff.1 hb).1; rwa [dig_length] at this
    rw [dig_get x k j hjk] at hb
    cases hb
    rw [Addr.add_lit]
    have := h.holds (k - 1 - j) (by omega)
    rw [show 19 - (k - 1 - j) = n + j by omega] at this
    exact this
  · obtain ⟨b, _, rfl⟩ := List.mem_map.1 hu
    rfl

set_option maxRecDepth 100000 in
set_option maxHeartbeats 800000 in
theorem appendPadded_fit (g cap : Nat) (bs : List UInt8) (x width : Nat) (w : World) (hF : Fit w g cap bs) (hx : x < 18446744073709551616) (hw0 : 1 ≤ width) (hw : width ≤ 20)
    (hroom : ∀ k, Pads x width k → bs.length + k ≤ cap) :
    Calls Ybaf.prog 13 #[.slice (some ⟨g, 0, none⟩) bs.length cap, .int .u64 x, .int .i64 width] w fun e w' =>
      ∃ k, Pads x width k ∧ e = .returned (.slice (some ⟨g, 0, none⟩) (bs.length + k) cap) ∧ Fit w' g cap (bs ++ dig x k) ∧ Only w w' g := by
  go_enter Ybaf.func13, Ybaf.ntmps13
  go_wp2
  go_loopw [1, 8] (fun v i wr => ∃ k n q : Nat, Hid (n + k = 20) ∧ n ≤ 20 ∧ Hid (x / 10 ^ k = q) ∧ v = .int .u64 (q : Int) ∧ i = .int .i64 (n : Int) ∧ Digs w wr x k ∧ (k ≤ width ∨ 0 < x / 10 ^ (k - 1)))
    (fun _ i _ => (intOf i).toNat)
  case atStart =>
    refine ⟨0, 20, x, rfl, Nat.le_refl _, by simp [Hid], rfl, rfl, ?_, .inl (Nat.zero_le _)⟩
    exact Digs.start w x _ _ rfl
  case round =>
    obtain ⟨k, n, q, Hn, hn, Hq, rfl, rfl, hD, hmin⟩ := hrel
    have hq64 : q < 18446744073709551616 := by
      have := Nat.div_le_self x (10 ^ k)
      have := Hq.out
      omega
    have Hlt : Hid (x / 10 ^ 20 = 0) := pow20 x hx
    by_cases h1 : k < width
    · have hn' := Hn.out
      obtain ⟨n', rfl⟩ : ∃ n', n = n' + 1 := ⟨n - 1, by omega⟩
      have hgt : (20 : Int) - (width : Int) < ((n' + 1 : Nat) : Int) := by omega
      obtain ⟨hc1, hf1⟩ := hD.there n' (by omega)
      obtain ⟨c0, hc0⟩ := Option.isSome_iff_exists.1 hc1
      clear hn' h1 hc1
      go_wp2
      go_roundw
      case rel => exact ⟨k + 1, n', q / 10, by have := Hn.out; show n' + (k + 1) = 20; omega, by omega, by show x / 10 ^ (k + 1) = q / 10; rw [← div_step, Hq.out], by go_num, rfl, hD.step Hn.out Hq.out, .inl (by have := Hn.out; omega)⟩
      case measure => simp [intOf]
    · by_cases h2 : 0 < q
      · have hn' := Hn.out
        have hpos : 0 < x / 10 ^ k := by rw [Hq.out]; exact h2
        have hk20 : k < 20 := by
          apply Nat.lt_of_not_le
          intro hle
          have e : k = 20 := by omega
          rw [e, Hlt.out] at hpos
          omega
        have Hpos : Hid (0 < x / 10 ^ k) := hpos
        obtain ⟨n', rfl⟩ : ∃ n', n = n' + 1 := ⟨n - 1, by omega⟩
        have hgt : ¬ (20 : Int) - (width : Int) < ((n' + 1 : Nat) : Int) := by omega
        obtain ⟨hc1, hf1⟩ := hD.there n' (by omega)
        obtain ⟨c0, hc0⟩ := Option.isSome_iff_exists.1 hc1
        clear hn' h1 hc1 hpos
        go_wp2
        go_roundw
        case rel => exact ⟨k + 1, n', q / 10, by have := Hn.out; show n' + (k + 1) = 20; omega, by omega, by show x / 10 ^ (k + 1) = q / 10; rw [← div_step, Hq.out], by go_num, rfl, hD.step Hn.out Hq.out, .inr Hpos.out⟩
        case measure => simp [intOf]
      · have hn' := Hn.out
        have hgt : ¬ (20 : Int) - (width : Int) < (n : Int) := by omega
        obtain rfl : q = 0 := by omega
        have hP : Pads x width k := ⟨by omega, Hq.out, by rcases hmin with h | h; exact .inl (by omega); exact .inr h⟩
        have hsl := slice72 w.heap.size n (by omega)
        have hlen : 20 - n = k := by omega
        rw [hlen] at hsl
        obtain ⟨i0, hi0, hz0, hz1, hz2⟩ := info_parts Ybaf.info5
        have hsrc := hD.src Hn.out k
        have hFr := hF.below hD.below
        have hrm := hroom k hP
        have hnb : Below w.heap.size w wr := hD.below
        clear hlen hn' hD hF hroom hmin h1 h2
        go_wp2_with (at_builtin; refine wpList_append_fit _ rfl _ _ 33 33 rfl 5 i0 Ybaf.underlying33 hi0 hz1 g cap bs.length bs rfl rfl hFr _ (dig x k) rfl hsrc (by rw [dig_length]; exact hrm) ?_)
        intro w2 hF2 hO2
        rw [dig_length]
        go_wp2
        go_ret
        exact ⟨k, hP, rfl, hF2, (Only.ofBelow hnb).trans hO2⟩
end Go.Proofs.YbulkaypkFmt
