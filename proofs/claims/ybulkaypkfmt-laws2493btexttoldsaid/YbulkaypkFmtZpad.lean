/-
  SEAT b2493aF: zzs2493bpad (8): the law's own padded digits.
-/
import Derived.Test.YbulkaypkFmtPad
import Derived.Deep.OwnRows
namespace Go.Bufs
open Go.RowKit

/-- Old memory below B is as it was; the value lies at B or above. -/
structure Grew (B : Nat) (w wr : World) (u : Value) : Prop where
  below : Below B w wr
  size : B ≤ wr.heap.size
  own : ∀ k, u.ownBlock = some k → B ≤ k

theorem Grew.nil (w : World) : Grew w.heap.size w w (.slice none 0 0) := ⟨Below.refl _ _, Nat.le_refl _, fun k h => by simp [Value.ownBlock] at h⟩
theorem Grew.step {B : Nat} {w wr w2 : World} {u u2 : Value} (h : Grew B w wr u) (s : Step wr w2 u u2) : Grew B w w2 u2 :=
  ⟨h.below.trans (s.below h.size h.own), Nat.le_trans h.size s.grown.size, s.base h.size h.own⟩
theorem Grew.below' {B : Nat} {w wr w2 : World} {u : Value} (h : Grew B w wr u) (s : Below wr.heap.size wr w2) : Grew B w w2 u :=
  ⟨h.below.trans (s.mono h.size), Nat.le_trans h.size s.size, h.own⟩

/-- append(buf, b), one byte, the buffer wherever it lies. -/
theorem wpList_append_buf1 {P : Program} (w : World) {ops : Array Oper} {rest : List Oper} {o : Oper} {a : Act} {Q : Exit → Act → World → Prop}
    (hg : o.guard = none) (s x : Operand) (t tx : TypeId) (hop : o.op = Op.call { callee := Callee.builtin Builtin.append, args := #[s, x], argTypes := #[t, tx] })
    (e e' : TypeId) (i : TypeInfo) (z : Value) (bytes : Nat) (h1 : P.underlying t = some (.slice e)) (hk : P.underlying tx = some (.slice e')) (h2 : P.info? e = some i) (h3 : i.zero = some z) (h4 : i.size = 1) (h5 : i.bytes = bytes) (h6 : z.cells.size = 1)
    (v : Value) (n : Nat) (bs : List UInt8) (hv : a.eval s = v) (w0 : World) (T : TypeId) (xv : Value) (hw : w = w0.alloc (.cells #[xv] T)) (hx : a.eval x = .slice (some ⟨w0.heap.size, 0, none⟩) 1 1)
    (b : UInt8) (hb : xv = bcell b) (hbuf : Buf w0 1 v n (bs.map bcell)) (b1 : n + 1 ≤ maxLen) (b2 : (n + 1) * bytes ≤ 140737488355328)
    (hK : ∀ v' w', Buf w' 1 v' (n + 1) ((bs ++ [b]).map bcell) → Step w0 w' v v' → wpList P ops Q rest (a.put o.dst v') w') :
    wpList P ops Q (o :: rest) a w := by
  subst hw
  refine wpList_append_buf _ hg s x t tx hop e i z 1 bytes h1 h2 h3 h4 h5 h6 v n (bs.map bcell) hv (hbuf.alloc _) _ 1 ([b].map bcell) hx (src_one w0 hk b _ hb T) b1 b2 ?_
  intro v' w' hB hS
  exact hK v' w' (by rw [List.map_append]; exact hB) ((Step.alloc w0 v _).trans hS)
end Go.Bufs

namespace Go.Proofs.YbulkaypkFmt
open Go.RowKit Go.Bufs Plain

/-- A slice's length. -/
def lenOf : Value → Nat
  | .slice _ n _ => n
  | _ => 0

/-- The digits, the least first. -/
def rdig (x k : Nat) : List UInt8 := (List.range k).map (dbyte x)
theorem rdig_length (x k : Nat) : (rdig x k).length = k := by simp [rdig]
theorem rdig_succ (x k : Nat) : rdig x (k + 1) = rdig x k ++ [dbyte x k] := by simp [rdig, List.range_succ]
theorem rdig_get (x k j : Nat) (h : j < k) : (rdig x k)[j]? = some (dbyte x j) := by simp [rdig, h]

/-- The row that is written: place j holds the digit k - 1 - j. -/
structure Outs (w1 wr : World) (x k i : Nat) : Prop where
  below : Below w1.heap.size w1 wr
  lt : w1.heap.size < wr.heap.size
  cells : ∀ j, j < k → (wr.cell? ⟨w1.heap.size, j, none⟩).isSome = true ∧ wr.frozen? ⟨w1.heap.size, j, none⟩ = false ∧ (j < i → wr.cell? ⟨w1.heap.size, j, none⟩ = some (bcell (dbyte x (k - 1 - j))))

theorem Outs.start (w1 : World) (x k : Nat) (cs : Array Value) (T : TypeId) (h : cs.size = k) : Outs w1 (w1.alloc (.cells cs T)) x k 0 := by
  refine ⟨(Below.refl _ _).alloc (Nat.le_refl _) _, by simp, fun j hj => ⟨?_, World.frozen?_alloc_new w1 _ _ j, fun h => by omega⟩⟩
  have e1 : (w1.alloc (.cells cs T)).cell? ⟨w1.heap.size, j, none⟩ = _ := World.cell?_alloc_new w1 _ _ j
  rw [e1, Array.getElem?_eq_getElem (by omega)]
  rfl

theorem Outs.step {w1 wr : World} {x k i : Nat} (h : Outs w1 wr x k i) (hi : i < k) : Outs w1 (wr.setCell ⟨w1.heap.size, i, none⟩ (bcell (dbyte x (k - 1 - i)))) x k (i + 1) := by
  refine ⟨h.below.setCell (Nat.le_refl _) _, by have := h.lt; simpa using this, fun j hj => ?_⟩
  obtain ⟨h1, h2, h3⟩ := h.cells j hj
  by_cases e : j = i
  · subst e
    obtain ⟨c, hc⟩ := Option.isSome_iff_exists.1 h1
    have e2 : (wr.setCell ⟨w1.heap.size, j, none⟩ (bcell (dbyte x (k - 1 - j)))).cell? ⟨w1.heap.size, j, none⟩ = some (bcell (dbyte x (k - 1 - j))) := World.cell?_setCell_same _ _ _ hc
    rw [e2]
    exact ⟨rfl, by rw [World.frozen?_setCell]; exact h2, fun _ => rfl⟩
  · have e2 : (wr.setCell ⟨w1.heap.size, i, none⟩ (bcell (dbyte x (k - 1 - i)))).cell? ⟨w1.heap.size, j, none⟩ = wr.cell? ⟨w1.heap.size, j, none⟩ := World.cell?_setCell_other _ _ _ _ (fun e' => by have h9 := congrArg Addr.off e'; dsimp only at h9; omega)
    rw [e2]
    exact ⟨h1, by rw [World.frozen?_setCell]; exact h2, fun hj' => h3 (by omega)⟩

theorem Outs.buf {w1 wr : World} {x k : Nat} (h : Outs w1 wr x k k) (hk : k ≤ 1000) : Buf wr 1 (.slice (some ⟨w1.heap.size, 0, none⟩) k k) k ((dig x k).map bcell) := by
  refine ⟨by simp [dig_length], .inr ⟨w1.heap.size, k, rfl, Nat.le_refl _, by unfold maxLen; omega, h.lt, fun j u hj => ?_, fun j hj => ?_⟩⟩
  · rw [List.getElem?_map] at hj
    obtain ⟨b, hb, rfl⟩ := Option.map_eq_some_iff.1 hj
    have hjk : j < k := by have := (List.getElem?_eq_some_iff.1 hb).1; rwa [dig_length] at this
    rw [dig_get x k j hjk] at hb
    cases hb
    exact (h.cells j hjk).2.2 hjk
  · obtain ⟨h1, h2, _⟩ := h.cells j (by omega)
    exact ⟨h1, h2⟩

/-- The row of bytes that make lays. -/
def madeB (k : Nat) : Array Value := madeCells #[.int .u8 0] k
theorem madeB_size (k : Nat) : (madeB k).size = k := size_madeCells _ _
theorem make33 (k : Nat) (hk : k ≤ 1000) (w : World) : (Instr.makeSlice 33 (.int .i64 (k : Int)) (.int .i64 (k : Int))).run Ybaf.prog w = .ok (.slice (some ⟨w.heap.size, 0, none⟩) k k) (w.alloc (.cells (madeB k) 5)) :=
  run_make_row' 33 5 _ 1 Ybaf.underlying33 Ybaf.info5 rfl .i64 .i64 k (by omega) (by omega) w

set_option maxRecDepth 100000 in
set_option maxHeartbeats 1600000 in
theorem zpad_any (x width : Nat) (w : World) (hx : x < 18446744073709551616) (hw0 : 1 ≤ width) (hw : width ≤ 20) :
    Calls Ybaf.prog 8 #[.int .u64 (x : Int), .int .i64 (width : Int)] w fun e w' => ∃ (k : Nat) (v : Value), Pads x width k ∧ k ≤ 20 ∧ e = .returned v ∧ Buf w' 1 v k ((dig x k).map bcell) ∧ Grew w.heap.size w w' v := by
  obtain ⟨i0, hi0, hz0, hz1, hz2⟩ := info_parts Ybaf.info5
  have Hlt : Hid (x / 10 ^ 20 = 0) := pow20 x hx
  go_enter Ybaf.func8, Ybaf.ntmps8
  go_wp2_with fail
  go_loopw [0, 5] (fun v rv wr => ∃ k q : Nat, k ≤ 20 ∧ Hid (x / 10 ^ k = q) ∧ v = .int .u64 (q : Int) ∧ Hid (k = 0 ∨ 0 < x / 10 ^ (k - 1)) ∧ Buf wr 1 rv k ((rdig x k).map bcell) ∧ Grew w.heap.size w wr rv) (fun v _ _ => (intOf v).toNat)
  case atStart => exact ⟨0, x, by omega, by simp [Hid], rfl, .inl rfl, Buf.nil _ _, Grew.nil w⟩
  case round =>
    obtain ⟨k, q, hk, hq, rfl, hmin, hB, hG⟩ := hrel
    have hq64 : q < 18446744073709551616 := by
      have := Nat.div_le_self x (10 ^ k)
      have := hq.out
      omega
    by_cases h0 : 0 < q
    · have hpos : 0 < x / 10 ^ k := by rw [hq.out]; exact h0
      have hk20 : k < 20 := by
        apply Nat.lt_of_not_le
        intro hle
        have e : k = 20 := by omega
        rw [e, Hlt.out] at hpos
        omega
      have hd : (48 + (q : Int) % 10) = ((dbyte x k).toNat : Int) := by rw [dbyte_toNat, hq.out]; omega
      have HDg : Hid (48 + (q : Int) % 10 = ((dbyte x k).toNat : Int)) := hd
      have HP : Hid (0 < x / 10 ^ k) := hpos
      clear hd hpos hk
      go_wp2_with (at_builtin; refine wpList_append_buf1 _ rfl _ _ 33 33 rfl 5 5 i0 _ 1 Ybaf.underlying33 Ybaf.underlying33 hi0 hz0 hz1 hz2 rfl u5 k (rdig x k) rfl _ _ _ rfl rfl (dbyte x k) (congrArg (Value.int .u8) HDg.out) hB (by unfold maxLen; omega) (by omega) ?_; intro v2 w2 hB2 hS2)
      go_roundw
      case rel => exact ⟨k + 1, q / 10, by omega, by show x / 10 ^ (k + 1) = q / 10; rw [← div_step, hq.out], by go_num, .inr HP.out, by rw [rdig_succ]; exact hB2, hG.step hS2⟩
      case measure => simp [intOf]; omega
    · have hq0 : Hid (x / 10 ^ k = 0) := by have := hq.out; show x / 10 ^ k = 0; omega
      obtain ⟨w1, hw1⟩ : ∃ y, y = wr := ⟨wr, rfl⟩
      subst hw1
      obtain ⟨K0, hK0⟩ : ∃ y, y = k := ⟨k, rfl⟩
      subst hK0
      obtain ⟨V0, hV0⟩ : ∃ y, y = u5 := ⟨u5, rfl⟩
      subst hV0
      go_wp2_with fail
      go_loopw [5] (fun rv wl => ∃ k : Nat, k ≤ 20 ∧ Hid (x / 10 ^ k = 0) ∧ Hid (k ≤ width ∨ 0 < x / 10 ^ (k - 1)) ∧ (∃ a c, rv = .slice a k c) ∧ Buf wl 1 rv k ((rdig x k).map bcell) ∧ Grew w.heap.size w wl rv) (fun rv _ => 20 - lenOf rv)
      case atStart =>
        refine ⟨K0, hk, hq0, ?_, ?_, hB, hG⟩
        · rcases hmin.out with e | e
          · exact .inl (by omega)
          · exact .inr e
        · rcases hB.2 with ⟨e, e'⟩ | ⟨g, cap, e, _⟩
          · exact ⟨none, 0, by rw [e, e']⟩
          · exact ⟨_, _, e⟩
      case round =>
        obtain ⟨k, hk', hq', hmin', ⟨ra, rc, rfl⟩, hB', hG'⟩ := hrel
        clear hB hG hq hq0 hmin
        by_cases hkw : k < width
        · have hd : dbyte x k = 48 := by
            apply UInt8.toNat_inj.1
            rw [dbyte_toNat, hq'.out]
            rfl
          have HDg : Hid (dbyte x k = 48) := hd
          have hq1 : x / 10 ^ (k + 1) = 0 := by rw [← div_step, hq'.out]
          have HQ1 : Hid (x / 10 ^ (k + 1) = 0) := hq1
          clear hd hq1
          go_wp2_with (at_builtin; refine wpList_append_buf1 _ rfl _ _ 33 33 rfl 5 5 i0 _ 1 Ybaf.underlying33 Ybaf.underlying33 hi0 hz0 hz1 hz2 rfl (.slice ra k rc) k (rdig x k) rfl _ _ _ rfl rfl 48 rfl hB' (by unfold maxLen; omega) (by omega) ?_; intro v2 w2 hB2 hS2; obtain ⟨g2, cap2, hv2, -⟩ := hB2.shape (by omega); subst hv2)
          go_roundw
          case rel => exact ⟨k + 1, by omega, HQ1, .inl (by omega), ⟨_, _, rfl⟩, by rw [rdig_succ, HDg.out]; exact hB2, hG'.step hS2⟩
          case measure => simp [lenOf]; omega
        · have hP : Pads x width k := ⟨by omega, hq'.out, by rcases hmin'.out with e | e; exact .inl (by omega); exact .inr e⟩
          obtain ⟨R, cap, he, _, _, hR, hcell, _⟩ := hB'.shape (by omega)
          simp only [Value.slice.injEq, true_and] at he
          obtain ⟨rfl, rfl⟩ := he
          have mk := make33 k (by omega)
          obtain ⟨w3, hw3⟩ : ∃ y, y = wr := ⟨wr, rfl⟩
          subst hw3
          have HC : Hid (∀ j, j < k → w3.cell? ⟨R, j, none⟩ = some (bcell (dbyte x j))) := fun j hj => hcell j _ (by rw [List.getElem?_map, rdig_get x k j hj]; rfl)
          clear hB' hcell
          go_wp2_with fail
          go_loopw [7] (fun i wl => ∃ j : Nat, j ≤ k ∧ i = .int .i64 (j : Int) ∧ Outs w3 wl x k j) (fun i _ => k - (intOf i).toNat)
          case atStart => exact ⟨0, Nat.zero_le _, rfl, Outs.start w3 x k _ _ (madeB_size k)⟩
          case round =>
            obtain ⟨j, hj, rfl, hO⟩ := hrel
            clear mk
            by_cases hjk : j < k
            · obtain ⟨o1, o2, _⟩ := hO.cells j hjk
              obtain ⟨ov, o3⟩ := Option.isSome_iff_exists.1 o1
              have c1 : wr.cell? ⟨R, k - 1 - j, none⟩ = some (.int .u8 ((dbyte x (k - 1 - j)).toNat : Int)) := (hO.below.cell (p := ⟨R, k - 1 - j, none⟩) hR).trans (HC.out _ (by omega))
              obtain ⟨t, ht⟩ : ∃ t, t = k - 1 - j := ⟨_, rfl⟩
              have hst := hO.step hjk
              rw [← ht] at c1 hst
              have hidx : (k : Int) - 1 - (j : Int) = (t : Int) := by omega
              have htk : t < k := by omega
              have hlt := hO.lt
              clear o1 ht
              go_wp2_with fail
              go_roundw
              case rel => exact ⟨j + 1, by omega, by go_num, hst⟩
              case measure => simp [intOf]; omega
            · obtain rfl : j = k := by omega
              go_wp2_with fail
              go_ret
              exact ⟨j, _, hP, hk', rfl, hO.buf (by omega), ⟨hG'.below.trans (hO.below.mono hG'.size), Nat.le_trans hG'.size hO.below.size, fun b hb => by simp [Value.ownBlock] at hb; have := hG'.size; omega⟩⟩
end Go.Proofs.YbulkaypkFmt
