/-
  SEAT b2493aF: zzs2493buuid (9): the law's own UUID text.
-/
import Derived.Test.YbulkaypkFmtZpad
import Derived.Test.YbulkaypkFmtUuid
import Derived.Deep.RegionLaw
import Derived.Laws.BitsAllLaws
namespace Go.Bufs
open Go.RowKit
section
variable {P : Program}
/-- TWO bytes, laid in a new block of their own. -/
theorem src_two (w : World) {tx e' : TypeId} (hk : P.underlying tx = some (.slice e')) (b c : UInt8) (x y : Value) (hx : x = bcell b) (hy : y = bcell c) (T : TypeId) :
    Src P 1 tx (.slice (some ⟨w.heap.size, 0, none⟩) 2 2) 2 ([b, c].map bcell) (w.alloc (.cells #[x, y] T)) := by
  subst hx hy
  refine Src.ofSlice (P := P) _ hk ⟨w.heap.size, 0, none⟩ 2 2 _ (by simp) (fun j u hj => ?_) (fun u hu => ?_)
  · match j, hj with
    | 0, hj =>
      simp at hj; subst hj
      rw [Addr.add_lit]
      exact World.cell?_alloc_new w _ _ 0
    | 1, hj =>
      simp at hj; subst hj
      rw [Addr.add_lit]
      exact World.cell?_alloc_new w _ _ 1
  · simp at hu
    rcases hu with rfl | rfl <;> rfl

/-- append(buf, b, c) as one step of a region that draws. -/
theorem step_append_two {w : World} {ops : Array Oper} {o : Oper} {a : Act} {K : Act → World → Prop} {Q : Exit → Act → World → Prop} {E : Prop}
    (hg : o.guard = none) (s x : Operand) (t tx : TypeId) (hop : o.op = Op.call { callee := Callee.builtin Builtin.append, args := #[s, x], argTypes := #[t, tx] })
    (e e' : TypeId) (i : TypeInfo) (z : Value) (bytes : Nat) (h1 : P.underlying t = some (.slice e)) (hk : P.underlying tx = some (.slice e')) (h2 : P.info? e = some i) (h3 : i.zero = some z) (h4 : i.size = 1) (h5 : i.bytes = bytes) (h6 : z.cells.size = 1)
    (v : Value) (n : Nat) (bs : List UInt8) (hv : a.eval s = v) (w0 : World) (T : TypeId) (xv yv : Value) (hw : w = w0.alloc (.cells #[xv, yv] T)) (hx : a.eval x = .slice (some ⟨w0.heap.size, 0, none⟩) 2 2)
    (b c : UInt8) (hb : xv = bcell b) (hc : yv = bcell c) (hbuf : Buf w0 1 v n (bs.map bcell)) (b1 : n + 2 ≤ maxLen) (b2 : (n + 2) * bytes ≤ 140737488355328)
    (hK : ∀ v' w', Buf w' 1 v' (n + 2) ((bs ++ [b, c]).map bcell) → Step w0 w' v v' → K (a.put o.dst v') w') :
    if Region.wanted o (yielded ops a.tmps) = true then Oper.wp P o a w K Q else E := by
  have hw' : Region.wanted o (yielded ops a.tmps) = true := by simp [Region.wanted, hg]
  rw [if_pos hw']
  subst hw
  obtain ⟨v', w', hrun, r1, r2⟩ := run_append_buf (P := P) t tx o.type e i z 1 bytes h1 h2 h3 h4 h5 h6 (hbuf.alloc (.cells #[xv, yv] T)) _ 2 ([b, c].map bcell) (src_two w0 hk b c xv yv hb hc T) b1 b2
  unfold Oper.wp
  simp [execOp, hop, resolve, invoke, builtin, hv, hx, hrun, Result.andThen]
  exact hK v' w' (by rw [List.map_append]; exact r1) ((Step.alloc w0 v _).trans r2)
end
end Go.Bufs

namespace Go.Proofs.YbulkaypkFmt
open Go.RowKit Go.Bufs Plain

/-- Ahead of which byte a hyphen stands. -/
def hv (i : Nat) : Bool := i == 4 || i == 6 || i == 8 || i == 10
/-- The text of the first i bytes. -/
def vv (zs : List UInt8) : Nat → List UInt8
  | 0 => []
  | i + 1 => vv zs i ++ (if hv i then [45] else []) ++ [hexd ((zs.getD i 0).toNat / 16), hexd ((zs.getD i 0).toNat % 16)]
theorem vv_le (zs : List UInt8) : ∀ i, (vv zs i).length ≤ 3 * i
  | 0 => by simp [vv]
  | i + 1 => by
    have := vv_le zs i
    rw [vv]
    split <;> simp <;> omega

theorem hexAt_even (zs : List UInt8) (i : Nat) : hexAt zs (2 * i) = hexd ((zs.getD i 0).toNat / 16) := by
  unfold hexAt
  rw [if_pos (by omega), show 2 * i / 2 = i by omega]
theorem hexAt_odd (zs : List UInt8) (i : Nat) : hexAt zs (2 * i + 1) = hexd ((zs.getD i 0).toNat % 16) := by
  unfold hexAt
  rw [if_neg (by omega), show (2 * i + 1) / 2 = i by omega]

theorem step_plain {zs : List UInt8} {j i : Nat} (e : uu zs j = vv zs i) (h0 : hv i = false) (h1 : hy j = false) (h2 : hy (j + 1) = false) (hd : dn j = 2 * i) : uu zs (j + 2) = vv zs (i + 1) := by
  have d1 : dn (j + 1) = 2 * i + 1 := by rw [dn, h1, hd]; rfl
  rw [vv, uu, uu, e, h0, h1, h2, d1, hd]
  simp [hexAt_even, hexAt_odd]

theorem step_hyph {zs : List UInt8} {j i : Nat} (e : uu zs j = vv zs i) (h0 : hv i = true) (hj : hy j = true) (h1 : hy (j + 1) = false) (h2 : hy (j + 1 + 1) = false) (hd : dn j = 2 * i) : uu zs (j + 3) = vv zs (i + 1) := by
  have d1 : dn (j + 1) = 2 * i := by rw [dn, hj, hd]; rfl
  have d2 : dn (j + 1 + 1) = 2 * i + 1 := by rw [dn, h1, d1]; rfl
  rw [vv, uu, uu, uu, e, h0, hj, h1, h2, d2, d1]
  simp [hexAt_even, hexAt_odd]

theorem uu_vv (zs : List UInt8) : uu zs 36 = vv zs 16 := by
  have e0 : uu zs 0 = vv zs 0 := rfl
  have e1 := step_plain e0 rfl rfl rfl rfl
  have e2 := step_plain e1 rfl rfl rfl rfl
  have e3 := step_plain e2 rfl rfl rfl rfl
  have e4 := step_plain e3 rfl rfl rfl rfl
  have e5 := step_hyph e4 rfl rfl rfl rfl rfl
  have e6 := step_plain e5 rfl rfl rfl rfl
  have e7 := step_hyph e6 rfl rfl rfl rfl rfl
  have e8 := step_plain e7 rfl rfl rfl rfl
  have e9 := step_hyph e8 rfl rfl rfl rfl rfl
  have e10 := step_plain e9 rfl rfl rfl rfl
  have e11 := step_hyph e10 rfl rfl rfl rfl rfl
  have e12 := step_plain e11 rfl rfl rfl rfl
  have e13 := step_plain e12 rfl rfl rfl rfl
  have e14 := step_plain e13 rfl rfl rfl rfl
  have e15 := step_plain e14 rfl rfl rfl rfl
  exact step_plain e15 rfl rfl rfl rfl

theorem buf_next {w : World} {v : Value} {n L : Nat} {bs X Y Z : List UInt8} (hL : X.length = L) (hZ : Z = X ++ Y) (h : Buf w 1 v (n + L + Y.length) ((bs ++ X ++ Y).map bcell)) : Buf w 1 v (n + Z.length) ((bs ++ Z).map bcell) := by
  rw [hZ, List.length_append, hL, ← Nat.add_assoc, ← List.append_assoc]
  exact h

theorem and15 (b : UInt8) : bits .and .u8 (b.toNat : Int) 15 = (b.toNat : Int) % 16 := by
  have h := u8_and_nat b.toNat 15 b.toNat_lt (by omega)
  have e : b.toNat &&& 15 = b.toNat % 16 := Nat.and_two_pow_sub_one_eq_mod b.toNat 4
  rw [e, Int.natCast_emod] at h
  exact h

set_option maxRecDepth 100000 in
set_option maxHeartbeats 1600000 in
theorem zuuid_any (v : Value) (n : Nat) (bs : List UInt8) (z0 z1 z2 z3 z4 z5 z6 z7 z8 z9 z10 z11 z12 z13 z14 z15 : UInt8) (w : World) (hB : Buf w 1 v n (bs.map bcell)) (hn : n ≤ 1000) :
    Calls Ybaf.prog 9 #[v, .agg (nodeArr z0 z1 z2 z3 z4 z5 z6 z7 z8 z9 z10 z11 z12 z13 z14 z15)] w fun e w' =>
      ∃ (v' : Value) (n' : Nat), e = .returned v' ∧ Buf w' 1 v' n' ((bs ++ vv [z0, z1, z2, z3, z4, z5, z6, z7, z8, z9, z10, z11, z12, z13, z14, z15] 16).map bcell) ∧ Step w w' v v' := by
  obtain ⟨i0, hi0, hz0, hz1, hz2⟩ := info_parts Ybaf.info5
  have hlt := hB.lt
  have hcell := node_cell w z0 z1 z2 z3 z4 z5 z6 z7 z8 z9 z10 z11 z12 z13 z14 z15 23
  have hlen : [z0, z1, z2, z3, z4, z5, z6, z7, z8, z9, z10, z11, z12, z13, z14, z15].length = 16 := rfl
  go_enter Ybaf.func9, Ybaf.ntmps9
  go_wp2_with fail
  generalize hzs : [z0, z1, z2, z3, z4, z5, z6, z7, z8, z9, z10, z11, z12, z13, z14, z15] = zs at hcell hlen
  have HC : Hid (∀ j (b : UInt8), zs[j]? = some b → (w.alloc (.cells (nodeArr z0 z1 z2 z3 z4 z5 z6 z7 z8 z9 z10 z11 z12 z13 z14 z15) 23)).cell? ⟨w.heap.size, j, none⟩ = some (bcell b)) := hcell
  have hB0 := hB.alloc (.cells (nodeArr z0 z1 z2 z3 z4 z5 z6 z7 z8 z9 z10 z11 z12 z13 z14 z15) 23)
  have hs0 : w.heap.size < (w.alloc (.cells (nodeArr z0 z1 z2 z3 z4 z5 z6 z7 z8 z9 z10 z11 z12 z13 z14 z15) 23)).heap.size := by simp
  have hstep0 := Step.alloc w v (.cells (nodeArr z0 z1 z2 z3 z4 z5 z6 z7 z8 z9 z10 z11 z12 z13 z14 z15) 23)
  have hNv : some w.heap.size ≠ v.ownBlock := fun e => by have := hlt _ e.symm; omega
  clear hcell hlt hB
  generalize w.alloc (.cells (nodeArr z0 z1 z2 z3 z4 z5 z6 z7 z8 z9 z10 z11 z12 z13 z14 z15) 23) = w0 at *
  go_loopw [0, 5] (fun u i wr => ∃ k : Nat, k ≤ 16 ∧ i = .int .i64 (k : Int) ∧ Buf wr 1 u (n + (vv zs k).length) ((bs ++ vv zs k).map bcell) ∧ Step w0 wr v u) (fun _ i _ => 16 - (intOf i).toNat)
  case atStart => exact ⟨0, Nat.zero_le _, rfl, by simpa [vv] using hB0, Step.refl _ _⟩
  case round =>
    obtain ⟨k, hk, rfl, hBk, hSk⟩ := hrel
    have hvl := vv_le zs k
    by_cases hk16 : k < 16
    · obtain ⟨b, hb⟩ : ∃ b, zs[k]? = some b := ⟨_, List.getElem?_eq_getElem (by omega)⟩
      have hcs : wr.cell? ⟨w.heap.size, k, none⟩ = some (.int .u8 (b.toNat : Int)) := (hSk.cell hs0 hNv).trans (HC.out k b hb)
      have hb256 : b.toNat < 256 := b.toNat_lt
      have hN : w.heap.size < wr.heap.size := by have := hSk.grown.size; omega
      have hNu : some w.heap.size ≠ u0.ownBlock := hSk.other hs0 hNv
      have hgd : zs.getD k 0 = b := by rw [List.getD_eq_getElem?_getD, hb]; rfl
      have hand := and15 b
      have q1 : (0 : Int) ≤ (b.toNat : Int) / 16 := by omega
      have q2 : (b.toNat : Int) / 16 < 16 := by omega
      have q3 : (0 : Int) ≤ (b.toNat : Int) % 16 := by omega
      have q4 : (b.toNat : Int) % 16 < 16 := by omega
      by_cases hvk : hv k = true
      · have hB0k : Hid (Buf wr 1 u0 (n + (vv zs k).length) ((bs ++ vv zs k).map bcell)) := hBk
        have HV : Hid (vv zs (k + 1) = vv zs k ++ ([45] ++ [hexd (b.toNat / 16), hexd (b.toNat % 16)])) := by
          show vv zs (k + 1) = _
          rw [vv, hgd, if_pos hvk, List.append_assoc]
        generalize hL : (vv zs k).length = L at *
        have h4 : k = 4 ∨ k = 6 ∨ k = 8 ∨ k = 10 := by
          simp [hv] at hvk
          omega
        clear hvk hb hgd
        rcases h4 with hk0 | hk0 | hk0 | hk0
        · have e4 : ((k : Int) == 4) = true := by rw [beq_iff_eq]; omega
          clear hk0 hBk
          go_wp2_with (at_builtin; refine wpList_append_buf1 _ rfl _ _ 33 33 rfl 5 5 i0 _ 1 Ybaf.underlying33 Ybaf.underlying33 hi0 hz0 hz1 hz2 rfl u0 (n + L) (bs ++ vv zs k) rfl _ _ _ rfl rfl 45 rfl hB0k.out (by unfold maxLen; omega) (by omega) ?_; intro v1 w1 hB1 hS1; have hcs1 : w1.cell? ⟨w.heap.size, k, none⟩ = some (.int .u8 (b.toNat : Int)) := (hS1.cell hN hNu).trans hcs)
          have hB1' : Hid (Buf w1.drew 1 v1 (n + L + 1) ((bs ++ vv zs k ++ [45]).map bcell)) := hB1.below ((Below.refl _ _).drew)
          go_region_law (refine step_append_two rfl (.tmp 27) (.tmp 38) 33 33 rfl 5 5 i0 _ 1 Ybaf.underlying33 Ybaf.underlying33 hi0 hz0 hz1 hz2 rfl v1 (n + L + 1) (bs ++ vv zs k ++ [45]) (by first | rfl | simp [Act.eval]) w1.drew _ _ _ rfl (by first | rfl | simp [Act.eval]) (hexd (b.toNat / 16)) (hexd (b.toNat % 16)) (by rw [hexLit]; first | rfl | (rw [show ((b.toNat : Int) / 16).toNat = b.toNat / 16 by omega]; rfl)) (by rw [hexLit]; first | rfl | (rw [show ((b.toNat : Int) % 16).toNat = b.toNat % 16 by omega]; rfl)) hB1'.out (by unfold maxLen; omega) (by omega) ?_; intro v2 w2 hB2 hS2)
          all_goals
            go_wp2_with fail
            go_roundw
            case rel => exact ⟨k + 1, by omega, by go_num, buf_next hL HV.out (by rw [List.append_assoc] at hB2; exact hB2), ((hSk.trans hS1).trans (Step.ofKeep v1 ((Below.refl _ _).drew))).trans hS2⟩
            case measure => simp [intOf]; omega
        · have e4 : ((k : Int) == 4) = false := by rw [beq_eq_false_iff_ne]; omega
          have e6 : ((k : Int) == 6) = true := by rw [beq_iff_eq]; omega
          clear hk0 hBk
          go_wp2_with (at_builtin; refine wpList_append_buf1 _ rfl _ _ 33 33 rfl 5 5 i0 _ 1 Ybaf.underlying33 Ybaf.underlying33 hi0 hz0 hz1 hz2 rfl u0 (n + L) (bs ++ vv zs k) rfl _ _ _ rfl rfl 45 rfl hB0k.out (by unfold maxLen; omega) (by omega) ?_; intro v1 w1 hB1 hS1; have hcs1 : w1.cell? ⟨w.heap.size, k, none⟩ = some (.int .u8 (b.toNat : Int)) := (hS1.cell hN hNu).trans hcs)
          have hB1' : Hid (Buf w1.drew 1 v1 (n + L + 1) ((bs ++ vv zs k ++ [45]).map bcell)) := hB1.below ((Below.refl _ _).drew)
          go_region_law (refine step_append_two rfl (.tmp 27) (.tmp 38) 33 33 rfl 5 5 i0 _ 1 Ybaf.underlying33 Ybaf.underlying33 hi0 hz0 hz1 hz2 rfl v1 (n + L + 1) (bs ++ vv zs k ++ [45]) (by first | rfl | simp [Act.eval]) w1.drew _ _ _ rfl (by first | rfl | simp [Act.eval]) (hexd (b.toNat / 16)) (hexd (b.toNat % 16)) (by rw [hexLit]; first | rfl | (rw [show ((b.toNat : Int) / 16).toNat = b.toNat / 16 by omega]; rfl)) (by rw [hexLit]; first | rfl | (rw [show ((b.toNat : Int) % 16).toNat = b.toNat % 16 by omega]; rfl)) hB1'.out (by unfold maxLen; omega) (by omega) ?_; intro v2 w2 hB2 hS2)
          all_goals
            go_wp2_with fail
            go_roundw
            case rel => exact ⟨k + 1, by omega, by go_num, buf_next hL HV.out (by rw [List.append_assoc] at hB2; exact hB2), ((hSk.trans hS1).trans (Step.ofKeep v1 ((Below.refl _ _).drew))).trans hS2⟩
            case measure => simp [intOf]; omega
        · have e4 : ((k : Int) == 4) = false := by rw [beq_eq_false_iff_ne]; omega
          have e6 : ((k : Int) == 6) = false := by rw [beq_eq_false_iff_ne]; omega
          have e8 : ((k : Int) == 8) = true := by rw [beq_iff_eq]; omega
          clear hk0 hBk
          go_wp2_with (at_builtin; refine wpList_append_buf1 _ rfl _ _ 33 33 rfl 5 5 i0 _ 1 Ybaf.underlying33 Ybaf.underlying33 hi0 hz0 hz1 hz2 rfl u0 (n + L) (bs ++ vv zs k) rfl _ _ _ rfl rfl 45 rfl hB0k.out (by unfold maxLen; omega) (by omega) ?_; intro v1 w1 hB1 hS1; have hcs1 : w1.cell? ⟨w.heap.size, k, none⟩ = some (.int .u8 (b.toNat : Int)) := (hS1.cell hN hNu).trans hcs)
          have hB1' : Hid (Buf w1.drew 1 v1 (n + L + 1) ((bs ++ vv zs k ++ [45]).map bcell)) := hB1.below ((Below.refl _ _).drew)
          go_region_law (refine step_append_two rfl (.tmp 27) (.tmp 38) 33 33 rfl 5 5 i0 _ 1 Ybaf.underlying33 Ybaf.underlying33 hi0 hz0 hz1 hz2 rfl v1 (n + L + 1) (bs ++ vv zs k ++ [45]) (by first | rfl | simp [Act.eval]) w1.drew _ _ _ rfl (by first | rfl | simp [Act.eval]) (hexd (b.toNat / 16)) (hexd (b.toNat % 16)) (by rw [hexLit]; first | rfl | (rw [show ((b.toNat : Int) / 16).toNat = b.toNat / 16 by omega]; rfl)) (by rw [hexLit]; first | rfl | (rw [show ((b.toNat : Int) % 16).toNat = b.toNat % 16 by omega]; rfl)) hB1'.out (by unfold maxLen; omega) (by omega) ?_; intro v2 w2 hB2 hS2)
          all_goals
            go_wp2_with fail
            go_roundw
            case rel => exact ⟨k + 1, by omega, by go_num, buf_next hL HV.out (by rw [List.append_assoc] at hB2; exact hB2), ((hSk.trans hS1).trans (Step.ofKeep v1 ((Below.refl _ _).drew))).trans hS2⟩
            case measure => simp [intOf]; omega
        · have e4 : ((k : Int) == 4) = false := by rw [beq_eq_false_iff_ne]; omega
          have e6 : ((k : Int) == 6) = false := by rw [beq_eq_false_iff_ne]; omega
          have e8 : ((k : Int) == 8) = false := by rw [beq_eq_false_iff_ne]; omega
          have e10 : ((k : Int) == 10) = true := by rw [beq_iff_eq]; omega
          clear hk0 hBk
          go_wp2_with (at_builtin; refine wpList_append_buf1 _ rfl _ _ 33 33 rfl 5 5 i0 _ 1 Ybaf.underlying33 Ybaf.underlying33 hi0 hz0 hz1 hz2 rfl u0 (n + L) (bs ++ vv zs k) rfl _ _ _ rfl rfl 45 rfl hB0k.out (by unfold maxLen; omega) (by omega) ?_; intro v1 w1 hB1 hS1; have hcs1 : w1.cell? ⟨w.heap.size, k, none⟩ = some (.int .u8 (b.toNat : Int)) := (hS1.cell hN hNu).trans hcs)
          have hB1' : Hid (Buf w1.drew 1 v1 (n + L + 1) ((bs ++ vv zs k ++ [45]).map bcell)) := hB1.below ((Below.refl _ _).drew)
          go_region_law (refine step_append_two rfl (.tmp 27) (.tmp 38) 33 33 rfl 5 5 i0 _ 1 Ybaf.underlying33 Ybaf.underlying33 hi0 hz0 hz1 hz2 rfl v1 (n + L + 1) (bs ++ vv zs k ++ [45]) (by first | rfl | simp [Act.eval]) w1.drew _ _ _ rfl (by first | rfl | simp [Act.eval]) (hexd (b.toNat / 16)) (hexd (b.toNat % 16)) (by rw [hexLit]; first | rfl | (rw [show ((b.toNat : Int) / 16).toNat = b.toNat / 16 by omega]; rfl)) (by rw [hexLit]; first | rfl | (rw [show ((b.toNat : Int) % 16).toNat = b.toNat % 16 by omega]; rfl)) hB1'.out (by unfold maxLen; omega) (by omega) ?_; intro v2 w2 hB2 hS2)
          all_goals
            go_wp2_with fail
            go_roundw
            case rel => exact ⟨k + 1, by omega, by go_num, buf_next hL HV.out (by rw [List.append_assoc] at hB2; exact hB2), ((hSk.trans hS1).trans (Step.ofKeep v1 ((Below.refl _ _).drew))).trans hS2⟩
            case measure => simp [intOf]; omega
      · have hne : k ≠ 4 ∧ k ≠ 6 ∧ k ≠ 8 ∧ k ≠ 10 := by
          simp [hv] at hvk
          omega
        have e4 : ((k : Int) == 4) = false := by rw [beq_eq_false_iff_ne]; omega
        have e6 : ((k : Int) == 6) = false := by rw [beq_eq_false_iff_ne]; omega
        have e8 : ((k : Int) == 8) = false := by rw [beq_eq_false_iff_ne]; omega
        have e10 : ((k : Int) == 10) = false := by rw [beq_eq_false_iff_ne]; omega
        have HV : Hid (vv zs (k + 1) = vv zs k ++ [hexd (b.toNat / 16), hexd (b.toNat % 16)]) := by
          show vv zs (k + 1) = _
          rw [vv, hgd, if_neg hvk, List.append_nil]
        have hB1 : Hid (Buf wr.drew 1 u0 (n + (vv zs k).length) ((bs ++ vv zs k).map bcell)) := hBk.below ((Below.refl _ _).drew)
        generalize hL : (vv zs k).length = L at *
        clear hne hvk hb hgd hBk
        go_wp2_with fail
        go_region_law (refine step_append_two rfl (.tmp 27) (.tmp 38) 33 33 rfl 5 5 i0 _ 1 Ybaf.underlying33 Ybaf.underlying33 hi0 hz0 hz1 hz2 rfl u0 (n + L) (bs ++ vv zs k) (by first | rfl | simp [Act.eval]) wr.drew _ _ _ rfl (by first | rfl | simp [Act.eval]) (hexd (b.toNat / 16)) (hexd (b.toNat % 16)) (by rw [hexLit]; first | rfl | (rw [show ((b.toNat : Int) / 16).toNat = b.toNat / 16 by omega]; rfl)) (by rw [hexLit]; first | rfl | (rw [show ((b.toNat : Int) % 16).toNat = b.toNat % 16 by omega]; rfl)) hB1.out (by unfold maxLen; omega) (by omega) ?_; intro v2 w2 hB2 hS2)
        all_goals
          go_wp2_with fail
          go_roundw
          case rel => exact ⟨k + 1, by omega, by go_num, buf_next hL HV.out hB2, (hSk.trans (Step.ofKeep u0 ((Below.refl _ _).drew))).trans hS2⟩
          case measure => simp [intOf]; omega
    · obtain rfl : k = 16 := by omega
      go_wp2_with fail
      go_ret
      exact ⟨_, _, rfl, by rw [hzs]; exact hBk, hstep0.trans hSk⟩
end Go.Proofs.YbulkaypkFmt
