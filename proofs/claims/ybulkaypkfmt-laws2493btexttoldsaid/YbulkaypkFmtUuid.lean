/-
  SEAT b2493aF: uuidHyphenAt (21), appendUUID (14).
-/
import Derived.Test.YbulkaypkFmtKind0
import Derived.Deep.RegionWith
namespace Go.Proofs.YbulkaypkFmt
open Go.RowKit Go.Bufs Plain

/-- append(buf, b), one byte. -/
theorem wpList_append_fit1 {P : Program} (w : World) {ops : Array Oper} {rest : List Oper} {o : Oper} {a : Act} {Q : Exit → Act → World → Prop}
    (hg : o.guard = none) (s x : Operand) (t tx : TypeId) (hop : o.op = Op.call { callee := Callee.builtin Builtin.append, args := #[s, x], argTypes := #[t, tx] })
    (e e' : TypeId) (i : TypeInfo) (h1 : P.underlying t = some (.slice e)) (hk : P.underlying tx = some (.slice e')) (h2 : P.info? e = some i) (h4 : i.size = 1)
    (g cap n : Nat) (bs : List UInt8) (hn : bs.length = n) (hv : a.eval s = .slice (some ⟨g, 0, none⟩) n cap) (w0 : World) (T : TypeId) (xv : Value) (hw : w = w0.alloc (.cells #[xv] T)) (hx : a.eval x = .slice (some ⟨w0.heap.size, 0, none⟩) 1 1)
    (b : UInt8) (hb : xv = bcell b) (hF : Fit w0 g cap bs) (b1 : n + 1 ≤ cap)
    (hK : ∀ w', Fit w' g cap (bs ++ [b]) → Only w0 w' g → wpList P ops Q rest (a.put o.dst (.slice (some ⟨g, 0, none⟩) (n + 1) cap)) w') :
    wpList P ops Q (o :: rest) a w := by
  subst hw
  refine wpList_append_fit _ hg s x t tx hop e i h1 h2 h4 g cap n bs hn hv (hF.alloc _) _ [b] hx (src_one w0 hk b _ hb T) b1 ?_
  intro w' hF' hO
  exact hK w' hF' ((Only.alloc w0 g _).trans hO)

/-- Where the hyphens stand. -/
def hy (i : Nat) : Bool := i == 8 || i == 13 || i == 18 || i == 23
/-- How many digits stand ahead of place i. -/
def dn : Nat → Nat
  | 0 => 0
  | i + 1 => if hy i then dn i else dn i + 1
/-- The first i characters of the text. -/
def uu (zs : List UInt8) : Nat → List UInt8
  | 0 => []
  | i + 1 => uu zs i ++ [if hy i then 45 else hexAt zs (dn i)]
theorem uu_length (zs : List UInt8) : ∀ i, (uu zs i).length = i
  | 0 => rfl
  | i + 1 => by rw [uu, List.length_append, uu_length zs i]; rfl
theorem dnFin : ∀ i : Fin 36, hy i.1 = false → dn i.1 < 32 := by decide
theorem dn_lt (i : Nat) (h : i < 36) (hh : hy i = false) : dn i < 32 := dnFin ⟨i, h⟩ hh

set_option maxRecDepth 100000 in
set_option maxHeartbeats 800000 in
theorem hyph_any (i : Nat) (w : World) : Calls Ybaf.prog 21 #[.int .i64 (i : Int)] w fun e w' => e = .returned (.bool (hy i)) ∧ w' = w := by
  have fin : ∀ b : Bool, hy i = b → (Calls Ybaf.prog 21 #[.int .i64 (i : Int)] w fun e w' => e = .returned (.bool b) ∧ w' = w) → Calls Ybaf.prog 21 #[.int .i64 (i : Int)] w fun e w' => e = .returned (.bool (hy i)) ∧ w' = w := by
    rintro b rfl h
    exact h
  by_cases h8 : i = 8
  · subst h8
    refine fin true rfl ?_
    go_enter Ybaf.func21, Ybaf.ntmps21
    go_wp2
    go_ret
    exact ⟨rfl, rfl⟩
  by_cases h13 : i = 13
  · subst h13
    refine fin true rfl ?_
    go_enter Ybaf.func21, Ybaf.ntmps21
    go_wp2
    go_ret
    exact ⟨rfl, rfl⟩
  by_cases h18 : i = 18
  · subst h18
    refine fin true rfl ?_
    go_enter Ybaf.func21, Ybaf.ntmps21
    go_wp2
    go_ret
    exact ⟨rfl, rfl⟩
  by_cases h23 : i = 23
  · subst h23
    refine fin true rfl ?_
    go_enter Ybaf.func21, Ybaf.ntmps21
    go_wp2
    go_ret
    exact ⟨rfl, rfl⟩
  refine fin false (by simp [hy, h8, h13, h18, h23]) ?_
  have e8 : ((i : Int) == 8) = false := by rw [beq_eq_false_iff_ne]; omega
  have e13 : ((i : Int) == 13) = false := by rw [beq_eq_false_iff_ne]; omega
  have e18 : ((i : Int) == 18) = false := by rw [beq_eq_false_iff_ne]; omega
  have e23 : ((i : Int) == 23) = false := by rw [beq_eq_false_iff_ne]; omega
  clear h8 h13 h18 h23
  go_enter Ybaf.func21, Ybaf.ntmps21
  go_wp2
  go_ret
  exact ⟨rfl, rfl⟩


/-- The node's bytes behind the boxed node. -/
theorem node_cell (w : World) (z0 z1 z2 z3 z4 z5 z6 z7 z8 z9 z10 z11 z12 z13 z14 z15 : UInt8) (T : TypeId) : ∀ j (b : UInt8), [z0, z1, z2, z3, z4, z5, z6, z7, z8, z9, z10, z11, z12, z13, z14, z15][j]? = some b → (w.alloc (.cells (nodeArr z0 z1 z2 z3 z4 z5 z6 z7 z8 z9 z10 z11 z12 z13 z14 z15) T)).cell? ⟨w.heap.size, j, none⟩ = some (bcell b) := by
  intro j b hj
  rw [show (w.alloc (.cells (nodeArr z0 z1 z2 z3 z4 z5 z6 z7 z8 z9 z10 z11 z12 z13 z14 z15) T)).cell? ⟨w.heap.size, j, none⟩ = _ from World.cell?_alloc_new w _ _ j]
  have h16 : j < 16 := (List.getElem?_eq_some_iff.1 hj).1
  match j, h16, hj with
  | 0, _, hj => cases hj; rfl
  | 1, _, hj => cases hj; rfl
  | 2, _, hj => cases hj; rfl
  | 3, _, hj => cases hj; rfl
  | 4, _, hj => cases hj; rfl
  | 5, _, hj => cases hj; rfl
  | 6, _, hj => cases hj; rfl
  | 7, _, hj => cases hj; rfl
  | 8, _, hj => cases hj; rfl
  | 9, _, hj => cases hj; rfl
  | 10, _, hj => cases hj; rfl
  | 11, _, hj => cases hj; rfl
  | 12, _, hj => cases hj; rfl
  | 13, _, hj => cases hj; rfl
  | 14, _, hj => cases hj; rfl
  | 15, _, hj => cases hj; rfl
  | n + 16, h, _ => exact absurd h (by omega)
theorem enc_laid (w : World) (cs : Array Value) (hcs : cs.size = 32) (z0 z1 z2 z3 z4 z5 z6 z7 z8 z9 z10 z11 z12 z13 z14 z15 : UInt8) :
    Calls Ybaf.prog 20 #[.slice (some ⟨w.heap.size + 1, 0, none⟩) 32 32, .slice (some ⟨w.heap.size, 0, none⟩) 16 16] ((w.alloc (.cells (nodeArr z0 z1 z2 z3 z4 z5 z6 z7 z8 z9 z10 z11 z12 z13 z14 z15) 24)).alloc (.cells cs 73)).drew fun e w' =>
      e = .returned (.int .i64 32) ∧ Below w.heap.size w w' ∧ w'.heap.size = w.heap.size + 2 ∧ ∀ j, j < 32 → w'.cell? ⟨w.heap.size + 1, j, none⟩ = some (bcell (hexAt [z0, z1, z2, z3, z4, z5, z6, z7, z8, z9, z10, z11, z12, z13, z14, z15] j)) := by
  have hb1 : Below w.heap.size w (w.alloc (.cells (nodeArr z0 z1 z2 z3 z4 z5 z6 z7 z8 z9 z10 z11 z12 z13 z14 z15) 24)) := (Below.refl _ _).alloc (Nat.le_refl _) _
  have hb2 : Below (w.heap.size + 1) (w.alloc (.cells (nodeArr z0 z1 z2 z3 z4 z5 z6 z7 z8 z9 z10 z11 z12 z13 z14 z15) 24)) ((w.alloc (.cells (nodeArr z0 z1 z2 z3 z4 z5 z6 z7 z8 z9 z10 z11 z12 z13 z14 z15) 24)).alloc (.cells cs 73)).drew := ((Below.refl _ _).alloc (by simp) _).drew
  have hsz : ((w.alloc (.cells (nodeArr z0 z1 z2 z3 z4 z5 z6 z7 z8 z9 z10 z11 z12 z13 z14 z15) 24)).alloc (.cells cs 73)).drew.heap.size = w.heap.size + 2 := by
    show ((w.alloc (.cells (nodeArr z0 z1 z2 z3 z4 z5 z6 z7 z8 z9 z10 z11 z12 z13 z14 z15) 24)).alloc (.cells cs 73)).heap.size = _
    simp
  have hs1 : (w.alloc (.cells (nodeArr z0 z1 z2 z3 z4 z5 z6 z7 z8 z9 z10 z11 z12 z13 z14 z15) 24)).heap.size = w.heap.size + 1 := by simp
  have e1 : ∀ j, ((w.alloc (.cells (nodeArr z0 z1 z2 z3 z4 z5 z6 z7 z8 z9 z10 z11 z12 z13 z14 z15) 24)).alloc (.cells cs 73)).drew.cell? ⟨w.heap.size + 1, j, none⟩ = cs[j]? := fun j => by
    rw [← hs1]; exact World.cell?_alloc_new _ cs 73 j
  have e2 : ∀ j, ((w.alloc (.cells (nodeArr z0 z1 z2 z3 z4 z5 z6 z7 z8 z9 z10 z11 z12 z13 z14 z15) 24)).alloc (.cells cs 73)).drew.frozen? ⟨w.heap.size + 1, j, none⟩ = false := fun j => by
    rw [← hs1]; exact World.frozen?_alloc_new _ cs 73 j
  refine (encode_any (w.heap.size + 1) 0 32 32 w.heap.size 0 16 16 [z0, z1, z2, z3, z4, z5, z6, z7, z8, z9, z10, z11, z12, z13, z14, z15] rfl _ (by omega) (by omega) (by omega) (by rw [hsz]; omega) (fun j b hj => ?_) (fun j hj => ?_)).mono ?_
  · rw [Nat.zero_add, hb2.cell (p := ⟨w.heap.size, j, none⟩) (by simp)]
    exact node_cell w z0 z1 z2 z3 z4 z5 z6 z7 z8 z9 z10 z11 z12 z13 z14 z15 24 j b hj
  · rw [Nat.zero_add, e1, e2, Array.getElem?_eq_getElem (by omega)]
    exact ⟨rfl, rfl⟩
  · rintro e w' ⟨rfl, hE⟩
    refine ⟨rfl, (hb1.trans (hb2.mono (by omega))).trans (hE.only.below (by rw [hsz]; omega) (by omega)), by rw [hE.size, hsz], fun j hj => ?_⟩
    have := hE.holds j (by omega)
    rwa [Nat.zero_add] at this

set_option maxRecDepth 100000 in
set_option maxHeartbeats 1600000 in
theorem uuid_fit (g cap n : Nat) (bs : List UInt8) (z0 z1 z2 z3 z4 z5 z6 z7 z8 z9 z10 z11 z12 z13 z14 z15 : UInt8) (w : World) (hF : Fit w g cap bs) (hn : bs.length = n) (hroom : n + 36 ≤ cap) :
    Calls Ybaf.prog 14 #[.slice (some ⟨g, 0, none⟩) n cap, .agg (nodeArr z0 z1 z2 z3 z4 z5 z6 z7 z8 z9 z10 z11 z12 z13 z14 z15)] w fun e w' =>
      e = .returned (.slice (some ⟨g, 0, none⟩) (n + 36) cap) ∧ Fit w' g cap (bs ++ uu [z0, z1, z2, z3, z4, z5, z6, z7, z8, z9, z10, z11, z12, z13, z14, z15] 36) ∧ Only w w' g := by
  obtain ⟨i0, hi0, hz0, hz1, hz2⟩ := info_parts Ybaf.info5
  have hgl := hF.lt
  have hyp := hyph_any
  go_enter Ybaf.func14, Ybaf.ntmps14
  go_wp2_with fail
  go_region_with (go_at_call 20; refine (enc_laid w _ rfl z0 z1 z2 z3 z4 z5 z6 z7 z8 z9 z10 z11 z12 z13 z14 z15).mono ?_; rintro e w1 ⟨rfl, hb1, hs1, hd1⟩)
  generalize hzs : [z0, z1, z2, z3, z4, z5, z6, z7, z8, z9, z10, z11, z12, z13, z14, z15] = zs at hd1
  have HD : Hid (∀ j, j < 32 → w1.cell? ⟨w.heap.size + 1, j, none⟩ = some (bcell (hexAt zs j))) := hd1
  have hF1 := hF.below hb1
  clear hd1
  go_wp2_with fail
  go_loopw [0, 6, 11] (fun s d i wr => ∃ k : Nat, k ≤ 36 ∧ s = .slice (some ⟨g, 0, none⟩) (n + k) cap ∧ d = .int .i64 (dn k : Int) ∧ i = .int .i64 (k : Int) ∧ Hid (Fit wr g cap (bs ++ uu zs k)) ∧ Only w1 wr g) (fun _ _ i _ => 36 - (intOf i).toNat)
  case atStart => exact ⟨0, Nat.zero_le _, rfl, rfl, rfl, by simpa [uu, Hid] using hF1, Only.refl _ _⟩
  case round =>
    obtain ⟨k, hk, rfl, rfl, rfl, hFk, hO⟩ := hrel
    by_cases hlt : k < 36
    · have hl : (bs ++ uu zs k).length = n + k := by rw [List.length_append, hn, uu_length]
      have hD : ∀ j, j < 32 → wr.cell? ⟨w.heap.size + 1, j, none⟩ = some (bcell (hexAt zs j)) := fun j hj => (hO.cell (by omega) (by omega)).trans (HD.out j hj)
      have HL : Hid ((bs ++ uu zs k).length = n + k) := hl
      have hDw : w.heap.size + 1 < wr.heap.size := by have := hO.size; omega
      clear hl
      cases hyk : hy k with
      | true =>
        have hyp' := hyp k
        rw [hyk] at hyp'
        have eu : uu zs (k + 1) = uu zs k ++ [45] := by rw [uu, if_pos hyk]
        have ed : dn (k + 1) = dn k := by rw [dn, if_pos hyk]
        have HU : Hid (uu zs (k + 1) = uu zs k ++ [45]) := eu
        have HN : Hid (dn (k + 1) = dn k) := ed
        clear hyk hyp hD eu ed
        go_wp2_with (first
          | (go_at_call 21; refine (hyp' _).mono ?_; rintro e w' ⟨rfl, hw⟩; rw [hw]; clear hw)
          | (at_builtin; refine wpList_append_fit1 _ rfl _ _ 33 33 rfl 5 5 i0 Ybaf.underlying33 Ybaf.underlying33 hi0 hz1 g cap (n + k) (bs ++ uu zs k) HL.out rfl _ _ _ rfl rfl 45 rfl hFk.out (by omega) ?_; intro w2 hF2 hO2))
        go_roundw
        case rel => exact ⟨k + 1, by omega, rfl, by rw [HN.out], by go_num, by rw [HU.out, ← List.append_assoc]; exact hF2, hO.trans hO2⟩
        case measure => simp [intOf]; omega
      | false =>
        have hyp' := hyp k
        rw [hyk] at hyp'
        have hdl := dn_lt k hlt hyk
        have hdc : wr.cell? ⟨w.heap.size + 1, dn k, none⟩ = some (.int .u8 ((hexAt zs (dn k)).toNat : Int)) := hD _ hdl
        have eu : uu zs (k + 1) = uu zs k ++ [hexAt zs (dn k)] := by rw [uu, if_neg (by rw [hyk]; decide)]
        have ed : dn (k + 1) = dn k + 1 := by rw [dn, if_neg (by rw [hyk]; decide)]
        have HU : Hid (uu zs (k + 1) = uu zs k ++ [hexAt zs (dn k)]) := eu
        have HN : Hid (dn (k + 1) = dn k + 1) := ed
        clear hyk hyp hD eu ed
        generalize hexAt zs (dn k) = hx at *
        generalize dn k = dk at *
        go_wp2_with (first
          | (go_at_call 21; refine (hyp' _).mono ?_; rintro e w' ⟨rfl, hw⟩; rw [hw]; clear hw)
          | (at_builtin; refine wpList_append_fit1 _ rfl _ _ 33 33 rfl 5 5 i0 Ybaf.underlying33 Ybaf.underlying33 hi0 hz1 g cap (n + k) (bs ++ uu zs k) HL.out rfl _ _ _ rfl rfl hx rfl hFk.out (by omega) ?_; intro w2 hF2 hO2))
        go_roundw
        case rel => exact ⟨k + 1, by omega, rfl, by rw [HN.out]; go_num, by go_num, by rw [HU.out, ← List.append_assoc]; exact hF2, hO.trans hO2⟩
        case measure => simp [intOf]; omega
    · obtain rfl : k = 36 := by omega
      clear hyp
      go_wp2_with fail
      go_ret
      exact ⟨rfl, by rw [hzs]; exact hFk.out, (Only.ofBelow hb1).trans hO⟩
end Go.Proofs.YbulkaypkFmt
