/-
  SEAT b2494a: zzs2494beq (6) at two slices of the same bytes; the law's walk (3).
-/
import Derived.Test.YbulkaypyWalkC
namespace Go.Proofs.Ybulkaypy
open Go.RowKit Go.Bufs

set_option maxHeartbeats 800000 in
theorem eq_same (ga gb ca cb n : Nat) (xs : List Value) (w : World) (hn : n ≤ 100000) (hl : xs.length = n) (hint : ∀ u ∈ xs, ∃ c : Int, u = .int .u8 c)
    (ha : ∀ j u, xs[j]? = some u → w.cell? ⟨ga, j, none⟩ = some u) (hb : ∀ j u, xs[j]? = some u → w.cell? ⟨gb, j, none⟩ = some u) :
    Calls Yba.prog 6 #[.slice (some ⟨ga, 0, none⟩) n ca, .slice (some ⟨gb, 0, none⟩) n cb] w fun e w' => e = .returned (.bool true) ∧ ∃ m, w' = w.drewN m := by
  have HA : Hid (∀ j u, xs[j]? = some u → w.cell? ⟨ga, j, none⟩ = some u) := ha
  have HB : Hid (∀ j u, xs[j]? = some u → w.cell? ⟨gb, j, none⟩ = some u) := hb
  clear ha hb
  go_enter Yba.func6, Yba.ntmps6
  go_wp2
  go_loopw [5] (fun i wr => ∃ k m : Nat, k ≤ n ∧ i = .int .i64 (k : Int) ∧ wr = w.drewN m) (fun i _ => n - (intOf i).toNat)
  case atStart => exact ⟨0, 0, Nat.zero_le _, rfl, rfl⟩
  case round =>
    obtain ⟨k, m, hk, rfl, rfl⟩ := hrel
    by_cases hlt : k < n
    · obtain ⟨u, hu⟩ : ∃ u, xs[k]? = some u := ⟨_, List.getElem?_eq_getElem (by omega)⟩
      obtain ⟨c, rfl⟩ := hint u (List.mem_of_getElem? hu)
      have h1 := HA.out k _ hu
      have h2 := HB.out k _ hu
      clear hu
      go_wp2
      go_quiet (fail)
      go_wp2
      go_roundw
      case rel => exact ⟨k + 1, m + nq, by omega, by go_num, by simp⟩
      case measure => simp [intOf]; omega
    · go_wp2
      go_ret
      exact ⟨rfl, m, rfl⟩

theorem cmd_ints (op : Int) (key : ByteArray) (k : Nat) (cells : List Value) (hc : ∀ u ∈ cells, ∃ c : Int, u = .int .u8 c) : ∀ u ∈ cmd op key k cells, ∃ c : Int, u = .int .u8 c := by
  intro u hu
  simp only [cmd, vcells, vfirst, byteCells, List.mem_append, List.mem_map, List.mem_singleton] at hu
  rcases hu with ((rfl | (⟨i, _, rfl⟩ | rfl)) | ⟨b, _, rfl⟩) | h
  · exact ⟨_, rfl⟩
  · exact ⟨_, rfl⟩
  · exact ⟨_, rfl⟩
  · exact ⟨_, rfl⟩
  · exact hc u h

set_option maxRecDepth 100000 in
set_option maxHeartbeats 800000 in
theorem law_big (op : Int) (key : ByteArray) (a2 : Option Addr) (len2 cap2 : Nat) (w : World) (hm1 : key.size ≤ maxLen) (hm2 : len2 ≤ maxLen) (h : 4096 < key.size ∨ 4096 < len2) :
    Calls Yba.prog 3 #[.int .u8 op, .string key, .slice a2 len2 cap2] w fun e w' => e = .returned (.bool true) ∧ Below w.heap.size w w' := by
  unfold maxLen at hm1 hm2
  by_cases h1 : 4096 < key.size
  · go_enter Yba.func3, Yba.ntmps3
    go_wp2
    go_ret
    exact ⟨rfl, Below.refl _ _⟩
  · have h2 : 4096 < len2 := by omega
    go_enter Yba.func3, Yba.ntmps3
    go_wp2
    go_ret
    exact ⟨rfl, Below.refl _ _⟩

set_option maxRecDepth 100000 in
set_option maxHeartbeats 800000 in
theorem law_small (op : Int) (key : ByteArray) (a2 : Option Addr) (len2 cap2 : Nat) (cells : List Value) (w : World) (hx : key.size ≤ 4096) (hl : len2 ≤ 4096)
    (hints : ∀ u ∈ cells, ∃ c : Int, u = .int .u8 c)
    (hsrc : ∀ w', Below w.heap.size w w' → Src Yba.prog 1 22 (.slice a2 len2 cap2) len2 cells w') :
    Calls Yba.prog 3 #[.int .u8 op, .string key, .slice a2 len2 cap2] w fun e w' => e = .returned (.bool true) ∧ Below w.heap.size w w' := by
  go_enter Yba.func3, Yba.ntmps3
  go_wp2_with fail
  refine (encode_any op key a2 len2 cap2 cells _ hx hl hsrc).mono ?_
  rintro e w1 ⟨k, v1, hV, hk, rfl, hB1, hb1⟩
  go_wp2_with fail
  refine (model_any op key a2 len2 cap2 cells _ hx hl (fun w' hb => hsrc w' (hb1.trans (hb.mono hb1.size)))).mono ?_
  rintro e w2 ⟨k', v2, hV', hk', rfl, hB2, hb2⟩
  obtain rfl := hV.unique hV'
  have hB1' := hB1.below hb2
  obtain ⟨ga, ca, rfl, _, _, _, hca, _⟩ := hB1'.shape (by omega)
  obtain ⟨gb, cb, rfl, _, _, _, hcb, _⟩ := hB2.shape (by omega)
  have hlen : (cmd op key k cells).length = 1 + (k + 1) + key.size + len2 := by rw [hB2.len]; omega
  have hE := eq_same ga gb ca cb _ (cmd op key k cells) w2 (by omega) hlen (cmd_ints op key k cells hints) hca hcb
  have HE : Hid (Calls Yba.prog 6 #[.slice (some ⟨ga, 0, none⟩) (1 + (k + 1) + key.size + len2) ca, .slice (some ⟨gb, 0, none⟩) (1 + (k + 1) + key.size + len2) cb] w2 fun e w' => e = .returned (.bool true) ∧ ∃ m, w' = w2.drewN m) := hE
  have hb : Below w.heap.size w w2 := hb1.trans (hb2.mono hb1.size)
  clear hE hca hcb hB1 hB2 hB1' hsrc hlen hints
  go_wp2_with fail
  refine HE.out.mono ?_
  rintro e w3 ⟨rfl, m, rfl⟩
  go_wp2_with fail
  go_ret
  exact ⟨rfl, hb.trans ⟨rfl, rfl, rfl, Nat.le_refl _, fun _ _ => rfl⟩⟩
end Go.Proofs.Ybulkaypy
