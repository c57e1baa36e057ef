/-
  SEAT b2493aF: THE WALK OF encoding/hex.Encode (20).
-/
import Derived.Test.YbulkaypkFmtPad
import Derived.Laws.BitsAllLaws
namespace Go.Proofs.YbulkaypkFmt
open Go.RowKit Go.Bufs Plain

theorem ret_num {k : IntKind} {a b : Int} (h : a = b) : Ending.returned (.int k a) = .returned (.int k b) := by rw [h]

/-- A hexadecimal digit. -/
def hexd (n : Nat) : UInt8 := UInt8.ofNat (if n < 10 then 48 + n else 87 + n)

theorem hexFin : ∀ n : Fin 16, ((⟨#[48, 49, 50, 51, 52, 53, 54, 55, 56, 57, 97, 98, 99, 100, 101, 102]⟩ : ByteArray)[n.1]'(n.2)).toNat = (hexd n.1).toNat := by decide

theorem hexLit (n : Nat) (h : n < (⟨#[48, 49, 50, 51, 52, 53, 54, 55, 56, 57, 97, 98, 99, 100, 101, 102]⟩ : ByteArray).size) : ((⟨#[48, 49, 50, 51, 52, 53, 54, 55, 56, 57, 97, 98, 99, 100, 101, 102]⟩ : ByteArray)[n]'h).toNat = (hexd n).toNat :=
  hexFin ⟨n, h⟩

/-- The byte at place j of the hexadecimal text of zs. -/
def hexAt (zs : List UInt8) (j : Nat) : UInt8 := if j % 2 = 0 then hexd ((zs.getD (j / 2) 0).toNat / 16) else hexd ((zs.getD (j / 2) 0).toNat % 16)

/-- Behind k rounds. -/
structure Enc (w wr : World) (g off : Nat) (zs : List UInt8) (k : Nat) : Prop where
  only : Only w wr g
  size : wr.heap.size = w.heap.size
  holds : ∀ j, j < 2 * k → wr.cell? ⟨g, off + j, none⟩ = some (bcell (hexAt zs j))
  rest : ∀ o, o < off ∨ off + 2 * k ≤ o → wr.cell? ⟨g, o, none⟩ = w.cell? ⟨g, o, none⟩
  frozen : ∀ o, wr.frozen? ⟨g, o, none⟩ = w.frozen? ⟨g, o, none⟩

theorem Enc.step {w wr : World} {g off : Nat} {zs : List UInt8} {k : Nat} {b : UInt8} (h : Enc w wr g off zs k) (hb : zs[k]? = some b)
    (h0 : (wr.cell? ⟨g, off + 2 * k, none⟩).isSome = true) (h1 : (wr.cell? ⟨g, off + (2 * k + 1), none⟩).isSome = true) (x y : Int) (hx : x = ((hexd (b.toNat / 16)).toNat : Int)) (hy : y = ((hexd (b.toNat % 16)).toNat : Int)) :
    Enc w ((wr.setCell ⟨g, off + 2 * k, none⟩ (.int .u8 x)).setCell ⟨g, off + (2 * k + 1), none⟩ (.int .u8 y)) g off zs (k + 1) := by
  have hd : zs.getD k 0 = b := by rw [List.getD_eq_getElem?_getD, hb]; rfl
  have a0 : hexAt zs (2 * k) = hexd (b.toNat / 16) := by unfold hexAt; rw [show 2 * k % 2 = 0 by omega, show 2 * k / 2 = k by omega, hd]; rfl
  have a1 : hexAt zs (2 * k + 1) = hexd (b.toNat % 16) := by unfold hexAt; rw [show (2 * k + 1) % 2 = 1 by omega, show (2 * k + 1) / 2 = k by omega, hd]; rfl
  have hbl : ∀ i, i ≠ g → ((wr.setCell ⟨g, off + 2 * k, none⟩ (.int .u8 x)).setCell ⟨g, off + (2 * k + 1), none⟩ (.int .u8 y)).heap[i]? = wr.heap[i]? := fun i hi => by
    rw [Below.heap_setCell _ _ _ _ hi, Below.heap_setCell _ _ _ _ hi]
  subst hx hy
  refine ⟨⟨h.only.os, h.only.tape, h.only.output, ?_, fun i hi hne => ?_⟩, ?_, fun j hj => ?_, fun o ho => ?_, fun o => ?_⟩
  · simp [World.setCell]; have := h.only.size; omega
  · rw [hbl i (fun e => hne (by rw [e]))]; exact h.only.block i hi hne
  · simp [World.setCell]; exact h.size
  · by_cases e1 : j = 2 * k + 1
    · subst e1
      rw [World.cell?_setCell_same' _ _ _ (by rw [World.cell?_setCell_other _ _ _ _ (fun e' => by have h9 := congrArg Addr.off e'; dsimp only at h9; omega)]; exact h1), a1]
      rfl
    · rw [World.cell?_setCell_other _ _ _ _ (fun e' => by have h9 := congrArg Addr.off e'; dsimp only at h9; omega)]
      by_cases e0 : j = 2 * k
      · subst e0
        rw [World.cell?_setCell_same' _ _ _ h0, a0]
        rfl
      · rw [World.cell?_setCell_other _ _ _ _ (fun e' => by have h9 := congrArg Addr.off e'; dsimp only at h9; omega)]
        exact h.holds j (by omega)
  · rw [World.cell?_setCell_other _ _ _ _ (fun e' => by have h9 := congrArg Addr.off e'; dsimp only at h9; omega), World.cell?_setCell_other _ _ _ _ (fun e' => by have h9 := congrArg Addr.off e'; dsimp only at h9; omega)]
    exact h.rest o (by omega)
  · rw [World.frozen?_setCell, World.frozen?_setCell]; exact h.frozen o

set_option maxHeartbeats 1600000 in
theorem encode_any (g off L C sb so n c2 : Nat) (zs : List UInt8) (hz : zs.length = n) (w : World) (hL : 2 * n ≤ L) (hL2 : L ≤ 1000) (hne : sb ≠ g) (hsb : sb < w.heap.size)
    (hsrc : ∀ j (b : UInt8), zs[j]? = some b → w.cell? ⟨sb, so + j, none⟩ = some (bcell b))
    (hdst : ∀ j, j < 2 * n → (w.cell? ⟨g, off + j, none⟩).isSome = true ∧ w.frozen? ⟨g, off + j, none⟩ = false) :
    Calls Ybaf.prog 20 #[.slice (some ⟨g, off, none⟩) L C, .slice (some ⟨sb, so, none⟩) n c2] w fun e w' =>
      e = .returned (.int .i64 (2 * n : Nat)) ∧ Enc w w' g off zs n := by
  go_enter Ybaf.func20, Ybaf.ntmps20
  go_wp2
  go_loopw [5, 7, 10] (fun j v i wr => ∃ k : Nat, k ≤ n ∧ i = .int .i64 (k : Int) ∧ j = .int .i64 ((2 * k : Nat) : Int) ∧ Enc w wr g off zs k)
    (fun _ _ i _ => n - (intOf i).toNat)
  case atStart => exact ⟨0, Nat.zero_le _, rfl, rfl, ⟨Only.refl _ _, rfl, fun j hj => absurd hj (by omega), fun _ _ => rfl, fun _ => rfl⟩⟩
  case round =>
    obtain ⟨k, hk, rfl, rfl, hE⟩ := hrel
    by_cases hlt : k < n
    · obtain ⟨b, hb⟩ : ∃ b, zs[k]? = some b := ⟨_, List.getElem?_eq_getElem (by omega)⟩
      have hcs : wr.cell? ⟨sb, so + k, none⟩ = some (.int .u8 (b.toNat : Int)) := by rw [hE.only.cell hsb hne]; exact hsrc k b hb
      obtain ⟨d0, f0⟩ := hdst (2 * k) (by omega)
      obtain ⟨d1, f1⟩ := hdst (2 * k + 1) (by omega)
      rw [← hE.rest _ (by omega)] at d0 d1
      rw [← hE.frozen] at f0 f1
      obtain ⟨c0, hc0⟩ := Option.isSome_iff_exists.1 d0
      obtain ⟨c1, hc1⟩ := Option.isSome_iff_exists.1 d1
      have D0 : Hid ((wr.cell? ⟨g, off + 2 * k, none⟩).isSome = true) := d0
      have D1 : Hid ((wr.cell? ⟨g, off + (2 * k + 1), none⟩).isSome = true) := d1
      have HB : Hid (zs[k]? = some b) := hb
      have hb256 : b.toNat < 256 := b.toNat_lt
      clear d0 d1 hb
      go_wp2
      go_roundw
      case rel => exact ⟨k + 1, by omega, by go_num, by go_num, hE.step HB.out D0.out D1.out _ _ (by rw [hexLit]) (by rw [hexLit])⟩
      case measure => simp [intOf]; omega
    · go_wp2
      go_ret
      have e : k = n := by omega
      subst e
      exact ⟨ret_num (by omega), hE⟩
end Go.Proofs.YbulkaypkFmt
