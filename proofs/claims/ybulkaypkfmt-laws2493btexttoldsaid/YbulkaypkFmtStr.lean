/-
  SEAT b2493aF: hex.EncodedLen (26), slices.Grow (27) with room, hex.AppendEncode (24), appendText (22), (Timestamp).String (19).
-/
import Derived.Test.YbulkaypkFmtWall
import Derived.Test.YbulkaypkFmtHex
import Derived.Deep.RegionWith
namespace Go.Proofs.YbulkaypkFmt
open Go.RowKit Go.Bufs Plain

/-- The hexadecimal text of zs. -/
def hexs (zs : List UInt8) : List UInt8 := (List.range (2 * zs.length)).map (hexAt zs)
theorem hexs_length (zs : List UInt8) : (hexs zs).length = 2 * zs.length := by simp [hexs]
theorem hexs_get (zs : List UInt8) (j : Nat) (h : j < 2 * zs.length) : (hexs zs)[j]? = some (hexAt zs j) := by
  unfold hexs
  rw [List.getElem?_map, List.getElem?_range h]
  rfl

theorem Enc.fit {w w' : World} {g cap n : Nat} {zs bs : List UInt8} (h : Enc w w' g bs.length zs n) (hF : Fit w g cap bs) (hz : zs.length = n) (hle : bs.length + 2 * n ≤ cap) : Fit w' g cap (bs ++ hexs zs) := by
  subst hz
  refine ⟨by simpa [hexs_length] using hle, hF.max, by rw [h.size]; exact hF.lt, fun j b hj => ?_, fun j hj => ⟨?_, by rw [h.frozen]; exact (hF.there j hj).2⟩⟩
  · by_cases hjo : j < bs.length
    · rw [List.getElem?_append_left hjo] at hj
      rw [h.rest j (.inl hjo)]
      exact hF.holds j b hj
    · rw [List.getElem?_append_right (by omega)] at hj
      have hlt : j - bs.length < 2 * zs.length := by have := (List.getElem?_eq_some_iff.1 hj).1; rwa [hexs_length] at this
      rw [hexs_get zs _ hlt] at hj
      cases hj
      have := h.holds (j - bs.length) hlt
      rwa [show bs.length + (j - bs.length) = j by omega] at this
  · by_cases hin : bs.length ≤ j ∧ j < bs.length + 2 * zs.length
    · have := h.holds (j - bs.length) (by omega)
      rw [show bs.length + (j - bs.length) = j by omega] at this
      rw [this]; rfl
    · rw [h.rest j (by omega)]; exact (hF.there j hj).1

theorem encodedLen_any (w : World) : Calls Ybaf.prog 26 #[.int .i64 16] w fun e w' => e = .returned (.int .i64 32) ∧ w' = w := by
  go_enter Ybaf.func26, Ybaf.ntmps26
  go_wp2
  go_ret
  exact ⟨rfl, rfl⟩

set_option maxHeartbeats 800000 in
theorem grow_room (g cap n : Nat) (w : World) (hle : n + 32 ≤ cap) (hc : cap ≤ 1000) :
    Calls Ybaf.prog 27 #[.slice (some ⟨g, 0, none⟩) n cap, .int .i64 32] w fun e w' => e = .returned (.slice (some ⟨g, 0, none⟩) n cap) ∧ w' = w := by
  have h1 : ¬ (0 : Int) < 32 - ((cap : Int) - (n : Int)) := by omega
  go_enter Ybaf.func27, Ybaf.ntmps27
  go_wp2
  go_ret
  exact ⟨rfl, rfl⟩

set_option maxHeartbeats 800000 in
theorem appendEncode_fit (g cap sb so c2 : Nat) (bs zs : List UInt8) (hz : zs.length = 16) (w : World) (hF : Fit w g cap bs) (hle : bs.length + 32 ≤ cap) (hc : cap ≤ 1000) (hne : sb ≠ g) (hsb : sb < w.heap.size)
    (hsrc : ∀ j (b : UInt8), zs[j]? = some b → w.cell? ⟨sb, so + j, none⟩ = some (bcell b)) :
    Calls Ybaf.prog 24 #[.slice (some ⟨g, 0, none⟩) bs.length cap, .slice (some ⟨sb, so, none⟩) 16 c2] w fun e w' =>
      e = .returned (.slice (some ⟨g, 0, none⟩) (bs.length + 32) cap) ∧ Fit w' g cap (bs ++ hexs zs) ∧ Only w w' g := by
  obtain ⟨n, hn⟩ : ∃ n, bs.length = n := ⟨_, rfl⟩
  have hE := encode_any g bs.length 32 (cap - bs.length) sb so 16 c2 zs hz w (by omega) (by omega) hne hsb hsrc (fun j hj => hF.there _ (by omega))
  have hfit : ∀ w', Enc w w' g bs.length zs 16 → Fit w' g cap (bs ++ hexs zs) := fun w' h => h.fit hF hz (by omega)
  rw [hn] at hE hfit hle ⊢
  have HE : Hid (Calls Ybaf.prog 20 #[.slice (some ⟨g, n, none⟩) 32 (cap - n), .slice (some ⟨sb, so, none⟩) 16 c2] w fun e w' => e = .returned (.int .i64 (2 * 16 : Nat)) ∧ Enc w w' g n zs 16) := hE
  clear hE hn
  have hcn : ¬ cap = n := by omega
  go_enter Ybaf.func24, Ybaf.ntmps24
  go_wp2_with fail
  refine (encodedLen_any _).mono ?_
  rintro e w' ⟨rfl, hw⟩
  rw [hw]; clear hw
  go_wp2_with fail
  refine (grow_room g cap n _ hle hc).mono ?_
  rintro e w' ⟨rfl, hw⟩
  rw [hw]; clear hw
  go_wp2_with fail
  refine HE.out.mono ?_
  rintro e w' ⟨rfl, hEn⟩
  have hF' := hfit w' hEn
  have hO := hEn.only
  clear hEn hfit
  go_wp2_with fail
  go_ret
  exact ⟨rfl, hF', hO⟩
end Go.Proofs.YbulkaypkFmt
