/-
  SEAT b2493aF: THE FRAME OF THE THREE ROWS: the program's closed facts; the node argument opened.
-/
import Derived.Test.YbulkaypkFmtFacts
import Derived.Test.YbulkaypkFmtBuf
import Derived.Test.YbulkaypkFmtTie
import Derived.Test.YbulkaypkFmtCards
import Derived.ProofKit
import Derived.OpenShut
import Derived.LaidMore
import Derived.WalkSmall
import Derived.Deep.DeepWitnessRef
import Derived.Stop.JoinedTold
import Derived.Stop.JoinedAt
import Derived.Stop.Texts
import Derived.Stop.LaidErr
import Derived.Stop.LaidTwo
import Derived.SevenTiedAt
namespace Go.Proofs.YbulkaypkFmt
open Go.ChangeShapes Go.WideShapes Go.ChangeAt Go.RowKit Go.Bufs
open Go.Extern.Stop Go.Stop Go.Extern

theorem Ybaf.own : ownKnob Ybaf.prog.godebug = none := by kernel_rfl
theorem Ybaf.laidOut : laidOutB Ybaf.pinned.checked.prog = true := by kernel_rfl
theorem Ybaf.stops : Ybaf.pinned.checked.prog.stops = Rows.lawS2493CKindRow.stops := by kernel_rfl
theorem Ybaf.stopKnobs : Ybaf.pinned.checked.prog.stopKnobs = [] := by kernel_rfl
theorem Ybaf.quiet (os : Os) : Stop.quiet Ybaf.pinned.checked.prog os := by
  intro k hk
  rw [Ybaf.stopKnobs] at hk
  cases hk
theorem Ybaf.cells88 : Ybaf.prog.cellsOf 88 = 1 := by kernel_rfl
theorem Ybaf.cells9 : Ybaf.prog.cellsOf 9 = 1 := by kernel_rfl
theorem Ybaf.cells5 : Ybaf.prog.cellsOf 5 = 1 := by kernel_rfl
theorem Ybaf.cells23 : Ybaf.prog.cellsOf 23 = 16 := by kernel_rfl
theorem Ybaf.star : "*" ++ "errors.errorString" = "*errors.errorString" := by decide
theorem Ybaf.row86 (u : TypeId) (h : Ybaf.prog.typeName? 3 u = some "*errors.errorString") : u = 86 :=
  typeName_ptr_named (nm := "errors.errorString") (by rw [Ybaf.star]; kernel_rfl) (by kernel_rfl) (by decide) u (by rw [Ybaf.star]; exact h)

theorem list_of_cells : ∀ (l : List Value), (∀ i, i < l.length → ∃ b : UInt8, l[i]? = some (bcell b)) → ∃ bs : List UInt8, l = bs.map bcell
  | [], _ => ⟨[], rfl⟩
  | v :: l, h => by
    obtain ⟨b, hb⟩ := h 0 (by simp)
    obtain ⟨bs, e⟩ := list_of_cells l (fun i hi => by
      obtain ⟨c, hc⟩ := h (i + 1) (by simp; omega)
      exact ⟨c, by simpa using hc⟩)
    simp at hb
    exact ⟨b :: bs, by rw [hb, e]; rfl⟩

set_option maxRecDepth 100000 in
/-- AN ARGUMENT OF TYPE [16]byte: sixteen bytes. -/
theorem open_node {H : Type} {enc : TypeId × Value → H} {W : World} {base b0 : Nat} {sp : Nat → Bool} {held : Bool} {v : Value} {d : DataW H} {p : List MemPlace}
    (hv : Value.okWide Ybaf.prog W .any base 23 v) (h : DataW.Trod enc Ybaf.prog W b0 sp held 23 v d p) : ∃ bs : List UInt8, bs.length = 16 ∧ v = .agg (bs.map bcell).toArray := by
  obtain ⟨cs, rfl, hsz, _⟩ : ∃ cs, v = .agg cs ∧ cs.size = Ybaf.prog.cellsOf 23 ∧ Row.okWide Ybaf.prog W .any base 23 cs := by
    simpa [Value.okWide, Ybaf.underlying23] using hv
  rw [Ybaf.cells23] at hsz
  obtain ⟨fuel, hf⟩ := h
  obtain ⟨xs, m, rfl, _, _, hn, hel⟩ := DataW.trod_array Ybaf.underlying23 hf
  rw [Ybaf.cells5] at hel
  obtain ⟨l⟩ := cs
  have hl : l.length = 16 := hsz
  obtain ⟨bs, hbs⟩ := list_of_cells l (fun i hi => by
    have h1 := hel i (by omega)
    have hx : i < xs.length := by omega
    rw [List.getElem?_eq_getElem hx] at h1
    obtain ⟨n, e1, _, wn⟩ := DataW.trod_int Ybaf.underlying5 h1
    have bn := bounds_u8 wn
    refine ⟨UInt8.ofNat n.toNat, ?_⟩
    have e2 : ((l.drop i).take 1) = [.int .u8 n] := by simpa [Value.cells] using e1
    have e3 : l[i]? = some (.int .u8 n) := by
      have := congrArg (fun q => q[0]?) e2
      simpa [List.getElem?_take, List.getElem?_drop] using this
    rw [e3]
    have e4 : ((UInt8.ofNat n.toNat).toNat : Int) = n := by
      rw [UInt8.toNat_ofNat']
      omega
    unfold bcell
    rw [e4])
  refine ⟨bs, ?_, by rw [hbs]⟩
  have := congrArg List.length hbs
  simp at this
  omega

theorem list16 : ∀ (l : List UInt8), l.length = 16 → ∃ z0 z1 z2 z3 z4 z5 z6 z7 z8 z9 z10 z11 z12 z13 z14 z15 : UInt8, l = [z0, z1, z2, z3, z4, z5, z6, z7, z8, z9, z10, z11, z12, z13, z14, z15]
  | [z0, z1, z2, z3, z4, z5, z6, z7, z8, z9, z10, z11, z12, z13, z14, z15], _ => ⟨z0, z1, z2, z3, z4, z5, z6, z7, z8, z9, z10, z11, z12, z13, z14, z15, rfl⟩
end Go.Proofs.YbulkaypkFmt
