/-
  SEAT b2493aF: fmt.Errorf (12) at the two formats with '%w' and '%d'.
-/
import Derived.Test.YbulkaypkFmtErrorf
namespace Go.Proofs.YbulkaypkFmt
open Go.RowKit Go.Bufs Plain
open Go.Extern.Stop Go.Stop Go.Extern

abbrev fmtBelow : Value := .string ⟨#[37, 119, 58, 32, 119, 97, 108, 108, 32, 37, 100, 32, 105, 115, 32, 98, 101, 108, 111, 119, 32, 122, 101, 114, 111]⟩
abbrev fmtPast : Value := .string ⟨#[37, 119, 58, 32, 119, 97, 108, 108, 32, 37, 100, 32, 105, 115, 32, 112, 97, 115, 116, 32, 37, 100, 44, 32, 116, 104, 101, 32, 108, 97, 115, 116, 32, 119, 104, 111, 108, 101, 32, 109, 105, 108, 108, 105, 115, 101, 99, 111, 110, 100, 32, 97, 32, 119, 97, 108, 108, 32, 104, 111, 108, 100, 115]⟩

set_option maxRecDepth 100000 in
set_option maxHeartbeats 1600000 in
theorem errorf_below (F : Interp) (a : Addr) (s : ByteArray) (blk : Nat) (x : Int) (w : World) (hF : F.answers w.tape)
    (hc0 : w.cell? ⟨blk, 0, none⟩ = some (.iface 86 (.pointer (some a)))) (hc1 : w.cell? ⟨blk, 1, none⟩ = some (.iface 2 (.int .i64 x))) (hs : w.cell? a = some (.string s)) :
    Calls Ybaf.prog 12 #[fmtBelow, .slice (some ⟨blk, 0, none⟩) 2 2] w fun e w' =>
      ∃ N, e = .returned (.iface 71 (.pointer (some ⟨N, 0, none⟩))) ∧ Below w.heap.size w w' ∧ w'.cell? ⟨N, 0 + 1, none⟩ = some (.iface 86 (.pointer (some a))) := by
  have hF' := answers_open hF
  have hop := Ybaf.opPlain86_119w "fmt.errorf" a s w hs
  go_enter Ybaf.func12, Ybaf.ntmps12
  go_wp2
  apply rows_value Ybaf.nextTurns
  case hr =>
    go_simp
    exact ⟨rfl, rfl⟩
  case h =>
    go_wp2
    go_ret
    exact ⟨w.heap.size, rfl, ((Below.refl _ _).alloc (Nat.le_refl _) _).drew, World.cell?_alloc_new w _ _ 1⟩

set_option maxRecDepth 100000 in
set_option maxHeartbeats 1600000 in
theorem errorf_past (F : Interp) (a : Addr) (s : ByteArray) (blk : Nat) (x y : Int) (w : World) (hF : F.answers w.tape)
    (hc0 : w.cell? ⟨blk, 0, none⟩ = some (.iface 86 (.pointer (some a)))) (hc1 : w.cell? ⟨blk, 1, none⟩ = some (.iface 2 (.int .i64 x))) (hc2 : w.cell? ⟨blk, 2, none⟩ = some (.iface 2 (.int .i64 y))) (hs : w.cell? a = some (.string s)) :
    Calls Ybaf.prog 12 #[fmtPast, .slice (some ⟨blk, 0, none⟩) 3 3] w fun e w' =>
      ∃ N, e = .returned (.iface 71 (.pointer (some ⟨N, 0, none⟩))) ∧ Below w.heap.size w w' ∧ w'.cell? ⟨N, 0 + 1, none⟩ = some (.iface 86 (.pointer (some a))) := by
  have hF' := answers_open hF
  have hop := Ybaf.opPlain86_119w "fmt.errorf" a s w hs
  go_enter Ybaf.func12, Ybaf.ntmps12
  go_wp2
  apply rows_value Ybaf.nextTurns
  case hr =>
    go_simp
    exact ⟨rfl, rfl⟩
  case h =>
    go_wp2
    go_ret
    exact ⟨w.heap.size, rfl, ((Below.refl _ _).alloc (Nat.le_refl _) _).drew, World.cell?_alloc_new w _ _ 1⟩
end Go.Proofs.YbulkaypkFmt
