/-
  SEAT b2493aF: THE LAW's WALK: LawS2493CKind (5), up to the call of exhausted. Great literals stand behind plain definitions.
-/
import Derived.Test.YbulkaypkFmtExh
import Derived.Test.YbulkaypkFmtIs
import Derived.Great.BuildSlice
namespace Go.Proofs.YbulkaypkFmt
open Go.RowKit Go.Bufs Plain
open Go.Extern.Stop Go.Stop Go.Extern

def nodeArr (z0 z1 z2 z3 z4 z5 z6 z7 z8 z9 z10 z11 z12 z13 z14 z15 : UInt8) : Array Value := #[.int .u8 (z0.toNat : Int), .int .u8 (z1.toNat : Int), .int .u8 (z2.toNat : Int), .int .u8 (z3.toNat : Int), .int .u8 (z4.toNat : Int), .int .u8 (z5.toNat : Int), .int .u8 (z6.toNat : Int), .int .u8 (z7.toNat : Int), .int .u8 (z8.toNat : Int), .int .u8 (z9.toNat : Int), .int .u8 (z10.toNat : Int), .int .u8 (z11.toNat : Int), .int .u8 (z12.toNat : Int), .int .u8 (z13.toNat : Int), .int .u8 (z14.toNat : Int), .int .u8 (z15.toNat : Int)]
def tsArr (wall lg : Int) (z0 z1 z2 z3 z4 z5 z6 z7 z8 z9 z10 z11 z12 z13 z14 z15 : UInt8) : Array Value := #[.int .i64 wall, .int .u32 lg, .int .u8 (z0.toNat : Int), .int .u8 (z1.toNat : Int), .int .u8 (z2.toNat : Int), .int .u8 (z3.toNat : Int), .int .u8 (z4.toNat : Int), .int .u8 (z5.toNat : Int), .int .u8 (z6.toNat : Int), .int .u8 (z7.toNat : Int), .int .u8 (z8.toNat : Int), .int .u8 (z9.toNat : Int), .int .u8 (z10.toNat : Int), .int .u8 (z11.toNat : Int), .int .u8 (z12.toNat : Int), .int .u8 (z13.toNat : Int), .int .u8 (z14.toNat : Int), .int .u8 (z15.toNat : Int)]
def clockArr (c : Bool) (z0 z1 z2 z3 z4 z5 z6 z7 z8 z9 z10 z11 z12 z13 z14 z15 : UInt8) : Array Value := #[.nilFunc, .int .u8 (z0.toNat : Int), .int .u8 (z1.toNat : Int), .int .u8 (z2.toNat : Int), .int .u8 (z3.toNat : Int), .int .u8 (z4.toNat : Int), .int .u8 (z5.toNat : Int), .int .u8 (z6.toNat : Int), .int .u8 (z7.toNat : Int), .int .u8 (z8.toNat : Int), .int .u8 (z9.toNat : Int), .int .u8 (z10.toNat : Int), .int .u8 (z11.toNat : Int), .int .u8 (z12.toNat : Int), .int .u8 (z13.toNat : Int), .int .u8 (z14.toNat : Int), .int .u8 (z15.toNat : Int), .int .i64 0, .int .i64 0, .int .i64 0, .int .u8 0, .int .u8 0, .int .u8 0, .int .u8 0, .int .u8 0, .int .u8 0, .int .u8 0, .int .u8 0, .int .u8 0, .int .u8 0, .int .u8 0, .int .u8 0, .int .u8 0, .int .u8 0, .int .u8 0, .int .u8 0, .int .u8 0, .int .u8 0, .int .u8 0, .int .u8 0, .int .u8 0, .int .u8 0, .int .u8 0, .int .u8 0, .int .u8 0, .int .u8 0, .int .u8 0, .int .u8 0, .int .u8 0, .int .u8 0, .int .u8 0, .int .u8 0, .int .u8 0, .int .u8 0, .int .u8 0, .int .u8 0, .int .u8 0, .int .u8 0, .int .u8 0, .int .u8 0, .int .u8 0, .int .u8 0, .int .u8 0, .int .u8 0, .int .u8 0, .int .u8 0, .int .u8 0, .int .u8 0, .int .u8 0, .int .u8 0, .int .u8 0, .int .u8 0, .int .u8 0, .int .u8 0, .int .u8 0, .int .u8 0, .int .u8 0, .int .u8 0, .int .u8 0, .int .u8 0, .int .u8 0, .int .u8 0, .int .u8 0, .int .u8 0, .int .u64 0, .int .u8 0, .int .u8 0, .int .u8 0, .int .u8 0, .int .u8 0, .int .u8 0, .int .u8 0, .int .u8 0, .int .u8 0, .int .u8 0, .int .u8 0, .int .u8 0, .int .u8 0, .int .u8 0, .int .u8 0, .int .u8 0, .int .u8 0, .int .u8 0, .int .u8 0, .int .u8 0, .int .u8 0, .int .u8 0, .int .u8 0, .int .u8 0, .int .u8 0, .int .u8 0, .int .u8 0, .int .u8 0, .int .u8 0, .int .u8 0, .int .u8 0, .int .u8 0, .int .u8 0, .int .u8 0, .int .u8 0, .int .u8 0, .int .u8 0, .int .u8 0, .int .u8 0, .int .u8 0, .int .u8 0, .int .u8 0, .int .u8 0, .int .u8 0, .int .u8 0, .int .u8 0, .int .u8 0, .int .u8 0, .int .u8 0, .int .u8 0, .int .u8 0, .int .u8 0, .int .u8 0, .int .u8 0, .int .u8 0, .int .u8 0, .int .u8 0, .int .u8 0, .int .u8 0, .int .u8 0, .int .u8 0, .int .u8 0, .int .u8 0, .int .u8 0, .int .i32 0, .int .u32 0, .int .i64 0, .int .u32 0, .int .u8 0, .int .u8 0, .int .u8 0, .int .u8 0, .int .u8 0, .int .u8 0, .int .u8 0, .int .u8 0, .int .u8 0, .int .u8 0, .int .u8 0, .int .u8 0, .int .u8 0, .int .u8 0, .int .u8 0, .int .u8 0, .pointer none, .bool c]

theorem clock_flag (c : Bool) (z0 z1 z2 z3 z4 z5 z6 z7 z8 z9 z10 z11 z12 z13 z14 z15 : UInt8) (w : World) : (w.alloc (.cells (clockArr c z0 z1 z2 z3 z4 z5 z6 z7 z8 z9 z10 z11 z12 z13 z14 z15) 55)).cell? ⟨w.heap.size, 170, none⟩ = some (.bool c) := World.cell?_alloc_new w _ _ 170

theorem setRow_new (w : World) (old cs : Array Value) (T : TypeId) : (w.alloc (.cells old T)).setRow w.heap.size cs = w.alloc (.cells cs T) := by
  have hh : ((w.alloc (.cells old T)).setRow w.heap.size cs).heap = w.heap.push (.cells cs T) := by
    apply Array.ext
    · simp
    · intro i h1 h2
      apply Option.some.inj
      rw [← Array.getElem?_eq_getElem h1, ← Array.getElem?_eq_getElem h2]
      by_cases hi : i = w.heap.size
      · subst hi
        rw [setRow_heap _ _ old cs T (0, 0) (heap_alloc_new w _)]
        simp
      · rw [setRow_other _ _ _ _ hi]
        show (w.heap.push _)[i]? = (w.heap.push _)[i]?
        rw [Array.getElem?_push, Array.getElem?_push, if_neg hi, if_neg hi]
  have key : ∀ h : Array Obj, ((w.alloc (.cells old T)).setRow w.heap.size cs).heap = h → (w.alloc (.cells old T)).setRow w.heap.size cs = { (w.alloc (.cells cs T)) with heap := h } := by
    rintro h rfl
    rfl
  exact key _ hh
end Go.Proofs.YbulkaypkFmt
