/-
  SEAT b2493aF: THE CLOSED FACTS FOR A WALK OVER fmt.errorf's STOP (function 17), after the guide's PortFmt.lean, turned to this dump's numbers: 28: error, 86: *errors.errorString, 88: errors.errorString, 71: *fmt.wrapError, 130: fmt.wrapError, 26: driftline.Timestamp, 2: int64, 69: the variadic slice.
-/
import Derived.Test.YbulkaypkFmtRows
import Derived.Stop.CallBack
import Derived.Stop.IfaceNil
import GoSem.ClaimData
namespace Go.Proofs.YbulkaypkFmt
open Go.Extern.Stop Go.Stop Go.Extern

@[go_sem] theorem Ybaf.call17 (args : Array Value) (w : World) : (callFunc 17 args).run Ybaf.prog w = (FmtCalls.errorf #[9, 69] #[28] args).run Ybaf.prog w :=
  run_callFunc_next Ybaf.func17 (by kernel_rfl) (by kernel_rfl) (by kernel_rfl) args w
@[go_sem] theorem Ybaf.guard (name : String) (w : World) : (FmtStop.guard name).run Ybaf.prog w = .ok () w := by kernel_rfl
theorem Ybaf.nextTurns : Extern.next FmtCalls.turnsRow = some (FmtCalls.begun #[] #[]) := by kernel_rfl
theorem Ybaf.nextReturned : Extern.next FmtCalls.returnedRow = some (FmtCalls.returned #[] #[]) := by kernel_rfl
@[go_sem] theorem Ybaf.fmt0 : FmtStop.printed? ⟨#[37, 119, 58, 32, 97, 102, 116, 101, 114, 32, 37, 115]⟩ 2 = some [(0, 119, false), (1, 115, false)] := by kernel_rfl
@[go_sem] theorem Ybaf.fmt0r (w : World) : (FmtDoors.printed ⟨#[37, 119, 58, 32, 97, 102, 116, 101, 114, 32, 37, 115]⟩ 2).run Ybaf.prog w = .ok [(0, 119, false), (1, 115, false)] w := by kernel_rfl
@[go_sem] theorem Ybaf.fmt1 : FmtStop.printed? ⟨#[37, 119, 58, 32, 119, 97, 108, 108, 32, 37, 100, 32, 105, 115, 32, 98, 101, 108, 111, 119, 32, 122, 101, 114, 111]⟩ 2 = some [(0, 119, false), (1, 100, false)] := by kernel_rfl
@[go_sem] theorem Ybaf.fmt1r (w : World) : (FmtDoors.printed ⟨#[37, 119, 58, 32, 119, 97, 108, 108, 32, 37, 100, 32, 105, 115, 32, 98, 101, 108, 111, 119, 32, 122, 101, 114, 111]⟩ 2).run Ybaf.prog w = .ok [(0, 119, false), (1, 100, false)] w := by kernel_rfl
@[go_sem] theorem Ybaf.fmt2 : FmtStop.printed? ⟨#[37, 119, 58, 32, 119, 97, 108, 108, 32, 37, 100, 32, 105, 115, 32, 112, 97, 115, 116, 32, 37, 100, 44, 32, 116, 104, 101, 32, 108, 97, 115, 116, 32, 119, 104, 111, 108, 101, 32, 109, 105, 108, 108, 105, 115, 101, 99, 111, 110, 100, 32, 97, 32, 119, 97, 108, 108, 32, 104, 111, 108, 100, 115]⟩ 3 = some [(0, 119, false), (1, 100, false), (2, 100, false)] := by kernel_rfl
@[go_sem] theorem Ybaf.fmt2r (w : World) : (FmtDoors.printed ⟨#[37, 119, 58, 32, 119, 97, 108, 108, 32, 37, 100, 32, 105, 115, 32, 112, 97, 115, 116, 32, 37, 100, 44, 32, 116, 104, 101, 32, 108, 97, 115, 116, 32, 119, 104, 111, 108, 101, 32, 109, 105, 108, 108, 105, 115, 101, 99, 111, 110, 100, 32, 97, 32, 119, 97, 108, 108, 32, 104, 111, 108, 100, 115]⟩ 3).run Ybaf.prog w = .ok [(0, 119, false), (1, 100, false), (2, 100, false)] w := by kernel_rfl

-- type 26: driftline.Timestamp: its String is called
@[go_sem] theorem Ybaf.act26_115w (name : String) (x : Value) (w : World) : (FmtCalls.act name true 115 false (.iface 26 x)).run Ybaf.prog w = .ok (.call false) w := by kernel_rfl
@[go_sem] theorem Ybaf.isString26 (w : World) : (FmtDoors.textMethod 26 "String").run Ybaf.prog w = .ok true w := by kernel_rfl
theorem Ybaf.invokeString26 (x : Value) (w : World) : (invoke (.fn (.method "String") #[]) #[.iface 26 x]).run Ybaf.prog w = .ok (.enter 19 #[x]) w := by kernel_rfl
@[go_sem] theorem Ybaf.str26 (w : World) : (typeStr 26).run Ybaf.prog w = .ok "driftline.Timestamp" w := by kernel_rfl
-- type 2: int64
def Ybaf.shape2 : List UInt8 := [FmtStop.intCode .i64, 5, 0, 0, 0, 0, 0, 0, 0, 105, 110, 116, 54, 52]
@[go_sem] theorem Ybaf.act2_100w (name : String) (x : Value) (w : World) : (FmtCalls.act name true 100 false (.iface 2 x)).run Ybaf.prog w = .ok (.closed true) w := by kernel_rfl
@[go_sem] theorem Ybaf.op2_100w (name : String) (x : Int) (w : World) : (FmtStop.operand name true 100 false (.iface 2 (.int .i64 x))).run Ybaf.prog w = .ok (Ybaf.shape2, Go.Extern.Stop.digits 8 (x % 2 ^ 64).toNat) w := by kernel_rfl
@[go_sem] theorem Ybaf.str2 (w : World) : (typeStr 2).run Ybaf.prog w = .ok "int64" w := by kernel_rfl
-- type 86: *errors.errorString
@[go_sem] theorem Ybaf.act86_119w (name : String) (x : Value) (w : World) : (FmtCalls.act name true 119 false (.iface 86 x)).run Ybaf.prog w = .ok (.closed true) w := by kernel_rfl
@[go_sem] theorem Ybaf.isError86 (w : World) : (FmtDoors.textMethod 86 "Error").run Ybaf.prog w = .ok true w := by kernel_rfl
@[go_sem] theorem Ybaf.str86 (w : World) : (typeStr 86).run Ybaf.prog w = .ok "*errors.errorString" w := by kernel_rfl
@[go_sem] theorem Ybaf.ptr86 (w : World) : (FmtStop.ptrTo "errors.errorString").run Ybaf.prog w = .ok 86 w := by kernel_rfl
@[go_sem] theorem Ybaf.elem86 (w : World) : (elemOf 86).run Ybaf.prog w = .ok 88 w := by kernel_rfl
theorem Ybaf.name86 : Ybaf.prog.typeName? 3 86 = some "*errors.errorString" := by kernel_rfl
def Ybaf.plain86 : List UInt8 := 14 :: FmtStop.pack "*errors.errorString".toUTF8.data.toList
theorem Ybaf.opPlain86_119w (name : String) (a : Addr) (s : ByteArray) (w : World) (hc : w.cell? a = some (.string s)) :
    (FmtStop.operand name true 119 false (.iface 86 (.pointer (some a)))).run Ybaf.prog w = .ok (Ybaf.plain86, s.data.toList) w := by
  have h1 : (typeStr 86).run Ybaf.prog w = .ok "*errors.errorString" w := by kernel_rfl
  have d2 : Ybaf.t86.desc = .pointer 88 := rfl
  have d3 : Ybaf.t88.desc = .named "errors.errorString" 87 := rfl
  simp [FmtStop.operand, h1, d2, d3, run_load, hc, Ybaf.plain86]
-- type 71: *fmt.wrapError
@[go_sem] theorem Ybaf.ptr71 (w : World) : (FmtStop.ptrTo "fmt.wrapError").run Ybaf.prog w = .ok 71 w := by kernel_rfl
@[go_sem] theorem Ybaf.elem71 (w : World) : (elemOf 71).run Ybaf.prog w = .ok 130 w := by kernel_rfl
@[go_sem] theorem Ybaf.isError71 (w : World) : (FmtDoors.textMethod 71 "Error").run Ybaf.prog w = .ok true w := by kernel_rfl
end Go.Proofs.YbulkaypkFmt
