import Derived.Test.Qxb6613194aFmtRows
import Derived.Stop.CallBack
import Derived.Stop.IfaceNil
import GoSem.ClaimData
namespace Go.Proofs.Qxb6613194aFmt
open Go.Extern.Stop Go.Stop Go.Extern

-- THE CLOSED FACTS FOR A WALK OVER fmt.errorf (after the guide's CheckFmt)
theorem call30 (args : Array Value) (w : World) : (callFunc 30 args).run Tryf.prog w = ((FmtStop.errorf #[9, 66] #[38] args).run Tryf.prog w).andThen fun v w' => .ok (.value v) w' :=
  run_callFunc_extern Tryf.func30 (by kernel_rfl) (by kernel_rfl) (by kernel_rfl) (by kernel_rfl) args w
theorem fguard (name : String) (w : World) : (FmtStop.guard name).run Tryf.prog w = .ok () w := by kernel_rfl

theorem fmtA (w : World) : (FmtDoors.printed ⟨#[37, 113, 32, 105, 115, 32, 110, 111, 116, 32, 97, 32, 84, 66, 67, 68, 32, 100, 105, 103, 105, 116]⟩ 1).run Tryf.prog w = .ok [(0, 113, false)] w := by kernel_rfl
theorem hasA : (#[37, 113, 32, 105, 115, 32, 110, 111, 116, 32, 97, 32, 84, 66, 67, 68, 32, 100, 105, 103, 105, 116] : Array UInt8).contains 37 = true := by decide +kernel
theorem fmtB (w : World) : (FmtDoors.printed ⟨#[116, 98, 99, 100, 58, 32, 37, 113, 58, 32, 37, 119]⟩ 2).run Tryf.prog w = .ok [(0, 113, false), (1, 119, false)] w := by kernel_rfl
theorem hasB : (#[116, 98, 99, 100, 58, 32, 37, 113, 58, 32, 37, 119] : Array UInt8).contains 37 = true := by decide +kernel
theorem fmtC (w : World) : (FmtDoors.printed ⟨#[115, 109, 115, 58, 32, 97, 100, 100, 114, 101, 115, 115, 32, 116, 121, 112, 101, 32, 37, 100, 32, 97, 110, 100, 32, 110, 117, 109, 98, 101, 114, 105, 110, 103, 32, 112, 108, 97, 110, 32, 37, 100, 32, 100, 111, 32, 110, 111, 116, 32, 102, 105, 116, 32, 116, 104, 101, 32, 116, 121, 112, 101, 32, 111, 99, 116, 101, 116]⟩ 2).run Tryf.prog w = .ok [(0, 100, false), (1, 100, false)] w := by kernel_rfl
theorem hasC : (#[115, 109, 115, 58, 32, 97, 100, 100, 114, 101, 115, 115, 32, 116, 121, 112, 101, 32, 37, 100, 32, 97, 110, 100, 32, 110, 117, 109, 98, 101, 114, 105, 110, 103, 32, 112, 108, 97, 110, 32, 37, 100, 32, 100, 111, 32, 110, 111, 116, 32, 102, 105, 116, 32, 116, 104, 101, 32, 116, 121, 112, 101, 32, 111, 99, 116, 101, 116] : Array UInt8).contains 37 = true := by decide +kernel
theorem fmtD (w : World) : (FmtDoors.printed ⟨#[115, 109, 115, 58, 32, 97, 108, 112, 104, 97, 110, 117, 109, 101, 114, 105, 99, 32, 97, 100, 100, 114, 101, 115, 115, 32, 37, 113, 58, 32, 119, 114, 105, 116, 105, 110, 103, 32, 111, 110, 101, 32, 105, 115, 32, 110, 111, 116, 32, 115, 117, 112, 112, 111, 114, 116, 101, 100]⟩ 1).run Tryf.prog w = .ok [(0, 113, false)] w := by kernel_rfl
theorem hasD : (#[115, 109, 115, 58, 32, 97, 108, 112, 104, 97, 110, 117, 109, 101, 114, 105, 99, 32, 97, 100, 100, 114, 101, 115, 115, 32, 37, 113, 58, 32, 119, 114, 105, 116, 105, 110, 103, 32, 111, 110, 101, 32, 105, 115, 32, 110, 111, 116, 32, 115, 117, 112, 112, 111, 114, 116, 101, 100] : Array UInt8).contains 37 = true := by decide +kernel
theorem fmtE (w : World) : (FmtDoors.printed ⟨#[115, 109, 115, 58, 32, 97, 100, 100, 114, 101, 115, 115, 32, 37, 113, 32, 104, 97, 115, 32, 37, 100, 32, 100, 105, 103, 105, 116, 115, 44, 32, 97, 116, 32, 109, 111, 115, 116, 32, 37, 100, 32, 102, 105, 116]⟩ 3).run Tryf.prog w = .ok [(0, 113, false), (1, 100, false), (2, 100, false)] w := by kernel_rfl
theorem hasE : (#[115, 109, 115, 58, 32, 97, 100, 100, 114, 101, 115, 115, 32, 37, 113, 32, 104, 97, 115, 32, 37, 100, 32, 100, 105, 103, 105, 116, 115, 44, 32, 97, 116, 32, 109, 111, 115, 116, 32, 37, 100, 32, 102, 105, 116] : Array UInt8).contains 37 = true := by decide +kernel
theorem fmtF (w : World) : (FmtDoors.printed ⟨#[115, 109, 115, 58, 32, 97, 100, 100, 114, 101, 115, 115, 58, 32, 37, 119]⟩ 1).run Tryf.prog w = .ok [(0, 119, false)] w := by kernel_rfl
theorem hasF : (#[115, 109, 115, 58, 32, 97, 100, 100, 114, 101, 115, 115, 58, 32, 37, 119] : Array UInt8).contains 37 = true := by decide +kernel
theorem fmtG (w : World) : (FmtDoors.printed ⟨#[115, 109, 115, 58, 32, 97, 108, 112, 104, 97, 98, 101, 116, 32, 37, 100, 32, 105, 115, 32, 110, 111, 116, 32, 71, 83, 77, 32, 55, 45, 98, 105, 116, 32, 111, 114, 32, 85, 67, 83, 50]⟩ 1).run Tryf.prog w = .ok [(0, 100, false)] w := by kernel_rfl
theorem hasG : (#[115, 109, 115, 58, 32, 97, 108, 112, 104, 97, 98, 101, 116, 32, 37, 100, 32, 105, 115, 32, 110, 111, 116, 32, 71, 83, 77, 32, 55, 45, 98, 105, 116, 32, 111, 114, 32, 85, 67, 83, 50] : Array UInt8).contains 37 = true := by decide +kernel
theorem fmtH (w : World) : (FmtDoors.printed ⟨#[115, 109, 115, 58, 32, 37, 100, 32, 111, 99, 116, 101, 116, 115, 32, 111, 102, 32, 117, 115, 101, 114, 32, 100, 97, 116, 97, 44, 32, 97, 116, 32, 109, 111, 115, 116, 32, 37, 100, 32, 102, 105, 116]⟩ 2).run Tryf.prog w = .ok [(0, 100, false), (1, 100, false)] w := by kernel_rfl
theorem hasH : (#[115, 109, 115, 58, 32, 37, 100, 32, 111, 99, 116, 101, 116, 115, 32, 111, 102, 32, 117, 115, 101, 114, 32, 100, 97, 116, 97, 44, 32, 97, 116, 32, 109, 111, 115, 116, 32, 37, 100, 32, 102, 105, 116] : Array UInt8).contains 37 = true := by decide +kernel
def shape5 : List UInt8 := [6, 5, 0, 0, 0, 0, 0, 0, 0, 117, 105, 110, 116, 56]
def shape3 : List UInt8 := [5, 3, 0, 0, 0, 0, 0, 0, 0, 105, 110, 116]
def shape9 : List UInt8 := [12, 6, 0, 0, 0, 0, 0, 0, 0, 115, 116, 114, 105, 110, 103]
theorem op5_113 (name : String) (x : Int) (w : World) : (FmtStop.operand name true 113 false (.iface 5 (.int .u8 x))).run Tryf.prog w = .ok (shape5, Go.Extern.Stop.digits 8 (x % 2 ^ 64).toNat) w := by kernel_rfl
theorem op5_100 (name : String) (x : Int) (w : World) : (FmtStop.operand name true 100 false (.iface 5 (.int .u8 x))).run Tryf.prog w = .ok (shape5, Go.Extern.Stop.digits 8 (x % 2 ^ 64).toNat) w := by kernel_rfl
theorem op3_100 (name : String) (x : Int) (w : World) : (FmtStop.operand name true 100 false (.iface 3 (.int .i64 x))).run Tryf.prog w = .ok (shape3, Go.Extern.Stop.digits 8 (x % 2 ^ 64).toNat) w := by kernel_rfl
theorem op9_113 (name : String) (x : ByteArray) (w : World) : (FmtStop.operand name true 113 false (.iface 9 (.string x))).run Tryf.prog w = .ok (shape9, FmtStop.pack x.data.toList) w := by kernel_rfl

theorem op30_100 (name : String) (x : Int) (w : World) : ∃ sh : List UInt8, (FmtStop.operand name true 100 false (.iface 30 (.int .u8 x))).run Tryf.prog w = .ok (sh, Go.Extern.Stop.digits 8 (x % 2 ^ 64).toNat) w :=
  ⟨(match (FmtStop.shape name ["Format"] 8 30).run Tryf.prog w with | .ok s _ => s | _ => []), by kernel_rfl⟩
theorem ptr71 (w : World) : (FmtStop.ptrTo "errors.errorString").run Tryf.prog w = .ok 71 w := by kernel_rfl
theorem elem71 (w : World) : (elemOf 71).run Tryf.prog w = .ok 73 w := by kernel_rfl
theorem isError71 (w : World) : (FmtDoors.textMethod 71 "Error").run Tryf.prog w = .ok true w := by kernel_rfl
theorem ptr68 (w : World) : (FmtStop.ptrTo "fmt.wrapError").run Tryf.prog w = .ok 68 w := by kernel_rfl
theorem elem68 (w : World) : (elemOf 68).run Tryf.prog w = .ok 94 w := by kernel_rfl
theorem isError68 (w : World) : (FmtDoors.textMethod 68 "Error").run Tryf.prog w = .ok true w := by kernel_rfl
def star : String := String.singleton (Char.ofNat 42)
theorem opPlain71 (name : String) (a : Addr) (s : ByteArray) (w : World) (hc : w.cell? a = some (.string s)) :
    (FmtStop.operand name true 119 false (.iface 71 (.pointer (some a)))).run Tryf.prog w = .ok (14 :: FmtStop.pack (star ++ "errors.errorString").toUTF8.data.toList, s.data.toList) w := by
  have h1 : (typeStr 71).run Tryf.prog w = .ok (star ++ "errors.errorString") w := by kernel_rfl
  have d2 : Tryf.t71.desc = .pointer 73 := rfl
  have d3 : Tryf.t73.desc = .named "errors.errorString" 72 := rfl
  simp [FmtStop.operand, h1, d2, d3, run_load, hc]
theorem opPlain68 (name : String) (a : Addr) (s : ByteArray) (w : World) (hc : w.cell? a = some (.string s)) :
    (FmtStop.operand name true 119 false (.iface 68 (.pointer (some a)))).run Tryf.prog w = .ok (14 :: FmtStop.pack (star ++ "fmt.wrapError").toUTF8.data.toList, s.data.toList) w := by
  have h1 : (typeStr 68).run Tryf.prog w = .ok (star ++ "fmt.wrapError") w := by kernel_rfl
  have d2 : Tryf.t68.desc = .pointer 94 := rfl
  have d3 : Tryf.t94.desc = .named "fmt.wrapError" 93 := rfl
  simp [FmtStop.operand, h1, d2, d3, run_load, hc]

end Go.Proofs.Qxb6613194aFmt
