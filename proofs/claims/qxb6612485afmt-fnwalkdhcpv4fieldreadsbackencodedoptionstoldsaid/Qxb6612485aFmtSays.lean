import Derived.Test.Qxb6612485aFmtRows
import Derived.Stop.CallBack
import Derived.Stop.IfaceNil
import GoSem.ClaimData
import Derived.WalkKit
import Derived.WalkSpells
namespace Go.Proofs
open Go.Extern.Stop Go.Stop Go.Extern

/-! ### THE CLOSED FACTS FOR THE WALK OVER fmt.errorf's STOP, at this dump (function 14) -/
@[go_sem] theorem Tryf.call14 (args : Array Value) (w : World) : (callFunc 14 args).run Tryf.prog w = ((FmtStop.errorf #[9, 38] #[27] args).run Tryf.prog w).andThen fun v w' => .ok (.value v) w' :=
  run_callFunc_extern Tryf.func14 (by kernel_rfl) (by kernel_rfl) (by kernel_rfl) (by kernel_rfl) args w
@[go_sem] theorem Tryf.guard (name : String) (w : World) : (FmtStop.guard name).run Tryf.prog w = .ok () w := by kernel_rfl
@[go_sem] theorem Tryf.fmtA3 : FmtStop.printed? ⟨#[100, 104, 99, 112, 118, 52, 32, 109, 101, 115, 115, 97, 103, 101, 58, 32, 111, 112, 116, 105, 111, 110, 32, 37, 100, 32, 97, 116, 32, 111, 102, 102, 115, 101, 116, 32, 37, 100, 32, 104, 97, 115, 32, 110, 111, 32, 108, 101, 110, 103, 116, 104, 32, 111, 99, 116, 101, 116, 32, 98, 101, 102, 111, 114, 101, 32, 116, 104, 101, 32, 101, 110, 100, 32, 111, 102, 32, 116, 104, 101, 32, 37, 115, 32, 102, 105, 101, 108, 100]⟩ 3 = some [(0, 100, false), (1, 100, false), (2, 115, false)] := by kernel_rfl
@[go_sem] theorem Tryf.fmtA3r (w : World) : (FmtDoors.printed ⟨#[100, 104, 99, 112, 118, 52, 32, 109, 101, 115, 115, 97, 103, 101, 58, 32, 111, 112, 116, 105, 111, 110, 32, 37, 100, 32, 97, 116, 32, 111, 102, 102, 115, 101, 116, 32, 37, 100, 32, 104, 97, 115, 32, 110, 111, 32, 108, 101, 110, 103, 116, 104, 32, 111, 99, 116, 101, 116, 32, 98, 101, 102, 111, 114, 101, 32, 116, 104, 101, 32, 101, 110, 100, 32, 111, 102, 32, 116, 104, 101, 32, 37, 115, 32, 102, 105, 101, 108, 100]⟩ 3).run Tryf.prog w = .ok [(0, 100, false), (1, 100, false), (2, 115, false)] w := by kernel_rfl
@[go_sem] theorem Tryf.fmtA0 : FmtStop.printed? ⟨#[100, 104, 99, 112, 118, 52, 32, 109, 101, 115, 115, 97, 103, 101, 58, 32, 111, 112, 116, 105, 111, 110, 32, 37, 100, 32, 97, 116, 32, 111, 102, 102, 115, 101, 116, 32, 37, 100, 32, 104, 97, 115, 32, 110, 111, 32, 108, 101, 110, 103, 116, 104, 32, 111, 99, 116, 101, 116, 32, 98, 101, 102, 111, 114, 101, 32, 116, 104, 101, 32, 101, 110, 100, 32, 111, 102, 32, 116, 104, 101, 32, 37, 115, 32, 102, 105, 101, 108, 100]⟩ 0 = some [] := by kernel_rfl
@[go_sem] theorem Tryf.fmtA0r (w : World) : (FmtDoors.printed ⟨#[100, 104, 99, 112, 118, 52, 32, 109, 101, 115, 115, 97, 103, 101, 58, 32, 111, 112, 116, 105, 111, 110, 32, 37, 100, 32, 97, 116, 32, 111, 102, 102, 115, 101, 116, 32, 37, 100, 32, 104, 97, 115, 32, 110, 111, 32, 108, 101, 110, 103, 116, 104, 32, 111, 99, 116, 101, 116, 32, 98, 101, 102, 111, 114, 101, 32, 116, 104, 101, 32, 101, 110, 100, 32, 111, 102, 32, 116, 104, 101, 32, 37, 115, 32, 102, 105, 101, 108, 100]⟩ 0).run Tryf.prog w = .ok [] w := by kernel_rfl
@[go_sem] theorem Tryf.fmtB4 : FmtStop.printed? ⟨#[100, 104, 99, 112, 118, 52, 32, 109, 101, 115, 115, 97, 103, 101, 58, 32, 111, 112, 116, 105, 111, 110, 32, 37, 100, 32, 97, 116, 32, 111, 102, 102, 115, 101, 116, 32, 37, 100, 32, 104, 97, 115, 32, 108, 101, 110, 103, 116, 104, 32, 37, 100, 44, 32, 119, 104, 105, 99, 104, 32, 114, 117, 110, 115, 32, 112, 97, 115, 116, 32, 116, 104, 101, 32, 101, 110, 100, 32, 111, 102, 32, 116, 104, 101, 32, 37, 115, 32, 102, 105, 101, 108, 100]⟩ 4 = some [(0, 100, false), (1, 100, false), (2, 100, false), (3, 115, false)] := by kernel_rfl
@[go_sem] theorem Tryf.fmtB4r (w : World) : (FmtDoors.printed ⟨#[100, 104, 99, 112, 118, 52, 32, 109, 101, 115, 115, 97, 103, 101, 58, 32, 111, 112, 116, 105, 111, 110, 32, 37, 100, 32, 97, 116, 32, 111, 102, 102, 115, 101, 116, 32, 37, 100, 32, 104, 97, 115, 32, 108, 101, 110, 103, 116, 104, 32, 37, 100, 44, 32, 119, 104, 105, 99, 104, 32, 114, 117, 110, 115, 32, 112, 97, 115, 116, 32, 116, 104, 101, 32, 101, 110, 100, 32, 111, 102, 32, 116, 104, 101, 32, 37, 115, 32, 102, 105, 101, 108, 100]⟩ 4).run Tryf.prog w = .ok [(0, 100, false), (1, 100, false), (2, 100, false), (3, 115, false)] w := by kernel_rfl
@[go_sem] theorem Tryf.fmtB0 : FmtStop.printed? ⟨#[100, 104, 99, 112, 118, 52, 32, 109, 101, 115, 115, 97, 103, 101, 58, 32, 111, 112, 116, 105, 111, 110, 32, 37, 100, 32, 97, 116, 32, 111, 102, 102, 115, 101, 116, 32, 37, 100, 32, 104, 97, 115, 32, 108, 101, 110, 103, 116, 104, 32, 37, 100, 44, 32, 119, 104, 105, 99, 104, 32, 114, 117, 110, 115, 32, 112, 97, 115, 116, 32, 116, 104, 101, 32, 101, 110, 100, 32, 111, 102, 32, 116, 104, 101, 32, 37, 115, 32, 102, 105, 101, 108, 100]⟩ 0 = some [] := by kernel_rfl
@[go_sem] theorem Tryf.fmtB0r (w : World) : (FmtDoors.printed ⟨#[100, 104, 99, 112, 118, 52, 32, 109, 101, 115, 115, 97, 103, 101, 58, 32, 111, 112, 116, 105, 111, 110, 32, 37, 100, 32, 97, 116, 32, 111, 102, 102, 115, 101, 116, 32, 37, 100, 32, 104, 97, 115, 32, 108, 101, 110, 103, 116, 104, 32, 37, 100, 44, 32, 119, 104, 105, 99, 104, 32, 114, 117, 110, 115, 32, 112, 97, 115, 116, 32, 116, 104, 101, 32, 101, 110, 100, 32, 111, 102, 32, 116, 104, 101, 32, 37, 115, 32, 102, 105, 101, 108, 100]⟩ 0).run Tryf.prog w = .ok [] w := by kernel_rfl
def Tryf.shape9 : List UInt8 := [12, 6, 0, 0, 0, 0, 0, 0, 0, 115, 116, 114, 105, 110, 103]
def Tryf.shape3 : List UInt8 := [5, 3, 0, 0, 0, 0, 0, 0, 0, 105, 110, 116]
def Tryf.shape5 : List UInt8 := [6, 5, 0, 0, 0, 0, 0, 0, 0, 117, 105, 110, 116, 56]
@[go_sem] theorem Tryf.op9_100 (name : String) (x : ByteArray) (w : World) : (FmtStop.operand name false 100 false (.iface 9 (.string x))).run Tryf.prog w = .ok (Tryf.shape9, FmtStop.pack x.data.toList) w := by kernel_rfl
@[go_sem] theorem Tryf.op3_100 (name : String) (x : Int) (w : World) : (FmtStop.operand name false 100 false (.iface 3 (.int .i64 x))).run Tryf.prog w = .ok (Tryf.shape3, Go.Extern.Stop.digits 8 (x % 2 ^ 64).toNat) w := by kernel_rfl
@[go_sem] theorem Tryf.op5_100 (name : String) (x : Int) (w : World) : (FmtStop.operand name false 100 false (.iface 5 (.int .u8 x))).run Tryf.prog w = .ok (Tryf.shape5, Go.Extern.Stop.digits 8 (x % 2 ^ 64).toNat) w := by kernel_rfl
@[go_sem] theorem Tryf.op9_115 (name : String) (x : ByteArray) (w : World) : (FmtStop.operand name false 115 false (.iface 9 (.string x))).run Tryf.prog w = .ok (Tryf.shape9, FmtStop.pack x.data.toList) w := by kernel_rfl
@[go_sem] theorem Tryf.op3_115 (name : String) (x : Int) (w : World) : (FmtStop.operand name false 115 false (.iface 3 (.int .i64 x))).run Tryf.prog w = .ok (Tryf.shape3, Go.Extern.Stop.digits 8 (x % 2 ^ 64).toNat) w := by kernel_rfl
@[go_sem] theorem Tryf.op5_115 (name : String) (x : Int) (w : World) : (FmtStop.operand name false 115 false (.iface 5 (.int .u8 x))).run Tryf.prog w = .ok (Tryf.shape5, Go.Extern.Stop.digits 8 (x % 2 ^ 64).toNat) w := by kernel_rfl
@[go_sem] theorem Tryf.op9_118 (name : String) (x : ByteArray) (w : World) : (FmtStop.operand name false 118 false (.iface 9 (.string x))).run Tryf.prog w = .ok (Tryf.shape9, FmtStop.pack x.data.toList) w := by kernel_rfl
@[go_sem] theorem Tryf.op3_118 (name : String) (x : Int) (w : World) : (FmtStop.operand name false 118 false (.iface 3 (.int .i64 x))).run Tryf.prog w = .ok (Tryf.shape3, Go.Extern.Stop.digits 8 (x % 2 ^ 64).toNat) w := by kernel_rfl
@[go_sem] theorem Tryf.op5_118 (name : String) (x : Int) (w : World) : (FmtStop.operand name false 118 false (.iface 5 (.int .u8 x))).run Tryf.prog w = .ok (Tryf.shape5, Go.Extern.Stop.digits 8 (x % 2 ^ 64).toNat) w := by kernel_rfl
@[go_sem] theorem Tryf.op9_100w (name : String) (x : ByteArray) (w : World) : (FmtStop.operand name true 100 false (.iface 9 (.string x))).run Tryf.prog w = .ok (Tryf.shape9, FmtStop.pack x.data.toList) w := by kernel_rfl
@[go_sem] theorem Tryf.op3_100w (name : String) (x : Int) (w : World) : (FmtStop.operand name true 100 false (.iface 3 (.int .i64 x))).run Tryf.prog w = .ok (Tryf.shape3, Go.Extern.Stop.digits 8 (x % 2 ^ 64).toNat) w := by kernel_rfl
@[go_sem] theorem Tryf.op5_100w (name : String) (x : Int) (w : World) : (FmtStop.operand name true 100 false (.iface 5 (.int .u8 x))).run Tryf.prog w = .ok (Tryf.shape5, Go.Extern.Stop.digits 8 (x % 2 ^ 64).toNat) w := by kernel_rfl
@[go_sem] theorem Tryf.op9_115w (name : String) (x : ByteArray) (w : World) : (FmtStop.operand name true 115 false (.iface 9 (.string x))).run Tryf.prog w = .ok (Tryf.shape9, FmtStop.pack x.data.toList) w := by kernel_rfl
@[go_sem] theorem Tryf.op3_115w (name : String) (x : Int) (w : World) : (FmtStop.operand name true 115 false (.iface 3 (.int .i64 x))).run Tryf.prog w = .ok (Tryf.shape3, Go.Extern.Stop.digits 8 (x % 2 ^ 64).toNat) w := by kernel_rfl
@[go_sem] theorem Tryf.op5_115w (name : String) (x : Int) (w : World) : (FmtStop.operand name true 115 false (.iface 5 (.int .u8 x))).run Tryf.prog w = .ok (Tryf.shape5, Go.Extern.Stop.digits 8 (x % 2 ^ 64).toNat) w := by kernel_rfl
@[go_sem] theorem Tryf.op9_118w (name : String) (x : ByteArray) (w : World) : (FmtStop.operand name true 118 false (.iface 9 (.string x))).run Tryf.prog w = .ok (Tryf.shape9, FmtStop.pack x.data.toList) w := by kernel_rfl
@[go_sem] theorem Tryf.op3_118w (name : String) (x : Int) (w : World) : (FmtStop.operand name true 118 false (.iface 3 (.int .i64 x))).run Tryf.prog w = .ok (Tryf.shape3, Go.Extern.Stop.digits 8 (x % 2 ^ 64).toNat) w := by kernel_rfl
@[go_sem] theorem Tryf.op5_118w (name : String) (x : Int) (w : World) : (FmtStop.operand name true 118 false (.iface 5 (.int .u8 x))).run Tryf.prog w = .ok (Tryf.shape5, Go.Extern.Stop.digits 8 (x % 2 ^ 64).toNat) w := by kernel_rfl
@[go_sem] theorem Tryf.strict9 (name : String) (x : ByteArray) (w : World) : (FmtStop.strict name (.iface 9 (.string x))).run Tryf.prog w = .ok (Tryf.shape9, FmtStop.pack x.data.toList) w := by kernel_rfl
@[go_sem] theorem Tryf.strict3 (name : String) (x : Int) (w : World) : (FmtStop.strict name (.iface 3 (.int .i64 x))).run Tryf.prog w = .ok (Tryf.shape3, Go.Extern.Stop.digits 8 (x % 2 ^ 64).toNat) w := by kernel_rfl
@[go_sem] theorem Tryf.strict5 (name : String) (x : Int) (w : World) : (FmtStop.strict name (.iface 5 (.int .u8 x))).run Tryf.prog w = .ok (Tryf.shape5, Go.Extern.Stop.digits 8 (x % 2 ^ 64).toNat) w := by kernel_rfl
@[go_sem] theorem Tryf.ptr41 (w : World) : (FmtStop.ptrTo "errors.errorString").run Tryf.prog w = .ok 41 w := by kernel_rfl
@[go_sem] theorem Tryf.elem41 (w : World) : (elemOf 41).run Tryf.prog w = .ok 43 w := by kernel_rfl
@[go_sem] theorem Tryf.isError41' (w : World) : (FmtDoors.textMethod 41 "Error").run Tryf.prog w = .ok true w := by kernel_rfl
@[go_sem] theorem Tryf.ptr40 (w : World) : (FmtStop.ptrTo "fmt.wrapError").run Tryf.prog w = .ok 40 w := by kernel_rfl
@[go_sem] theorem Tryf.elem40 (w : World) : (elemOf 40).run Tryf.prog w = .ok 61 w := by kernel_rfl
@[go_sem] theorem Tryf.isError40' (w : World) : (FmtDoors.textMethod 40 "Error").run Tryf.prog w = .ok true w := by kernel_rfl
namespace Qxb6612485aFmt
open Go.RowKit

set_option maxRecDepth 100000 in
set_option maxHeartbeats 1000000 in
/-- fmt.Errorf at the first format: a new error, whatever its text. -/
theorem errorf_A (F : Interp) (c i : Int) (s : ByteArray) (blk : Nat) (w : World) (hF : F.answers w.tape)
    (hc0 : w.cell? ⟨blk, 0, none⟩ = some (.iface 5 (.int .u8 c))) (hc1 : w.cell? ⟨blk, 1, none⟩ = some (.iface 3 (.int .i64 i))) (hc2 : w.cell? ⟨blk, 2, none⟩ = some (.iface 9 (.string s))) :
    Calls Tryf.prog 13 #[.string ⟨#[100, 104, 99, 112, 118, 52, 32, 109, 101, 115, 115, 97, 103, 101, 58, 32, 111, 112, 116, 105, 111, 110, 32, 37, 100, 32, 97, 116, 32, 111, 102, 102, 115, 101, 116, 32, 37, 100, 32, 104, 97, 115, 32, 110, 111, 32, 108, 101, 110, 103, 116, 104, 32, 111, 99, 116, 101, 116, 32, 98, 101, 102, 111, 114, 101, 32, 116, 104, 101, 32, 101, 110, 100, 32, 111, 102, 32, 116, 104, 101, 32, 37, 115, 32, 102, 105, 101, 108, 100]⟩, .slice (some ⟨blk, 0, none⟩) 3 3] w fun e w' =>
      e = .returned (.iface 41 (.pointer (some ⟨w.heap.size, 0, none⟩))) ∧ Below w.heap.size w w' := by
  have hF' := answers_open hF
  go_enter Tryf.func13, Tryf.ntmps13
  go_wp2
  go_ret
  exact ⟨rfl, ((Below.refl _ _).alloc (Nat.le_refl _) _).drew⟩

set_option maxRecDepth 100000 in
set_option maxHeartbeats 1000000 in
/-- fmt.Errorf at the second format. -/
theorem errorf_B (F : Interp) (c i n : Int) (s : ByteArray) (blk : Nat) (w : World) (hF : F.answers w.tape)
    (hc0 : w.cell? ⟨blk, 0, none⟩ = some (.iface 5 (.int .u8 c))) (hc1 : w.cell? ⟨blk, 1, none⟩ = some (.iface 3 (.int .i64 i))) (hc2 : w.cell? ⟨blk, 2, none⟩ = some (.iface 3 (.int .i64 n))) (hc3 : w.cell? ⟨blk, 3, none⟩ = some (.iface 9 (.string s))) :
    Calls Tryf.prog 13 #[.string ⟨#[100, 104, 99, 112, 118, 52, 32, 109, 101, 115, 115, 97, 103, 101, 58, 32, 111, 112, 116, 105, 111, 110, 32, 37, 100, 32, 97, 116, 32, 111, 102, 102, 115, 101, 116, 32, 37, 100, 32, 104, 97, 115, 32, 108, 101, 110, 103, 116, 104, 32, 37, 100, 44, 32, 119, 104, 105, 99, 104, 32, 114, 117, 110, 115, 32, 112, 97, 115, 116, 32, 116, 104, 101, 32, 101, 110, 100, 32, 111, 102, 32, 116, 104, 101, 32, 37, 115, 32, 102, 105, 101, 108, 100]⟩, .slice (some ⟨blk, 0, none⟩) 4 4] w fun e w' =>
      e = .returned (.iface 41 (.pointer (some ⟨w.heap.size, 0, none⟩))) ∧ Below w.heap.size w w' := by
  have hF' := answers_open hF
  go_enter Tryf.func13, Tryf.ntmps13
  go_wp2
  go_ret
  exact ⟨rfl, ((Below.refl _ _).alloc (Nat.le_refl _) _).drew⟩
end Qxb6612485aFmt
end Go.Proofs
