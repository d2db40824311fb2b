/-
  The closed facts for a walk over fmt.Sprintf's stop in this dump (after the guide's LabelFmt.lean): each by the kernel's own evaluation.
-/
import Derived.Test.Qxb6631249aFmtProg
import Derived.Stop.CallBack
import Derived.Stop.IfaceNil
import GoSem.ClaimData
namespace Go.Proofs
open Go.Extern.Stop Go.Stop Go.Extern

theorem Tryf.call23 (args : Array Value) (w : World) : (callFunc 23 args).run Tryf.prog w = ((FmtStop.sprintf #[9, 64] #[9] args).run Tryf.prog w).andThen fun v w' => .ok (.value v) w' :=
  run_callFunc_extern Tryf.func23 (by kernel_rfl) (by kernel_rfl) (by kernel_rfl) (by kernel_rfl) args w
theorem Tryf.guard (name : String) (w : World) : (FmtStop.guard name).run Tryf.prog w = .ok () w := by kernel_rfl
theorem Tryf.fmt1 : FmtStop.printed? ⟨#[115, 101, 116, 116, 105, 110, 103, 115, 32, 119, 104, 111, 115, 101, 32, 112, 97, 116, 104, 115, 32, 104, 111, 108, 100, 32, 109, 111, 114, 101, 32, 116, 104, 97, 110, 32, 37, 100, 32, 98, 121, 116, 101, 115]⟩ 1 = some [(0, 100, false)] := by kernel_rfl
theorem Tryf.fmt1r (w : World) : (FmtDoors.printed ⟨#[115, 101, 116, 116, 105, 110, 103, 115, 32, 119, 104, 111, 115, 101, 32, 112, 97, 116, 104, 115, 32, 104, 111, 108, 100, 32, 109, 111, 114, 101, 32, 116, 104, 97, 110, 32, 37, 100, 32, 98, 121, 116, 101, 115]⟩ 1).run Tryf.prog w = .ok [(0, 100, false)] w := by kernel_rfl
theorem Tryf.fmt2 : FmtStop.printed? ⟨#[109, 111, 114, 101, 32, 116, 104, 97, 110, 32, 37, 100, 32, 37, 115]⟩ 2 = some [(0, 100, false), (1, 115, false)] := by kernel_rfl
theorem Tryf.fmt2r (w : World) : (FmtDoors.printed ⟨#[109, 111, 114, 101, 32, 116, 104, 97, 110, 32, 37, 100, 32, 37, 115]⟩ 2).run Tryf.prog w = .ok [(0, 100, false), (1, 115, false)] w := by kernel_rfl
def Tryf.shape3 : List UInt8 := [5, 3, 0, 0, 0, 0, 0, 0, 0, 105, 110, 116]
theorem Tryf.op3_100 (name : String) (x : Int) (w : World) : (FmtStop.operand name false 100 false (.iface 3 (.int .i64 x))).run Tryf.prog w = .ok (Tryf.shape3, Go.Extern.Stop.digits 8 (x % 2 ^ 64).toNat) w := by kernel_rfl
def Tryf.shape9 : List UInt8 := [12, 6, 0, 0, 0, 0, 0, 0, 0, 115, 116, 114, 105, 110, 103]
theorem Tryf.op9_115 (name : String) (x : ByteArray) (w : World) : (FmtStop.operand name false 115 false (.iface 9 (.string x))).run Tryf.prog w = .ok (Tryf.shape9, FmtStop.pack x.data.toList) w := by kernel_rfl

/-- What fmt is asked. -/
def Tryf.read1 (n : Int) : List (List UInt8) := [[115, 101, 116, 116, 105, 110, 103, 115, 32, 119, 104, 111, 115, 101, 32, 112, 97, 116, 104, 115, 32, 104, 111, 108, 100, 32, 109, 111, 114, 101, 32, 116, 104, 97, 110, 32, 37, 100, 32, 98, 121, 116, 101, 115], Tryf.shape3, Go.Extern.Stop.digits 8 (n % 18446744073709551616).toNat]
def Tryf.read2 (n : Int) (u : List UInt8) : List (List UInt8) := [[109, 111, 114, 101, 32, 116, 104, 97, 110, 32, 37, 100, 32, 37, 115], Tryf.shape3, Go.Extern.Stop.digits 8 (n % 18446744073709551616).toNat, Tryf.shape9, FmtStop.pack u]
end Go.Proofs
