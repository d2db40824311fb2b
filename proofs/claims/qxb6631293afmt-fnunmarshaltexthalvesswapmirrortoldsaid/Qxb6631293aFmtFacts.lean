/-
  The closed facts for a walk over fmt.errorf's stop in this dump (after the guide's CheckFmt.lean and TagSlice.lean): each by the kernel's own evaluation.
-/
import Derived.Test.Qxb6631293aFmtProg
import Derived.Stop.CallBack
import Derived.Stop.IfaceNil
import Derived.Laws.Cells
import Derived.Stop.FmtTextSlices
import GoSem.ClaimData
namespace Go.Proofs
open Go.Extern.Stop Go.Stop Go.Extern

theorem Tryf.call16 (args : Array Value) (w : World) : (callFunc 16 args).run Tryf.prog w = ((FmtStop.errorf #[9, 38] #[29] args).run Tryf.prog w).andThen fun v w' => .ok (.value v) w' :=
  run_callFunc_extern Tryf.func16 (by kernel_rfl) (by kernel_rfl) (by kernel_rfl) (by kernel_rfl) args w
theorem Tryf.guard (name : String) (w : World) : (FmtStop.guard name).run Tryf.prog w = .ok () w := by kernel_rfl
theorem Tryf.fmt1 : FmtStop.printed? ⟨#[37, 113, 32, 105, 115, 32, 110, 111, 116, 32, 97, 32, 119, 105, 110, 100, 111, 119, 32, 111, 102, 32, 116, 104, 101, 32, 102, 111, 114, 109, 32, 72, 72, 58, 77, 77, 45, 72, 72, 58, 77, 77, 44, 32, 115, 117, 99, 104, 32, 97, 115, 32, 48, 57, 58, 48, 48, 45, 49, 55, 58, 48, 48]⟩ 1 = some [(0, 113, false)] := by kernel_rfl
theorem Tryf.fmt1r (w : World) : (FmtDoors.printed ⟨#[37, 113, 32, 105, 115, 32, 110, 111, 116, 32, 97, 32, 119, 105, 110, 100, 111, 119, 32, 111, 102, 32, 116, 104, 101, 32, 102, 111, 114, 109, 32, 72, 72, 58, 77, 77, 45, 72, 72, 58, 77, 77, 44, 32, 115, 117, 99, 104, 32, 97, 115, 32, 48, 57, 58, 48, 48, 45, 49, 55, 58, 48, 48]⟩ 1).run Tryf.prog w = .ok [(0, 113, false)] w := by kernel_rfl
theorem Tryf.ptr42 (w : World) : (FmtStop.ptrTo "errors.errorString").run Tryf.prog w = .ok 42 w := by kernel_rfl
theorem Tryf.elem42 (w : World) : (elemOf 42).run Tryf.prog w = .ok 44 w := by kernel_rfl

/-- The shape of a slice of uint8. -/
def Tryf.shape22 : List UInt8 := 13 :: (FmtStop.pack "[]uint8".toUTF8.data.toList ++ 6 :: FmtStop.pack "uint8".toUTF8.data.toList)

theorem Tryf.value5 (name : String) (x : Int) (w : World) : (FmtStop.value name FmtStop.depth 5 [.int .u8 x]).run Tryf.prog w = .ok (digits 8 (x % 2 ^ 64).toNat) w := by kernel_rfl

theorem Tryf.values5 (name : String) (w : World) : ∀ xs : List Int, (List.mapM ((fun c => FmtStop.value name FmtStop.depth 5 [c]) ∘ Value.int IntKind.u8) xs).run Tryf.prog w = .ok (xs.map fun x => digits 8 (x % 18446744073709551616).toNat) w
  | [] => by simp [List.mapM_nil]
  | x :: xs => by
    have ih := Tryf.values5 name w xs
    have h := Tryf.value5 name x w
    simp [List.mapM_cons, h, ih, Result.andThen]

theorem Tryf.opBytes (name : String) (a : Addr) (cap : Nat) (xs : List Int) (w : World) (hc : ∀ j v, (xs.map (Value.int .u8))[j]? = some v → w.cell? (a.add j) = some v) :
    (FmtStop.operand name true 113 false (.iface 22 (.slice (some a) xs.length cap))).run Tryf.prog w = .ok (Tryf.shape22, 1 :: (digits 8 xs.length ++ FmtText.intValues xs)) w := by
  have h1 : (typeStr 22).run Tryf.prog w = .ok "[]uint8" w := by kernel_rfl
  have d2 : Tryf.t22.desc = .slice 5 := rfl
  have hb : (FmtStop.bare (FmtStop.asked true 113 false) 22).run Tryf.prog w = .ok true w := by kernel_rfl
  have hs : (FmtStop.scalar 5).run Tryf.prog w = .ok true w := by kernel_rfl
  have hy : (Extern.Stop.isByte 5).run Tryf.prog w = .ok true w := by kernel_rfl
  have hw : Tryf.prog.funcs.any (·.name == FmtStop.writeWord) = true := by kernel_rfl
  have hsh : (FmtStop.shape name (FmtStop.asked true 113 false) FmtStop.depth 5).run Tryf.prog w = .ok (6 :: FmtStop.pack "uint8".toUTF8.data.toList) w := by kernel_rfl
  have hl := run_loadCells_list (P := Tryf.prog) w a (xs.map (Value.int .u8)) hc
  rw [List.length_map] at hl
  simp [FmtStop.operand, h1, hb, hs, hy, hsh, hl, Tryf.values5, Tryf.shape22, FmtText.intValues]
  intro hno
  obtain ⟨i, hi, _, _, he⟩ := Array.any_iff_exists.1 hw
  exact absurd (by simpa using he) (hno i hi)

theorem Tryf.opNil (name : String) (w : World) : (FmtStop.operand name true 113 false (.iface 22 (.slice none 0 0))).run Tryf.prog w = .ok (Tryf.shape22, [0]) w := by kernel_rfl
end Go.Proofs
