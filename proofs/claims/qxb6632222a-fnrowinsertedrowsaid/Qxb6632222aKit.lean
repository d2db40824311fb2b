/-
  Strings in memory, rows of strings in memory.
-/
import Derived.Test.Qxb6632222aRows
import Derived.WalkKit
import Derived.WalkSpells
import Derived.Deep.DeepMust
import Derived.BigQuiet
import Derived.Deep.QuietTactic
import Derived.Deep.CutRange
namespace Go.Proofs.Qxb6632222a
open Go.RowKit
set_option linter.unusedSimpArgs false

/-- A slice of strings: its address, length, room; where it lies; its strings. -/
structure Sl where
  a : Option Addr
  n : Nat
  cap : Nat
  b : Nat
  off : Nat
  s : Nat → ByteArray
/-- The slice's value. -/
def Sl.v (x : Sl) : Value := .slice x.a x.n x.cap
/-- Its strings lie there. -/
structure Sl.Lies (x : Sl) (w : World) : Prop where
  here : ∀ j, j < x.n → x.a = some ⟨x.b, x.off, none⟩
  cell : ∀ j, j < x.n → w.cell? ⟨x.b, x.off + j, none⟩ = some (.string (x.s j))
  max : x.n ≤ maxLen
/-- A slice of such slices. -/
structure Tb where
  a : Option Addr
  n : Nat
  cap : Nat
  b : Nat
  off : Nat
  r : Nat → Sl
def Tb.v (x : Tb) : Value := .slice x.a x.n x.cap
structure Tb.Lies (x : Tb) (w : World) : Prop where
  here : ∀ j, j < x.n → x.a = some ⟨x.b, x.off, none⟩
  cell : ∀ j, j < x.n → w.cell? ⟨x.b, x.off + j, none⟩ = some (x.r j).v
  row : ∀ j, j < x.n → (x.r j).Lies w
  max : x.n ≤ maxLen

/-- Some bool. -/
def AnsB (e : Ending) : Prop := ∃ r, e = .returned (.bool r)
theorem AnsB.mk (r : Bool) : AnsB (.returned (.bool r)) := ⟨r, rfl⟩
/-- Some bool; where it is false, n is small. -/
def AnsN (n : Nat) (e : Ending) : Prop := ∃ r, e = .returned (.bool r) ∧ (r = false → n ≤ 1048576)
theorem AnsN.yes (n : Nat) : AnsN n (.returned (.bool true)) := ⟨true, rfl, fun h => by cases h⟩
theorem AnsN.no {n : Nat} (h : n ≤ 1048576) : AnsN n (.returned (.bool false)) := ⟨false, rfl, fun _ => h⟩
end Go.Proofs.Qxb6632222a
