/-
  fmt.Errorf at this program's one format: a new error that is not nil.
-/
import Derived.Test.Qxb6631293aFmtFacts
import Derived.Test.Qxb6631293aFmtRows
import Derived.WalkKit
import Derived.WalkSpells
import Derived.Deep.DeepMust
namespace Go.Proofs.Qxb6631293aFmt
open Go.RowKit Go.Extern.Stop Go.Stop Go.Extern
set_option linter.unusedSimpArgs false
attribute [local go_sem] Tryf.call16 Tryf.guard Tryf.fmt1 Tryf.fmt1r Tryf.ptr42 Tryf.elem42

def form : ByteArray := ⟨#[37, 113, 32, 105, 115, 32, 110, 111, 116, 32, 97, 32, 119, 105, 110, 100, 111, 119, 32, 111, 102, 32, 116, 104, 101, 32, 102, 111, 114, 109, 32, 72, 72, 58, 77, 77, 45, 72, 72, 58, 77, 77, 44, 32, 115, 117, 99, 104, 32, 97, 115, 32, 48, 57, 58, 48, 48, 45, 49, 55, 58, 48, 48]⟩

/-- Refused: a new error. -/
def IsErr (e : Ending) : Prop := ∃ a, e = .returned (.iface 42 (.pointer (some a)))

theorem errorfC (F : Interp) (v : Value) (r : List UInt8 × List UInt8) (b : Nat) (w : World) (hF : F.answers w.tape)
    (hb : w.heap[b]? = some (.cells #[.iface 22 v] 20)) (ho' : (FmtStop.operand "fmt.errorf" true 113 false (.iface 22 v)).run Tryf.prog w = .ok r w) :
    Calls Tryf.prog 14 #[.string form, .slice (some ⟨b, 0, none⟩) 1 1] w fun e w' => IsErr e ∧ Below w.heap.size w w' := by
  have hF' := answers_open hF
  have hc : w.cell? ⟨b, 0, none⟩ = some (.iface 22 v) := by simp [World.cell?, hb]
  unfold form
  go_enter Tryf.func14, Tryf.ntmps14
  go_wp2
  exact bodyPost_ret (v := .iface 42 (.pointer (some ⟨w.heap.size, 0, none⟩))) (by simp [results, Tryf.results14, go_sem]) rfl ⟨⟨_, rfl⟩, ((Below.refl _ _).alloc (Nat.le_refl _) _).drew⟩

/-- A text as it came in: nil, or n bytes that lie somewhere. -/
def Txt (w : World) (a : Option Addr) (n cap : Nat) (z : Nat → Int) : Prop :=
  (a = none ∧ n = 0 ∧ cap = 0) ∨ ∃ x : Addr, a = some x ∧ ∀ j, j < n → w.cell? (x.add j) = some (.int .u8 (z j))

theorem Txt.operand {w : World} {a : Option Addr} {n cap : Nat} {z : Nat → Int} (h : Txt w a n cap z) : ∃ r, (FmtStop.operand "fmt.errorf" true 113 false (.iface 22 (.slice a n cap))).run Tryf.prog w = .ok r w := by
  rcases h with ⟨rfl, rfl, rfl⟩ | ⟨x, rfl, hc⟩
  · exact ⟨_, Tryf.opNil _ _⟩
  · have := Tryf.opBytes "fmt.errorf" x cap ((List.range n).map z) w (fun j v hv => by
      have hj : j < n := by have := (List.getElem?_eq_some_iff.1 hv).1; simpa using this
      have e : v = .int .u8 (z j) := by simp [hj] at hv; exact hv.symm
      rw [e]; exact hc j hj)
    rw [List.length_map, List.length_range] at this
    exact ⟨_, this⟩
end Go.Proofs.Qxb6631293aFmt
