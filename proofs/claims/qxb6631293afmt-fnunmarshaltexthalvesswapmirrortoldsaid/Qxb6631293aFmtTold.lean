/-
  What a text argument's reading says; the closed facts of the cards.
-/
import Derived.Test.Qxb6631293aFmtSmall
import Derived.ProofKit
import Derived.OpenShut
import Derived.ChangeSlices
import Derived.Stop.JoinedAt
import Derived.Stop.Texts
import Derived.Stop.JoinedTold
import Derived.SizedLaws
import Derived.Lib.SmallJoins
namespace Go.Proofs.Qxb6631293aFmt
open Go.ChangeShapes Go.WideShapes Go.ChangeAt Go.RowKit Go.Kit Go.Joins
open Go.Extern.Stop Go.Stop Go.Extern

theorem Tryf.own : ownKnob Tryf.prog.godebug = none := by kernel_rfl
theorem Tryf.laidOut0 : laidOutB Tryf.prog = true := by kernel_rfl
theorem Tryf.cells5 : Tryf.prog.cellsOf 5 = 1 := by kernel_rfl

/-- A text that came in. -/
theorem open_txt {H : Type} {enc : TypeId × Value → H} {W : World} {v : Value} {d : DataW H} {ps : List MemPlace}
    (h : DataW.Trod enc Tryf.prog W 0 (fun _ => true) true 22 v d ps) (hv : ∃ a n cap, v = .slice a n cap) : ∃ (a : Option Addr) (n cap : Nat) (z : Nat → Int), v = .slice a n cap ∧ n ≤ cap ∧ Txt W a n cap z := by
  obtain ⟨a, n, cap, rfl⟩ := hv
  obtain ⟨fuel, hf⟩ := h
  rcases open_ints Tryf.underlying22 Tryf.underlying5 Tryf.cells5 hf with ⟨hcs, _⟩ | ⟨x, len, cap', zs, hcs, _, hl, hm, hz, _, hc, _⟩
  · simp [Value.cells] at hcs
    obtain ⟨rfl, rfl, rfl⟩ := hcs
    exact ⟨none, 0, 0, fun _ => 0, rfl, Nat.le_refl _, Or.inl ⟨rfl, rfl, rfl⟩⟩
  · simp [Value.cells] at hcs
    obtain ⟨rfl, rfl, rfl⟩ := hcs
    simp at hz
    exact ⟨some x, n, cap, fun j => zs.getD j 0, rfl, hl, Or.inr ⟨x, rfl, fun j hj => hc j (by omega)⟩⟩

theorem Tryf.laidOut : laidOutB Tryf.pinned.checked.prog = true := by kernel_rfl
theorem Tryf.stops : Tryf.pinned.checked.prog.stops = ["fmt.errorf"] := by kernel_rfl
theorem Tryf.stopKnobs : Tryf.pinned.checked.prog.stopKnobs = [] := by kernel_rfl
theorem Tryf.quiet (os : Os) : Stop.quiet Tryf.pinned.checked.prog os := by
  intro k hk
  rw [Tryf.stopKnobs] at hk
  cases hk
end Go.Proofs.Qxb6631293aFmt
