/-
  (Limit).Passed: the bound's text, whatever fmt's texts are.
-/
import Derived.Test.Qxb6631249aFmtSmall
namespace Go.Proofs.Qxb6631249aFmt
open Go.RowKit Go.Extern.Stop Go.Stop Go.Extern
set_option linter.unusedSimpArgs false
attribute [local go_sem] Tryf.call23 Tryf.guard Tryf.fmt1 Tryf.fmt1r Tryf.fmt2 Tryf.fmt2r Tryf.op3_100 Tryf.op9_115

def txt1 (F : Interp) (n : Int) : ByteArray := FmtStop.textOf (F "fmt.Sprintf" (Tryf.read1 n) 0)
def txt2 (F : Interp) (n : Int) (unit : ByteArray) : ByteArray := FmtStop.textOf (F "fmt.Sprintf" (Tryf.read2 n unit.data.toList) 0)
/-- What Passed gives. -/
def passed (F : Interp) (unit : ByteArray) (l h : Wt) : ByteArray := if l.u < h.u then txt2 F l.u unit else if l.p < h.p then txt1 F l.p else ByteArray.empty

set_option maxHeartbeats 1000000 in
theorem passedC (F : Interp) (unit : ByteArray) (l : Wt) (b : Int) (h : Wt) (w : World) (hF : F.answers w.tape) :
    Calls Tryf.prog 18 #[.agg (limA unit l b), .agg h.a] w fun e w' => e = .returned (.string (passed F unit l h)) ∧ Below w.heap.size w w' := by
  have hF' := answers_open hF
  obtain ⟨u, s, p⟩ := h
  obtain ⟨lu, ls, lp⟩ := l
  by_cases h1 : lu < u
  · have e : passed F unit ⟨lu, ls, lp⟩ ⟨u, s, p⟩ = FmtStop.textOf (F "fmt.Sprintf" (Tryf.read2 lu unit.data.toList) 0) := by simp [passed, h1, txt2]
    rw [e]
    show Calls Tryf.prog 18 #[.agg #[.string unit, .int .i64 lu, .int .i64 ls, .int .i64 lp, .int .i64 b], .agg #[.int .i64 u, .int .i64 s, .int .i64 p]] w _
    go_enter Tryf.func18, Tryf.ntmps18
    go_wp2
    go_ret
    exact ⟨rfl, by repeat (first | exact Below.refl _ _ | apply Below.drew | refine Below.alloc ?_ (by first | omega | (simp only [World.size_alloc]; omega)) _)⟩
  · by_cases h2 : lp < p
    · have e : passed F unit ⟨lu, ls, lp⟩ ⟨u, s, p⟩ = FmtStop.textOf (F "fmt.Sprintf" (Tryf.read1 lp) 0) := by simp [passed, h1, h2, txt1]
      rw [e]
      show Calls Tryf.prog 18 #[.agg #[.string unit, .int .i64 lu, .int .i64 ls, .int .i64 lp, .int .i64 b], .agg #[.int .i64 u, .int .i64 s, .int .i64 p]] w _
      go_enter Tryf.func18, Tryf.ntmps18
      go_wp2
      go_ret
      exact ⟨rfl, by repeat (first | exact Below.refl _ _ | apply Below.drew | refine Below.alloc ?_ (by first | omega | (simp only [World.size_alloc]; omega)) _)⟩
    · have e : passed F unit ⟨lu, ls, lp⟩ ⟨u, s, p⟩ = ByteArray.empty := by simp [passed, h1, h2]
      rw [e]
      show Calls Tryf.prog 18 #[.agg #[.string unit, .int .i64 lu, .int .i64 ls, .int .i64 lp, .int .i64 b], .agg #[.int .i64 u, .int .i64 s, .int .i64 p]] w _
      go_enter Tryf.func18, Tryf.ntmps18
      go_wp2
      go_ret
      exact ⟨rfl, by repeat (first | exact Below.refl _ _ | apply Below.drew | refine Below.alloc ?_ (by first | omega | (simp only [World.size_alloc]; omega)) _)⟩
end Go.Proofs.Qxb6631249aFmt
