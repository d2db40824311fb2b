/-
  DERIVED. GIVEN WITH THE SEED: THE CARDS: each row of Qxb6631249aFmtRows.lean that lists a variable, with what it lists TIED to the program's text (the seventh form; the later family's looks); each row that meets fmt, with fmt's text TOLD by the authors' own Lean function (tested against real Go, not proved from fmt's source: count such statements apart). THE CARD IS WHAT COUNTS. Prove the row's statement (the work); the ties are given (Qxb6631249aFmtTie.lean); close each card by the builder's one call (the guide's Derived/Test/ToyasCard.lean, 'card_holds'). Laid BY PROGRAM, IN A SANDBOX (cutbox-door.mjs). By AI agents, Wed Nov 11 2026. No macro, syntax, notation, axiom, sorry.
-/
import Derived.Test.Qxb6631249aFmtRows
import GoSem.ClaimSeven
namespace Go.Proofs.Qxb6631249aFmt
namespace Rows

/-- THE TOLD CARD OF 'zzlaws_internal_budget_b1.FnHoldScriptMatchesModel'. -/
def fnHoldScriptMatchesModelCard : Claim7 := { stood := { row := fnHoldScriptMatchesModelRow, standIns := [], harness := (true, "67e9c3e43e2cf7cbd0172c59c9c6564628fe9c90bae5a67c95ecd6a04b364918"), looks := false }, told := true, goes := false }
def FnHoldScriptMatchesModelToldSaid : Prop := Claim7.holds Tryf.pinned (.plain (OpenSpec.ofChange fnHoldScriptMatchesModelSpec)) fnHoldScriptMatchesModelCard
/-- ITS FALSE NEIGHBOUR. Refute it at one input. -/
def FnHoldScriptMatchesModelToldWrongFalsely : Prop := Claim7.holds Tryf.pinned (.plain (OpenSpec.ofChange fnHoldScriptMatchesModelWrong)) fnHoldScriptMatchesModelCard

/-- THE TOLD CARD OF 'zzlaws_internal_budget_b1.FnHoldSwapUndoes'. -/
def fnHoldSwapUndoesCard : Claim7 := { stood := { row := fnHoldSwapUndoesRow, standIns := [], harness := (true, "67e9c3e43e2cf7cbd0172c59c9c6564628fe9c90bae5a67c95ecd6a04b364918"), looks := false }, told := true, goes := false }
def FnHoldSwapUndoesToldSaid : Prop := Claim7.holds Tryf.pinned (.plain (OpenSpec.ofChange fnHoldSwapUndoesSpec)) fnHoldSwapUndoesCard
/-- ITS FALSE NEIGHBOUR. Refute it at one input. -/
def FnHoldSwapUndoesToldWrongFalsely : Prop := Claim7.holds Tryf.pinned (.plain (OpenSpec.ofChange fnHoldSwapUndoesWrong)) fnHoldSwapUndoesCard
end Rows
end Go.Proofs.Qxb6631249aFmt
