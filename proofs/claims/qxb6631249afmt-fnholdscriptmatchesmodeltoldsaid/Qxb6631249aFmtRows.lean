/-
  No cell of these rows narrows 'for every input' (looked for: loops, veiled, ifaces, maps, wideKeys, modest, calm, conditions, laid).
  DERIVED. THE GIVEN ROWS OF THIS SEAT. 2 by the template 'for every input the law returns true; each argument reads behind the call as it read before'; 0 by the template 'total and deterministic' (their statements: Qxb6631249aFmtTotals.lean).
  GIVEN WITH THE SEED: the statements are not yours to turn. If you find one false, say at which input.
  Laid BY PROGRAM, IN A SANDBOX (cutbox-rows.mjs): the forced cells as the released guide's own fill.sh prints them over the translation 9ce87e52b637b9f6… (all of the seat's roots in one cut). By AI agents, Wed Nov 11 2026. No macro, syntax, notation, axiom, sorry.
-/
import Derived.Test.Qxb6631249aFmtChecked
import GoSem.Claim
import GoSem.ClaimJoined
import GoSem.ClaimMapViews
import Derived.JoinedTies
import Derived.KernelRfl
namespace Go.Proofs.Qxb6631249aFmt
/- THE CELL 'sum', in the pinned program and in every row, IS THE sha256 OF THE DUMP (.gsa) THAT Qxb6631249aFmtProg.lean LOADS. Nothing in Lean hashes anything: it is a label: what it is worth is what the hold of that sum in a sandbox is worth. -/
noncomputable def Tryf.pinned : Pinned := { name := "qxb6631249afmt", sum := "9ce87e52b637b9f685d9f0497ac4fcced03c2eaa9ea788dc9d40215b08b726d4", checked := Tryf.checked }
namespace Rows
def none {H : Type} : Left H := { results := [], args := [] }

/-- 'zzlaws_internal_budget_b1.FnHoldScriptMatchesModel': WHATEVER THE INPUT: true; the input reads as it did. -/
def fnHoldScriptMatchesModelSpec : ChangeSpec := { name := "fnHoldScriptMatchesModel", fn := fun _ => fun
  | [d1, d2, d3, d4, d5, d6, d7, d8, d9] => { results := [.lit (.bool true)], args := [d1, d2, d3, d4, d5, d6, d7, d8, d9] }
  | _ => none }
def fnHoldScriptMatchesModelRow : OpenClaim := { program := "qxb6631249afmt", sum := "9ce87e52b637b9f685d9f0497ac4fcced03c2eaa9ea788dc9d40215b08b726d4", func := "example.com/keilaniemi/keilaniemi/zzlaws_internal_budget_b1.FnHoldScriptMatchesModel", spec := "fnHoldScriptMatchesModel", stops := ["fmt.Sprintf"], inPlace := ["fmt.Sprintf"], apart := false }
/-- NO THEOREM (fmt's text is open here; it may be false): for the released tool's asking of the row's closed facts alone. THE STATEMENT IS 'FnHoldScriptMatchesModelToldSaid' (Qxb6631249aFmtCards.lean). -/
def FnHoldScriptMatchesModelFormAsk : Prop := fnHoldScriptMatchesModelRow.holds Tryf.pinned (OpenSpec.ofChange fnHoldScriptMatchesModelSpec)

/-- ITS FALSE NEIGHBOUR: 'it returns false'. Refute it at one input. -/
def fnHoldScriptMatchesModelWrong : ChangeSpec := { name := "fnHoldScriptMatchesModel", fn := fun _ => fun
  | [d1, d2, d3, d4, d5, d6, d7, d8, d9] => { results := [.lit (.bool false)], args := [d1, d2, d3, d4, d5, d6, d7, d8, d9] }
  | _ => none }
def FnHoldScriptMatchesModelWrongFormAsk : Prop := fnHoldScriptMatchesModelRow.holds Tryf.pinned (OpenSpec.ofChange fnHoldScriptMatchesModelWrong)

/-- 'zzlaws_internal_budget_b1.FnHoldSwapUndoes': WHATEVER THE INPUT: true; the input reads as it did. -/
def fnHoldSwapUndoesSpec : ChangeSpec := { name := "fnHoldSwapUndoes", fn := fun _ => fun
  | [d1, d2, d3, d4, d5, d6, d7] => { results := [.lit (.bool true)], args := [d1, d2, d3, d4, d5, d6, d7] }
  | _ => none }
def fnHoldSwapUndoesRow : OpenClaim := { program := "qxb6631249afmt", sum := "9ce87e52b637b9f685d9f0497ac4fcced03c2eaa9ea788dc9d40215b08b726d4", func := "example.com/keilaniemi/keilaniemi/zzlaws_internal_budget_b1.FnHoldSwapUndoes", spec := "fnHoldSwapUndoes", stops := ["fmt.Sprintf"], inPlace := ["fmt.Sprintf"], apart := false }
/-- NO THEOREM (fmt's text is open here; it may be false): for the released tool's asking of the row's closed facts alone. THE STATEMENT IS 'FnHoldSwapUndoesToldSaid' (Qxb6631249aFmtCards.lean). -/
def FnHoldSwapUndoesFormAsk : Prop := fnHoldSwapUndoesRow.holds Tryf.pinned (OpenSpec.ofChange fnHoldSwapUndoesSpec)

/-- ITS FALSE NEIGHBOUR: 'it returns false'. Refute it at one input. -/
def fnHoldSwapUndoesWrong : ChangeSpec := { name := "fnHoldSwapUndoes", fn := fun _ => fun
  | [d1, d2, d3, d4, d5, d6, d7] => { results := [.lit (.bool false)], args := [d1, d2, d3, d4, d5, d6, d7] }
  | _ => none }
def FnHoldSwapUndoesWrongFormAsk : Prop := fnHoldSwapUndoesRow.holds Tryf.pinned (OpenSpec.ofChange fnHoldSwapUndoesWrong)

end Rows
end Go.Proofs.Qxb6631249aFmt
