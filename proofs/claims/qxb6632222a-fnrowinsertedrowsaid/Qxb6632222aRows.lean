/-
  No cell of these rows narrows 'for every input' (looked for: loops, veiled, ifaces, maps, wideKeys, modest, calm, conditions, laid).
  DERIVED. THE GIVEN ROWS OF THIS SEAT. 2 by the template 'for every input the law returns true; each argument reads behind the call as it read before'; 0 by the template 'total and deterministic' (their statements: Qxb6632222aTotals.lean).
  GIVEN WITH THE SEED: the statements are not yours to turn. If you find one false, say at which input.
  Laid BY PROGRAM, IN A SANDBOX (cutbox-rows.mjs): the forced cells as the released guide's own fill.sh prints them over the translation 52452e1785379ce3… (all of the seat's roots in one cut). By AI agents, Wed Nov 11 2026. No macro, syntax, notation, axiom, sorry.
-/
import Derived.Test.Qxb6632222aChecked
import GoSem.Claim
import GoSem.ClaimJoined
import GoSem.ClaimMapViews
import Derived.JoinedTies
import Derived.KernelRfl
namespace Go.Proofs.Qxb6632222a
/- THE CELL 'sum', in the pinned program and in every row, IS THE sha256 OF THE DUMP (.gsa) THAT Qxb6632222aProg.lean LOADS. Nothing in Lean hashes anything: it is a label: what it is worth is what the hold of that sum in a sandbox is worth. -/
noncomputable def Try.pinned : Pinned := { name := "qxb6632222a", sum := "52452e1785379ce3fd7bbf74a4744b8f64d458b143466c9624c3adee4cc2da0f", checked := Try.checked }
namespace Rows
def none {H : Type} : Left H := { results := [], args := [] }

/-- 'zzlaws_internal_page_pagetest_b1.FnRowSplitsAtAnyCut': WHATEVER THE INPUT: true; the input reads as it did. -/
def fnRowSplitsAtAnyCutSpec : ChangeSpec := { name := "fnRowSplitsAtAnyCut", fn := fun _ => fun
  | [d1, d2, d3, d4, d5, d6, d7, d8, d9] => { results := [.lit (.bool true)], args := [d1, d2, d3, d4, d5, d6, d7, d8, d9] }
  | _ => none }
def fnRowSplitsAtAnyCutRow : OpenClaim := { program := "qxb6632222a", sum := "52452e1785379ce3fd7bbf74a4744b8f64d458b143466c9624c3adee4cc2da0f", func := "example.com/tickwright/tickwright/zzlaws_internal_page_pagetest_b1.FnRowSplitsAtAnyCut", spec := "fnRowSplitsAtAnyCut", apart := false }
def FnRowSplitsAtAnyCutSaid : Prop := fnRowSplitsAtAnyCutRow.holds Try.pinned (OpenSpec.ofChange fnRowSplitsAtAnyCutSpec)

/-- ITS FALSE NEIGHBOUR: 'it returns false'. Refute it at one input. -/
def fnRowSplitsAtAnyCutWrong : ChangeSpec := { name := "fnRowSplitsAtAnyCut", fn := fun _ => fun
  | [d1, d2, d3, d4, d5, d6, d7, d8, d9] => { results := [.lit (.bool false)], args := [d1, d2, d3, d4, d5, d6, d7, d8, d9] }
  | _ => none }
def FnRowSplitsAtAnyCutWrongFalsely : Prop := fnRowSplitsAtAnyCutRow.holds Try.pinned (OpenSpec.ofChange fnRowSplitsAtAnyCutWrong)

/-- 'zzlaws_internal_page_pagetest_b1.FnRowInsertedRow': WHATEVER THE INPUT: true; the input reads as it did. -/
def fnRowInsertedRowSpec : ChangeSpec := { name := "fnRowInsertedRow", fn := fun _ => fun
  | [d1, d2, d3, d4, d5, d6, d7, d8, d9, d10] => { results := [.lit (.bool true)], args := [d1, d2, d3, d4, d5, d6, d7, d8, d9, d10] }
  | _ => none }
def fnRowInsertedRowRow : OpenClaim := { program := "qxb6632222a", sum := "52452e1785379ce3fd7bbf74a4744b8f64d458b143466c9624c3adee4cc2da0f", func := "example.com/tickwright/tickwright/zzlaws_internal_page_pagetest_b1.FnRowInsertedRow", spec := "fnRowInsertedRow", apart := false }
def FnRowInsertedRowSaid : Prop := fnRowInsertedRowRow.holds Try.pinned (OpenSpec.ofChange fnRowInsertedRowSpec)

/-- ITS FALSE NEIGHBOUR: 'it returns false'. Refute it at one input. -/
def fnRowInsertedRowWrong : ChangeSpec := { name := "fnRowInsertedRow", fn := fun _ => fun
  | [d1, d2, d3, d4, d5, d6, d7, d8, d9, d10] => { results := [.lit (.bool false)], args := [d1, d2, d3, d4, d5, d6, d7, d8, d9, d10] }
  | _ => none }
def FnRowInsertedRowWrongFalsely : Prop := fnRowInsertedRowRow.holds Try.pinned (OpenSpec.ofChange fnRowInsertedRowWrong)

end Rows
end Go.Proofs.Qxb6632222a
