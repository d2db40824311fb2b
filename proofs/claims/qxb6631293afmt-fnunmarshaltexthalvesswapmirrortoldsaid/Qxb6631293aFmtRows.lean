/-
  No cell of these rows narrows 'for every input' (looked for: loops, veiled, ifaces, maps, wideKeys, modest, calm, conditions, laid).
  DERIVED. THE GIVEN ROWS OF THIS SEAT. 2 by the template 'for every input the law returns true; each argument reads behind the call as it read before'; 0 by the template 'total and deterministic' (their statements: Qxb6631293aFmtTotals.lean).
  GIVEN WITH THE SEED: the statements are not yours to turn. If you find one false, say at which input.
  Laid BY PROGRAM, IN A SANDBOX (cutbox-rows.mjs): the forced cells as the released guide's own fill.sh prints them over the translation a54bf01625f798be… (all of the seat's roots in one cut). By AI agents, Wed Nov 11 2026. No macro, syntax, notation, axiom, sorry.
-/
import Derived.Test.Qxb6631293aFmtChecked
import GoSem.Claim
import GoSem.ClaimJoined
import GoSem.ClaimMapViews
import Derived.JoinedTies
import Derived.KernelRfl
namespace Go.Proofs.Qxb6631293aFmt
/- THE CELL 'sum', in the pinned program and in every row, IS THE sha256 OF THE DUMP (.gsa) THAT Qxb6631293aFmtProg.lean LOADS. Nothing in Lean hashes anything: it is a label: what it is worth is what the hold of that sum in a sandbox is worth. -/
noncomputable def Tryf.pinned : Pinned := { name := "qxb6631293afmt", sum := "a54bf01625f798bebbac2ffb0452be97d34e829603225c68f7711a981d8beb81", checked := Tryf.checked }
namespace Rows
def none {H : Type} : Left H := { results := [], args := [] }

/-- 'zzlaws_policy_b1.FnUnmarshalTextMatchesClockSearch': WHATEVER THE INPUT: true; the input reads as it did. -/
def fnUnmarshalTextMatchesClockSearchSpec : ChangeSpec := { name := "fnUnmarshalTextMatchesClockSearch", fn := fun _ => fun
  | [d1, d2, d3] => { results := [.lit (.bool true)], args := [d1, d2, d3] }
  | _ => none }
def fnUnmarshalTextMatchesClockSearchRow : OpenClaim := { program := "qxb6631293afmt", sum := "a54bf01625f798bebbac2ffb0452be97d34e829603225c68f7711a981d8beb81", func := "example.com/iron-gate/iron-gate/zzlaws_policy_b1.FnUnmarshalTextMatchesClockSearch", spec := "fnUnmarshalTextMatchesClockSearch", stops := ["fmt.errorf"], inPlace := ["fmt.errorf"], apart := false }
/-- NO THEOREM (fmt's text is open here; it may be false): for the released tool's asking of the row's closed facts alone. THE STATEMENT IS 'FnUnmarshalTextMatchesClockSearchToldSaid' (Qxb6631293aFmtCards.lean). -/
def FnUnmarshalTextMatchesClockSearchFormAsk : Prop := fnUnmarshalTextMatchesClockSearchRow.holds Tryf.pinned (OpenSpec.ofChange fnUnmarshalTextMatchesClockSearchSpec)

/-- ITS FALSE NEIGHBOUR: 'it returns false'. Refute it at one input. -/
def fnUnmarshalTextMatchesClockSearchWrong : ChangeSpec := { name := "fnUnmarshalTextMatchesClockSearch", fn := fun _ => fun
  | [d1, d2, d3] => { results := [.lit (.bool false)], args := [d1, d2, d3] }
  | _ => none }
def FnUnmarshalTextMatchesClockSearchWrongFormAsk : Prop := fnUnmarshalTextMatchesClockSearchRow.holds Tryf.pinned (OpenSpec.ofChange fnUnmarshalTextMatchesClockSearchWrong)

/-- 'zzlaws_policy_b1.FnUnmarshalTextHalvesSwapMirror': WHATEVER THE INPUT: true; the input reads as it did. -/
def fnUnmarshalTextHalvesSwapMirrorSpec : ChangeSpec := { name := "fnUnmarshalTextHalvesSwapMirror", fn := fun _ => fun
  | [d1, d2, d3] => { results := [.lit (.bool true)], args := [d1, d2, d3] }
  | _ => none }
def fnUnmarshalTextHalvesSwapMirrorRow : OpenClaim := { program := "qxb6631293afmt", sum := "a54bf01625f798bebbac2ffb0452be97d34e829603225c68f7711a981d8beb81", func := "example.com/iron-gate/iron-gate/zzlaws_policy_b1.FnUnmarshalTextHalvesSwapMirror", spec := "fnUnmarshalTextHalvesSwapMirror", stops := ["fmt.errorf"], inPlace := ["fmt.errorf"], apart := false }
/-- NO THEOREM (fmt's text is open here; it may be false): for the released tool's asking of the row's closed facts alone. THE STATEMENT IS 'FnUnmarshalTextHalvesSwapMirrorToldSaid' (Qxb6631293aFmtCards.lean). -/
def FnUnmarshalTextHalvesSwapMirrorFormAsk : Prop := fnUnmarshalTextHalvesSwapMirrorRow.holds Tryf.pinned (OpenSpec.ofChange fnUnmarshalTextHalvesSwapMirrorSpec)

/-- ITS FALSE NEIGHBOUR: 'it returns false'. Refute it at one input. -/
def fnUnmarshalTextHalvesSwapMirrorWrong : ChangeSpec := { name := "fnUnmarshalTextHalvesSwapMirror", fn := fun _ => fun
  | [d1, d2, d3] => { results := [.lit (.bool false)], args := [d1, d2, d3] }
  | _ => none }
def FnUnmarshalTextHalvesSwapMirrorWrongFormAsk : Prop := fnUnmarshalTextHalvesSwapMirrorRow.holds Tryf.pinned (OpenSpec.ofChange fnUnmarshalTextHalvesSwapMirrorWrong)

end Rows
end Go.Proofs.Qxb6631293aFmt
