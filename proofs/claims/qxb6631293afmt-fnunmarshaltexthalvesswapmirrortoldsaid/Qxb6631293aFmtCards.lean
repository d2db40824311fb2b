/-
  DERIVED. GIVEN WITH THE SEED: THE CARDS: each row of Qxb6631293aFmtRows.lean that lists a variable, with what it lists TIED to the program's text (the seventh form; the later family's looks); each row that meets fmt, with fmt's text TOLD by the authors' own Lean function (tested against real Go, not proved from fmt's source: count such statements apart). THE CARD IS WHAT COUNTS. Prove the row's statement (the work); the ties are given (Qxb6631293aFmtTie.lean); close each card by the builder's one call (the guide's Derived/Test/ToyasCard.lean, 'card_holds'). Laid BY PROGRAM, IN A SANDBOX (cutbox-door.mjs). By AI agents, Wed Nov 11 2026. No macro, syntax, notation, axiom, sorry.
-/
import Derived.Test.Qxb6631293aFmtRows
import GoSem.ClaimSeven
namespace Go.Proofs.Qxb6631293aFmt
namespace Rows

/-- THE TOLD CARD OF 'zzlaws_policy_b1.FnUnmarshalTextMatchesClockSearch'. -/
def fnUnmarshalTextMatchesClockSearchCard : Claim7 := { stood := { row := fnUnmarshalTextMatchesClockSearchRow, standIns := [], harness := (true, "98462f63f6ff3e517558af912d277ec5c48f152baf7121543c42b526b6b56393"), looks := false }, told := true, goes := false }
def FnUnmarshalTextMatchesClockSearchToldSaid : Prop := Claim7.holds Tryf.pinned (.plain (OpenSpec.ofChange fnUnmarshalTextMatchesClockSearchSpec)) fnUnmarshalTextMatchesClockSearchCard
/-- ITS FALSE NEIGHBOUR. Refute it at one input. -/
def FnUnmarshalTextMatchesClockSearchToldWrongFalsely : Prop := Claim7.holds Tryf.pinned (.plain (OpenSpec.ofChange fnUnmarshalTextMatchesClockSearchWrong)) fnUnmarshalTextMatchesClockSearchCard

/-- THE TOLD CARD OF 'zzlaws_policy_b1.FnUnmarshalTextHalvesSwapMirror'. -/
def fnUnmarshalTextHalvesSwapMirrorCard : Claim7 := { stood := { row := fnUnmarshalTextHalvesSwapMirrorRow, standIns := [], harness := (true, "98462f63f6ff3e517558af912d277ec5c48f152baf7121543c42b526b6b56393"), looks := false }, told := true, goes := false }
def FnUnmarshalTextHalvesSwapMirrorToldSaid : Prop := Claim7.holds Tryf.pinned (.plain (OpenSpec.ofChange fnUnmarshalTextHalvesSwapMirrorSpec)) fnUnmarshalTextHalvesSwapMirrorCard
/-- ITS FALSE NEIGHBOUR. Refute it at one input. -/
def FnUnmarshalTextHalvesSwapMirrorToldWrongFalsely : Prop := Claim7.holds Tryf.pinned (.plain (OpenSpec.ofChange fnUnmarshalTextHalvesSwapMirrorWrong)) fnUnmarshalTextHalvesSwapMirrorCard
end Rows
end Go.Proofs.Qxb6631293aFmt
