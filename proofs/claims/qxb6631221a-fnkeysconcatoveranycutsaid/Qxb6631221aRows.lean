/-
  No cell of these rows narrows 'for every input' (looked for: loops, veiled, ifaces, maps, wideKeys, modest, calm, conditions, laid).
  DERIVED. THE GIVEN ROWS OF THIS SEAT. 2 by the template 'for every input the law returns true; each argument reads behind the call as it read before'; 0 by the template 'total and deterministic' (their statements: Qxb6631221aTotals.lean).
  GIVEN WITH THE SEED: the statements are not yours to turn. If you find one false, say at which input.
  Laid BY PROGRAM, IN A SANDBOX (cutbox-rows.mjs): the forced cells as the released guide's own fill.sh prints them over the translation 1b6d319d728db23e… (all of the seat's roots in one cut). By AI agents, Wed Nov 11 2026. No macro, syntax, notation, axiom, sorry.
-/
import Derived.Test.Qxb6631221aChecked
import GoSem.Claim
import GoSem.ClaimJoined
import GoSem.ClaimMapViews
import Derived.JoinedTies
import Derived.KernelRfl
namespace Go.Proofs.Qxb6631221a
/- THE CELL 'sum', in the pinned program and in every row, IS THE sha256 OF THE DUMP (.gsa) THAT Qxb6631221aProg.lean LOADS. Nothing in Lean hashes anything: it is a label: what it is worth is what the hold of that sum in a sandbox is worth. -/
noncomputable def Try.pinned : Pinned := { name := "qxb6631221a", sum := "1b6d319d728db23e45180e5d3fb43d3b21b4e9eb58fa707506a819199290a6f5", checked := Try.checked }
namespace Rows
def none {H : Type} : Left H := { results := [], args := [] }

/-- 'zzlaws_root_b1.FnKeysConcatOverAnyCut': WHATEVER THE INPUT: true; the input reads as it did. -/
def fnKeysConcatOverAnyCutSpec : ChangeSpec := { name := "fnKeysConcatOverAnyCut", fn := fun _ => fun
  | [d1, d2] => { results := [.lit (.bool true)], args := [d1, d2] }
  | _ => none }
def fnKeysConcatOverAnyCutRow : OpenClaim := { program := "qxb6631221a", sum := "1b6d319d728db23e45180e5d3fb43d3b21b4e9eb58fa707506a819199290a6f5", func := "example.com/sealwright/sealwright/zzlaws_root_b1.FnKeysConcatOverAnyCut", spec := "fnKeysConcatOverAnyCut", inPlace := ["(*sync.RWMutex).RLock", "internal/race.Read", "internal/race.Disable", "sync/atomic.AddInt32", "sync.runtime_SemacquireRWMutexR", "internal/race.Enable", "internal/race.Acquire", "(*sync.RWMutex).RUnlock", "internal/race.ReleaseMerge", "(*sync.RWMutex).rUnlockSlow", "sync.fatal", "sync.runtime_Semrelease"], apart := false }
def FnKeysConcatOverAnyCutSaid : Prop := fnKeysConcatOverAnyCutRow.holds Try.pinned (OpenSpec.ofChange fnKeysConcatOverAnyCutSpec)

/-- ITS FALSE NEIGHBOUR: 'it returns false'. Refute it at one input. -/
def fnKeysConcatOverAnyCutWrong : ChangeSpec := { name := "fnKeysConcatOverAnyCut", fn := fun _ => fun
  | [d1, d2] => { results := [.lit (.bool false)], args := [d1, d2] }
  | _ => none }
def FnKeysConcatOverAnyCutWrongFalsely : Prop := fnKeysConcatOverAnyCutRow.holds Try.pinned (OpenSpec.ofChange fnKeysConcatOverAnyCutWrong)

/-- 'zzlaws_root_b1.FnKeysReturnsAPrivateCopy': WHATEVER THE INPUT: true; the input reads as it did. -/
def fnKeysReturnsAPrivateCopySpec : ChangeSpec := { name := "fnKeysReturnsAPrivateCopy", fn := fun _ => fun
  | [d] => { results := [.lit (.bool true)], args := [d] }
  | _ => none }
def fnKeysReturnsAPrivateCopyRow : OpenClaim := { program := "qxb6631221a", sum := "1b6d319d728db23e45180e5d3fb43d3b21b4e9eb58fa707506a819199290a6f5", func := "example.com/sealwright/sealwright/zzlaws_root_b1.FnKeysReturnsAPrivateCopy", spec := "fnKeysReturnsAPrivateCopy", inPlace := ["(*sync.RWMutex).RLock", "internal/race.Read", "internal/race.Disable", "sync/atomic.AddInt32", "sync.runtime_SemacquireRWMutexR", "internal/race.Enable", "internal/race.Acquire", "(*sync.RWMutex).RUnlock", "internal/race.ReleaseMerge", "(*sync.RWMutex).rUnlockSlow", "sync.fatal", "sync.runtime_Semrelease"], apart := false }
def FnKeysReturnsAPrivateCopySaid : Prop := fnKeysReturnsAPrivateCopyRow.holds Try.pinned (OpenSpec.ofChange fnKeysReturnsAPrivateCopySpec)

/-- ITS FALSE NEIGHBOUR: 'it returns false'. Refute it at one input. -/
def fnKeysReturnsAPrivateCopyWrong : ChangeSpec := { name := "fnKeysReturnsAPrivateCopy", fn := fun _ => fun
  | [d] => { results := [.lit (.bool false)], args := [d] }
  | _ => none }
def FnKeysReturnsAPrivateCopyWrongFalsely : Prop := fnKeysReturnsAPrivateCopyRow.holds Try.pinned (OpenSpec.ofChange fnKeysReturnsAPrivateCopyWrong)

end Rows
end Go.Proofs.Qxb6631221a
