/-
  The numbers under which this dump holds sync.RWMutex's reader's functions and types, and that it holds them (after the guide's RwboxLocks.lean; the writer's side is not in this cut: its numbers are 0).
-/
import Derived.Test.Qxb6631221aProg
import Derived.Conc.RwLib
import Derived.KernelRfl
namespace Go.Proofs
abbrev Try.rwLink : Go.Conc.Locks.RwLink := { lock := 0, unlock := 0, ilock := 0, iunlock := 0, lockSlow := 0, unlockSlow := 0, disable := 17, enable := 20, acquire := 21, relMerge := 22, cas32 := 0, add32 := 24, tMutex := 53, tIMutex := 51, tPMutex := 66, tPIMutex := 0, tPI32 := 73, tUP := 65, tNoCopy := 48, tU32 := 49, rlock := 12, runlock := 13, wlock := 0, wunlock := 0, i32add := 18, raceRead := 16, release := 0, rUnlockSlow := 23, semacqR := 19, semacqW := 0, semrel := 26, sfatal := 25, tRW := 58, tPRW := 63, tAI32 := 56, tPAI32 := 71, tPU32 := 69, tANoCopy := 54 }
theorem Try.rwCore : Go.Conc.Locks.RwCore Try.prog Try.rwLink :=
  ⟨Try.func18, Try.func16, Try.func17, Try.func20, Try.func21, Try.func22, Try.func24, Try.underlying58, Try.runUnderlying58, Try.sizeOf58, Try.isAgg58, Try.zeroValue58, Try.underlying56, Try.runUnderlying56, Try.sizeOf56, Try.isAgg56, Try.zeroValue56, Try.underlying63, Try.runUnderlying63, Try.sizeOf63, Try.isAgg63, Try.zeroValue63, Try.underlying71, Try.runUnderlying71, Try.sizeOf71, Try.isAgg71, Try.zeroValue71, Try.underlying69, Try.runUnderlying69, Try.sizeOf69, Try.isAgg69, Try.zeroValue69, Try.underlying54, Try.runUnderlying54, Try.sizeOf54, Try.isAgg54, Try.zeroValue54, Try.underlying49, Try.runUnderlying49, Try.sizeOf49, Try.isAgg49, Try.zeroValue49, Try.underlying53, Try.runUnderlying53, Try.sizeOf53, Try.isAgg53, Try.zeroValue53, Try.underlying66, Try.runUnderlying66, Try.sizeOf66, Try.isAgg66, Try.zeroValue66, Try.underlying73, Try.runUnderlying73, Try.sizeOf73, Try.isAgg73, Try.zeroValue73, Try.underlying65, Try.runUnderlying65, Try.sizeOf65, Try.isAgg65, Try.zeroValue65, Try.underlying21, Try.runUnderlying21, Try.sizeOf21, Try.isAgg21, Try.zeroValue21, (by kernel_rfl), (by kernel_rfl)⟩
theorem Try.rwRLib : Go.Conc.Locks.RwRLib Try.prog Try.rwLink := ⟨Try.rwCore, Try.func12, Try.func13⟩
end Go.Proofs
