/-
  The numbers under which this program's translation holds the functions and types of sync.RWMutex (its reader's side), and that it holds them (Derived/Conc/RwLib.lean), after the guide's Derived/Test/RwboxLocks.lean, turned to this program by hand (the guide's tool for it does not lie in this box). The writer's side is not in the cut: its numbers are 0 and are not used.
-/
import Derived.Test.YbulkarpyRows
import Derived.Conc.RwLib
import Derived.KernelRfl
namespace Go.Proofs.Ybulkarpy
abbrev rwLink : Go.Conc.Locks.RwLink := { lock := 0, unlock := 0, ilock := 0, iunlock := 0, lockSlow := 0, unlockSlow := 0, disable := 11, enable := 14, acquire := 15, relMerge := 16, cas32 := 0, add32 := 18, tMutex := 45, tIMutex := 43, tPMutex := 66, tPIMutex := 0, tPI32 := 74, tUP := 65, tNoCopy := 41, tU32 := 24, rlock := 6, runlock := 7, wlock := 0, wunlock := 0, i32add := 12, raceRead := 10, release := 0, rUnlockSlow := 17, semacqR := 13, semacqW := 0, semrel := 20, sfatal := 19, tRW := 49, tPRW := 63, tAI32 := 47, tPAI32 := 72, tPU32 := 69, tANoCopy := 35 }
theorem rwCore : Go.Conc.Locks.RwCore Yba.prog rwLink :=
  ⟨Yba.func12, Yba.func10, Yba.func11, Yba.func14, Yba.func15, Yba.func16, Yba.func18, Yba.underlying49, Yba.runUnderlying49, Yba.sizeOf49, Yba.isAgg49, Yba.zeroValue49, Yba.underlying47, Yba.runUnderlying47, Yba.sizeOf47, Yba.isAgg47, Yba.zeroValue47, Yba.underlying63, Yba.runUnderlying63, Yba.sizeOf63, Yba.isAgg63, Yba.zeroValue63, Yba.underlying72, Yba.runUnderlying72, Yba.sizeOf72, Yba.isAgg72, Yba.zeroValue72, Yba.underlying69, Yba.runUnderlying69, Yba.sizeOf69, Yba.isAgg69, Yba.zeroValue69, Yba.underlying35, Yba.runUnderlying35, Yba.sizeOf35, Yba.isAgg35, Yba.zeroValue35, Yba.underlying24, Yba.runUnderlying24, Yba.sizeOf24, Yba.isAgg24, Yba.zeroValue24, Yba.underlying45, Yba.runUnderlying45, Yba.sizeOf45, Yba.isAgg45, Yba.zeroValue45, Yba.underlying66, Yba.runUnderlying66, Yba.sizeOf66, Yba.isAgg66, Yba.zeroValue66, Yba.underlying74, Yba.runUnderlying74, Yba.sizeOf74, Yba.isAgg74, Yba.zeroValue74, Yba.underlying65, Yba.runUnderlying65, Yba.sizeOf65, Yba.isAgg65, Yba.zeroValue65, Yba.underlying21, Yba.runUnderlying21, Yba.sizeOf21, Yba.isAgg21, Yba.zeroValue21, (by kernel_rfl), (by kernel_rfl)⟩
theorem rwRLib : Go.Conc.Locks.RwRLib Yba.prog rwLink := ⟨rwCore, Yba.func6, Yba.func7⟩
end Go.Proofs.Ybulkarpy
