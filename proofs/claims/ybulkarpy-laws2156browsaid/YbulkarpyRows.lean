/-
  No cell of these rows narrows 'for every input' (looked for: loops, veiled, ifaces, maps, wideKeys, modest, calm, conditions, laid).
  DERIVED. THE GIVEN ROWS OF THIS SEAT. 1 by the template 'for every input the law returns true; each argument reads behind the call as it read before'; 0 by the template 'total and deterministic' (their statements: YbulkarpyTotals.lean).
  GIVEN WITH THE SEED: the statements are not yours to turn. If you find one false, say at which input.
  Laid BY PROGRAM, IN A SANDBOX (cutbox-rows.mjs): the forced cells as the released guide's own fill.sh prints them over the translation 3fca6eb701e0100c… (all of the seat's roots in one cut). By AI agents, Wed Nov 11 2026. No macro, syntax, notation, axiom, sorry.
-/
import Derived.Test.YbulkarpyChecked
import GoSem.Claim
import GoSem.ClaimJoined
import GoSem.ClaimMapViews
import Derived.JoinedTies
import Derived.KernelRfl
namespace Go.Proofs.Ybulkarpy
/- THE CELL 'sum', in the pinned program and in every row, IS THE sha256 OF THE DUMP (.gsa) THAT YbulkarpyProg.lean LOADS. Nothing in Lean hashes anything: it is a label: what it is worth is what the hold of that sum in a sandbox is worth. -/
noncomputable def Yba.pinned : Pinned := { name := "ybulkarpy", sum := "3fca6eb701e0100cc7d773c8c079b59cddef9cfceadee65f56aea42e6f8dbf97", checked := Yba.checked }
namespace Rows
def none {H : Type} : Left H := { results := [], args := [] }

/-- 'latchwork.LawS2156BRow': WHATEVER THE INPUT: true; the input reads as it did. -/
def lawS2156BRowSpec : ChangeSpec := { name := "lawS2156BRow", fn := fun _ => fun
  | [d1, d2, d3, d4] => { results := [.lit (.bool true)], args := [d1, d2, d3, d4] }
  | _ => none }
def lawS2156BRowRow : OpenClaim := { program := "ybulkarpy", sum := "3fca6eb701e0100cc7d773c8c079b59cddef9cfceadee65f56aea42e6f8dbf97", func := "example.com/latchwork/latchwork.LawS2156BRow", spec := "lawS2156BRow", inPlace := ["(*sync.RWMutex).RLock", "internal/race.Read", "internal/race.Disable", "sync/atomic.AddInt32", "sync.runtime_SemacquireRWMutexR", "internal/race.Enable", "internal/race.Acquire", "(*sync.RWMutex).RUnlock", "internal/race.ReleaseMerge", "(*sync.RWMutex).rUnlockSlow", "sync.fatal", "sync.runtime_Semrelease"], apart := false }
def LawS2156BRowSaid : Prop := lawS2156BRowRow.holds Yba.pinned (OpenSpec.ofChange lawS2156BRowSpec)

/-- ITS FALSE NEIGHBOUR: 'it returns false'. Refute it at one input. -/
def lawS2156BRowWrong : ChangeSpec := { name := "lawS2156BRow", fn := fun _ => fun
  | [d1, d2, d3, d4] => { results := [.lit (.bool false)], args := [d1, d2, d3, d4] }
  | _ => none }
def LawS2156BRowWrongFalsely : Prop := lawS2156BRowRow.holds Yba.pinned (OpenSpec.ofChange lawS2156BRowWrong)

end Rows
end Go.Proofs.Ybulkarpy
