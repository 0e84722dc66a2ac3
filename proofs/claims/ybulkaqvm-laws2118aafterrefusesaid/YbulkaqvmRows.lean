/-
  No cell of these rows narrows 'for every input' (looked for: loops, veiled, ifaces, maps, wideKeys, modest, calm, conditions, laid).
  DERIVED. THE GIVEN ROWS OF THIS SEAT. 2 by the template 'for every input the law returns true; each argument reads behind the call as it read before'; 0 by the template 'total and deterministic' (their statements: YbulkaqvmTotals.lean).
  GIVEN WITH THE SEED: the statements are not yours to turn. If you find one false, say at which input.
  Laid BY PROGRAM, IN A SANDBOX (cutbox-rows.mjs): the forced cells as the released guide's own fill.sh prints them over the translation 88731c2fb211aeb1… (all of the seat's roots in one cut). By AI agents, Wed Nov 11 2026. No macro, syntax, notation, axiom, sorry.
-/
import Derived.Test.YbulkaqvmChecked
import GoSem.Claim
import GoSem.ClaimJoined
import GoSem.ClaimMapViews
import Derived.JoinedTies
import Derived.KernelRfl
namespace Go.Proofs.Ybulkaqvm
/- THE CELL 'sum', in the pinned program and in every row, IS THE sha256 OF THE DUMP (.gsa) THAT YbulkaqvmProg.lean LOADS. Nothing in Lean hashes anything: it is a label: what it is worth is what the hold of that sum in a sandbox is worth. -/
noncomputable def Yba.pinned : Pinned := { name := "ybulkaqvm", sum := "88731c2fb211aeb1c60d7a436154bd739518af7dfb19b1a064f4784b528e4fd2", checked := Yba.checked }
namespace Rows
def none {H : Type} : Left H := { results := [], args := [] }

/-- 'cairn.LawS2118AGives': WHATEVER THE INPUT: true; the input reads as it did. -/
def lawS2118AGivesSpec : ChangeSpec := { name := "lawS2118AGives", fn := fun _ => fun
  | [d1, d2, d3, d4, d5, d6] => { results := [.lit (.bool true)], args := [d1, d2, d3, d4, d5, d6] }
  | _ => none }
def lawS2118AGivesRow : OpenClaim := { program := "ybulkaqvm", sum := "88731c2fb211aeb1c60d7a436154bd739518af7dfb19b1a064f4784b528e4fd2", func := "example.com/cairn/cairn.LawS2118AGives", spec := "lawS2118AGives", apart := false }
def LawS2118AGivesSaid : Prop := lawS2118AGivesRow.holds Yba.pinned (OpenSpec.ofChange lawS2118AGivesSpec)

/-- ITS FALSE NEIGHBOUR: 'it returns false'. Refute it at one input. -/
def lawS2118AGivesWrong : ChangeSpec := { name := "lawS2118AGives", fn := fun _ => fun
  | [d1, d2, d3, d4, d5, d6] => { results := [.lit (.bool false)], args := [d1, d2, d3, d4, d5, d6] }
  | _ => none }
def LawS2118AGivesWrongFalsely : Prop := lawS2118AGivesRow.holds Yba.pinned (OpenSpec.ofChange lawS2118AGivesWrong)

/-- 'cairn.LawS2118AAfterRefuse': WHATEVER THE INPUT: true; the input reads as it did. -/
def lawS2118AAfterRefuseSpec : ChangeSpec := { name := "lawS2118AAfterRefuse", fn := fun _ => fun
  | [d1, d2, d3] => { results := [.lit (.bool true)], args := [d1, d2, d3] }
  | _ => none }
def lawS2118AAfterRefuseRow : OpenClaim := { program := "ybulkaqvm", sum := "88731c2fb211aeb1c60d7a436154bd739518af7dfb19b1a064f4784b528e4fd2", func := "example.com/cairn/cairn.LawS2118AAfterRefuse", spec := "lawS2118AAfterRefuse", apart := false }
def LawS2118AAfterRefuseSaid : Prop := lawS2118AAfterRefuseRow.holds Yba.pinned (OpenSpec.ofChange lawS2118AAfterRefuseSpec)

/-- ITS FALSE NEIGHBOUR: 'it returns false'. Refute it at one input. -/
def lawS2118AAfterRefuseWrong : ChangeSpec := { name := "lawS2118AAfterRefuse", fn := fun _ => fun
  | [d1, d2, d3] => { results := [.lit (.bool false)], args := [d1, d2, d3] }
  | _ => none }
def LawS2118AAfterRefuseWrongFalsely : Prop := lawS2118AAfterRefuseRow.holds Yba.pinned (OpenSpec.ofChange lawS2118AAfterRefuseWrong)

end Rows
end Go.Proofs.Ybulkaqvm
