/-
  No cell of these rows narrows 'for every input' (looked for: loops, veiled, ifaces, maps, wideKeys, modest, calm, conditions, laid).
  DERIVED. THE GIVEN ROWS OF THIS SEAT. 2 by the template 'for every input the law returns true; each argument reads behind the call as it read before'; 0 by the template 'total and deterministic' (their statements: YbulkaqukTotals.lean).
  GIVEN WITH THE SEED: the statements are not yours to turn. If you find one false, say at which input.
  Laid BY PROGRAM, IN A SANDBOX (cutbox-rows.mjs): the forced cells as the released guide's own fill.sh prints them over the translation 9216d728b9202ecc… (all of the seat's roots in one cut). By AI agents, Wed Nov 11 2026. No macro, syntax, notation, axiom, sorry.
-/
import Derived.Test.YbulkaqukChecked
import GoSem.Claim
import GoSem.ClaimJoined
import GoSem.ClaimMapViews
import Derived.JoinedTies
import Derived.KernelRfl
namespace Go.Proofs.Ybulkaquk
/- THE CELL 'sum', in the pinned program and in every row, IS THE sha256 OF THE DUMP (.gsa) THAT YbulkaqukProg.lean LOADS. Nothing in Lean hashes anything: it is a label: what it is worth is what the hold of that sum in a sandbox is worth. -/
noncomputable def Yba.pinned : Pinned := { name := "ybulkaquk", sum := "9216d728b9202eccb1941f6ae80a886fcca2d102eba4defbcd1c7bbc142d438d", checked := Yba.checked }
namespace Rows
def none {H : Type} : Left H := { results := [], args := [] }

/-- 'terss.LawS2116CTable': WHATEVER THE INPUT: true; the input reads as it did. -/
def lawS2116CTableSpec : ChangeSpec := { name := "lawS2116CTable", fn := fun _ => fun
  | [d] => { results := [.lit (.bool true)], args := [d] }
  | _ => none }
def lawS2116CTableRow : OpenClaim := { program := "ybulkaquk", sum := "9216d728b9202eccb1941f6ae80a886fcca2d102eba4defbcd1c7bbc142d438d", func := "example.com/terss/terss.LawS2116CTable", spec := "lawS2116CTable", apart := false }
def LawS2116CTableSaid : Prop := lawS2116CTableRow.holds Yba.pinned (OpenSpec.ofChange lawS2116CTableSpec)

/-- ITS FALSE NEIGHBOUR: 'it returns false'. Refute it at one input. -/
def lawS2116CTableWrong : ChangeSpec := { name := "lawS2116CTable", fn := fun _ => fun
  | [d] => { results := [.lit (.bool false)], args := [d] }
  | _ => none }
def LawS2116CTableWrongFalsely : Prop := lawS2116CTableRow.holds Yba.pinned (OpenSpec.ofChange lawS2116CTableWrong)

/-- 'terss.LawS2116CIdem': WHATEVER THE INPUT: true; the input reads as it did. -/
def lawS2116CIdemSpec : ChangeSpec := { name := "lawS2116CIdem", fn := fun _ => fun
  | [d] => { results := [.lit (.bool true)], args := [d] }
  | _ => none }
def lawS2116CIdemRow : OpenClaim := { program := "ybulkaquk", sum := "9216d728b9202eccb1941f6ae80a886fcca2d102eba4defbcd1c7bbc142d438d", func := "example.com/terss/terss.LawS2116CIdem", spec := "lawS2116CIdem", apart := false }
def LawS2116CIdemSaid : Prop := lawS2116CIdemRow.holds Yba.pinned (OpenSpec.ofChange lawS2116CIdemSpec)

/-- ITS FALSE NEIGHBOUR: 'it returns false'. Refute it at one input. -/
def lawS2116CIdemWrong : ChangeSpec := { name := "lawS2116CIdem", fn := fun _ => fun
  | [d] => { results := [.lit (.bool false)], args := [d] }
  | _ => none }
def LawS2116CIdemWrongFalsely : Prop := lawS2116CIdemRow.holds Yba.pinned (OpenSpec.ofChange lawS2116CIdemWrong)

end Rows
end Go.Proofs.Ybulkaquk
