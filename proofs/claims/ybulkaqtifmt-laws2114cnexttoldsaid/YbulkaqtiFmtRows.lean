/-
  NARROWER THAN 'FOR EVERY INPUT', by the rows' own cells (each row's printed sentence says how): LawS2114CEnd: ifaces, laid · LawS2114CNext: ifaces, laid.
  DERIVED. THE GIVEN ROWS OF THIS SEAT. 4 by the template 'for every input the law returns true; each argument reads behind the call as it read before'; 0 by the template 'total and deterministic' (their statements: YbulkaqtiFmtTotals.lean).
  GIVEN WITH THE SEED: the statements are not yours to turn. If you find one false, say at which input.
  Laid BY PROGRAM, IN A SANDBOX (cutbox-rows.mjs): the forced cells as the released guide's own fill.sh prints them over the translation 3bf772d0892912b0… (all of the seat's roots in one cut). By AI agents, Wed Nov 11 2026. No macro, syntax, notation, axiom, sorry.
-/
import Derived.Test.YbulkaqtiFmtChecked
import GoSem.Claim
import GoSem.ClaimJoined
import GoSem.ClaimMapViews
import Derived.JoinedTies
import Derived.KernelRfl
namespace Go.Proofs.YbulkaqtiFmt
/- THE CELL 'sum', in the pinned program and in every row, IS THE sha256 OF THE DUMP (.gsa) THAT YbulkaqtiFmtProg.lean LOADS. Nothing in Lean hashes anything: it is a label: what it is worth is what the hold of that sum in a sandbox is worth. -/
noncomputable def Ybaf.pinned : Pinned := { name := "ybulkaqtifmt", sum := "3bf772d0892912b0d1146213c36a28ffae5e6d3d1de63a86c4b8f59f678ecc74", checked := Ybaf.checked }
namespace Rows
def none {H : Type} : Left H := { results := [], args := [] }

/- WHAT THE LISTED PACKAGE-LEVEL VARIABLES READ AS WHEN THE CALL BEGINS. Each datum BY PROGRAM (the guide's laid-datum.mjs) off the statement by which the dump's own 'gosem.cut.vars' lays the variable. In a bare row this is a premise. The card (YbulkaqtiFmtCards.lean) ties it to the program's text. -/
def laid_example_com_lockstep_lockstep_secs1_ErrSending {H : Type} : DataW H := .iface "*errors.errorString" (.ptr (.agg [.lit (.string [115, 101, 99, 115, 49, 58, 32, 116, 104, 101, 32, 108, 105, 110, 107, 32, 105, 115, 32, 97, 108, 114, 101, 97, 100, 121, 32, 115, 101, 110, 100, 105, 110, 103])]))

/-- 'secs1.LawS2114BGrant': WHATEVER THE INPUT: true; the input reads as it did. -/
def lawS2114BGrantSpec : ChangeSpec := { name := "lawS2114BGrant", fn := fun _ => fun
  | [d1, d2, d3] => { results := [.lit (.bool true)], args := [d1, d2, d3] }
  | _ => none }
def lawS2114BGrantRow : OpenClaim := { program := "ybulkaqtifmt", sum := "3bf772d0892912b0d1146213c36a28ffae5e6d3d1de63a86c4b8f59f678ecc74", func := "example.com/lockstep/lockstep/secs1.LawS2114BGrant", spec := "lawS2114BGrant", stops := ["fmt.errorf"], unfollowed := true, recurses := true, apart := false }
/-- NO THEOREM (fmt's text is open here; it may be false): for the released tool's asking of the row's closed facts alone. THE STATEMENT IS 'LawS2114BGrantToldSaid' (YbulkaqtiFmtCards.lean). -/
def LawS2114BGrantFormAsk : Prop := lawS2114BGrantRow.holds Ybaf.pinned (OpenSpec.ofChange lawS2114BGrantSpec)

/-- ITS FALSE NEIGHBOUR: 'it returns false'. Refute it at one input. -/
def lawS2114BGrantWrong : ChangeSpec := { name := "lawS2114BGrant", fn := fun _ => fun
  | [d1, d2, d3] => { results := [.lit (.bool false)], args := [d1, d2, d3] }
  | _ => none }
def LawS2114BGrantWrongFormAsk : Prop := lawS2114BGrantRow.holds Ybaf.pinned (OpenSpec.ofChange lawS2114BGrantWrong)

/-- 'secs1.LawS2114BIdleEnq': WHATEVER THE INPUT: true; the input reads as it did. -/
def lawS2114BIdleEnqSpec : ChangeSpec := { name := "lawS2114BIdleEnq", fn := fun _ => fun
  | [d1, d2] => { results := [.lit (.bool true)], args := [d1, d2] }
  | _ => none }
def lawS2114BIdleEnqRow : OpenClaim := { program := "ybulkaqtifmt", sum := "3bf772d0892912b0d1146213c36a28ffae5e6d3d1de63a86c4b8f59f678ecc74", func := "example.com/lockstep/lockstep/secs1.LawS2114BIdleEnq", spec := "lawS2114BIdleEnq", stops := ["fmt.errorf"], inPlace := ["fmt.errorf"], unfollowed := true, recurses := true, named := ["encoding/binary.BigEndian"], apart := false }
/-- NO THEOREM (fmt's text is open here; it may be false): for the released tool's asking of the row's closed facts alone. THE STATEMENT IS 'LawS2114BIdleEnqToldSaid' (YbulkaqtiFmtCards.lean). -/
def LawS2114BIdleEnqFormAsk : Prop := lawS2114BIdleEnqRow.holds Ybaf.pinned (OpenSpec.ofChange lawS2114BIdleEnqSpec)

/-- ITS FALSE NEIGHBOUR: 'it returns false'. Refute it at one input. -/
def lawS2114BIdleEnqWrong : ChangeSpec := { name := "lawS2114BIdleEnq", fn := fun _ => fun
  | [d1, d2] => { results := [.lit (.bool false)], args := [d1, d2] }
  | _ => none }
def LawS2114BIdleEnqWrongFormAsk : Prop := lawS2114BIdleEnqRow.holds Ybaf.pinned (OpenSpec.ofChange lawS2114BIdleEnqWrong)

/-- 'secs1.LawS2114CEnd': WHATEVER THE INPUT: true; the input reads as it did. -/
def lawS2114CEndSpec : ChangeSpec := { name := "lawS2114CEnd", vars := ["example.com/lockstep/lockstep/secs1.ErrSending"], fn := fun _ => fun
  | [d1, d2, d3, d4, d5, d6, g1] => { results := [.lit (.bool true)], args := [d1, d2, d3, d4, d5, d6], vars := [g1] }
  | _ => none }
def lawS2114CEndRow : OpenClaim := { program := "ybulkaqtifmt", sum := "3bf772d0892912b0d1146213c36a28ffae5e6d3d1de63a86c4b8f59f678ecc74", func := "example.com/lockstep/lockstep/secs1.LawS2114CEnd", spec := "lawS2114CEnd", stops := ["fmt.errorf"], inPlace := ["fmt.errorf"], unfollowed := true, recurses := true, named := ["example.com/lockstep/lockstep/secs1.ErrSending", "encoding/binary.BigEndian"], ifaces := true, apart := false, laid := [("example.com/lockstep/lockstep/secs1.ErrSending", laid_example_com_lockstep_lockstep_secs1_ErrSending)] }
/-- NO THEOREM (fmt's text is open here; it may be false): for the released tool's asking of the row's closed facts alone. THE STATEMENT IS 'LawS2114CEndToldSaid' (YbulkaqtiFmtCards.lean). -/
def LawS2114CEndFormAsk : Prop := lawS2114CEndRow.holds Ybaf.pinned (OpenSpec.ofChange lawS2114CEndSpec)

/-- ITS FALSE NEIGHBOUR: 'it returns false'. Refute it at one input. -/
def lawS2114CEndWrong : ChangeSpec := { name := "lawS2114CEnd", vars := ["example.com/lockstep/lockstep/secs1.ErrSending"], fn := fun _ => fun
  | [d1, d2, d3, d4, d5, d6, g1] => { results := [.lit (.bool false)], args := [d1, d2, d3, d4, d5, d6], vars := [g1] }
  | _ => none }
def LawS2114CEndWrongFormAsk : Prop := lawS2114CEndRow.holds Ybaf.pinned (OpenSpec.ofChange lawS2114CEndWrong)

/-- 'secs1.LawS2114CNext': WHATEVER THE INPUT: true; the input reads as it did. -/
def lawS2114CNextSpec : ChangeSpec := { name := "lawS2114CNext", vars := ["example.com/lockstep/lockstep/secs1.ErrSending"], fn := fun _ => fun
  | [d1, d2, d3, d4, d5, g1] => { results := [.lit (.bool true)], args := [d1, d2, d3, d4, d5], vars := [g1] }
  | _ => none }
def lawS2114CNextRow : OpenClaim := { program := "ybulkaqtifmt", sum := "3bf772d0892912b0d1146213c36a28ffae5e6d3d1de63a86c4b8f59f678ecc74", func := "example.com/lockstep/lockstep/secs1.LawS2114CNext", spec := "lawS2114CNext", stops := ["fmt.errorf"], inPlace := ["fmt.errorf"], unfollowed := true, recurses := true, named := ["example.com/lockstep/lockstep/secs1.ErrSending", "encoding/binary.BigEndian"], ifaces := true, apart := false, laid := [("example.com/lockstep/lockstep/secs1.ErrSending", laid_example_com_lockstep_lockstep_secs1_ErrSending)] }
/-- NO THEOREM (fmt's text is open here; it may be false): for the released tool's asking of the row's closed facts alone. THE STATEMENT IS 'LawS2114CNextToldSaid' (YbulkaqtiFmtCards.lean). -/
def LawS2114CNextFormAsk : Prop := lawS2114CNextRow.holds Ybaf.pinned (OpenSpec.ofChange lawS2114CNextSpec)

/-- ITS FALSE NEIGHBOUR: 'it returns false'. Refute it at one input. -/
def lawS2114CNextWrong : ChangeSpec := { name := "lawS2114CNext", vars := ["example.com/lockstep/lockstep/secs1.ErrSending"], fn := fun _ => fun
  | [d1, d2, d3, d4, d5, g1] => { results := [.lit (.bool false)], args := [d1, d2, d3, d4, d5], vars := [g1] }
  | _ => none }
def LawS2114CNextWrongFormAsk : Prop := lawS2114CNextRow.holds Ybaf.pinned (OpenSpec.ofChange lawS2114CNextWrong)

end Rows
end Go.Proofs.YbulkaqtiFmt
