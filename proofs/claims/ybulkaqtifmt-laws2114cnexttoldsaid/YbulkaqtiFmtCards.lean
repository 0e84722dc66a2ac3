/-
  DERIVED. GIVEN WITH THE SEED: THE CARDS: each row of YbulkaqtiFmtRows.lean that lists a variable, with what it lists TIED to the program's text (the seventh form; the later family's looks); each row that meets fmt, with fmt's text TOLD by the authors' own Lean function (tested against real Go, not proved from fmt's source: count such statements apart). THE CARD IS WHAT COUNTS. Prove the row's statement (the work); the ties are given (YbulkaqtiFmtTie.lean); close each card by the builder's one call (the guide's Derived/Test/ToyasCard.lean, 'card_holds'). Laid BY PROGRAM, IN A SANDBOX (cutbox-door.mjs). By AI agents, Wed Nov 11 2026. No macro, syntax, notation, axiom, sorry.
-/
import Derived.Test.YbulkaqtiFmtRows
import GoSem.ClaimSeven
namespace Go.Proofs.YbulkaqtiFmt
namespace Rows

/-- THE TOLD CARD OF 'secs1.LawS2114BGrant'. -/
def lawS2114BGrantCard : Claim7 := { stood := { row := lawS2114BGrantRow, standIns := [], harness := (true, "98060edb578a7c2124d7b662a78110eb777a3377319f51bd03643a85e9774df5"), looks := false }, told := true, goes := false }
def LawS2114BGrantToldSaid : Prop := Claim7.holds Ybaf.pinned (.plain (OpenSpec.ofChange lawS2114BGrantSpec)) lawS2114BGrantCard
/-- ITS FALSE NEIGHBOUR. Refute it at one input. -/
def LawS2114BGrantToldWrongFalsely : Prop := Claim7.holds Ybaf.pinned (.plain (OpenSpec.ofChange lawS2114BGrantWrong)) lawS2114BGrantCard

/-- THE TOLD CARD OF 'secs1.LawS2114BIdleEnq'. -/
def lawS2114BIdleEnqCard : Claim7 := { stood := { row := lawS2114BIdleEnqRow, standIns := [], harness := (true, "98060edb578a7c2124d7b662a78110eb777a3377319f51bd03643a85e9774df5"), looks := false }, told := true, goes := false }
def LawS2114BIdleEnqToldSaid : Prop := Claim7.holds Ybaf.pinned (.plain (OpenSpec.ofChange lawS2114BIdleEnqSpec)) lawS2114BIdleEnqCard
/-- ITS FALSE NEIGHBOUR. Refute it at one input. -/
def LawS2114BIdleEnqToldWrongFalsely : Prop := Claim7.holds Ybaf.pinned (.plain (OpenSpec.ofChange lawS2114BIdleEnqWrong)) lawS2114BIdleEnqCard

/-- THE TOLD AND TIED CARD OF 'secs1.LawS2114CEnd'. -/
def lawS2114CEndCard : Claim7 := { stood := { row := lawS2114CEndRow, standIns := [], harness := (true, "98060edb578a7c2124d7b662a78110eb777a3377319f51bd03643a85e9774df5"), looks := false }, told := true, laidByText := true, laidKinds := [.sentinel], laidTests := true, laidLooks := .later, goes := false }
def LawS2114CEndToldSaid : Prop := Claim7.holds Ybaf.pinned (.plain (OpenSpec.ofChange lawS2114CEndSpec)) lawS2114CEndCard
/-- ITS FALSE NEIGHBOUR. Refute it at one input. -/
def LawS2114CEndToldWrongFalsely : Prop := Claim7.holds Ybaf.pinned (.plain (OpenSpec.ofChange lawS2114CEndWrong)) lawS2114CEndCard

/-- THE TOLD AND TIED CARD OF 'secs1.LawS2114CNext'. -/
def lawS2114CNextCard : Claim7 := { stood := { row := lawS2114CNextRow, standIns := [], harness := (true, "98060edb578a7c2124d7b662a78110eb777a3377319f51bd03643a85e9774df5"), looks := false }, told := true, laidByText := true, laidKinds := [.sentinel], laidTests := true, laidLooks := .later, goes := false }
def LawS2114CNextToldSaid : Prop := Claim7.holds Ybaf.pinned (.plain (OpenSpec.ofChange lawS2114CNextSpec)) lawS2114CNextCard
/-- ITS FALSE NEIGHBOUR. Refute it at one input. -/
def LawS2114CNextToldWrongFalsely : Prop := Claim7.holds Ybaf.pinned (.plain (OpenSpec.ofChange lawS2114CNextWrong)) lawS2114CNextCard
end Rows
end Go.Proofs.YbulkaqtiFmt
