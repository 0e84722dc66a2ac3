/-
  DERIVED. GIVEN WITH THE SEED: THE CARDS: each row of YbulkaqukDoorRows.lean that lists a variable, with what it lists TIED to the program's text (the seventh form; the later family's looks); each row that meets fmt, with fmt's text TOLD by the authors' own Lean function (tested against real Go, not proved from fmt's source: count such statements apart). THE CARD IS WHAT COUNTS. Prove the row's statement (the work); the ties are given (YbulkaqukDoorTie.lean); close each card by the builder's one call (the guide's Derived/Test/ToyasCard.lean, 'card_holds'). Laid BY PROGRAM, IN A SANDBOX (cutbox-door.mjs). By AI agents, Wed Nov 11 2026. No macro, syntax, notation, axiom, sorry.
-/
import Derived.Test.YbulkaqukDoorRows
import GoSem.ClaimSeven
namespace Go.Proofs.YbulkaqukDoor
namespace Rows

/-- THE TIED CARD OF 'terss.LawS2116BRoundTrip'. -/
def lawS2116BRoundTripCard : Claim7 := { stood := { row := lawS2116BRoundTripRow, standIns := [], harness := (true, "d15dd2a83b6d72751cd49f9d6a3dc69180bf3fed046387ab00f565dc5826e257"), looks := false }, kinds := [], alts := [], laidByText := true, laidKinds := [.data], laidTests := true, laidLooks := .later }
def LawS2116BRoundTripCardSaid : Prop := Claim7.holds Ybad.pinned (.plain (OpenSpec.ofChange lawS2116BRoundTripSpec)) lawS2116BRoundTripCard

/-- THE TIED CARD OF 'terss.LawS2116BValue'. -/
def lawS2116BValueCard : Claim7 := { stood := { row := lawS2116BValueRow, standIns := [], harness := (true, "d15dd2a83b6d72751cd49f9d6a3dc69180bf3fed046387ab00f565dc5826e257"), looks := false }, kinds := [], alts := [], laidByText := true, laidKinds := [.data], laidTests := true, laidLooks := .later }
def LawS2116BValueCardSaid : Prop := Claim7.holds Ybad.pinned (.plain (OpenSpec.ofChange lawS2116BValueSpec)) lawS2116BValueCard
end Rows
end Go.Proofs.YbulkaqukDoor
