/-
  DERIVED. GIVEN WITH THE SEED: THE CARDS: each row of YbulkisDoorRows.lean that lists a variable, with what it lists TIED to the program's text (the seventh form; the later family's looks); each row that meets fmt, with fmt's text TOLD by the authors' own Lean function (tested against real Go, not proved from fmt's source: count such statements apart). THE CARD IS WHAT COUNTS. Prove the row's statement (the work); the ties are given (YbulkisDoorTie.lean); close each card by the builder's one call (the guide's Derived/Test/ToyasCard.lean, 'card_holds'). Laid BY PROGRAM, IN A SANDBOX (cutbox-door.mjs). By AI agents, Wed Nov 11 2026. No macro, syntax, notation, axiom, sorry.
-/
import Derived.Test.YbulkisDoorRows
import GoSem.ClaimSeven
namespace Go.Proofs.YbulkisDoor
namespace Rows

/-- THE TIED CARD OF 'keen-scheduler.LawS0018CPushOrder'. -/
def lawS0018CPushOrderCard : Claim7 := { stood := { row := lawS0018CPushOrderRow, standIns := [], harness := (true, "5d87382e2047466ea485ed939af2aeaa9841ad746bc2ae6aca71010d3870d813"), looks := false }, kinds := [], alts := [], laidByText := true, laidKinds := [.sentinel], laidTests := true, laidLooks := .later }
def LawS0018CPushOrderCardSaid : Prop := Claim7.holds Ybad.pinned (.plain (OpenSpec.ofChange lawS0018CPushOrderSpec)) lawS0018CPushOrderCard

/-- THE TIED CARD OF 'keen-scheduler.LawS0018CAbandonDrop'. -/
def lawS0018CAbandonDropCard : Claim7 := { stood := { row := lawS0018CAbandonDropRow, standIns := [], harness := (true, "5d87382e2047466ea485ed939af2aeaa9841ad746bc2ae6aca71010d3870d813"), looks := false }, kinds := [], alts := [], laidByText := true, laidKinds := [.sentinel], laidTests := true, laidLooks := .later }
def LawS0018CAbandonDropCardSaid : Prop := Claim7.holds Ybad.pinned (.plain (OpenSpec.ofChange lawS0018CAbandonDropSpec)) lawS0018CAbandonDropCard
end Rows
end Go.Proofs.YbulkisDoor
