/-
  DERIVED. GIVEN WITH THE SEED: THE CARDS: each row of YbulkxuDoorRows.lean that lists a variable, with what it lists TIED to the program's text (the seventh form; the later family's looks); each row that meets fmt, with fmt's text TOLD by the authors' own Lean function (tested against real Go, not proved from fmt's source: count such statements apart). THE CARD IS WHAT COUNTS. Prove the row's statement (the work); the ties are given (YbulkxuDoorTie.lean); close each card by the builder's one call (the guide's Derived/Test/ToyasCard.lean, 'card_holds'). Laid BY PROGRAM, IN A SANDBOX (cutbox-door.mjs). By AI agents, Wed Nov 11 2026. No macro, syntax, notation, axiom, sorry.
-/
import Derived.Test.YbulkxuDoorRows
import GoSem.ClaimSeven
namespace Go.Proofs.YbulkxuDoor
namespace Rows

/-- THE TIED CARD OF 'sim.LawS0046AStart'. -/
def lawS0046AStartCard : Claim7 := { stood := { row := lawS0046AStartRow, standIns := [], harness := (true, "59465045169f4acdd076377532674d8a15d07018962d730514c0d3b7fccf3ea1"), looks := false }, kinds := [], alts := [], laidByText := true, laidKinds := [.data, .data, .data], laidTests := true, laidLooks := .later }
def LawS0046AStartCardSaid : Prop := Claim7.holds Ybad.pinned (.plain (OpenSpec.ofChange lawS0046AStartSpec)) lawS0046AStartCard

/-- THE TIED CARD OF 'sim.LawS0046AAgreements'. -/
def lawS0046AAgreementsCard : Claim7 := { stood := { row := lawS0046AAgreementsRow, standIns := [], harness := (true, "59465045169f4acdd076377532674d8a15d07018962d730514c0d3b7fccf3ea1"), looks := false }, kinds := [], alts := [], laidByText := true, laidKinds := [.data, .data, .data], laidTests := true, laidLooks := .later }
def LawS0046AAgreementsCardSaid : Prop := Claim7.holds Ybad.pinned (.plain (OpenSpec.ofChange lawS0046AAgreementsSpec)) lawS0046AAgreementsCard

/-- THE TIED CARD OF 'sim.LawS0046BModel'. -/
def lawS0046BModelCard : Claim7 := { stood := { row := lawS0046BModelRow, standIns := [], harness := (true, "59465045169f4acdd076377532674d8a15d07018962d730514c0d3b7fccf3ea1"), looks := false }, kinds := [], alts := [], laidByText := true, laidKinds := [.data, .data, .data], laidTests := true, laidLooks := .later }
def LawS0046BModelCardSaid : Prop := Claim7.holds Ybad.pinned (.plain (OpenSpec.ofChange lawS0046BModelSpec)) lawS0046BModelCard

/-- THE TIED CARD OF 'sim.LawS0046BSplit'. -/
def lawS0046BSplitCard : Claim7 := { stood := { row := lawS0046BSplitRow, standIns := [], harness := (true, "59465045169f4acdd076377532674d8a15d07018962d730514c0d3b7fccf3ea1"), looks := false }, kinds := [], alts := [], laidByText := true, laidKinds := [.data, .data, .data], laidTests := true, laidLooks := .later }
def LawS0046BSplitCardSaid : Prop := Claim7.holds Ybad.pinned (.plain (OpenSpec.ofChange lawS0046BSplitSpec)) lawS0046BSplitCard
end Rows
end Go.Proofs.YbulkxuDoor
