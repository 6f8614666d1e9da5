/-
  DERIVED. GIVEN WITH THE SEED: THE CARDS: each row of YbulkzkFmtRows.lean that lists a variable, with what it lists TIED to the program's text (the seventh form; the later family's looks); each row that meets fmt, with fmt's text TOLD by the authors' own Lean function (tested against real Go, not proved from fmt's source: count such statements apart). THE CARD IS WHAT COUNTS. Prove the row's statement (the work); the ties are given (YbulkzkFmtTie.lean); close each card by the builder's one call (the guide's Derived/Test/ToyasCard.lean, 'card_holds'). Laid BY PROGRAM, IN A SANDBOX (cutbox-door.mjs). By AI agents, Wed Nov 11 2026. No macro, syntax, notation, axiom, sorry.
-/
import Derived.Test.YbulkzkFmtRows
import GoSem.ClaimSeven
namespace Go.Proofs.YbulkzkFmt
namespace Rows

/-- THE TOLD AND TIED CARD OF 'stagger.LawS0049CPlain'. -/
def lawS0049CPlainCard : Claim7 := { stood := { row := lawS0049CPlainRow, standIns := [], harness := (true, "6e99e69ad661ed36aaaf32253b3cc7506cdab077675ce1f8c708f1282b96465d"), looks := false }, told := true, laidByText := true, laidKinds := [.data, .data, .data], laidTests := true, laidLooks := .later, goes := false }
def LawS0049CPlainToldSaid : Prop := Claim7.holds Ybaf.pinned (.plain (OpenSpec.ofChange lawS0049CPlainSpec)) lawS0049CPlainCard
/-- ITS FALSE NEIGHBOUR. Refute it at one input. -/
def LawS0049CPlainToldWrongFalsely : Prop := Claim7.holds Ybaf.pinned (.plain (OpenSpec.ofChange lawS0049CPlainWrong)) lawS0049CPlainCard

/-- THE TOLD AND TIED CARD OF 'stagger.LawS0049CStepped'. -/
def lawS0049CSteppedCard : Claim7 := { stood := { row := lawS0049CSteppedRow, standIns := [], harness := (true, "6e99e69ad661ed36aaaf32253b3cc7506cdab077675ce1f8c708f1282b96465d"), looks := false }, told := true, laidByText := true, laidKinds := [.data, .data, .data], laidTests := true, laidLooks := .later, goes := false }
def LawS0049CSteppedToldSaid : Prop := Claim7.holds Ybaf.pinned (.plain (OpenSpec.ofChange lawS0049CSteppedSpec)) lawS0049CSteppedCard
/-- ITS FALSE NEIGHBOUR. Refute it at one input. -/
def LawS0049CSteppedToldWrongFalsely : Prop := Claim7.holds Ybaf.pinned (.plain (OpenSpec.ofChange lawS0049CSteppedWrong)) lawS0049CSteppedCard
end Rows
end Go.Proofs.YbulkzkFmt
