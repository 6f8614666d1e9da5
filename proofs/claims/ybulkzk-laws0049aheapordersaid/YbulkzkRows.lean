/-
  No cell of these rows narrows 'for every input' (looked for: loops, veiled, ifaces, maps, wideKeys, modest, calm, conditions, laid).
  DERIVED. THE GIVEN ROWS OF THIS SEAT. 2 by the template 'for every input the law returns true; each argument reads behind the call as it read before'; 0 by the template 'total and deterministic' (their statements: YbulkzkTotals.lean).
  GIVEN WITH THE SEED: the statements are not yours to turn. If you find one false, say at which input.
  Laid BY PROGRAM, IN A SANDBOX (cutbox-rows.mjs): the forced cells as the released guide's own fill.sh prints them over the translation 1d65d80fdfd955e2… (all of the seat's roots in one cut). By AI agents, Wed Nov 11 2026. No macro, syntax, notation, axiom, sorry.
-/
import Derived.Test.YbulkzkChecked
import GoSem.Claim
import GoSem.ClaimJoined
import GoSem.ClaimMapViews
import Derived.JoinedTies
import Derived.KernelRfl
namespace Go.Proofs.Ybulkzk
/- THE CELL 'sum', in the pinned program and in every row, IS THE sha256 OF THE DUMP (.gsa) THAT YbulkzkProg.lean LOADS. Nothing in Lean hashes anything: it is a label: what it is worth is what the hold of that sum in a sandbox is worth. -/
noncomputable def Yba.pinned : Pinned := { name := "ybulkzk", sum := "1d65d80fdfd955e2dd1fcbaca3fb696b617199cee5ab0afd275560453effd586", checked := Yba.checked }
namespace Rows
def none {H : Type} : Left H := { results := [], args := [] }

/-- 'stagger.LawS0049APopLast': WHATEVER THE INPUT: true; the input reads as it did. -/
def lawS0049APopLastSpec : ChangeSpec := { name := "lawS0049APopLast", fn := fun _ => fun
  | [d] => { results := [.lit (.bool true)], args := [d] }
  | _ => none }
def lawS0049APopLastRow : OpenClaim := { program := "ybulkzk", sum := "1d65d80fdfd955e2dd1fcbaca3fb696b617199cee5ab0afd275560453effd586", func := "example.com/stagger/stagger.LawS0049APopLast", spec := "lawS0049APopLast", apart := false }
def LawS0049APopLastSaid : Prop := lawS0049APopLastRow.holds Yba.pinned (OpenSpec.ofChange lawS0049APopLastSpec)

/-- ITS FALSE NEIGHBOUR: 'it returns false'. Refute it at one input. -/
def lawS0049APopLastWrong : ChangeSpec := { name := "lawS0049APopLast", fn := fun _ => fun
  | [d] => { results := [.lit (.bool false)], args := [d] }
  | _ => none }
def LawS0049APopLastWrongFalsely : Prop := lawS0049APopLastRow.holds Yba.pinned (OpenSpec.ofChange lawS0049APopLastWrong)

/-- 'stagger.LawS0049AHeapOrder': WHATEVER THE INPUT: true; the input reads as it did. -/
def lawS0049AHeapOrderSpec : ChangeSpec := { name := "lawS0049AHeapOrder", fn := fun _ => fun
  | [d] => { results := [.lit (.bool true)], args := [d] }
  | _ => none }
def lawS0049AHeapOrderRow : OpenClaim := { program := "ybulkzk", sum := "1d65d80fdfd955e2dd1fcbaca3fb696b617199cee5ab0afd275560453effd586", func := "example.com/stagger/stagger.LawS0049AHeapOrder", spec := "lawS0049AHeapOrder", unfollowed := true, recurses := true, apart := false }
def LawS0049AHeapOrderSaid : Prop := lawS0049AHeapOrderRow.holds Yba.pinned (OpenSpec.ofChange lawS0049AHeapOrderSpec)

/-- ITS FALSE NEIGHBOUR: 'it returns false'. Refute it at one input. -/
def lawS0049AHeapOrderWrong : ChangeSpec := { name := "lawS0049AHeapOrder", fn := fun _ => fun
  | [d] => { results := [.lit (.bool false)], args := [d] }
  | _ => none }
def LawS0049AHeapOrderWrongFalsely : Prop := lawS0049AHeapOrderRow.holds Yba.pinned (OpenSpec.ofChange lawS0049AHeapOrderWrong)

end Rows
end Go.Proofs.Ybulkzk
