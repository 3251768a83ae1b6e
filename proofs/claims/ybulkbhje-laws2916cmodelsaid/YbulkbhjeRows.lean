/-
  No cell of these rows narrows 'for every input' (looked for: loops, veiled, ifaces, maps, wideKeys, modest, calm, conditions, laid).
  DERIVED. THE GIVEN ROWS OF THIS SEAT. 1 by the template 'for every input the law returns true; each argument reads behind the call as it read before'; 0 by the template 'total and deterministic' (their statements: YbulkbhjeTotals.lean).
  GIVEN WITH THE SEED: the statements are not yours to turn. If you find one false, say at which input.
  Laid BY PROGRAM, IN A SANDBOX (cutbox-rows.mjs): the forced cells as the released guide's own fill.sh prints them over the translation 5c1dd9f17493cc87… (all of the seat's roots in one cut). By AI agents, Wed Nov 11 2026. No macro, syntax, notation, axiom, sorry.
-/
import Derived.Test.YbulkbhjeChecked
import GoSem.Claim
import GoSem.ClaimJoined
import GoSem.ClaimMapViews
import Derived.JoinedTies
import Derived.KernelRfl
namespace Go.Proofs.Ybulkbhje
/- THE CELL 'sum', in the pinned program and in every row, IS THE sha256 OF THE DUMP (.gsa) THAT YbulkbhjeProg.lean LOADS. Nothing in Lean hashes anything: it is a label: what it is worth is what the hold of that sum in a sandbox is worth. -/
noncomputable def Yba.pinned : Pinned := { name := "ybulkbhje", sum := "5c1dd9f17493cc8756a201c477ce96b8a44361c8fbd01fa1fecf4c3c71438668", checked := Yba.checked }
namespace Rows
def none {H : Type} : Left H := { results := [], args := [] }

/-- 'antecede.LawS2916CModel': WHATEVER THE INPUT: true; the input reads as it did. -/
def lawS2916CModelSpec : ChangeSpec := { name := "lawS2916CModel", fn := fun _ => fun
  | [d1, d2, d3, d4] => { results := [.lit (.bool true)], args := [d1, d2, d3, d4] }
  | _ => none }
def lawS2916CModelRow : OpenClaim := { program := "ybulkbhje", sum := "5c1dd9f17493cc8756a201c477ce96b8a44361c8fbd01fa1fecf4c3c71438668", func := "example.com/antecede/antecede.LawS2916CModel", spec := "lawS2916CModel", apart := false }
def LawS2916CModelSaid : Prop := lawS2916CModelRow.holds Yba.pinned (OpenSpec.ofChange lawS2916CModelSpec)

/-- ITS FALSE NEIGHBOUR: 'it returns false'. Refute it at one input. -/
def lawS2916CModelWrong : ChangeSpec := { name := "lawS2916CModel", fn := fun _ => fun
  | [d1, d2, d3, d4] => { results := [.lit (.bool false)], args := [d1, d2, d3, d4] }
  | _ => none }
def LawS2916CModelWrongFalsely : Prop := lawS2916CModelRow.holds Yba.pinned (OpenSpec.ofChange lawS2916CModelWrong)

end Rows
end Go.Proofs.Ybulkbhje
