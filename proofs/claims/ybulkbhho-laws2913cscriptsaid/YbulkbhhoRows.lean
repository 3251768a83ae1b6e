/-
  No cell of these rows narrows 'for every input' (looked for: loops, veiled, ifaces, maps, wideKeys, modest, calm, conditions, laid).
  DERIVED. THE GIVEN ROWS OF THIS SEAT. 3 by the template 'for every input the law returns true; each argument reads behind the call as it read before'; 0 by the template 'total and deterministic' (their statements: YbulkbhhoTotals.lean).
  GIVEN WITH THE SEED: the statements are not yours to turn. If you find one false, say at which input.
  Laid BY PROGRAM, IN A SANDBOX (cutbox-rows.mjs): the forced cells as the released guide's own fill.sh prints them over the translation acfd844f7c1f5f78… (all of the seat's roots in one cut). By AI agents, Wed Nov 11 2026. No macro, syntax, notation, axiom, sorry.
-/
import Derived.Test.YbulkbhhoChecked
import GoSem.Claim
import GoSem.ClaimJoined
import GoSem.ClaimMapViews
import Derived.JoinedTies
import Derived.KernelRfl
namespace Go.Proofs.Ybulkbhho
/- THE CELL 'sum', in the pinned program and in every row, IS THE sha256 OF THE DUMP (.gsa) THAT YbulkbhhoProg.lean LOADS. Nothing in Lean hashes anything: it is a label: what it is worth is what the hold of that sum in a sandbox is worth. -/
noncomputable def Yba.pinned : Pinned := { name := "ybulkbhho", sum := "acfd844f7c1f5f7857305dd7a44c90278e5e11fa6b356a1367b182085f944fd5", checked := Yba.checked }
namespace Rows
def none {H : Type} : Left H := { results := [], args := [] }

/-- 'transform.LawS2913BExact': WHATEVER THE INPUT: true; the input reads as it did. -/
def lawS2913BExactSpec : ChangeSpec := { name := "lawS2913BExact", fn := fun _ => fun
  | [d1, d2] => { results := [.lit (.bool true)], args := [d1, d2] }
  | _ => none }
def lawS2913BExactRow : OpenClaim := { program := "ybulkbhho", sum := "acfd844f7c1f5f7857305dd7a44c90278e5e11fa6b356a1367b182085f944fd5", func := "example.com/dextral/dextral/transform.LawS2913BExact", spec := "lawS2913BExact", apart := false }
def LawS2913BExactSaid : Prop := lawS2913BExactRow.holds Yba.pinned (OpenSpec.ofChange lawS2913BExactSpec)

/-- ITS FALSE NEIGHBOUR: 'it returns false'. Refute it at one input. -/
def lawS2913BExactWrong : ChangeSpec := { name := "lawS2913BExact", fn := fun _ => fun
  | [d1, d2] => { results := [.lit (.bool false)], args := [d1, d2] }
  | _ => none }
def LawS2913BExactWrongFalsely : Prop := lawS2913BExactRow.holds Yba.pinned (OpenSpec.ofChange lawS2913BExactWrong)

/-- 'transform.LawS2913BLeftAboveRight': WHATEVER THE INPUT: true; the input reads as it did. -/
def lawS2913BLeftAboveRightSpec : ChangeSpec := { name := "lawS2913BLeftAboveRight", fn := fun _ => fun
  | [d1, d2] => { results := [.lit (.bool true)], args := [d1, d2] }
  | _ => none }
def lawS2913BLeftAboveRightRow : OpenClaim := { program := "ybulkbhho", sum := "acfd844f7c1f5f7857305dd7a44c90278e5e11fa6b356a1367b182085f944fd5", func := "example.com/dextral/dextral/transform.LawS2913BLeftAboveRight", spec := "lawS2913BLeftAboveRight", apart := false }
def LawS2913BLeftAboveRightSaid : Prop := lawS2913BLeftAboveRightRow.holds Yba.pinned (OpenSpec.ofChange lawS2913BLeftAboveRightSpec)

/-- ITS FALSE NEIGHBOUR: 'it returns false'. Refute it at one input. -/
def lawS2913BLeftAboveRightWrong : ChangeSpec := { name := "lawS2913BLeftAboveRight", fn := fun _ => fun
  | [d1, d2] => { results := [.lit (.bool false)], args := [d1, d2] }
  | _ => none }
def LawS2913BLeftAboveRightWrongFalsely : Prop := lawS2913BLeftAboveRightRow.holds Yba.pinned (OpenSpec.ofChange lawS2913BLeftAboveRightWrong)

/-- 'grammar.LawS2913CScript': WHATEVER THE INPUT: true; the input reads as it did. -/
def lawS2913CScriptSpec : ChangeSpec := { name := "lawS2913CScript", fn := fun _ => fun
  | [d] => { results := [.lit (.bool true)], args := [d] }
  | _ => none }
def lawS2913CScriptRow : OpenClaim := { program := "ybulkbhho", sum := "acfd844f7c1f5f7857305dd7a44c90278e5e11fa6b356a1367b182085f944fd5", func := "example.com/dextral/dextral/grammar.LawS2913CScript", spec := "lawS2913CScript", apart := false }
def LawS2913CScriptSaid : Prop := lawS2913CScriptRow.holds Yba.pinned (OpenSpec.ofChange lawS2913CScriptSpec)

/-- ITS FALSE NEIGHBOUR: 'it returns false'. Refute it at one input. -/
def lawS2913CScriptWrong : ChangeSpec := { name := "lawS2913CScript", fn := fun _ => fun
  | [d] => { results := [.lit (.bool false)], args := [d] }
  | _ => none }
def LawS2913CScriptWrongFalsely : Prop := lawS2913CScriptRow.holds Yba.pinned (OpenSpec.ofChange lawS2913CScriptWrong)

end Rows
end Go.Proofs.Ybulkbhho
