/-
  No cell of these rows narrows 'for every input' (looked for: loops, veiled, ifaces, maps, wideKeys, modest, calm, conditions, laid).
  DERIVED. THE GIVEN ROWS OF THIS SEAT. 5 by the template 'for every input the law returns true; each argument reads behind the call as it read before'; 0 by the template 'total and deterministic' (their statements: YbulkbhgmTotals.lean).
  GIVEN WITH THE SEED: the statements are not yours to turn. If you find one false, say at which input.
  Laid BY PROGRAM, IN A SANDBOX (cutbox-rows.mjs): the forced cells as the released guide's own fill.sh prints them over the translation 0f1fb6efeb5150f8… (all of the seat's roots in one cut). By AI agents, Wed Nov 11 2026. No macro, syntax, notation, axiom, sorry.
-/
import Derived.Test.YbulkbhgmChecked
import GoSem.Claim
import GoSem.ClaimJoined
import GoSem.ClaimMapViews
import Derived.JoinedTies
import Derived.KernelRfl
namespace Go.Proofs.Ybulkbhgm
/- THE CELL 'sum', in the pinned program and in every row, IS THE sha256 OF THE DUMP (.gsa) THAT YbulkbhgmProg.lean LOADS. Nothing in Lean hashes anything: it is a label: what it is worth is what the hold of that sum in a sandbox is worth. -/
noncomputable def Yba.pinned : Pinned := { name := "ybulkbhgm", sum := "0f1fb6efeb5150f8045e9e791081ed7567cb91766458194a4209232479b94782", checked := Yba.checked }
namespace Rows
def none {H : Type} : Left H := { results := [], args := [] }

/-- 'casefile.LawS2911AModel': WHATEVER THE INPUT: true; the input reads as it did. -/
def lawS2911AModelSpec : ChangeSpec := { name := "lawS2911AModel", fn := fun _ => fun
  | [d1, d2] => { results := [.lit (.bool true)], args := [d1, d2] }
  | _ => none }
def lawS2911AModelRow : OpenClaim := { program := "ybulkbhgm", sum := "0f1fb6efeb5150f8045e9e791081ed7567cb91766458194a4209232479b94782", func := "example.com/ebbline/ebbline/internal/casefile.LawS2911AModel", spec := "lawS2911AModel", apart := false }
def LawS2911AModelSaid : Prop := lawS2911AModelRow.holds Yba.pinned (OpenSpec.ofChange lawS2911AModelSpec)

/-- ITS FALSE NEIGHBOUR: 'it returns false'. Refute it at one input. -/
def lawS2911AModelWrong : ChangeSpec := { name := "lawS2911AModel", fn := fun _ => fun
  | [d1, d2] => { results := [.lit (.bool false)], args := [d1, d2] }
  | _ => none }
def LawS2911AModelWrongFalsely : Prop := lawS2911AModelRow.holds Yba.pinned (OpenSpec.ofChange lawS2911AModelWrong)

/-- 'casefile.LawS2911AFirstHit': WHATEVER THE INPUT: true; the input reads as it did. -/
def lawS2911AFirstHitSpec : ChangeSpec := { name := "lawS2911AFirstHit", fn := fun _ => fun
  | [d1, d2] => { results := [.lit (.bool true)], args := [d1, d2] }
  | _ => none }
def lawS2911AFirstHitRow : OpenClaim := { program := "ybulkbhgm", sum := "0f1fb6efeb5150f8045e9e791081ed7567cb91766458194a4209232479b94782", func := "example.com/ebbline/ebbline/internal/casefile.LawS2911AFirstHit", spec := "lawS2911AFirstHit", apart := false }
def LawS2911AFirstHitSaid : Prop := lawS2911AFirstHitRow.holds Yba.pinned (OpenSpec.ofChange lawS2911AFirstHitSpec)

/-- ITS FALSE NEIGHBOUR: 'it returns false'. Refute it at one input. -/
def lawS2911AFirstHitWrong : ChangeSpec := { name := "lawS2911AFirstHit", fn := fun _ => fun
  | [d1, d2] => { results := [.lit (.bool false)], args := [d1, d2] }
  | _ => none }
def LawS2911AFirstHitWrongFalsely : Prop := lawS2911AFirstHitRow.holds Yba.pinned (OpenSpec.ofChange lawS2911AFirstHitWrong)

/-- 'rules.LawS2911BRank': WHATEVER THE INPUT: true; the input reads as it did. -/
def lawS2911BRankSpec : ChangeSpec := { name := "lawS2911BRank", fn := fun _ => fun
  | [d] => { results := [.lit (.bool true)], args := [d] }
  | _ => none }
def lawS2911BRankRow : OpenClaim := { program := "ybulkbhgm", sum := "0f1fb6efeb5150f8045e9e791081ed7567cb91766458194a4209232479b94782", func := "example.com/ebbline/ebbline/internal/rules.LawS2911BRank", spec := "lawS2911BRank", unfollowed := true, recurses := true, apart := false }
def LawS2911BRankSaid : Prop := lawS2911BRankRow.holds Yba.pinned (OpenSpec.ofChange lawS2911BRankSpec)

/-- ITS FALSE NEIGHBOUR: 'it returns false'. Refute it at one input. -/
def lawS2911BRankWrong : ChangeSpec := { name := "lawS2911BRank", fn := fun _ => fun
  | [d] => { results := [.lit (.bool false)], args := [d] }
  | _ => none }
def LawS2911BRankWrongFalsely : Prop := lawS2911BRankRow.holds Yba.pinned (OpenSpec.ofChange lawS2911BRankWrong)

/-- 'rules.LawS2911BShift': WHATEVER THE INPUT: true; the input reads as it did. -/
def lawS2911BShiftSpec : ChangeSpec := { name := "lawS2911BShift", fn := fun _ => fun
  | [d1, d2] => { results := [.lit (.bool true)], args := [d1, d2] }
  | _ => none }
def lawS2911BShiftRow : OpenClaim := { program := "ybulkbhgm", sum := "0f1fb6efeb5150f8045e9e791081ed7567cb91766458194a4209232479b94782", func := "example.com/ebbline/ebbline/internal/rules.LawS2911BShift", spec := "lawS2911BShift", unfollowed := true, recurses := true, apart := false }
def LawS2911BShiftSaid : Prop := lawS2911BShiftRow.holds Yba.pinned (OpenSpec.ofChange lawS2911BShiftSpec)

/-- ITS FALSE NEIGHBOUR: 'it returns false'. Refute it at one input. -/
def lawS2911BShiftWrong : ChangeSpec := { name := "lawS2911BShift", fn := fun _ => fun
  | [d1, d2] => { results := [.lit (.bool false)], args := [d1, d2] }
  | _ => none }
def LawS2911BShiftWrongFalsely : Prop := lawS2911BShiftRow.holds Yba.pinned (OpenSpec.ofChange lawS2911BShiftWrong)

/-- 'rules.LawS2911CScript': WHATEVER THE INPUT: true; the input reads as it did. -/
def lawS2911CScriptSpec : ChangeSpec := { name := "lawS2911CScript", fn := fun _ => fun
  | [d] => { results := [.lit (.bool true)], args := [d] }
  | _ => none }
def lawS2911CScriptRow : OpenClaim := { program := "ybulkbhgm", sum := "0f1fb6efeb5150f8045e9e791081ed7567cb91766458194a4209232479b94782", func := "example.com/ebbline/ebbline/internal/rules.LawS2911CScript", spec := "lawS2911CScript", apart := false }
def LawS2911CScriptSaid : Prop := lawS2911CScriptRow.holds Yba.pinned (OpenSpec.ofChange lawS2911CScriptSpec)

/-- ITS FALSE NEIGHBOUR: 'it returns false'. Refute it at one input. -/
def lawS2911CScriptWrong : ChangeSpec := { name := "lawS2911CScript", fn := fun _ => fun
  | [d] => { results := [.lit (.bool false)], args := [d] }
  | _ => none }
def LawS2911CScriptWrongFalsely : Prop := lawS2911CScriptRow.holds Yba.pinned (OpenSpec.ofChange lawS2911CScriptWrong)

end Rows
end Go.Proofs.Ybulkbhgm
