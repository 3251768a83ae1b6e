/-
  NARROWER THAN 'FOR EVERY INPUT', by the rows' own cells (each row's printed sentence says how): LawS2934CLastTimeout: laid · LawS2934CReceiveTimeout: laid.
  DERIVED. THE GIVEN ROWS OF THIS SEAT. 2 by the template 'for every input the law returns true; each argument reads behind the call as it read before'; 0 by the template 'total and deterministic' (their statements: YbulkbhswFmtTotals.lean).
  GIVEN WITH THE SEED: the statements are not yours to turn. If you find one false, say at which input.
  Laid BY PROGRAM, IN A SANDBOX (cutbox-rows.mjs): the forced cells as the released guide's own fill.sh prints them over the translation a47ddb1f7485c936… (all of the seat's roots in one cut). By AI agents, Wed Nov 11 2026. No macro, syntax, notation, axiom, sorry.
-/
import Derived.Test.YbulkbhswFmtChecked
import GoSem.Claim
import GoSem.ClaimJoined
import GoSem.ClaimMapViews
import Derived.JoinedTies
import Derived.KernelRfl
namespace Go.Proofs.YbulkbhswFmt
/- THE CELL 'sum', in the pinned program and in every row, IS THE sha256 OF THE DUMP (.gsa) THAT YbulkbhswFmtProg.lean LOADS. Nothing in Lean hashes anything: it is a label: what it is worth is what the hold of that sum in a sandbox is worth. -/
noncomputable def Ybaf.pinned : Pinned := { name := "ybulkbhswfmt", sum := "a47ddb1f7485c936b823e1b1c386402c498303cf76a3097dea7c9647ec93b825", checked := Ybaf.checked }
namespace Rows
def none {H : Type} : Left H := { results := [], args := [] }

/- WHAT THE LISTED PACKAGE-LEVEL VARIABLES READ AS WHEN THE CALL BEGINS. Each datum BY PROGRAM (the guide's laid-datum.mjs) off the statement by which the dump's own 'gosem.cut.vars' lays the variable. In a bare row this is a premise. The card (YbulkbhswFmtCards.lean) ties it to the program's text. -/
def laid_example_com_congruent_congruent_waitSettingNames {H : Type} : DataW H := .agg [.lit (.string []), .lit (.string [84, 105, 109, 101, 111, 117, 116]), .lit (.string [70, 111, 114]), .lit (.string [73, 110, 116, 101, 114, 118, 97, 108])]

/-- 'congruent.LawS2934CLastTimeout': WHATEVER THE INPUT: true; the input reads as it did. -/
def lawS2934CLastTimeoutSpec : ChangeSpec := { name := "lawS2934CLastTimeout", vars := ["example.com/congruent/congruent.waitSettingNames"], fn := fun _ => fun
  | [d1, d2, g1] => { results := [.lit (.bool true)], args := [d1, d2], vars := [g1] }
  | _ => none }
def lawS2934CLastTimeoutRow : OpenClaim := { program := "ybulkbhswfmt", sum := "a47ddb1f7485c936b823e1b1c386402c498303cf76a3097dea7c9647ec93b825", func := "example.com/congruent/congruent.LawS2934CLastTimeout", spec := "lawS2934CLastTimeout", stops := ["fmt.Sprintf, its operands' methods called"], inPlace := ["fmt.Sprintf"], unfollowed := true, recurses := true, named := ["example.com/congruent/congruent.waitSettingNames"], apart := false, laid := [("example.com/congruent/congruent.waitSettingNames", laid_example_com_congruent_congruent_waitSettingNames)] }
/-- NO THEOREM (fmt's text is open here; it may be false): for the released tool's asking of the row's closed facts alone. THE STATEMENT IS 'LawS2934CLastTimeoutToldSaid' (YbulkbhswFmtCards.lean). -/
def LawS2934CLastTimeoutFormAsk : Prop := lawS2934CLastTimeoutRow.holds Ybaf.pinned (OpenSpec.ofChange lawS2934CLastTimeoutSpec)

/-- ITS FALSE NEIGHBOUR: 'it returns false'. Refute it at one input. -/
def lawS2934CLastTimeoutWrong : ChangeSpec := { name := "lawS2934CLastTimeout", vars := ["example.com/congruent/congruent.waitSettingNames"], fn := fun _ => fun
  | [d1, d2, g1] => { results := [.lit (.bool false)], args := [d1, d2], vars := [g1] }
  | _ => none }
def LawS2934CLastTimeoutWrongFormAsk : Prop := lawS2934CLastTimeoutRow.holds Ybaf.pinned (OpenSpec.ofChange lawS2934CLastTimeoutWrong)

/-- 'congruent.LawS2934CReceiveTimeout': WHATEVER THE INPUT: true; the input reads as it did. -/
def lawS2934CReceiveTimeoutSpec : ChangeSpec := { name := "lawS2934CReceiveTimeout", vars := ["example.com/congruent/congruent.waitSettingNames"], fn := fun _ => fun
  | [d, g1] => { results := [.lit (.bool true)], args := [d], vars := [g1] }
  | _ => none }
def lawS2934CReceiveTimeoutRow : OpenClaim := { program := "ybulkbhswfmt", sum := "a47ddb1f7485c936b823e1b1c386402c498303cf76a3097dea7c9647ec93b825", func := "example.com/congruent/congruent.LawS2934CReceiveTimeout", spec := "lawS2934CReceiveTimeout", stops := ["fmt.Sprintf, its operands' methods called"], inPlace := ["fmt.Sprintf"], unfollowed := true, recurses := true, named := ["example.com/congruent/congruent.waitSettingNames"], apart := false, laid := [("example.com/congruent/congruent.waitSettingNames", laid_example_com_congruent_congruent_waitSettingNames)] }
/-- NO THEOREM (fmt's text is open here; it may be false): for the released tool's asking of the row's closed facts alone. THE STATEMENT IS 'LawS2934CReceiveTimeoutToldSaid' (YbulkbhswFmtCards.lean). -/
def LawS2934CReceiveTimeoutFormAsk : Prop := lawS2934CReceiveTimeoutRow.holds Ybaf.pinned (OpenSpec.ofChange lawS2934CReceiveTimeoutSpec)

/-- ITS FALSE NEIGHBOUR: 'it returns false'. Refute it at one input. -/
def lawS2934CReceiveTimeoutWrong : ChangeSpec := { name := "lawS2934CReceiveTimeout", vars := ["example.com/congruent/congruent.waitSettingNames"], fn := fun _ => fun
  | [d, g1] => { results := [.lit (.bool false)], args := [d], vars := [g1] }
  | _ => none }
def LawS2934CReceiveTimeoutWrongFormAsk : Prop := lawS2934CReceiveTimeoutRow.holds Ybaf.pinned (OpenSpec.ofChange lawS2934CReceiveTimeoutWrong)

end Rows
end Go.Proofs.YbulkbhswFmt
