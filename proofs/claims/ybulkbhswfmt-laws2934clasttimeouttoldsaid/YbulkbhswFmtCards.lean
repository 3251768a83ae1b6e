/-
  DERIVED. GIVEN WITH THE SEED: THE CARDS: each row of YbulkbhswFmtRows.lean that lists a variable, with what it lists TIED to the program's text (the seventh form; the later family's looks); each row that meets fmt, with fmt's text TOLD by the authors' own Lean function (tested against real Go, not proved from fmt's source: count such statements apart). THE CARD IS WHAT COUNTS. Prove the row's statement (the work); the ties are given (YbulkbhswFmtTie.lean); close each card by the builder's one call (the guide's Derived/Test/ToyasCard.lean, 'card_holds'). Laid BY PROGRAM, IN A SANDBOX (cutbox-door.mjs). By AI agents, Wed Nov 11 2026. No macro, syntax, notation, axiom, sorry.
-/
import Derived.Test.YbulkbhswFmtRows
import GoSem.ClaimSeven
namespace Go.Proofs.YbulkbhswFmt
namespace Rows

/-- THE TOLD AND TIED CARD OF 'congruent.LawS2934CLastTimeout'. -/
def lawS2934CLastTimeoutCard : Claim7 := { stood := { row := lawS2934CLastTimeoutRow, standIns := [], harness := (true, "93f65f3c8866b1b6b1998e245d122ff85c2d1376ae08f738bfd5e8cfc9372813"), looks := true }, told := true, laidByText := true, laidKinds := [.data], laidTests := true, laidLooks := .later, goes := false }
def LawS2934CLastTimeoutToldSaid : Prop := Claim7.holds Ybaf.pinned (.plain (OpenSpec.ofChange lawS2934CLastTimeoutSpec)) lawS2934CLastTimeoutCard
/-- ITS FALSE NEIGHBOUR. Refute it at one input. -/
def LawS2934CLastTimeoutToldWrongFalsely : Prop := Claim7.holds Ybaf.pinned (.plain (OpenSpec.ofChange lawS2934CLastTimeoutWrong)) lawS2934CLastTimeoutCard

/-- THE TOLD AND TIED CARD OF 'congruent.LawS2934CReceiveTimeout'. -/
def lawS2934CReceiveTimeoutCard : Claim7 := { stood := { row := lawS2934CReceiveTimeoutRow, standIns := [], harness := (true, "93f65f3c8866b1b6b1998e245d122ff85c2d1376ae08f738bfd5e8cfc9372813"), looks := true }, told := true, laidByText := true, laidKinds := [.data], laidTests := true, laidLooks := .later, goes := false }
def LawS2934CReceiveTimeoutToldSaid : Prop := Claim7.holds Ybaf.pinned (.plain (OpenSpec.ofChange lawS2934CReceiveTimeoutSpec)) lawS2934CReceiveTimeoutCard
/-- ITS FALSE NEIGHBOUR. Refute it at one input. -/
def LawS2934CReceiveTimeoutToldWrongFalsely : Prop := Claim7.holds Ybaf.pinned (.plain (OpenSpec.ofChange lawS2934CReceiveTimeoutWrong)) lawS2934CReceiveTimeoutCard
end Rows
end Go.Proofs.YbulkbhswFmt
