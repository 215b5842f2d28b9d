/-
  DERIVED. GIVEN WITH THE SEED: THE CARDS: each row of YbulkafswFmtRows.lean that lists a variable, with what it lists TIED to the program's text (the seventh form; the later family's looks); each row that meets fmt, with fmt's text TOLD by the authors' own Lean function (tested against real Go, not proved from fmt's source: count such statements apart). THE CARD IS WHAT COUNTS. Prove the row's statement (the work); the ties are given (YbulkafswFmtTie.lean); close each card by the builder's one call (the guide's Derived/Test/ToyasCard.lean, 'card_holds'). Laid BY PROGRAM, IN A SANDBOX (cutbox-door.mjs). By AI agents, Wed Nov 11 2026. No macro, syntax, notation, axiom, sorry.
-/
import Derived.Test.YbulkafswFmtRows
import GoSem.ClaimSeven
namespace Go.Proofs.YbulkafswFmt
namespace Rows

/-- THE TOLD CARD OF 'reserveframe.LawS1582AHeaderName'. -/
def lawS1582AHeaderNameCard : Claim7 := { stood := { row := lawS1582AHeaderNameRow, standIns := [], harness := (true, "a26734b10d96b89676d9c146ac4b004b94dbba33f01a4b9d37c89833212e2571"), looks := true }, told := true, goes := false }
def LawS1582AHeaderNameToldSaid : Prop := Claim7.holds Ybaf.pinned (.plain (OpenSpec.ofChange lawS1582AHeaderNameSpec)) lawS1582AHeaderNameCard
/-- ITS FALSE NEIGHBOUR. Refute it at one input. -/
def LawS1582AHeaderNameToldWrongFalsely : Prop := Claim7.holds Ybaf.pinned (.plain (OpenSpec.ofChange lawS1582AHeaderNameWrong)) lawS1582AHeaderNameCard

/-- THE TOLD AND TIED CARD OF 'reserveframe.LawS1582BExact'. -/
def lawS1582BExactCard : Claim7 := { stood := { row := lawS1582BExactRow, standIns := [], harness := (true, "a26734b10d96b89676d9c146ac4b004b94dbba33f01a4b9d37c89833212e2571"), looks := true }, told := true, laidByText := true, laidKinds := [.sentinel, .sentinel, .sentinel, .sentinel, .called], laidTests := true, laidLooks := .later, goes := false }
def LawS1582BExactToldSaid : Prop := Claim7.holds Ybaf.pinned (.plain (OpenSpec.ofChange lawS1582BExactSpec)) lawS1582BExactCard
/-- ITS FALSE NEIGHBOUR. Refute it at one input. -/
def LawS1582BExactToldWrongFalsely : Prop := Claim7.holds Ybaf.pinned (.plain (OpenSpec.ofChange lawS1582BExactWrong)) lawS1582BExactCard

/-- THE TOLD AND TIED CARD OF 'reserveframe.LawS1582BAccepts'. -/
def lawS1582BAcceptsCard : Claim7 := { stood := { row := lawS1582BAcceptsRow, standIns := [], harness := (true, "a26734b10d96b89676d9c146ac4b004b94dbba33f01a4b9d37c89833212e2571"), looks := true }, told := true, laidByText := true, laidKinds := [.sentinel, .sentinel, .sentinel, .sentinel, .called], laidTests := true, laidLooks := .later, goes := false }
def LawS1582BAcceptsToldSaid : Prop := Claim7.holds Ybaf.pinned (.plain (OpenSpec.ofChange lawS1582BAcceptsSpec)) lawS1582BAcceptsCard
/-- ITS FALSE NEIGHBOUR. Refute it at one input. -/
def LawS1582BAcceptsToldWrongFalsely : Prop := Claim7.holds Ybaf.pinned (.plain (OpenSpec.ofChange lawS1582BAcceptsWrong)) lawS1582BAcceptsCard
end Rows
end Go.Proofs.YbulkafswFmt
