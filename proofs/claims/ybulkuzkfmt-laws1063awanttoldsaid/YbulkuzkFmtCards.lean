/-
  DERIVED. GIVEN WITH THE SEED: THE CARDS: each row of YbulkuzkFmtRows.lean that lists a variable, with what it lists TIED to the program's text (the seventh form; the later family's looks); each row that meets fmt, with fmt's text TOLD by the authors' own Lean function (tested against real Go, not proved from fmt's source: count such statements apart). THE CARD IS WHAT COUNTS. Prove the row's statement (the work); the ties are given (YbulkuzkFmtTie.lean); close each card by the builder's one call (the guide's Derived/Test/ToyasCard.lean, 'card_holds'). Laid BY PROGRAM, IN A SANDBOX (cutbox-door.mjs). By AI agents, Wed Nov 11 2026. No macro, syntax, notation, axiom, sorry.
-/
import Derived.Test.YbulkuzkFmtRows
import GoSem.ClaimSeven
namespace Go.Proofs.YbulkuzkFmt
namespace Rows

/-- THE TOLD AND TIED CARD OF 'node.LawS1063AWant'. -/
def lawS1063AWantCard : Claim7 := { stood := { row := lawS1063AWantRow, standIns := [], harness := (true, "89dc66f171e68326b8cc20c44bd6fcf14a80fd32d023c85ec608392558d58138"), looks := true }, told := true, laidByText := true, laidKinds := [.sentinel, .sentinel], laidTests := true, laidLooks := .later, goes := false }
def LawS1063AWantToldSaid : Prop := Claim7.holds Ybaf.pinned (.plain (OpenSpec.ofChange lawS1063AWantSpec)) lawS1063AWantCard
/-- ITS FALSE NEIGHBOUR. Refute it at one input. -/
def LawS1063AWantToldWrongFalsely : Prop := Claim7.holds Ybaf.pinned (.plain (OpenSpec.ofChange lawS1063AWantWrong)) lawS1063AWantCard

/-- THE TOLD AND TIED CARD OF 'node.LawS1063ADone'. -/
def lawS1063ADoneCard : Claim7 := { stood := { row := lawS1063ADoneRow, standIns := [], harness := (true, "89dc66f171e68326b8cc20c44bd6fcf14a80fd32d023c85ec608392558d58138"), looks := true }, told := true, laidByText := true, laidKinds := [.sentinel, .sentinel], laidTests := true, laidLooks := .later, goes := false }
def LawS1063ADoneToldSaid : Prop := Claim7.holds Ybaf.pinned (.plain (OpenSpec.ofChange lawS1063ADoneSpec)) lawS1063ADoneCard
/-- ITS FALSE NEIGHBOUR. Refute it at one input. -/
def LawS1063ADoneToldWrongFalsely : Prop := Claim7.holds Ybaf.pinned (.plain (OpenSpec.ofChange lawS1063ADoneWrong)) lawS1063ADoneCard

/-- THE TOLD AND TIED CARD OF 'node.LawS1063ALent'. -/
def lawS1063ALentCard : Claim7 := { stood := { row := lawS1063ALentRow, standIns := [], harness := (true, "89dc66f171e68326b8cc20c44bd6fcf14a80fd32d023c85ec608392558d58138"), looks := true }, told := true, laidByText := true, laidKinds := [.sentinel, .sentinel], laidTests := true, laidLooks := .later, goes := false }
def LawS1063ALentToldSaid : Prop := Claim7.holds Ybaf.pinned (.plain (OpenSpec.ofChange lawS1063ALentSpec)) lawS1063ALentCard
/-- ITS FALSE NEIGHBOUR. Refute it at one input. -/
def LawS1063ALentToldWrongFalsely : Prop := Claim7.holds Ybaf.pinned (.plain (OpenSpec.ofChange lawS1063ALentWrong)) lawS1063ALentCard
end Rows
end Go.Proofs.YbulkuzkFmt
