/-
  DERIVED. GIVEN WITH THE SEED: THE CARDS: each row of YbulkoluFmtRows.lean that lists a variable, with what it lists TIED to the program's text (the seventh form; the later family's looks); each row that meets fmt, with fmt's text TOLD by the authors' own Lean function (tested against real Go, not proved from fmt's source: count such statements apart). THE CARD IS WHAT COUNTS. Prove the row's statement (the work); the ties are given (YbulkoluFmtTie.lean); close each card by the builder's one call (the guide's Derived/Test/ToyasCard.lean, 'card_holds'). Laid BY PROGRAM, IN A SANDBOX (cutbox-door.mjs). By AI agents, Wed Nov 11 2026. No macro, syntax, notation, axiom, sorry.
-/
import Derived.Test.YbulkoluFmtRows
import GoSem.ClaimSeven
namespace Go.Proofs.YbulkoluFmt
namespace Rows

/-- THE TOLD CARD OF 'runtimetest.LawS0748BCalls'. -/
def lawS0748BCallsCard : Claim7 := { stood := { row := lawS0748BCallsRow, standIns := [], harness := (true, "d30ae6dfabd6b8305a0b671721ed8fd0649f1e5e66a58513014fb2b7a853195a"), looks := true }, told := true, goes := false }
def LawS0748BCallsToldSaid : Prop := Claim7.holds Ybaf.pinned (.plain (OpenSpec.ofChange lawS0748BCallsSpec)) lawS0748BCallsCard
/-- ITS FALSE NEIGHBOUR. Refute it at one input. -/
def LawS0748BCallsToldWrongFalsely : Prop := Claim7.holds Ybaf.pinned (.plain (OpenSpec.ofChange lawS0748BCallsWrong)) lawS0748BCallsCard

/-- THE TOLD CARD OF 'termination.LawS0748CInitiator'. -/
def lawS0748CInitiatorCard : Claim7 := { stood := { row := lawS0748CInitiatorRow, standIns := [], harness := (true, "d30ae6dfabd6b8305a0b671721ed8fd0649f1e5e66a58513014fb2b7a853195a"), looks := true }, told := true, goes := false }
def LawS0748CInitiatorToldSaid : Prop := Claim7.holds Ybaf.pinned (.plain (OpenSpec.ofChange lawS0748CInitiatorSpec)) lawS0748CInitiatorCard
/-- ITS FALSE NEIGHBOUR. Refute it at one input. -/
def LawS0748CInitiatorToldWrongFalsely : Prop := Claim7.holds Ybaf.pinned (.plain (OpenSpec.ofChange lawS0748CInitiatorWrong)) lawS0748CInitiatorCard

/-- THE TOLD CARD OF 'termination.LawS0748CEngaged'. -/
def lawS0748CEngagedCard : Claim7 := { stood := { row := lawS0748CEngagedRow, standIns := [], harness := (true, "d30ae6dfabd6b8305a0b671721ed8fd0649f1e5e66a58513014fb2b7a853195a"), looks := true }, told := true, goes := false }
def LawS0748CEngagedToldSaid : Prop := Claim7.holds Ybaf.pinned (.plain (OpenSpec.ofChange lawS0748CEngagedSpec)) lawS0748CEngagedCard
/-- ITS FALSE NEIGHBOUR. Refute it at one input. -/
def LawS0748CEngagedToldWrongFalsely : Prop := Claim7.holds Ybaf.pinned (.plain (OpenSpec.ofChange lawS0748CEngagedWrong)) lawS0748CEngagedCard
end Rows
end Go.Proofs.YbulkoluFmt
