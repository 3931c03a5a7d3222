/-
  DERIVED. GIVEN WITH THE SEED: THE CARDS: each row of YbulkldcFmtRows.lean that lists a variable, with what it lists TIED to the program's text (the seventh form; the later family's looks); each row that meets fmt, with fmt's text TOLD by the authors' own Lean function (tested against real Go, not proved from fmt's source: count such statements apart). THE CARD IS WHAT COUNTS. Prove the row's statement (the work); the ties are given (YbulkldcFmtTie.lean); close each card by the builder's one call (the guide's Derived/Test/ToyasCard.lean, 'card_holds'). Laid BY PROGRAM, IN A SANDBOX (cutbox-door.mjs). By AI agents, Wed Nov 11 2026. No macro, syntax, notation, axiom, sorry.
-/
import Derived.Test.YbulkldcFmtRows
import GoSem.ClaimSeven
namespace Go.Proofs.YbulkldcFmt
namespace Rows

/-- THE TOLD CARD OF 'ledger.LawS0587AKeepsFirst'. -/
def lawS0587AKeepsFirstCard : Claim7 := { stood := { row := lawS0587AKeepsFirstRow, standIns := [], harness := (true, "5dbeb55773fcffa0192e5650b10654b82f59db2f77e1da764902ef8f5cb1edd7"), looks := true }, told := true, goes := false }
def LawS0587AKeepsFirstToldSaid : Prop := Claim7.holds Ybaf.pinned (.plain (OpenSpec.ofChange lawS0587AKeepsFirstSpec)) lawS0587AKeepsFirstCard
/-- ITS FALSE NEIGHBOUR. Refute it at one input. -/
def LawS0587AKeepsFirstToldWrongFalsely : Prop := Claim7.holds Ybaf.pinned (.plain (OpenSpec.ofChange lawS0587AKeepsFirstWrong)) lawS0587AKeepsFirstCard

/-- THE TOLD CARD OF 'ledger.LawS0587ANothingAfter'. -/
def lawS0587ANothingAfterCard : Claim7 := { stood := { row := lawS0587ANothingAfterRow, standIns := [], harness := (true, "5dbeb55773fcffa0192e5650b10654b82f59db2f77e1da764902ef8f5cb1edd7"), looks := true }, told := true, goes := false }
def LawS0587ANothingAfterToldSaid : Prop := Claim7.holds Ybaf.pinned (.plain (OpenSpec.ofChange lawS0587ANothingAfterSpec)) lawS0587ANothingAfterCard
/-- ITS FALSE NEIGHBOUR. Refute it at one input. -/
def LawS0587ANothingAfterToldWrongFalsely : Prop := Claim7.holds Ybaf.pinned (.plain (OpenSpec.ofChange lawS0587ANothingAfterWrong)) lawS0587ANothingAfterCard

/-- THE TOLD CARD OF 'group.LawS0587CFill'. -/
def lawS0587CFillCard : Claim7 := { stood := { row := lawS0587CFillRow, standIns := [], harness := (true, "5dbeb55773fcffa0192e5650b10654b82f59db2f77e1da764902ef8f5cb1edd7"), looks := true }, told := true, goes := false }
def LawS0587CFillToldSaid : Prop := Claim7.holds Ybaf.pinned (.plain (OpenSpec.ofChange lawS0587CFillSpec)) lawS0587CFillCard
/-- ITS FALSE NEIGHBOUR. Refute it at one input. -/
def LawS0587CFillToldWrongFalsely : Prop := Claim7.holds Ybaf.pinned (.plain (OpenSpec.ofChange lawS0587CFillWrong)) lawS0587CFillCard
end Rows
end Go.Proofs.YbulkldcFmt
