/-
  DERIVED. GIVEN WITH THE SEED: THE CARDS: each row of YbulkdieuFmtRows.lean that lists a variable, with what it lists TIED to the program's text (the seventh form; the later family's looks); each row that meets fmt, with fmt's text TOLD by the authors' own Lean function (tested against real Go, not proved from fmt's source: count such statements apart). THE CARD IS WHAT COUNTS. Prove the row's statement (the work); the ties are given (YbulkdieuFmtTie.lean); close each card by the builder's one call (the guide's Derived/Test/ToyasCard.lean, 'card_holds'). Laid BY PROGRAM, IN A SANDBOX (cutbox-door.mjs). By AI agents, Wed Nov 11 2026. No macro, syntax, notation, axiom, sorry.
-/
import Derived.Test.YbulkdieuFmtRows
import GoSem.ClaimSeven
namespace Go.Proofs.YbulkdieuFmt
namespace Rows

/-- THE TOLD CARD OF 'errorpage.LawS5467APart'. -/
def lawS5467APartCard : Claim7 := { stood := { row := lawS5467APartRow, standIns := [], harness := (true, "53872492c43de0b1a80f42f44e725e97c9364fa4be3723fa71ce1e39213587e8"), looks := false }, told := true, goes := false }
def LawS5467APartToldSaid : Prop := Claim7.holds Ybaf.pinned (.plain (OpenSpec.ofChange lawS5467APartSpec)) lawS5467APartCard
/-- ITS FALSE NEIGHBOUR. Refute it at one input. -/
def LawS5467APartToldWrongFalsely : Prop := Claim7.holds Ybaf.pinned (.plain (OpenSpec.ofChange lawS5467APartWrong)) lawS5467APartCard
end Rows
end Go.Proofs.YbulkdieuFmt
