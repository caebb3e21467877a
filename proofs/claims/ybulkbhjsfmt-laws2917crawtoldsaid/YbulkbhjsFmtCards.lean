/-
  DERIVED. GIVEN WITH THE SEED: THE CARDS: each row of YbulkbhjsFmtRows.lean that lists a variable, with what it lists TIED to the program's text (the seventh form; the later family's looks); each row that meets fmt, with fmt's text TOLD by the authors' own Lean function (tested against real Go, not proved from fmt's source: count such statements apart). THE CARD IS WHAT COUNTS. Prove the row's statement (the work); the ties are given (YbulkbhjsFmtTie.lean); close each card by the builder's one call (the guide's Derived/Test/ToyasCard.lean, 'card_holds'). Laid BY PROGRAM, IN A SANDBOX (cutbox-door.mjs). By AI agents, Wed Nov 11 2026. No macro, syntax, notation, axiom, sorry.
-/
import Derived.Test.YbulkbhjsFmtRows
import GoSem.ClaimSeven
namespace Go.Proofs.YbulkbhjsFmt
namespace Rows

/-- THE TOLD CARD OF 'casefile.LawS2917CTable'. -/
def lawS2917CTableCard : Claim7 := { stood := { row := lawS2917CTableRow, standIns := [], harness := (true, "67fc8ca1d2d0b2da116e137ecb1369984d24eea28ee6bd0420caa25bb4ca5350"), looks := false }, told := true, goes := false }
def LawS2917CTableToldSaid : Prop := Claim7.holds Ybaf.pinned (.plain (OpenSpec.ofChange lawS2917CTableSpec)) lawS2917CTableCard
/-- ITS FALSE NEIGHBOUR. Refute it at one input. -/
def LawS2917CTableToldWrongFalsely : Prop := Claim7.holds Ybaf.pinned (.plain (OpenSpec.ofChange lawS2917CTableWrong)) lawS2917CTableCard

/-- THE TOLD CARD OF 'casefile.LawS2917CRaw'. -/
def lawS2917CRawCard : Claim7 := { stood := { row := lawS2917CRawRow, standIns := [], harness := (true, "67fc8ca1d2d0b2da116e137ecb1369984d24eea28ee6bd0420caa25bb4ca5350"), looks := false }, told := true, goes := false }
def LawS2917CRawToldSaid : Prop := Claim7.holds Ybaf.pinned (.plain (OpenSpec.ofChange lawS2917CRawSpec)) lawS2917CRawCard
/-- ITS FALSE NEIGHBOUR. Refute it at one input. -/
def LawS2917CRawToldWrongFalsely : Prop := Claim7.holds Ybaf.pinned (.plain (OpenSpec.ofChange lawS2917CRawWrong)) lawS2917CRawCard
end Rows
end Go.Proofs.YbulkbhjsFmt
