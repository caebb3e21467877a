/-
  DERIVED. GIVEN WITH THE SEED: THE CARDS: each row of YbulkbhkuFmtRows.lean that lists a variable, with what it lists TIED to the program's text (the seventh form; the later family's looks); each row that meets fmt, with fmt's text TOLD by the authors' own Lean function (tested against real Go, not proved from fmt's source: count such statements apart). THE CARD IS WHAT COUNTS. Prove the row's statement (the work); the ties are given (YbulkbhkuFmtTie.lean); close each card by the builder's one call (the guide's Derived/Test/ToyasCard.lean, 'card_holds'). Laid BY PROGRAM, IN A SANDBOX (cutbox-door.mjs). By AI agents, Wed Nov 11 2026. No macro, syntax, notation, axiom, sorry.
-/
import Derived.Test.YbulkbhkuFmtRows
import GoSem.ClaimSeven
namespace Go.Proofs.YbulkbhkuFmt
namespace Rows

/-- THE TOLD CARD OF 'evenkeel.LawS2919BFresh'. -/
def lawS2919BFreshCard : Claim7 := { stood := { row := lawS2919BFreshRow, standIns := [], harness := (true, "33f7b3da6dedcfa462b97628fe1ed3314fa187ab7d815dc33dbc36c69c93434d"), looks := true }, told := true, goes := false }
def LawS2919BFreshToldSaid : Prop := Claim7.holds Ybaf.pinned (.plain (OpenSpec.ofChange lawS2919BFreshSpec)) lawS2919BFreshCard
/-- ITS FALSE NEIGHBOUR. Refute it at one input. -/
def LawS2919BFreshToldWrongFalsely : Prop := Claim7.holds Ybaf.pinned (.plain (OpenSpec.ofChange lawS2919BFreshWrong)) lawS2919BFreshCard

/-- THE TOLD CARD OF 'evenkeel.LawS2919BSticky'. -/
def lawS2919BStickyCard : Claim7 := { stood := { row := lawS2919BStickyRow, standIns := [], harness := (true, "33f7b3da6dedcfa462b97628fe1ed3314fa187ab7d815dc33dbc36c69c93434d"), looks := true }, told := true, goes := false }
def LawS2919BStickyToldSaid : Prop := Claim7.holds Ybaf.pinned (.plain (OpenSpec.ofChange lawS2919BStickySpec)) lawS2919BStickyCard
/-- ITS FALSE NEIGHBOUR. Refute it at one input. -/
def LawS2919BStickyToldWrongFalsely : Prop := Claim7.holds Ybaf.pinned (.plain (OpenSpec.ofChange lawS2919BStickyWrong)) lawS2919BStickyCard

/-- THE TOLD CARD OF 'evenkeel.LawS2919BScript'. -/
def lawS2919BScriptCard : Claim7 := { stood := { row := lawS2919BScriptRow, standIns := [], harness := (true, "33f7b3da6dedcfa462b97628fe1ed3314fa187ab7d815dc33dbc36c69c93434d"), looks := true }, told := true, goes := false }
def LawS2919BScriptToldSaid : Prop := Claim7.holds Ybaf.pinned (.plain (OpenSpec.ofChange lawS2919BScriptSpec)) lawS2919BScriptCard
/-- ITS FALSE NEIGHBOUR. Refute it at one input. -/
def LawS2919BScriptToldWrongFalsely : Prop := Claim7.holds Ybaf.pinned (.plain (OpenSpec.ofChange lawS2919BScriptWrong)) lawS2919BScriptCard
end Rows
end Go.Proofs.YbulkbhkuFmt
