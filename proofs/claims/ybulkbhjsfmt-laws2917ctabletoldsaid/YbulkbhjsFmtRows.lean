/-
  No cell of these rows narrows 'for every input' (looked for: loops, veiled, ifaces, maps, wideKeys, modest, calm, conditions, laid).
  DERIVED. THE GIVEN ROWS OF THIS SEAT. 2 by the template 'for every input the law returns true; each argument reads behind the call as it read before'; 0 by the template 'total and deterministic' (their statements: YbulkbhjsFmtTotals.lean).
  GIVEN WITH THE SEED: the statements are not yours to turn. If you find one false, say at which input.
  Laid BY PROGRAM, IN A SANDBOX (cutbox-rows.mjs): the forced cells as the released guide's own fill.sh prints them over the translation 5721f5daf75ddffa… (all of the seat's roots in one cut). By AI agents, Wed Nov 11 2026. No macro, syntax, notation, axiom, sorry.
-/
import Derived.Test.YbulkbhjsFmtChecked
import GoSem.Claim
import GoSem.ClaimJoined
import GoSem.ClaimMapViews
import Derived.JoinedTies
import Derived.KernelRfl
namespace Go.Proofs.YbulkbhjsFmt
/- THE CELL 'sum', in the pinned program and in every row, IS THE sha256 OF THE DUMP (.gsa) THAT YbulkbhjsFmtProg.lean LOADS. Nothing in Lean hashes anything: it is a label: what it is worth is what the hold of that sum in a sandbox is worth. -/
noncomputable def Ybaf.pinned : Pinned := { name := "ybulkbhjsfmt", sum := "5721f5daf75ddffa683d83daf24c4751dbc214a7b69417528db267503fe3a4b7", checked := Ybaf.checked }
namespace Rows
def none {H : Type} : Left H := { results := [], args := [] }

/-- 'casefile.LawS2917CTable': WHATEVER THE INPUT: true; the input reads as it did. -/
def lawS2917CTableSpec : ChangeSpec := { name := "lawS2917CTable", fn := fun _ => fun
  | [d1, d2] => { results := [.lit (.bool true)], args := [d1, d2] }
  | _ => none }
def lawS2917CTableRow : OpenClaim := { program := "ybulkbhjsfmt", sum := "5721f5daf75ddffa683d83daf24c4751dbc214a7b69417528db267503fe3a4b7", func := "example.com/casefile/casefile.LawS2917CTable", spec := "lawS2917CTable", stops := ["fmt.errorf"], inPlace := ["fmt.errorf"], apart := false }
/-- NO THEOREM (fmt's text is open here; it may be false): for the released tool's asking of the row's closed facts alone. THE STATEMENT IS 'LawS2917CTableToldSaid' (YbulkbhjsFmtCards.lean). -/
def LawS2917CTableFormAsk : Prop := lawS2917CTableRow.holds Ybaf.pinned (OpenSpec.ofChange lawS2917CTableSpec)

/-- ITS FALSE NEIGHBOUR: 'it returns false'. Refute it at one input. -/
def lawS2917CTableWrong : ChangeSpec := { name := "lawS2917CTable", fn := fun _ => fun
  | [d1, d2] => { results := [.lit (.bool false)], args := [d1, d2] }
  | _ => none }
def LawS2917CTableWrongFormAsk : Prop := lawS2917CTableRow.holds Ybaf.pinned (OpenSpec.ofChange lawS2917CTableWrong)

/-- 'casefile.LawS2917CRaw': WHATEVER THE INPUT: true; the input reads as it did. -/
def lawS2917CRawSpec : ChangeSpec := { name := "lawS2917CRaw", fn := fun _ => fun
  | [d] => { results := [.lit (.bool true)], args := [d] }
  | _ => none }
def lawS2917CRawRow : OpenClaim := { program := "ybulkbhjsfmt", sum := "5721f5daf75ddffa683d83daf24c4751dbc214a7b69417528db267503fe3a4b7", func := "example.com/casefile/casefile.LawS2917CRaw", spec := "lawS2917CRaw", stops := ["fmt.errorf"], inPlace := ["fmt.errorf"], apart := false }
/-- NO THEOREM (fmt's text is open here; it may be false): for the released tool's asking of the row's closed facts alone. THE STATEMENT IS 'LawS2917CRawToldSaid' (YbulkbhjsFmtCards.lean). -/
def LawS2917CRawFormAsk : Prop := lawS2917CRawRow.holds Ybaf.pinned (OpenSpec.ofChange lawS2917CRawSpec)

/-- ITS FALSE NEIGHBOUR: 'it returns false'. Refute it at one input. -/
def lawS2917CRawWrong : ChangeSpec := { name := "lawS2917CRaw", fn := fun _ => fun
  | [d] => { results := [.lit (.bool false)], args := [d] }
  | _ => none }
def LawS2917CRawWrongFormAsk : Prop := lawS2917CRawRow.holds Ybaf.pinned (OpenSpec.ofChange lawS2917CRawWrong)

end Rows
end Go.Proofs.YbulkbhjsFmt
