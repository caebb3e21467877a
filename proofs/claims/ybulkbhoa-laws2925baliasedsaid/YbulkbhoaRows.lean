/-
  No cell of these rows narrows 'for every input' (looked for: loops, veiled, ifaces, maps, wideKeys, modest, calm, conditions, laid).
  DERIVED. THE GIVEN ROWS OF THIS SEAT. 2 by the template 'for every input the law returns true; each argument reads behind the call as it read before'; 0 by the template 'total and deterministic' (their statements: YbulkbhoaTotals.lean).
  GIVEN WITH THE SEED: the statements are not yours to turn. If you find one false, say at which input.
  Laid BY PROGRAM, IN A SANDBOX (cutbox-rows.mjs): the forced cells as the released guide's own fill.sh prints them over the translation da21350e7459bab4… (all of the seat's roots in one cut). By AI agents, Wed Nov 11 2026. No macro, syntax, notation, axiom, sorry.
-/
import Derived.Test.YbulkbhoaChecked
import GoSem.Claim
import GoSem.ClaimJoined
import GoSem.ClaimMapViews
import Derived.JoinedTies
import Derived.KernelRfl
namespace Go.Proofs.Ybulkbhoa
/- THE CELL 'sum', in the pinned program and in every row, IS THE sha256 OF THE DUMP (.gsa) THAT YbulkbhoaProg.lean LOADS. Nothing in Lean hashes anything: it is a label: what it is worth is what the hold of that sum in a sandbox is worth. -/
noncomputable def Yba.pinned : Pinned := { name := "ybulkbhoa", sum := "da21350e7459bab4a77db1682179394dffa4f2f79d982c64fde9d2cc50289e9f", checked := Yba.checked }
namespace Rows
def none {H : Type} : Left H := { results := [], args := [] }

/-- 'yieldwright.LawS2925BProduct': WHATEVER THE INPUT: true; the input reads as it did. -/
def lawS2925BProductSpec : ChangeSpec := { name := "lawS2925BProduct", fn := fun _ => fun
  | [d1, d2, d3] => { results := [.lit (.bool true)], args := [d1, d2, d3] }
  | _ => none }
def lawS2925BProductRow : OpenClaim := { program := "ybulkbhoa", sum := "da21350e7459bab4a77db1682179394dffa4f2f79d982c64fde9d2cc50289e9f", func := "example.com/yieldwright/yieldwright.LawS2925BProduct", spec := "lawS2925BProduct", inPlace := ["math/bits.Add64"], apart := false }
def LawS2925BProductSaid : Prop := lawS2925BProductRow.holds Yba.pinned (OpenSpec.ofChange lawS2925BProductSpec)

/-- ITS FALSE NEIGHBOUR: 'it returns false'. Refute it at one input. -/
def lawS2925BProductWrong : ChangeSpec := { name := "lawS2925BProduct", fn := fun _ => fun
  | [d1, d2, d3] => { results := [.lit (.bool false)], args := [d1, d2, d3] }
  | _ => none }
def LawS2925BProductWrongFalsely : Prop := lawS2925BProductRow.holds Yba.pinned (OpenSpec.ofChange lawS2925BProductWrong)

/-- 'yieldwright.LawS2925BAliased': WHATEVER THE INPUT: true; the input reads as it did. -/
def lawS2925BAliasedSpec : ChangeSpec := { name := "lawS2925BAliased", fn := fun _ => fun
  | [d1, d2, d3] => { results := [.lit (.bool true)], args := [d1, d2, d3] }
  | _ => none }
def lawS2925BAliasedRow : OpenClaim := { program := "ybulkbhoa", sum := "da21350e7459bab4a77db1682179394dffa4f2f79d982c64fde9d2cc50289e9f", func := "example.com/yieldwright/yieldwright.LawS2925BAliased", spec := "lawS2925BAliased", inPlace := ["math/bits.Add64"], apart := false }
def LawS2925BAliasedSaid : Prop := lawS2925BAliasedRow.holds Yba.pinned (OpenSpec.ofChange lawS2925BAliasedSpec)

/-- ITS FALSE NEIGHBOUR: 'it returns false'. Refute it at one input. -/
def lawS2925BAliasedWrong : ChangeSpec := { name := "lawS2925BAliased", fn := fun _ => fun
  | [d1, d2, d3] => { results := [.lit (.bool false)], args := [d1, d2, d3] }
  | _ => none }
def LawS2925BAliasedWrongFalsely : Prop := lawS2925BAliasedRow.holds Yba.pinned (OpenSpec.ofChange lawS2925BAliasedWrong)

end Rows
end Go.Proofs.Ybulkbhoa
