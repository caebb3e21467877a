/-
  No cell of these rows narrows 'for every input' (looked for: loops, veiled, ifaces, maps, wideKeys, modest, calm, conditions, laid).
  DERIVED. THE GIVEN ROWS OF THIS SEAT. 3 by the template 'for every input the law returns true; each argument reads behind the call as it read before'; 0 by the template 'total and deterministic' (their statements: YbulkbhkuFmtTotals.lean).
  GIVEN WITH THE SEED: the statements are not yours to turn. If you find one false, say at which input.
  Laid BY PROGRAM, IN A SANDBOX (cutbox-rows.mjs): the forced cells as the released guide's own fill.sh prints them over the translation 47ae4751366791c5… (all of the seat's roots in one cut). By AI agents, Wed Nov 11 2026. No macro, syntax, notation, axiom, sorry.
-/
import Derived.Test.YbulkbhkuFmtChecked
import GoSem.Claim
import GoSem.ClaimJoined
import GoSem.ClaimMapViews
import Derived.JoinedTies
import Derived.KernelRfl
namespace Go.Proofs.YbulkbhkuFmt
/- THE CELL 'sum', in the pinned program and in every row, IS THE sha256 OF THE DUMP (.gsa) THAT YbulkbhkuFmtProg.lean LOADS. Nothing in Lean hashes anything: it is a label: what it is worth is what the hold of that sum in a sandbox is worth. -/
noncomputable def Ybaf.pinned : Pinned := { name := "ybulkbhkufmt", sum := "47ae4751366791c5964ad8ad10f6165acf97b118be82eff07b35712eaa35970a", checked := Ybaf.checked }
namespace Rows
def none {H : Type} : Left H := { results := [], args := [] }

/-- 'evenkeel.LawS2919BFresh': WHATEVER THE INPUT: true; the input reads as it did. -/
def lawS2919BFreshSpec : ChangeSpec := { name := "lawS2919BFresh", fn := fun _ => fun
  | [d1, d2, d3] => { results := [.lit (.bool true)], args := [d1, d2, d3] }
  | _ => none }
def lawS2919BFreshRow : OpenClaim := { program := "ybulkbhkufmt", sum := "47ae4751366791c5964ad8ad10f6165acf97b118be82eff07b35712eaa35970a", func := "example.com/evenkeel/evenkeel.LawS2919BFresh", spec := "lawS2919BFresh", stops := ["fmt.errorf"], inPlace := ["fmt.errorf"], apart := false }
/-- NO THEOREM (fmt's text is open here; it may be false): for the released tool's asking of the row's closed facts alone. THE STATEMENT IS 'LawS2919BFreshToldSaid' (YbulkbhkuFmtCards.lean). -/
def LawS2919BFreshFormAsk : Prop := lawS2919BFreshRow.holds Ybaf.pinned (OpenSpec.ofChange lawS2919BFreshSpec)

/-- ITS FALSE NEIGHBOUR: 'it returns false'. Refute it at one input. -/
def lawS2919BFreshWrong : ChangeSpec := { name := "lawS2919BFresh", fn := fun _ => fun
  | [d1, d2, d3] => { results := [.lit (.bool false)], args := [d1, d2, d3] }
  | _ => none }
def LawS2919BFreshWrongFormAsk : Prop := lawS2919BFreshRow.holds Ybaf.pinned (OpenSpec.ofChange lawS2919BFreshWrong)

/-- 'evenkeel.LawS2919BSticky': WHATEVER THE INPUT: true; the input reads as it did. -/
def lawS2919BStickySpec : ChangeSpec := { name := "lawS2919BSticky", fn := fun _ => fun
  | [d1, d2, d3] => { results := [.lit (.bool true)], args := [d1, d2, d3] }
  | _ => none }
def lawS2919BStickyRow : OpenClaim := { program := "ybulkbhkufmt", sum := "47ae4751366791c5964ad8ad10f6165acf97b118be82eff07b35712eaa35970a", func := "example.com/evenkeel/evenkeel.LawS2919BSticky", spec := "lawS2919BSticky", stops := ["fmt.errorf"], inPlace := ["fmt.errorf"], apart := false }
/-- NO THEOREM (fmt's text is open here; it may be false): for the released tool's asking of the row's closed facts alone. THE STATEMENT IS 'LawS2919BStickyToldSaid' (YbulkbhkuFmtCards.lean). -/
def LawS2919BStickyFormAsk : Prop := lawS2919BStickyRow.holds Ybaf.pinned (OpenSpec.ofChange lawS2919BStickySpec)

/-- ITS FALSE NEIGHBOUR: 'it returns false'. Refute it at one input. -/
def lawS2919BStickyWrong : ChangeSpec := { name := "lawS2919BSticky", fn := fun _ => fun
  | [d1, d2, d3] => { results := [.lit (.bool false)], args := [d1, d2, d3] }
  | _ => none }
def LawS2919BStickyWrongFormAsk : Prop := lawS2919BStickyRow.holds Ybaf.pinned (OpenSpec.ofChange lawS2919BStickyWrong)

/-- 'evenkeel.LawS2919BScript': WHATEVER THE INPUT: true; the input reads as it did. -/
def lawS2919BScriptSpec : ChangeSpec := { name := "lawS2919BScript", fn := fun _ => fun
  | [d1, d2, d3] => { results := [.lit (.bool true)], args := [d1, d2, d3] }
  | _ => none }
def lawS2919BScriptRow : OpenClaim := { program := "ybulkbhkufmt", sum := "47ae4751366791c5964ad8ad10f6165acf97b118be82eff07b35712eaa35970a", func := "example.com/evenkeel/evenkeel.LawS2919BScript", spec := "lawS2919BScript", stops := ["fmt.errorf"], inPlace := ["fmt.errorf"], apart := false }
/-- NO THEOREM (fmt's text is open here; it may be false): for the released tool's asking of the row's closed facts alone. THE STATEMENT IS 'LawS2919BScriptToldSaid' (YbulkbhkuFmtCards.lean). -/
def LawS2919BScriptFormAsk : Prop := lawS2919BScriptRow.holds Ybaf.pinned (OpenSpec.ofChange lawS2919BScriptSpec)

/-- ITS FALSE NEIGHBOUR: 'it returns false'. Refute it at one input. -/
def lawS2919BScriptWrong : ChangeSpec := { name := "lawS2919BScript", fn := fun _ => fun
  | [d1, d2, d3] => { results := [.lit (.bool false)], args := [d1, d2, d3] }
  | _ => none }
def LawS2919BScriptWrongFormAsk : Prop := lawS2919BScriptRow.holds Ybaf.pinned (OpenSpec.ofChange lawS2919BScriptWrong)

end Rows
end Go.Proofs.YbulkbhkuFmt
