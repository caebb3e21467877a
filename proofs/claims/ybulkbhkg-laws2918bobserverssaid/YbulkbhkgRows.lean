/-
  No cell of these rows narrows 'for every input' (looked for: loops, veiled, ifaces, maps, wideKeys, modest, calm, conditions, laid).
  DERIVED. THE GIVEN ROWS OF THIS SEAT. 2 by the template 'for every input the law returns true; each argument reads behind the call as it read before'; 0 by the template 'total and deterministic' (their statements: YbulkbhkgTotals.lean).
  GIVEN WITH THE SEED: the statements are not yours to turn. If you find one false, say at which input.
  Laid BY PROGRAM, IN A SANDBOX (cutbox-rows.mjs): the forced cells as the released guide's own fill.sh prints them over the translation c0ab60111e9e5394… (all of the seat's roots in one cut). By AI agents, Wed Nov 11 2026. No macro, syntax, notation, axiom, sorry.
-/
import Derived.Test.YbulkbhkgChecked
import GoSem.Claim
import GoSem.ClaimJoined
import GoSem.ClaimMapViews
import Derived.JoinedTies
import Derived.KernelRfl
namespace Go.Proofs.Ybulkbhkg
/- THE CELL 'sum', in the pinned program and in every row, IS THE sha256 OF THE DUMP (.gsa) THAT YbulkbhkgProg.lean LOADS. Nothing in Lean hashes anything: it is a label: what it is worth is what the hold of that sum in a sandbox is worth. -/
noncomputable def Yba.pinned : Pinned := { name := "ybulkbhkg", sum := "c0ab60111e9e53948d5a975aa6eaadc6455db8d1dd3cd05cb2e5cb27878b73fc", checked := Yba.checked }
namespace Rows
def none {H : Type} : Left H := { results := [], args := [] }

/-- 'faux-clock.LawS2918BObservers': WHATEVER THE INPUT: true; the input reads as it did. -/
def lawS2918BObserversSpec : ChangeSpec := { name := "lawS2918BObservers", fn := fun _ => fun
  | [d1, d2, d3, d4, d5] => { results := [.lit (.bool true)], args := [d1, d2, d3, d4, d5] }
  | _ => none }
def lawS2918BObserversRow : OpenClaim := { program := "ybulkbhkg", sum := "c0ab60111e9e53948d5a975aa6eaadc6455db8d1dd3cd05cb2e5cb27878b73fc", func := "example.com/faux-clock/faux-clock.LawS2918BObservers", spec := "lawS2918BObservers", inPlace := ["sync/atomic.StoreUint32"], unfollowed := true, recurses := true, apart := false }
def LawS2918BObserversSaid : Prop := lawS2918BObserversRow.holds Yba.pinned (OpenSpec.ofChange lawS2918BObserversSpec)

/-- ITS FALSE NEIGHBOUR: 'it returns false'. Refute it at one input. -/
def lawS2918BObserversWrong : ChangeSpec := { name := "lawS2918BObservers", fn := fun _ => fun
  | [d1, d2, d3, d4, d5] => { results := [.lit (.bool false)], args := [d1, d2, d3, d4, d5] }
  | _ => none }
def LawS2918BObserversWrongFalsely : Prop := lawS2918BObserversRow.holds Yba.pinned (OpenSpec.ofChange lawS2918BObserversWrong)

/-- 'faux-clock.LawS2918BHistory': WHATEVER THE INPUT: true; the input reads as it did. -/
def lawS2918BHistorySpec : ChangeSpec := { name := "lawS2918BHistory", fn := fun _ => fun
  | [d1, d2, d3, d4, d5] => { results := [.lit (.bool true)], args := [d1, d2, d3, d4, d5] }
  | _ => none }
def lawS2918BHistoryRow : OpenClaim := { program := "ybulkbhkg", sum := "c0ab60111e9e53948d5a975aa6eaadc6455db8d1dd3cd05cb2e5cb27878b73fc", func := "example.com/faux-clock/faux-clock.LawS2918BHistory", spec := "lawS2918BHistory", inPlace := ["sync/atomic.StoreUint32"], unfollowed := true, recurses := true, apart := false }
def LawS2918BHistorySaid : Prop := lawS2918BHistoryRow.holds Yba.pinned (OpenSpec.ofChange lawS2918BHistorySpec)

/-- ITS FALSE NEIGHBOUR: 'it returns false'. Refute it at one input. -/
def lawS2918BHistoryWrong : ChangeSpec := { name := "lawS2918BHistory", fn := fun _ => fun
  | [d1, d2, d3, d4, d5] => { results := [.lit (.bool false)], args := [d1, d2, d3, d4, d5] }
  | _ => none }
def LawS2918BHistoryWrongFalsely : Prop := lawS2918BHistoryRow.holds Yba.pinned (OpenSpec.ofChange lawS2918BHistoryWrong)

end Rows
end Go.Proofs.Ybulkbhkg
