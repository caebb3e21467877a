/-
  DERIVED. Seat b2918a: tickEvent, asks, impliedDeadline, (*eventLog).add and addTicks.
-/
import Derived.Test.YbulkbhkgClk
import Derived.Deep.AppendLies
import Derived.Deep.RegionLaw
import Derived.Deep.DrawnRows
namespace Go.Proofs.Ybulkbhkg
open Go.RowKit
set_option linter.unusedVariables false

/-- The cells of a tick's event. -/
def evCells (T : Int) : Array Value := #[.int .u8 4, .int .u8 4, .int .i64 0, .int .u64 (T % 1000000000), .int .i64 (T / 1000000000), .pointer none, .int .u64 (T % 1000000000), .int .i64 (T / 1000000000), .pointer none]

theorem tickEvent_raw (a b : Int) (w : World) :
    Calls Yba.prog 17 #[.agg #[.int .u64 a, .int .i64 b, .pointer none]] w fun e w' => e = .returned (.agg #[.int .u8 4, .int .u8 4, .int .i64 0, .int .u64 a, .int .i64 b, .pointer none, .int .u64 a, .int .i64 b, .pointer none]) ∧ Below w.heap.size w w' := by
  go_enter Yba.func17, Yba.ntmps17
  go_wp2
  refine bodyPost_ret (v := .agg #[.int .u8 4, .int .u8 4, .int .i64 0, .int .u64 a, .int .i64 b, .pointer none, .int .u64 a, .int .i64 b, .pointer none]) (by simp [results, Yba.results17, go_sem]) rfl ⟨rfl, ?_⟩
  repeat first | exact Below.refl _ _ | refine Below.drew ?_ | refine Below.setCell ?_ (by first | (simp; done) | (simp; omega)) _ | refine Below.alloc ?_ (by first | (simp; done) | (simp; omega)) _

theorem tickEvent_any (T : Int) (w : World) : Calls Yba.prog 17 #[tm T] w fun e w' => e = .returned (.agg (evCells T)) ∧ Below w.heap.size w w' := tickEvent_raw _ _ w

theorem asks_fired (w : World) : Calls Yba.prog 25 #[.int .u8 4] w fun e w' => e = .returned (.bool false) ∧ w' = w := by
  go_enter Yba.func25, Yba.ntmps25
  go_wp2
  go_ret
  exact ⟨rfl, rfl⟩

theorem implied_raw (a b : Int) (w : World) :
    Calls Yba.prog 26 #[.agg #[.int .u8 4, .int .u8 4, .int .i64 0, .int .u64 a, .int .i64 b, .pointer none, .int .u64 a, .int .i64 b, .pointer none]] w fun e w' => e = .returned (.agg #[.int .u64 a, .int .i64 b, .pointer none]) ∧ Below w.heap.size w w' := by
  go_enter Yba.func26, Yba.ntmps26
  go_wp2
  refine bodyPost_ret (v := .agg #[.int .u64 a, .int .i64 b, .pointer none]) (by simp [results, Yba.results26, go_sem]) rfl ⟨rfl, ?_⟩
  repeat first | exact Below.refl _ _ | refine Below.drew ?_ | refine Below.setCell ?_ (by first | (simp; done) | (simp; omega)) _ | refine Below.alloc ?_ (by first | (simp; done) | (simp; omega)) _

theorem implied_any (T : Int) (w : World) : Calls Yba.prog 26 #[.agg (evCells T)] w fun e w' => e = .returned (tm T) ∧ Below w.heap.size w w' := implied_raw _ _ w

end Go.Proofs.Ybulkbhkg
