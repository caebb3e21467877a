/-
  DERIVED. Seat b2925a: != at two pointers to a 'wide', and at two values of type 'wide'.
-/
import Derived.Test.YbulkbhoaModel
import Derived.Laws.StructEq
namespace Go.Proofs.Ybulkbhoa
open Go.RowKit
set_option linter.unusedVariables false

theorem equal_ptr (d b : Nat) (w : World) : (Op.equalIn (d + 1) 28 (.pointer (some ⟨b, 0, none⟩)) (.pointer (some ⟨b, 0, none⟩))).run Yba.prog w = .ok true w := by
  rw [Op.equalIn]
  simp only [Sem.run_bind, run_underlying Yba.underlying28, Result.andThen_ok, Yba.sizeOf26]
  simp [sameAddr]

@[go_sem] theorem neq_ptr (b : Nat) (w : World) : (binOp .neq 28 (.pointer (some ⟨b, 0, none⟩)) (.pointer (some ⟨b, 0, none⟩))).run Yba.prog w = .ok (.bool false) w := by
  simp only [binOp]
  simp [Op.equal, Op.maxDepth, equal_ptr 9999]

theorem equal_arr (d : Nat) (f : Nat → Int) (w : World) : (Op.equalIn (d + 1 + 1) 24 (.agg #[.int .u64 (f 0), .int .u64 (f 1), .int .u64 (f 2), .int .u64 (f 3), .int .u64 (f 4), .int .u64 (f 5), .int .u64 (f 6), .int .u64 (f 7), .int .u64 (f 8), .int .u64 (f 9)]) (.agg #[.int .u64 (f 0), .int .u64 (f 1), .int .u64 (f 2), .int .u64 (f 3), .int .u64 (f 4), .int .u64 (f 5), .int .u64 (f 6), .int .u64 (f 7), .int .u64 (f 8), .int .u64 (f 9)])).run Yba.prog w = .ok true w := by
  have u3 := Yba.underlying23
  have a3 := Yba.isAgg23
  have z3 := Yba.sizeOf23
  rw [Op.equalIn]
  simp only [Sem.run_bind, run_underlying Yba.underlying24, Result.andThen_ok]
  simp only [Std.Legacy.Range.forIn_eq_forIn_range', Std.Legacy.Range.size, Nat.sub_zero, Nat.add_sub_cancel, Nat.div_one, List.range'_succ, List.range'_zero, List.forIn_cons, List.forIn_nil]
  go_simp

theorem equal_wide (n : Int) (f : Nat → Int) (w : World) : (Op.equalIn 10000 26 (.agg (wcells n f)) (.agg (wcells n f))).run Yba.prog w = .ok true w := by
  show (Op.equalIn 10000 26 (.agg #[.int .i64 n, .int .u64 (f 0), .int .u64 (f 1), .int .u64 (f 2), .int .u64 (f 3), .int .u64 (f 4), .int .u64 (f 5), .int .u64 (f 6), .int .u64 (f 7), .int .u64 (f 8), .int .u64 (f 9)]) (.agg #[.int .i64 n, .int .u64 (f 0), .int .u64 (f 1), .int .u64 (f 2), .int .u64 (f 3), .int .u64 (f 4), .int .u64 (f 5), .int .u64 (f 6), .int .u64 (f 7), .int .u64 (f 8), .int .u64 (f 9)])).run Yba.prog w = .ok true w
  have u3 := Yba.underlying3
  have a3 := Yba.isAgg3
  have z3 := Yba.sizeOf3
  have a24 := Yba.isAgg24
  have z24 := Yba.sizeOf24
  have hS : Yba.prog.underlying 26 = some (.struct (Yba.prog.fieldsOf 26)) := by kernel_rfl
  have ha := equal_arr 9997 f
  rw [show (10000 : Nat) = 9999 + 1 from rfl, run_equalIn_agg w 9999 26 _ _ hS (by kernel_rfl)]
  simp only [Program.fieldsOf, Yba.underlying26]
  go_simp

@[go_sem] theorem neq_wide (n : Int) (f : Nat → Int) (w : World) : (binOp .neq 26 (.agg (wcells n f)) (.agg (wcells n f))).run Yba.prog w = .ok (.bool false) w := by
  rw [run_neq_struct, equal_wide]
  rfl
end Go.Proofs.Ybulkbhoa
