/-
  DERIVED. Seat b2925a: zzs2925bsame (8).
-/
import Derived.Test.YbulkbhoaLong
namespace Go.Proofs.Ybulkbhoa
open Go.RowKit
set_option linter.unusedVariables false

theorem tab20 (p : Nat → Int) : tab 20 p = #[.int .u64 (p 0), .int .u64 (p 1), .int .u64 (p 2), .int .u64 (p 3), .int .u64 (p 4), .int .u64 (p 5), .int .u64 (p 6), .int .u64 (p 7), .int .u64 (p 8), .int .u64 (p 9),
    .int .u64 (p 10), .int .u64 (p 11), .int .u64 (p 12), .int .u64 (p 13), .int .u64 (p 14), .int .u64 (p 15), .int .u64 (p 16), .int .u64 (p 17), .int .u64 (p 18), .int .u64 (p 19)] := rfl

theorem box_tw (w : World) (p : Nat → Int) : ∃ w1, w1 = w.alloc (.cells #[.int .u64 (p 0), .int .u64 (p 1), .int .u64 (p 2), .int .u64 (p 3), .int .u64 (p 4), .int .u64 (p 5), .int .u64 (p 6), .int .u64 (p 7), .int .u64 (p 8), .int .u64 (p 9),
    .int .u64 (p 10), .int .u64 (p 11), .int .u64 (p 12), .int .u64 (p 13), .int .u64 (p 14), .int .u64 (p 15), .int .u64 (p 16), .int .u64 (p 17), .int .u64 (p 18), .int .u64 (p 19)] 30) ∧
    Tw w1 w.heap.size p ∧ Below w.heap.size w w1 :=
  ⟨_, rfl, new_at _ _, (Below.refl _ _).alloc (Nat.le_refl _) _⟩

set_option maxHeartbeats 1000000 in
theorem same_any (bz k : Nat) (z p : Nat → Int) (w : World) (hz : Wd w bz k z) (hk : k ≤ 10) (he : ∀ j, j < k → z j = p j) :
    Calls Yba.prog 8 #[.pointer (some ⟨bz, 0, none⟩), .agg (tab 20 p), .int .i64 k] w fun e w' => e = .returned (.bool true) ∧ Below w.heap.size w w' := by
  rw [tab20]
  go_enter Yba.func8, Yba.ntmps8
  have c1 := hz.cn
  have c2 := hz.lt
  have c3 : bz ≠ w.heap.size := by omega
  go_wp2
  go_loopw [7] (fun vi wr => ∃ i : Nat, vi = .int .i64 i ∧ i ≤ k ∧ Tw wr w.heap.size p ∧ Below w.heap.size w wr) (fun vi _ => k - (intOf vi).toNat)
  case atStart => exact ⟨0, rfl, by omega, new_at _ _, (Below.refl _ _).alloc (Nat.le_refl _) _⟩
  case round =>
    obtain ⟨i, rfl, hik, hT, hB⟩ := hrel
    by_cases hlt : i < k
    · have hltb : ((i : Int) < k) = True := by simp; omega
      have hzr : Wd wr bz k z := hz.keep (hB.block _ c2)
      have d1 := hzr.cw i (by omega)
      have d2 := hT.c i (by omega)
      have d3 := he i hlt
      rw [d3] at d1
      have d4 : (p i != p i) = false := by simp
      go_wp2_with fail
      go_quiet (fail)
      go_wp2
      go_roundw
      case rel => exact ⟨i + 1, by go_num, by omega, hT, ⟨hB.os, hB.tape, hB.output, hB.size, hB.block⟩⟩
      case measure => simp [intOf]; omega
    · obtain rfl : i = k := by omega
      have hltb : ¬ ((i : Int) < i) := by omega
      go_wp2
      go_ret
      exact ⟨rfl, hB⟩
end Go.Proofs.Ybulkbhoa
