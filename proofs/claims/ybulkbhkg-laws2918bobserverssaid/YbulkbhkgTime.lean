/-
  DERIVED. Seat b2918a: package time's little functions, at times without a monotonic reading (wall below 2^30): walked once.
-/
import Derived.Test.YbulkbhkgRows
import Derived.WalkKit
import Derived.Below
import Derived.Laws.BitsAllLaws
import Derived.Outline
import Derived.WalkSpells
namespace Go.Proofs.Ybulkbhkg
open Go.RowKit

theorem and_top (a : Int) (h0 : 0 ≤ a) (h1 : a < 1000000000) : bits .and .u64 a 9223372036854775808 = 0 := by
  rw [u64_and a _ h0 (by omega) (by decide) (by decide)]
  have : a.toNat &&& (9223372036854775808 : Int).toNat = 0 := by
    apply Nat.eq_of_testBit_eq
    intro i
    rw [Nat.testBit_and, Nat.zero_testBit]
    have e : (9223372036854775808 : Int).toNat = 2 ^ 63 := by decide
    rw [e, Nat.testBit_two_pow]
    by_cases hi : 63 = i
    · subst hi
      have : a.toNat.testBit 63 = false := Nat.testBit_lt_two_pow (by omega)
      simp [this]
    · simp [hi]
  rw [this]; rfl

theorem and_low (a : Int) (h0 : 0 ≤ a) (h1 : a < 1000000000) : bits .and .u64 a 1073741823 = a := by
  rw [u64_and a _ h0 (by omega) (by decide) (by decide)]
  have e : (1073741823 : Int).toNat = 2 ^ 30 - 1 := by decide
  rw [e, Nat.and_two_pow_sub_one_eq_mod, Nat.mod_eq_of_lt (by omega)]
  omega

theorem andNot_low (a : Int) (h0 : 0 ≤ a) (h1 : a < 1000000000) : bits .andNot .u64 a 1073741823 = 0 := by
  rw [u64_andNot a _ h0 (by omega) (by decide) (by decide)]
  have e : 18446744073709551615 - (1073741823 : Int).toNat = 2 ^ 64 - 2 ^ 30 := by decide
  rw [e]
  have : a.toNat &&& (2 ^ 64 - 2 ^ 30) = 0 := by
    apply Nat.eq_of_testBit_eq
    intro i
    rw [Nat.testBit_and, Nat.zero_testBit]
    by_cases hi : i < 30
    · have h2 : (2 ^ 64 - 2 ^ 30 : Nat) = 2 ^ 30 * (2 ^ 34 - 1) := by decide
      rw [h2, Nat.testBit_two_pow_mul]
      simp; omega
    · have : a.toNat.testBit i = false := Nat.testBit_lt_two_pow (Nat.lt_of_lt_of_le (by omega : a.toNat < 2 ^ 30) (Nat.pow_le_pow_right (by omega) (by omega)))
      simp [this]
  rw [this]; rfl

theorem or_zero (a : Int) (h0 : 0 ≤ a) (h1 : a < 1000000000) : bits .or .u64 0 a = a := by
  rw [u64_or 0 a (by omega) (by omega) h0 (by omega)]
  simp; omega

attribute [local go_sem] and_top and_low andNot_low or_zero

theorem nsec_any (g o : Nat) (a : Int) (w : World) (h0 : 0 ≤ a) (h1 : a < 1000000000) (hc : w.cell? ⟨g, o, none⟩ = some (.int .u64 a)) :
    Calls Yba.prog 12 #[.pointer (some ⟨g, o, none⟩)] w fun e w' => e = .returned (.int .i32 a) ∧ w' = w := by
  go_enter Yba.func12, Yba.ntmps12
  go_wp2
  go_ret
  exact ⟨rfl, rfl⟩

theorem sec_any (g o : Nat) (a b : Int) (w : World) (h0 : 0 ≤ a) (h1 : a < 1000000000) (hc : w.cell? ⟨g, o, none⟩ = some (.int .u64 a)) (hc1 : w.cell? ⟨g, o + 1, none⟩ = some (.int .i64 b)) :
    Calls Yba.prog 19 #[.pointer (some ⟨g, o, none⟩)] w fun e w' => e = .returned (.int .i64 b) ∧ w' = w := by
  go_enter Yba.func19, Yba.ntmps19
  go_wp2
  go_ret
  exact ⟨rfl, rfl⟩

theorem unixSec_any (g o : Nat) (a b : Int) (w : World) (h0 : 0 ≤ a) (h1 : a < 1000000000) (hb0 : -100000000000 ≤ b) (hb1 : b ≤ 100000000000) (hc : w.cell? ⟨g, o, none⟩ = some (.int .u64 a)) (hc1 : w.cell? ⟨g, o + 1, none⟩ = some (.int .i64 b)) :
    Calls Yba.prog 29 #[.pointer (some ⟨g, o, none⟩)] w fun e w' => e = .returned (.int .i64 (b + -62135596800)) ∧ w' = w := by
  go_enter Yba.func29, Yba.ntmps29
  go_wp2_with (go_at_call 19; go_must (refine (sec_any g o a b _ h0 h1 hc hc1).mono ?_); rintro e w' ⟨rfl, rfl⟩)
  go_ret
  exact ⟨rfl, rfl⟩

theorem unix_any (a b : Int) (w : World) (h0 : 0 ≤ a) (h1 : a < 1000000000) (hb0 : -100000000000 ≤ b) (hb1 : b ≤ 100000000000) :
    Calls Yba.prog 27 #[.agg #[.int .u64 a, .int .i64 b, .pointer none]] w fun e w' => e = .returned (.int .i64 (b + -62135596800)) ∧ w' = w.alloc (.cells #[.int .u64 a, .int .i64 b, .pointer none] 27) := by
  go_enter Yba.func27, Yba.ntmps27
  go_wp2_with (go_at_call 29; go_must (refine (unixSec_any _ _ a b _ h0 h1 hb0 hb1 (by go_simp) (by go_simp)).mono ?_); rintro e w' ⟨rfl, rfl⟩)
  go_ret
  exact ⟨rfl, rfl⟩

theorem nanosecond_any (a b : Int) (w : World) (h0 : 0 ≤ a) (h1 : a < 1000000000) :
    Calls Yba.prog 28 #[.agg #[.int .u64 a, .int .i64 b, .pointer none]] w fun e w' => e = .returned (.int .i64 a) ∧ w' = w.alloc (.cells #[.int .u64 a, .int .i64 b, .pointer none] 27) := by
  go_enter Yba.func28, Yba.ntmps28
  go_wp2_with (go_at_call 12; go_must (refine (nsec_any _ _ a _ h0 h1 (by go_simp)).mono ?_); rintro e w' ⟨rfl, rfl⟩)
  go_ret
  exact ⟨rfl, rfl⟩

/-- (*Time).addSec without a monotonic reading and without an overflow. -/
theorem addSec_any (g o : Nat) (a b d : Int) (w : World) (h0 : 0 ≤ a) (h1 : a < 1000000000) (hb0 : -100000000000 ≤ b) (hb1 : b ≤ 100000000000) (hd0 : -100000000000 ≤ d) (hd1 : d ≤ 100000000000)
    (hc : w.cell? ⟨g, o, none⟩ = some (.int .u64 a)) (hc1 : w.cell? ⟨g, o + 1, none⟩ = some (.int .i64 b)) (hz : w.frozen? ⟨g, o + 1, none⟩ = false) :
    Calls Yba.prog 13 #[.pointer (some ⟨g, o, none⟩), .int .i64 d] w fun e w' => e = .returned (.tuple #[]) ∧ w' = w.setCell ⟨g, o + 1, none⟩ (.int .i64 (b + d)) := by
  by_cases hp : 0 < d
  · have t1 : decide (b < b + d) = true := by rw [decide_eq_true_eq]; omega
    have t2 : decide (0 < d) = true := by rw [decide_eq_true_eq]; omega
    go_enter Yba.func13, Yba.ntmps13
    go_wp2
    go_end0
    exact ⟨rfl, rfl⟩
  · have t1 : decide (b < b + d) = false := by rw [decide_eq_false_iff_not]; omega
    have t2 : decide (0 < d) = false := by rw [decide_eq_false_iff_not]; omega
    go_enter Yba.func13, Yba.ntmps13
    go_wp2
    go_end0
    exact ⟨rfl, rfl⟩

end Go.Proofs.Ybulkbhkg
