/-
  DERIVED. Seat b2918a: (time.Time).Add and Equal.
-/
import Derived.Test.YbulkbhkgTime
import Derived.Laws.ResultCell
namespace Go.Proofs.Ybulkbhkg
open Go.RowKit

attribute [local go_sem] and_top and_low andNot_low or_zero

theorem add_hi (a b d q r : Int) (w : World) (h0 : 0 ≤ a) (h1 : a < 1000000000) (hb0 : -90000000000 ≤ b) (hb1 : b ≤ 90000000000)
    (hq : d.tdiv 1000000000 = q) (hr : d.tmod 1000000000 = r) (hq0 : -9223372037 ≤ q) (hq1 : q ≤ 9223372037) (hr0 : -1000000000 < r) (hr1 : r < 1000000000) (hn : 1000000000 ≤ a + r) :
    Calls Yba.prog 5 #[.agg #[.int .u64 a, .int .i64 b, .pointer none], .int .i64 d] w fun e w' => e = .returned (.agg #[.int .u64 (a + r - 1000000000), .int .i64 (b + (q + 1)), .pointer none]) ∧ Below w.heap.size w w' := by
  have ho : bits .or .u64 0 (a + r - 1000000000) = a + r - 1000000000 := or_zero _ (by omega) (by omega)
  have ht : bits .and .u64 (a + r - 1000000000) 9223372036854775808 = 0 := and_top _ (by omega) (by omega)
  go_enter Yba.func5, Yba.ntmps5
  go_wp2_with (first | (go_at_call 12; go_must (refine (nsec_any _ _ a _ h0 h1 (by go_simp)).mono ?_); rintro e w' ⟨rfl, rfl⟩) | (go_at_call 13; go_must (refine (addSec_any _ _ (a + r - 1000000000) b (q + 1) _ (by omega) (by omega) (by omega) (by omega) (by omega) (by omega) (by go_simp) (by go_simp) (by go_simp)).mono ?_); rintro e w' ⟨rfl, rfl⟩))
  refine bodyPost_ret (v := .agg #[.int .u64 (a + r - 1000000000), .int .i64 (b + (q + 1)), .pointer none]) (by simp [results, Yba.results5, go_sem]) rfl ⟨rfl, ?_⟩
  repeat first | exact Below.refl _ _ | refine Below.setCell ?_ (by simp) _ | refine Below.alloc ?_ (by simp) _

theorem add_lo (a b d q r : Int) (w : World) (h0 : 0 ≤ a) (h1 : a < 1000000000) (hb0 : -90000000000 ≤ b) (hb1 : b ≤ 90000000000)
    (hq : d.tdiv 1000000000 = q) (hr : d.tmod 1000000000 = r) (hq0 : -9223372037 ≤ q) (hq1 : q ≤ 9223372037) (hr0 : -1000000000 < r) (hr1 : r < 1000000000) (hn : a + r < 0) :
    Calls Yba.prog 5 #[.agg #[.int .u64 a, .int .i64 b, .pointer none], .int .i64 d] w fun e w' => e = .returned (.agg #[.int .u64 (a + r + 1000000000), .int .i64 (b + (q - 1)), .pointer none]) ∧ Below w.heap.size w w' := by
  have ho : bits .or .u64 0 (a + r + 1000000000) = a + r + 1000000000 := or_zero _ (by omega) (by omega)
  have ht : bits .and .u64 (a + r + 1000000000) 9223372036854775808 = 0 := and_top _ (by omega) (by omega)
  go_enter Yba.func5, Yba.ntmps5
  go_wp2_with (first | (go_at_call 12; go_must (refine (nsec_any _ _ a _ h0 h1 (by go_simp)).mono ?_); rintro e w' ⟨rfl, rfl⟩) | (go_at_call 13; go_must (refine (addSec_any _ _ (a + r + 1000000000) b (q - 1) _ (by omega) (by omega) (by omega) (by omega) (by omega) (by omega) (by go_simp) (by go_simp) (by go_simp)).mono ?_); rintro e w' ⟨rfl, rfl⟩))
  refine bodyPost_ret (v := .agg #[.int .u64 (a + r + 1000000000), .int .i64 (b + (q - 1)), .pointer none]) (by simp [results, Yba.results5, go_sem]) rfl ⟨rfl, ?_⟩
  repeat first | exact Below.refl _ _ | refine Below.setCell ?_ (by simp) _ | refine Below.alloc ?_ (by simp) _

theorem add_mid (a b d q r : Int) (w : World) (h0 : 0 ≤ a) (h1 : a < 1000000000) (hb0 : -90000000000 ≤ b) (hb1 : b ≤ 90000000000)
    (hq : d.tdiv 1000000000 = q) (hr : d.tmod 1000000000 = r) (hq0 : -9223372037 ≤ q) (hq1 : q ≤ 9223372037) (hr0 : -1000000000 < r) (hr1 : r < 1000000000) (hn : 0 ≤ a + r) (hn1 : a + r < 1000000000) :
    Calls Yba.prog 5 #[.agg #[.int .u64 a, .int .i64 b, .pointer none], .int .i64 d] w fun e w' => e = .returned (.agg #[.int .u64 (a + r), .int .i64 (b + q), .pointer none]) ∧ Below w.heap.size w w' := by
  have ho : bits .or .u64 0 (a + r) = a + r := or_zero _ (by omega) (by omega)
  have ht : bits .and .u64 (a + r) 9223372036854775808 = 0 := and_top _ (by omega) (by omega)
  go_enter Yba.func5, Yba.ntmps5
  go_wp2_with (first | (go_at_call 12; go_must (refine (nsec_any _ _ a _ h0 h1 (by go_simp)).mono ?_); rintro e w' ⟨rfl, rfl⟩) | (go_at_call 13; go_must (refine (addSec_any _ _ (a + r) b q _ (by omega) (by omega) (by omega) (by omega) (by omega) (by omega) (by go_simp) (by go_simp) (by go_simp)).mono ?_); rintro e w' ⟨rfl, rfl⟩))
  refine bodyPost_ret (v := .agg #[.int .u64 (a + r), .int .i64 (b + q), .pointer none]) (by simp [results, Yba.results5, go_sem]) rfl ⟨rfl, ?_⟩
  repeat first | exact Below.refl _ _ | refine Below.setCell ?_ (by simp) _ | refine Below.alloc ?_ (by simp) _

/-- The time value of T nanoseconds behind the zero time. -/
def tm (T : Int) : Value := .agg #[.int .u64 (T % 1000000000), .int .i64 (T / 1000000000), .pointer none]

theorem tm_mk {a b T : Int} (h0 : 0 ≤ a) (h1 : a < 1000000000) (h : b * 1000000000 + a = T) : Value.agg #[.int .u64 a, .int .i64 b, .pointer none] = tm T := by
  have e1 : a = T % 1000000000 := by omega
  have e2 : b = T / 1000000000 := by omega
  unfold tm
  rw [← e1, ← e2]

/-- (time.Time).Add: T + d. -/
theorem add_any (T d : Int) (w : World) (hT0 : -80000000000000000000 ≤ T) (hT1 : T ≤ 80000000000000000000) (hd0 : -9223372036854775808 ≤ d) (hd1 : d ≤ 9223372036854775807) :
    Calls Yba.prog 5 #[tm T, .int .i64 d] w fun e w' => e = .returned (tm (T + d)) ∧ Below w.heap.size w w' := by
  unfold tm
  have hq : d.tdiv 1000000000 = d.tdiv 1000000000 := rfl
  generalize hqq : d.tdiv 1000000000 = q at hq
  generalize hrr : d.tmod 1000000000 = r
  have hdr : d = 1000000000 * q + r := by rw [← hqq, ← hrr]; exact (Int.mul_tdiv_add_tmod d 1000000000).symm
  have hr0 : -1000000000 < r ∧ r < 1000000000 := by
    rw [← hrr]
    constructor
    · have := Int.tmod_lt_of_pos (-d) (show (0:Int) < 1000000000 by decide)
      rw [Int.neg_tmod] at this
      omega
    · exact Int.tmod_lt_of_pos d (by decide)
  have a0 : 0 ≤ T % 1000000000 := by omega
  have a1 : T % 1000000000 < 1000000000 := by omega
  have b0 : -90000000000 ≤ T / 1000000000 := by omega
  have b1 : T / 1000000000 ≤ 90000000000 := by omega
  have q0 : -9223372037 ≤ q := by omega
  have q1 : q ≤ 9223372037 := by omega
  have hTT : T / 1000000000 * 1000000000 + T % 1000000000 = T := by omega
  generalize T % 1000000000 = a at *
  generalize T / 1000000000 = b at *
  by_cases c1 : 1000000000 ≤ a + r
  · refine (add_hi a b d q r w a0 a1 b0 b1 hqq hrr q0 q1 hr0.1 hr0.2 c1).mono ?_
    rintro e w' ⟨rfl, hb⟩
    exact ⟨by rw [tm_mk (T := T + d) (by omega) (by omega) (by omega)]; rfl, hb⟩
  · by_cases c2 : a + r < 0
    · refine (add_lo a b d q r w a0 a1 b0 b1 hqq hrr q0 q1 hr0.1 hr0.2 c2).mono ?_
      rintro e w' ⟨rfl, hb⟩
      exact ⟨by rw [tm_mk (T := T + d) (by omega) (by omega) (by omega)]; rfl, hb⟩
    · refine (add_mid a b d q r w a0 a1 b0 b1 hqq hrr q0 q1 hr0.1 hr0.2 (by omega) (by omega)).mono ?_
      rintro e w' ⟨rfl, hb⟩
      exact ⟨by rw [tm_mk (T := T + d) (by omega) (by omega) (by omega)]; rfl, hb⟩

/-- (time.Time).Equal at one and the same time. -/
theorem equal_same (a b : Int) (w : World) (h0 : 0 ≤ a) (h1 : a < 1000000000) :
    Calls Yba.prog 9 #[.agg #[.int .u64 a, .int .i64 b, .pointer none], .agg #[.int .u64 a, .int .i64 b, .pointer none]] w fun e w' => e = .returned (.bool true) ∧ Below w.heap.size w w' := by
  have hs : bits .and .u64 a a = a := by
    rw [u64_and a a h0 (by omega) h0 (by omega), Nat.and_self]; omega
  go_enter Yba.func9, Yba.ntmps9
  go_wp2_with (first | (go_at_call 19; go_must (refine (sec_any _ _ a b _ h0 h1 (by go_simp) (by go_simp)).mono ?_); rintro e w' ⟨rfl, rfl⟩) | (go_at_call 12; go_must (refine (nsec_any _ _ a _ h0 h1 (by go_simp)).mono ?_); rintro e w' ⟨rfl, rfl⟩))
  go_ret
  refine ⟨rfl, ?_⟩
  repeat first | exact Below.refl _ _ | refine Below.setCell ?_ (by simp) _ | refine Below.alloc ?_ (by simp) _

theorem equal_tm (T : Int) (w : World) : Calls Yba.prog 9 #[tm T, tm T] w fun e w' => e = .returned (.bool true) ∧ Below w.heap.size w w' :=
  equal_same _ _ w (by omega) (by omega)

end Go.Proofs.Ybulkbhkg
