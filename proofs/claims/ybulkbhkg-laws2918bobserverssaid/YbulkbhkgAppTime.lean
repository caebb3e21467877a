/-
  DERIVED. Seat b2918a: (*eventLog).appendTime, the near case.
-/
import Derived.Test.YbulkbhkgVarint
import Derived.Deep.RegionHeld3
import Derived.Deep.DeepCutAuto
namespace Go.Proofs.Ybulkbhkg
open Go.RowKit

theorem int_eq {k : IntKind} {a b : Int} (h : a = b) : Value.int k a = .int k b := by rw [h]

theorem below_grown {w w' : World} (h : Below w.heap.size w w') (row : Option Nat) : w.grownBy w' row :=
  ⟨h.os, h.tape, h.output, h.size, fun k hk _ => h.block k hk⟩

theorem below_fr {w w' : World} (h : Below w.heap.size w w') (v : Value) : Fr w v w' v := ⟨below_grown h _, .inl rfl⟩

theorem below_own {w w' : World} {base : Nat} {e : TypeId} {size : Nat} {v : Value} {n : Nat} {xs : List Value} (h : Below w.heap.size w w') (ho : w.ownsRow base e size v n xs) : w'.ownsRow base e size v n xs :=
  ho.kept (below_grown h none) (by cases hv : v.ownBlock <;> simp)

theorem own_far {w : World} {g : Nat} {e : TypeId} {size : Nat} {v : Value} {n : Nat} {xs : List Value} (ho : w.ownsRow (g + 1) e size v n xs) : some g ≠ v.ownBlock := by
  intro h
  have := (ho.lt g h.symm).1
  omega

set_option maxHeartbeats 1000000 in
theorem appendTime_raw (g n : Nat) (buf : Value) (xs : List Value) (a1 b1 a0 b0 : Int) (w : World)
    (h10 : 0 ≤ a1) (h11 : a1 < 1000000000) (h00 : 0 ≤ a0) (h01 : a0 < 1000000000)
    (hb10 : -100000000000 ≤ b1) (hb11 : b1 ≤ 100000000000) (hb00 : -100000000000 ≤ b0) (hb01 : b0 ≤ 100000000000)
    (hn0 : -2000000000 ≤ b1 - b0) (hn1 : b1 - b0 ≤ 2000000000)
    (h22 : w.cell? ⟨g, 22, none⟩ = some buf) (hz22 : w.frozen? ⟨g, 22, none⟩ = false) (hg : g < w.heap.size)
    (hown : w.ownsRow (g + 1) 5 1 buf n xs) (hlim : n + 10 ≤ 140737488355328) :
    Calls Yba.prog 24 #[.pointer (some ⟨g, 16, none⟩), .agg #[.int .u64 a1, .int .i64 b1, .pointer none], .agg #[.int .u64 a0, .int .i64 b0, .pointer none]] w fun e w' => ∃ a' m' c' w1, e = .returned (.tuple #[]) ∧ w' = w1.setCell ⟨g, 22, none⟩ (.slice a' m' c') ∧
      w1.ownsRow (g + 1) 5 1 (.slice a' m' c') (n + (Lib.uvarint (Lib.zigzag (((b1 - b0) * 1000000000 + (a1 - a0)) * 2))).length) (xs ++ Lib.byteCells (Lib.uvarint (Lib.zigzag (((b1 - b0) * 1000000000 + (a1 - a0)) * 2)))) ∧ Fr w buf w1 (.slice a' m' c') := by
  go_enter Yba.func24, Yba.ntmps24
  go_wp2_with fail
  go_cut [6] (fun s wc => s = .int .i64 (b1 - b0) ∧ wc.cell? ⟨w.heap.size, 0, none⟩ = some (.int .u64 a1) ∧ wc.cell? ⟨w.heap.size, 1, none⟩ = some (.int .i64 b1) ∧ wc.cell? ⟨w.heap.size, 2, none⟩ = some (.pointer none) ∧ wc.cell? ⟨w.heap.size + 1, 0, none⟩ = some (.int .u64 a0) ∧ wc.cell? ⟨w.heap.size + 1, 1, none⟩ = some (.int .i64 b0) ∧ wc.cell? ⟨w.heap.size + 1, 2, none⟩ = some (.pointer none) ∧ w.heap.size + 1 < wc.heap.size ∧ Below w.heap.size w wc)
  case first =>
    go_region_held3 (fun w' => w'.cell? ⟨w.heap.size, 0, none⟩ = some (.int .u64 a1) ∧ w'.cell? ⟨w.heap.size, 1, none⟩ = some (.int .i64 b1) ∧ w'.cell? ⟨w.heap.size, 2, none⟩ = some (.pointer none) ∧ w'.cell? ⟨w.heap.size + 1, 0, none⟩ = some (.int .u64 a0) ∧ w'.cell? ⟨w.heap.size + 1, 1, none⟩ = some (.int .i64 b0) ∧ w'.cell? ⟨w.heap.size + 1, 2, none⟩ = some (.pointer none)) (go_keep)
      (first | (go_at_call_of 27 a1; refine (unix_any a1 b1 _ h10 h11 hb10 hb11).mono ?_; rintro e w' ⟨rfl, rfl⟩) | (go_at_call_of 27 a0; refine (unix_any a0 b0 _ h00 h01 hb00 hb01).mono ?_; rintro e w' ⟨rfl, rfl⟩))
    all_goals
      go_wp2_with fail
      go_meet
      refine ⟨int_eq (by rw [IntWalk.i64_in _ (by omega)]; omega), by go_simp, by go_simp, by go_simp, by go_simp, by go_simp, by go_simp, by simp, ?_⟩
      repeat first | exact Below.refl _ _ | refine Below.drew ?_ | refine Below.setCell ?_ (by first | (simp; done) | (simp; omega)) _ | refine Below.alloc ?_ (by first | (simp; done) | (simp; omega)) _
  case rest =>
    obtain ⟨rfl, c0, c1, c2, c3, c4, c5, hsz, hB⟩ := hcut
    go_wp2_with fail
    go_cut [7] (fun s wd => s = .int .i64 ((b1 - b0) * 1000000000 + (a1 - a0)) ∧ Below wc.heap.size wc wd)
    case first =>
      go_region_held3 (fun w' => w'.cell? ⟨w.heap.size, 0, none⟩ = some (.int .u64 a1) ∧ w'.cell? ⟨w.heap.size, 1, none⟩ = some (.int .i64 b1) ∧ w'.cell? ⟨w.heap.size, 2, none⟩ = some (.pointer none) ∧ w'.cell? ⟨w.heap.size + 1, 0, none⟩ = some (.int .u64 a0) ∧ w'.cell? ⟨w.heap.size + 1, 1, none⟩ = some (.int .i64 b0) ∧ w'.cell? ⟨w.heap.size + 1, 2, none⟩ = some (.pointer none)) (go_keep)
        (first | (go_at_call_of 28 a1; refine (nanosecond_any a1 b1 _ h10 h11).mono ?_; rintro e w' ⟨rfl, rfl⟩) | (go_at_call_of 28 a0; refine (nanosecond_any a0 b0 _ h00 h01).mono ?_; rintro e w' ⟨rfl, rfl⟩))
      all_goals
        go_wp2_with fail
        go_meet
        refine ⟨int_eq (by rw [IntWalk.i64_in ((b1 - b0) * 1000000000) (by omega), IntWalk.i64_in (a1 - a0) (by omega), IntWalk.i64_in _ (by omega)]), ?_⟩
        repeat first | exact Below.refl _ _ | refine Below.drew ?_ | refine Below.setCell ?_ (by first | (simp; done) | (simp; omega)) _ | refine Below.alloc ?_ (by first | (simp; done) | (simp; omega)) _
    case rest =>
      obtain ⟨rfl, hB2⟩ := hcut
      have hBw : Below w.heap.size w wc := hB.trans (hB2.mono hB.size)
      have h22' : wc.cell? ⟨g, 22, none⟩ = some buf := by rw [hBw.cell (p := ⟨g, 22, none⟩) hg]; exact h22
      have hown' := below_own hBw hown
      clear c0 c1 c2 c3 c4 c5 hB hB2 h22 hown
      go_wp2_with fail
      refine (varint_any (g + 1) n _ (by omega) (by omega) buf xs wc hown' (by have := hBw.size; omega) hlim).mono ?_
      rintro e w1 ⟨a', m', c', rfl, -, ho1, hf1⟩
      have hz1 : w1.frozen? ⟨g, 22, none⟩ = false := by
        rw [World.frozen?_of_block (w := wc) (hf1.grown.block g (by have := hBw.size; omega) (own_far hown')), hBw.frozen (p := ⟨g, 22, none⟩) hg]; exact hz22
      have h221 : w1.cell? ⟨g, 22, none⟩ = some buf := by
        rw [World.cell?_of_block (w := wc) (hf1.grown.block g (by have := hBw.size; omega) (own_far hown'))]; exact h22'
      have hfr : Hid (Fr w buf w1 (.slice a' m' c')) := (below_fr hBw buf).trans hf1
      have ho : Hid (w1.ownsRow (g + 1) 5 1 (.slice a' m' c') _ _) := ho1
      clear hf1 ho1 hown'
      go_wp2
      exact bodyPost_ret (v := .tuple #[]) (by simp [results, Yba.results24, go_sem]) rfl ⟨a', m', c', w1, rfl, rfl, ho.out, hfr.out⟩
end Go.Proofs.Ybulkbhkg
