/-
  DERIVED. Seat b2925a: LawS2925BProduct (3).
-/
import Derived.Test.YbulkbhoaEq
namespace Go.Proofs.Ybulkbhoa
open Go.RowKit
set_option linter.unusedVariables false

attribute [-simp] Yba.sizeOf26 Yba.sizeOf30
attribute [-go_sem] run_neq_struct run_eql_struct

theorem wcells_one (n : Int) (f : Nat → Int) : (wcells n f).all (·.oneCell') = true := by
  rw [Array.all_eq_true]
  intro i hi
  rcases i with _ | i <;> simp [wcells, Value.oneCell']

theorem wv_eq (n : Int) (f : Nat → Int) : wv n f = .agg (wcells n f) := rfl

theorem new_wide (w : World) (n : Int) (f : Nat → Int) : ∃ w1, (storeCells ⟨w.heap.size, 0, none⟩ (wcells n f).toList).run Yba.prog (w.alloc (.cells #[.int .i64 0, .int .u64 0, .int .u64 0, .int .u64 0, .int .u64 0, .int .u64 0, .int .u64 0, .int .u64 0, .int .u64 0, .int .u64 0, .int .u64 0] 26)) = .ok () w1 ∧
    Wd w1 w.heap.size n f ∧ Below w.heap.size w w1 ∧ w1.heap.size = w.heap.size + 1 := by
  refine ⟨_, run_storeCells_at (P := Yba.prog) (w.alloc (.cells #[.int .i64 0, .int .u64 0, .int .u64 0, .int .u64 0, .int .u64 0, .int .u64 0, .int .u64 0, .int .u64 0, .int .u64 0, .int .u64 0, .int .u64 0] 26)) w.heap.size 26 _ (wcells n f) (new_at _ _) (by rw [wcells_size]; kernel_rfl) (by rw [wcells_size]; rfl) (wcells_one n f), ?_, ?_, ?_⟩
  · exact setRow_heap _ _ _ _ 26 _ (new_at _ _)
  · exact below_setRow ((Below.refl _ _).alloc (Nat.le_refl _) _) (Nat.le_refl _) _
  · rw [← size_alloc w (.cells #[.int .i64 0, .int .u64 0, .int .u64 0, .int .u64 0, .int .u64 0, .int .u64 0, .int .u64 0, .int .u64 0, .int .u64 0, .int .u64 0, .int .u64 0] 26)]; simp [World.setRow]

theorem Tw.all {w : World} {b : Nat} {f : Nat → Int} (h : Tw w b f) : w.cell? ⟨b, 0, none⟩ = some (.int .u64 (f 0)) ∧ w.cell? ⟨b, 1, none⟩ = some (.int .u64 (f 1)) ∧ w.cell? ⟨b, 2, none⟩ = some (.int .u64 (f 2)) ∧ w.cell? ⟨b, 3, none⟩ = some (.int .u64 (f 3)) ∧ w.cell? ⟨b, 4, none⟩ = some (.int .u64 (f 4)) ∧ w.cell? ⟨b, 5, none⟩ = some (.int .u64 (f 5)) ∧ w.cell? ⟨b, 6, none⟩ = some (.int .u64 (f 6)) ∧ w.cell? ⟨b, 7, none⟩ = some (.int .u64 (f 7)) ∧ w.cell? ⟨b, 8, none⟩ = some (.int .u64 (f 8)) ∧ w.cell? ⟨b, 9, none⟩ = some (.int .u64 (f 9)) ∧ w.cell? ⟨b, 10, none⟩ = some (.int .u64 (f 10)) ∧ w.cell? ⟨b, 11, none⟩ = some (.int .u64 (f 11)) ∧ w.cell? ⟨b, 12, none⟩ = some (.int .u64 (f 12)) ∧ w.cell? ⟨b, 13, none⟩ = some (.int .u64 (f 13)) ∧ w.cell? ⟨b, 14, none⟩ = some (.int .u64 (f 14)) ∧ w.cell? ⟨b, 15, none⟩ = some (.int .u64 (f 15)) ∧ w.cell? ⟨b, 16, none⟩ = some (.int .u64 (f 16)) ∧ w.cell? ⟨b, 17, none⟩ = some (.int .u64 (f 17)) ∧ w.cell? ⟨b, 18, none⟩ = some (.int .u64 (f 18)) ∧ w.cell? ⟨b, 19, none⟩ = some (.int .u64 (f 19)) :=
  ⟨h.c 0 (by decide), h.c 1 (by decide), h.c 2 (by decide), h.c 3 (by decide), h.c 4 (by decide), h.c 5 (by decide), h.c 6 (by decide), h.c 7 (by decide), h.c 8 (by decide), h.c 9 (by decide), h.c 10 (by decide), h.c 11 (by decide), h.c 12 (by decide), h.c 13 (by decide), h.c 14 (by decide), h.c 15 (by decide), h.c 16 (by decide), h.c 17 (by decide), h.c 18 (by decide), h.c 19 (by decide)⟩

theorem Tw.setAll {w : World} {b : Nat} {g : Nat → Int} (h : Tw w b g) (f : Nat → Int) : Tw ((((((((((((((((((((w.setCell ⟨b, 0, none⟩ (.int .u64 (f 0))).setCell ⟨b, 1, none⟩ (.int .u64 (f 1))).setCell ⟨b, 2, none⟩ (.int .u64 (f 2))).setCell ⟨b, 3, none⟩ (.int .u64 (f 3))).setCell ⟨b, 4, none⟩ (.int .u64 (f 4))).setCell ⟨b, 5, none⟩ (.int .u64 (f 5))).setCell ⟨b, 6, none⟩ (.int .u64 (f 6))).setCell ⟨b, 7, none⟩ (.int .u64 (f 7))).setCell ⟨b, 8, none⟩ (.int .u64 (f 8))).setCell ⟨b, 9, none⟩ (.int .u64 (f 9))).setCell ⟨b, 10, none⟩ (.int .u64 (f 10))).setCell ⟨b, 11, none⟩ (.int .u64 (f 11))).setCell ⟨b, 12, none⟩ (.int .u64 (f 12))).setCell ⟨b, 13, none⟩ (.int .u64 (f 13))).setCell ⟨b, 14, none⟩ (.int .u64 (f 14))).setCell ⟨b, 15, none⟩ (.int .u64 (f 15))).setCell ⟨b, 16, none⟩ (.int .u64 (f 16))).setCell ⟨b, 17, none⟩ (.int .u64 (f 17))).setCell ⟨b, 18, none⟩ (.int .u64 (f 18))).setCell ⟨b, 19, none⟩ (.int .u64 (f 19))) b f ∧ Fx b w ((((((((((((((((((((w.setCell ⟨b, 0, none⟩ (.int .u64 (f 0))).setCell ⟨b, 1, none⟩ (.int .u64 (f 1))).setCell ⟨b, 2, none⟩ (.int .u64 (f 2))).setCell ⟨b, 3, none⟩ (.int .u64 (f 3))).setCell ⟨b, 4, none⟩ (.int .u64 (f 4))).setCell ⟨b, 5, none⟩ (.int .u64 (f 5))).setCell ⟨b, 6, none⟩ (.int .u64 (f 6))).setCell ⟨b, 7, none⟩ (.int .u64 (f 7))).setCell ⟨b, 8, none⟩ (.int .u64 (f 8))).setCell ⟨b, 9, none⟩ (.int .u64 (f 9))).setCell ⟨b, 10, none⟩ (.int .u64 (f 10))).setCell ⟨b, 11, none⟩ (.int .u64 (f 11))).setCell ⟨b, 12, none⟩ (.int .u64 (f 12))).setCell ⟨b, 13, none⟩ (.int .u64 (f 13))).setCell ⟨b, 14, none⟩ (.int .u64 (f 14))).setCell ⟨b, 15, none⟩ (.int .u64 (f 15))).setCell ⟨b, 16, none⟩ (.int .u64 (f 16))).setCell ⟨b, 17, none⟩ (.int .u64 (f 17))).setCell ⟨b, 18, none⟩ (.int .u64 (f 18))).setCell ⟨b, 19, none⟩ (.int .u64 (f 19))) := by
  refine ⟨Tw.congr ((((((((((((((((((((h.set 0 (f 0)).set 1 (f 1)).set 2 (f 2)).set 3 (f 3)).set 4 (f 4)).set 5 (f 5)).set 6 (f 6)).set 7 (f 7)).set 8 (f 8)).set 9 (f 9)).set 10 (f 10)).set 11 (f 11)).set 12 (f 12)).set 13 (f 13)).set 14 (f 14)).set 15 (f 15)).set 16 (f 16)).set 17 (f 17)).set 18 (f 18)).set 19 (f 19)) fun j hj => ?_, ((((((((((((((((((((Fx.refl b w).setCell 0 (.int .u64 (f 0))).setCell 1 (.int .u64 (f 1))).setCell 2 (.int .u64 (f 2))).setCell 3 (.int .u64 (f 3))).setCell 4 (.int .u64 (f 4))).setCell 5 (.int .u64 (f 5))).setCell 6 (.int .u64 (f 6))).setCell 7 (.int .u64 (f 7))).setCell 8 (.int .u64 (f 8))).setCell 9 (.int .u64 (f 9))).setCell 10 (.int .u64 (f 10))).setCell 11 (.int .u64 (f 11))).setCell 12 (.int .u64 (f 12))).setCell 13 (.int .u64 (f 13))).setCell 14 (.int .u64 (f 14))).setCell 15 (.int .u64 (f 15))).setCell 16 (.int .u64 (f 16))).setCell 17 (.int .u64 (f 17))).setCell 18 (.int .u64 (f 18))).setCell 19 (.int .u64 (f 19))⟩
  have : j = 0 ∨ j = 1 ∨ j = 2 ∨ j = 3 ∨ j = 4 ∨ j = 5 ∨ j = 6 ∨ j = 7 ∨ j = 8 ∨ j = 9 ∨ j = 10 ∨ j = 11 ∨ j = 12 ∨ j = 13 ∨ j = 14 ∨ j = 15 ∨ j = 16 ∨ j = 17 ∨ j = 18 ∨ j = 19 := by omega
  rcases this with rfl | rfl | rfl | rfl | rfl | rfl | rfl | rfl | rfl | rfl | rfl | rfl | rfl | rfl | rfl | rfl | rfl | rfl | rfl | rfl <;> simp [upd]

theorem two_wide (w : World) (b : Nat) (hb : w.heap.size = b) (n : Int) (f : Nat → Int) (m : Int) (g : Nat → Int) : Wd ((w.alloc (.cells (wcells n f) 26)).alloc (.cells (wcells m g) 26)) b n f ∧
    Wd ((w.alloc (.cells (wcells n f) 26)).alloc (.cells (wcells m g) 26)) (b + 1) m g ∧ Below w.heap.size w ((w.alloc (.cells (wcells n f) 26)).alloc (.cells (wcells m g) 26)) := by
  subst hb
  refine ⟨(old_at _ _ _ (by rw [size_alloc]; omega)).trans (new_at w _), ?_, ((Below.refl _ _).alloc (Nat.le_refl _) _).alloc (by rw [size_alloc]; omega) _⟩
  have := new_at (w.alloc (.cells (wcells n f) 26)) (.cells (wcells m g) 26)
  rw [size_alloc] at this
  exact this

theorem new_arr (w : World) (q : Nat → Int) : ∃ w1, (storeCells ⟨w.heap.size, 0, none⟩ (tab 20 q).toList).run Yba.prog (w.alloc (.cells #[.int .u64 0, .int .u64 0, .int .u64 0, .int .u64 0, .int .u64 0, .int .u64 0, .int .u64 0, .int .u64 0, .int .u64 0, .int .u64 0, .int .u64 0, .int .u64 0, .int .u64 0, .int .u64 0, .int .u64 0, .int .u64 0, .int .u64 0, .int .u64 0, .int .u64 0, .int .u64 0] 30)) = .ok () w1 ∧
    Tw w1 w.heap.size q ∧ Below w.heap.size w w1 := by
  refine ⟨_, run_storeCells_at (P := Yba.prog) (w.alloc (.cells #[.int .u64 0, .int .u64 0, .int .u64 0, .int .u64 0, .int .u64 0, .int .u64 0, .int .u64 0, .int .u64 0, .int .u64 0, .int .u64 0, .int .u64 0, .int .u64 0, .int .u64 0, .int .u64 0, .int .u64 0, .int .u64 0, .int .u64 0, .int .u64 0, .int .u64 0, .int .u64 0] 30)) w.heap.size 30 _ (tab 20 q) (new_at _ _) (by rw [tab_size]; kernel_rfl) (by rw [tab_size]; rfl) (tab_one 20 q), ?_, ?_⟩
  · exact setRow_heap _ _ _ _ 30 _ (new_at _ _)
  · exact below_setRow ((Below.refl _ _).alloc (Nat.le_refl _) _) (Nat.le_refl _) _

theorem Src.keep {w w' : World} {a : Option Addr} {k : Nat} {s : Nat → Int} (h : Src w a k s) (hB : Below w.heap.size w w') : Src w' a k s := fun i hi => by
  obtain ⟨x, h1, h2, h3, h4⟩ := h i hi
  exact ⟨x, h1, by rw [hB.cell (by rw [add_block]; exact h3)]; exact h2, by have := hB.size; omega, h4⟩

set_option maxHeartbeats 4000000 in
set_option maxRecDepth 100000 in
theorem product_any (a0 a1 : Option Addr) (l0 c0 l1 c1 : Nat) (s0 s1 : Nat → Int) (junk : Int) (w : World) (h0 : Src w a0 l0 s0) (h1 : Src w a1 l1 s1) (hj0 : 0 ≤ junk) (hj1 : junk < 18446744073709551616) :
    Calls Yba.prog 3 #[.slice a0 l0 c0, .slice a1 l1 c1, .int .u64 junk] w fun e w' => e = .returned (.bool true) ∧ Below w.heap.size w w' := by
  go_enter Yba.func3, Yba.ntmps3
  go_upto_region 1 with fail
  go_cut [7] (fun v wc => ∃ k0 : Nat, v = .int .i64 k0 ∧ k0 ≤ l0 ∧ k0 ≤ 10 ∧ w = wc)
  case first =>
    go_wp2_with fail
    all_goals
      go_meet
      first
        | exact ⟨l0, rfl, by omega, by omega, rfl⟩
        | exact ⟨10, rfl, by omega, by omega, rfl⟩
  case rest =>
  obtain ⟨k0, rfl, hk0, hk0', rfl⟩ := hcut
  go_upto_region 2 with fail
  have hsub : ((10 : Int) - k0) = ((10 - k0 : Nat) : Int) := by omega
  go_cut [8] (fun v wc' => ∃ k1 : Nat, v = .int .i64 k1 ∧ k1 ≤ l1 ∧ k0 + k1 ≤ 10 ∧ w = wc')
  case first =>
    go_wp2_with fail
    all_goals
      go_meet
      first
        | exact ⟨l1, rfl, by omega, by omega, rfl⟩
        | exact ⟨10 - k0, by go_num, by omega, by omega, rfl⟩
  case rest =>
  obtain ⟨k1, rfl, hk1, hk1', rfl⟩ := hcut
  go_wp2_with (go_at_call 5; refine Calls.mono (build_any a0 l0 c0 k0 s0 junk _ (fun i hi => h0 i (by omega)) hk0' hk0) ?_; rintro e w' ⟨n, f, rfl, hn, hf, hB⟩; rw [wv_eq])
  obtain ⟨w1, hst1, hX1, hB1, hS1⟩ := new_wide w' n f
  simp only [Yba.sizeOf26, Result.andThen, wcells_size, ↓reduceIte, hst1]
  rw [Oper.upon_skip]
  have hBx : Below w.heap.size w w1 := hB.trans (hB1.mono hB.size)
  have h11 : Src w1 a1 k1 s1 := (Src.keep (fun i hi => h1 i (by omega)) hBx)
  have hbx : w.heap.size ≤ w'.heap.size := hB.size
  generalize w'.heap.size = bx at *
  clear hst1 hB1 hB
  go_wp2_with (go_at_call 5; refine Calls.mono (build_any a1 l1 c1 k1 s1 _ _ h11 (by omega) hk1) ?_; rintro e w2 ⟨m, g, rfl, hm, hg, hB2⟩; rw [wv_eq])
  obtain ⟨w3, hst3, hY3, hB3, hS3⟩ := new_wide w2 m g
  simp only [Yba.sizeOf26, Result.andThen, wcells_size, ↓reduceIte, hst3]
  rw [Oper.upon_skip]
  have hbelow : Below w.heap.size w w3 := hBx.trans ((hB2.trans (hB3.mono hB2.size)).mono hBx.size)
  have hX3 : Wd w3 bx n f := hX1.keep ((hB3.block _ (by have := hB2.size; have := hX1.lt; omega)).trans (hB2.block _ hX1.lt))
  have hby : w.heap.size ≤ w2.heap.size := by have := hB2.size; have := hBx.size; omega
  have hxy : bx < w2.heap.size := by have := hB2.size; have := hX1.lt; omega
  generalize w2.heap.size = bY at *
  clear hst3 hB3 hB2 hX1 h11 hBx
  go_wp2_with fail
  simp only [Act.put]
  go_cut [11, 12] (fun v11 v12 wc => ∃ b1 b2 : Nat, v11 = .pointer (some ⟨b1, 0, none⟩) ∧ v12 = .pointer (some ⟨b2, 0, none⟩) ∧ Wd wc b1 n f ∧ Wd wc b2 m g ∧ Below w3.heap.size w3 wc)
  case first =>
    have z26 := Yba.sizeOf26
    obtain ⟨x0, x1, x2, x3, x4, x5, x6, x7, x8, x9, x10⟩ := hX3.all
    obtain ⟨y0, y1, y2, y3, y4, y5, y6, y7, y8, y9, y10⟩ := hY3.all
    have q1 : bx < w3.heap.size := hX3.lt
    have q2 : bY < w3.heap.size := hY3.lt
    have q3 : bx ≠ w3.heap.size := by omega
    have q4 : bY ≠ w3.heap.size := by omega
    have q5 : bx ≠ w3.heap.size + 1 := by omega
    have q6 : bY ≠ w3.heap.size + 1 := by omega
    go_region_held3 (fun w' => w'.cell? ⟨bx, 0, none⟩ = some (.int .i64 n) ∧ w'.cell? ⟨bx, 1, none⟩ = some (.int .u64 (f 0)) ∧ w'.cell? ⟨bx, 2, none⟩ = some (.int .u64 (f 1)) ∧ w'.cell? ⟨bx, 3, none⟩ = some (.int .u64 (f 2)) ∧ w'.cell? ⟨bx, 4, none⟩ = some (.int .u64 (f 3)) ∧ w'.cell? ⟨bx, 5, none⟩ = some (.int .u64 (f 4)) ∧ w'.cell? ⟨bx, 6, none⟩ = some (.int .u64 (f 5)) ∧ w'.cell? ⟨bx, 7, none⟩ = some (.int .u64 (f 6)) ∧ w'.cell? ⟨bx, 8, none⟩ = some (.int .u64 (f 7)) ∧ w'.cell? ⟨bx, 9, none⟩ = some (.int .u64 (f 8)) ∧ w'.cell? ⟨bx, 10, none⟩ = some (.int .u64 (f 9)) ∧ w'.cell? ⟨bY, 0, none⟩ = some (.int .i64 m) ∧ w'.cell? ⟨bY, 1, none⟩ = some (.int .u64 (g 0)) ∧ w'.cell? ⟨bY, 2, none⟩ = some (.int .u64 (g 1)) ∧ w'.cell? ⟨bY, 3, none⟩ = some (.int .u64 (g 2)) ∧ w'.cell? ⟨bY, 4, none⟩ = some (.int .u64 (g 3)) ∧ w'.cell? ⟨bY, 5, none⟩ = some (.int .u64 (g 4)) ∧ w'.cell? ⟨bY, 6, none⟩ = some (.int .u64 (g 5)) ∧ w'.cell? ⟨bY, 7, none⟩ = some (.int .u64 (g 6)) ∧ w'.cell? ⟨bY, 8, none⟩ = some (.int .u64 (g 7)) ∧ w'.cell? ⟨bY, 9, none⟩ = some (.int .u64 (g 8)) ∧ w'.cell? ⟨bY, 10, none⟩ = some (.int .u64 (g 9))) (first | exact ⟨x0, x1, x2, x3, x4, x5, x6, x7, x8, x9, x10, y0, y1, y2, y3, y4, y5, y6, y7, y8, y9, y10⟩ | go_keep) (fail)
    · go_wp2
      go_meet
      have t := two_wide w3 (bY + 1) hS3 n f m g
      exact ⟨_, _, rfl, rfl, t.1, t.2.1, ⟨t.2.2.os, t.2.2.tape, t.2.2.output, t.2.2.size, t.2.2.block⟩⟩
    · go_wp2
      go_meet
      have t := two_wide w3 (bY + 1) hS3 m g n f
      exact ⟨_, _, rfl, rfl, t.2.1, t.1, ⟨t.2.2.os, t.2.2.tape, t.2.2.output, t.2.2.size, t.2.2.block⟩⟩
  case rest =>
  obtain ⟨b1, b2, rfl, rfl, hX0, hY0, hBc⟩ := hcut
  have hXc := hX3.keep (hBc.block _ hX3.lt)
  have hYc := hY3.keep (hBc.block _ hY3.lt)
  have hbel : Below w.heap.size w wc := hbelow.trans (hBc.mono hbelow.size)
  clear hbelow hX3 hY3 hBc
  go_wp2_with fail
  go_loopw [37] (fun vi wr => ∃ (i : Nat) (h : Nat → Int), vi = .int .i64 i ∧ i ≤ 10 ∧ Wd wr wc.heap.size 0 h ∧ Below wc.heap.size wc wr) (fun vi _ => 10 - (intOf vi).toNat)
  case atStart => exact ⟨0, fun _ => 0, rfl, by omega, new_at _ _, (Below.refl _ _).alloc (Nat.le_refl _) _⟩
  case round =>
    obtain ⟨i, h, rfl, hi, hZ, hB⟩ := hrel
    by_cases hlt : i < 10
    · have hltb : ((i : Int) < 10) = True := by simp; omega
      have d1 := hZ.cw i hlt
      have d2 := hZ.frozen (1 + i)
      go_wp2_with fail
      go_roundw
      case rel => exact ⟨i + 1, _, by go_num, by omega, hZ.setw _ _, hB.setCell (Nat.le_refl _) _⟩
      case measure => simp [intOf]; omega
    · obtain rfl : i = 10 := by omega
      have d1 := hZ.cn
      have d2 := hZ.frozen 0
      have hXr := hXc.keep (hB.block _ hXc.lt)
      have hYr := hYc.keep (hB.block _ hYc.lt)
      have hX0r := hX0.keep (hB.block _ hX0.lt)
      have hY0r := hY0.keep (hB.block _ hY0.lt)
      have e1 := hXc.lt
      have e2 := hYc.lt
      have e3 := hX0.lt
      have e4 := hY0.lt
      generalize hbz : wc.heap.size = bz at *
      have hne : ∀ k, k < bz → k ≠ bz := fun k hk => by omega
      have hnm : n + m ≤ 10 := by omega
      go_wp2_with (go_at_call 6; refine Calls.mono (mulLong_any bz bx bY n m _ f g h _ (hZ.setn _) (hXr.keep (Below.heap_setCell _ _ _ _ (hne _ e1))) (hYr.keep (Below.heap_setCell _ _ _ _ (hne _ e2))) hnm hf hg) ?_; rintro e w5 ⟨k, p, rfl, hZ5, hN5, hk5, hF5⟩)
      have hkp : ∀ j, j < bz → w5.heap[j]? = wr.heap[j]? := fun j hj => (hF5.block j (by have := hZ.lt; simp; omega) (hne _ hj)).trans (Below.heap_setCell _ _ _ _ (hne _ hj))
      have hX5 := hXr.keep (hkp _ e1)
      have hY5 := hYr.keep (hkp _ e2)
      have hl1 := run_loadCells_at (P := Yba.prog) w5 bx 26 (0, 0) (wcells n f) 11 (wcells_size _ _) hX5
      have hl2 := run_loadCells_at (P := Yba.prog) w5 bY 26 (0, 0) (wcells m g) 11 (wcells_size _ _) hY5
      have hl3 := run_loadCells_at (P := Yba.prog) w5 b1 26 (0, 0) (wcells n f) 11 (wcells_size _ _) (hX0r.keep (hkp _ e3))
      have hl4 := run_loadCells_at (P := Yba.prog) w5 b2 26 (0, 0) (wcells m g) 11 (wcells_size _ _) (hY0r.keep (hkp _ e4))
      have hgd : Yba.prog.eqGuardType Yba.prog.depth 26 = false := by kernel_rfl
      have hb5 : Below w.heap.size w w5 := by
        have s1 := hF5.size
        have s2 := hbel.size
        have s3 := hB.size
        refine ⟨hF5.os.trans (hB.os.trans hbel.os), hF5.tape.trans (hB.tape.trans hbel.tape), hF5.output.trans (hB.output.trans hbel.output), ?_, fun j hj => ?_⟩
        · simp at s1; omega
        · exact (hkp j (by omega)).trans ((hB.block j (by omega)).trans (hbel.block j hj))
      go_wp2_with fail
      simp only [Yba.sizeOf26, Result.andThen, hl1]
      rw [Oper.upon_value]
      go_wp2_with fail
      simp only [Yba.sizeOf26, Result.andThen, hl3]
      rw [Oper.upon_value]
      go_wp2_with fail
      simp only [Yba.sizeOf26, Result.andThen, hl2]
      rw [Oper.upon_value]
      go_wp2_with fail
      simp only [Yba.sizeOf26, Result.andThen, hl4]
      rw [Oper.upon_value]
      go_wp2_with fail
      have d6 := hX5.cn
      have d7 := hY5.cn
      have n10 : (n : Int) ≤ 10 := by omega
      have m10 : (m : Int) ≤ 10 := by omega
      have n0 : (0 : Int) ≤ n := by omega
      have m0 : (0 : Int) ≤ m := by omega
      have hcn : n ≤ 10 := by omega
      have hcm : m ≤ 10 := by omega
      have x5 := hX5.lt
      have y5 := hY5.lt
      have z5 := hZ5.lt
      clear hl1 hl2 hl3 hl4 hX0r hY0r hX0 hY0 hXc hYc hXr hYr hF5 hB hbel
      go_cut [16, 17] (fun v16 v17 wd => ∃ (bw t : Nat) (q : Nat → Int), v16 = .pointer (some ⟨bw, 0, none⟩) ∧ v17 = .int .i64 t ∧ Tw wd bw q ∧ Norm t q (val f n * val g m) ∧ Wd wd bz k p ∧ Below w.heap.size w wd)
      case first =>
        have z30 := Yba.sizeOf30
        have q1 : bx ≠ w5.heap.size := by omega
        have q2 : bY ≠ w5.heap.size := by omega
        go_region_with ((go_at_call 7; refine Calls.mono (model_any bx bY n m n m f g _ (by first | exact hX5 | exact hX5.keep (old_at _ _ _ x5)) (by first | exact hY5 | exact hY5.keep (old_at _ _ _ y5)) hcn hcm hf.words hg.words) ?_; rintro e w6 ⟨t, q, rfl, hNq, htq, hB6⟩; have hk6 : ∀ j, j < w5.heap.size → w6.heap[j]? = w5.heap[j]? := (fun j hj => by first | exact hB6.block j hj | exact (hB6.block j (by simp; omega)).trans (old_at _ _ _ hj)); have hs6 : w5.heap.size ≤ w6.heap.size := (by first | exact hB6.size | (have hq := hB6.size; simp at hq; omega)); have hb6 : Below w.heap.size w w6 := ⟨hB6.os.trans hb5.os, hB6.tape.trans hb5.tape, hB6.output.trans hb5.output, Nat.le_trans hb5.size hs6, fun j hj => (hk6 j (Nat.lt_of_lt_of_le hj hb5.size)).trans (hb5.block j hj)⟩; have hZ6 : Wd w6 bz k p := hZ5.keep (hk6 _ z5); have hsz := tab_size 20 q; first | (have hT6 : Tw w6 w5.heap.size (fun _ => 0) := (hB6.block _ (by simp)).trans (new_at w5 _); have hst6 := run_storeCells_at (P := Yba.prog) w6 w5.heap.size 30 _ (tab 20 q) hT6 (by rw [tab_size]; kernel_rfl) (by rw [tab_size]; rfl) (tab_one 20 q)) | (obtain ⟨w7, hst7, hT7, hB7⟩ := new_arr w6 q)))
        all_goals
          go_wp2_with fail
          go_meet
          first
            | exact ⟨_, t, q, rfl, rfl, hT7, hNq, hZ6.keep (hB7.block _ hZ6.lt), hb6.trans (hB7.mono hb6.size)⟩
            | exact ⟨_, t, q, rfl, rfl, setRow_heap _ _ _ _ 30 _ hT6, hNq, hZ6.keep (setRow_other _ _ _ _ (by omega)), below_setRow hb6 (by have := hb5.size; omega) _⟩
      case rest =>
      obtain ⟨bw, t, q, rfl, rfl, hTw, hNq, hZd, hbd⟩ := hcut
      obtain ⟨rfl, heq⟩ := hN5.unique hNq
      have hl := run_loadCells_at (P := Yba.prog) _ bw 30 (0, 0) (tab 20 q) 20 (tab_size _ _) hTw
      go_wp2_with fail
      simp only [Yba.sizeOf30, Result.andThen, hl]
      rw [Oper.upon_value]
      go_wp2_with (go_at_call 8; refine Calls.mono (same_any bz k p q _ hZd hk5 heq) ?_; rintro e w9 ⟨rfl, hB9⟩)
      go_ret
      exact ⟨rfl, hbd.trans (hB9.mono hbd.size)⟩
end Go.Proofs.Ybulkbhoa
