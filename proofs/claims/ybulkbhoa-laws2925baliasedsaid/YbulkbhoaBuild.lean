/-
  DERIVED. Seat b2925a: zzs2925bbuild (5).
-/
import Derived.Test.YbulkbhoaSame
namespace Go.Proofs.Ybulkbhoa
open Go.RowKit
set_option linter.unusedVariables false

theorem add_block (a : Addr) (n : Nat) : (a.add n).block = a.block := by unfold Addr.add; split <;> rfl

theorem Wd.all {w : World} {b : Nat} {n : Int} {f : Nat → Int} (h : Wd w b n f) : w.cell? ⟨b, 0, none⟩ = some (.int .i64 n) ∧ w.cell? ⟨b, 1, none⟩ = some (.int .u64 (f 0)) ∧ w.cell? ⟨b, 2, none⟩ = some (.int .u64 (f 1)) ∧ w.cell? ⟨b, 3, none⟩ = some (.int .u64 (f 2)) ∧ w.cell? ⟨b, 4, none⟩ = some (.int .u64 (f 3)) ∧
    w.cell? ⟨b, 5, none⟩ = some (.int .u64 (f 4)) ∧ w.cell? ⟨b, 6, none⟩ = some (.int .u64 (f 5)) ∧ w.cell? ⟨b, 7, none⟩ = some (.int .u64 (f 6)) ∧ w.cell? ⟨b, 8, none⟩ = some (.int .u64 (f 7)) ∧ w.cell? ⟨b, 9, none⟩ = some (.int .u64 (f 8)) ∧ w.cell? ⟨b, 10, none⟩ = some (.int .u64 (f 9)) :=
  ⟨h.cn, h.cw 0 (by decide), h.cw 1 (by decide), h.cw 2 (by decide), h.cw 3 (by decide), h.cw 4 (by decide), h.cw 5 (by decide), h.cw 6 (by decide), h.cw 7 (by decide), h.cw 8 (by decide), h.cw 9 (by decide)⟩

theorem Wd.congr {w : World} {b : Nat} {n : Int} {f g : Nat → Int} (h : Wd w b n f) (e : ∀ j, j < 10 → f j = g j) : Wd w b n g := by
  have : wcells n f = wcells n g := by
    simp only [wcells]
    rw [List.map_congr_left (f := fun i => Value.int .u64 (f i)) (g := fun i => Value.int .u64 (g i)) (fun j hj => by rw [e j (by simpa using hj)])]
  unfold Wd at *
  rw [← this]; exact h

theorem Wd.setAll {w : World} {b : Nat} {m : Int} {g : Nat → Int} (h : Wd w b m g) (n : Int) (f : Nat → Int) : Wd (((((((((((w.setCell ⟨b, 0, none⟩ (.int .i64 n)).setCell ⟨b, 1, none⟩ (.int .u64 (f 0))).setCell ⟨b, 2, none⟩ (.int .u64 (f 1))).setCell ⟨b, 3, none⟩ (.int .u64 (f 2))).setCell ⟨b, 4, none⟩ (.int .u64 (f 3))).setCell ⟨b, 5, none⟩ (.int .u64 (f 4))).setCell ⟨b, 6, none⟩ (.int .u64 (f 5))).setCell ⟨b, 7, none⟩ (.int .u64 (f 6))).setCell ⟨b, 8, none⟩ (.int .u64 (f 7))).setCell ⟨b, 9, none⟩ (.int .u64 (f 8))).setCell ⟨b, 10, none⟩ (.int .u64 (f 9))) b n f := by
  refine Wd.congr (((((((((((h.setn n).setw 0 (f 0)).setw 1 (f 1)).setw 2 (f 2)).setw 3 (f 3)).setw 4 (f 4)).setw 5 (f 5)).setw 6 (f 6)).setw 7 (f 7)).setw 8 (f 8)).setw 9 (f 9)) fun j hj => ?_
  have : j = 0 ∨ j = 1 ∨ j = 2 ∨ j = 3 ∨ j = 4 ∨ j = 5 ∨ j = 6 ∨ j = 7 ∨ j = 8 ∨ j = 9 := by omega
  rcases this with rfl | rfl | rfl | rfl | rfl | rfl | rfl | rfl | rfl | rfl <;> simp [upd]

/-- The value of a 'wide'. -/
def wv (n : Int) (f : Nat → Int) : Value := .agg #[.int .i64 n, .int .u64 (f 0), .int .u64 (f 1), .int .u64 (f 2), .int .u64 (f 3), .int .u64 (f 4), .int .u64 (f 5), .int .u64 (f 6), .int .u64 (f 7), .int .u64 (f 8), .int .u64 (f 9)]

/-- The first k words of a slice that came in. -/
def Src (w : World) (a : Option Addr) (k : Nat) (s : Nat → Int) : Prop := ∀ i, i < k → ∃ x, a = some x ∧ w.cell? (x.add i) = some (.int .u64 (s i)) ∧ x.block < w.heap.size ∧ 0 ≤ s i ∧ s i < 18446744073709551616

set_option maxHeartbeats 1000000 in
theorem build_any (a : Option Addr) (len cap k : Nat) (s : Nat → Int) (junk : Int) (w : World) (hs : Src w a k s) (hk : k ≤ 10) (hl : k ≤ len) :
    Calls Yba.prog 5 #[.slice a len cap, .int .i64 k, .int .u64 junk] w fun e w' => ∃ (n : Nat) (f : Nat → Int), e = .returned (wv n f) ∧ n ≤ k ∧ Ok n f ∧ Below w.heap.size w w' := by
  go_enter Yba.func5, Yba.ntmps5
  go_wp2
  go_loopw [11] (fun vi wr => ∃ (i : Nat) (f : Nat → Int), vi = .int .i64 i ∧ i ≤ 10 ∧ Wd wr w.heap.size 0 (fun _ => 0) ∧ Wd wr (w.heap.size + 1) 0 f ∧ Below w.heap.size w wr) (fun vi _ => 10 - (intOf vi).toNat)
  case atStart =>
    refine ⟨0, fun _ => 0, rfl, by omega, ?_, ?_, ((Below.refl _ _).alloc (Nat.le_refl _) _).alloc (by rw [size_alloc]; omega) _⟩
    · exact (old_at _ _ _ (by rw [size_alloc]; omega)).trans (new_at w _)
    · have := new_at (w.alloc (.cells #[.int .i64 0, .int .u64 0, .int .u64 0, .int .u64 0, .int .u64 0, .int .u64 0, .int .u64 0, .int .u64 0, .int .u64 0, .int .u64 0, .int .u64 0] 26)) (.cells #[.int .i64 0, .int .u64 0, .int .u64 0, .int .u64 0, .int .u64 0, .int .u64 0, .int .u64 0, .int .u64 0, .int .u64 0, .int .u64 0, .int .u64 0] 26)
      rw [size_alloc] at this
      exact this
  case round =>
    obtain ⟨i, f, rfl, hi, hR, hV, hB⟩ := hrel
    by_cases hlt : i < 10
    · have hltb : ((i : Int) < 10) = True := by simp; omega
      have d1 := hV.cw i hlt
      have d2 := hV.frozen (1 + i)
      go_wp2
      go_roundw
      case rel => exact ⟨i + 1, _, by go_num, by omega, hR.keep (Below.heap_setCell _ _ _ _ (show w.heap.size ≠ w.heap.size + 1 by omega)), hV.setw _ _, hB.setCell (show w.heap.size ≤ w.heap.size + 1 by omega) _⟩
      case measure => simp [intOf]; omega
    · obtain rfl : i = 10 := by omega
      go_wp2
      go_loopw [10, 9] (fun vi vn wr => ∃ (i n : Nat) (f : Nat → Int), vi = .int .i64 i ∧ vn = .int .i64 n ∧ i ≤ k ∧ n ≤ i ∧ Wd wr w.heap.size 0 (fun _ => 0) ∧ Wd wr (w.heap.size + 1) 0 f ∧ Words f i ∧ (n = 0 ∨ f (n - 1) ≠ 0) ∧ Below w.heap.size w wr) (fun vi _ _ => k - (intOf vi).toNat)
      case atStart => exact ⟨0, 0, f, rfl, rfl, by omega, by omega, hR, hV, fun j hj => by omega, .inl rfl, hB⟩
      case round =>
        obtain ⟨i, n, f, rfl, rfl, hik, hni, hR, hV, hW, hT, hB⟩ := hrel
        by_cases hlt : i < k
        · obtain ⟨x, rfl, hx1, hx2, hx3, hx4⟩ := hs i hlt
          have hltb : ((i : Int) < k) = True := by simp; omega
          have hil : (i : Int) < len := by omega
          have hil2 : i < len := by omega
          have d1 := hV.cw i (by omega)
          have d2 := hV.frozen (1 + i)
          have hab : (x.add i).block = x.block := add_block x i
          clear hs
          generalize s i = v at *
          have d3 : wr.cell? (x.add i) = some (.int .u64 v) := by rw [hB.cell (by omega)]; exact hx1
          have d4 : (wr.setCell ⟨w.heap.size + 1, 1 + i, none⟩ (.int .u64 v)).cell? (x.add i) = some (.int .u64 v) := by
            rw [World.cell?_setCell_other _ _ _ _ (by intro e; rw [← e] at hab; simp at hab; omega)]; exact d3
          have hR' : Wd (wr.setCell ⟨w.heap.size + 1, 1 + i, none⟩ (.int .u64 v)) w.heap.size 0 (fun _ => 0) := hR.keep (Below.heap_setCell _ _ _ _ (show w.heap.size ≠ w.heap.size + 1 by omega))
          have hB' : Below w.heap.size w (wr.setCell ⟨w.heap.size + 1, 1 + i, none⟩ (.int .u64 v)) := hB.setCell (show w.heap.size ≤ w.heap.size + 1 by omega) _
          have hW' : Words (upd f i v) (i + 1) := fun j hj => by
            by_cases e : j = i
            · subst e; rw [upd_same]; exact ⟨hx3, hx4⟩
            · rw [upd_other _ _ _ _ e]; exact hW j (by omega)
          cases hzb : (v != 0)
          · go_wp2
            go_roundw
            case rel =>
              refine ⟨i + 1, n, upd f i v, by go_num, rfl, by omega, by omega, hR', hV.setw _ _, hW', ?_, hB'⟩
              rcases hT with h | h
              · exact .inl h
              · by_cases hn0 : n = 0
                · exact .inl hn0
                · exact .inr (by rw [upd_other _ _ _ _ (by omega)]; exact h)
            case measure => simp [intOf]; omega
          · go_wp2
            go_roundw
            case rel =>
              refine ⟨i + 1, i + 1, upd f i v, by go_num, by go_num, by omega, by omega, hR', hV.setw _ _, hW', .inr ?_, hB'⟩
              rw [show i + 1 - 1 = i by omega, upd_same]
              simpa using hzb
            case measure => simp [intOf]; omega
        · obtain rfl : i = k := by omega
          have hltb : ¬ ((i : Int) < i) := by omega
          have e1 := hV.cn
          have e2 := hV.frozen 0
          have hV' := hV.setn n
          obtain ⟨v0, v1, v2, v3, v4, v5, v6, v7, v8, v9, v10⟩ := hV'.all
          have hR' : Wd (wr.setCell ⟨w.heap.size + 1, 0, none⟩ (.int .i64 n)) w.heap.size 0 (fun _ => 0) := hR.keep (Below.heap_setCell _ _ _ _ (show w.heap.size ≠ w.heap.size + 1 by omega))
          obtain ⟨r0, r1, r2, r3, r4, r5, r6, r7, r8, r9, r10⟩ := hR'.all
          have z0 := hR'.frozen 0
          have z1 := hR'.frozen 1
          have z2 := hR'.frozen 2
          have z3 := hR'.frozen 3
          have z4 := hR'.frozen 4
          have z5 := hR'.frozen 5
          have z6 := hR'.frozen 6
          have z7 := hR'.frozen 7
          have z8 := hR'.frozen 8
          have z9 := hR'.frozen 9
          have z10 := hR'.frozen 10
          have hB' : Below w.heap.size w (wr.setCell ⟨w.heap.size + 1, 0, none⟩ (.int .i64 n)) := hB.setCell (show w.heap.size ≤ w.heap.size + 1 by omega) _
          have hZ := hR'.setAll n f
          have hBZ := ((((((((((hB'.setCell (p := ⟨w.heap.size, 0, none⟩) (Nat.le_refl _) (.int .i64 n)).setCell (p := ⟨w.heap.size, 1, none⟩) (Nat.le_refl _) (.int .u64 (f 0))).setCell (p := ⟨w.heap.size, 2, none⟩) (Nat.le_refl _) (.int .u64 (f 1))).setCell (p := ⟨w.heap.size, 3, none⟩) (Nat.le_refl _) (.int .u64 (f 2))).setCell (p := ⟨w.heap.size, 4, none⟩) (Nat.le_refl _) (.int .u64 (f 3))).setCell (p := ⟨w.heap.size, 5, none⟩) (Nat.le_refl _) (.int .u64 (f 4))).setCell (p := ⟨w.heap.size, 6, none⟩) (Nat.le_refl _) (.int .u64 (f 5))).setCell (p := ⟨w.heap.size, 7, none⟩) (Nat.le_refl _) (.int .u64 (f 6))).setCell (p := ⟨w.heap.size, 8, none⟩) (Nat.le_refl _) (.int .u64 (f 7))).setCell (p := ⟨w.heap.size, 9, none⟩) (Nat.le_refl _) (.int .u64 (f 8))).setCell (p := ⟨w.heap.size, 10, none⟩) (Nat.le_refl _) (.int .u64 (f 9))
          go_wp2_with fail
          clear v0 v1 v2 v3 v4 v5 v6 v7 v8 v9 v10 r0 r1 r2 r3 r4 r5 r6 r7 r8 r9 r10 z0 z1 z2 z3 z4 z5 z6 z7 z8 z9 z10
          generalize (((((((((((wr.setCell ⟨w.heap.size + 1, 0, none⟩ (.int .i64 n)).setCell ⟨w.heap.size, 0, none⟩ (.int .i64 n)).setCell ⟨w.heap.size, 1, none⟩ (.int .u64 (f 0))).setCell ⟨w.heap.size, 2, none⟩ (.int .u64 (f 1))).setCell ⟨w.heap.size, 3, none⟩ (.int .u64 (f 2))).setCell ⟨w.heap.size, 4, none⟩ (.int .u64 (f 3))).setCell ⟨w.heap.size, 5, none⟩ (.int .u64 (f 4))).setCell ⟨w.heap.size, 6, none⟩ (.int .u64 (f 5))).setCell ⟨w.heap.size, 7, none⟩ (.int .u64 (f 6))).setCell ⟨w.heap.size, 8, none⟩ (.int .u64 (f 7))).setCell ⟨w.heap.size, 9, none⟩ (.int .u64 (f 8))).setCell ⟨w.heap.size, 10, none⟩ (.int .u64 (f 9)) = wf at *
          obtain ⟨v0, v1, v2, v3, v4, v5, v6, v7, v8, v9, v10⟩ := hZ.all
          refine bodyPost_ret (v := wv n f) (by simp [results, Yba.results5, go_sem, wv, v0, v1, v2, v3, v4, v5, v6, v7, v8, v9, v10]) rfl ⟨n, f, rfl, hni, ⟨hW.le hni, hT⟩, hBZ⟩
end Go.Proofs.Ybulkbhoa
