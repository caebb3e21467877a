/-
  DERIVED. Seat b2925a: zzs2925bmodel (7).
-/
import Derived.Test.YbulkbhoaBuild
import Derived.Deep.WholeRow
namespace Go.Proofs.Ybulkbhoa
open Go.RowKit
set_option linter.unusedVariables false

theorem Tw.congr {w : World} {b : Nat} {f g : Nat → Int} (h : Tw w b f) (e : ∀ j, j < 20 → f j = g j) : Tw w b g := by
  have : tab 20 f = tab 20 g := by
    simp only [tab]
    rw [List.map_congr_left (f := fun i => Value.int .u64 (f i)) (g := fun i => Value.int .u64 (g i)) (fun j hj => by rw [e j (by simpa using hj)])]
  unfold Tw at *
  rw [← this]; exact h

/-- A whole block, read. -/
theorem run_loadCells_at {P : Program} (w : World) (b : Nat) (t : TypeId) (fr : Nat × Nat) (c : Array Value) (n : Nat) (hn : c.size = n) (h : w.heap[b]? = some (.cells c t fr)) :
    (loadCellsFrom ⟨b, 0, none⟩ 0 n #[]).run P w = .ok c w := by
  subst hn
  have := run_loadCells_list (P := P) w ⟨b, 0, none⟩ c.toList (fun j v hv => by
    have hadd : (⟨b, 0, none⟩ : Addr).add j = ⟨b, j, none⟩ := by unfold Addr.add; split <;> simp_all
    rw [hadd, cell_of_row _ _ j c t fr h]
    simpa using hv)
  simpa [loadCells] using this

/-- A whole block, written. -/
theorem run_storeCells_at {P : Program} (w : World) (b : Nat) (t : TypeId) (c c' : Array Value) (h : w.heap[b]? = some (.cells c t (0, 0))) (hi : (P.info? t).map (·.size) = some c'.size) (ho : c.size = c'.size) (h1 : c'.all (·.oneCell') = true) :
    (storeCells ⟨b, 0, none⟩ c'.toList 0).run P w = .ok () (w.setRow b c') := by
  have := run_storeVar_row (P := P) w b t t c c' h hi ho h1
  cases hq : P.info? t with
  | none => simp [hq] at hi
  | some i =>
    have hs : c'.size = i.size := by simp [hq] at hi; omega
    simpa [storeVar, sizeOf, typeInfo, hq, Value.cells, hs] using this

theorem tab_one (k : Nat) (f : Nat → Int) : (tab k f).all (·.oneCell') = true := by
  rw [Array.all_eq_true]
  intro i hi
  simp [tab, Value.oneCell']

/-- One step of a column. -/
theorem col_step (P a0 a1 a2 S : Int) (i : Nat) (h0 : 0 ≤ P) (h1 : P ≤ 340282366920938463426481119284349108225) (a00 : 0 ≤ a0) (a01 : a0 < 18446744073709551616) (a10 : 0 ≤ a1) (a11 : a1 < 18446744073709551616) (a20 : 0 ≤ a2) (a21 : a2 ≤ i) (hi : i ≤ 10)
    (he : a0 + a1 * 18446744073709551616 + a2 * 340282366920938463463374607431768211456 = S) :
    0 ≤ (a0 + P % 18446744073709551616) / 18446744073709551616 ∧ (a0 + P % 18446744073709551616) / 18446744073709551616 ≤ 1 ∧
    0 ≤ a2 + (a1 + P / 18446744073709551616 + (a0 + P % 18446744073709551616) / 18446744073709551616) / 18446744073709551616 ∧
    a2 + (a1 + P / 18446744073709551616 + (a0 + P % 18446744073709551616) / 18446744073709551616) / 18446744073709551616 ≤ i + 1 ∧
    (a0 + P) % 18446744073709551616 + (a1 + P / 18446744073709551616 + (a0 + P % 18446744073709551616) / 18446744073709551616) % 18446744073709551616 * 18446744073709551616 +
      (a2 + (a1 + P / 18446744073709551616 + (a0 + P % 18446744073709551616) / 18446744073709551616) / 18446744073709551616) * 340282366920938463463374607431768211456 = S + P := by
  omega

/-- A column is done. -/
theorem col_done (p : Nat → Int) (k : Nat) (a0 a1 a2 c0 c1 C D : Int) (he : a0 + a1 * 18446744073709551616 + a2 * 340282366920938463463374607431768211456 = c0 + c1 * 18446744073709551616 + C)
    (hv : val p k + (c0 + c1 * 18446744073709551616) * (18446744073709551616 : Int) ^ k = D) :
    val (upd p k a0) (k + 1) + (a1 + a2 * 18446744073709551616) * (18446744073709551616 : Int) ^ (k + 1) = D + C * (18446744073709551616 : Int) ^ k := by
  simp only [val]
  rw [val_upd_past _ _ _ _ (Nat.le_refl k), upd_same, Int.pow_succ]
  generalize (18446744073709551616 : Int) ^ k = q at *
  grind

attribute [-simp] Yba.sizeOf30

set_option maxHeartbeats 4000000 in
set_option maxRecDepth 100000 in
theorem model_any (bx bY n m : Nat) (nx ny : Int) (f g : Nat → Int) (w : World) (hx : Wd w bx nx f) (hy : Wd w bY ny g) (hn : n ≤ 10) (hm : m ≤ 10) (hf : Words f n) (hg : Words g m) :
    Calls Yba.prog 7 #[.slice (some ⟨bx, 1, none⟩) n 10, .slice (some ⟨bY, 1, none⟩) m 10] w fun e w' => ∃ (t : Nat) (p : Nat → Int), e = .returned (.tuple #[.agg (tab 20 p), .int .i64 t]) ∧ Norm t p (val f n * val g m) ∧ t ≤ n + m ∧ Below w.heap.size w w' := by
  have hxl := hx.lt
  have hyl := hy.lt
  go_enter Yba.func7, Yba.ntmps7
  go_wp2
  go_loopw [12, 9, 10, 11] (fun vk v9 v10 v11 wr => ∃ (k : Nat) (c0 c1 : Int) (p : Nat → Int), vk = .int .i64 k ∧ v9 = .int .u64 c0 ∧ v10 = .int .u64 c1 ∧ v11 = .int .u64 0 ∧ k ≤ n + m ∧ 0 ≤ c0 ∧ c0 < 18446744073709551616 ∧ 0 ≤ c1 ∧ c1 < 18446744073709551616 ∧
      Tw wr w.heap.size (fun _ => 0) ∧ Tw wr (w.heap.size + 1) p ∧ Below w.heap.size w wr ∧ Words p k ∧ val p k + (c0 + c1 * 18446744073709551616) * (18446744073709551616 : Int) ^ k = cols f g m n k)
    (fun vk _ _ _ _ => n + m - (intOf vk).toNat)
  case atStart =>
    refine ⟨0, 0, 0, fun _ => 0, rfl, rfl, rfl, rfl, by omega, by omega, by omega, by omega, by omega, ?_, ?_, ((Below.refl _ _).alloc (Nat.le_refl _) _).alloc (by rw [size_alloc]; omega) _, fun j hj => by omega, by simp [val, cols]⟩
    · exact (old_at _ _ _ (by rw [size_alloc]; omega)).trans (new_at w _)
    · have := new_at (w.alloc (.cells #[.int .u64 0, .int .u64 0, .int .u64 0, .int .u64 0, .int .u64 0, .int .u64 0, .int .u64 0, .int .u64 0, .int .u64 0, .int .u64 0, .int .u64 0, .int .u64 0, .int .u64 0, .int .u64 0, .int .u64 0, .int .u64 0, .int .u64 0, .int .u64 0, .int .u64 0, .int .u64 0] 30)) (.cells #[.int .u64 0, .int .u64 0, .int .u64 0, .int .u64 0, .int .u64 0, .int .u64 0, .int .u64 0, .int .u64 0, .int .u64 0, .int .u64 0, .int .u64 0, .int .u64 0, .int .u64 0, .int .u64 0, .int .u64 0, .int .u64 0, .int .u64 0, .int .u64 0, .int .u64 0, .int .u64 0] 30)
      rw [size_alloc] at this
      exact this
  case round =>
    obtain ⟨k, c0, c1, p, rfl, rfl, rfl, rfl, hk, c00, c01, c10, c11, hR, hT, hB, hW, hV⟩ := hrel
    by_cases hlt : k < n + m
    · have hltb : ((k : Int) < (n : Int) + m) = True := by simp; omega
      go_wp2
      go_loopw [13, 9, 10, 11] (fun vi v9 v10 v11 wq => ∃ (i : Nat) (a0 a1 a2 : Int), vi = .int .i64 i ∧ v9 = .int .u64 a0 ∧ v10 = .int .u64 a1 ∧ v11 = .int .u64 a2 ∧ i ≤ n ∧ 0 ≤ a0 ∧ a0 < 18446744073709551616 ∧ 0 ≤ a1 ∧ a1 < 18446744073709551616 ∧ 0 ≤ a2 ∧ a2 ≤ i ∧
          a0 + a1 * 18446744073709551616 + a2 * 340282366920938463463374607431768211456 = c0 + c1 * 18446744073709551616 + col f g m k i ∧ Tw wq w.heap.size (fun _ => 0) ∧ Tw wq (w.heap.size + 1) p ∧ Below w.heap.size w wq)
        (fun vi _ _ _ _ => n - (intOf vi).toNat)
      case atStart => exact ⟨0, c0, c1, 0, rfl, rfl, rfl, rfl, by omega, c00, c01, c10, c11, by omega, by omega, by simp [col], hR, hT, hB⟩
      case round =>
        obtain ⟨i, a0, a1, a2, rfl, rfl, rfl, rfl, hi, a00, a01, a10, a11, a20, a21, hA, hR, hT, hB⟩ := hrel
        by_cases hlt2 : i < n
        · have hltb2 : ((i : Int) < n) = True := by simp; omega
          by_cases hneg : k < i
          · have t1 : ((k : Int) - i < 0) = True := by simp; omega
            go_wp2
            go_roundw
            case rel =>
              refine ⟨i + 1, a0, a1, a2, by go_num, rfl, rfl, rfl, by omega, a00, a01, a10, a11, a20, by omega, ?_, hR, hT, hB⟩
              simp only [col]
              rw [term, if_neg (by omega)]
              omega
            case measure => simp [intOf]; omega
          · obtain ⟨j, hj⟩ : ∃ j : Nat, Hid (k = i + j) := ⟨k - i, show k = i + (k - i) by omega⟩
            have hkj : (k : Int) - i = j := by have := hj.out; omega
            have t1 : ¬ ((j : Int) < 0) := by omega
            by_cases hjm : j < m
            · have t2 : ¬ ((m : Int) ≤ j) := by omega
              have hxq : Wd wr bx nx f := hx.keep (hB.block _ hxl)
              have hyq : Wd wr bY ny g := hy.keep (hB.block _ hyl)
              have d1 := hxq.cw i (by omega)
              have d2 := hyq.cw j (by omega)
              have hfi := hf i hlt2
              have hgj := hg j hjm
              have i10 : (i : Int) < n := by omega
              have j10 : (j : Int) < m := by omega
              have hP := mul_bound (f i) (g j) hfi.1 hfi.2 hgj.1 hgj.2
              obtain ⟨s1, s2, s3, s4, s5⟩ := col_step (f i * g j) a0 a1 a2 _ i hP.1 hP.2 a00 a01 a10 a11 a20 a21 (by omega) hA
              have u1 : 0 ≤ f i * g j % 18446744073709551616 := by omega
              have u2 : 0 ≤ f i * g j / 18446744073709551616 := by omega
              go_wp2_with fail
              go_region_held3 (fun w' => w'.cell? ⟨bx, 1 + i, none⟩ = some (.int .u64 (f i)) ∧ w'.cell? ⟨bY, 1 + j, none⟩ = some (.int .u64 (g j))) (first | exact ⟨d1, d2⟩ | go_keep) (first | (go_at_call 12; refine Calls.mono (mul64 (f i) (g j) hfi.1 hfi.2 hgj.1 hgj.2 _) ?_; rintro e w' ⟨rfl, rfl⟩))
              go_wp2_with (first | simp only [add64_0 _ _ a00 u1] | simp only [add64 _ _ _ a10 u2 s1 s2])
              go_roundw
              case rel =>
                refine ⟨i + 1, _, _, _, by go_num, rfl, rfl, rfl, by omega, by omega, by omega, by omega, by omega, s3, by omega, ?_, hR, hT, ⟨hB.os, hB.tape, hB.output, hB.size, hB.block⟩⟩
                simp only [col]
                rw [s5, term, if_pos (by have := hj.out; omega), show k - i = j by have := hj.out; omega]
                omega
              case measure => simp [intOf]; omega
            · have t2 : ((m : Int) ≤ j) = True := by simp; omega
              go_wp2
              go_roundw
              case rel =>
                refine ⟨i + 1, a0, a1, a2, by go_num, rfl, rfl, rfl, by omega, a00, a01, a10, a11, a20, by omega, ?_, hR, hT, hB⟩
                simp only [col]
                rw [term, if_neg (by have := hj.out; omega)]
                omega
              case measure => simp [intOf]; omega
        · obtain rfl : i = n := by omega
          have hltb2 : ¬ ((i : Int) < i) := by omega
          have d1 := hT.c k (by omega)
          have d2 := hT.frozen k
          have k20 : (k : Int) < 20 := by omega
          go_wp2
          go_roundw
          case rel =>
            refine ⟨k + 1, a1, a2, upd p k a0, by go_num, rfl, rfl, rfl, by omega, a10, a11, a20, by omega, hR.keep (Below.heap_setCell _ _ _ _ (show w.heap.size ≠ w.heap.size + 1 by omega)), hT.set _ _, hB.setCell (show w.heap.size ≤ w.heap.size + 1 by omega) _, ?_, ?_⟩
            · intro j hj
              by_cases e : j = k
              · subst e; rw [upd_same]; exact ⟨a00, a01⟩
              · rw [upd_other _ _ _ _ e]; exact hW j (by omega)
            · exact col_done p k a0 a1 a2 c0 c1 _ _ hA hV
          case measure => simp [intOf]; omega
    · obtain rfl : k = n + m := by omega
      have hltb : ¬ (((n + m : Nat) : Int) < (n : Int) + m) := by omega
      have hE := model_end hf hg hW c00 c10 hV
      go_wp2
      go_loopw [18] (fun vt wq => ∃ t : Nat, vt = .int .i64 t ∧ t ≤ n + m ∧ val p t = val f n * val g m ∧ Tw wq w.heap.size (fun _ => 0) ∧ Tw wq (w.heap.size + 1) p ∧ Below w.heap.size w wq) (fun vt _ => (intOf vt).toNat)
      case atStart => exact ⟨n + m, by go_num, by omega, hE, hR, hT, hB⟩
      case round =>
        obtain ⟨t, rfl, htn, htv, hR, hT, hB⟩ := hrel
        by_cases h0 : t = 0
        · subst h0
          have hN : Norm 0 p (val f n * val g m) := ⟨fun j hj => by omega, htv, .inl rfl⟩
          have hl := run_loadCells_at (P := Yba.prog) wr (w.heap.size + 1) 30 (0, 0) (tab 20 p) 20 (tab_size _ _) hT
          have hst := run_storeCells_at (P := Yba.prog) wr w.heap.size 30 _ (tab 20 p) hR (by rw [tab_size]; kernel_rfl) (by rw [tab_size, tab_size]) (tab_one _ _)
          have hBZ : Below w.heap.size w (wr.setRow w.heap.size (tab 20 p)) := below_setRow hB (Nat.le_refl _) _
          have hlz := run_loadCells_at (P := Yba.prog) (wr.setRow w.heap.size (tab 20 p)) w.heap.size 30 (0, 0) (tab 20 p) 20 (tab_size _ _) (setRow_heap wr w.heap.size _ _ 30 _ hR)
          go_wp2_with fail
          simp only [Yba.sizeOf30, Result.andThen, hl]
          rw [Oper.upon_value]
          go_wp2_with fail
          simp only [Yba.sizeOf30, Result.andThen, tab_size, ↓reduceIte, hst]
          rw [Oper.upon_skip]
          go_wp2_with fail
          generalize wr.setRow w.heap.size (tab 20 p) = wf at *
          refine bodyPost_ret (v := .tuple #[.agg (tab 20 p), .int .i64 0]) ?_ rfl ⟨0, p, rfl, hN, by omega, hBZ⟩
          simp [results, Yba.results7, go_sem]
          simp only [Yba.sizeOf30, Result.andThen, hlz]
        · obtain ⟨u, rfl⟩ : ∃ u, t = u + 1 := ⟨t - 1, by omega⟩
          have d1 := hT.c u (by omega)
          have tb : ((0 : Int) < (u : Int) + 1) = True := by simp only [eq_iff_iff, iff_true]; omega
          have u20 : (u : Int) < 20 := by omega
          by_cases hp0 : p u = 0
          · rw [hp0] at d1
            go_wp2
            go_roundw
            case rel => exact ⟨u, by go_num, by omega, by rw [← htv]; exact (val_step p u hp0).symm, hR, hT, hB⟩
            case measure => simp [intOf]
          · have hp0b : (p u == 0) = false := by simp [hp0]
            have hN : Norm (u + 1) p (val f n * val g m) := ⟨hW.le htn, htv, .inr hp0⟩
            have hl := run_loadCells_at (P := Yba.prog) wr (w.heap.size + 1) 30 (0, 0) (tab 20 p) 20 (tab_size _ _) hT
            have hst := run_storeCells_at (P := Yba.prog) wr w.heap.size 30 _ (tab 20 p) hR (by rw [tab_size]; kernel_rfl) (by rw [tab_size, tab_size]) (tab_one _ _)
            have hBZ : Below w.heap.size w (wr.setRow w.heap.size (tab 20 p)) := below_setRow hB (Nat.le_refl _) _
            have hlz := run_loadCells_at (P := Yba.prog) (wr.setRow w.heap.size (tab 20 p)) w.heap.size 30 (0, 0) (tab 20 p) 20 (tab_size _ _) (setRow_heap wr w.heap.size _ _ 30 _ hR)
            go_wp2_with fail
            simp only [Yba.sizeOf30, Result.andThen, hl]
            rw [Oper.upon_value]
            go_wp2_with fail
            simp only [Yba.sizeOf30, Result.andThen, tab_size, ↓reduceIte, hst]
            rw [Oper.upon_skip]
            go_wp2_with fail
            generalize wr.setRow w.heap.size (tab 20 p) = wf at *
            refine bodyPost_ret (v := .tuple #[.agg (tab 20 p), .int .i64 ((u : Int) + 1)]) ?_ rfl ⟨u + 1, p, by go_num, hN, htn, hBZ⟩
            simp [results, Yba.results7, go_sem]
            simp only [Yba.sizeOf30, Result.andThen, hlz]
end Go.Proofs.Ybulkbhoa
