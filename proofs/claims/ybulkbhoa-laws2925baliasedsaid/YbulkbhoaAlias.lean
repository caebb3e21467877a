/-
  DERIVED. Seat b2925a: LawS2925BAliased (4).
-/
import Derived.Test.YbulkbhoaProd
namespace Go.Proofs.Ybulkbhoa
open Go.RowKit
set_option linter.unusedVariables false

attribute [-simp] Yba.sizeOf26 Yba.sizeOf30
attribute [-go_sem] run_neq_struct run_eql_struct

/-- What holds from the model's first call on: x, y and the words wanted lie where they lay; of what was there when the call began nothing has turned. -/
structure St (w wc : World) (bx bY bw n m : Nat) (f g q : Nat → Int) : Prop where
  x : Wd wc bx n f
  y : Wd wc bY m g
  t : Tw wc bw q
  bel : Below w.heap.size w wc
  lx : w.heap.size ≤ bx
  ly : w.heap.size ≤ bY
  lw : w.heap.size ≤ bw

theorem St.below {w wc wd : World} {bx bY bw n m : Nat} {f g q : Nat → Int} (h : St w wc bx bY bw n m f g q) (hB : Below wc.heap.size wc wd) : St w wd bx bY bw n m f g q :=
  ⟨h.x.keep (hB.block _ h.x.lt), h.y.keep (hB.block _ h.y.lt), h.t.keep (hB.block _ h.t.lt), h.bel.trans (hB.mono h.bel.size), h.lx, h.ly, h.lw⟩

theorem St.fx {w wc wd : World} {bx bY bw n m b : Nat} {f g q : Nat → Int} (h : St w wc bx bY bw n m f g q) (hF : Fx b wc wd) (h1 : bx < b) (h2 : bY < b) (h3 : bw < b) (h4 : w.heap.size ≤ b) : St w wd bx bY bw n m f g q :=
  ⟨h.x.keep (hF.block _ h.x.lt (by omega)), h.y.keep (hF.block _ h.y.lt (by omega)), h.t.keep (hF.block _ h.t.lt (by omega)),
    ⟨hF.os.trans h.bel.os, hF.tape.trans h.bel.tape, hF.output.trans h.bel.output, Nat.le_trans h.bel.size hF.size, fun j hj => (hF.block j (Nat.lt_of_lt_of_le hj h.bel.size) (by omega)).trans (h.bel.block j hj)⟩, h.lx, h.ly, h.lw⟩

/-- The words wanted lie in a block that was made behind the call of the model. -/
theorem st_new {w w3 w6 w7 : World} {bx bY n m : Nat} {f g q : Nat → Int} (hX : Wd w3 bx n f) (hY : Wd w3 bY m g) (hb : Below w.heap.size w w3) (h1 : w.heap.size ≤ bx) (h2 : w.heap.size ≤ bY)
    (h6 : Below w3.heap.size w3 w6) (h7 : Below w6.heap.size w6 w7) (hT : Tw w7 w6.heap.size q) : St w w7 bx bY w6.heap.size n m f g q := by
  have hB : Below w3.heap.size w3 w7 := h6.trans (h7.mono h6.size)
  exact ⟨hX.keep (hB.block _ hX.lt), hY.keep (hB.block _ hY.lt), hT, hb.trans (hB.mono hb.size), h1, h2, Nat.le_trans hb.size h6.size⟩

/-- The words wanted lie in a block that was made ahead of it. -/
theorem st_old {w w3 w6 : World} {bx bY n m : Nat} {f g q : Nat → Int} (hX : Wd w3 bx n f) (hY : Wd w3 bY m g) (hb : Below w.heap.size w w3) (h1 : w.heap.size ≤ bx) (h2 : w.heap.size ≤ bY)
    (h6 : Below w3.heap.size w3 w6) (hT : Tw w6 w3.heap.size (fun _ => 0)) : St w (w6.setRow w3.heap.size (tab 20 q)) bx bY w3.heap.size n m f g q := by
  have hB : Below w3.heap.size w3 (w6.setRow w3.heap.size (tab 20 q)) := below_setRow h6 (Nat.le_refl _) _
  exact ⟨hX.keep (hB.block _ hX.lt), hY.keep (hB.block _ hY.lt), setRow_heap _ _ _ _ 30 _ hT, hb.trans (hB.mono hb.size), h1, h2, hb.size⟩

set_option maxHeartbeats 8000000 in
set_option maxRecDepth 100000 in
theorem aliased_any (a0 a1 : Option Addr) (l0 c0 l1 c1 : Nat) (s0 s1 : Nat → Int) (junk : Int) (w : World) (h0 : Src w a0 l0 s0) (h1 : Src w a1 l1 s1) (hj0 : 0 ≤ junk) (hj1 : junk < 18446744073709551616) :
    Calls Yba.prog 4 #[.slice a0 l0 c0, .slice a1 l1 c1, .int .u64 junk] w fun e w' => e = .returned (.bool true) ∧ Below w.heap.size w w' := by
  go_enter Yba.func4, Yba.ntmps4
  go_upto_region 1 with fail
  go_cut [7] (fun v wc => ∃ k0 : Nat, v = .int .i64 k0 ∧ k0 ≤ l0 ∧ k0 ≤ 5 ∧ w = wc)
  case first =>
    go_wp2_with fail
    all_goals
      go_meet
      first
        | exact ⟨l0, rfl, by omega, by omega, rfl⟩
        | exact ⟨5, rfl, by omega, by omega, rfl⟩
  case rest =>
  obtain ⟨k0, rfl, hk0, hk0', rfl⟩ := hcut
  go_upto_region 2 with fail
  have hsub : ((10 : Int) - k0) = ((10 - k0 : Nat) : Int) := by omega
  go_cut [8] (fun v wc' => ∃ k1 : Nat, v = .int .i64 k1 ∧ k1 ≤ l1 ∧ k0 + k1 ≤ 10 ∧ w = wc')
  case first =>
    go_wp2_with fail
    all_goals
      go_meet
      first
        | exact ⟨l1, rfl, by omega, by omega, rfl⟩
        | exact ⟨10 - k0, by go_num, by omega, by omega, rfl⟩
  case rest =>
  obtain ⟨k1, rfl, hk1, hk1', rfl⟩ := hcut
  go_wp2_with (go_at_call 5; refine Calls.mono (build_any a0 l0 c0 k0 s0 junk _ (fun i hi => h0 i (by omega)) (by omega) hk0) ?_; rintro e w' ⟨n, f, rfl, hn, hf, hB⟩; rw [wv_eq])
  obtain ⟨w1, hst1, hX1, hB1, hS1⟩ := new_wide w' n f
  simp only [Yba.sizeOf26, Result.andThen, wcells_size, ↓reduceIte, hst1]
  rw [Oper.upon_skip]
  have hBx : Below w.heap.size w w1 := hB.trans (hB1.mono hB.size)
  have h11 : Src w1 a1 k1 s1 := (Src.keep (fun i hi => h1 i (by omega)) hBx)
  have hbx : w.heap.size ≤ w'.heap.size := hB.size
  generalize w'.heap.size = bx at *
  clear hst1 hB1 hB
  go_wp2_with (go_at_call 5; refine Calls.mono (build_any a1 l1 c1 k1 s1 _ _ h11 (by omega) hk1) ?_; rintro e w2 ⟨m, g, rfl, hm, hg, hB2⟩; rw [wv_eq])
  obtain ⟨w3, hst3, hY3, hB3, hS3⟩ := new_wide w2 m g
  simp only [Yba.sizeOf26, Result.andThen, wcells_size, ↓reduceIte, hst3]
  rw [Oper.upon_skip]
  have hbelow : Below w.heap.size w w3 := hBx.trans ((hB2.trans (hB3.mono hB2.size)).mono hBx.size)
  have hX3 : Wd w3 bx n f := hX1.keep ((hB3.block _ (by have := hB2.size; have := hX1.lt; omega)).trans (hB2.block _ hX1.lt))
  have hby : w.heap.size ≤ w2.heap.size := by have := hB2.size; have := hBx.size; omega
  generalize w2.heap.size = bY at *
  clear hst3 hB3 hB2 hX1 h11 hBx h0 h1 hS3 hS1
  have hnm : n + m ≤ 10 := by omega
  have hnn : n + n ≤ 10 := by omega
  have n10 : (n : Int) ≤ 10 := by omega
  have m10 : (m : Int) ≤ 10 := by omega
  have n0 : (0 : Int) ≤ n := by omega
  have m0 : (0 : Int) ≤ m := by omega
  have hc1 : n ≤ 10 := by omega
  have hc2 : m ≤ 10 := by omega
  have hw1 := hf.words
  have hw2 := hg.words
  have x5 := hX3.lt
  have y5 := hY3.lt
  go_wp2_with fail
  simp only [Act.put]
  go_cut [11, 12] (fun v11 v12 wd => ∃ (bw t : Nat) (q : Nat → Int), v11 = .pointer (some ⟨bw, 0, none⟩) ∧ v12 = .int .i64 t ∧ Norm t q (val f n * val g m) ∧ St w wd bx bY bw n m f g q)
  case first =>
    have z30 := Yba.sizeOf30
    have d6 := hX3.cn
    have d7 := hY3.cn
    have q1 : bx ≠ w3.heap.size := by omega
    have q2 : bY ≠ w3.heap.size := by omega
    go_region_with ((go_at_call 7; refine Calls.mono (model_any bx bY n m n m f g _ (by first | exact hX3 | exact hX3.keep (old_at _ _ _ x5)) (by first | exact hY3 | exact hY3.keep (old_at _ _ _ y5)) hc1 hc2 hw1 hw2) ?_; rintro e w6 ⟨t6, q6, rfl, hNq, htq, hB6⟩; have hk6 : ∀ j, j < w3.heap.size → w6.heap[j]? = w3.heap[j]? := (fun j hj => by first | exact hB6.block j hj | exact (hB6.block j (by simp; omega)).trans (old_at _ _ _ hj)); have hs6 : w3.heap.size ≤ w6.heap.size := (by first | exact hB6.size | (have hq := hB6.size; simp at hq; omega)); have hb6 : Below w3.heap.size w3 w6 := ⟨hB6.os, hB6.tape, hB6.output, hs6, hk6⟩; have hsz := tab_size 20 q6; first | (have hT6 : Tw w6 w3.heap.size (fun _ => 0) := (hB6.block _ (by simp)).trans (new_at w3 _); have hst6 := run_storeCells_at (P := Yba.prog) w6 w3.heap.size 30 _ (tab 20 q6) hT6 (by rw [tab_size]; kernel_rfl) (by rw [tab_size]; rfl) (tab_one 20 q6)) | (obtain ⟨w7, hst7, hT7, hB7⟩ := new_arr w6 q6)))
    all_goals
      go_wp2_with fail
      go_meet
      first
        | exact ⟨_, t6, q6, rfl, rfl, hNq, st_new hX3 hY3 hbelow hbx hby hb6 hB7 hT7⟩
        | exact ⟨_, t6, q6, rfl, rfl, hNq, st_old hX3 hY3 hbelow hbx hby hb6 hT6⟩
  case rest =>
  obtain ⟨bw, t, q, rfl, rfl, hNq, hSt⟩ := hcut
  clear hX3 hY3 hbelow x5 y5
  have hlx := run_loadCells_at (P := Yba.prog) _ bx 26 (0, 0) (wcells n f) 11 (wcells_size _ _) hSt.x
  go_wp2_with fail
  simp only [Yba.sizeOf26, Result.andThen, hlx]
  rw [Oper.upon_value]
  go_wp2_with fail
  obtain ⟨wA, hstA, hA, hBA, hSA⟩ := new_wide wc n f
  simp only [Yba.sizeOf26, Result.andThen, wcells_size, ↓reduceIte, hstA]
  rw [Oper.upon_skip]
  have hStA := hSt.below hBA
  have ax := hSt.x.lt
  have ay := hSt.y.lt
  have aw := hSt.t.lt
  have ab := hSt.bel.size
  clear hSt hBA hSA hstA hlx
  generalize wc.heap.size = ba at *
  go_wp2_with (go_at_call 6; refine Calls.mono (mulLong_any ba ba bY n m n f g f _ hA hA hStA.y hnm hf hg) ?_; rintro e wB ⟨kA, pA, rfl, hZA, hNA, hkA, hFA⟩)
  have hStB := hStA.fx hFA ax ay aw ab
  have hlB := run_loadCells_at (P := Yba.prog) _ bw 30 (0, 0) (tab 20 q) 20 (tab_size _ _) hStB.t
  obtain ⟨eA, heA⟩ := hNA.unique hNq
  rw [eA] at hZA hkA heA
  clear eA hNA hFA hStA hA
  simp only [Yba.sizeOf30, Result.andThen, hlB]
  rw [Oper.upon_value]
  go_wp2_with (go_at_call 8; refine Calls.mono (same_any ba t pA q _ hZA hkA heA) ?_; rintro e wC ⟨rfl, hBC⟩)
  have hStC := hStB.below hBC
  clear hStB hBC hlB hZA
  have hly := run_loadCells_at (P := Yba.prog) _ bY 26 (0, 0) (wcells m g) 11 (wcells_size _ _) hStC.y
  simp only [Yba.sizeOf26, Result.andThen, hly]
  rw [Oper.upon_value]
  go_wp2_with fail
  obtain ⟨wD, hstD, hD, hBD, hSD⟩ := new_wide wC m g
  simp only [Yba.sizeOf26, Result.andThen, wcells_size, ↓reduceIte, hstD]
  rw [Oper.upon_skip]
  have hStD := hStC.below hBD
  have bx1 := hStC.x.lt
  have by1 := hStC.y.lt
  have bw1 := hStC.t.lt
  have bb1 := hStC.bel.size
  clear hStC hBD hSD hstD hly
  generalize wC.heap.size = bb at *
  have hly := run_loadCells_at (P := Yba.prog) _ bY 26 (0, 0) (wcells m g) 11 (wcells_size _ _) hStD.y
  go_wp2_with fail
  simp only [Yba.sizeOf26, Result.andThen, hly]
  rw [Oper.upon_value]
  go_wp2_with fail
  obtain ⟨wE, hstE, hE, hBE, hSE⟩ := new_wide wD m g
  simp only [Yba.sizeOf26, Result.andThen, wcells_size, ↓reduceIte, hstE]
  rw [Oper.upon_skip]
  have hStE := hStD.below hBE
  have hDE := hD.keep (hBE.block _ hD.lt)
  have be := hD.lt
  clear hStD hBE hSE hstE hly hD
  generalize wD.heap.size = be1 at *
  go_wp2_with (go_at_call 6; refine Calls.mono (mulLong_any bb bx bb n m m f g g _ hDE hStE.x hDE hnm hf hg) ?_; rintro e wF ⟨kF, pF, rfl, hZF, hNF, hkF, hFF⟩)
  have hStF := hStE.fx hFF bx1 by1 bw1 bb1
  have hYF := hE.keep (hFF.block _ hE.lt (by omega))
  have hlF := run_loadCells_at (P := Yba.prog) _ bw 30 (0, 0) (tab 20 q) 20 (tab_size _ _) hStF.t
  obtain ⟨eF, heF⟩ := hNF.unique hNq
  rw [eF] at hZF hkF heF
  clear eF hNF hFF hStE hE hDE
  simp only [Yba.sizeOf30, Result.andThen, hlF]
  rw [Oper.upon_value]
  go_wp2_with (go_at_call 8; refine Calls.mono (same_any bb t pF q _ hZF hkF heF) ?_; rintro e wG ⟨rfl, hBG⟩)
  have hStG := hStF.below hBG
  have hYG := hYF.keep (hBG.block _ hYF.lt)
  clear hStF hBG hlF hZF hYF
  have hgd : Yba.prog.eqGuardType Yba.prog.depth 26 = false := by kernel_rfl
  have hl1 := run_loadCells_at (P := Yba.prog) _ bY 26 (0, 0) (wcells m g) 11 (wcells_size _ _) hStG.y
  have hl2 := run_loadCells_at (P := Yba.prog) _ be1 26 (0, 0) (wcells m g) 11 (wcells_size _ _) hYG
  simp only [Yba.sizeOf26, Result.andThen, hl1]
  rw [Oper.upon_value]
  go_wp2_with fail
  simp only [Yba.sizeOf26, Result.andThen, hl2]
  rw [Oper.upon_value]
  go_wp2_with fail
  clear hl1 hl2 hYG hgd
  have hX3 := hStG.x
  have hbelow := hStG.bel
  have x5 := hX3.lt
  have hw2' := hf.words
  go_cut [16, 17] (fun v11 v12 wd => ∃ (bw t : Nat) (q : Nat → Int), v11 = .pointer (some ⟨bw, 0, none⟩) ∧ v12 = .int .i64 t ∧ Norm t q (val f n * val f n) ∧ St w wd bx bx bw n n f f q)
  case first =>
    have z30 := Yba.sizeOf30
    have d6 := hX3.cn
    have q1 : bx ≠ wG.heap.size := by omega
    go_region_with ((go_at_call 7; refine Calls.mono (model_any bx bx n n n n f f _ (by first | exact hX3 | exact hX3.keep (old_at _ _ _ x5)) (by first | exact hX3 | exact hX3.keep (old_at _ _ _ x5)) hc1 hc1 hw1 hw1) ?_; rintro e w6 ⟨t6, q6, rfl, hNq6, htq, hB6⟩; have hk6 : ∀ j, j < wG.heap.size → w6.heap[j]? = wG.heap[j]? := (fun j hj => by first | exact hB6.block j hj | exact (hB6.block j (by simp; omega)).trans (old_at _ _ _ hj)); have hs6 : wG.heap.size ≤ w6.heap.size := (by first | exact hB6.size | (have hq := hB6.size; simp at hq; omega)); have hb6 : Below wG.heap.size wG w6 := ⟨hB6.os, hB6.tape, hB6.output, hs6, hk6⟩; have hsz := tab_size 20 q6; first | (have hT6 : Tw w6 wG.heap.size (fun _ => 0) := (hB6.block _ (by simp)).trans (new_at wG _); have hst6 := run_storeCells_at (P := Yba.prog) w6 wG.heap.size 30 _ (tab 20 q6) hT6 (by rw [tab_size]; kernel_rfl) (by rw [tab_size]; rfl) (tab_one 20 q6)) | (obtain ⟨w7, hst7, hT7, hB7⟩ := new_arr w6 q6)))
    all_goals
      go_wp2_with fail
      go_meet
      first
        | exact ⟨_, t6, q6, rfl, rfl, hNq6, st_new hX3 hX3 hbelow hbx hbx hb6 hB7 hT7⟩
        | exact ⟨_, t6, q6, rfl, rfl, hNq6, st_old hX3 hX3 hbelow hbx hbx hb6 hT6⟩
  case rest =>
  obtain ⟨bw', t', q', rfl, rfl, hNq', hSt⟩ := hcut
  clear hX3 hbelow x5 hStG
  have hlx := run_loadCells_at (P := Yba.prog) _ bx 26 (0, 0) (wcells n f) 11 (wcells_size _ _) hSt.x
  go_wp2_with fail
  simp only [Yba.sizeOf26, Result.andThen, hlx]
  rw [Oper.upon_value]
  go_wp2_with fail
  obtain ⟨wH, hstH, hH, hBH, hSH⟩ := new_wide wc n f
  simp only [Yba.sizeOf26, Result.andThen, wcells_size, ↓reduceIte, hstH]
  rw [Oper.upon_skip]
  have hStH := hSt.below hBH
  have hx1 := hSt.x.lt
  have hw9 := hSt.t.lt
  have hb9 := hSt.bel.size
  clear hSt hBH hSH hstH hlx
  generalize wc.heap.size = bs at *
  go_wp2_with (go_at_call 6; refine Calls.mono (mulLong_any bs bs bs n n n f f f _ hH hH hH hnn hf hf) ?_; rintro e wI ⟨kI, pI, rfl, hZI, hNI, hkI, hFI⟩)
  have hStI := hStH.fx hFI hx1 hx1 hw9 hb9
  have hlI := run_loadCells_at (P := Yba.prog) _ bw' 30 (0, 0) (tab 20 q') 20 (tab_size _ _) hStI.t
  obtain ⟨eI, heI⟩ := hNI.unique hNq'
  rw [eI] at hZI hkI heI
  clear eI hNI hFI hStH hH
  simp only [Yba.sizeOf30, Result.andThen, hlI]
  rw [Oper.upon_value]
  go_wp2_with (go_at_call 8; refine Calls.mono (same_any bs t' pI q' _ hZI hkI heI) ?_; rintro e wJ ⟨rfl, hBJ⟩)
  go_ret
  exact ⟨rfl, (hStI.below hBJ).bel⟩
end Go.Proofs.Ybulkbhoa
