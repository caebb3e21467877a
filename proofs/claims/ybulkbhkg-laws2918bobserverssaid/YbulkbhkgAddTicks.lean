/-
  DERIVED. Seat b2918a: (*eventLog).addTicks.
-/
import Derived.Test.YbulkbhkgAddEv
namespace Go.Proofs.Ybulkbhkg
open Go.RowKit
set_option linter.unusedVariables false

set_option maxHeartbeats 1000000 in
theorem addTicks_one (g n : Nat) (ch : Value) (S A T p : Int) (buf far obs : Value) (xs : List Value) (w : World)
    (hA0 : -80000000000000000000 ≤ A) (hA1 : A ≤ 80000000000000000000) (hT0 : -80000000000000000000 ≤ T) (hT1 : T ≤ 80000000000000000000) (hd0 : -1000000000000000000 ≤ T - A) (hd1 : T - A ≤ 1000000000000000000)
    (hclk : Clk w g ch S A buf far obs) (hown : w.ownsRow (g + 1) 5 1 buf n xs) (hlim : n + 30 ≤ 140737488355328) :
    Calls Yba.prog 16 #[.pointer (some ⟨g, 16, none⟩), tm T, .int .i64 1, .int .i64 p] w fun e w' => ∃ a' m' c', e = .returned (.tuple #[]) ∧ Clk w' g ch S T (.slice a' m' c') far obs ∧
      w'.ownsRow (g + 1) 5 1 (.slice a' m' c') (n + 1 + (Lib.uvarint (Lib.zigzag ((T - A) * 2))).length + 1) (xs ++ [.int .u8 36] ++ Lib.byteCells (Lib.uvarint (Lib.zigzag ((T - A) * 2))) ++ Lib.byteCells [0]) ∧ FrC g w buf w' (.slice a' m' c') := by
  have HC : Hid (Clk w g ch S A buf far obs) := hclk
  have HO : Hid (w.ownsRow (g + 1) 5 1 buf n xs) := hown
  have hg := hclk.lt
  clear hclk hown
  unfold tm
  go_enter Yba.func16, Yba.ntmps16
  go_wp2_with fail
  refine (tickEvent_any T _).mono ?_
  rintro e w1 ⟨rfl, hB⟩
  have hB1 : Below w.heap.size w w1 := ((Below.refl _ _).alloc (Nat.le_refl _) _).trans (hB.mono (by simp))
  clear hB
  go_wp2_with fail
  refine (addEv_any g n ch S A T buf far obs xs w1 hA0 hA1 hT0 hT1 hd0 hd1 (HC.out.keep (hB1.block g hg)) (below_own hB1 HO.out) hlim).mono ?_
  rintro e w2 ⟨a2, m2, c2, rfl, hC2, hO2, hF2⟩
  have HF2 : Hid (FrC g w buf w2 (.slice a2 m2 c2)) := (below_frc hB1 _).trans hF2
  have HC2 : Hid (Clk w2 g ch S T (.slice a2 m2 c2) far obs) := hC2
  have HO2 : Hid (w2.ownsRow (g + 1) 5 1 (.slice a2 m2 c2) _ _) := hO2
  clear hF2 hC2 hO2
  go_wp2
  exact bodyPost_ret (v := .tuple #[]) (by simp [results, Yba.results16, go_sem]) rfl ⟨a2, m2, c2, rfl, HC2.out, HO2.out, HF2.out⟩

/-- AppendVarint onto the clock's history: what holds before the store. -/
theorem varint_clk (g n : Nat) (ch : Value) (S A : Int) (buf far obs : Value) (xs : List Value) (x : Int) (W : World) (h0 : -9223372036854775808 ≤ x) (h1 : x ≤ 9223372036854775807) (hclk : Clk W g ch S A buf far obs) (hown : W.ownsRow (g + 1) 5 1 buf n xs) (hlim : n + 10 ≤ 140737488355328) :
    Calls Yba.prog 10 #[buf, .int .i64 x] W fun e w' => ∃ a' m' c', e = .returned (.slice a' m' c') ∧ Clk w' g ch S A buf far obs ∧ w'.ownsRow (g + 1) 5 1 (.slice a' m' c') (n + (Lib.uvarint (Lib.zigzag x)).length) (xs ++ Lib.byteCells (Lib.uvarint (Lib.zigzag x))) ∧ FrC g W buf w' (.slice a' m' c') := by
  refine (varint_any (g + 1) n x h0 h1 buf xs W hown (by have := hclk.lt; omega) hlim).mono ?_
  rintro e w1 ⟨a', m', c', rfl, -, ho1, hf1⟩
  exact ⟨a', m', c', rfl, hclk.keep (hf1.grown.block g hclk.lt (own_far hown)), ho1, hf1.clk⟩

/-- What stands behind the first statement of addTicks' batch way (the box of 'first' in block w.heap.size). -/
theorem batch_first {g n : Nat} {ch : Value} {S A : Int} {far obs : Value} {xs : List Value} {w w1 : World} {ba : Option Addr} {bc gg cap : Nat} {o1 o2 : Obj}
    (hC : Clk w g ch S A (.slice ba n bc) far obs) (hO : w.ownsRow (g + 1) 5 1 (.slice ba n bc) n xs)
    (hown1 : w1.ownsRow (g + 1) 5 1 (.slice (some ⟨gg, 0, none⟩) (n + 1) cap) (n + 1) (xs ++ [.int .u8 100]))
    (hgrow : ((w.alloc o1).alloc o2).grownBy w1 (Value.slice ba n bc).ownBlock) (hat : (Value.slice ba n bc).ownBlock = some gg ∨ gg = w.heap.size + 1 + 1) :
    Clk (w1.setCell ⟨g, 22, none⟩ (.slice (some ⟨gg, 0, none⟩) (n + 1) cap)) g ch S A (.slice (some ⟨gg, 0, none⟩) (n + 1) cap) far obs ∧
    (w1.setCell ⟨g, 22, none⟩ (.slice (some ⟨gg, 0, none⟩) (n + 1) cap)).ownsRow (g + 1) 5 1 (.slice (some ⟨gg, 0, none⟩) (n + 1) cap) (n + 1) (xs ++ [.int .u8 100]) ∧
    FrC g w (.slice ba n bc) (w1.setCell ⟨g, 22, none⟩ (.slice (some ⟨gg, 0, none⟩) (n + 1) cap)) (.slice (some ⟨gg, 0, none⟩) (n + 1) cap) ∧
    (Value.slice (some ⟨gg, 0, none⟩) (n + 1) cap).ownBlock ≠ some w.heap.size ∧ (w1.setCell ⟨g, 22, none⟩ (.slice (some ⟨gg, 0, none⟩) (n + 1) cap)).heap[w.heap.size]? = some o1 := by
  have hg := hC.lt
  have hof : (Value.slice ba n bc).ownBlock ≠ some g := (own_far hO).symm
  have hk0 := own_old hO (Nat.le_refl _)
  have hfr : FrC g w (.slice ba n bc) w1 (.slice (some ⟨gg, 0, none⟩) (n + 1) cap) := by
    refine (((FrC.refl g w _).alloc o1).alloc o2).trans (Fr.clk ⟨hgrow, ?_⟩)
    rcases hat with e | e
    · left; rw [e]; rfl
    · right; exact ⟨gg, rfl, by subst e; simp⟩
  have hgg : w1.heap[g]? = w.heap[g]? := by
    rw [hgrow.block g (by simp; omega) (Ne.symm hof), Below.heap_alloc _ _ _ (by simp; omega), Below.heap_alloc _ _ _ hg]
  refine ⟨(hC.keep hgg).setBuf _, own_setG hown1 _ _, hfr.setCell _ _, ?_, ?_⟩
  · rcases hat with e | e
    · rw [e] at hk0; simpa [Value.ownBlock] using hk0
    · subst e; simp [Value.ownBlock]; omega
  · rw [Below.heap_setCell _ _ _ _ (by simp; omega), hgrow.block w.heap.size (by simp; omega) (Ne.symm hk0), Below.heap_alloc _ _ _ (by simp), heap_alloc_new]

set_option maxHeartbeats 2000000 in
theorem addTicks_batch (g n : Nat) (ch : Value) (S A T N p : Int) (buf far obs : Value) (xs : List Value) (a b : Int) (ha : a = T % 1000000000) (hb : b = T / 1000000000) (w : World)
    (hA0 : -80000000000000000000 ≤ A) (hA1 : A ≤ 80000000000000000000) (hT0 : -80000000000000000000 ≤ T) (hT1 : T ≤ 80000000000000000000) (hd0 : -1000000000000000000 ≤ T - A) (hd1 : T - A ≤ 1000000000000000000)
    (hN : (N == 1) = false) (hN0 : -9223372036854775808 ≤ N) (hN1 : N ≤ 9223372036854775807) (hp0 : -9223372036854775808 ≤ p) (hp1 : p ≤ 9223372036854775807)
    (hclk : Clk w g ch S A buf far obs) (hown : w.ownsRow (g + 1) 5 1 buf n xs) (hlim : n + 40 ≤ 140737488355328) :
    Calls Yba.prog 16 #[.pointer (some ⟨g, 16, none⟩), .agg #[.int .u64 a, .int .i64 b, .pointer none], .int .i64 N, .int .i64 p] w fun e w' => ∃ a' m' c', e = .returned (.tuple #[]) ∧ Clk w' g ch S T (.slice a' m' c') far obs ∧
      w'.ownsRow (g + 1) 5 1 (.slice a' m' c') (n + 1 + (Lib.uvarint (Lib.zigzag ((T - A) * 2))).length + (Lib.uvarint (Lib.zigzag N)).length + (Lib.uvarint (Lib.zigzag p)).length) (xs ++ [.int .u8 100] ++ Lib.byteCells (Lib.uvarint (Lib.zigzag ((T - A) * 2))) ++ Lib.byteCells (Lib.uvarint (Lib.zigzag N)) ++ Lib.byteCells (Lib.uvarint (Lib.zigzag p))) ∧ FrC g w buf w' (.slice a' m' c') := by
  obtain ⟨i0, hi, hz0, hz1, hz2⟩ := info5
  have h22 := hclk.c22
  have hf22 := hclk.frozen 22
  have hg := hclk.lt
  have hgne : w.heap.size ≠ g := by omega
  have HC : Hid (Clk w g ch S A buf far obs) := hclk
  have HO : Hid (w.ownsRow (g + 1) 5 1 buf n xs) := hown
  obtain ⟨ba, bc, hbuf⟩ := own_form hown
  subst hbuf
  have Ha : Hid (a = T % 1000000000) := ha
  have Hb : Hid (b = T / 1000000000) := hb
  clear hclk hown ha hb
  go_enter Yba.func16, Yba.ntmps16
  go_wp2_with (at_builtin; refine wpList_append_lies _ rfl _ _ _ rfl (g + 1) 5 i0 (.int .u8 0) 1 1 Yba.underlying56 hi hz0 hz1 hz2 rfl (by decide) (.slice ba n bc) n xs rfl ((HO.out.alloc _).alloc _) ⟨w.heap.size + 1, 0, none⟩ 1 1 [.int .u8 100] rfl rfl (World.news_of_block (cs := #[.int .u8 100]) (t := 5) (fr := (0, 0)) (new_at (w.alloc _) _ _ (by simp))) (by simp [Value.oneCell']) (by omega) (by unfold maxLen; omega) (by omega) (by simp; omega) (w.heap.size + 1 + 1) (by simp) ?_; intro gg cap w1 hown1 hgrow hat hlt; have hcw : w1.cell? ⟨g, 22, none⟩ = some (.slice ba n bc) := (by rw [hgrow.cell_far ⟨g, 22, none⟩ (by simp; omega) (own_far HO.out)]; go_simp); have hzw : w1.frozen? ⟨g, 22, none⟩ = false := (by rw [hgrow.frozen_far ⟨g, 22, none⟩ (by simp; omega) (own_far HO.out)]; go_simp))
  obtain ⟨hC2, hO2, hF2, hne2, hb2⟩ := batch_first HC.out HO.out hown1 hgrow hat
  obtain ⟨w2, hw2⟩ : ∃ w2, w2 = w1.setCell ⟨g, 22, none⟩ (.slice (some ⟨gg, 0, none⟩) (n + 1) cap) := ⟨_, rfl⟩
  rw [← hw2] at hC2 hO2 hF2 hb2 ⊢
  clear hw2 hcw hzw hown1 hgrow hat hlt h22 hf22
  generalize hv2 : Value.slice (some ⟨gg, 0, none⟩) (n + 1) cap = buf2 at hC2 hO2 hF2 hne2
  have Hv2 : Hid (_) := hv2
  clear hv2
  obtain ⟨L, hL⟩ : ∃ L, Lib.uvarint (Lib.zigzag ((T - A) * 2)) = L := ⟨_, rfl⟩
  have hLl : L.length ≤ 10 := by rw [← hL]; exact Lib.uvarint_length64 (Lib.zigzag_lt (by omega) (by omega))
  have hcall := appendTime_clk g (n + 1) ch S A buf2 far obs (xs ++ [.int .u8 100]) T A w2.drew hT0 hT1 hA0 hA1 hd0 hd1 (hC2.keep rfl) hO2.drew (by omega)
  rw [tm_unfold, tm_unfold, ← Ha.out, ← Hb.out, hL] at hcall
  have HL : Hid (Lib.uvarint (Lib.zigzag ((T - A) * 2)) = L) := hL
  have Hcall : Hid (_) := hcall
  have c19 := hC2.c19; have c20 := hC2.c20; have c21 := hC2.c21
  have f0 : w2.cell? ⟨w.heap.size, 0, none⟩ = some (.int .u64 a) := by rw [cell_of_row _ _ _ _ _ _ hb2]; rfl
  have f1 : w2.cell? ⟨w.heap.size, 1, none⟩ = some (.int .i64 b) := by rw [cell_of_row _ _ _ _ _ _ hb2]; rfl
  have f2 : w2.cell? ⟨w.heap.size, 2, none⟩ = some (.pointer none) := by rw [cell_of_row _ _ _ _ _ _ hb2]; rfl
  have hs2 : w.heap.size < w2.heap.size := World.block_lt_of_cell? w2 _ f0
  have HF2 : Hid (FrC g w (.slice ba n bc) w2 buf2) := hF2
  have Hne2 : Hid (buf2.ownBlock ≠ some w.heap.size) := hne2
  have HB2 : Hid (w2.heap[w.heap.size]? = some (.cells #[.int .u64 a, .int .i64 b, .pointer none] 27 (0, 0))) := hb2
  clear hcall hL hC2 hO2 hF2 hne2 hb2
  go_region_held3 (fun w' => w'.cell? ⟨w.heap.size, 0, none⟩ = some (.int .u64 a) ∧ w'.cell? ⟨w.heap.size, 1, none⟩ = some (.int .i64 b) ∧ w'.cell? ⟨w.heap.size, 2, none⟩ = some (.pointer none) ∧ w'.cell? ⟨g, 19, none⟩ = some (.int .u64 (A % 1000000000)) ∧ w'.cell? ⟨g, 20, none⟩ = some (.int .i64 (A / 1000000000)) ∧ w'.cell? ⟨g, 21, none⟩ = some (.pointer none)) (first | go_keep | (refine ⟨?_, ?_, ?_, hC3.c19, hC3.c20, hC3.c21⟩ <;> (rw [cell_of_row _ _ _ _ _ _ (hF3.far hs2 hgne Hne2.out HB2.out)]; rfl)))
    ((go_at_call 24; refine Calls.mono Hcall.out ?_; rintro e w3 ⟨a3, m3, c3, rfl, hC3, hO3, hF3⟩))
  have HB3 : Hid (w3.heap[w.heap.size]? = some (.cells #[.int .u64 a, .int .i64 b, .pointer none] 27 (0, 0))) := hF3.far hs2 hgne Hne2.out HB2.out
  have HF3 : Hid (FrC g w (.slice ba n bc) w3 (.slice a3 m3 c3)) := HF2.out.trans ((FrC.refl g w2 _).drew.trans hF3)
  have HC3 : Hid (Clk w3 g ch S A (.slice a3 m3 c3) far obs) := hC3
  have HO3 : Hid (w3.ownsRow (g + 1) 5 1 (.slice a3 m3 c3) (n + 1 + L.length) (xs ++ [.int .u8 100] ++ Lib.byteCells L)) := hO3
  have c19 := hC3.c19; have c20 := hC3.c20; have c21 := hC3.c21; have c22 := hC3.c22
  have hfz := hC3.frozen
  have f0 : w3.cell? ⟨w.heap.size, 0, none⟩ = some (.int .u64 a) := by rw [cell_of_row _ _ _ _ _ _ HB3.out]; rfl
  have f1 : w3.cell? ⟨w.heap.size, 1, none⟩ = some (.int .i64 b) := by rw [cell_of_row _ _ _ _ _ _ HB3.out]; rfl
  have f2 : w3.cell? ⟨w.heap.size, 2, none⟩ = some (.pointer none) := by rw [cell_of_row _ _ _ _ _ _ HB3.out]; rfl
  have hs3 : g < w3.heap.size := hC3.lt
  clear hC3 hO3 hF3 Hcall HF2 Hne2 HB2 HB3
  go_wp2_with fail
  obtain ⟨w4, hw4⟩ : ∃ w4, w4 = ((w3.setCell ⟨g, 19, none⟩ (.int .u64 a)).setCell ⟨g, 20, none⟩ (.int .i64 b)).setCell ⟨g, 21, none⟩ (.pointer none) := ⟨_, rfl⟩
  rw [← hw4]
  have HC4 : Hid (Clk w4 g ch S T (.slice a3 m3 c3) far obs) := by
    have h := HC3.out.setAt T
    rw [← Ha.out, ← Hb.out] at h
    rw [hw4]; exact h
  have HO4 : Hid (w4.ownsRow (g + 1) 5 1 (.slice a3 m3 c3) (n + 1 + L.length) (xs ++ [.int .u8 100] ++ Lib.byteCells L)) := by
    have h := own_setG (own_setG (own_setG HO3.out 19 (.int .u64 a)) 20 (.int .i64 b)) 21 (.pointer none)
    rw [← hw4] at h; exact h
  have HF4 : Hid (FrC g w (.slice ba n bc) w4 (.slice a3 m3 c3)) := by
    rw [hw4]; exact ((HF3.out.setCell _ _).setCell _ _).setCell _ _
  clear hw4 HC3 HO3 HF3 c19 c20 c21 c22 hfz f0 f1 f2 hs3
  obtain ⟨LN, hLN⟩ : ∃ L, Lib.uvarint (Lib.zigzag N) = L := ⟨_, rfl⟩
  have hLNl : LN.length ≤ 10 := by rw [← hLN]; exact Lib.uvarint_length64 (Lib.zigzag_lt (by omega) (by omega))
  have hcN := varint_clk g (n + 1 + L.length) ch S T (.slice a3 m3 c3) far obs (xs ++ [.int .u8 100] ++ Lib.byteCells L) N w4 hN0 hN1 HC4.out HO4.out (by omega)
  rw [hLN] at hcN
  have HLN : Hid (Lib.uvarint (Lib.zigzag N) = LN) := hLN
  clear hLN
  refine Calls.mono hcN ?_
  clear hcN
  rintro e w5 ⟨a5, m5, c5, rfl, hC5, hO5, hF5⟩
  have c22 := hC5.c22
  have hfz := hC5.frozen 22
  have HC5 : Hid (Clk w5 g ch S T (.slice a3 m3 c3) far obs) := hC5
  have HO5 : Hid (w5.ownsRow (g + 1) 5 1 (.slice a5 m5 c5) (n + 1 + L.length + LN.length) (xs ++ [.int .u8 100] ++ Lib.byteCells L ++ Lib.byteCells LN)) := hO5
  have HF5 : Hid (FrC g w (.slice ba n bc) w5 (.slice a5 m5 c5)) := HF4.out.trans hF5
  clear hC5 hO5 hF5 HC4 HO4 HF4
  go_wp2_with fail
  obtain ⟨w6, hw6⟩ : ∃ w6, w6 = w5.setCell ⟨g, 22, none⟩ (.slice a5 m5 c5) := ⟨_, rfl⟩
  rw [← hw6]
  have HC6 : Hid (Clk w6 g ch S T (.slice a5 m5 c5) far obs) := by rw [hw6]; exact HC5.out.setBuf _
  have HO6 : Hid (w6.ownsRow (g + 1) 5 1 (.slice a5 m5 c5) (n + 1 + L.length + LN.length) (xs ++ [.int .u8 100] ++ Lib.byteCells L ++ Lib.byteCells LN)) := by rw [hw6]; exact own_setG HO5.out _ _
  have HF6 : Hid (FrC g w (.slice ba n bc) w6 (.slice a5 m5 c5)) := by rw [hw6]; exact HF5.out.setCell _ _
  clear hw6 HC5 HO5 HF5 c22 hfz
  obtain ⟨LP, hLP⟩ : ∃ L, Lib.uvarint (Lib.zigzag p) = L := ⟨_, rfl⟩
  have hcP := varint_clk g (n + 1 + L.length + LN.length) ch S T (.slice a5 m5 c5) far obs (xs ++ [.int .u8 100] ++ Lib.byteCells L ++ Lib.byteCells LN) p w6 hp0 hp1 HC6.out HO6.out (by omega)
  rw [hLP] at hcP
  have HLP : Hid (Lib.uvarint (Lib.zigzag p) = LP) := hLP
  clear hLP
  refine Calls.mono hcP ?_
  clear hcP
  rintro e w7 ⟨a7, m7, c7, rfl, hC7, hO7, hF7⟩
  have c22 := hC7.c22
  have hfz := hC7.frozen 22
  have HC7 : Hid (Clk w7 g ch S T (.slice a5 m5 c5) far obs) := hC7
  have HO7 : Hid (w7.ownsRow (g + 1) 5 1 (.slice a7 m7 c7) (n + 1 + L.length + LN.length + LP.length) (xs ++ [.int .u8 100] ++ Lib.byteCells L ++ Lib.byteCells LN ++ Lib.byteCells LP)) := hO7
  have HF7 : Hid (FrC g w (.slice ba n bc) w7 (.slice a7 m7 c7)) := HF6.out.trans hF7
  clear hC7 hO7 hF7 HC6 HO6 HF6
  go_wp2
  go_end0
  refine ⟨a7, m7, c7, rfl, HC7.out.setBuf _, ?_, HF7.out.setCell _ _⟩
  rw [HL.out, HLN.out, HLP.out]
  exact own_setG HO7.out _ _

end Go.Proofs.Ybulkbhkg
