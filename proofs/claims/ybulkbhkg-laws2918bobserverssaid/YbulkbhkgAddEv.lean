/-
  DERIVED. Seat b2918a: (*eventLog).add at a tick's event.
-/
import Derived.Test.YbulkbhkgTicks
namespace Go.Proofs.Ybulkbhkg
open Go.RowKit
set_option linter.unusedVariables false

theorem FrC.far {g : Nat} {w w' : World} {v v' : Value} (h : FrC g w v w' v') {k : Nat} (hk : k < w.heap.size) (hg : k ≠ g) (hne : v.ownBlock ≠ some k) {o : Obj} (hb : w.heap[k]? = some o) : w'.heap[k]? = some o :=
  (h.block k hk hg (Ne.symm hne)).trans hb

theorem FrC.off {g : Nat} {w w' : World} {v v' : Value} (h : FrC g w v w' v') {k : Nat} (hk : k < w.heap.size) (hne : v.ownBlock ≠ some k) : v'.ownBlock ≠ some k := by
  rcases h.own with e | ⟨j, e, hj⟩
  · rw [e]; exact hne
  · rw [e]; intro e2; injection e2 with e2; omega

theorem new_at (w : World) (o : Obj) (k : Nat) (h : w.heap.size = k) : (w.alloc o).heap[k]? = some o := by subst h; exact heap_alloc_new w o

theorem own_old {w : World} {base : Nat} {e : TypeId} {size : Nat} {v : Value} {n : Nat} {xs : List Value} (h : w.ownsRow base e size v n xs) {k : Nat} (hk : w.heap.size ≤ k) : v.ownBlock ≠ some k := by
  intro e
  have := (h.lt k e).2
  omega

/-- What stands behind the first statement of add (its box in block k0). -/
def AddRel (g n : Nat) (ch : Value) (S A : Int) (buf far obs : Value) (xs : List Value) (a b : Int) (w : World) (wc : World) : Prop :=
  ∃ a' m' c', Clk wc g ch S A (.slice a' m' c') far obs ∧ wc.ownsRow (g + 1) 5 1 (.slice a' m' c') (n + 1) (xs ++ [.int .u8 36]) ∧ FrC g w buf wc (.slice a' m' c') ∧
    (Value.slice a' m' c').ownBlock ≠ some w.heap.size ∧ wc.heap[w.heap.size]? = some (.cells #[.int .u8 4, .int .u8 4, .int .i64 0, .int .u64 a, .int .i64 b, .pointer none, .int .u64 a, .int .i64 b, .pointer none] 35 (0, 0))

theorem AddRel.mk {g n : Nat} {ch : Value} {S A : Int} {far obs : Value} {xs : List Value} {a b : Int} {w w1 : World} {ba : Option Addr} {bc gg cap : Nat} {o1 o2 : Obj}
    (hC : Clk w g ch S A (.slice ba n bc) far obs) (hO : w.ownsRow (g + 1) 5 1 (.slice ba n bc) n xs)
    (ho1 : o1 = .cells #[.int .u8 4, .int .u8 4, .int .i64 0, .int .u64 a, .int .i64 b, .pointer none, .int .u64 a, .int .i64 b, .pointer none] 35)
    (hown1 : w1.ownsRow (g + 1) 5 1 (.slice (some ⟨gg, 0, none⟩) (n + 1) cap) (n + 1) (xs ++ [.int .u8 36]))
    (hgrow : ((w.alloc o1).alloc o2).drew.grownBy w1 (Value.slice ba n bc).ownBlock) (hat : (Value.slice ba n bc).ownBlock = some gg ∨ gg = w.heap.size + 1 + 1) :
    AddRel g n ch S A (.slice ba n bc) far obs xs a b w (w1.setCell ⟨g, 22, none⟩ (.slice (some ⟨gg, 0, none⟩) (n + 1) cap)) := by
  have hg := hC.lt
  have hof : (Value.slice ba n bc).ownBlock ≠ some g := (own_far hO).symm
  have hk0 := own_old hO (Nat.le_refl _)
  have hfr : FrC g w (.slice ba n bc) w1 (.slice (some ⟨gg, 0, none⟩) (n + 1) cap) := by
    refine (((FrC.refl g w _).alloc o1).alloc o2).drew.trans (Fr.clk ⟨hgrow, ?_⟩)
    rcases hat with e | e
    · left; rw [e]; rfl
    · right; exact ⟨gg, rfl, by subst e; simp⟩
  have hgg : w1.heap[g]? = w.heap[g]? := by
    rw [hgrow.block g (by simp; omega) (Ne.symm hof)]
    show ((w.alloc o1).alloc o2).heap[g]? = _
    rw [Below.heap_alloc _ _ _ (by simp; omega), Below.heap_alloc _ _ _ hg]
  refine ⟨_, _, _, (hC.keep hgg).setBuf _, ?_, hfr.setCell _ _, ?_, ?_⟩
  · exact hown1.kept (row := some g) ⟨rfl, rfl, rfl, by simp, fun k _ hne => Below.heap_setCell _ _ _ _ (fun e => hne (by rw [e]))⟩ (.inr (own_far hown1).symm)
  · rcases hat with e | e
    · rw [e] at hk0; simpa [Value.ownBlock] using hk0
    · subst e; simp [Value.ownBlock]; omega
  · rw [Below.heap_setCell _ _ _ _ (by simp; omega), hgrow.block w.heap.size (by simp; omega) (Ne.symm hk0)]
    show ((w.alloc o1).alloc o2).heap[w.heap.size]? = _
    rw [Below.heap_alloc _ _ _ (by simp), heap_alloc_new, ho1]

theorem uv0 : Lib.uvarint (Lib.zigzag 0) = [0] := by
  have e : Lib.zigzag 0 = 0 := by decide
  rw [e, Lib.uvarint_small (by omega)]; rfl

theorem below_undrew {w W : World} (h : Below w.drew.heap.size w.drew W) : Below w.heap.size w W := ⟨h.os, h.tape, h.output, h.size, h.block⟩

/-- The nine cells of an event in a block of its own. -/
def BoxS (k : Nat) (a b : Int) (W : World) : Prop :=
  W.cell? ⟨k, 0, none⟩ = some (.int .u8 4) ∧ W.cell? ⟨k, 1, none⟩ = some (.int .u8 4) ∧ W.cell? ⟨k, 2, none⟩ = some (.int .i64 0) ∧ W.cell? ⟨k, 3, none⟩ = some (.int .u64 a) ∧ W.cell? ⟨k, 4, none⟩ = some (.int .i64 b) ∧ W.cell? ⟨k, 5, none⟩ = some (.pointer none) ∧ W.cell? ⟨k, 6, none⟩ = some (.int .u64 a) ∧ W.cell? ⟨k, 7, none⟩ = some (.int .i64 b) ∧ W.cell? ⟨k, 8, none⟩ = some (.pointer none)

def BoxH (k : Nat) (a b : Int) (W : World) : Prop := W.heap[k]? = some (.cells #[.int .u8 4, .int .u8 4, .int .i64 0, .int .u64 a, .int .i64 b, .pointer none, .int .u64 a, .int .i64 b, .pointer none] 35 (0, 0))

theorem BoxH.cells {k : Nat} {a b : Int} {W : World} (h : BoxH k a b W) : BoxS k a b W := by
  unfold BoxS
  refine ⟨?_, ?_, ?_, ?_, ?_, ?_, ?_, ?_, ?_⟩ <;> (rw [cell_of_row _ _ _ _ _ _ h]; rfl)

theorem own_setG {w : World} {g : Nat} {e : TypeId} {size : Nat} {v : Value} {n : Nat} {xs : List Value} (h : w.ownsRow (g + 1) e size v n xs) (i : Nat) (u : Value) : (w.setCell ⟨g, i, none⟩ u).ownsRow (g + 1) e size v n xs :=
  h.kept (row := some g) ⟨rfl, rfl, rfl, by simp, fun k _ hne => Below.heap_setCell _ _ _ _ (fun e => hne (by rw [e]))⟩ (.inr (own_far h).symm)

set_option maxHeartbeats 2000000 in
attribute [local go_sem ↓] Go.wp_at_zero Go.wp_at_succ in
theorem addEv_raw (g n : Nat) (ch : Value) (S A T : Int) (buf far obs : Value) (xs : List Value) (a b : Int) (ha : a = T % 1000000000) (hb : b = T / 1000000000) (w : World)
    (hA0 : -80000000000000000000 ≤ A) (hA1 : A ≤ 80000000000000000000) (hT0 : -80000000000000000000 ≤ T) (hT1 : T ≤ 80000000000000000000) (hd0 : -1000000000000000000 ≤ T - A) (hd1 : T - A ≤ 1000000000000000000)
    (hclk : Clk w g ch S A buf far obs) (hown : w.ownsRow (g + 1) 5 1 buf n xs) (hlim : n + 30 ≤ 140737488355328) :
    Calls Yba.prog 23 #[.pointer (some ⟨g, 16, none⟩), .agg #[.int .u8 4, .int .u8 4, .int .i64 0, .int .u64 a, .int .i64 b, .pointer none, .int .u64 a, .int .i64 b, .pointer none]] w fun e w' => ∃ a' m' c', e = .returned (.tuple #[]) ∧ Clk w' g ch S T (.slice a' m' c') far obs ∧
      w'.ownsRow (g + 1) 5 1 (.slice a' m' c') (n + 1 + (Lib.uvarint (Lib.zigzag ((T - A) * 2))).length + 1) (xs ++ [.int .u8 36] ++ Lib.byteCells (Lib.uvarint (Lib.zigzag ((T - A) * 2))) ++ Lib.byteCells [0]) ∧ FrC g w buf w' (.slice a' m' c') := by
  obtain ⟨i0, hi, hz0, hz1, hz2⟩ := info5
  have hb36 : bits .or .u8 4 (IntKind.u8.wrap 32) = 36 := by decide
  have h22 := hclk.c22
  have hf22 := hclk.frozen 22
  have hg := hclk.lt
  have HC : Hid (Clk w g ch S A buf far obs) := hclk
  have HO : Hid (w.ownsRow (g + 1) 5 1 buf n xs) := hown
  obtain ⟨ba, bc, hbuf⟩ := own_form hown
  subst hbuf
  have Ha : Hid (a = T % 1000000000) := ha
  have Hb : Hid (b = T / 1000000000) := hb
  clear hclk hown ha hb
  go_enter Yba.func23, Yba.ntmps23
  go_wp2_with fail
  go_cut [4] (fun s wc => AddRel g n ch S A (.slice ba n bc) far obs xs a b w wc)
  case first =>
    go_region_law ((refine step_append_lies _ (by rfl) _ _ _ (by rfl) (g + 1) 5 i0 (.int .u8 0) 1 1 Yba.underlying56 hi hz0 hz1 hz2 rfl (by decide) (.slice ba n bc) n xs (by rfl) (((HO.out.alloc _).alloc _).drew) ⟨w.heap.size + 1, 0, none⟩ 1 1 [.int .u8 36] (by rfl) (by rfl) (World.news_of_block (cs := #[.int .u8 36]) (t := 5) (fr := (0, 0)) (new_at (w.alloc _) _ _ (by simp))) (by simp [Value.oneCell']) (by omega) (by unfold maxLen; omega) (by omega) (by simp; omega) (w.heap.size + 1 + 1) (by simp) ?_; intro gg cap w1 hown1 hgrow hat hlt; have hcw : w1.cell? ⟨g, 22, none⟩ = some (.slice ba n bc) := (by rw [hgrow.cell_far ⟨g, 22, none⟩ (by simp; omega) (own_far HO.out)]; go_simp); have hzw : w1.frozen? ⟨g, 22, none⟩ = false := (by rw [hgrow.frozen_far ⟨g, 22, none⟩ (by simp; omega) (own_far HO.out)]; go_simp)))
    all_goals
      go_wp2_with fail
      go_meet
      exact AddRel.mk HC.out HO.out rfl hown1 hgrow hat
  case rest =>
    obtain ⟨a', m', c', hC1, hO1, hF1, hne1, hbox⟩ := hcut
    clear h22 hf22
    have c19 := hC1.c19; have c20 := hC1.c20; have c21 := hC1.c21
    have b0 : wc.cell? ⟨w.heap.size, 0, none⟩ = some (.int .u8 4) := by rw [cell_of_row wc _ _ _ _ _ hbox]; rfl
    have b3 : wc.cell? ⟨w.heap.size, 3, none⟩ = some (.int .u64 a) := by rw [cell_of_row wc _ _ _ _ _ hbox]; rfl
    have b4 : wc.cell? ⟨w.heap.size, 4, none⟩ = some (.int .i64 b) := by rw [cell_of_row wc _ _ _ _ _ hbox]; rfl
    have b5 : wc.cell? ⟨w.heap.size, 5, none⟩ = some (.pointer none) := by rw [cell_of_row wc _ _ _ _ _ hbox]; rfl
    have b6 : wc.cell? ⟨w.heap.size, 6, none⟩ = some (.int .u64 a) := by rw [cell_of_row wc _ _ _ _ _ hbox]; rfl
    have b7 : wc.cell? ⟨w.heap.size, 7, none⟩ = some (.int .i64 b) := by rw [cell_of_row wc _ _ _ _ _ hbox]; rfl
    have b8 : wc.cell? ⟨w.heap.size, 8, none⟩ = some (.pointer none) := by rw [cell_of_row wc _ _ _ _ _ hbox]; rfl
    have hs1 : w.heap.size < wc.heap.size := World.block_lt_of_cell? wc _ b0
    have HC1 : Hid (Clk wc g ch S A (.slice a' m' c') far obs) := hC1
    have HO1 : Hid (wc.ownsRow (g + 1) 5 1 (.slice a' m' c') (n + 1) (xs ++ [.int .u8 36])) := hO1
    have HF1 : Hid (FrC g w (.slice ba n bc) wc (.slice a' m' c')) := hF1
    have Hne1 : Hid ((Value.slice a' m' c').ownBlock ≠ some w.heap.size) := hne1
    have HB1 : Hid (wc.heap[w.heap.size]? = some (.cells #[.int .u8 4, .int .u8 4, .int .i64 0, .int .u64 a, .int .i64 b, .pointer none, .int .u64 a, .int .i64 b, .pointer none] 35 (0, 0))) := hbox
    clear hC1 hO1 hF1 hne1 hbox
    have hgne : w.heap.size ≠ g := by omega
    obtain ⟨L, hL⟩ : ∃ L, Lib.uvarint (Lib.zigzag ((T - A) * 2)) = L := ⟨_, rfl⟩
    have hLl : L.length ≤ 10 := by rw [← hL]; exact Lib.uvarint_length64 (Lib.zigzag_lt (by omega) (by omega))
    have hcall := appendTime_clk g (n + 1) ch S A (.slice a' m' c') far obs (xs ++ [.int .u8 36]) T A wc.drew hT0 hT1 hA0 hA1 hd0 hd1 (HC1.out.keep rfl) HO1.out.drew (by omega)
    rw [tm_unfold, tm_unfold, ← Ha.out, ← Hb.out, hL] at hcall
    have HL : Hid (Lib.uvarint (Lib.zigzag ((T - A) * 2)) = L) := hL
    clear hL
    have Hcall : Hid (_) := hcall
    clear hcall
    go_wp2_with fail
    go_region_held3 (fun w' => w'.cell? ⟨w.heap.size, 6, none⟩ = some (.int .u64 a) ∧ w'.cell? ⟨w.heap.size, 7, none⟩ = some (.int .i64 b) ∧ w'.cell? ⟨w.heap.size, 8, none⟩ = some (.pointer none) ∧ w'.cell? ⟨g, 19, none⟩ = some (.int .u64 (A % 1000000000)) ∧ w'.cell? ⟨g, 20, none⟩ = some (.int .i64 (A / 1000000000)) ∧ w'.cell? ⟨g, 21, none⟩ = some (.pointer none)) (first | go_keep | (refine ⟨?_, ?_, ?_, hC2.c19, hC2.c20, hC2.c21⟩ <;> (rw [cell_of_row _ _ _ _ _ _ (hF2.far hs1 hgne Hne1.out HB1.out)]; rfl)))
      ((go_at_call 24; refine Calls.mono Hcall.out ?_; rintro e w2 ⟨a2, m2, c2, rfl, hC2, hO2, hF2⟩))
    have hs2 : w.heap.size < w2.heap.size := Nat.lt_of_lt_of_le hs1 hF2.size
    have HB2 : Hid (BoxH w.heap.size a b w2) := hF2.far hs1 hgne Hne1.out HB1.out
    have Hne2 : Hid ((Value.slice a2 m2 c2).ownBlock ≠ some w.heap.size) := hF2.off hs1 Hne1.out
    have HF2 : Hid (FrC g w (.slice ba n bc) w2 (.slice a2 m2 c2)) := HF1.out.trans ((FrC.refl g wc _).drew.trans hF2)
    obtain ⟨d0, d1, d2, d3, d4, d5, d6, d7, d8⟩ := BoxH.cells HB2.out
    have c19 := hC2.c19; have c20 := hC2.c20; have c21 := hC2.c21
    have hfz := hC2.frozen
    have HC2 : Hid (Clk w2 g ch S A (.slice a2 m2 c2) far obs) := hC2
    have HO2 : Hid (w2.ownsRow (g + 1) 5 1 (.slice a2 m2 c2) (n + 1 + L.length) (xs ++ [.int .u8 36] ++ Lib.byteCells L)) := hO2
    clear hC2 hO2 hF2 b0 b3 b4 b5 b6 b7 b8 HB1 Hne1 HF1 HC1 HO1 Hcall
    go_wp2_with (go_at_call 25; refine (asks_fired _).mono ?_; rintro e w' ⟨rfl, rfl⟩)
    obtain ⟨w3, hw3⟩ : ∃ w3, w3 = ((w2.setCell ⟨g, 19, none⟩ (.int .u64 a)).setCell ⟨g, 20, none⟩ (.int .i64 b)).setCell ⟨g, 21, none⟩ (.pointer none) := ⟨_, rfl⟩
    rw [← hw3]
    have HC3 : Hid (Clk w3 g ch S T (.slice a2 m2 c2) far obs) := by
      have h := HC2.out.setAt T
      rw [← Ha.out, ← Hb.out] at h
      rw [hw3]; exact h
    have HO3 : Hid (w3.ownsRow (g + 1) 5 1 (.slice a2 m2 c2) (n + 1 + L.length) (xs ++ [.int .u8 36] ++ Lib.byteCells L)) := by
      have h := own_setG (own_setG (own_setG HO2.out 19 (.int .u64 a)) 20 (.int .i64 b)) 21 (.pointer none)
      rw [← hw3] at h; exact h
    have HB3 : Hid (BoxH w.heap.size a b w3) := by
      show w3.heap[w.heap.size]? = _
      rw [hw3, Below.heap_setCell _ _ _ _ hgne, Below.heap_setCell _ _ _ _ hgne, Below.heap_setCell _ _ _ _ hgne]; exact HB2.out
    have HF3 : Hid (FrC g w (.slice ba n bc) w3 (.slice a2 m2 c2)) := by
      rw [hw3]; exact ((HF2.out.setCell _ _).setCell _ _).setCell _ _
    have hs3 : w.heap.size < w3.heap.size := by rw [hw3]; simpa using hs2
    clear hw3 HC2 HO2 HB2 HF2 hs2 d0 d1 d2 d3 d4 d5 d6 d7 d8 c19 c20 c21 hfz
    obtain ⟨d0, d1, d2, d3, d4, d5, d6, d7, d8⟩ := BoxH.cells HB3.out
    have hcall2 : ∀ W : World, Below w3.heap.size w3 W → Calls Yba.prog 24 #[.pointer (some ⟨g, 16, none⟩), .agg #[.int .u64 a, .int .i64 b, .pointer none], .agg #[.int .u64 a, .int .i64 b, .pointer none]] W fun e w' => ∃ a' m' c', e = .returned (.tuple #[]) ∧ Clk w' g ch S T (.slice a' m' c') far obs ∧
        w'.ownsRow (g + 1) 5 1 (.slice a' m' c') (n + 1 + L.length + 1) (xs ++ [.int .u8 36] ++ Lib.byteCells L ++ Lib.byteCells [0]) ∧ FrC g W (.slice a2 m2 c2) w' (.slice a' m' c') := by
      intro W hW
      have h := appendTime_clk g (n + 1 + L.length) ch S T (.slice a2 m2 c2) far obs (xs ++ [.int .u8 36] ++ Lib.byteCells L) T T W hT0 hT1 hT0 hT1 (by omega) (by omega) (HC3.out.keep (hW.block g HC3.out.lt)) (below_own hW HO3.out) (by omega)
      have e0 : (T - T) * 2 = 0 := by omega
      rw [tm_unfold, ← Ha.out, ← Hb.out, e0, uv0] at h
      exact h
    have Hcall2 : Hid (_) := hcall2
    clear hcall2
    go_region_held3 (fun w' => w'.cell? ⟨w.heap.size, 0, none⟩ = some (.int .u8 4) ∧ w'.cell? ⟨w.heap.size, 1, none⟩ = some (.int .u8 4) ∧ w'.cell? ⟨w.heap.size, 2, none⟩ = some (.int .i64 0) ∧ w'.cell? ⟨w.heap.size, 3, none⟩ = some (.int .u64 a) ∧ w'.cell? ⟨w.heap.size, 4, none⟩ = some (.int .i64 b) ∧ w'.cell? ⟨w.heap.size, 5, none⟩ = some (.pointer none) ∧ w'.cell? ⟨w.heap.size, 6, none⟩ = some (.int .u64 a) ∧ w'.cell? ⟨w.heap.size, 7, none⟩ = some (.int .i64 b) ∧ w'.cell? ⟨w.heap.size, 8, none⟩ = some (.pointer none))
      (first | go_keep | exact BoxH.cells (hF5.far (Nat.lt_of_lt_of_le hs3 hB4.size) hgne Hne2.out ((hB4.block _ hs3).trans HB3.out)) | exact BoxH.cells ((hB4.block _ hs3).trans HB3.out))
      (first | (go_at_call 26; refine (implied_raw a b _).mono ?_; rintro e w4 ⟨rfl, hB4⟩) | (go_at_call 24; refine Calls.mono (Hcall2.out _ (below_undrew hB4)) ?_; rintro e w5 ⟨a5, m5, c5, rfl, hC5, hO5, hF5⟩))
    have HF5 : Hid (FrC g w (.slice ba n bc) w5 (.slice a5 m5 c5)) := HF3.out.trans ((below_frc (below_undrew hB4) _).trans hF5)
    have HC5 : Hid (Clk w5 g ch S T (.slice a5 m5 c5) far obs) := hC5
    have HO5 : Hid (w5.ownsRow (g + 1) 5 1 (.slice a5 m5 c5) (n + 1 + L.length + 1) (xs ++ [.int .u8 36] ++ Lib.byteCells L ++ Lib.byteCells [0])) := hO5
    clear hF5 hC5 hO5 HC3 HO3 HB3 Hcall2
    go_wp2
    go_end0
    refine ⟨a5, m5, c5, rfl, HC5.out, ?_, HF5.out⟩
    rw [HL.out]; exact HO5.out

theorem addEv_any (g n : Nat) (ch : Value) (S A T : Int) (buf far obs : Value) (xs : List Value) (w : World)
    (hA0 : -80000000000000000000 ≤ A) (hA1 : A ≤ 80000000000000000000) (hT0 : -80000000000000000000 ≤ T) (hT1 : T ≤ 80000000000000000000) (hd0 : -1000000000000000000 ≤ T - A) (hd1 : T - A ≤ 1000000000000000000)
    (hclk : Clk w g ch S A buf far obs) (hown : w.ownsRow (g + 1) 5 1 buf n xs) (hlim : n + 30 ≤ 140737488355328) :
    Calls Yba.prog 23 #[.pointer (some ⟨g, 16, none⟩), .agg (evCells T)] w fun e w' => ∃ a' m' c', e = .returned (.tuple #[]) ∧ Clk w' g ch S T (.slice a' m' c') far obs ∧
      w'.ownsRow (g + 1) 5 1 (.slice a' m' c') (n + 1 + (Lib.uvarint (Lib.zigzag ((T - A) * 2))).length + 1) (xs ++ [.int .u8 36] ++ Lib.byteCells (Lib.uvarint (Lib.zigzag ((T - A) * 2))) ++ Lib.byteCells [0]) ∧ FrC g w buf w' (.slice a' m' c') :=
  addEv_raw g n ch S A T buf far obs xs _ _ rfl rfl w hA0 hA1 hT0 hT1 hd0 hd1 hclk hown hlim

end Go.Proofs.Ybulkbhkg
