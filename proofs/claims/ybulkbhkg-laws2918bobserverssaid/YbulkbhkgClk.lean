/-
  DERIVED. Seat b2918a: the clock's one block of 25 cells, as far as the laws look at it; what the methods on its history leave as it was.
-/
import Derived.Test.YbulkbhkgAppTime
import Derived.Lib.SmallJoins
namespace Go.Proofs.Ybulkbhkg
set_option linter.unusedVariables false
open Go.RowKit

/-- The clock lies in block g: its wake channel, its history (start S, last At A, buf, far) and its observers. -/
def Clk (w : World) (g : Nat) (ch : Value) (S A : Int) (buf far obs : Value) : Prop :=
  ∃ x0 x1 x2 x4 x5 x6 x7 x8 x9 x10 x11 x12 x13 x14 x15, w.heap[g]? = some (.cells #[x0, x1, x2, ch, x4, x5, x6, x7, x8, x9, x10, x11, x12, x13, x14, x15,
    .int .u64 (S % 1000000000), .int .i64 (S / 1000000000), .pointer none, .int .u64 (A % 1000000000), .int .i64 (A / 1000000000), .pointer none, buf, far, obs] 61 (0, 0))

section
variable {w w' : World} {g : Nat} {ch : Value} {S A : Int} {buf far obs : Value}

theorem Clk.keep (h : Clk w g ch S A buf far obs) (hk : w'.heap[g]? = w.heap[g]?) : Clk w' g ch S A buf far obs := by
  unfold Clk at *
  rw [hk]; exact h

theorem Clk.lt (h : Clk w g ch S A buf far obs) : g < w.heap.size := by
  obtain ⟨_, _, _, _, _, _, _, _, _, _, _, _, _, _, _, h⟩ := h
  exact (Array.getElem?_eq_some_iff.1 h).1

theorem Clk.cell {i : Nat} (h : Clk w g ch S A buf far obs) :
    (i = 3 → w.cell? ⟨g, i, none⟩ = some ch) ∧ (i = 16 → w.cell? ⟨g, i, none⟩ = some (.int .u64 (S % 1000000000))) ∧ (i = 17 → w.cell? ⟨g, i, none⟩ = some (.int .i64 (S / 1000000000))) ∧ (i = 18 → w.cell? ⟨g, i, none⟩ = some (.pointer none)) ∧
    (i = 19 → w.cell? ⟨g, i, none⟩ = some (.int .u64 (A % 1000000000))) ∧ (i = 20 → w.cell? ⟨g, i, none⟩ = some (.int .i64 (A / 1000000000))) ∧ (i = 21 → w.cell? ⟨g, i, none⟩ = some (.pointer none)) ∧
    (i = 22 → w.cell? ⟨g, i, none⟩ = some buf) ∧ (i = 23 → w.cell? ⟨g, i, none⟩ = some far) ∧ (i = 24 → w.cell? ⟨g, i, none⟩ = some obs) := by
  obtain ⟨_, _, _, _, _, _, _, _, _, _, _, _, _, _, _, h⟩ := h
  refine ⟨?_, ?_, ?_, ?_, ?_, ?_, ?_, ?_, ?_, ?_⟩ <;> (rintro rfl; simp [World.cell?, h])

theorem Clk.c3 (h : Clk w g ch S A buf far obs) : w.cell? ⟨g, 3, none⟩ = some ch := h.cell.1 rfl
theorem Clk.c16 (h : Clk w g ch S A buf far obs) : w.cell? ⟨g, 16, none⟩ = some (.int .u64 (S % 1000000000)) := h.cell.2.1 rfl
theorem Clk.c17 (h : Clk w g ch S A buf far obs) : w.cell? ⟨g, 17, none⟩ = some (.int .i64 (S / 1000000000)) := h.cell.2.2.1 rfl
theorem Clk.c18 (h : Clk w g ch S A buf far obs) : w.cell? ⟨g, 18, none⟩ = some (.pointer none) := h.cell.2.2.2.1 rfl
theorem Clk.c19 (h : Clk w g ch S A buf far obs) : w.cell? ⟨g, 19, none⟩ = some (.int .u64 (A % 1000000000)) := h.cell.2.2.2.2.1 rfl
theorem Clk.c20 (h : Clk w g ch S A buf far obs) : w.cell? ⟨g, 20, none⟩ = some (.int .i64 (A / 1000000000)) := h.cell.2.2.2.2.2.1 rfl
theorem Clk.c21 (h : Clk w g ch S A buf far obs) : w.cell? ⟨g, 21, none⟩ = some (.pointer none) := h.cell.2.2.2.2.2.2.1 rfl
theorem Clk.c22 (h : Clk w g ch S A buf far obs) : w.cell? ⟨g, 22, none⟩ = some buf := h.cell.2.2.2.2.2.2.2.1 rfl
theorem Clk.c23 (h : Clk w g ch S A buf far obs) : w.cell? ⟨g, 23, none⟩ = some far := h.cell.2.2.2.2.2.2.2.2.1 rfl
theorem Clk.c24 (h : Clk w g ch S A buf far obs) : w.cell? ⟨g, 24, none⟩ = some obs := h.cell.2.2.2.2.2.2.2.2.2 rfl

theorem Clk.frozen (h : Clk w g ch S A buf far obs) (i : Nat) : w.frozen? ⟨g, i, none⟩ = false := by
  obtain ⟨_, _, _, _, _, _, _, _, _, _, _, _, _, _, _, h⟩ := h
  simp [World.frozen?, h]

theorem Clk.setBuf (h : Clk w g ch S A buf far obs) (v : Value) : Clk (w.setCell ⟨g, 22, none⟩ v) g ch S A v far obs := by
  obtain ⟨x0, x1, x2, x4, x5, x6, x7, x8, x9, x10, x11, x12, x13, x14, x15, h⟩ := h
  refine ⟨x0, x1, x2, x4, x5, x6, x7, x8, x9, x10, x11, x12, x13, x14, x15, ?_⟩
  rw [Joins.block_setCell h]; simp

theorem Clk.setWake (h : Clk w g ch S A buf far obs) (v : Value) : Clk (w.setCell ⟨g, 3, none⟩ v) g v S A buf far obs := by
  obtain ⟨x0, x1, x2, x4, x5, x6, x7, x8, x9, x10, x11, x12, x13, x14, x15, h⟩ := h
  refine ⟨x0, x1, x2, x4, x5, x6, x7, x8, x9, x10, x11, x12, x13, x14, x15, ?_⟩
  rw [Joins.block_setCell h]; simp

theorem Clk.setObs (h : Clk w g ch S A buf far obs) (v : Value) : Clk (w.setCell ⟨g, 24, none⟩ v) g ch S A buf far v := by
  obtain ⟨x0, x1, x2, x4, x5, x6, x7, x8, x9, x10, x11, x12, x13, x14, x15, h⟩ := h
  refine ⟨x0, x1, x2, x4, x5, x6, x7, x8, x9, x10, x11, x12, x13, x14, x15, ?_⟩
  rw [Joins.block_setCell h]; simp

theorem Clk.setAt (h : Clk w g ch S A buf far obs) (T : Int) : Clk (((w.setCell ⟨g, 19, none⟩ (.int .u64 (T % 1000000000))).setCell ⟨g, 20, none⟩ (.int .i64 (T / 1000000000))).setCell ⟨g, 21, none⟩ (.pointer none)) g ch S T buf far obs := by
  obtain ⟨x0, x1, x2, x4, x5, x6, x7, x8, x9, x10, x11, x12, x13, x14, x15, h⟩ := h
  refine ⟨x0, x1, x2, x4, x5, x6, x7, x8, x9, x10, x11, x12, x13, x14, x15, ?_⟩
  rw [Joins.block_setCell (Joins.block_setCell (Joins.block_setCell h _) _)]; simp
end

/-- From w to w' only the clock's block g, the row of v and new memory have turned; v' lies in that row or in new memory. -/
structure FrC (g : Nat) (w : World) (v : Value) (w' : World) (v' : Value) : Prop where
  os : w'.os = w.os
  tape : w'.tape = w.tape
  output : w'.output = w.output
  size : w.heap.size ≤ w'.heap.size
  block : ∀ k, k < w.heap.size → k ≠ g → some k ≠ v.ownBlock → w'.heap[k]? = w.heap[k]?
  own : v'.ownBlock = v.ownBlock ∨ ∃ k, v'.ownBlock = some k ∧ w.heap.size ≤ k

theorem FrC.refl (g : Nat) (w : World) (v : Value) : FrC g w v w v := ⟨rfl, rfl, rfl, Nat.le_refl _, fun _ _ _ _ => rfl, .inl rfl⟩

theorem FrC.trans {g : Nat} {w w1 w2 : World} {v v1 v2 : Value} (h : FrC g w v w1 v1) (k : FrC g w1 v1 w2 v2) : FrC g w v w2 v2 := by
  refine ⟨k.os.trans h.os, k.tape.trans h.tape, k.output.trans h.output, Nat.le_trans h.size k.size, fun i hi hg hne => ?_, ?_⟩
  · refine (k.block i (Nat.lt_of_lt_of_le hi h.size) hg ?_).trans (h.block i hi hg hne)
    rcases h.own with e | ⟨j, e, hj⟩
    · rw [e]; exact hne
    · rw [e]; intro e2; injection e2 with e2; omega
  · rcases k.own with e | ⟨j, e, hj⟩
    · rcases h.own with e1 | ⟨j, e1, hj⟩
      · exact .inl (e.trans e1)
      · exact .inr ⟨j, e.trans e1, hj⟩
    · exact .inr ⟨j, e, Nat.le_trans h.size hj⟩

theorem Fr.clk {g : Nat} {w w' : World} {v v' : Value} (h : Fr w v w' v') : FrC g w v w' v' :=
  ⟨h.grown.os, h.grown.tape, h.grown.output, h.grown.size, fun k hk _ hne => h.grown.block k hk hne, h.own⟩

theorem below_frc {g : Nat} {w w' : World} (h : Below w.heap.size w w') (v : Value) : FrC g w v w' v := (below_fr h v).clk

theorem FrC.setCell {g : Nat} {w w1 : World} {v v1 : Value} (h : FrC g w v w1 v1) (i : Nat) (u : Value) : FrC g w v (w1.setCell ⟨g, i, none⟩ u) v1 :=
  ⟨h.os, h.tape, h.output, by simpa using h.size, fun k hk hg hne => by rw [Below.heap_setCell _ _ _ _ hg]; exact h.block k hk hg hne, h.own⟩

theorem FrC.drew {g : Nat} {w w1 : World} {v v1 : Value} (h : FrC g w v w1 v1) : FrC g w v w1.drew v1 := ⟨h.os, h.tape, h.output, h.size, h.block, h.own⟩

theorem FrC.alloc {g : Nat} {w w1 : World} {v v1 : Value} (h : FrC g w v w1 v1) (o : Obj) : FrC g w v (w1.alloc o) v1 :=
  h.trans (Fr.clk ⟨World.grownBy_alloc _ _ _, .inl rfl⟩)

theorem tm_unfold (T : Int) : tm T = .agg #[.int .u64 (T % 1000000000), .int .i64 (T / 1000000000), .pointer none] := rfl

/-- (*eventLog).appendTime at a clock: its history gains the varint of twice the distance. -/
theorem appendTime_clk (g n : Nat) (ch : Value) (S A : Int) (buf far obs : Value) (xs : List Value) (T1 T0 : Int) (w : World) (h1 : -80000000000000000000 ≤ T1) (h2 : T1 ≤ 80000000000000000000) (h3 : -80000000000000000000 ≤ T0) (h4 : T0 ≤ 80000000000000000000)
    (h5 : -1000000000000000000 ≤ T1 - T0) (h6 : T1 - T0 ≤ 1000000000000000000) (hclk : Clk w g ch S A buf far obs) (hown : w.ownsRow (g + 1) 5 1 buf n xs) (hlim : n + 10 ≤ 140737488355328) :
    Calls Yba.prog 24 #[.pointer (some ⟨g, 16, none⟩), tm T1, tm T0] w fun e w' => ∃ a' m' c', e = .returned (.tuple #[]) ∧ Clk w' g ch S A (.slice a' m' c') far obs ∧
      w'.ownsRow (g + 1) 5 1 (.slice a' m' c') (n + (Lib.uvarint (Lib.zigzag ((T1 - T0) * 2))).length) (xs ++ Lib.byteCells (Lib.uvarint (Lib.zigzag ((T1 - T0) * 2)))) ∧ FrC g w buf w' (.slice a' m' c') := by
  unfold tm
  refine (appendTime_raw g n buf xs (T1 % 1000000000) (T1 / 1000000000) (T0 % 1000000000) (T0 / 1000000000) w (by omega) (by omega) (by omega) (by omega) (by omega) (by omega) (by omega) (by omega) (by omega) (by omega) hclk.c22 (hclk.frozen 22) hclk.lt hown hlim).mono ?_
  rintro e w' ⟨a', m', c', w1, rfl, rfl, ho, hf⟩
  have e1 : (T1 / 1000000000 - T0 / 1000000000) * 1000000000 + (T1 % 1000000000 - T0 % 1000000000) = T1 - T0 := by omega
  rw [e1] at ho
  have hc1 : Clk w1 g ch S A buf far obs := hclk.keep (hf.grown.block g hclk.lt (own_far hown))
  refine ⟨a', m', c', rfl, hc1.setBuf _, ?_, hf.clk.setCell _ _⟩
  refine ho.kept (row := some g) ⟨rfl, rfl, rfl, by simp, fun k _ hne => Below.heap_setCell _ _ _ _ (fun e => hne (by rw [e]))⟩ ?_
  exact .inr (own_far ho).symm

end Go.Proofs.Ybulkbhkg
