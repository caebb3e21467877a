/-
  DERIVED. Seat b2925a: math/bits.Mul64 (12) and Add64 (13), over Int; the blocks: a 'wide' (11 cells), an array of 20 words; what a call leaves as it was.
-/
import Derived.Test.YbulkbhoaRows
import Derived.Test.YbulkbhoaPlain
import Derived.WalkKit
import Derived.WalkSpells
import Derived.StillTactics
import Derived.Laws.MathBits
import Derived.Laws.Externs
import Derived.Laws.Pointers
import Derived.Below
import Derived.Lib.SmallJoins
namespace Go.Proofs.Ybulkbhoa
open Go.RowKit
set_option linter.unusedVariables false

theorem add64 (x y c : Int) (hx : 0 ≤ x) (hy : 0 ≤ y) (hc0 : 0 ≤ c) (hc : c ≤ 1) (w : World) : (callFunc 13 #[.int .u64 x, .int .u64 y, .int .u64 c]).run Yba.prog w =
    .ok (.value (.tuple #[.int .u64 ((x + y + c) % 18446744073709551616), .int .u64 ((x + y + c) / 18446744073709551616)])) w := by
  obtain ⟨x, rfl⟩ := Int.eq_ofNat_of_zero_le hx
  obtain ⟨y, rfl⟩ := Int.eq_ofNat_of_zero_le hy
  obtain ⟨c, rfl⟩ := Int.eq_ofNat_of_zero_le hc0
  rw [run_callFunc_extern Yba.func13 (by kernel_rfl) (by kernel_rfl) (by kernel_rfl) (e := add64Entry) (by kernel_rfl), run_add64 x y c (by omega) (by omega) (by omega) (by omega)]
  rfl

theorem add64_0 (x y : Int) (hx : 0 ≤ x) (hy : 0 ≤ y) (w : World) : (callFunc 13 #[.int .u64 x, .int .u64 y, .int .u64 0]).run Yba.prog w =
    .ok (.value (.tuple #[.int .u64 ((x + y) % 18446744073709551616), .int .u64 ((x + y) / 18446744073709551616)])) w := by
  simpa using add64 x y 0 hx hy (Int.le_refl 0) (by decide) w

set_option maxHeartbeats 1000000 in
theorem mul64 (x y : Int) (hx0 : 0 ≤ x) (hx : x < 18446744073709551616) (hy0 : 0 ≤ y) (hy : y < 18446744073709551616) (w : World) :
    Calls Yba.prog 12 #[.int .u64 x, .int .u64 y] w fun e w' => e = .returned (.tuple #[.int .u64 (x * y / 18446744073709551616), .int .u64 (x * y % 18446744073709551616)]) ∧ w' = w := by
  have hA := mul64_arith x y hx0 hx hy0 hy
  go_enter Yba.func12, Yba.ntmps12
  go_wp2
  simp only [IntKind.wrap_u64]
  rw [and_low32 x hx0 hx, and_low32 y hy0 hy, and_low32 _ (by omega) (by omega)]
  rw [hA]
  go_ret2
  exact ⟨rfl, rfl⟩

/-! ### The blocks -/
/-- The cells of k words. -/
def tab (k : Nat) (f : Nat → Int) : Array Value := ((List.range k).map fun i => Value.int .u64 (f i)).toArray

theorem tab_size (k : Nat) (f : Nat → Int) : (tab k f).size = k := by simp [tab]
theorem tab_get (k : Nat) (f : Nat → Int) (i : Nat) (h : i < k) : (tab k f)[i]? = some (.int .u64 (f i)) := by simp [tab, h]
theorem tab_set (k : Nat) (f : Nat → Int) (i : Nat) (v : Int) : (tab k f).setIfInBounds i (.int .u64 v) = tab k (upd f i v) := by
  apply Array.ext
  · simp [tab]
  · intro j h1 h2
    simp only [tab, upd, List.setIfInBounds_toArray, List.getElem_toArray, List.getElem_set, List.getElem_map, List.getElem_range]
    by_cases h : i = j
    · rw [if_pos h, if_pos h.symm]
    · rw [if_neg h, if_neg (Ne.symm h)]

/-- A 'wide': n ahead, its ten words behind. -/
def wcells (n : Int) (f : Nat → Int) : Array Value := (Value.int .i64 n :: (List.range 10).map fun i => Value.int .u64 (f i)).toArray

theorem wcells_size (n : Int) (f : Nat → Int) : (wcells n f).size = 11 := by simp [wcells]
theorem wcells_n (n : Int) (f : Nat → Int) : (wcells n f)[0]? = some (.int .i64 n) := by simp [wcells]
theorem wcells_w (n : Int) (f : Nat → Int) (i : Nat) (h : i < 10) : (wcells n f)[1 + i]? = some (.int .u64 (f i)) := by simp [wcells, h, Nat.add_comm 1 i]
theorem wcells_setn (n m : Int) (f : Nat → Int) : (wcells n f).setIfInBounds 0 (.int .i64 m) = wcells m f := by simp [wcells]
theorem wcells_setw (n : Int) (f : Nat → Int) (i : Nat) (v : Int) : (wcells n f).setIfInBounds (1 + i) (.int .u64 v) = wcells n (upd f i v) := by
  apply Array.ext
  · simp [wcells]
  · intro j h1 h2
    rcases j with _ | j
    · simp [wcells, Nat.add_comm 1 i]
    · simp only [wcells, upd, List.setIfInBounds_toArray, List.getElem_toArray, List.getElem_set, List.getElem_cons_succ, List.getElem_map, List.getElem_range]
      by_cases h : i = j
      · rw [if_pos (by omega), if_pos h.symm]
      · rw [if_neg (by omega), if_neg (Ne.symm h)]

/-- Block b is a 'wide'. -/
def Wd (w : World) (b : Nat) (n : Int) (f : Nat → Int) : Prop := w.heap[b]? = some (.cells (wcells n f) 26 (0, 0))
/-- Block b is an array of 20 words. -/
def Tw (w : World) (b : Nat) (f : Nat → Int) : Prop := w.heap[b]? = some (.cells (tab 20 f) 30 (0, 0))

section
variable {w w' : World} {b : Nat} {n : Int} {f : Nat → Int}
theorem Wd.keep (h : Wd w b n f) (hk : w'.heap[b]? = w.heap[b]?) : Wd w' b n f := by unfold Wd at *; rw [hk]; exact h
theorem Tw.keep (h : Tw w b f) (hk : w'.heap[b]? = w.heap[b]?) : Tw w' b f := by unfold Tw at *; rw [hk]; exact h
theorem Wd.lt (h : Wd w b n f) : b < w.heap.size := (Array.getElem?_eq_some_iff.1 h).1
theorem Tw.lt (h : Tw w b f) : b < w.heap.size := (Array.getElem?_eq_some_iff.1 h).1
theorem Wd.cn (h : Wd w b n f) : w.cell? ⟨b, 0, none⟩ = some (.int .i64 n) := by
  unfold Wd at h; simp [World.cell?, h, wcells_n]
theorem Wd.cw (h : Wd w b n f) (i : Nat) (hi : i < 10) : w.cell? ⟨b, 1 + i, none⟩ = some (.int .u64 (f i)) := by
  unfold Wd at h; simp [World.cell?, h, wcells_w _ _ _ hi]
theorem Tw.c (h : Tw w b f) (i : Nat) (hi : i < 20) : w.cell? ⟨b, i, none⟩ = some (.int .u64 (f i)) := by
  unfold Tw at h; simp [World.cell?, h, tab_get _ _ _ hi]
theorem Wd.frozen (h : Wd w b n f) (i : Nat) : w.frozen? ⟨b, i, none⟩ = false := by unfold Wd at h; simp [World.frozen?, h]
theorem Tw.frozen (h : Tw w b f) (i : Nat) : w.frozen? ⟨b, i, none⟩ = false := by unfold Tw at h; simp [World.frozen?, h]
theorem Wd.setn (h : Wd w b n f) (m : Int) : Wd (w.setCell ⟨b, 0, none⟩ (.int .i64 m)) b m f := by
  unfold Wd at *; rw [Joins.block_setCell h]; rw [wcells_setn]
theorem Wd.setw (h : Wd w b n f) (i : Nat) (v : Int) : Wd (w.setCell ⟨b, 1 + i, none⟩ (.int .u64 v)) b n (upd f i v) := by
  unfold Wd at *; rw [Joins.block_setCell h]; rw [wcells_setw]
theorem Tw.set (h : Tw w b f) (i : Nat) (v : Int) : Tw (w.setCell ⟨b, i, none⟩ (.int .u64 v)) b (upd f i v) := by
  unfold Tw at *; rw [Joins.block_setCell h]; rw [tab_set]
end

/-- From w to w' only block g and new memory have turned. -/
structure Fx (g : Nat) (w w' : World) : Prop where
  os : w'.os = w.os
  tape : w'.tape = w.tape
  output : w'.output = w.output
  size : w.heap.size ≤ w'.heap.size
  block : ∀ k, k < w.heap.size → k ≠ g → w'.heap[k]? = w.heap[k]?
theorem Fx.refl (g : Nat) (w : World) : Fx g w w := ⟨rfl, rfl, rfl, Nat.le_refl _, fun _ _ _ => rfl⟩
theorem Fx.trans {g : Nat} {w w1 w2 : World} (h : Fx g w w1) (k : Fx g w1 w2) : Fx g w w2 :=
  ⟨k.os.trans h.os, k.tape.trans h.tape, k.output.trans h.output, Nat.le_trans h.size k.size, fun i hi hg => (k.block i (Nat.lt_of_lt_of_le hi h.size) hg).trans (h.block i hi hg)⟩
theorem Fx.setCell {g : Nat} {w w1 : World} (h : Fx g w w1) (i : Nat) (u : Value) : Fx g w (w1.setCell ⟨g, i, none⟩ u) :=
  ⟨h.os, h.tape, h.output, by simpa using h.size, fun k hk hg => by rw [Below.heap_setCell _ _ _ _ hg]; exact h.block k hk hg⟩
theorem Fx.drew {g : Nat} {w w1 : World} (h : Fx g w w1) : Fx g w w1.drew := ⟨h.os, h.tape, h.output, h.size, h.block⟩
end Go.Proofs.Ybulkbhoa
