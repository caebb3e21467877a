/-
  DERIVED. Seat b2918a: (*FakeClock).changed and recordTicks without observers; NewFakeClockAt.
-/
import Derived.Test.YbulkbhkgAddTicks
import Derived.Conc.EventLaws
import Derived.Conc.SmallLaws
namespace Go.Proofs.Ybulkbhkg
open Go.RowKit
set_option linter.unusedVariables false

theorem equal_chan (d : Nat) (a b : Option Nat) (w : World) : (Op.equalIn (d + 1) 50 (.chan a) (.chan b)).run Yba.prog w = .ok (a == b) w := by
  simp [Op.equalIn, run_underlying Yba.underlying50]

@[go_sem] theorem eql_chan (a b : Option Nat) (w : World) : (binOp .eql 50 (.chan a) (.chan b)).run Yba.prog w = .ok (.bool (a == b)) w := by
  simp only [binOp]
  simp [Op.equal, Op.maxDepth, equal_chan 9999]

@[go_sem] theorem neq_chan (a b : Option Nat) (w : World) : (binOp .neq 50 (.chan a) (.chan b)).run Yba.prog w = .ok (.bool (!(a == b))) w := by
  simp only [binOp]
  simp [Op.equal, Op.maxDepth, equal_chan 9999]

/-- The world with the channel r closed. -/
def closedAt (w : World) (r : Nat) : World := { w with heap := w.heap.setIfInBounds r (.chan 0 #[] true 0 0 false) }

theorem changed_nil (g : Nat) (w : World) (h3 : w.cell? ⟨g, 3, none⟩ = some (.chan none)) :
    Calls Yba.prog 18 #[.pointer (some ⟨g, 0, none⟩)] w fun e w' => e = .returned (.tuple #[]) ∧ w' = w := by
  go_enter Yba.func18, Yba.ntmps18
  go_wp2
  go_end0
  exact ⟨rfl, rfl⟩

theorem changed_open (g r : Nat) (w : World) (h3 : w.cell? ⟨g, 3, none⟩ = some (.chan (some r))) (hz : w.frozen? ⟨g, 3, none⟩ = false) (hne : r ≠ g) (hr : w.heap[r]? = some (.chan 0 #[] false 0 0 false)) :
    Calls Yba.prog 18 #[.pointer (some ⟨g, 0, none⟩)] w fun e w' => e = .returned (.tuple #[]) ∧ w' = (closedAt w r).setCell ⟨g, 3, none⟩ (.chan none) := by
  have hc : ∀ ty, (Builtin.close_ #[50] ty #[.chan (some r)]).run Yba.prog w = .ok (.tuple #[]) (closedAt w r) := fun ty => run_close_open #[50] ty hr
  have hk : (closedAt w r).heap[g]? = w.heap[g]? := by simp [closedAt, Array.getElem?_setIfInBounds_ne hne]
  have hc3 : (closedAt w r).cell? ⟨g, 3, none⟩ = some (.chan (some r)) := by rw [World.cell?_of_block (w := w) hk]; exact h3
  have hz3 : (closedAt w r).frozen? ⟨g, 3, none⟩ = false := by rw [World.frozen?_of_block (w := w) hk]; exact hz
  clear hk hr
  go_enter Yba.func18, Yba.ntmps18
  go_wp2
  go_end0
  exact ⟨rfl, rfl⟩

/-- The record that a batch of N ticks, period p, first D nanoseconds behind the last At, adds to the history. -/
def recBytes (N p D : Int) : List UInt8 :=
  if N = 1 then 36 :: (Lib.uvarint (Lib.zigzag (D * 2)) ++ [0]) else 100 :: (Lib.uvarint (Lib.zigzag (D * 2)) ++ (Lib.uvarint (Lib.zigzag N) ++ Lib.uvarint (Lib.zigzag p)))

theorem byteCells_append (l m : List UInt8) : Lib.byteCells (l ++ m) = Lib.byteCells l ++ Lib.byteCells m := by simp [Lib.byteCells]
theorem byteCells_cons (c : UInt8) (m : List UInt8) : Lib.byteCells (c :: m) = .int .u8 c.toNat :: Lib.byteCells m := by simp [Lib.byteCells]

theorem addTicks_any (g n : Nat) (ch : Value) (S A T N p : Int) (buf far obs : Value) (xs : List Value) (w : World)
    (hA0 : -80000000000000000000 ≤ A) (hA1 : A ≤ 80000000000000000000) (hT0 : -80000000000000000000 ≤ T) (hT1 : T ≤ 80000000000000000000) (hd0 : -1000000000000000000 ≤ T - A) (hd1 : T - A ≤ 1000000000000000000)
    (hN0 : -9223372036854775808 ≤ N) (hN1 : N ≤ 9223372036854775807) (hp0 : -9223372036854775808 ≤ p) (hp1 : p ≤ 9223372036854775807)
    (hclk : Clk w g ch S A buf far obs) (hown : w.ownsRow (g + 1) 5 1 buf n xs) (hlim : n + 40 ≤ 140737488355328) :
    Calls Yba.prog 16 #[.pointer (some ⟨g, 16, none⟩), tm T, .int .i64 N, .int .i64 p] w fun e w' => ∃ a' m' c', e = .returned (.tuple #[]) ∧ Clk w' g ch S T (.slice a' m' c') far obs ∧
      w'.ownsRow (g + 1) 5 1 (.slice a' m' c') (n + (recBytes N p (T - A)).length) (xs ++ Lib.byteCells (recBytes N p (T - A))) ∧ FrC g w buf w' (.slice a' m' c') := by
  by_cases h1 : N = 1
  · subst h1
    refine (addTicks_one g n ch S A T p buf far obs xs w hA0 hA1 hT0 hT1 hd0 hd1 hclk hown (by omega)).mono ?_
    rintro e w' ⟨a', m', c', rfl, hC, hO, hF⟩
    refine ⟨a', m', c', rfl, hC, ?_, hF⟩
    have e1 : n + (recBytes 1 p (T - A)).length = n + 1 + (Lib.uvarint (Lib.zigzag ((T - A) * 2))).length + 1 := by simp [recBytes]; omega
    have e2 : xs ++ Lib.byteCells (recBytes 1 p (T - A)) = xs ++ [.int .u8 36] ++ Lib.byteCells (Lib.uvarint (Lib.zigzag ((T - A) * 2))) ++ Lib.byteCells [0] := by
      simp [recBytes, byteCells_cons, byteCells_append]
    rw [e1, e2]; exact hO
  · refine (addTicks_batch g n ch S A T N p buf far obs xs _ _ rfl rfl w hA0 hA1 hT0 hT1 hd0 hd1 (beq_eq_false_iff_ne.2 h1) hN0 hN1 hp0 hp1 hclk hown hlim).mono ?_
    rintro e w' ⟨a', m', c', rfl, hC, hO, hF⟩
    refine ⟨a', m', c', rfl, hC, ?_, hF⟩
    have e1 : n + (recBytes N p (T - A)).length = n + 1 + (Lib.uvarint (Lib.zigzag ((T - A) * 2))).length + (Lib.uvarint (Lib.zigzag N)).length + (Lib.uvarint (Lib.zigzag p)).length := by simp [recBytes, h1]; omega
    have e2 : xs ++ Lib.byteCells (recBytes N p (T - A)) = xs ++ [.int .u8 100] ++ Lib.byteCells (Lib.uvarint (Lib.zigzag ((T - A) * 2))) ++ Lib.byteCells (Lib.uvarint (Lib.zigzag N)) ++ Lib.byteCells (Lib.uvarint (Lib.zigzag p)) := by
      simp [recBytes, h1, byteCells_cons, byteCells_append]
    rw [e1, e2]; exact hO

/-- From w to w' only block g, block r, the row of v and new memory have turned; v' lies in that row or in new memory. -/
structure FrR (g r : Nat) (w : World) (v : Value) (w' : World) (v' : Value) : Prop where
  os : w'.os = w.os
  tape : w'.tape = w.tape
  output : w'.output = w.output
  size : w.heap.size ≤ w'.heap.size
  block : ∀ k, k < w.heap.size → k ≠ g → k ≠ r → some k ≠ v.ownBlock → w'.heap[k]? = w.heap[k]?
  own : v'.ownBlock = v.ownBlock ∨ ∃ k, v'.ownBlock = some k ∧ w.heap.size ≤ k

theorem own_notchan {w : World} {base : Nat} {e : TypeId} {size : Nat} {v : Value} {n : Nat} {xs : List Value} (h : w.ownsRow base e size v n xs) {r cap s c : Nat} {b : Array Value} {x y : Bool} (hr : w.heap[r]? = some (.chan cap b x s c y)) : v.ownBlock ≠ some r := by
  intro e
  rcases h.2 with ⟨rfl, _⟩ | ⟨k, cp, cur, rfl, _, hk, _⟩
  · simp [Value.ownBlock] at e
  · simp [Value.ownBlock] at e
    subst e
    rw [hk] at hr; cases hr

set_option maxHeartbeats 1000000 in
theorem recordTicks_none (g r n : Nat) (S A T N p : Int) (buf far : Value) (xs : List Value) (w : World)
    (hA0 : -80000000000000000000 ≤ A) (hA1 : A ≤ 80000000000000000000) (hT0 : -80000000000000000000 ≤ T) (hT1 : T ≤ 80000000000000000000) (hd0 : -1000000000000000000 ≤ T - A) (hd1 : T - A ≤ 1000000000000000000)
    (hN0 : -9223372036854775808 ≤ N) (hN1 : N ≤ 9223372036854775807) (hp0 : -9223372036854775808 ≤ p) (hp1 : p ≤ 9223372036854775807)
    (hclk : Clk w g (.chan (some r)) S A buf far (.slice none 0 0)) (hown : w.ownsRow (g + 1) 5 1 buf n xs) (hlim : n + 40 ≤ 140737488355328) (hr : w.heap[r]? = some (.chan 0 #[] false 0 0 false)) :
    Calls Yba.prog 8 #[.pointer (some ⟨g, 0, none⟩), tm T, .int .i64 N, .int .i64 p] w fun e w' => ∃ a' m' c', e = .returned (.tuple #[]) ∧ Clk w' g (.chan none) S T (.slice a' m' c') far (.slice none 0 0) ∧
      w'.ownsRow (g + 1) 5 1 (.slice a' m' c') (n + (recBytes N p (T - A)).length) (xs ++ Lib.byteCells (recBytes N p (T - A))) ∧ FrR g r w buf w' (.slice a' m' c') := by
  have hg := hclk.lt
  have hrw : r < w.heap.size := (Array.getElem?_eq_some_iff.1 hr).1
  have hrg : r ≠ g := by
    rintro rfl
    obtain ⟨_, _, _, _, _, _, _, _, _, _, _, _, _, _, _, h⟩ := hclk
    rw [h] at hr; cases hr
  have hro := own_notchan hown hr
  have hk0 := own_old hown (Nat.le_refl _)
  have hgne : w.heap.size ≠ g := by omega
  have hcall : ∀ W : World, Below w.heap.size w W → Calls Yba.prog 16 #[.pointer (some ⟨g, 16, none⟩), tm T, .int .i64 N, .int .i64 p] W fun e w' => ∃ a' m' c', e = .returned (.tuple #[]) ∧ Clk w' g (.chan (some r)) S T (.slice a' m' c') far (.slice none 0 0) ∧
      w'.ownsRow (g + 1) 5 1 (.slice a' m' c') (n + (recBytes N p (T - A)).length) (xs ++ Lib.byteCells (recBytes N p (T - A))) ∧ FrC g W buf w' (.slice a' m' c') := fun W hW =>
    addTicks_any g n _ S A T N p buf far _ xs W hA0 hA1 hT0 hT1 hd0 hd1 hN0 hN1 hp0 hp1 (hclk.keep (hW.block g hg)) (below_own hW hown) hlim
  obtain ⟨L, hL⟩ : ∃ L, recBytes N p (T - A) = L := ⟨_, rfl⟩
  rw [hL] at hcall ⊢
  have Hcall : Hid (_) := hcall
  have HR : Hid (w.heap[r]? = some (.chan 0 #[] false 0 0 false)) := hr
  have Hro : Hid (buf.ownBlock ≠ some r) := hro
  have Hk0 : Hid (buf.ownBlock ≠ some w.heap.size) := hk0
  clear hcall hclk hown hL hr hA0 hA1 hd0 hd1 hro hk0
  unfold tm at Hcall ⊢
  obtain ⟨a, ha⟩ : ∃ a, T % 1000000000 = a := ⟨_, rfl⟩
  obtain ⟨b, hb⟩ : ∃ b, T / 1000000000 = b := ⟨_, rfl⟩
  rw [ha, hb] at Hcall ⊢
  clear ha hb hT0 hT1
  go_enter Yba.func8, Yba.ntmps8
  go_wp2_with fail
  go_region_held3 (fun w' => w'.cell? ⟨w.heap.size, 0, none⟩ = some (.int .u64 a) ∧ w'.cell? ⟨w.heap.size, 1, none⟩ = some (.int .i64 b) ∧ w'.cell? ⟨w.heap.size, 2, none⟩ = some (.pointer none)) (first | go_keep | (refine ⟨?_, ?_, ?_⟩ <;> (rw [cell_of_row _ _ _ _ _ _ (hF2.far (k := w.heap.size) (by simp) hgne Hk0.out (new_at w _ _ rfl))]; rfl)))
    ((go_at_call 16; refine Calls.mono (Hcall.out _ (((Below.refl _ _).alloc (Nat.le_refl _) _).drew)) ?_; rintro e w2 ⟨a2, m2, c2, rfl, hC2, hO2, hF2⟩))
  have h24 := hC2.c24
  have h3 := hC2.c3
  have hz3 := hC2.frozen 3
  have HC2 : Hid (Clk w2 g (.chan (some r)) S T (.slice a2 m2 c2) far (.slice none 0 0)) := hC2
  have HO2 : Hid (w2.ownsRow (g + 1) 5 1 (.slice a2 m2 c2) (n + L.length) (xs ++ Lib.byteCells L)) := hO2
  have HF2 : Hid (FrC g w buf w2 (.slice a2 m2 c2)) := ((FrC.refl g w _).alloc _).drew.trans hF2
  have HR2 : Hid (w2.heap[r]? = some (.chan 0 #[] false 0 0 false)) := HF2.out.far hrw hrg Hro.out HR.out
  clear hC2 hO2 hF2 Hcall HR
  go_wp2_with (go_at_call 18; refine (changed_open g r _ h3 hz3 hrg HR2.out).mono ?_; rintro e w3 ⟨rfl, rfl⟩)
  go_end0
  have hk : (closedAt w2 r).heap[g]? = w2.heap[g]? := by simp [closedAt, Array.getElem?_setIfInBounds_ne hrg]
  have hro2 := own_notchan HO2.out HR2.out
  have hO3 : (closedAt w2 r).ownsRow (g + 1) 5 1 (.slice a2 m2 c2) (n + L.length) (xs ++ Lib.byteCells L) :=
    HO2.out.kept (row := some r) ⟨rfl, rfl, rfl, by simp [closedAt], fun k _ hne => by simp only [closedAt]; rw [Array.getElem?_setIfInBounds_ne (fun e => hne (by rw [e]))]⟩ (.inr hro2)
  refine ⟨a2, m2, c2, rfl, (HC2.out.keep hk).setWake _, own_setG hO3 _ _, ⟨HF2.out.os, HF2.out.tape, HF2.out.output, by simpa [closedAt] using HF2.out.size, fun k hlt hg' hr' hne => ?_, HF2.out.own⟩⟩
  rw [Below.heap_setCell _ _ _ _ hg']
  simp only [closedAt]
  rw [Array.getElem?_setIfInBounds_ne (Ne.symm hr')]
  exact HF2.out.block k hlt hg' hne

end Go.Proofs.Ybulkbhkg
