/-
  DERIVED. Seat b2918a: the observer's own function (LawS2918BObservers$1): one more entry in the log.
-/
import Derived.Test.YbulkbhkgHist
import Derived.Laws.EntriesVeiled
namespace Go.Proofs.Ybulkbhkg
open Go.RowKit
set_option linter.unusedVariables false

theorem info37 : ∃ i, Yba.prog.info? 37 = some i ∧ i.zero = some (.agg #[.int .i64 0, .int .u8 0, .int .u8 0, .int .i64 0, .int .u64 0, .int .i64 0, .pointer none, .int .u64 0, .int .i64 0, .pointer none]) ∧ i.size = 10 ∧ i.bytes = 72 := ⟨Yba.t37, by kernel_rfl, rfl, rfl, rfl⟩

/-- One entry of the log: whose, and the tick's event. -/
def ent (i a b : Int) : List Value := [.int .i64 i, .int .u8 4, .int .u8 4, .int .i64 0, .int .u64 a, .int .i64 b, .pointer none, .int .u64 a, .int .i64 b, .pointer none]

/-- A variable of one cell in a block of its own. -/
def Box (w : World) (k : Nat) (t : TypeId) (v : Value) : Prop := w.heap[k]? = some (.cells #[v] t (0, 0))

theorem Box.cell {w : World} {k : Nat} {t : TypeId} {v : Value} (h : Box w k t v) : w.cell? ⟨k, 0, none⟩ = some v := by rw [cell_of_row _ _ _ _ _ _ h]; rfl
theorem Box.frozen {w : World} {k : Nat} {t : TypeId} {v : Value} (h : Box w k t v) : w.frozen? ⟨k, 0, none⟩ = false := frozen_of_row w k 0 _ t h
theorem Box.lt {w : World} {k : Nat} {t : TypeId} {v : Value} (h : Box w k t v) : k < w.heap.size := (Array.getElem?_eq_some_iff.1 h).1

theorem Box.set {w : World} {k : Nat} {t : TypeId} {v : Value} (h : Box w k t v) (u : Value) : Box (w.setCell ⟨k, 0, none⟩ u) k t u := one_setCell h

theorem own_setX {w : World} {base : Nat} {e : TypeId} {size : Nat} {v : Value} {n : Nat} {xs : List Value} (h : w.ownsRow base e size v n xs) (k i : Nat) (hk : v.ownBlock ≠ some k) (u : Value) : (w.setCell ⟨k, i, none⟩ u).ownsRow base e size v n xs :=
  h.kept (row := some k) ⟨rfl, rfl, rfl, by simp, fun j _ hne => Below.heap_setCell _ _ _ _ (fun e => hne (by rw [e]))⟩ (.inr hk)

/-- A row of another type than a block's does not lie in it. -/
theorem own_type {w : World} {base : Nat} {e T : TypeId} {size : Nat} {v : Value} {n : Nat} {xs : List Value} (h : w.ownsRow base e size v n xs) {k : Nat} {c : Array Value} {f : Nat × Nat} (hk : w.heap[k]? = some (.cells c T f)) (hT : T ≠ e) : v.ownBlock ≠ some k := by
  intro e1
  rcases h.2 with ⟨rfl, _⟩ | ⟨g, cap, cur, rfl, _, hg, _⟩
  · simp [Value.ownBlock] at e1
  · simp [Value.ownBlock] at e1
    subst e1
    rw [hg] at hk
    injection hk with hk
    injection hk with _ h2 _
    exact hT h2.symm

set_option maxHeartbeats 1000000 in
set_option maxRecDepth 100000 in
theorem cb_any (lb ib n B : Nat) (logv : Value) (xs : List Value) (i a b : Int) (w : World) (hl : Box w lb 31 logv) (hi : Box w ib 3 (.int .i64 i)) (hown : w.ownsRow B 37 10 logv n xs) (hB : B ≤ w.heap.size) (hn : n ≤ 100000) :
    Calls Yba.prog 7 #[.agg #[.int .u8 4, .int .u8 4, .int .i64 0, .int .u64 a, .int .i64 b, .pointer none, .int .u64 a, .int .i64 b, .pointer none], .pointer (some ⟨lb, 0, none⟩), .pointer (some ⟨ib, 0, none⟩)] w fun e w' =>
      ∃ a' c', e = .returned (.tuple #[]) ∧ Box w' lb 31 (.slice a' (n + 1) c') ∧ w'.ownsRow B 37 10 (.slice a' (n + 1) c') (n + 1) (xs ++ ent i a b) ∧ FrC lb w logv w' (.slice a' (n + 1) c') := by
  obtain ⟨i0, hi0, hz0, hz1, hz2⟩ := info37
  have c0 := hl.cell
  have z0 := hl.frozen
  have c1 := hi.cell
  have l0 := hl.lt
  have l1 := hi.lt
  have hne := own_type hown hl (by decide)
  obtain ⟨la, lc, hv⟩ := own_form hown
  subst hv
  have HO : Hid (w.ownsRow B 37 10 (.slice la n lc) n xs) := hown
  have HL : Hid (Box w lb 31 (.slice la n lc)) := hl
  have Hne : Hid ((Value.slice la n lc).ownBlock ≠ some lb) := hne
  clear hown hl hi hne
  go_enter Yba.func7, Yba.ntmps7
  go_wp2_with (at_builtin; refine wpList_append_lies _ rfl _ _ _ rfl B 37 i0 _ 10 72 Yba.underlying31 hi0 hz0 hz1 hz2 rfl (by decide) (.slice la n lc) n xs rfl ((HO.out.alloc _).alloc _) ⟨w.heap.size + 1, 0, none⟩ 1 1 (ent i a b) rfl rfl (World.news_of_block (cs := #[.int .i64 i, .int .u8 4, .int .u8 4, .int .i64 0, .int .u64 a, .int .i64 b, .pointer none, .int .u64 a, .int .i64 b, .pointer none]) (t := 37) (fr := (0, 0)) (new_at (w.alloc _) _ _ (by simp))) (by simp [ent, Value.oneCell']) (by omega) (by unfold maxLen; omega) (by omega) (by simp; omega) (w.heap.size + 1 + 1) (by simp) ?_; intro gg cap w1 hown1 hgrow hat hlt; have hbx : Hid (Box w1 lb 31 (.slice la n lc)) := ((hgrow.block lb (by simp; omega) (Ne.symm Hne.out)).trans (by rw [Below.heap_alloc _ _ _ (by simp; omega), Below.heap_alloc _ _ _ l0]; exact HL.out)); have hcw := hbx.out.cell; have hzw := hbx.out.frozen; have HO1 : Hid (w1.ownsRow B 37 10 (.slice (some ⟨gg, 0, none⟩) (n + 1) cap) (n + 1) (xs ++ ent i a b)) := hown1; have HG1 : Hid (((w.alloc _).alloc _).grownBy w1 (Value.slice la n lc).ownBlock) := hgrow; have HA1 : Hid ((Value.slice la n lc).ownBlock = some gg ∨ gg = w.heap.size + 1 + 1) := hat; clear hown1 hgrow hat hlt)
  go_end0
  have hne1 := own_type HO1.out hbx.out (by decide)
  refine ⟨_, _, rfl, hbx.out.set _, own_setX HO1.out _ _ hne1 _, FrC.setCell ?_ _ _⟩
  refine (((FrC.refl lb w _).alloc _).alloc _).trans (Fr.clk ⟨HG1.out, ?_⟩)
  rcases HA1.out with e | e
  · left; rw [e]; rfl
  · right; exact ⟨gg, rfl, by subst e; simp⟩

end Go.Proofs.Ybulkbhkg
