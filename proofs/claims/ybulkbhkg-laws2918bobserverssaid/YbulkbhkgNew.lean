/-
  DERIVED. Seat b2918a: NewFakeClockAt.
-/
import Derived.Test.YbulkbhkgRecord
import Derived.Laws.LoneSync
import Derived.Laws.AppendOwnNone
namespace Go.Proofs.Ybulkbhkg
open Go.RowKit
set_option linter.unusedVariables false

theorem b32_true (w : World) : Calls Yba.prog 22 #[.bool true] w fun e w' => e = .returned (.int .u32 1) ∧ w' = w := by
  go_enter Yba.func22, Yba.ntmps22
  go_wp2
  go_ret
  exact ⟨rfl, rfl⟩

theorem store_any (g : Nat) (v : Value) (w : World) (hc : w.cell? ⟨g, 2, none⟩ = some (.int .u32 0)) (hz : w.frozen? ⟨g, 2, none⟩ = false) :
    Calls Yba.prog 15 #[.pointer (some ⟨g, 2, none⟩), .bool true] w fun e w' => e = .returned (.tuple #[]) ∧ w' = (w.setCell ⟨g, 2, none⟩ (.int .u32 1)).drew := by
  have hst := run_call_store (P := Yba.prog) Yba.func21 (by kernel_rfl) (by kernel_rfl) (by kernel_rfl) (by kernel_rfl) (k := .u32) (y := 1) (w := w.drew) hc hz
  go_enter Yba.func15, Yba.ntmps15
  go_wp2_with fail
  go_region_with (first | (go_at_call 22; refine (b32_true _).mono ?_; rintro e w' ⟨rfl, rfl⟩))
  all_goals
    go_wp2
    go_end0
    exact ⟨rfl, rfl⟩

set_option maxHeartbeats 1000000 in
theorem new_any (T : Int) (w : World) :
    Calls Yba.prog 6 #[.agg #[.int .u64 (T % 1000000000), .int .i64 (T / 1000000000), .pointer none]] w fun e w' => e = .returned (.pointer (some ⟨w.heap.size + 1, 0, none⟩)) ∧
      Clk w' (w.heap.size + 1) (.chan none) T T (.slice none 0 0) (.slice none 0 0) (.slice none 0 0) ∧ Below w.heap.size w w' := by
  obtain ⟨a, ha⟩ : ∃ a, T % 1000000000 = a := ⟨_, rfl⟩
  obtain ⟨b, hb⟩ : ∃ b, T / 1000000000 = b := ⟨_, rfl⟩
  unfold Clk
  rw [ha, hb]
  clear ha hb
  go_enter Yba.func6, Yba.ntmps6
  go_wp2_with (go_at_call 15; refine (store_any _ (.bool true) _ ?_ ?_).mono ?_; (go_simp); (go_simp); rintro e w' ⟨rfl, rfl⟩)
  go_ret
  refine ⟨rfl, ⟨_, _, _, _, _, _, _, _, _, _, _, _, _, _, _, new_at (w.alloc _) _ _ (by simp)⟩, ?_⟩
  repeat first | exact Below.refl _ _ | refine Below.drew ?_ | refine Below.setCell ?_ (by first | (simp; done) | (simp; omega)) _ | refine Below.alloc ?_ (by first | (simp; done) | (simp; omega)) _

/-- What a slice of bytes that came in hands to an append: nil, or n cells behind an address. -/
def Pre (w : World) (pv : Value) (n : Nat) (xs : List Value) : Prop :=
  (pv = .slice none 0 0 ∧ n = 0 ∧ xs = []) ∨ ∃ x cap, pv = .slice (some x) n cap ∧ xs.length = n ∧ (∀ j u, xs[j]? = some u → w.cell? (x.add j) = some u) ∧ ∀ u ∈ xs, u.oneCell' = true

theorem Pre.keep {w w' : World} {pv : Value} {n : Nat} {xs : List Value} (h : Pre w pv n xs) (hB : ∀ k, k < w.heap.size → (∃ x m c, pv = .slice (some x) m c ∧ x.block = k) → w'.heap[k]? = w.heap[k]?) : Pre w' pv n xs := by
  rcases h with h | ⟨x, cap, rfl, hl, hc, h1⟩
  · exact .inl h
  · refine .inr ⟨x, cap, rfl, hl, fun j u hj => ?_, h1⟩
    have h2 := hc j u hj
    have hb : (x.add j).block = x.block := by unfold Addr.add; split <;> rfl
    rw [World.cell?_of_block (w := w) (by rw [hb]; exact hB _ (by rw [← hb]; exact World.block_lt_of_cell? w _ h2) ⟨x, _, _, rfl, rfl⟩)]
    exact h2

theorem Pre.below {w w' : World} {pv : Value} {n : Nat} {xs : List Value} (h : Pre w pv n xs) (hB : Below w.heap.size w w') : Pre w' pv n xs := h.keep fun k hk _ => hB.block k hk

/-- 'append([]byte(nil), prefix...)'. -/
theorem wpList_copy {w : World} {ops : Array Oper} {rest : List Oper} {o : Oper} {a : Act} {Q : Exit → Act → World → Prop} (hgd : o.guard = none) (s x : Operand)
    (ho : o.op = .call { callee := .builtin .append, args := #[s, x], argTypes := #[56, 56] }) (base : Nat) (pv : Value) (n : Nat) (xs : List Value) (hs : a.eval s = .slice none 0 0) (hx : a.eval x = pv)
    (hpre : Pre w pv n xs) (hn : n ≤ 1024) (hbase : base ≤ w.heap.size)
    (h : ∀ a' c' w1, w1.ownsRow base 5 1 (.slice a' n c') n xs → w.grownBy w1 none → ((Value.slice a' n c').ownBlock = none ∨ (Value.slice a' n c').ownBlock = some w.heap.size) → wpList Yba.prog ops Q rest (a.put o.dst (.slice a' n c')) w1) :
    wpList Yba.prog ops Q (o :: rest) a w := by
  obtain ⟨i0, hi, hz0, hz1, hz2⟩ := info5
  rcases hpre with ⟨rfl, rfl, rfl⟩ | ⟨ad, cap, rfl, hl, hc, h1⟩
  · exact wpList_append_own_none hgd s x 56 ho base 5 i0 1 Yba.underlying56 hi (.slice none 0 0) 0 [] hs (World.ownsRow_nil w base 5 1) hx (h none 0 w (World.ownsRow_nil w base 5 1) ⟨rfl, rfl, rfl, Nat.le_refl _, fun _ _ _ => rfl⟩ (.inl rfl))
  · refine wpList_append_own_at w hgd s x 56 ho base 5 i0 (.int .u8 0) 1 1 Yba.underlying56 hi hz0 hz1 hz2 rfl (by decide) (.slice none 0 0) 0 [] hs (World.ownsRow_nil w base 5 1) ad n cap xs hx (by rw [hl, Nat.mul_one]) hc h1 (by unfold maxLen; omega) (by omega) hbase ?_
    intro v' w1 ho1 hg1 _ hat
    simp only [Nat.zero_add, List.nil_append] at ho1
    obtain ⟨a', c', rfl⟩ := own_form ho1
    exact h a' c' w1 ho1 hg1 hat

end Go.Proofs.Ybulkbhkg
