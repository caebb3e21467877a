/-
  DERIVED. Seat b2918a: the observers in memory; the log that they make.
-/
import Derived.Test.YbulkbhkgCb
namespace Go.Proofs.Ybulkbhkg
open Go.RowKit
set_option linter.unusedVariables false

/-- The observer's function value: it holds the log's variable and its own number's. -/
def clo (lb ib : Nat) : Value := .func (.func 7) #[] #[.pointer (some ⟨lb, 0, none⟩), .pointer (some ⟨ib, 0, none⟩)]

/-- Each of the blocks fbs holds an observer's function, whose number is its place. -/
def Obsv (w : World) (lb : Nat) (fbs : List Nat) : Prop := ∀ (i fb : Nat), fbs[i]? = some fb → ∃ ib, Box w fb 38 (clo lb ib) ∧ Box w ib 3 (.int .i64 (i : Int))

def ptrs (fbs : List Nat) : List Value := fbs.map fun b => .pointer (some ⟨b, 0, none⟩)

theorem Obsv.keep {w w' : World} {lb : Nat} {fbs : List Nat} (h : Obsv w lb fbs) (hk : ∀ (k : Nat) (c : Array Value) (T : TypeId), w.heap[k]? = some (.cells c T (0, 0)) → T = 38 ∨ T = 3 → w'.heap[k]? = w.heap[k]?) : Obsv w' lb fbs := by
  intro i fb hi
  obtain ⟨ib, h1, h2⟩ := h i fb hi
  exact ⟨ib, (hk fb _ _ h1 (.inl rfl)).trans h1, (hk ib _ _ h2 (.inr rfl)).trans h2⟩

theorem Clk.block {w : World} {g : Nat} {ch : Value} {S A : Int} {buf far obs : Value} (h : Clk w g ch S A buf far obs) : ∃ c, w.heap[g]? = some (.cells c 61 (0, 0)) := by
  obtain ⟨_, _, _, _, _, _, _, _, _, _, _, _, _, _, _, h⟩ := h
  exact ⟨_, h⟩

theorem FrC.typed {g : Nat} {w w' : World} {v v' : Value} (h : FrC g w v w' v') {cg : Array Value} {Tg : TypeId} {fg : Nat × Nat} (hg : w.heap[g]? = some (.cells cg Tg fg)) {base : Nat} {e : TypeId} {size n : Nat} {xs : List Value} (ho : w.ownsRow base e size v n xs)
    {k : Nat} {c : Array Value} {T : TypeId} {f : Nat × Nat} (hk : w.heap[k]? = some (.cells c T f)) (h1 : T ≠ Tg) (h2 : T ≠ e) : w'.heap[k]? = w.heap[k]? := by
  refine h.block k (Array.getElem?_eq_some_iff.1 hk).1 ?_ (Ne.symm (own_type ho hk h2))
  rintro rfl
  rw [hg] at hk
  injection hk with hk
  injection hk with _ h3 _
  exact h1 h3.symm

/-- The log's entry number q. -/
def entOf (m : Nat) (T p : Int) (q : Nat) : List Value := ent (q % m : Nat) ((T + (q / m : Nat) * p) % 1000000000) ((T + (q / m : Nat) * p) / 1000000000)
/-- The log's first cnt entries. -/
def logL (m : Nat) (T p : Int) (cnt : Nat) : List Value := (List.range cnt).flatMap (entOf m T p)

theorem logL_zero (m : Nat) (T p : Int) : logL m T p 0 = [] := rfl

theorem logL_succ (m : Nat) (T p : Int) (r i : Nat) (hi : i < m) : logL m T p (r * m + i + 1) = logL m T p (r * m + i) ++ ent i ((T + r * p) % 1000000000) ((T + r * p) / 1000000000) := by
  have h1 : (r * m + i) % m = i := by rw [Nat.mul_comm, Nat.mul_add_mod]; exact Nat.mod_eq_of_lt hi
  have h2 : (r * m + i) / m = r := by rw [Nat.mul_comm, Nat.mul_add_div (by omega), Nat.div_eq_of_lt hi, Nat.add_zero]
  unfold logL
  rw [List.range_succ, List.flatMap_append]
  congr 1
  show entOf m T p (r * m + i) ++ [] = _
  rw [List.append_nil]
  unfold entOf
  rw [h1, h2]

theorem logL_get (m : Nat) (T p : Int) (c : Nat) (hc : c < 10) : ∀ cnt q, q < cnt → (logL m T p cnt)[q * 10 + c]? = (entOf m T p q)[c]? := by
  have hlen : ∀ cnt, (logL m T p cnt).length = cnt * 10 := by
    intro cnt
    induction cnt with
    | zero => rfl
    | succ k ih =>
      unfold logL at *
      rw [List.range_succ, List.flatMap_append, List.length_append, ih]
      simp [entOf, ent]; omega
  intro cnt
  induction cnt with
  | zero => intro q hq; omega
  | succ k ih =>
    intro q hq
    have e : logL m T p (k + 1) = logL m T p k ++ entOf m T p k := by
      unfold logL
      rw [List.range_succ, List.flatMap_append]
      simp
    rw [e]
    by_cases h : q < k
    · rw [List.getElem?_append_left (by rw [hlen]; omega)]
      exact ih q h
    · have : q = k := by omega
      subst this
      rw [List.getElem?_append_right (by rw [hlen]; omega), hlen]
      congr 1; omega

/-- What the loops over ticks and observers leave as it was: all but the log's variable lb, the tick's variable ab, the log's row and new memory. -/
structure G (w2 : World) (lb ab : Nat) (logv : Value) (wr : World) : Prop where
  os : wr.os = w2.os
  tape : wr.tape = w2.tape
  output : wr.output = w2.output
  size : w2.heap.size ≤ wr.heap.size
  block : ∀ k, k < w2.heap.size → k ≠ lb → k ≠ ab → wr.heap[k]? = w2.heap[k]?
  own : logv.ownBlock = none ∨ ∃ k, logv.ownBlock = some k ∧ w2.heap.size ≤ k

theorem G.below {w2 wr wr' : World} {lb ab : Nat} {logv : Value} (h : G w2 lb ab logv wr) (hB : Below wr.heap.size wr wr') : G w2 lb ab logv wr' :=
  ⟨hB.os.trans h.os, hB.tape.trans h.tape, hB.output.trans h.output, Nat.le_trans h.size hB.size, fun k hk h1 h2 => (hB.block k (Nat.lt_of_lt_of_le hk h.size)).trans (h.block k hk h1 h2), h.own⟩

theorem G.frc {w2 wr wr' : World} {lb ab : Nat} {logv logv' : Value} (h : G w2 lb ab logv wr) (hF : FrC lb wr logv wr' logv') : G w2 lb ab logv' wr' := by
  refine ⟨hF.os.trans h.os, hF.tape.trans h.tape, hF.output.trans h.output, Nat.le_trans h.size hF.size, fun k hk h1 h2 => ?_, ?_⟩
  · refine (hF.block k (Nat.lt_of_lt_of_le hk h.size) h1 ?_).trans (h.block k hk h1 h2)
    rcases h.own with e | ⟨j, e, hj⟩
    · rw [e]; intro e2; cases e2
    · rw [e]; intro e2; injection e2 with e2; omega
  · rcases hF.own with e | ⟨j, e, hj⟩
    · rcases h.own with e1 | ⟨j, e1, hj⟩
      · exact .inl (e.trans e1)
      · exact .inr ⟨j, e.trans e1, hj⟩
    · exact .inr ⟨j, e, Nat.le_trans h.size hj⟩

theorem G.set {w2 wr : World} {lb ab : Nat} {logv : Value} (h : G w2 lb ab logv wr) (i : Nat) (u : Value) : G w2 lb ab logv (wr.setCell ⟨ab, i, none⟩ u) :=
  ⟨h.os, h.tape, h.output, by simpa using h.size, fun k hk h1 h2 => by rw [Below.heap_setCell _ _ _ _ h2]; exact h.block k hk h1 h2, h.own⟩

end Go.Proofs.Ybulkbhkg
