/-
  DERIVED. Seat b2925a: copy(z.w[:], p[:k]) as one step of a region that draws its order, with the exact frame.
-/
import Derived.Test.YbulkbhoaWords
import Derived.Laws.CopyOwn
namespace Go.Proofs.Ybulkbhoa
open Go.RowKit
set_option linter.unusedVariables false

/-- The first k words of p laid over f. -/
def over (f p : Nat → Int) (k : Nat) : Nat → Int := fun j => if j < k then p j else f j

theorem over_cells (n : Int) (f p : Nat → Int) (k : Nat) (hk : k ≤ 10) :
    ((wcells n f).toList.take 1 ++ (((List.range k).map fun i => Value.int .u64 (p i)) ++ (wcells n f).toList.drop (1 + ((List.range k).map fun i => Value.int .u64 (p i)).length))).toArray = wcells n (over f p k) := by
  apply Array.ext
  · simp [wcells]; omega
  · intro j h1 h2
    rcases j with _ | j
    · simp [wcells]
    · have hj : j < 10 := by simp [wcells] at h2; omega
      simp only [wcells, List.getElem_toArray, List.take_succ_cons, List.take_zero, List.cons_append, List.nil_append, List.getElem_cons_succ, List.length_map, List.length_range, over, Nat.add_comm 1 k, List.drop_succ_cons, List.getElem_map, List.getElem_range]
      by_cases h : j < k
      · rw [if_pos h, List.getElem_append_left (by simpa using h)]; simp
      · rw [if_neg h, List.getElem_append_right (by simp; omega)]; simp; congr 1; omega

theorem step_copy_words {ops : Array Oper} {o : Oper} {a : Act} {w : World} {K : Act → World → Prop} {Q : Exit → Act → World → Prop} {E : Prop} (hgd : o.guard = none) (d s : Operand)
    (ho : o.op = .call { callee := .builtin .copy, args := #[d, s], argTypes := #[22, 22] }) (bz bp k : Nat) (hk : k ≤ 10)
    (hd : a.eval d = .slice (some ⟨bz, 1, none⟩) 10 10) (hs : a.eval s = .slice (some ⟨bp, 0, none⟩) k 20) (n : Int) (f p : Nat → Int) (hz : Wd w bz n f) (hp : Tw w bp p)
    (h : ∀ w', Wd w' bz n (over f p k) → Fx bz w w' → K (a.put o.dst (goInt k)) w') :
    if Region.wanted o (yielded ops a.tmps) = true then Oper.wp Yba.prog o a w K Q else E := by
  have hw : Region.wanted o (yielded ops a.tmps) = true := by simp [Region.wanted, hgd]
  rw [if_pos hw]
  have hrun := run_copy_row (P := Yba.prog) w 22 22 o.type 23 bz 1 10 10 ⟨bp, 0, none⟩ k 20 (wcells n f) 26 ((List.range k).map fun i => Value.int .u64 (p i)) (by kernel_rfl) (by kernel_rfl) hz
    (by simp only [List.length_map, List.length_range]; exact (Nat.min_eq_left hk).symm) (fun j v hj => by
      have hj' : j < k := by
        rcases Nat.lt_or_ge j k with c | c
        · exact c
        · rw [List.getElem?_eq_none (by simpa using c)] at hj; cases hj
      have e : v = .int .u64 (p j) := by simp [hj'] at hj; exact hj.symm
      subst e
      rcases j with _ | j
      · simpa [Addr.add] using hp.c 0 (by omega)
      · simpa [Addr.add] using hp.c (j + 1) (by omega)) (by simp [wcells]; omega) (fun v hv => by
      simp at hv; obtain ⟨i, _, rfl⟩ := hv; rfl)
  rw [List.append_assoc, over_cells _ _ _ _ hk] at hrun
  unfold Oper.wp
  simp [execOp, ho, resolve, invoke, builtin, hd, hs, hrun, Result.andThen]
  have hb : (w.setRow bz (wcells n (over f p k))).heap[bz]? = some (.cells (wcells n (over f p k)) 26 (0, 0)) := setRow_heap w bz _ _ 26 _ hz
  exact h _ hb ⟨rfl, rfl, rfl, by simp [World.setRow], fun i hi hne => setRow_other w bz i _ hne⟩
end Go.Proofs.Ybulkbhoa
