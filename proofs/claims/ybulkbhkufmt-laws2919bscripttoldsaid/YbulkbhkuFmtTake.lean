/-
  DERIVED. Seat b2919aF: (*StateReader).take.
-/
import Derived.Test.YbulkbhkuFmtEq
import Derived.BigRegion
import Derived.Deep.RegionHeld3
import Derived.Lib.SmallJoins
namespace Go.Proofs.YbulkbhkuFmt
open Go.RowKit Go.Extern.Stop Go.Stop Go.Extern
set_option linter.unusedVariables false

/-- The reader's block. -/
def Rdr (w : World) (rb : Nat) (bv : Value) (at' : Int) (er : Value) : Prop := w.heap[rb]? = some (.cells #[bv, .int .i64 at', er] 27 (0, 0))

theorem Rdr.cells {w : World} {rb : Nat} {bv : Value} {t : Int} {er : Value} (h : Rdr w rb bv t er) : w.cell? ⟨rb, 0, none⟩ = some bv ∧ w.cell? ⟨rb, 1, none⟩ = some (.int .i64 t) ∧ w.cell? ⟨rb, 2, none⟩ = some er := by
  refine ⟨?_, ?_, ?_⟩ <;> (rw [cell_of_row _ _ _ _ _ _ h]; rfl)
theorem Rdr.frozen {w : World} {rb : Nat} {bv : Value} {t : Int} {er : Value} (h : Rdr w rb bv t er) (i : Nat) : w.frozen? ⟨rb, i, none⟩ = false := frozen_of_row w rb i _ 27 h
theorem Rdr.lt {w : World} {rb : Nat} {bv : Value} {t : Int} {er : Value} (h : Rdr w rb bv t er) : rb < w.heap.size := (Array.getElem?_eq_some_iff.1 h).1

/-- From w to w' only block rb and new memory have turned. -/
structure Fx (rb : Nat) (w w' : World) : Prop where
  os : w'.os = w.os
  tape : w'.tape = w.tape
  output : w'.output = w.output
  size : w.heap.size ≤ w'.heap.size
  block : ∀ k, k < w.heap.size → k ≠ rb → w'.heap[k]? = w.heap[k]?

theorem Fx.refl (rb : Nat) (w : World) : Fx rb w w := ⟨rfl, rfl, rfl, Nat.le_refl _, fun _ _ _ => rfl⟩
theorem Fx.trans {rb : Nat} {a b c : World} (h : Fx rb a b) (k : Fx rb b c) : Fx rb a c :=
  ⟨k.os.trans h.os, k.tape.trans h.tape, k.output.trans h.output, Nat.le_trans h.size k.size, fun i hi hne => (k.block i (Nat.lt_of_lt_of_le hi h.size) hne).trans (h.block i hi hne)⟩
theorem Fx.below {rb : Nat} {w w' : World} (h : Below w.heap.size w w') : Fx rb w w' := ⟨h.os, h.tape, h.output, h.size, fun k hk _ => h.block k hk⟩
theorem Fx.set {rb : Nat} {a w : World} (h : Fx rb a w) (i : Nat) (u : Value) : Fx rb a (w.setCell ⟨rb, i, none⟩ u) :=
  ⟨h.os, h.tape, h.output, by simpa using h.size, fun k hk hne => by rw [Below.heap_setCell _ _ _ _ hne]; exact h.block k hk hne⟩
theorem Fx.drew {rb : Nat} {a w : World} (h : Fx rb a w) : Fx rb a w.drew := ⟨h.os, h.tape, h.output, h.size, h.block⟩

/-- take behind an error: nil; nothing turns. -/
theorem take_err (rb b : Nat) (bv : Value) (t k : Int) (w : World) (h : Rdr w rb bv t (.iface 36 (.pointer (some ⟨b, 0, none⟩)))) :
    Calls Ybaf.prog 6 #[.pointer (some ⟨rb, 0, none⟩), .int .i64 k] w fun e w' => e = .returned (.slice none 0 0) ∧ w' = w := by
  obtain ⟨c0, c1, c2⟩ := h.cells
  go_enter Ybaf.func6, Ybaf.ntmps6
  go_wp2
  go_ret
  exact ⟨rfl, rfl⟩

set_option maxHeartbeats 1000000 in
/-- take of more than is left: nil, and an error is held. -/
theorem take_more (F : Interp) (rb l c : Nat) (a : Option Addr) (t k : Int) (w : World) (hF : F.answers w.tape) (h : Rdr w rb (.slice a l c) t .nilIface) (hk : (l : Int) < k) :
    Calls Ybaf.prog 6 #[.pointer (some ⟨rb, 0, none⟩), .int .i64 k] w fun e w' => e = .returned (.slice none 0 0) ∧ (∃ b, Rdr w' rb (.slice a l c) t (.iface 36 (.pointer (some ⟨b, 0, none⟩)))) ∧ Fx rb w w' := by
  obtain ⟨c0, c1, c2⟩ := h.cells
  have HR : Hid (Rdr w rb (.slice a l c) t .nilIface) := h
  have hlt := h.lt
  have HF : Hid (F.answers w.tape) := hF
  clear h hF
  go_enter Ybaf.func6, Ybaf.ntmps6
  go_wp2_with fail
  go_region_held3 (fun w' => w'.cell? ⟨rb, 0, none⟩ = some (.slice a l c) ∧ w'.cell? ⟨rb, 1, none⟩ = some (.int .i64 t)) (first | go_keep | exact ⟨(hR5.cells).1, (hR5.cells).2.1⟩ | exact ⟨(hR4.cells).1, (hR4.cells).2.1⟩)
    (first | (go_at_call 10; refine (errorf_any F (IntKind.i64.wrap (t + (l : Int))) w.heap.size _ ?_ ?_).mono ?_; exact HF.out; (go_simp); rintro e w4 ⟨⟨b, rfl⟩, hB4⟩; have hR4 : Rdr w4 rb (.slice a l c) t .nilIface := ((hB4.block rb (by simp; omega)).trans (Below.heap_alloc _ _ _ hlt)).trans HR.out) | (go_at_call 9; refine (fail_any rb b _ (hR4.cells).2.2 (hR4.frozen 2)).mono ?_; rintro e w5 ⟨rfl, rfl⟩; have hR5 : Rdr (w4.setCell ⟨rb, 2, none⟩ (.iface 36 (.pointer (some ⟨b, 0, none⟩)))) rb (.slice a l c) t (.iface 36 (.pointer (some ⟨b, 0, none⟩))) := (by unfold Rdr; rw [Joins.block_setCell hR4]; simp)))
  have HR5 : Hid (Rdr (w4.setCell ⟨rb, 2, none⟩ (.iface 36 (.pointer (some ⟨b, 0, none⟩)))) rb (.slice a l c) t (.iface 36 (.pointer (some ⟨b, 0, none⟩)))) := hR5
  have HX : Hid (Fx rb w w4) := ⟨hB4.os, hB4.tape, hB4.output, by have := hB4.size; simp at this; omega, fun k hk _ => (hB4.block k (by simp; omega)).trans (Below.heap_alloc _ _ _ hk)⟩
  clear hR4 hR5 hB4
  go_wp2
  go_ret
  exact ⟨rfl, ⟨b, HR5.out⟩, HX.out.set _ _⟩

/-- Where a slice of capacity c goes on behind its first n bytes. -/
def adv (a : Option Addr) (c n : Nat) : Option Addr := if c = n then a else a.map (fun x => x.add n)

theorem Rd.adv {w : World} {a : Option Addr} {l c n : Nat} {zs : List Int} (h : Rd w a l zs) (hl : l ≤ c) (hn : n ≤ l) : Rd w (adv a c n) (l - n) (zs.drop n) := by
  refine ⟨by rw [List.length_drop, h.1], ?_⟩
  by_cases h0 : l - n = 0
  · exact .inl h0
  · right
    rcases h.2 with h1 | ⟨b, o, rfl, hc⟩
    · omega
    · refine ⟨b, o + n, ?_, fun i hi => ?_⟩
      · unfold YbulkbhkuFmt.adv
        rw [if_neg (by omega)]
        show some ((⟨b, o, none⟩ : Addr).add n) = _
        unfold Addr.add
        split <;> simp_all
      · have h2 := hc (n + i) (by omega)
        rw [Nat.add_assoc, h2]
        simp [List.getD_eq_getElem?_getD]

theorem Rd.take {w : World} {a : Option Addr} {l n : Nat} {zs : List Int} (h : Rd w a l zs) (hn : n ≤ l) : Rd w a n (zs.take n) := by
  refine ⟨by rw [List.length_take, h.1]; omega, ?_⟩
  rcases h.2 with h1 | ⟨b, o, rfl, hc⟩
  · left; omega
  · right
    refine ⟨b, o, rfl, fun i hi => ?_⟩
    rw [hc i (by omega)]
    simp [List.getD_eq_getElem?_getD, List.getElem?_take_of_lt hi]

set_option maxHeartbeats 2000000 in
/-- take of what is there. -/
theorem take_ok (rb l c n : Nat) (a : Option Addr) (t : Int) (w : World) (h : Rdr w rb (.slice a l c) t .nilIface) (hn : n ≤ l) (hl : l ≤ c) (ht0 : -9223372036854775808 ≤ t) (ht1 : t ≤ 9223372036854775807) :
    Calls Ybaf.prog 6 #[.pointer (some ⟨rb, 0, none⟩), .int .i64 (n : Int)] w fun e w' => e = .returned (.slice a n n) ∧ Rdr w' rb (.slice (adv a c n) (l - n) (c - n)) (wrap64 (t + n)) .nilIface ∧ Fx rb w w' := by
  obtain ⟨c0, c1, c2⟩ := h.cells
  have hz := h.frozen
  have HR : Hid (Rdr w rb (.slice a l c) t .nilIface) := h
  have hlt := h.lt
  have hni : (n : Int) ≤ (l : Int) := by omega
  have hli : (l : Int) ≤ (c : Int) := by omega
  have hnc : (n : Int) ≤ (c : Int) := by omega
  have hn0 : (0 : Int) ≤ (n : Int) := by omega
  have hnn : ¬ (l : Int) < (n : Int) := by omega
  clear h
  go_enter Ybaf.func6, Ybaf.ntmps6
  go_wp2_with fail
  go_region
  all_goals go_wp2
  all_goals
    go_ret
    refine ⟨rfl, ?_, (((Fx.refl rb w).set _ _).set _ _).drew⟩
    show (World.setCell _ _ _).heap[rb]? = _
    rw [Joins.block_setCell (Joins.block_setCell HR.out _)]
    simp [adv, *]

end Go.Proofs.YbulkbhkuFmt
