/-
  DERIVED. Seat b2918a: encoding/binary.AppendUvarint and AppendVarint, with the exact frame: every old block but the slice's own row is as it was, and the slice that comes back lies in that row or in a new block. (The walk goes as the kit's shelf goes at these functions; the frame is this text's own.)
-/
import Derived.Test.YbulkbhkgAdd
import Derived.Lib.Walk
import Derived.Lib.VarintMem
import Derived.Lib.Zigzag
import Derived.Lib.Slices
import Derived.OwnWalk
import Derived.Maps.AppendAt
namespace Go.Proofs.Ybulkbhkg
open Go.RowKit

/-- From w to w' only the row of v (and new memory) has turned; v' lies in that row or in new memory. -/
structure Fr (w : World) (v : Value) (w' : World) (v' : Value) : Prop where
  grown : w.grownBy w' v.ownBlock
  own : v'.ownBlock = v.ownBlock ∨ ∃ k, v'.ownBlock = some k ∧ w.heap.size ≤ k

theorem Fr.refl (w : World) (v : Value) : Fr w v w v := ⟨⟨rfl, rfl, rfl, Nat.le_refl _, fun _ _ _ => rfl⟩, .inl rfl⟩

theorem Fr.trans {w w1 w2 : World} {v v1 v2 : Value} (h : Fr w v w1 v1) (k : Fr w1 v1 w2 v2) : Fr w v w2 v2 := by
  refine ⟨⟨k.grown.os.trans h.grown.os, k.grown.tape.trans h.grown.tape, k.grown.output.trans h.grown.output, Nat.le_trans h.grown.size k.grown.size, fun i hi hne => ?_⟩, ?_⟩
  · refine (k.grown.block i (Nat.lt_of_lt_of_le hi h.grown.size) ?_).trans (h.grown.block i hi hne)
    rcases h.own with e | ⟨j, e, hj⟩
    · rw [e]; exact hne
    · rw [e]; intro e2; injection e2 with e2; omega
  · rcases k.own with e | ⟨j, e, hj⟩
    · rcases h.own with e1 | ⟨j, e1, hj⟩
      · exact .inl (e.trans e1)
      · exact .inr ⟨j, e.trans e1, hj⟩
    · exact .inr ⟨j, e, Nat.le_trans h.grown.size hj⟩

theorem Fr.alloc {w w1 : World} {v v1 : Value} (h : Fr w v w1 v1) (o : Obj) : Fr w v (w1.alloc o) v1 :=
  h.trans ⟨World.grownBy_alloc _ _ _, .inl rfl⟩

theorem Fr.app {w w1 : World} {v v1 : Value} (hg : w.grownBy w1 v.ownBlock) (hat : v1.ownBlock = v.ownBlock ∨ v1.ownBlock = some w.heap.size) : Fr w v w1 v1 :=
  ⟨hg, hat.imp id fun h => ⟨_, h, Nat.le_refl _⟩⟩

theorem info5 : ∃ i, Yba.prog.info? 5 = some i ∧ i.zero = some (.int .u8 0) ∧ i.size = 1 ∧ i.bytes = 1 := ⟨Yba.t5, by kernel_rfl, rfl, rfl, rfl⟩

set_option maxHeartbeats 1000000 in
set_option maxRecDepth 100000 in
theorem uvarint_any (B n x : Nat) (hx : x < 18446744073709551616) (sv : Value) (xs : List Value) (w : World) (hown : w.ownsRow B 5 1 sv n xs) (hBw : B ≤ w.heap.size) (hlim : n + 10 ≤ 140737488355328) :
    Calls Yba.prog 20 #[sv, .int .u64 x] w fun e w' => ∃ v', e = .returned v' ∧ w'.ownsRow B 5 1 v' (n + (Lib.uvarint x).length) (xs ++ Lib.byteCells (Lib.uvarint x)) ∧ Fr w sv w' v' := by
  obtain ⟨i0, hi, hz0, hz1, hz2⟩ := info5
  have hlen := Lib.uvarint_length64 hx
  go_enter Yba.func20, Yba.ntmps20
  go_wp2
  go_loopw [0, 1] (fun vb vx wr => ∃ (y : Nat) (pre : List UInt8), vx = .int .u64 y ∧ y ≤ x ∧ Lib.uvarint x = pre ++ Lib.uvarint y ∧ wr.ownsRow B 5 1 vb (n + pre.length) (xs ++ Lib.byteCells pre) ∧ Fr w sv wr vb)
    (fun _ vx _ => (intOf vx).toNat)
  case atStart => exact ⟨x, [], rfl, Nat.le_refl _, rfl, by simpa [Lib.byteCells] using hown, Fr.refl _ _⟩
  case round =>
    obtain ⟨y, pre, rfl, hy, hsplit, hown1, hnx⟩ := hrel
    have hpl : pre.length + (Lib.uvarint y).length ≤ 10 := by
      have h2 := congrArg List.length hsplit
      rw [List.length_append] at h2
      omega
    have hyp := Lib.uvarint_pos y
    by_cases h128 : 128 ≤ y
    · have hor : bits .or .u8 ((y : Int) % 256) 128 = ((y % 128 + 128 : Nat) : Int) := by
        rw [Lib.u8_or128_any _ (by omega) (by omega)]
        omega
      go_wp2_with (at_builtin; refine wpList_append_own_at _ rfl _ _ 56 rfl B 5 i0 (.int .u8 0) 1 1 Yba.underlying56 hi hz0 hz1 hz2 rfl (by decide) _ _ _ rfl (hown1.alloc _) ⟨wr.heap.size, 0, none⟩ 1 1 [Value.int .u8 ((y % 128 + 128 : Nat) : Int)] rfl rfl ?c1 ?c2 ?c3 ?c4 ?c5 ?_)
      case c1 =>
        intro j u hj
        match j, hj with
        | 0, hj => simp at hj; subst hj; simp [Addr.add]
      case c2 => intro u hu; simp at hu; subst hu; rfl
      case c3 => unfold maxLen; omega
      case c4 => omega
      case c5 => have := hnx.grown.size; simp; omega
      intro v' w1 hown' hgrow _ hat
      have hnx1 : Fr w sv w1 v' := (hnx.alloc _).trans (Fr.app hgrow (by simpa using hat))
      go_wp2
      go_roundw
      case rel =>
        refine ⟨y / 128, pre ++ [(y % 128 + 128).toUInt8], by go_num, by omega, by rw [hsplit, Lib.uvarint_big h128]; simp, ?_, hnx1⟩
        have ec : ((y % 128 + 128 : Nat) : Int) = (y : Int) % 128 + 128 := by omega
        rw [Lib.byteCells_snoc pre (by omega), List.length_append, List.length_singleton, ← Nat.add_assoc, ec]
        exact hown'
      case measure => simp [intOf]; omega
    · have hsm : Lib.uvarint y = [y.toUInt8] := Lib.uvarint_small (by omega)
      go_wp2_with (at_builtin; refine wpList_append_own_at _ rfl _ _ 56 rfl B 5 i0 (.int .u8 0) 1 1 Yba.underlying56 hi hz0 hz1 hz2 rfl (by decide) _ _ _ rfl (hown1.alloc _) ⟨wr.heap.size, 0, none⟩ 1 1 [Value.int .u8 (y : Int)] rfl rfl ?c1 ?c2 ?c3 ?c4 ?c5 ?_)
      case c1 =>
        intro j u hj
        match j, hj with
        | 0, hj => simp at hj; subst hj; simp [Addr.add]
      case c2 => intro u hu; simp at hu; subst hu; rfl
      case c3 => unfold maxLen; omega
      case c4 => omega
      case c5 => have := hnx.grown.size; simp; omega
      intro v' w1 hown' hgrow _ hat
      have hnx1 : Fr w sv w1 v' := (hnx.alloc _).trans (Fr.app hgrow (by simpa using hat))
      go_wp2
      go_ret
      refine ⟨v', rfl, ?_, hnx1⟩
      rw [hsplit, hsm, List.length_append, List.length_singleton, ← Nat.add_assoc, Lib.byteCells_snoc pre (by omega)]
      exact hown'

theorem varint_any0 (B n : Nat) (x : Int) (h0 : -9223372036854775808 ≤ x) (h1 : x ≤ 9223372036854775807) (sv : Value) (xs : List Value) (w : World) (hown : w.ownsRow B 5 1 sv n xs) (hBw : B ≤ w.heap.size) (hlim : n + 10 ≤ 140737488355328) :
    Calls Yba.prog 10 #[sv, .int .i64 x] w fun e w' => ∃ v', e = .returned v' ∧ w'.ownsRow B 5 1 v' (n + (Lib.uvarint (Lib.zigzag x)).length) (xs ++ Lib.byteCells (Lib.uvarint (Lib.zigzag x))) ∧ Fr w sv w' v' := by
  have hU := uvarint_any B n (Lib.zigzag x) (Lib.zigzag_lt h0 h1) sv xs w hown hBw hlim
  by_cases hneg : x < 0
  · rw [← Lib.zigzag_neg h0 hneg] at hU
    have HU : Hid (_) := hU
    clear hU
    go_enter Yba.func10, Yba.ntmps10
    go_wp2_with (go_at_call 20; go_must (refine Calls.mono HU.out ?_); rintro e w1 ⟨v', rfl, ho, hb⟩)
    go_ret
    exact ⟨v', rfl, ho, hb⟩
  · rw [Lib.zigzag_nonneg (by omega)] at hU
    have HU : Hid (_) := hU
    clear hU
    go_enter Yba.func10, Yba.ntmps10
    go_wp2_with (go_at_call 20; go_must (refine Calls.mono HU.out ?_); rintro e w1 ⟨v', rfl, ho, hb⟩)
    go_ret
    exact ⟨v', rfl, ho, hb⟩

theorem own_form {w : World} {base : Nat} {e : TypeId} {size : Nat} {v : Value} {n : Nat} {xs : List Value} (h : w.ownsRow base e size v n xs) : ∃ a cap, v = .slice a n cap := by
  rcases h.2 with ⟨rfl, rfl⟩ | ⟨g, cap, cur, rfl, _⟩
  · exact ⟨_, _, rfl⟩
  · exact ⟨_, _, rfl⟩

theorem varint_any (B n : Nat) (x : Int) (h0 : -9223372036854775808 ≤ x) (h1 : x ≤ 9223372036854775807) (sv : Value) (xs : List Value) (w : World) (hown : w.ownsRow B 5 1 sv n xs) (hBw : B ≤ w.heap.size) (hlim : n + 10 ≤ 140737488355328) :
    Calls Yba.prog 10 #[sv, .int .i64 x] w fun e w' => ∃ a' m' c', e = .returned (.slice a' m' c') ∧ m' = n + (Lib.uvarint (Lib.zigzag x)).length ∧ w'.ownsRow B 5 1 (.slice a' m' c') (n + (Lib.uvarint (Lib.zigzag x)).length) (xs ++ Lib.byteCells (Lib.uvarint (Lib.zigzag x))) ∧ Fr w sv w' (.slice a' m' c') := by
  refine (varint_any0 B n x h0 h1 sv xs w hown hBw hlim).mono ?_
  rintro e w' ⟨v', rfl, ho, hf⟩
  obtain ⟨a, c, rfl⟩ := own_form ho
  exact ⟨a, _, c, rfl, rfl, ho, hf⟩

end Go.Proofs.Ybulkbhkg
