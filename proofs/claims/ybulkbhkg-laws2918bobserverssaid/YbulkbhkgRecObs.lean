/-
  DERIVED. Seat b2918a: (*FakeClock).recordTicks with observers.
-/
import Derived.Test.YbulkbhkgObs
namespace Go.Proofs.Ybulkbhkg
open Go.RowKit
set_option linter.unusedVariables false

theorem own_keepT {w w' : World} {base : Nat} {e : TypeId} {size : Nat} {v : Value} {n : Nat} {xs : List Value} (h : w.ownsRow base e size v n xs) (hk : ∀ (k : Nat) (c : Array Value), w.heap[k]? = some (.cells c e (0, 0)) → w'.heap[k]? = w.heap[k]?) : w'.ownsRow base e size v n xs := by
  refine ⟨h.1, ?_⟩
  rcases h.2 with hn | ⟨g, cap, cur, rfl, hb, hgg, rest⟩
  · exact .inl hn
  · exact .inr ⟨g, cap, cur, rfl, hb, (hk g cur hgg).trans hgg, rest⟩

theorem ne_of_types {w : World} {k k' : Nat} {c c' : Array Value} {T T' : TypeId} {f f' : Nat × Nat} (h : w.heap[k]? = some (.cells c T f)) (h' : w.heap[k']? = some (.cells c' T' f')) (hT : T ≠ T') : k ≠ k' := by
  rintro rfl
  rw [h] at h'
  injection h' with h'
  injection h' with _ h2 _
  exact hT h2

/-- What the rounds over the ticks find. -/
structure Rn (m lb ab g : Nat) (S T p : Int) (buf far ov : Value) (fbs : List Nat) (w2 : World) (cnt r : Nat) (logv : Value) (a b : Int) (wr : World) : Prop where
  log : Box wr lb 31 logv
  own : wr.ownsRow w2.heap.size 37 10 logv cnt (logL m T p cnt)
  tick : Tb wr ab a b
  ea : a = (T + r * p) % 1000000000
  eb : b = (T + r * p) / 1000000000
  g : G w2 lb ab logv wr

/-- What stands when the loops begin. -/
structure St (m lb ab g : Nat) (S T : Int) (buf far ov : Value) (fbs : List Nat) (w2 : World) : Prop where
  clk : Clk w2 g (.chan none) S T buf far ov
  row : w2.ownsRow (g + 1) 62 1 ov m (ptrs fbs)
  obs : Obsv w2 lb fbs
  log : ∃ v, Box w2 lb 31 v
  tick : ∃ a b, Tb w2 ab a b

section
variable {m lb ab g : Nat} {S T p : Int} {buf far ov : Value} {fbs : List Nat} {w2 : World} {cnt r : Nat} {logv : Value} {a b : Int} {wr : World}

theorem St.typed (h : St m lb ab g S T buf far ov fbs w2) (hr : G w2 lb ab logv wr) {k : Nat} {c : Array Value} {t : TypeId} {f : Nat × Nat} (hk : w2.heap[k]? = some (.cells c t f)) (h1 : t ≠ 31) (h2 : t ≠ 27) : wr.heap[k]? = w2.heap[k]? := by
  obtain ⟨v, hv⟩ := h.log
  obtain ⟨a, b, ht⟩ := h.tick
  exact hr.block k (Array.getElem?_eq_some_iff.1 hk).1 (ne_of_types hk hv h1) (ne_of_types hk ht h2)

theorem St.clk' (h : St m lb ab g S T buf far ov fbs w2) (hr : G w2 lb ab logv wr) : Clk wr g (.chan none) S T buf far ov := by
  obtain ⟨c, hc⟩ := h.clk.block
  exact h.clk.keep (h.typed hr hc (by decide) (by decide))

theorem St.row' (h : St m lb ab g S T buf far ov fbs w2) (hr : G w2 lb ab logv wr) : wr.ownsRow (g + 1) 62 1 ov m (ptrs fbs) :=
  own_keepT h.row fun k c hk => h.typed hr hk (by decide) (by decide)

theorem St.obs' (h : St m lb ab g S T buf far ov fbs w2) (hr : G w2 lb ab logv wr) : Obsv wr lb fbs :=
  h.obs.keep fun k c t hk ht => h.typed hr hk (by rcases ht with rfl | rfl <;> decide) (by rcases ht with rfl | rfl <;> decide)
end

theorem add_at (b k : Nat) : (⟨b, 0, none⟩ : Addr).add k = ⟨b, k, none⟩ := by unfold Addr.add; split <;> simp_all

/-- One observer's call at one tick. -/
theorem Rn.call {m lb ab g : Nat} {S T p : Int} {buf far ov : Value} {fbs : List Nat} {w2 : World} {r i : Nat} {logv : Value} {a b : Int} {wr W : World} (hS : St m lb ab g S T buf far ov fbs w2) (hR : Rn m lb ab g S T p buf far ov fbs w2 (r * m + i) r logv a b wr) (hi : i < m) {ib : Nat} (hib : Box wr ib 3 (.int .i64 (i : Int))) (hcnt : r * m + i ≤ 100000) (hW : Below wr.heap.size wr W) :
    Calls Yba.prog 7 #[.agg #[.int .u8 4, .int .u8 4, .int .i64 0, .int .u64 a, .int .i64 b, .pointer none, .int .u64 a, .int .i64 b, .pointer none], .pointer (some ⟨lb, 0, none⟩), .pointer (some ⟨ib, 0, none⟩)] W fun e w' =>
      ∃ logv', e = .returned (.tuple #[]) ∧ Rn m lb ab g S T p buf far ov fbs w2 (r * m + (i + 1)) r logv' a b w' ∧ FrC lb wr logv w' logv' := by
  have hs := hR.g.size
  refine (cb_any lb ib (r * m + i) w2.heap.size logv (logL m T p (r * m + i)) i a b W ((hW.block lb hR.log.lt).trans hR.log) ((hW.block ib hib.lt).trans hib) (below_own hW hR.own) (Nat.le_trans hs hW.size) hcnt).mono ?_
  rintro e w' ⟨a', c', rfl, hb, ho, hF⟩
  have hF' : FrC lb wr logv w' (.slice a' (r * m + i + 1) c') := (below_frc hW _).trans hF
  refine ⟨_, rfl, ⟨hb, ?_, ?_, hR.ea, hR.eb, hR.g.frc hF'⟩, hF'⟩
  · have e1 := logL_succ m T p r i hi
    rw [← hR.ea, ← hR.eb] at e1
    rw [← Nat.add_assoc, e1]
    exact ho
  · exact (hF'.typed hR.log hR.own hR.tick (by decide) (by decide)).trans hR.tick

theorem Rn.tickSet {m lb ab g : Nat} {S T p : Int} {buf far ov : Value} {fbs : List Nat} {w2 : World} {cnt r : Nat} {logv : Value} {a b a6 b6 : Int} {wr w6 : World} (hR : Rn m lb ab g S T p buf far ov fbs w2 cnt r logv a b wr) (hW : Below wr.heap.size wr w6)
    (ha : a6 = (T + r * p + p) % 1000000000) (hb : b6 = (T + r * p + p) / 1000000000) :
    Rn m lb ab g S T p buf far ov fbs w2 cnt (r + 1) logv a6 b6 (((w6.setCell ⟨ab, 0, none⟩ (.int .u64 a6)).setCell ⟨ab, 1, none⟩ (.int .i64 b6)).setCell ⟨ab, 2, none⟩ (.pointer none)) := by
  have hl6 : Box w6 lb 31 logv := (hW.block lb hR.log.lt).trans hR.log
  have ht6 : Tb w6 ab a b := (hW.block ab (Array.getElem?_eq_some_iff.1 hR.tick).1).trans hR.tick
  have hne : lb ≠ ab := ne_of_types hl6 ht6 (by decide)
  have ho6 := below_own hW hR.own
  have hno := own_type ho6 ht6 (by decide)
  have eT : T + r * p + p = T + ((r + 1 : Nat) : Int) * p := by
    rw [Int.natCast_add, Int.add_mul]; omega
  refine ⟨?_, own_setX (own_setX (own_setX ho6 _ _ hno _) _ _ hno _) _ _ hno _, ?_, by rw [ha, eT], by rw [hb, eT], (((hR.g.below hW).set _ _).set _ _).set _ _⟩
  · show _ = _
    rw [Below.heap_setCell _ _ _ _ hne, Below.heap_setCell _ _ _ _ hne, Below.heap_setCell _ _ _ _ hne]; exact hl6
  · unfold Tb
    rw [Joins.block_setCell (Joins.block_setCell (Joins.block_setCell ht6 _) _)]; simp

set_option maxHeartbeats 4000000 in
set_option maxRecDepth 100000 in
theorem recordTicks_obs (m lb g nn : Nat) (S A T p : Int) (ov : Value) (fbs : List Nat) (w : World) (hm : 0 < m) (hm3 : m ≤ 3) (hfl : fbs.length = m) (hnn : nn ≤ 300)
    (hA0 : -20000000000000000000 ≤ A) (hA1 : A ≤ 20000000000000000000) (hd0 : -2000000000000 ≤ T - A) (hd1 : T - A ≤ 2000000000000) (hp0 : -1099511627776 ≤ p) (hp1 : p ≤ 1099511627776)
    (hclk : Clk w g (.chan none) S A (.slice none 0 0) (.slice none 0 0) ov) (hrow : w.ownsRow (g + 1) 62 1 ov m (ptrs fbs)) (hobs : Obsv w lb fbs) (hlog : Box w lb 31 (.slice none 0 0)) :
    Calls Yba.prog 8 #[.pointer (some ⟨g, 0, none⟩), tm T, .int .i64 nn, .int .i64 p] w fun e w' => ∃ logv buf', e = .returned (.tuple #[]) ∧ Box w' lb 31 logv ∧ w'.ownsRow w.heap.size 37 10 logv (nn * m) (logL m T p (nn * m)) ∧ Clk w' g (.chan none) S T buf' (.slice none 0 0) ov ∧
      w'.os = w.os ∧ w'.tape = w.tape ∧ w'.output = w.output ∧ w.heap.size ≤ w'.heap.size ∧ ∀ k, k < w.heap.size → k ≠ g → k ≠ lb → w'.heap[k]? = w.heap[k]? := by
  have hg := hclk.lt
  have hk0 : w.heap.size ≠ g := by omega
  have hcall : ∀ W : World, Below w.heap.size w W → Calls Yba.prog 16 #[.pointer (some ⟨g, 16, none⟩), tm T, .int .i64 nn, .int .i64 p] W fun e w' => ∃ a' m' c', e = .returned (.tuple #[]) ∧ Clk w' g (.chan none) S T (.slice a' m' c') (.slice none 0 0) ov ∧ FrC g W (.slice none 0 0) w' (.slice a' m' c') := fun W hW => by
    refine (addTicks_any g 0 _ S A T nn p (.slice none 0 0) (.slice none 0 0) ov [] W (by omega) (by omega) (by omega) (by omega) (by omega) (by omega) (by omega) (by omega) (by omega) (by omega) (hclk.keep (hW.block g hg)) (World.ownsRow_nil _ _ _ _) (by omega)).mono ?_
    rintro e w' ⟨a', m', c', rfl, hC, -, hF⟩
    exact ⟨a', m', c', rfl, hC, hF⟩
  have Hcall : Hid (_) := hcall
  have HC : Hid (Clk w g (.chan none) S A (.slice none 0 0) (.slice none 0 0) ov) := hclk
  have HR : Hid (w.ownsRow (g + 1) 62 1 ov m (ptrs fbs)) := hrow
  have HB : Hid (Obsv w lb fbs) := hobs
  have HL : Hid (Box w lb 31 (.slice none 0 0)) := hlog
  obtain ⟨ob, oc, hov, _, _⟩ := hrow.form hm
  subst hov
  clear hcall hclk hrow hobs hlog
  unfold tm at Hcall ⊢
  obtain ⟨a, ha⟩ : ∃ a, T % 1000000000 = a := ⟨_, rfl⟩
  obtain ⟨b, hb⟩ : ∃ b, T / 1000000000 = b := ⟨_, rfl⟩
  rw [ha, hb] at Hcall ⊢
  have Ha : Hid (T % 1000000000 = a) := ha
  have Hb : Hid (T / 1000000000 = b) := hb
  clear ha hb
  have hmi : (0 : Int) < (m : Int) := by omega
  go_enter Yba.func8, Yba.ntmps8
  go_wp2_with fail
  go_region_held3 (fun w' => w'.cell? ⟨w.heap.size, 0, none⟩ = some (.int .u64 a) ∧ w'.cell? ⟨w.heap.size, 1, none⟩ = some (.int .i64 b) ∧ w'.cell? ⟨w.heap.size, 2, none⟩ = some (.pointer none)) (first | go_keep | (refine ⟨?_, ?_, ?_⟩ <;> (rw [cell_of_row _ _ _ _ _ _ (hF1.far (k := w.heap.size) (by simp) hk0 (by simp [Value.ownBlock]) (new_at w _ _ rfl))]; rfl)))
    ((go_at_call 16; refine Calls.mono (Hcall.out _ (((Below.refl _ _).alloc (Nat.le_refl _) _).drew)) ?_; rintro e w1 ⟨a1, m1, c1, rfl, hC1, hF1⟩))
  have hB1 : Tb w1 w.heap.size a b := hF1.far (k := w.heap.size) (by simp) hk0 (by simp [Value.ownBlock]) (new_at w _ _ rfl)
  have HF1 : Hid (FrC g w (.slice none 0 0) w1 (.slice a1 m1 c1)) := ((FrC.refl g w _).alloc _).drew.trans hF1
  obtain ⟨f0, f1, f2⟩ := hB1.cells
  have c24 := hC1.c24
  have HC1 : Hid (Clk w1 g (.chan none) S T (.slice a1 m1 c1) (.slice none 0 0) (.slice (some ⟨ob, 0, none⟩) m oc)) := hC1
  clear hC1 hF1 hB1 Hcall
  go_wp2_with fail
  obtain ⟨w2, hw2⟩ : ∃ w2, w2 = w1.alloc (.cells #[.int .u64 a, .int .i64 b, .pointer none] 27) := ⟨_, rfl⟩
  obtain ⟨ab, hab⟩ : ∃ ab, w1.heap.size = ab := ⟨_, rfl⟩
  rw [← hw2, hab]
  have hsz : w2.heap.size = ab + 1 := by rw [hw2, ← hab]; simp
  have hk2 : ∀ (k : Nat) (c : Array Value) (t : TypeId), w.heap[k]? = some (.cells c t (0, 0)) → t ≠ 61 → w2.heap[k]? = w.heap[k]? := by
    intro k c t hk ht
    obtain ⟨cg, hcg⟩ := HC.out.block
    have hlt : k < w.heap.size := (Array.getElem?_eq_some_iff.1 hk).1
    have h1 := HF1.out.block k hlt (ne_of_types hk hcg ht) (by simp [Value.ownBlock])
    rw [hw2, Below.heap_alloc _ _ _ (Nat.lt_of_lt_of_le hlt HF1.out.size), h1]
  have hst : St m lb ab g S T (.slice a1 m1 c1) (.slice none 0 0) (.slice (some ⟨ob, 0, none⟩) m oc) fbs w2 := by
    refine ⟨?_, own_keepT HR.out fun k c hk => hk2 k c _ hk (by decide), HB.out.keep fun k c t hk ht => hk2 k c t hk (by rcases ht with rfl | rfl <;> decide), ⟨_, (hk2 lb _ _ HL.out (by decide)).trans HL.out⟩, ⟨a, b, ?_⟩⟩
    · rw [hw2]; exact HC1.out.keep (Below.heap_alloc _ _ _ HC1.out.lt)
    · rw [hw2]; exact new_at w1 _ _ hab
  have HS : Hid (St m lb ab g S T (.slice a1 m1 c1) (.slice none 0 0) (.slice (some ⟨ob, 0, none⟩) m oc) fbs w2) := hst
  have hR0 : ∃ logv a b, Rn m lb ab g S T p (.slice a1 m1 c1) (.slice none 0 0) (.slice (some ⟨ob, 0, none⟩) m oc) fbs w2 0 0 logv a b w2 := by
    refine ⟨.slice none 0 0, a, b, (hk2 lb _ _ HL.out (by decide)).trans HL.out, by rw [logL_zero]; exact World.ownsRow_nil _ _ _ _, ?_, ?_, ?_, ⟨rfl, rfl, rfl, Nat.le_refl _, fun _ _ _ _ => rfl, .inl rfl⟩⟩
    · rw [hw2]; exact new_at w1 _ _ hab
    · rw [← Ha.out]; congr 1; omega
    · rw [← Hb.out]; congr 1; omega
  have HF2 : Hid (FrC g w (.slice none 0 0) w2 (.slice a1 m1 c1)) := by rw [hw2]; exact HF1.out.alloc _
  have habw : w.heap.size ≤ ab := by rw [← hab]; exact HF1.out.size
  clear hw2 hab hk2 hst HC1 HF1 HC HR HB HL f0 f1 f2 c24 Ha Hb
  have hnn' : (nn : Int) ≤ 300 := by omega
  go_loopw [26] (fun c wr => ∃ (r : Nat) (logv : Value) (a b : Int), r ≤ nn ∧ c = .int .i64 r ∧ Rn m lb ab g S T p (.slice a1 m1 c1) (.slice none 0 0) (.slice (some ⟨ob, 0, none⟩) m oc) fbs w2 (r * m) r logv a b wr) (fun c _ => nn - (intOf c).toNat)
  case atStart =>
    obtain ⟨logv, a, b, h⟩ := hR0
    exact ⟨0, logv, a, b, Nat.zero_le _, rfl, by rw [Nat.zero_mul]; exact h⟩
  case round =>
    obtain ⟨r, logv, a', b', hr, rfl, hR⟩ := hrel
    by_cases hlt : r < nn
    · have hlt' : (r : Int) < (nn : Int) := by omega
      have c24 := (HS.out.clk' hR.g).c24
      have HR : Hid (Rn m lb ab g S T p (.slice a1 m1 c1) (.slice none 0 0) (.slice (some ⟨ob, 0, none⟩) m oc) fbs w2 (r * m) r logv a' b' wr) := hR
      clear hR hR0
      go_wp2_with fail
      go_loopw [33] (fun c ws => ∃ (i : Nat) (logv : Value), i ≤ m ∧ c = .int .i64 i ∧ Rn m lb ab g S T p (.slice a1 m1 c1) (.slice none 0 0) (.slice (some ⟨ob, 0, none⟩) m oc) fbs w2 (r * m + i) r logv a' b' ws) (fun c _ => m - (intOf c).toNat)
      case atStart => exact ⟨0, logv, Nat.zero_le _, rfl, HR.out⟩
      case round =>
        obtain ⟨i, logv1, hi, rfl, hR1⟩ := hrel
        clear c24 HR
        by_cases hil : i < m
        · have hil' : (i : Int) < (m : Int) := by omega
          have hi0 : (0 : Int) ≤ (i : Int) := by omega
          obtain ⟨fb, hfb⟩ : ∃ fb, fbs[i]? = some fb := ⟨_, List.getElem?_eq_getElem (by omega)⟩
          obtain ⟨ib, hB1, hB2⟩ := HS.out.obs' hR1.g i fb hfb
          have hoc : wr.cell? ⟨ob, i, none⟩ = some (.pointer (some ⟨fb, 0, none⟩)) := by
            rw [← add_at]
            exact (HS.out.row' hR1.g).cells rfl i _ (by unfold ptrs; rw [List.getElem?_map, hfb]; rfl)
          have hcb := hB1.cell
          obtain ⟨t0, t1, t2⟩ := hR1.tick.cells
          have hcnt : r * m + i ≤ 100000 := by
            have : r * m ≤ 300 * 3 := Nat.mul_le_mul (by omega) hm3
            omega
          have Hcb : Hid (∀ W : World, Below wr.heap.size wr W → _) := fun W hW => Rn.call HS.out hR1 hil hB2 hcnt hW
          have HR1 : Hid (Rn m lb ab g S T p (.slice a1 m1 c1) (.slice none 0 0) (.slice (some ⟨ob, 0, none⟩) m oc) fbs w2 (r * m + i) r logv1 a' b' wr) := hR1
          have HB1 : Hid (Box wr fb 38 (clo lb ib)) := hB1
          unfold clo at hcb
          clear hR1 hB1 hB2 hfb
          go_wp2_with fail
          go_region_held3 (fun w' => w'.cell? ⟨fb, 0, none⟩ = some (.func (.func 7) #[] #[.pointer (some ⟨lb, 0, none⟩), .pointer (some ⟨ib, 0, none⟩)]) ∧ w'.cell? ⟨ab, 0, none⟩ = some (.int .u64 a') ∧ w'.cell? ⟨ab, 1, none⟩ = some (.int .i64 b') ∧ w'.cell? ⟨ab, 2, none⟩ = some (.pointer none))
            (first | go_keep | exact ⟨Box.cell ((hF5.typed HR1.out.log HR1.out.own HB1.out (by decide) (by decide)).trans HB1.out), Tb.cells hR5.tick⟩ | exact ⟨Box.cell (((below_undrew hB4).block fb HB1.out.lt).trans HB1.out), Tb.cells (((below_undrew hB4).block ab (Array.getElem?_eq_some_iff.1 HR1.out.tick).1).trans HR1.out.tick)⟩)
            (first | (go_at_call 17; refine (tickEvent_raw a' b' _).mono ?_; rintro e w4 ⟨rfl, hB4⟩) | (go_at_call 7; refine Calls.mono (Hcb.out _ (below_undrew hB4)) ?_; rintro e w5 ⟨logv5, rfl, hR5, hF5⟩))
          have HR5 : Hid (Rn m lb ab g S T p (.slice a1 m1 c1) (.slice none 0 0) (.slice (some ⟨ob, 0, none⟩) m oc) fbs w2 (r * m + (i + 1)) r logv5 a' b' w5) := hR5
          clear hR5 hF5 hB4 Hcb HR1 HB1 hcb hoc t0 t1 t2
          go_wp2
          go_roundw
          case rel => exact ⟨i + 1, logv5, by omega, by go_num, HR5.out⟩
          case measure => simp [intOf]; omega
        · have hil' : ¬ (i : Int) < (m : Int) := by omega
          have him : i = m := by omega
          obtain ⟨t0, t1, t2⟩ := hR1.tick.cells
          have tz : ∀ j, wr.frozen? ⟨ab, j, none⟩ = false := fun j => frozen_of_row wr ab j _ 27 hR1.tick
          have HR1 : Hid (Rn m lb ab g S T p (.slice a1 m1 c1) (.slice none 0 0) (.slice (some ⟨ob, 0, none⟩) m oc) fbs w2 ((r + 1) * m) r logv1 a' b' wr) := by
            rw [Nat.succ_mul, ← him]; rw [him] at hR1 ⊢; exact hR1
          have Hadd : Hid (_) := add_ab a' b' (T + r * p) p hR1.ea hR1.eb wr (by
            have h1 : (r : Int) * p ≤ 300 * 1099511627776 := by
              have := Int.mul_le_mul_of_nonneg_left hp1 (show (0 : Int) ≤ r by omega)
              have h2 : (r : Int) * 1099511627776 ≤ 300 * 1099511627776 := by omega
              omega
            have h3 : -(300 * 1099511627776) ≤ (r : Int) * p := by
              have := Int.mul_le_mul_of_nonneg_left hp0 (show (0 : Int) ≤ r by omega)
              have h2 : -(300 * 1099511627776) ≤ (r : Int) * -1099511627776 := by omega
              omega
            omega) (by
            have h1 : (r : Int) * p ≤ 300 * 1099511627776 := by
              have := Int.mul_le_mul_of_nonneg_left hp1 (show (0 : Int) ≤ r by omega)
              have h2 : (r : Int) * 1099511627776 ≤ 300 * 1099511627776 := by omega
              omega
            omega) (by omega) (by omega)
          clear hR1 him
          go_wp2_with fail
          refine Calls.mono Hadd.out ?_
          rintro e w6 ⟨a6, b6, rfl, ha6, hb6, hB6⟩
          have ht6 : Tb w6 ab a' b' := (hB6.block ab (Array.getElem?_eq_some_iff.1 HR1.out.tick).1).trans HR1.out.tick
          obtain ⟨t0, t1, t2⟩ := ht6.cells
          have tz : ∀ j, w6.frozen? ⟨ab, j, none⟩ = false := fun j => frozen_of_row w6 ab j _ 27 ht6
          have HR6 : Hid (_) := HR1.out.tickSet hB6 ha6.out hb6.out
          clear ht6 hB6 HR1 Hadd
          go_wp2
          go_roundw
          case rel => exact ⟨r + 1, logv1, a6, b6, by omega, by go_num, HR6.out⟩
          case measure => simp [intOf]; omega
    · have hlt' : ¬ (r : Int) < (nn : Int) := by omega
      have hrn : r = nn := by omega
      subst hrn
      have hC := HS.out.clk' hR.g
      have c3 := hC.c3
      have HC : Hid (Clk wr g (.chan none) S T (.slice a1 m1 c1) (.slice none 0 0) (.slice (some ⟨ob, 0, none⟩) m oc)) := hC
      have HR : Hid (Rn m lb ab g S T p (.slice a1 m1 c1) (.slice none 0 0) (.slice (some ⟨ob, 0, none⟩) m oc) fbs w2 (r * m) r logv a' b' wr) := hR
      clear hC hR hR0
      go_wp2_with (go_at_call 18; refine (changed_nil g _ c3).mono ?_; rintro e w' ⟨rfl, rfl⟩)
      go_end0
      have hsz2 := HF2.out.size
      refine ⟨logv, _, rfl, HR.out.log, ?_, HC.out, HR.out.g.os.trans HF2.out.os, HR.out.g.tape.trans HF2.out.tape, HR.out.g.output.trans HF2.out.output, Nat.le_trans hsz2 HR.out.g.size, fun k hk h1 h2 => ?_⟩
      · have ho := HR.out.own
        refine ⟨ho.1, ?_⟩
        rcases ho.2 with hn | ⟨gg, cap, cur, hv, hb, rest⟩
        · exact .inl hn
        · exact .inr ⟨gg, cap, cur, hv, Nat.le_trans hsz2 hb, rest⟩
      · exact (HR.out.g.block k (by omega) h2 (by omega)).trans (HF2.out.block k hk h1 (by simp [Value.ownBlock]))

set_option maxHeartbeats 1000000 in
theorem recordTicks_zero (lb g nn : Nat) (S A T p : Int) (w : World) (hnn : nn ≤ 300)
    (hA0 : -20000000000000000000 ≤ A) (hA1 : A ≤ 20000000000000000000) (hd0 : -2000000000000 ≤ T - A) (hd1 : T - A ≤ 2000000000000) (hp0 : -1099511627776 ≤ p) (hp1 : p ≤ 1099511627776)
    (hclk : Clk w g (.chan none) S A (.slice none 0 0) (.slice none 0 0) (.slice none 0 0)) (hlog : Box w lb 31 (.slice none 0 0)) :
    Calls Yba.prog 8 #[.pointer (some ⟨g, 0, none⟩), tm T, .int .i64 nn, .int .i64 p] w fun e w' => ∃ logv buf', e = .returned (.tuple #[]) ∧ Box w' lb 31 logv ∧ w'.ownsRow w.heap.size 37 10 logv (nn * 0) (logL 0 T p (nn * 0)) ∧ Clk w' g (.chan none) S T buf' (.slice none 0 0) (.slice none 0 0) ∧
      w'.os = w.os ∧ w'.tape = w.tape ∧ w'.output = w.output ∧ w.heap.size ≤ w'.heap.size ∧ ∀ k, k < w.heap.size → k ≠ g → k ≠ lb → w'.heap[k]? = w.heap[k]? := by
  have hg := hclk.lt
  have hk0 : w.heap.size ≠ g := by omega
  obtain ⟨cg, hcg⟩ := hclk.block
  have hlg : lb ≠ g := ne_of_types hlog hcg (by decide)
  have hll := hlog.lt
  have hcall : ∀ W : World, Below w.heap.size w W → Calls Yba.prog 16 #[.pointer (some ⟨g, 16, none⟩), tm T, .int .i64 nn, .int .i64 p] W fun e w' => ∃ a' m' c', e = .returned (.tuple #[]) ∧ Clk w' g (.chan none) S T (.slice a' m' c') (.slice none 0 0) (.slice none 0 0) ∧ FrC g W (.slice none 0 0) w' (.slice a' m' c') := fun W hW => by
    refine (addTicks_any g 0 _ S A T nn p (.slice none 0 0) (.slice none 0 0) (.slice none 0 0) [] W (by omega) (by omega) (by omega) (by omega) (by omega) (by omega) (by omega) (by omega) (by omega) (by omega) (hclk.keep (hW.block g hg)) (World.ownsRow_nil _ _ _ _) (by omega)).mono ?_
    rintro e w' ⟨a', m', c', rfl, hC, -, hF⟩
    exact ⟨a', m', c', rfl, hC, hF⟩
  have Hcall : Hid (_) := hcall
  have HL : Hid (Box w lb 31 (.slice none 0 0)) := hlog
  clear hcall hclk hlog hcg
  unfold tm at Hcall ⊢
  obtain ⟨a, ha⟩ : ∃ a, T % 1000000000 = a := ⟨_, rfl⟩
  obtain ⟨b, hb⟩ : ∃ b, T / 1000000000 = b := ⟨_, rfl⟩
  rw [ha, hb] at Hcall ⊢
  clear ha hb
  go_enter Yba.func8, Yba.ntmps8
  go_wp2_with fail
  go_region_held3 (fun w' => w'.cell? ⟨w.heap.size, 0, none⟩ = some (.int .u64 a) ∧ w'.cell? ⟨w.heap.size, 1, none⟩ = some (.int .i64 b) ∧ w'.cell? ⟨w.heap.size, 2, none⟩ = some (.pointer none)) (first | go_keep | (refine ⟨?_, ?_, ?_⟩ <;> (rw [cell_of_row _ _ _ _ _ _ (hF1.far (k := w.heap.size) (by simp) hk0 (by simp [Value.ownBlock]) (new_at w _ _ rfl))]; rfl)))
    ((go_at_call 16; refine Calls.mono (Hcall.out _ (((Below.refl _ _).alloc (Nat.le_refl _) _).drew)) ?_; rintro e w1 ⟨a1, m1, c1, rfl, hC1, hF1⟩))
  have HF1 : Hid (FrC g w (.slice none 0 0) w1 (.slice a1 m1 c1)) := ((FrC.refl g w _).alloc _).drew.trans hF1
  have c24 := hC1.c24
  have c3 := hC1.c3
  have HC1 : Hid (Clk w1 g (.chan none) S T (.slice a1 m1 c1) (.slice none 0 0) (.slice none 0 0)) := hC1
  clear hC1 hF1 Hcall
  go_wp2_with (go_at_call 18; refine (changed_nil g _ c3).mono ?_; rintro e w' ⟨rfl, rfl⟩)
  go_end0
  refine ⟨.slice none 0 0, _, rfl, HF1.out.far hll hlg (by simp [Value.ownBlock]) HL.out, by rw [Nat.mul_zero]; exact World.ownsRow_nil _ _ _ _, HC1.out, HF1.out.os, HF1.out.tape, HF1.out.output, HF1.out.size, fun k hk h1 _ => HF1.out.block k hk h1 (by simp [Value.ownBlock])⟩

/-- recordTicks at a clock with m observers whose log is empty. -/
theorem recordTicks_any (m lb g nn : Nat) (S A T p : Int) (ov : Value) (fbs : List Nat) (w : World) (hm0 : m = 0 → ov = .slice none 0 0) (hm3 : m ≤ 3) (hfl : fbs.length = m) (hnn : nn ≤ 300)
    (hA0 : -20000000000000000000 ≤ A) (hA1 : A ≤ 20000000000000000000) (hd0 : -2000000000000 ≤ T - A) (hd1 : T - A ≤ 2000000000000) (hp0 : -1099511627776 ≤ p) (hp1 : p ≤ 1099511627776)
    (hclk : Clk w g (.chan none) S A (.slice none 0 0) (.slice none 0 0) ov) (hrow : w.ownsRow (g + 1) 62 1 ov m (ptrs fbs)) (hobs : Obsv w lb fbs) (hlog : Box w lb 31 (.slice none 0 0)) :
    Calls Yba.prog 8 #[.pointer (some ⟨g, 0, none⟩), tm T, .int .i64 nn, .int .i64 p] w fun e w' => ∃ logv buf', e = .returned (.tuple #[]) ∧ Box w' lb 31 logv ∧ w'.ownsRow w.heap.size 37 10 logv (nn * m) (logL m T p (nn * m)) ∧ Clk w' g (.chan none) S T buf' (.slice none 0 0) ov ∧
      w'.os = w.os ∧ w'.tape = w.tape ∧ w'.output = w.output ∧ w.heap.size ≤ w'.heap.size ∧ ∀ k, k < w.heap.size → k ≠ g → k ≠ lb → w'.heap[k]? = w.heap[k]? := by
  by_cases h : m = 0
  · have hv := hm0 h
    subst h; subst hv
    exact recordTicks_zero lb g nn S A T p w hnn hA0 hA1 hd0 hd1 hp0 hp1 hclk hlog
  · exact recordTicks_obs m lb g nn S A T p ov fbs w (by omega) hm3 hfl hnn hA0 hA1 hd0 hd1 hp0 hp1 hclk hrow hobs hlog

end Go.Proofs.Ybulkbhkg
