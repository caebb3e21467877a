/-
  DERIVED. Seat b2918a: LawS2918BHistory walked.
-/
import Derived.Test.YbulkbhkgNew
import Derived.Deep.QuietTactic
import Derived.BigQuiet
import Derived.WalkSmall
namespace Go.Proofs.Ybulkbhkg
open Go.RowKit
set_option linter.unusedVariables false

/-- (time.Time).Add, its two numbers as letters. -/
theorem add_ab (a b T d : Int) (ha : a = T % 1000000000) (hb : b = T / 1000000000) (w : World) (hT0 : -80000000000000000000 ≤ T) (hT1 : T ≤ 80000000000000000000) (hd0 : -9223372036854775808 ≤ d) (hd1 : d ≤ 9223372036854775807) :
    Calls Yba.prog 5 #[.agg #[.int .u64 a, .int .i64 b, .pointer none], .int .i64 d] w fun e w' => ∃ a' b', e = .returned (.agg #[.int .u64 a', .int .i64 b', .pointer none]) ∧ Hid (a' = (T + d) % 1000000000) ∧ Hid (b' = (T + d) / 1000000000) ∧ Below w.heap.size w w' := by
  subst ha hb
  refine (add_any T d w hT0 hT1 hd0 hd1).mono ?_
  rintro e w' ⟨rfl, hB⟩
  exact ⟨_, _, rfl, rfl, rfl, hB⟩

theorem new_ab (a b T : Int) (ha : a = T % 1000000000) (hb : b = T / 1000000000) (w : World) :
    Calls Yba.prog 6 #[.agg #[.int .u64 a, .int .i64 b, .pointer none]] w fun e w' => ∃ g, e = .returned (.pointer (some ⟨g, 0, none⟩)) ∧ w.heap.size ≤ g ∧
      Clk w' g (.chan none) T T (.slice none 0 0) (.slice none 0 0) (.slice none 0 0) ∧ Below w.heap.size w w' := by
  subst ha hb
  refine (new_any T w).mono ?_
  rintro e w' ⟨rfl, hC, hB⟩
  exact ⟨_, rfl, by omega, hC, hB⟩

/-- A time in a block of its own. -/
def Tb (w : World) (k : Nat) (a b : Int) : Prop := w.heap[k]? = some (.cells #[.int .u64 a, .int .i64 b, .pointer none] 27 (0, 0))

theorem Tb.cells {w : World} {k : Nat} {a b : Int} (h : Tb w k a b) : w.cell? ⟨k, 0, none⟩ = some (.int .u64 a) ∧ w.cell? ⟨k, 1, none⟩ = some (.int .i64 b) ∧ w.cell? ⟨k, 2, none⟩ = some (.pointer none) := by
  refine ⟨?_, ?_, ?_⟩ <;> (rw [cell_of_row _ _ _ _ _ _ h]; rfl)

theorem own_len {w : World} {base : Nat} {e : TypeId} {size : Nat} {a : Option Addr} {m c n : Nat} {xs : List Value} (h : w.ownsRow base e size (.slice a m c) n xs) : m = n := by
  rcases h.2 with ⟨h1, rfl⟩ | ⟨g, cap, cur, h1, _⟩ <;> (injection h1)

theorem own_above {w : World} {base : Nat} {e : TypeId} {size : Nat} {v : Value} {n : Nat} {xs : List Value} (h : w.ownsRow base e size v n xs) {k : Nat} (hk : k < base) : v.ownBlock ≠ some k := by
  intro e
  have := (h.lt k e).1
  omega

/-- (time.Time).Equal at one and the same time, its world written out. -/
theorem equal_x (a b : Int) (w : World) (h0 : 0 ≤ a) (h1 : a < 1000000000) :
    Calls Yba.prog 9 #[.agg #[.int .u64 a, .int .i64 b, .pointer none], .agg #[.int .u64 a, .int .i64 b, .pointer none]] w fun e w' => e = .returned (.bool true) ∧ w' = (w.alloc (.cells #[.int .u64 a, .int .i64 b, .pointer none] 27)).alloc (.cells #[.int .u64 a, .int .i64 b, .pointer none] 27) := by
  have hs : bits .and .u64 a a = a := by
    rw [u64_and a a h0 (by omega) h0 (by omega), Nat.and_self]; omega
  have ht := and_top a h0 h1
  go_enter Yba.func9, Yba.ntmps9
  go_wp2_with (first | (go_at_call 19; go_must (refine (sec_any _ _ a b _ h0 h1 (by go_simp) (by go_simp)).mono ?_); rintro e w' ⟨rfl, rfl⟩) | (go_at_call 12; go_must (refine (nsec_any _ _ a _ h0 h1 (by go_simp)).mono ?_); rintro e w' ⟨rfl, rfl⟩))
  go_ret
  exact ⟨rfl, rfl⟩

/-- append of one byte onto a slice of the call's own. -/
theorem wpList_app1 {W : World} {ops : Array Oper} {rest : List Oper} {o : Oper} {a : Act} {Q : Exit → Act → World → Prop} (hgd : o.guard = none) (s x : Operand)
    (ho : o.op = .call { callee := .builtin .append, args := #[s, x], argTypes := #[56, 56] }) (B n : Nat) (c : Int) (v : Value) (xs : List Value) (hs : a.eval s = v) (hx : a.eval x = .slice (some ⟨W.heap.size, 0, none⟩) 1 1)
    (hown : W.ownsRow B 5 1 v n xs) (hB : B ≤ W.heap.size) (hn : n ≤ 100000)
    (h : ∀ a' c' w', w'.ownsRow B 5 1 (.slice a' (n + 1) c') (n + 1) (xs ++ [.int .u8 c]) → Fr W v w' (.slice a' (n + 1) c') → wpList Yba.prog ops Q rest (a.put o.dst (.slice a' (n + 1) c')) w') :
    wpList Yba.prog ops Q (o :: rest) a (W.alloc (.cells #[.int .u8 c] 5)) := by
  obtain ⟨i0, hi, hz0, hz1, hz2⟩ := info5
  refine wpList_append_lies _ hgd s x 56 ho B 5 i0 (.int .u8 0) 1 1 Yba.underlying56 hi hz0 hz1 hz2 rfl (by decide) v n xs hs (hown.alloc _) ⟨W.heap.size, 0, none⟩ 1 1 [.int .u8 c] hx rfl (World.news_of_block (cs := #[.int .u8 c]) (t := 5) (fr := (0, 0)) (heap_alloc_new W _)) (by simp [Value.oneCell']) (by omega) (by unfold maxLen; omega) (by omega) (by simp; omega) (W.heap.size + 1) (by simp) ?_
  intro gg cap w1 hown1 hgrow hat hlt
  refine h _ _ w1 hown1 (((Fr.refl W v).alloc _).trans ⟨hgrow, ?_⟩)
  rcases hat with e | e
  · left; rw [e]; rfl
  · right; exact ⟨gg, rfl, by subst e; simp⟩

theorem below_copy {w6 w7 w10 : World} {v7 v10 : Value} (hg : w6.grownBy w7 none) (ha : v7.ownBlock = none ∨ v7.ownBlock = some w6.heap.size) (hf : Fr w7 v7 w10 v10) : Below w6.heap.size w6 w10 := by
  refine ⟨hf.grown.os.trans hg.os, hf.grown.tape.trans hg.tape, hf.grown.output.trans hg.output, Nat.le_trans hg.size hf.grown.size, fun k hk => ?_⟩
  refine (hf.grown.block k (Nat.lt_of_lt_of_le hk hg.size) ?_).trans (hg.block k hk (by simp))
  rcases ha with e | e
  · rw [e]; intro h; cases h
  · rw [e]; intro h; injection h with h; omega

theorem hist_long (pv : Value) (a0 : Option Addr) (len0 cap0 : Nat) (base off n period : Int) (w : World) (hl : (1024 : Int) < len0) :
    Calls Yba.prog 4 #[.slice a0 len0 cap0, .int .i64 base, .int .i64 off, .int .i64 n, .int .i64 period] w fun e w' => e = .returned (.bool true) ∧ Below w.heap.size w w' := by
  go_enter Yba.func4, Yba.ntmps4
  go_wp2
  go_ret
  exact ⟨rfl, Below.refl _ _⟩

theorem makeChan_any (w : World) : (Instr.makeChan 50 (.int .i64 0)).run Yba.prog w = .ok (.chan (some w.heap.size)) (w.alloc (.chan 0 #[] false 0 0 false)) := by
  have h := Conc.run_makeChan (P := Yba.prog) (w := w) (t := 50) (e := 40) (dir := .both) (i := Yba.t40) Yba.underlying50 (by kernel_rfl) .i64 0 (by decide) (by decide)
  simpa using h

attribute [local go_sem] makeChan_any

set_option maxHeartbeats 4000000 in
set_option maxRecDepth 100000 in
theorem hist_a (a0 : Option Addr) (len0 cap0 : Nat) (xs : List Value) (base off o n period : Int) (w : World) (hl : (len0 : Int) ≤ 1024) (ho : off.tmod 1099511627776 = o) (ho0 : -1099511627776 < o) (ho1 : o < 1099511627776)
    (hb0 : -9223372036854775808 ≤ base) (hb1 : base ≤ 9223372036854775807) (hn0 : -9223372036854775808 ≤ n) (hn1 : n ≤ 9223372036854775807) (hp0 : -9223372036854775808 ≤ period) (hp1 : period ≤ 9223372036854775807)
    (hpre : Pre w (.slice a0 len0 cap0) len0 xs) (hxs : ∀ u ∈ xs, ∃ q, u = .int .u8 q) :
    Calls Yba.prog 4 #[.slice a0 len0 cap0, .int .i64 base, .int .i64 off, .int .i64 n, .int .i64 period] w fun e w' => e = .returned (.bool true) ∧ Below w.heap.size w w' := by
  have HP : Hid (Pre w (.slice a0 len0 cap0) len0 xs) := hpre
  have HX : Hid (∀ u ∈ xs, ∃ q, u = .int .u8 q) := hxs
  clear hpre hxs
  go_enter Yba.func4, Yba.ntmps4
  go_wp2_with fail
  refine (add_ab 0 0 0 base (by decide) (by decide) w (by omega) (by omega) hb0 hb1).mono ?_
  rintro e u1 ⟨sa, sb, rfl, hsa, hsb, hB1⟩
  go_wp2_with fail
  refine (add_ab sa sb (0 + base) o hsa.out hsb.out _ (by omega) (by omega) (by omega) (by omega)).mono ?_
  rintro e u2 ⟨fa, fb, rfl, hfa, hfb, hB2⟩
  have hT1 : Hid (Tb u2 u1.heap.size sa sb) := (hB2.block _ (by simp)).trans (heap_alloc_new u1 _)
  have hlt1 : u1.heap.size < u2.heap.size := by have := hB2.size; simp at this; omega
  have hBw2 : Below w.heap.size w u2 := (hB1.trans ((Below.refl _ _).alloc hB1.size _)).trans (hB2.mono (by have := hB1.size; simp; omega))
  clear hB2
  obtain ⟨c0, c1, c2⟩ := hT1.out.cells
  have hws := hBw2.size
  have hws1 := hB1.size
  go_wp2_with fail
  refine (new_ab sa sb (0 + base) hsa.out hsb.out _).mono ?_
  rintro e u3 ⟨g, rfl, hg, hC3, hB3⟩
  have hs2 : u2.heap.size + 1 ≤ u3.heap.size := by have := hB3.size; simpa using this
  have hg1 : u2.heap.size + 1 ≤ g := by simpa using hg
  have HT1 : Hid (Tb u3 u1.heap.size sa sb) := by
    refine (hB3.block _ (by simp; omega)).trans ?_
    rw [Below.heap_alloc _ _ _ hlt1]; exact hT1.out
  have HT2 : Hid (Tb u3 u2.heap.size fa fb) := (hB3.block _ (by simp)).trans (heap_alloc_new u2 _)
  have hBw3 : Hid (Below w.heap.size w u3) := (hBw2.alloc (by omega) _).trans (hB3.mono (by simp; omega))
  have HP3 : Hid (Pre u3 (.slice a0 len0 cap0) len0 xs) := HP.out.below hBw3.out
  have hg3 := hC3.lt
  have HC3 : Hid (Clk u3 g (.chan none) (0 + base) (0 + base) (.slice none 0 0) (.slice none 0 0) (.slice none 0 0)) := hC3
  have hkg : ¬ u2.heap.size = g := by omega
  have hkg1 : ¬ u1.heap.size = g := by omega
  clear hg hC3 hB3 hT1 c0 c1 c2 hBw2 hB1
  generalize u1.heap.size = k1 at *
  generalize u2.heap.size = k2 at *
  go_wp2_with (at_builtin; refine wpList_copy rfl _ _ rfl (g + 1) (.slice a0 len0 cap0) len0 xs rfl rfl HP3.out (by omega) (by omega) ?_; intro a4 c4 w4 hO4 hG4 hat4; have HC4 : Hid (Clk w4 g (.chan none) (0 + base) (0 + base) (.slice none 0 0) (.slice none 0 0) (.slice none 0 0)) := (HC3.out.keep (hG4.block g hg3 (by simp))); have c22 := HC4.out.c22; have hz := HC4.out.frozen; have c3 := HC4.out.c3; have HO4 : Hid (w4.ownsRow (g + 1) 5 1 (.slice a4 len0 c4) len0 xs) := hO4; have HG4 : Hid (u3.grownBy w4 none) := hG4; have HT24 : Hid (Tb w4 k2 fa fb) := ((hG4.block k2 (by omega) (by simp)).trans HT2.out); obtain ⟨f0, f1, f2⟩ := HT24.out.cells; have hw4 : u3.heap.size ≤ w4.heap.size := hG4.size; have hkl : k2 < w4.heap.size := (by omega); have hkl1 : ¬ k2 = w4.heap.size := (by omega); have hgl : g < w4.heap.size := (by omega); have hgl1 : ¬ g = w4.heap.size := (by omega); have HA4 : Hid ((Value.slice a4 len0 c4).ownBlock = none ∨ (Value.slice a4 len0 c4).ownBlock = some u3.heap.size) := hat4; clear hO4 hG4 hat4)
  obtain ⟨w5, hw5⟩ : ∃ w5, w5 = ((w4.setCell ⟨g, 22, none⟩ (.slice a4 len0 c4)).setCell ⟨g, 3, none⟩ (.chan (some w4.heap.size))).alloc (.chan 0 #[] false 0 0 false) := ⟨_, rfl⟩
  rw [← hw5]
  have hgk : ∀ k, k < w4.heap.size → k ≠ g → w5.heap[k]? = w4.heap[k]? := by
    intro k hk hne
    rw [hw5, Below.heap_alloc _ _ _ (by simpa using hk), Below.heap_setCell _ _ _ _ hne, Below.heap_setCell _ _ _ _ hne]
  have HC5 : Hid (Clk w5 g (.chan (some w4.heap.size)) (0 + base) (0 + base) (.slice a4 len0 c4) (.slice none 0 0) (.slice none 0 0)) := by
    rw [hw5]
    exact ((HC4.out.setBuf _).setWake _).keep (Below.heap_alloc _ _ _ (by simpa using hgl))
  have HO5 : Hid (w5.ownsRow (g + 1) 5 1 (.slice a4 len0 c4) len0 xs) := by
    rw [hw5]; exact (own_setG (own_setG HO4.out _ _) _ _).alloc _
  have HR5 : Hid (w5.heap[w4.heap.size]? = some (.chan 0 #[] false 0 0 false)) := by
    rw [hw5]; exact new_at _ _ _ (by simp)
  have HT15 : Hid (Tb w5 k1 sa sb) := (hgk k1 (by omega) hkg1).trans ((HG4.out.block k1 (by omega) (by simp)).trans HT1.out)
  have HT25 : Hid (Tb w5 k2 fa fb) := (hgk k2 hkl hkg).trans HT24.out
  have HB5 : Hid (Below w.heap.size w w5) := by
    refine ⟨?_, ?_, ?_, ?_, fun k hk => (hgk k (by omega) (by omega)).trans ((HG4.out.block k (by omega) (by simp)).trans (hBw3.out.block k hk))⟩
    · rw [hw5]; exact HG4.out.os.trans hBw3.out.os
    · rw [hw5]; exact HG4.out.tape.trans hBw3.out.tape
    · rw [hw5]; exact HG4.out.output.trans hBw3.out.output
    · have := hBw3.out.size; have h5 : w5.heap.size = w4.heap.size + 1 := by rw [hw5]; simp
      omega
  have hs5 : w4.heap.size < w5.heap.size := by rw [hw5]; simp
  clear hw5 hgk HC4 HO4 HG4 HT24 HA4 HT1 HT2 hBw3 HP3 HC3 f0 f1 f2 c22 c3 hz
  generalize hr : w4.heap.size = r at *
  have hcall := recordTicks_none g r len0 (0 + base) (0 + base) (0 + base + o) n period (.slice a4 len0 c4) (.slice none 0 0) xs w5 (by omega) (by omega) (by omega) (by omega) (by omega) (by omega) hn0 hn1 hp0 hp1 HC5.out HO5.out (by omega) HR5.out
  have eD : 0 + base + o - (0 + base) = o := by omega
  rw [tm_unfold, ← hfa.out, ← hfb.out, eD] at hcall
  clear eD
  refine Calls.mono hcall ?_
  clear hcall
  rintro e w6 ⟨a6, m6, c6, rfl, hC6, hO6, hF6⟩
  obtain rfl : m6 = len0 + (recBytes n period o).length := own_len hO6
  have hgw : w.heap.size ≤ g := by omega
  have hwr : w.heap.size ≤ r := by omega
  have HB6 : Hid (Below w.heap.size w w6) := by
    refine ⟨hF6.os.trans HB5.out.os, hF6.tape.trans HB5.out.tape, hF6.output.trans HB5.out.output, Nat.le_trans HB5.out.size hF6.size, fun k hk => ?_⟩
    exact (hF6.block k (by omega) (by omega) (by omega) (Ne.symm (own_above HO5.out (by omega)))).trans (HB5.out.block k hk)
  have HT16 : Hid (Tb w6 k1 sa sb) := (hF6.block k1 (by omega) hkg1 (by omega) (Ne.symm (own_above HO5.out (by omega)))).trans HT15.out
  have HT26 : Hid (Tb w6 k2 fa fb) := (hF6.block k2 (by omega) hkg (by omega) (Ne.symm (own_above HO5.out (by omega)))).trans HT25.out
  have hg6 : g < w6.heap.size := hC6.lt
  have hs6 : w5.heap.size ≤ w6.heap.size := hF6.size
  obtain ⟨L, hL⟩ : ∃ L, recBytes n period o = L := ⟨_, rfl⟩
  rw [hL] at hC6 hO6 hF6
  have HL : Hid (recBytes n period o = L) := hL
  have hLp : 0 < L.length := by rw [← hL]; unfold recBytes; split <;> simp
  obtain ⟨N, hN⟩ : ∃ N, len0 + L.length = N := ⟨_, rfl⟩
  have hNp : 0 < N := by omega
  have hNb : N ≤ 1100 := by
    have h1 := Lib.uvarint_length64 (Lib.zigzag_lt (x := o * 2) (by omega) (by omega))
    have h2 := Lib.uvarint_length64 (Lib.zigzag_lt hn0 hn1)
    have h3 := Lib.uvarint_length64 (Lib.zigzag_lt hp0 hp1)
    have h4 : L.length ≤ 40 := by rw [← hL]; unfold recBytes; split <;> (simp; omega)
    omega
  rw [hN] at hC6 hO6 hF6
  have HN : Hid (len0 + L.length = N) := hN
  have HC6 : Hid (Clk w6 g (.chan none) (0 + base) (0 + base + o) (.slice a6 N c6) (.slice none 0 0) (.slice none 0 0)) := hC6
  have HO6 : Hid (w6.ownsRow (g + 1) 5 1 (.slice a6 N c6) N (xs ++ Lib.byteCells L)) := hO6
  have HP6 : Hid (Pre w6 (.slice a0 len0 cap0) len0 xs) := HP.out.below HB6.out
  clear hL hN hC6 hO6 hF6 HC5 HO5 HR5 HT15 HT25 HB5 HP hr
  go_upto_if 51 with (at_builtin; refine wpList_copy rfl _ _ rfl w6.heap.size (.slice a0 len0 cap0) len0 xs rfl rfl HP6.out (by omega) (Nat.le_refl _) ?_; intro a7 c7 w7 hO7 hG7 hat7; have HO7 : Hid (w7.ownsRow w6.heap.size 5 1 (.slice a7 len0 c7) len0 xs) := hO7; have HG7 : Hid (w6.grownBy w7 none) := hG7; have HA7 : Hid ((Value.slice a7 len0 c7).ownBlock = none ∨ (Value.slice a7 len0 c7).ownBlock = some w6.heap.size) := hat7; clear hO7 hG7 hat7)
  go_cut [16] (fun s wc => ∃ a' c', s = .slice a' N c' ∧ wc.ownsRow w6.heap.size 5 1 (.slice a' N c') N (xs ++ Lib.byteCells L) ∧ Below w6.heap.size w6 wc)
  case first =>
    have hs7 : w6.heap.size ≤ w7.heap.size := HG7.out.size
    by_cases h1 : n = 1
    · have hn1' : (n == 1) = true := by simp [h1]
      have H1 : Hid (n = 1) := h1
      clear h1
      go_wp2_with (at_builtin; refine wpList_app1 rfl _ _ rfl w6.heap.size len0 36 (.slice a7 len0 c7) xs rfl rfl HO7.out hs7 (by omega) ?_; intro a8 c8 w8 hO8 hF8; have HO8 : Hid (w8.ownsRow w6.heap.size 5 1 (.slice a8 (len0 + 1) c8) (len0 + 1) (xs ++ [.int .u8 36])) := hO8; have HF8 : Hid (Fr w7 (.slice a7 len0 c7) w8 (.slice a8 (len0 + 1) c8)) := hF8; clear hO8 hF8)
      have hs8 := HF8.out.grown.size
      have hc := varint_any w6.heap.size (len0 + 1) (2 * o) (by omega) (by omega) _ _ w8 HO8.out (by omega) (by omega)
      obtain ⟨V, hV⟩ : ∃ V, Lib.uvarint (Lib.zigzag (2 * o)) = V := ⟨_, rfl⟩
      have hVl : V.length ≤ 10 := by rw [← hV]; exact Lib.uvarint_length64 (Lib.zigzag_lt (by omega) (by omega))
      rw [hV] at hc
      have HLV : Hid (L = 36 :: (V ++ [0])) := by
        rw [← HL.out, H1.out]
        have e2 : o * 2 = 2 * o := by omega
        show recBytes 1 period o = _
        simp [recBytes, e2, hV]
      clear hV
      refine Calls.mono hc ?_
      clear hc
      rintro e w9 ⟨a9, m9, c9, rfl, rfl, hO9, hF9⟩
      have HO9 : Hid (w9.ownsRow w6.heap.size 5 1 (.slice a9 (len0 + 1 + V.length) c9) (len0 + 1 + V.length) (xs ++ [.int .u8 36] ++ Lib.byteCells V)) := hO9
      have HF9 : Hid (Fr w7 (.slice a7 len0 c7) w9 (.slice a9 (len0 + 1 + V.length) c9)) := HF8.out.trans hF9
      have hs9 := hF9.grown.size
      clear hO9 hF9
      go_wp2_with (at_builtin; refine wpList_app1 rfl _ _ rfl w6.heap.size (len0 + 1 + V.length) 0 (.slice a9 (len0 + 1 + V.length) c9) _ rfl rfl HO9.out (by omega) (by omega) ?_; intro a10 c10 w10 hO10 hF10; have HO10 : Hid (w10.ownsRow w6.heap.size 5 1 (.slice a10 (len0 + 1 + V.length + 1) c10) (len0 + 1 + V.length + 1) (xs ++ [.int .u8 36] ++ Lib.byteCells V ++ [.int .u8 0])) := hO10; have HF10 : Hid (Fr w7 (.slice a7 len0 c7) w10 (.slice a10 (len0 + 1 + V.length + 1) c10)) := HF9.out.trans hF10; clear hO10 hF10)
      go_meet
      have eL : N = len0 + 1 + V.length + 1 := by rw [← HN.out, HLV.out]; simp; omega
      have eC : xs ++ Lib.byteCells L = xs ++ [.int .u8 36] ++ Lib.byteCells V ++ [.int .u8 0] := by rw [HLV.out]; simp [byteCells_cons, byteCells_append]; rfl
      exact ⟨a10, c10, by rw [eL], by rw [eL, eC]; exact HO10.out, below_copy HG7.out HA7.out HF10.out⟩
    · have hn1' : (n == 1) = false := beq_eq_false_iff_ne.2 h1
      have H1 : Hid (¬ n = 1) := h1
      clear h1
      go_wp2_with (at_builtin; refine wpList_app1 rfl _ _ rfl w6.heap.size len0 100 (.slice a7 len0 c7) xs rfl rfl HO7.out hs7 (by omega) ?_; intro a8 c8 w8 hO8 hF8; have HO8 : Hid (w8.ownsRow w6.heap.size 5 1 (.slice a8 (len0 + 1) c8) (len0 + 1) (xs ++ [.int .u8 100])) := hO8; have HF8 : Hid (Fr w7 (.slice a7 len0 c7) w8 (.slice a8 (len0 + 1) c8)) := hF8; clear hO8 hF8)
      have hs8 := HF8.out.grown.size
      obtain ⟨V, hV⟩ : ∃ V, Lib.uvarint (Lib.zigzag (2 * o)) = V := ⟨_, rfl⟩
      obtain ⟨VN, hVN⟩ : ∃ V, Lib.uvarint (Lib.zigzag n) = V := ⟨_, rfl⟩
      obtain ⟨VP, hVP⟩ : ∃ V, Lib.uvarint (Lib.zigzag period) = V := ⟨_, rfl⟩
      have hVl : V.length ≤ 10 := by rw [← hV]; exact Lib.uvarint_length64 (Lib.zigzag_lt (by omega) (by omega))
      have hVNl : VN.length ≤ 10 := by rw [← hVN]; exact Lib.uvarint_length64 (Lib.zigzag_lt (by omega) (by omega))
      have HLV : Hid (L = 100 :: (V ++ (VN ++ VP))) := by
        rw [← HL.out]
        have e2 : o * 2 = 2 * o := by omega
        show recBytes n period o = _
        simp [recBytes, e2, hV, hVN, hVP, H1.out]
      have hc := varint_any w6.heap.size (len0 + 1) (2 * o) (by omega) (by omega) _ _ w8 HO8.out (by omega) (by omega)
      rw [hV] at hc
      have HVN : Hid (Lib.uvarint (Lib.zigzag n) = VN) := hVN
      have HVP : Hid (Lib.uvarint (Lib.zigzag period) = VP) := hVP
      clear hV hVN hVP
      refine Calls.mono hc ?_
      clear hc
      rintro e w9 ⟨a9, m9, c9, rfl, rfl, hO9, hF9⟩
      have HO9 : Hid (w9.ownsRow w6.heap.size 5 1 (.slice a9 (len0 + 1 + V.length) c9) (len0 + 1 + V.length) (xs ++ [.int .u8 100] ++ Lib.byteCells V)) := hO9
      have HF9 : Hid (Fr w7 (.slice a7 len0 c7) w9 (.slice a9 (len0 + 1 + V.length) c9)) := HF8.out.trans hF9
      have hs9 := hF9.grown.size
      clear hO9 hF9
      go_wp2_with fail
      have hc := varint_any w6.heap.size (len0 + 1 + V.length) n hn0 hn1 _ _ w9 HO9.out (by omega) (by omega)
      rw [HVN.out] at hc
      refine Calls.mono hc ?_
      clear hc
      rintro e w10 ⟨a10, m10, c10, rfl, rfl, hO10, hF10⟩
      have HO10 : Hid (w10.ownsRow w6.heap.size 5 1 (.slice a10 (len0 + 1 + V.length + VN.length) c10) (len0 + 1 + V.length + VN.length) (xs ++ [.int .u8 100] ++ Lib.byteCells V ++ Lib.byteCells VN)) := hO10
      have HF10 : Hid (Fr w7 (.slice a7 len0 c7) w10 (.slice a10 (len0 + 1 + V.length + VN.length) c10)) := HF9.out.trans hF10
      have hs10 := hF10.grown.size
      clear hO10 hF10
      go_wp2_with fail
      have hc := varint_any w6.heap.size (len0 + 1 + V.length + VN.length) period hp0 hp1 _ _ w10 HO10.out (by omega) (by omega)
      rw [HVP.out] at hc
      refine Calls.mono hc ?_
      clear hc
      rintro e w11 ⟨a11, m11, c11, rfl, rfl, hO11, hF11⟩
      have HO11 : Hid (w11.ownsRow w6.heap.size 5 1 (.slice a11 (len0 + 1 + V.length + VN.length + VP.length) c11) (len0 + 1 + V.length + VN.length + VP.length) (xs ++ [.int .u8 100] ++ Lib.byteCells V ++ Lib.byteCells VN ++ Lib.byteCells VP)) := hO11
      have HF11 : Hid (Fr w7 (.slice a7 len0 c7) w11 (.slice a11 (len0 + 1 + V.length + VN.length + VP.length) c11)) := HF10.out.trans hF11
      clear hO11 hF11
      go_wp2_with fail
      go_meet
      have eL : N = len0 + 1 + V.length + VN.length + VP.length := by rw [← HN.out, HLV.out]; simp; omega
      have eC : xs ++ Lib.byteCells L = xs ++ [.int .u8 100] ++ Lib.byteCells V ++ Lib.byteCells VN ++ Lib.byteCells VP := by rw [HLV.out]; simp [byteCells_cons, byteCells_append]
      exact ⟨a11, c11, by rw [eL], by rw [eL, eC]; exact HO11.out, below_copy HG7.out HA7.out HF11.out⟩
  case rest =>
    obtain ⟨wa, wcap, rfl, hOw, hBw⟩ := hcut
    obtain ⟨wb, wcap', hv, hwb, hwbl⟩ := hOw.form hNp
    obtain ⟨rfl, rfl⟩ : wa = some ⟨wb, 0, none⟩ ∧ wcap = wcap' := by injection hv with h1 h2 h3; exact ⟨h1, h3⟩
    clear hv
    obtain ⟨gb, gcap', hv, hgb, hgbl⟩ := HO6.out.form hNp
    obtain ⟨rfl, rfl⟩ : a6 = some ⟨gb, 0, none⟩ ∧ c6 = gcap' := by injection hv with h1 h2 h3; exact ⟨h1, h3⟩
    clear hv
    have hOg := below_own hBw HO6.out
    have hCc := HC6.out.keep (hBw.block g hg6)
    have HTs : Hid (Tb wc k1 sa sb) := (hBw.block k1 (by omega)).trans HT16.out
    have HTf : Hid (Tb wc k2 fa fb) := (hBw.block k2 (by omega)).trans HT26.out
    have HBz : Hid (Below w.heap.size w wc) := HB6.out.trans (hBw.mono HB6.out.size)
    have hcells : Hid (∀ k, k < N → ∃ q, wc.cell? ⟨gb, k, none⟩ = some (.int .u8 q) ∧ wc.cell? ⟨wb, k, none⟩ = some (.int .u8 q)) := by
      intro k hk
      have hlen : k < (xs ++ Lib.byteCells L).length := by rw [hOw.1]; omega
      obtain ⟨q, hq⟩ : ∃ q, (xs ++ Lib.byteCells L)[k] = .int .u8 q := by
        rcases List.mem_append.1 (List.getElem_mem hlen) with h | h
        · exact HX.out _ h
        · obtain ⟨c, _, hc⟩ := List.mem_map.1 h
          exact ⟨_, hc.symm⟩
      have hj : (xs ++ Lib.byteCells L)[k]? = some (.int .u8 q) := by rw [List.getElem?_eq_getElem hlen, hq]
      have e1 : (⟨gb, 0, none⟩ : Addr).add k = ⟨gb, k, none⟩ := by unfold Addr.add; split <;> simp_all
      have e2 : (⟨wb, 0, none⟩ : Addr).add k = ⟨wb, k, none⟩ := by unfold Addr.add; split <;> simp_all
      exact ⟨q, by rw [← e1]; exact hOg.cells rfl k _ hj, by rw [← e2]; exact hOw.cells rfl k _ hj⟩
    have c22 := hCc.c22
    have HCc : Hid (Clk wc g (.chan none) (0 + base) (0 + base + o) (.slice (some ⟨gb, 0, none⟩) N c6) (.slice none 0 0) (.slice none 0 0)) := hCc
    clear hOw hBw hOg hCc HO6 HC6 HT16 HT26 HB6 HP6 HX HL HN
    go_wp2_with fail
    clear c22
    go_loopw [18] (fun i wr => ∃ (k q : Nat), k ≤ N ∧ i = .int .i64 k ∧ wr = wc.drewN q) (fun i _ => N - (intOf i).toNat)
    case atStart => exact ⟨0, 0, Nat.zero_le _, rfl, rfl⟩
    case round =>
      obtain ⟨k, q, hk, rfl, rfl⟩ := hrel
      by_cases hlt : k < N
      · obtain ⟨v, hv1, hv2⟩ := hcells.out k hlt
        have hlt' : (k : Int) < (N : Int) := by omega
        have hk0 : (0 : Int) ≤ (k : Int) := by omega
        go_wp2_with fail
        go_quiet (fail)
        go_wp2
        go_roundw
        case rel => exact ⟨k + 1, q + nq, by omega, by go_num, rfl⟩
        case measure => simp [intOf]; omega
      · have hlt' : ¬ (k : Int) < (N : Int) := by omega
        have c16 : wc.cell? ⟨g, 16, none⟩ = some (.int .u64 sa) := by rw [hsa.out]; exact HCc.out.c16
        have c17 : wc.cell? ⟨g, 17, none⟩ = some (.int .i64 sb) := by rw [hsb.out]; exact HCc.out.c17
        have c18 := HCc.out.c18
        have c19 : wc.cell? ⟨g, 19, none⟩ = some (.int .u64 fa) := by rw [hfa.out]; exact HCc.out.c19
        have c20 : wc.cell? ⟨g, 20, none⟩ = some (.int .i64 fb) := by rw [hfb.out]; exact HCc.out.c20
        have c21 := HCc.out.c21
        have c23 := HCc.out.c23
        have c3 := HCc.out.c3
        obtain ⟨s0, s1, s2⟩ := HTs.out.cells
        obtain ⟨f0, f1, f2⟩ := HTf.out.cells
        have hsa0 : 0 ≤ sa := by rw [hsa.out]; omega
        have hsa1 : sa < 1000000000 := by rw [hsa.out]; omega
        have hfa0 : 0 ≤ fa := by rw [hfa.out]; omega
        have hfa1 : fa < 1000000000 := by rw [hfa.out]; omega
        have hzz : w.heap.size ≤ wc.heap.size := HBz.out.size
        clear hcells HCc HTs HTf
        go_wp2_with fail
        go_region_held3 (fun w' => w'.cell? ⟨g, 3, none⟩ = some (.chan none) ∧ w'.cell? ⟨g, 16, none⟩ = some (.int .u64 sa) ∧ w'.cell? ⟨g, 17, none⟩ = some (.int .i64 sb) ∧ w'.cell? ⟨g, 18, none⟩ = some (.pointer none) ∧ w'.cell? ⟨g, 19, none⟩ = some (.int .u64 fa) ∧ w'.cell? ⟨g, 20, none⟩ = some (.int .i64 fb) ∧ w'.cell? ⟨g, 21, none⟩ = some (.pointer none) ∧ w'.cell? ⟨g, 23, none⟩ = some (.slice none 0 0) ∧ w'.cell? ⟨k1, 0, none⟩ = some (.int .u64 sa) ∧ w'.cell? ⟨k1, 1, none⟩ = some (.int .i64 sb) ∧ w'.cell? ⟨k1, 2, none⟩ = some (.pointer none) ∧ w'.cell? ⟨k2, 0, none⟩ = some (.int .u64 fa) ∧ w'.cell? ⟨k2, 1, none⟩ = some (.int .i64 fb) ∧ w'.cell? ⟨k2, 2, none⟩ = some (.pointer none)) (go_keep)
          (first | (go_at_call_of 9 fa; refine (equal_x fa fb _ hfa0 hfa1).mono ?_; rintro e w' ⟨rfl, rfl⟩) | (go_at_call_of 9 sa; refine (equal_x sa sb _ hsa0 hsa1).mono ?_; rintro e w' ⟨rfl, rfl⟩))
        go_wp2
        go_ret
        refine ⟨rfl, ?_⟩
        have hbz := below_drewN HBz.out (q + 1)
        exact (((hbz.alloc hzz _).alloc (by simp; omega) _).alloc (by simp; omega) _).alloc (by simp; omega) _

end Go.Proofs.Ybulkbhkg
