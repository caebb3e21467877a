/-
  DERIVED. Seat b2918a: LawS2918BObservers walked.
-/
import Derived.Test.YbulkbhkgRecObs
namespace Go.Proofs.Ybulkbhkg
open Go.RowKit
set_option linter.unusedVariables false

theorem info62 : ∃ i, Yba.prog.info? 62 = some i ∧ i.zero = some (.pointer none) ∧ i.size = 1 ∧ i.bytes = 8 := ⟨Yba.t62, by kernel_rfl, rfl, rfl, rfl⟩

/-- What the rounds that lay the observers find. -/
structure Ob (g lb : Nat) (S : Int) (w3 : World) (fbs : List Nat) (ov : Value) (wr : World) : Prop where
  clk : Clk wr g (.chan none) S S (.slice none 0 0) (.slice none 0 0) ov
  row : wr.ownsRow (g + 1) 62 1 ov fbs.length (ptrs fbs)
  nil : fbs.length = 0 → ov = .slice none 0 0
  obs : Obsv wr lb fbs
  log : Box wr lb 31 (.slice none 0 0)
  os : wr.os = w3.os
  tape : wr.tape = w3.tape
  output : wr.output = w3.output
  size : w3.heap.size ≤ wr.heap.size
  block : ∀ k, k < w3.heap.size → k ≠ g → wr.heap[k]? = w3.heap[k]?
  own : ov.ownBlock = none ∨ ∃ k, ov.ownBlock = some k ∧ w3.heap.size ≤ k

theorem Ob.step {g lb : Nat} {S : Int} {w3 : World} {fbs : List Nat} {ov : Value} {wr w1 : World} {gg cap : Nat} (h : Ob g lb S w3 fbs ov wr)
    (hown1 : w1.ownsRow (g + 1) 62 1 (.slice (some ⟨gg, 0, none⟩) (fbs.length + 1) cap) (fbs.length + 1) (ptrs fbs ++ [.pointer (some ⟨wr.heap.size + 1, 0, none⟩)])) {o3 : Obj}
    (hgrow : (((wr.alloc (.cells #[.int .i64 (fbs.length : Int)] 3)).alloc (.cells #[clo lb wr.heap.size] 38)).alloc o3).grownBy w1 ov.ownBlock) (hat : ov.ownBlock = some gg ∨ gg = wr.heap.size + 1 + 1 + 1) :
    Ob g lb S w3 (fbs ++ [wr.heap.size + 1]) (.slice (some ⟨gg, 0, none⟩) (fbs.length + 1) cap) (w1.setCell ⟨g, 24, none⟩ (.slice (some ⟨gg, 0, none⟩) (fbs.length + 1) cap)) := by
  have hg := h.clk.lt
  have hofar : ov.ownBlock ≠ some g := (own_far h.row).symm
  have hold : ∀ k, k < wr.heap.size → ov.ownBlock ≠ some k → w1.heap[k]? = wr.heap[k]? := by
    intro k hk hne
    rw [hgrow.block k (by simp; omega) (Ne.symm hne), Below.heap_alloc _ _ _ (by simp; omega), Below.heap_alloc _ _ _ (by simp; omega), Below.heap_alloc _ _ _ hk]
  have hset : ∀ k, k ≠ g → (w1.setCell ⟨g, 24, none⟩ (.slice (some ⟨gg, 0, none⟩) (fbs.length + 1) cap)).heap[k]? = w1.heap[k]? := fun k hk => Below.heap_setCell _ _ _ _ hk
  have hib : w1.heap[wr.heap.size]? = some (.cells #[.int .i64 (fbs.length : Int)] 3 (0, 0)) := by
    rw [hgrow.block _ (by simp; omega) (Ne.symm (own_old h.row (Nat.le_refl _))), Below.heap_alloc _ _ _ (by simp; omega), Below.heap_alloc _ _ _ (by simp)]
    exact heap_alloc_new wr _
  have hfb : w1.heap[wr.heap.size + 1]? = some (.cells #[clo lb wr.heap.size] 38 (0, 0)) := by
    rw [hgrow.block _ (by simp) (Ne.symm (own_old h.row (by omega))), Below.heap_alloc _ _ _ (by simp)]
    exact new_at (wr.alloc _) _ _ (by simp)
  have htyp : ∀ (k : Nat) (c : Array Value) (t : TypeId) (f : Nat × Nat), wr.heap[k]? = some (.cells c t f) → t ≠ 62 → t ≠ 61 → (w1.setCell ⟨g, 24, none⟩ (.slice (some ⟨gg, 0, none⟩) (fbs.length + 1) cap)).heap[k]? = wr.heap[k]? := by
    intro k c t f hk h1 h2
    obtain ⟨cg, hcg⟩ := h.clk.block
    rw [hset k (ne_of_types hk hcg h2)]
    exact hold k (Array.getElem?_eq_some_iff.1 hk).1 (own_type h.row hk h1)
  refine ⟨(h.clk.keep (hold g hg hofar)).setObs _, ?_, fun e => by simp at e, ?_, (htyp lb _ _ _ h.log (by decide) (by decide)).trans h.log, hgrow.os.trans h.os, hgrow.tape.trans h.tape, hgrow.output.trans h.output, ?_, ?_, ?_⟩
  · have e1 : (fbs ++ [wr.heap.size + 1]).length = fbs.length + 1 := by simp
    have e2 : ptrs (fbs ++ [wr.heap.size + 1]) = ptrs fbs ++ [.pointer (some ⟨wr.heap.size + 1, 0, none⟩)] := by simp [ptrs]
    rw [e1, e2]
    exact own_setG hown1 _ _
  · intro i fb hi
    by_cases hlt : i < fbs.length
    · rw [List.getElem?_append_left hlt] at hi
      obtain ⟨ib, h1, h2⟩ := h.obs i fb hi
      exact ⟨ib, (htyp fb _ _ _ h1 (by decide) (by decide)).trans h1, (htyp ib _ _ _ h2 (by decide) (by decide)).trans h2⟩
    · have hie : i = fbs.length := by
        have := (List.getElem?_eq_some_iff.1 hi).1
        simp at this; omega
      subst hie
      simp at hi
      subst hi
      refine ⟨wr.heap.size, ?_, ?_⟩
      · exact (hset _ (by omega)).trans hfb
      · exact (hset _ (by omega)).trans hib
  · have := hgrow.size
    have h2 := h.size
    simp at this ⊢
    omega
  · intro k hk hkg
    have h2 := h.size
    rw [hset k hkg, hold k (by omega) ?_]
    · exact h.block k hk hkg
    · rcases h.own with e | ⟨j, e, hj⟩
      · rw [e]; intro e2; cases e2
      · rw [e]; intro e2; injection e2 with e2; omega
  · right
    refine ⟨gg, rfl, ?_⟩
    have h2 := h.size
    rcases hat with e | e
    · rcases h.own with e1 | ⟨j, e1, hj⟩
      · rw [e1] at e; cases e
      · rw [e1] at e; injection e with e; omega
    · omega

theorem log_cells {w : World} {base lg N cap q m j i : Nat} {T p : Int} (ho : w.ownsRow base 37 10 (.slice (some ⟨lg, 0, none⟩) N cap) N (logL m T p N)) (hq : q < N) (hqe : q = j * m + i) (hi : i < m) (c : Nat) (hc : c < 10) :
    w.cell? ⟨lg, q * 10 + c, none⟩ = (ent i ((T + j * p) % 1000000000) ((T + j * p) / 1000000000))[c]? := by
  have h1 : q % m = i := by rw [hqe, Nat.mul_comm, Nat.mul_add_mod]; exact Nat.mod_eq_of_lt hi
  have h2 : q / m = j := by rw [hqe, Nat.mul_comm, Nat.mul_add_div (by omega), Nat.div_eq_of_lt hi, Nat.add_zero]
  have h3 := logL_get m T p c hc N q hq
  unfold entOf at h3
  rw [h1, h2] at h3
  have hlen : c < (ent i ((T + j * p) % 1000000000) ((T + j * p) / 1000000000)).length := by simpa [ent] using hc
  rw [← add_at, ho.cells rfl (q * 10 + c) _ (by rw [h3]; exact List.getElem?_eq_getElem hlen)]
  exact (List.getElem?_eq_getElem hlen).symm

set_option maxHeartbeats 8000000 in
set_option maxRecDepth 100000 in
theorem obs_law (base off period n k o p : Int) (nn m : Nat) (w : World) (hb0 : -9223372036854775808 ≤ base) (hb1 : base ≤ 9223372036854775807)
    (ho : off.tmod 1099511627776 = o) (ho0 : -1099511627776 < o) (ho1 : o < 1099511627776) (hp : period.tmod 1099511627776 = p) (hp0 : -1099511627776 < p) (hp1 : p < 1099511627776)
    (hn0 : 0 ≤ n) (hn1 : n ≤ 65535) (hk0 : 0 ≤ k) (hk1 : k ≤ 255) (hnn : n % 300 = (nn : Int)) (hmm : k % 4 = (m : Int)) :
    Calls Yba.prog 3 #[.int .i64 base, .int .i64 off, .int .u16 n, .int .i64 period, .int .u8 k] w fun e w' => e = .returned (.bool true) ∧ Below w.heap.size w w' := by
  have hnn3 : nn < 300 := by omega
  have hm3 : m ≤ 3 := by omega
  go_enter Yba.func3, Yba.ntmps3
  go_wp2_with fail
  refine (add_ab 0 0 0 base (by decide) (by decide) w (by omega) (by omega) hb0 hb1).mono ?_
  rintro e u1 ⟨sa, sb, rfl, hsa, hsb, hB1⟩
  go_wp2_with fail
  refine (add_ab sa sb (0 + base) o hsa.out hsb.out _ (by omega) (by omega) (by omega) (by omega)).mono ?_
  rintro e u2 ⟨fa, fb, rfl, hfa, hfb, hB2⟩
  have hT1 : Hid (Tb u2 u1.heap.size sa sb) := (hB2.block _ (by simp)).trans (heap_alloc_new u1 _)
  have hlt1 : u1.heap.size < u2.heap.size := by have := hB2.size; simp at this; omega
  have hBw2 : Below w.heap.size w u2 := (hB1.trans ((Below.refl _ _).alloc hB1.size _)).trans (hB2.mono (by have := hB1.size; simp; omega))
  clear hB2
  obtain ⟨c0, c1, c2⟩ := hT1.out.cells
  have hws := hBw2.size
  have hws1 := hB1.size
  go_wp2_with fail
  refine (new_ab sa sb (0 + base) hsa.out hsb.out _).mono ?_
  rintro e u3 ⟨g, rfl, hg, hC3, hB3⟩
  have hs2 : u2.heap.size + 1 ≤ u3.heap.size := by have := hB3.size; simpa using this
  have hg1 : u2.heap.size + 1 ≤ g := by simpa using hg
  have HT2 : Hid (Tb u3 u2.heap.size fa fb) := (hB3.block _ (by simp)).trans (heap_alloc_new u2 _)
  have hBw3 : Hid (Below w.heap.size w u3) := (hBw2.alloc (by omega) _).trans (hB3.mono (by simp; omega))
  have hg3 := hC3.lt
  have HC3 : Hid (Clk u3 g (.chan none) (0 + base) (0 + base) (.slice none 0 0) (.slice none 0 0) (.slice none 0 0)) := hC3
  have hkg : ¬ u2.heap.size = g := by omega
  clear hg hC3 hB3 hT1 c0 c1 c2 hBw2 hB1
  generalize u1.heap.size = k1 at *
  generalize u2.heap.size = k2 at *
  go_wp2_with fail
  obtain ⟨w3, hw3⟩ : ∃ w3, w3 = u3.alloc (.cells #[.slice none 0 0] 31) := ⟨_, rfl⟩
  obtain ⟨lb, hlb⟩ : ∃ lb, u3.heap.size = lb := ⟨_, rfl⟩
  rw [← hw3, hlb]
  have hsz3 : w3.heap.size = lb + 1 := by rw [hw3, ← hlb]; simp
  have hOb0 : Ob g lb (0 + base) w3 [] (.slice none 0 0) w3 := by
    refine ⟨?_, World.ownsRow_nil _ _ _ _, fun _ => rfl, fun i fb h => by simp at h, ?_, rfl, rfl, rfl, Nat.le_refl _, fun _ _ _ => rfl, .inl rfl⟩
    · rw [hw3]; exact HC3.out.keep (Below.heap_alloc _ _ _ hg3)
    · rw [hw3]; exact new_at u3 _ _ hlb
  have HT3 : Hid (Tb w3 k2 fa fb) := by
    unfold Tb; rw [hw3, Below.heap_alloc _ _ _ (by omega)]; exact HT2.out
  have HB3 : Hid (Below w.heap.size w w3) := by rw [hw3]; exact hBw3.out.alloc (by omega) _
  have hlbg : lb ≠ g := by omega
  have hwlb : w.heap.size ≤ lb := by omega
  have hk2lb : k2 < lb := by omega
  clear hw3 HC3 HT2 hBw3 hlb
  obtain ⟨i0, hi0, hz0, hz1, hz2⟩ := info62
  have hmf : ∀ (fn : Fn) (first cap : Array Value) (w : World), (Instr.makeFunc fn first cap).run Yba.prog w = .ok (.func fn first cap) w := fun _ _ _ _ => rfl
  go_loopw [18] (fun c wr => ∃ (fbs : List Nat) (ov : Value), fbs.length ≤ m ∧ c = .int .i64 (fbs.length : Int) ∧ Ob g lb (0 + base) w3 fbs ov wr) (fun c _ => m - (intOf c).toNat)
  case atStart => exact ⟨[], _, Nat.zero_le _, rfl, hOb0⟩
  case round =>
    obtain ⟨fbs, ov, hfl, rfl, hOb⟩ := hrel
    by_cases hlt : fbs.length < m
    · have hlt' : (fbs.length : Int) < (m : Int) := by omega
      have c24 := hOb.clk.c24
      have hz := hOb.clk.frozen 24
      have hgl := hOb.clk.lt
      obtain ⟨oa, oc, hov⟩ := own_form hOb.row
      subst hov
      have HOb : Hid (Ob g lb (0 + base) w3 fbs (.slice oa fbs.length oc) wr) := hOb
      clear hOb hOb0
      obtain ⟨ln, hln⟩ : ∃ ln, fbs.length = ln := ⟨_, rfl⟩
      have HO : Hid (wr.ownsRow (g + 1) 62 1 (.slice oa ln oc) ln (ptrs fbs)) := by rw [← hln]; exact HOb.out.row
      have Hln : Hid (fbs.length = ln) := hln
      rw [hln] at c24 hlt hlt' ⊢
      clear hln
      go_wp2_with (at_builtin; refine wpList_append_lies _ rfl _ _ _ rfl (g + 1) 62 i0 (.pointer none) 1 8 Yba.underlying39 hi0 hz0 hz1 hz2 rfl (by decide) (.slice oa ln oc) ln (ptrs fbs) rfl (((HO.out.alloc _).alloc _).alloc _) ⟨wr.heap.size + 1 + 1, 0, none⟩ 1 1 [.pointer (some ⟨wr.heap.size + 1, 0, none⟩)] rfl rfl (World.news_of_block (cs := #[.pointer (some ⟨wr.heap.size + 1, 0, none⟩)]) (t := 62) (fr := (0, 0)) (new_at ((wr.alloc _).alloc _) _ _ (by simp))) (by simp [Value.oneCell']) (by omega) (by unfold maxLen; omega) (by omega) (by simp; omega) (wr.heap.size + 1 + 1 + 1) (by simp) ?_; intro gg cap w1 hown1 hgrow hat hltg; have hcw : w1.cell? ⟨g, 24, none⟩ = some (.slice oa ln oc) := (by rw [hgrow.cell_far ⟨g, 24, none⟩ (by simp; omega) (own_far HO.out), World.cell?_of_block (w := wr) (a := ⟨g, 24, none⟩) (by rw [Below.heap_alloc _ _ _ (by simp; omega), Below.heap_alloc _ _ _ (by simp; omega), Below.heap_alloc _ _ _ hgl])]; exact c24); have hzw : w1.frozen? ⟨g, 24, none⟩ = false := (by rw [hgrow.frozen_far ⟨g, 24, none⟩ (by simp; omega) (own_far HO.out), World.frozen?_of_block (w := wr) (a := ⟨g, 24, none⟩) (by rw [Below.heap_alloc _ _ _ (by simp; omega), Below.heap_alloc _ _ _ (by simp; omega), Below.heap_alloc _ _ _ hgl])]; exact hz); have HO1 : Hid (w1.ownsRow (g + 1) 62 1 (.slice (some ⟨gg, 0, none⟩) (ln + 1) cap) (ln + 1) (ptrs fbs ++ [.pointer (some ⟨wr.heap.size + 1, 0, none⟩)])) := hown1; have HG1 : Hid ((((wr.alloc (.cells #[.int .i64 (ln : Int)] 3)).alloc (.cells #[clo lb wr.heap.size] 38)).alloc (.cells #[.pointer (some ⟨wr.heap.size + 1, 0, none⟩)] 62)).grownBy w1 (Value.slice oa ln oc).ownBlock) := hgrow; have HA1 : Hid ((Value.slice oa ln oc).ownBlock = some gg ∨ gg = wr.heap.size + 1 + 1 + 1) := hat; clear hown1 hgrow hat hltg)
      go_roundw
      case rel =>
        refine ⟨fbs ++ [wr.heap.size + 1], .slice (some ⟨gg, 0, none⟩) (ln + 1) cap, by have := Hln.out; simp; omega, by simp [Hln.out], ?_⟩
        have h := Ob.step (gg := gg) (cap := cap) HOb.out (by rw [Hln.out]; exact HO1.out) (by rw [Hln.out]; exact HG1.out) (by rw [Hln.out]; exact HA1.out)
        rw [Hln.out] at h
        exact h
      case measure => simp [intOf]; omega
    · have hlt' : ¬ (fbs.length : Int) < (m : Int) := by omega
      have hfm : fbs.length = m := by omega
      clear hOb0 hi0 hz0 hz1 hz2 hmf
      obtain ⟨oa, oc, hov⟩ := own_form hOb.row
      rw [hfm] at hov
      subst hov
      have hrow := hOb.row
      rw [hfm] at hrow
      have hT := (hOb.block k2 (by omega) (by omega)).trans HT3.out
      have hs4 := hOb.size
      obtain ⟨f0, f1, f2⟩ := Tb.cells hT
      have HT4 : Hid (Tb wr k2 fa fb) := hT
      have HB4 : Hid (Below w.heap.size w wr) := ⟨hOb.os.trans HB3.out.os, hOb.tape.trans HB3.out.tape, hOb.output.trans HB3.out.output, Nat.le_trans HB3.out.size hOb.size, fun k hk => (hOb.block k (by omega) (by omega)).trans (HB3.out.block k hk)⟩
      have hcall := recordTicks_any m lb g nn (0 + base) (0 + base) (0 + base + o) p (.slice oa m oc) fbs wr (fun e => hOb.nil (by omega)) hm3 hfm (by omega) (by omega) (by omega) (by omega) (by omega) (by omega) (by omega) hOb.clk hrow hOb.obs hOb.log
      rw [tm_unfold, ← hfa.out, ← hfb.out] at hcall
      have Hcall : Hid (_) := hcall
      clear hcall hOb hT hfm hrow
      go_wp2_with fail
      refine Calls.mono Hcall.out ?_
      clear Hcall
      rintro e w5 ⟨logv, buf', rfl, hL5, hO5, hC5, hos, htp, hou, hsz5, hbl⟩
      have hT5 : Tb w5 k2 fa fb := (hbl k2 (by omega) (by omega) (by omega)).trans HT4.out
      have HB5 : Hid (Below w.heap.size w w5) := ⟨hos.trans HB4.out.os, htp.trans HB4.out.tape, hou.trans HB4.out.output, Nat.le_trans HB4.out.size hsz5, fun k hk => (hbl k (by omega) (by omega) (by omega)).trans (HB4.out.block k hk)⟩
      obtain ⟨la, lc, hlv⟩ := own_form hO5
      subst hlv
      obtain ⟨N, hN⟩ : ∃ N, nn * m = N := ⟨_, rfl⟩
      rw [hN] at hL5 hO5
      have HN : Hid (nn * m = N) := hN
      have hNi : (nn : Int) * (m : Int) = (N : Int) := by rw [← hN]; simp
      have hNb : N ≤ 900 := by
        rw [← hN]
        have : nn * m ≤ 300 * 3 := Nat.mul_le_mul (by omega) hm3
        omega
      have HT5 : Hid (Tb w5 k2 fa fb) := hT5
      have HL5 : Hid (Box w5 lb 31 (.slice la N lc)) := hL5
      have HO5 : Hid (w5.ownsRow wr.heap.size 37 10 (.slice la N lc) N (logL m (0 + base + o) p N)) := hO5
      have HC5 : Hid (Clk w5 g (.chan none) (0 + base) (0 + base + o) buf' (.slice none 0 0) (.slice oa m oc)) := hC5
      have cl := hL5.cell
      clear hN hT5 hL5 hO5 hC5 hos htp hou hbl HB3 HB4 HT3 HT4 f0 f1 f2
      go_wp2_with fail
      clear cl
      go_loopw [21, 22] (fun ps c wz => ∃ (j q : Nat), j ≤ nn ∧ Hid (q = j * m) ∧ c = .int .i64 j ∧ ps = .int .i64 q ∧ Below w5.heap.size w5 wz) (fun _ c _ => nn - (intOf c).toNat)
      case atStart => exact ⟨0, 0, Nat.zero_le _, (Nat.zero_mul m).symm, rfl, rfl, Below.refl _ _⟩
      case round =>
        obtain ⟨j, q, hj, hq, rfl, rfl, hBz⟩ := hrel
        by_cases hjl : j < nn
        · have hjl' : (j : Int) < (nn : Int) := by omega
          have hjp1 : (j : Int) * p ≤ 329853488332800 := by
            have := Int.mul_le_mul_of_nonneg_left (show p ≤ 1099511627776 by omega) (show (0 : Int) ≤ j by omega)
            have h2 : (j : Int) * 1099511627776 ≤ 300 * 1099511627776 := by omega
            omega
          have hjp0 : -329853488332800 ≤ (j : Int) * p := by
            have := Int.mul_le_mul_of_nonneg_left (show -1099511627776 ≤ p by omega) (show (0 : Int) ≤ j by omega)
            have h2 : -(300 * 1099511627776) ≤ (j : Int) * -1099511627776 := by omega
            omega
          have hk25 : k2 < w5.heap.size := (Array.getElem?_eq_some_iff.1 HT5.out).1
          obtain ⟨f0, f1, f2⟩ := Tb.cells ((hBz.block k2 hk25).trans HT5.out)
          have hszz := hBz.size
          have HBz : Hid (Below w5.heap.size w5 wr) := hBz
          clear hBz
          go_wp2_with fail
          refine (add_ab fa fb (0 + base + o) (j * p) hfa.out hfb.out _ (by omega) (by omega) (by omega) (by omega)).mono ?_
          rintro e w6 ⟨a6, b6, rfl, ha6, hb6, hB6⟩
          have HB6 : Hid (Below w5.heap.size w5 w6) := HBz.out.trans (hB6.mono hszz)
          have hsz6 : w5.heap.size ≤ w6.heap.size := HB6.out.size
          clear hB6 HBz f0 f1 f2
          go_wp2_with fail
          obtain ⟨w7, hw7⟩ : ∃ w7, w7 = w6.alloc (.cells #[.int .u64 a6, .int .i64 b6, .pointer none] 27) := ⟨_, rfl⟩
          obtain ⟨kw, hkw⟩ : ∃ kw, w6.heap.size = kw := ⟨_, rfl⟩
          rw [← hw7, hkw]
          have HB7 : Hid (Below w5.heap.size w5 w7) := by rw [hw7]; exact HB6.out.alloc hsz6 _
          have HT7 : Hid (Tb w7 kw a6 b6) := by rw [hw7]; exact new_at w6 _ _ hkw
          have hkw7 : kw < w7.heap.size := (Array.getElem?_eq_some_iff.1 HT7.out).1
          have hsz7 : w5.heap.size ≤ w7.heap.size := HB7.out.size
          have ha60 : 0 ≤ a6 := by rw [ha6.out]; omega
          have ha61 : a6 < 1000000000 := by rw [ha6.out]; omega
          clear hw7 hkw HB6 hsz6
          go_loopw [21, 24] (fun ps c ws => ∃ (i q : Nat), i ≤ m ∧ Hid (q = j * m + i) ∧ c = .int .i64 i ∧ ps = .int .i64 q ∧ Below w7.heap.size w7 ws) (fun _ c _ => m - (intOf c).toNat)
          case atStart => exact ⟨0, q, Nat.zero_le _, hq, rfl, rfl, Below.refl _ _⟩
          case round =>
            obtain ⟨i, q1, hi, hq1, rfl, rfl, hBs⟩ := hrel
            by_cases hil : i < m
            · have hil' : (i : Int) < (m : Int) := by omega
              have hq1e := hq1.out
              have hqN : q1 < N := by
                rw [hq1e, ← HN.out]
                have h1 : (j + 1) * m ≤ nn * m := Nat.mul_le_mul_right m (by omega)
                rw [Nat.succ_mul] at h1
                omega
              have hqN' : (q1 : Int) < (N : Int) := by omega
              have hq0 : (0 : Int) ≤ (q1 : Int) := by omega
              have hB57 := HB7.out.trans (hBs.mono hsz7)
              have cl := (show Box wr lb 31 (.slice la N lc) from (hB57.block lb HL5.out.lt).trans HL5.out).cell
              have hO7 := below_own hB57 HO5.out
              obtain ⟨lg, lc', hv, _, _⟩ := hO7.form (by omega)
              obtain ⟨rfl, rfl⟩ : la = some ⟨lg, 0, none⟩ ∧ lc = lc' := by injection hv with h1 h2 h3; exact ⟨h1, h3⟩
              clear hv
              have hlc := log_cells hO7 hqN hq1e hil
              rw [← ha6.out, ← hb6.out] at hlc
              have e0 := hlc 0 (by decide); have e1 := hlc 1 (by decide); have e2 := hlc 2 (by decide); have e3 := hlc 3 (by decide); have e4 := hlc 4 (by decide)
              have e5 := hlc 5 (by decide); have e6 := hlc 6 (by decide); have e7 := hlc 7 (by decide); have e8 := hlc 8 (by decide); have e9 := hlc 9 (by decide)
              simp only [ent, List.getElem?_cons_zero, List.getElem?_cons_succ, Nat.add_zero] at e0 e1 e2 e3 e4 e5 e6 e7 e8 e9
              obtain ⟨t0, t1, t2⟩ := Tb.cells ((hBs.block kw hkw7).trans HT7.out)
              have hszs := hBs.size
              have hkws : kw < wr.heap.size := by omega
              have hkws1 : kw < wr.heap.size + 1 := by omega
              have hkws2 : kw < wr.heap.size + 1 + 1 := by omega
              have hkws3 : kw < wr.heap.size + 1 + 1 + 1 := by omega
              have HBs : Hid (Below w7.heap.size w7 wr) := hBs
              clear hlc hO7 hB57 hq1e hBs
              go_wp2_with (go_at_call 9; refine (equal_x a6 b6 _ ha60 ha61).mono ?_; rintro e w' ⟨rfl, rfl⟩)
              go_roundw
              case rel =>
                refine ⟨i + 1, q1 + 1, by omega, ?_, by go_num, by go_num, ?_⟩
                · have := hq1.out
                  show q1 + 1 = j * m + (i + 1)
                  omega
                · repeat first | exact HBs.out | refine Below.alloc ?_ (by first | omega | (simp; done) | (simp; omega)) _
              case measure => simp [intOf]; omega
            · have hil' : ¬ (i : Int) < (m : Int) := by omega
              have hq1e := hq1.out
              have HBs : Hid (Below w5.heap.size w5 wr) := HB7.out.trans (hBs.mono hsz7)
              clear hBs
              go_wp2
              go_roundw
              case rel =>
                refine ⟨j + 1, q1, by omega, ?_, by go_num, rfl, HBs.out⟩
                show q1 = (j + 1) * m
                rw [Nat.succ_mul]
                omega
              case measure => simp [intOf]; omega
        · have hjl' : ¬ (j : Int) < (nn : Int) := by omega
          have c24 := (HC5.out.keep (hBz.block g HC5.out.lt)).c24
          have HBz : Hid (Below w.heap.size w wr) := HB5.out.trans (hBz.mono HB5.out.size)
          clear hBz
          go_wp2
          go_ret
          exact ⟨rfl, HBz.out⟩

end Go.Proofs.Ybulkbhkg
