/-
  DERIVED. Seat b2925a: mulLong (6).
-/
import Derived.Test.YbulkbhoaCopy
import Derived.Deep.DeepCutAuto
import Derived.BigQuiet
namespace Go.Proofs.Ybulkbhoa
open Go.RowKit
set_option linter.unusedVariables false

theorem Norm.laid {k : Nat} {p : Nat → Int} {V : Int} (hN : Norm k p V) (h : Nat → Int) : Norm k (over h p k) V := by
  have e : ∀ j, j < k → over h p k j = p j := fun j hj => by simp [Go.Proofs.Ybulkbhoa.over, hj]
  refine ⟨fun j hj => by rw [e j hj]; exact hN.words j hj, (val_congr e).trans hN.eq, ?_⟩
  rcases hN.top with h0 | h0
  · exact .inl h0
  · by_cases hk : k = 0
    · exact .inl hk
    · exact .inr (by rw [e (k - 1) (by omega)]; exact h0)

theorem new_at (w : World) (o : Obj) : (w.alloc o).heap[w.heap.size]? = some o := heap_alloc_new w o
theorem old_at (w : World) (o : Obj) (k : Nat) (hk : k < w.heap.size) : (w.alloc o).heap[k]? = w.heap[k]? := by
  exact Below.heap_alloc _ _ _ hk
theorem size_alloc (w : World) (o : Obj) : (w.alloc o).heap.size = w.heap.size + 1 := by simp [go_sem]
theorem new_tw (w : World) : ∃ w1, w1 = w.alloc (.cells #[.int .u64 0, .int .u64 0, .int .u64 0, .int .u64 0, .int .u64 0, .int .u64 0, .int .u64 0, .int .u64 0, .int .u64 0, .int .u64 0, .int .u64 0, .int .u64 0, .int .u64 0, .int .u64 0, .int .u64 0, .int .u64 0, .int .u64 0, .int .u64 0, .int .u64 0, .int .u64 0] 30) ∧
    Tw w1 w.heap.size (fun _ => 0) ∧ (∀ k, k < w.heap.size → w1.heap[k]? = w.heap[k]?) ∧ w1.heap.size = w.heap.size + 1 ∧ w1.os = w.os ∧ w1.tape = w.tape ∧ w1.output = w.output := by
  refine ⟨_, rfl, ?_, fun k hk => ?_, ?_, rfl, rfl, rfl⟩
  · exact new_at _ _
  · exact old_at _ _ _ hk
  · exact size_alloc _ _

theorem long_zero (bz bx bY n m : Nat) (nz : Int) (f g h : Nat → Int) (w : World) (hz : Wd w bz nz h) (hx : Wd w bx n f) (hy : Wd w bY m g) (h0 : n = 0 ∨ m = 0) :
    Calls Yba.prog 6 #[.pointer (some ⟨bz, 0, none⟩), .pointer (some ⟨bx, 0, none⟩), .pointer (some ⟨bY, 0, none⟩)] w fun e w' => e = .returned (.pointer (some ⟨bz, 0, none⟩)) ∧ Wd w' bz 0 h ∧ Fx bz w w' := by
  have c1 := hx.cn
  have c2 := hy.cn
  have c3 := hz.cn
  have c4 := hz.frozen 0
  by_cases hn : n = 0
  · subst hn
    go_enter Yba.func6, Yba.ntmps6
    go_wp2
    go_ret
    exact ⟨rfl, hz.setn _, (Fx.refl _ _).setCell _ _⟩
  · obtain rfl : m = 0 := by omega
    have hnb : ((n : Int) == 0) = false := by simp; omega
    go_enter Yba.func6, Yba.ntmps6
    go_wp2
    go_ret
    exact ⟨rfl, hz.setn _, (Fx.refl _ _).setCell _ _⟩

theorem long_y1 (bz bx bY n : Nat) (nz : Int) (f g h : Nat → Int) (w : World) (hz : Wd w bz nz h) (hx : Wd w bx n f) (hy : Wd w bY 1 g) (hn1 : 1 ≤ n) (hn : n ≤ 9) (hf : Words f n) (hg : Words g 1) (tf : f (n - 1) ≠ 0) (tg : g 0 ≠ 0) :
    Calls Yba.prog 6 #[.pointer (some ⟨bz, 0, none⟩), .pointer (some ⟨bx, 0, none⟩), .pointer (some ⟨bY, 0, none⟩)] w fun e w' => ∃ (k : Nat) (p : Nat → Int), e = .returned (.pointer (some ⟨bz, 0, none⟩)) ∧ Wd w' bz k p ∧ Norm k p (val f n * g 0) ∧ k ≤ 10 ∧ Fx bz w w' := by
  have c1 := hx.cn
  have c2 := hy.cn
  have c3 := hy.cw 0 (by omega)
  have hnb : ((n : Int) == 0) = false := by simp; omega
  have hg0 := hg 0 (by omega)
  have H := mulWord_any bz bx n nz (g 0) f h w hz hx.xs hn1 hn hf tf (by omega) hg0.2
  go_enter Yba.func6, Yba.ntmps6
  go_wp2_with (go_at_call 9; refine H.mono ?_; rintro e w' ⟨k, p, rfl, h1, h2, h3, h4⟩)
  go_ret
  exact ⟨k, p, rfl, h1, h2, h3, h4⟩

theorem long_x1 (bz bx bY m : Nat) (nz : Int) (f g h : Nat → Int) (w : World) (hz : Wd w bz nz h) (hx : Wd w bx 1 f) (hy : Wd w bY m g) (hm1 : 2 ≤ m) (hm : m ≤ 9) (hf : Words f 1) (hg : Words g m) (tf : f 0 ≠ 0) (tg : g (m - 1) ≠ 0) :
    Calls Yba.prog 6 #[.pointer (some ⟨bz, 0, none⟩), .pointer (some ⟨bx, 0, none⟩), .pointer (some ⟨bY, 0, none⟩)] w fun e w' => ∃ (k : Nat) (p : Nat → Int), e = .returned (.pointer (some ⟨bz, 0, none⟩)) ∧ Wd w' bz k p ∧ Norm k p (val g m * f 0) ∧ k ≤ 10 ∧ Fx bz w w' := by
  have c1 := hx.cn
  have c2 := hy.cn
  have c3 := hx.cw 0 (by omega)
  have hnb : ((m : Int) == 0) = false := by simp; omega
  have hnb1 : ((m : Int) == 1) = false := by simp; omega
  have hf0 := hf 0 (by omega)
  have H := mulWord_any bz bY m nz (f 0) g h w hz hy.xs (by omega) hm hg tg (by omega) hf0.2
  go_enter Yba.func6, Yba.ntmps6
  go_wp2_with (go_at_call 9; refine H.mono ?_; rintro e w' ⟨k, p, rfl, h1, h2, h3, h4⟩)
  go_ret
  exact ⟨k, p, rfl, h1, h2, h3, h4⟩

set_option maxHeartbeats 4000000 in
set_option maxRecDepth 100000 in
theorem long_many (bz bx bY n m : Nat) (nz : Int) (f g h : Nat → Int) (w : World) (hz : Wd w bz nz h) (hx : Wd w bx n f) (hy : Wd w bY m g) (hn : 2 ≤ n) (hm : 2 ≤ m) (hnm : n + m ≤ 10) (hf : Words f n) (hg : Words g m) (tf : f (n - 1) ≠ 0) (tg : g (m - 1) ≠ 0) :
    Calls Yba.prog 6 #[.pointer (some ⟨bz, 0, none⟩), .pointer (some ⟨bx, 0, none⟩), .pointer (some ⟨bY, 0, none⟩)] w fun e w' => ∃ (k : Nat) (p : Nat → Int), e = .returned (.pointer (some ⟨bz, 0, none⟩)) ∧ Wd w' bz k p ∧ Norm k p (val f n * val g m) ∧ k ≤ 10 ∧ Fx bz w w' := by
  have c1 := hx.cn
  have c2 := hy.cn
  have hnb0 : ((n : Int) == 0) = false := by simp; omega
  have hnb1 : ((n : Int) == 1) = false := by simp; omega
  have hmb0 : ((m : Int) == 0) = false := by simp; omega
  have hmb1 : ((m : Int) == 1) = false := by simp; omega
  go_enter Yba.func6, Yba.ntmps6
  go_wp2_with fail
  obtain ⟨w1, hw1, hT1, hF1, hS1, ho1, ht1, hu1⟩ := new_tw w
  rw [← hw1]
  have hz1 := hz.keep (hF1 bz hz.lt)
  have hx1 := hx.keep (hF1 bx hx.lt)
  have hy1 := hy.keep (hF1 bY hy.lt)
  have d1 := hx1.cn
  have d2 := hy1.cn
  have n10 : (n : Int) ≤ 10 := by omega
  have m10 : (m : Int) ≤ 10 := by omega
  have n0 : (0 : Int) ≤ n := by omega
  have m0 : (0 : Int) ≤ m := by omega
  have hcap : n ≤ 10 := by omega
  have hcapm : m ≤ 10 := by omega
  have q1 : w.heap.size ≠ bx := by have := hx.lt; omega
  have q2 : w.heap.size ≠ bY := by have := hy.lt; omega
  have q4 : w.heap.size ≠ bz := by have := hz.lt; omega
  have q3 : n + m ≤ 20 := by omega
  clear hw1
  go_region_held3 (fun w' => w'.cell? ⟨bx, 0, none⟩ = some (.int .i64 n) ∧ w'.cell? ⟨bY, 0, none⟩ = some (.int .i64 m)) (first | exact ⟨d1, d2⟩ | exact ⟨hx2.cn, hy2.cn⟩ | go_keep) (first | (go_at_call 10; refine Calls.mono (mulWords_any w.heap.size bx bY n m n m f g _ hT1 hx1 hy1 q1 q2 q3 hcap hcapm hf hg) ?_; rintro e w2 ⟨p, rfl, hT2, hpw, hpe, hF2⟩; have hx2 : Wd w2 bx n f := hx1.keep (hF2.block bx hx1.lt q1.symm); have hy2 : Wd w2 bY m g := hy1.keep (hF2.block bY hy1.lt q2.symm); have hz2 : Wd w2 bz nz h := hz1.keep (hF2.block bz hz1.lt q4.symm)))
  obtain ⟨N, hN⟩ : ∃ N : Nat, N + 1 = n + m := ⟨n + m - 1, by omega⟩
  have hNs : (n : Int) + m = N + 1 := by omega
  have hNw : IntKind.i64.wrap ((n : Int) + m) = N + 1 := by rw [hNs]; exact IntWalk.i64_in _ (by omega)
  have e1 := hx2.cn
  have e2 := hy2.cn
  have e3 := hT2.c N (by omega)
  have hNorm := prod_norm (p := p) (by omega) (by omega) hf hg tf tg (hpw.le (by omega)) hpe
  rw [← hN, show N + 1 - 1 = N by omega] at hNorm
  have hfx : ∀ w3, Fx bz w2 w3 → Fx bz w w3 := fun w3 h3 => by
    have s1 := hF2.size
    have s2 : w1.heap.size ≤ w2.heap.size := s1
    refine ⟨h3.os.trans (hF2.os.trans ho1), h3.tape.trans (hF2.tape.trans ht1), h3.output.trans (hF2.output.trans hu1), by have := h3.size; omega, fun k hk hne => ?_⟩
    have b1 : w2.heap[k]? = w1.heap[k]? := hF2.block k (show k < w1.heap.size by omega) (by omega)
    exact (h3.block k (by omega) hne).trans (b1.trans (hF1 k hk))
  clear d1 d2 c1 c2
  go_wp2_with fail
  go_quiet (fail)
  have f1 : N ≤ 20 := by omega
  have g1 : N ≤ 10 := by omega
  have g2 : N + 1 ≤ 10 := by omega
  have f2 : (N : Int) ≤ 20 := by omega
  have f3 : (0 : Int) ≤ N := by omega
  have f4 : N + 1 ≤ 20 := by omega
  have f5 : (N : Int) + 1 ≤ 20 := by omega
  have f6 : (0 : Int) ≤ (N : Int) + 1 := by omega
  have f7 : ((N : Int) + 1).toNat = N + 1 := by omega
  by_cases hp0 : p N = 0
  · have hp0b : (p N == 0) = true := by simp [hp0]
    go_wp2_with fail
    rw [if_pos hp0] at hNorm
    go_region_law ((refine step_copy_words rfl (.tmp 94) (.tmp 96) rfl bz w.heap.size N g1 (by simp [Act.eval, Act.put]) (by simp [Act.eval, Act.put]) nz h p hz2 hT2 ?_; intro w3 hz3 hF3))
    have e4 := hz3.cn
    have e5 := hz3.frozen 0
    go_wp2_with fail
    go_ret
    exact ⟨N, _, rfl, hz3.setn _, hNorm.laid h, by omega, (hfx w3 ⟨hF3.os, hF3.tape, hF3.output, hF3.size, hF3.block⟩).setCell _ _⟩
  · have hp0b : (p N == 0) = false := by simp [hp0]
    go_wp2_with fail
    rw [if_neg hp0] at hNorm
    go_region_law ((refine step_copy_words rfl (.tmp 94) (.tmp 96) rfl bz w.heap.size (N + 1) g2 (by simp [Act.eval, Act.put]) (by simp [Act.eval, Act.put]; omega) nz h p hz2 hT2 ?_; intro w3 hz3 hF3))
    have e4 := hz3.cn
    have e5 := hz3.frozen 0
    go_wp2_with fail
    go_ret
    exact ⟨N + 1, _, rfl, hz3.setn _, hNorm.laid h, by omega, (hfx w3 ⟨hF3.os, hF3.tape, hF3.output, hF3.size, hF3.block⟩).setCell _ _⟩

/-- What a 'wide' holds: n words, no zero on top. -/
structure Ok (n : Nat) (f : Nat → Int) : Prop where
  words : Words f n
  top : n = 0 ∨ f (n - 1) ≠ 0

theorem mulLong_any (bz bx bY n m : Nat) (nz : Int) (f g h : Nat → Int) (w : World) (hz : Wd w bz nz h) (hx : Wd w bx n f) (hy : Wd w bY m g) (hnm : n + m ≤ 10) (hf : Ok n f) (hg : Ok m g) :
    Calls Yba.prog 6 #[.pointer (some ⟨bz, 0, none⟩), .pointer (some ⟨bx, 0, none⟩), .pointer (some ⟨bY, 0, none⟩)] w fun e w' => ∃ (k : Nat) (p : Nat → Int), e = .returned (.pointer (some ⟨bz, 0, none⟩)) ∧ Wd w' bz k p ∧ Norm k p (val f n * val g m) ∧ k ≤ 10 ∧ Fx bz w w' := by
  by_cases h0 : n = 0 ∨ m = 0
  · refine Calls.mono (long_zero bz bx bY n m nz f g h w hz hx hy h0) ?_
    rintro e w' ⟨rfl, h1, h2⟩
    refine ⟨0, h, rfl, h1, ⟨fun j hj => by omega, ?_, .inl rfl⟩, by omega, h2⟩
    rcases h0 with rfl | rfl <;> simp [val]
  · have tf : f (n - 1) ≠ 0 := by rcases hf.top with e | e; omega; exact e
    have tg : g (m - 1) ≠ 0 := by rcases hg.top with e | e; omega; exact e
    by_cases hm1 : m = 1
    · subst hm1
      refine Calls.mono (long_y1 bz bx bY n nz f g h w hz hx hy (by omega) (by omega) hf.words hg.words tf tg) ?_
      rintro e w' ⟨k, p, rfl, h1, h2, h3, h4⟩
      exact ⟨k, p, rfl, h1, by simpa [val] using h2, h3, h4⟩
    · by_cases hn1 : n = 1
      · subst hn1
        refine Calls.mono (long_x1 bz bx bY m nz f g h w hz hx hy (by omega) (by omega) hf.words hg.words tf tg) ?_
        rintro e w' ⟨k, p, rfl, h1, h2, h3, h4⟩
        exact ⟨k, p, rfl, h1, by rw [Int.mul_comm]; simpa [val] using h2, h3, h4⟩
      · exact long_many bz bx bY n m nz f g h w hz hx hy (by omega) (by omega) hnm hf.words hg.words tf tg
end Go.Proofs.Ybulkbhoa
