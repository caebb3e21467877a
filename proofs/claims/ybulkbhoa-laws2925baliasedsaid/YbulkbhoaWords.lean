/-
  DERIVED. Seat b2925a: mulWords (10).
-/
import Derived.Test.YbulkbhoaWord
namespace Go.Proofs.Ybulkbhoa
open Go.RowKit
set_option linter.unusedVariables false

theorem words_step (a y q c : Int) (ha0 : 0 ≤ a) (ha : a < 18446744073709551616) (hb0 : 0 ≤ y) (hb : y < 18446744073709551616) (hq0 : 0 ≤ q) (hq : q < 18446744073709551616) (hc0 : 0 ≤ c) (hc : c < 18446744073709551616) :
    a * y / 18446744073709551616 + (a * y % 18446744073709551616 + q) / 18446744073709551616 = (a * y + q) / 18446744073709551616 ∧
    0 ≤ (a * y + q) / 18446744073709551616 ∧ (a * y + q) / 18446744073709551616 < 18446744073709551616 ∧
    (a * y + q) / 18446744073709551616 + ((a * y + q) % 18446744073709551616 + c) / 18446744073709551616 = (a * y + q + c) / 18446744073709551616 ∧
    0 ≤ (a * y + q + c) / 18446744073709551616 ∧ (a * y + q + c) / 18446744073709551616 < 18446744073709551616 := by
  have := mul_bound a y ha0 ha hb0 hb
  generalize a * y = p at *
  omega

/-- One step of the inner loop: the sum that the words and the carry make. -/
theorem words_val (p : Nat → Int) (i j : Nat) (a b c V G : Int) (hk : i + j < 20) (he : val p 20 + c * (18446744073709551616 : Int) ^ (i + j) = V + a * G * (18446744073709551616 : Int) ^ i) :
    val (upd p (i + j) ((a * b + p (i + j) + c) % 18446744073709551616)) 20 + (a * b + p (i + j) + c) / 18446744073709551616 * (18446744073709551616 : Int) ^ (i + (j + 1)) =
      V + a * (G + b * (18446744073709551616 : Int) ^ j) * (18446744073709551616 : Int) ^ i := by
  rw [val_upd _ _ _ _ hk, ← Nat.add_assoc, Int.pow_succ]
  have e1 := Int.emod_add_mul_ediv (a * b + p (i + j) + c) 18446744073709551616
  generalize (a * b + p (i + j) + c) % 18446744073709551616 = r at *
  generalize (a * b + p (i + j) + c) / 18446744073709551616 = d at *
  rw [Int.pow_add] at *
  generalize (18446744073709551616 : Int) ^ i = q at *
  generalize (18446744073709551616 : Int) ^ j = q' at *
  grind

theorem outer_val (V c Q F G a P : Int) (h : V + c * Q = F * G + a * G * P) : V + (c - 0) * Q = (F + a * P) * G := by grind

set_option maxHeartbeats 2000000 in
theorem mulWords_any (bp bx bY n m : Nat) (nx ny : Int) (f g : Nat → Int) (w : World) (hp : Tw w bp (fun _ => 0)) (hx : Wd w bx nx f) (hy : Wd w bY ny g) (hpx : bp ≠ bx) (hpy : bp ≠ bY) (hnm : n + m ≤ 20) (hn : n ≤ 10) (hm : m ≤ 10) (hf : Words f n) (hg : Words g m) :
    Calls Yba.prog 10 #[.slice (some ⟨bp, 0, none⟩) 20 20, .slice (some ⟨bx, 1, none⟩) n 10, .slice (some ⟨bY, 1, none⟩) m 10] w fun e w' => ∃ p : Nat → Int, e = .returned (.tuple #[]) ∧ Tw w' bp p ∧ Words p 20 ∧ val p (n + m) = val f n * val g m ∧ Fx bp w w' := by
  go_enter Yba.func10, Yba.ntmps10
  go_wp2
  go_loopw [16] (fun vi wr => ∃ (i : Nat) (p : Nat → Int), vi = .int .i64 i ∧ i ≤ n ∧ Tw wr bp p ∧ Words p 20 ∧ (∀ k, i + m ≤ k → p k = 0) ∧ val p 20 = val f i * val g m ∧ Fx bp w wr)
    (fun vi _ => n - (intOf vi).toNat)
  case atStart => exact ⟨0, fun _ => 0, rfl, by omega, hp, fun j _ => ⟨Int.le_refl 0, show (0 : Int) < 18446744073709551616 by decide⟩, fun _ _ => rfl, by rw [val_zeros (n := 0) (fun _ _ => rfl) (by omega)]; simp [val], Fx.refl _ _⟩
  case round =>
    obtain ⟨i, p, rfl, hin, hTp, hpw, hpz, hpe, hfx⟩ := hrel
    by_cases hlt : i < n
    · have hltb : ((i : Int) < n) = True := by simp; omega
      have hxr : Wd wr bx nx f := hx.keep (hfx.block _ hx.lt (Ne.symm hpx))
      have hyr : Wd wr bY ny g := hy.keep (hfx.block _ hy.lt (Ne.symm hpy))
      have hxi := hxr.cw i (by omega)
      have hfi := hf i hlt
      go_wp2
      go_loopw [23, 8] (fun vj vc wq => ∃ (j : Nat) (c : Int) (q : Nat → Int), vj = .int .i64 j ∧ vc = .int .u64 c ∧ j ≤ m ∧ 0 ≤ c ∧ c < 18446744073709551616 ∧ Tw wq bp q ∧ Words q 20 ∧ (∀ k, i + m ≤ k → q k = 0) ∧
          val q 20 + c * (18446744073709551616 : Int) ^ (i + j) = val p 20 + f i * val g j * (18446744073709551616 : Int) ^ i ∧ Fx bp w wq)
        (fun vj _ _ => m - (intOf vj).toNat)
      case atStart => exact ⟨0, 0, p, rfl, rfl, by omega, by omega, by omega, hTp, hpw, hpz, by simp [val], hfx⟩
      case round =>
        obtain ⟨j, c, q, rfl, rfl, hjm, hc0, hc1, hTq, hqw, hqz, hqe, hfq⟩ := hrel
        by_cases hlt2 : j < m
        · have hltb2 : ((j : Int) < m) = True := by simp; omega
          have hyq : Wd wr bY ny g := hy.keep (hfq.block _ hy.lt (Ne.symm hpy))
          have hyj := hyq.cw j (by omega)
          have hgj := hg j hlt2
          have hqk := hqw (i + j) (by omega)
          have hqc := hTq.c (i + j) (by omega)
          have hqf := hTq.frozen (i + j)
          have M := mul64 (f i) (g j) hfi.1 hfi.2 hgj.1 hgj.2
          obtain ⟨s1, s2, s3, s4, s5, s6⟩ := words_step (f i) (g j) (q (i + j)) c hfi.1 hfi.2 hgj.1 hgj.2 hqk.1 hqk.2 hc0 hc1
          have k0 : 0 ≤ f i * g j % 18446744073709551616 := by omega
          have k1 : 0 ≤ (f i * g j + q (i + j)) % 18446744073709551616 := by omega
          go_wp2_with (first | (go_at_call 12; refine (M _).mono ?_; rintro e w' ⟨rfl, rfl⟩) | simp only [add64_0 _ _ k0 hqk.1] | simp only [add64_0 _ _ k1 hc0])
          go_roundw
          case rel =>
            refine ⟨j + 1, (f i * g j + q (i + j) + c) / 18446744073709551616, upd q (i + j) ((f i * g j + q (i + j) + c) % 18446744073709551616), by go_num, rfl, by omega, s5, s6, hTq.set _ _, hqw.upd _ _ (by omega) (by omega), fun k hk => ?_, ?_, hfq.setCell _ _⟩
            · rw [upd_other _ _ _ _ (by omega)]; exact hqz k hk
            · exact words_val q i j (f i) (g j) c (val p 20) (val g j) (by omega) hqe
          case measure => simp [intOf]; omega
        · obtain rfl : j = m := by omega
          have hltb2 : ¬ ((j : Int) < j) := by omega
          have hqc := hTq.c (i + j) (by omega)
          have hqf := hTq.frozen (i + j)
          go_wp2
          go_roundw
          case rel =>
            refine ⟨i + 1, upd q (i + j) c, by go_num, by omega, hTq.set _ _, hqw.upd _ _ hc0 hc1, fun k hk => ?_, ?_, hfq.setCell _ _⟩
            · rw [upd_other _ _ _ _ (by omega)]; exact hqz k (by omega)
            · rw [val_upd _ _ _ _ (by omega), hqz (i + j) (Nat.le_refl _)]
              simp only [val]
              rw [hpe] at hqe
              exact outer_val _ _ _ _ _ _ _ hqe
          case measure => simp [intOf]; omega
    · obtain rfl : i = n := by omega
      have hltb : ¬ ((i : Int) < i) := by omega
      go_wp2
      go_end0
      exact ⟨rfl, p, hTp, hpw, by rw [← hpe]; exact (val_zeros hpz (by omega)).symm, hfx⟩
end Go.Proofs.Ybulkbhoa
