/-
  DERIVED. Seat b2925a: carryOut (14), mulWord (9).
-/
import Derived.Test.YbulkbhoaBits
import Derived.Deep.RegionHeld3
import Derived.BigRegion
import Derived.IntWalk
namespace Go.Proofs.Ybulkbhoa
open Go.RowKit
set_option linter.unusedVariables false

theorem carryOut_zero (b n : Nat) (m : Int) (f : Nat → Int) (w : World) (h : Wd w b m f) (hn : n ≤ 9) :
    Calls Yba.prog 14 #[.pointer (some ⟨b, 0, none⟩), .int .i64 n, .int .u64 0] w fun e w' => e = .returned (.pointer (some ⟨b, 0, none⟩)) ∧ Wd w' b n f ∧ Fx b w w' := by
  have hf0 := h.frozen 0
  have hc0 := h.cn
  go_enter Yba.func14, Yba.ntmps14
  go_wp2
  go_ret
  exact ⟨rfl, h.setn _, (Fx.refl _ _).setCell _ _⟩

theorem carryOut_more (b n : Nat) (m c : Int) (f : Nat → Int) (w : World) (h : Wd w b m f) (hn : n ≤ 9) (hc : c ≠ 0) :
    Calls Yba.prog 14 #[.pointer (some ⟨b, 0, none⟩), .int .i64 n, .int .u64 c] w fun e w' => e = .returned (.pointer (some ⟨b, 0, none⟩)) ∧ Wd w' b (n + 1 : Nat) (upd f n c) ∧ Fx b w w' := by
  have hf0 := h.frozen 0
  have hfn := h.frozen (1 + n)
  have hc0 := h.cn
  have hcn := h.cw n (by omega)
  have hcb : (c == 0) = false := by simpa using hc
  have hnb : ((n : Int) == 10) = false := by simp; omega
  go_enter Yba.func14, Yba.ntmps14
  go_wp2
  go_ret
  exact ⟨rfl, (h.setw n c).setn _, ((Fx.refl _ _).setCell _ _).setCell _ _⟩

/-- What mulWord needs to know of x: its count, and the words from i on. -/
def Xs (w : World) (b : Nat) (n : Int) (f : Nat → Int) (i : Nat) : Prop :=
  w.cell? ⟨b, 0, none⟩ = some (.int .i64 n) ∧ ∀ j, i ≤ j → j < 10 → w.cell? ⟨b, 1 + j, none⟩ = some (.int .u64 (f j))
theorem Wd.xs {w : World} {b : Nat} {n : Int} {f : Nat → Int} (h : Wd w b n f) : Xs w b n f 0 := ⟨h.cn, fun j _ hj => h.cw j hj⟩
theorem Xs.step {w : World} {bx bz : Nat} {n : Int} {f : Nat → Int} {i : Nat} (h : Xs w bx n f i) (v : Value) : Xs (w.setCell ⟨bz, 1 + i, none⟩ v) bx n f (i + 1) := by
  refine ⟨?_, fun j h1 h2 => ?_⟩
  · rw [World.cell?_setCell_other w _ _ _ (by intro e; injection e with e1 e2 e3; omega)]; exact h.1
  · rw [World.cell?_setCell_other w _ _ _ (by intro e; injection e with e1 e2 e3; omega)]; exact h.2 j (by omega) h2

theorem word_step (a y c : Int) (ha0 : 0 ≤ a) (ha : a < 18446744073709551616) (hb0 : 0 ≤ y) (hb : y < 18446744073709551616) (hc0 : 0 ≤ c) (hc : c < 18446744073709551616) :
    (a * y % 18446744073709551616 + c) % 18446744073709551616 = (a * y + c) % 18446744073709551616 ∧
    (a * y / 18446744073709551616 + (a * y % 18446744073709551616 + c) / 18446744073709551616) = (a * y + c) / 18446744073709551616 ∧
    0 ≤ (a * y + c) / 18446744073709551616 ∧ (a * y + c) / 18446744073709551616 < 18446744073709551616 := by
  have := mul_bound a y ha0 ha hb0 hb
  generalize a * y = p at *
  omega

theorem word_val (p f : Nat → Int) (i : Nat) (y c : Int) (he : val p i + c * (18446744073709551616 : Int) ^ i = val f i * y) :
    val (upd p i ((f i * y + c) % 18446744073709551616)) (i + 1) + (f i * y + c) / 18446744073709551616 * (18446744073709551616 : Int) ^ (i + 1) = val f (i + 1) * y := by
  simp only [val]
  rw [val_upd_past _ _ _ _ (Nat.le_refl i), upd_same, Int.pow_succ]
  have e1 := Int.emod_add_mul_ediv (f i * y + c) 18446744073709551616
  generalize (f i * y + c) % 18446744073709551616 = r at *
  generalize (f i * y + c) / 18446744073709551616 = d at *
  generalize (18446744073709551616 : Int) ^ i = q at *
  grind

set_option maxHeartbeats 1000000 in
theorem mulWord_any (bz bx n : Nat) (m y : Int) (f g : Nat → Int) (w : World) (h : Wd w bz m g) (hx : Xs w bx n f 0) (hn1 : 1 ≤ n) (hn : n ≤ 9) (hf : Words f n) (tf : f (n - 1) ≠ 0) (y0 : 0 < y) (y1 : y < 18446744073709551616) :
    Calls Yba.prog 9 #[.pointer (some ⟨bz, 0, none⟩), .pointer (some ⟨bx, 0, none⟩), .int .u64 y] w fun e w' => ∃ (k : Nat) (p : Nat → Int), e = .returned (.pointer (some ⟨bz, 0, none⟩)) ∧ Wd w' bz k p ∧ Norm k p (val f n * y) ∧ k ≤ 10 ∧ Fx bz w w' := by
  have hx0 := hx.1
  go_enter Yba.func9, Yba.ntmps9
  go_wp2
  go_loopw [16, 7] (fun vi vc wr => ∃ (i : Nat) (c : Int) (p : Nat → Int), vi = .int .i64 i ∧ vc = .int .u64 c ∧ i ≤ n ∧ 0 ≤ c ∧ c < 18446744073709551616 ∧ Wd wr bz m p ∧ Xs wr bx n f i ∧ Fx bz w wr ∧ Words p i ∧
      val p i + c * (18446744073709551616 : Int) ^ i = val f i * y)
    (fun vi _ _ => n - (intOf vi).toNat)
  case atStart => exact ⟨0, 0, g, rfl, rfl, by omega, by omega, by omega, h, hx, Fx.refl _ _, fun j hj => by omega, by simp [val]⟩
  case round =>
    obtain ⟨i, c, p, rfl, rfl, hin, hc0, hc1, hz, hxs, hfx, hpw, hpe⟩ := hrel
    by_cases hlt : i < n
    · have hltb : ((i : Int) < n) = True := by simp; omega
      have hxi := hxs.2 i (Nat.le_refl _) (by omega)
      have hfi := hf i hlt
      have M := mul64 (f i) y hfi.1 hfi.2 (Int.le_of_lt y0) y1
      have hfz := hz.frozen (1 + i)
      have hcz := hz.cw i (by omega)
      go_wp2_with (first | (go_at_call 12; refine (M _).mono ?_; rintro e w' ⟨rfl, rfl⟩))
      have hs := word_step (f i) y c hfi.1 hfi.2 (Int.le_of_lt y0) y1 hc0 hc1
      have k0 : 0 ≤ f i * y % 18446744073709551616 := by omega
      go_region_with (simp only [add64_0 _ _ k0 hc0])
      go_wp2
      go_roundw
      case rel =>
        refine ⟨i + 1, (f i * y + c) / 18446744073709551616, upd p i ((f i * y + c) % 18446744073709551616), ?_, ?_, by omega, hs.2.2.1, hs.2.2.2, hz.setw _ _, hxs.step _, hfx.drew.setCell _ _, ?_, ?_⟩
        · go_num
        · rfl
        · intro j hj
          by_cases e : j = i
          · subst e; rw [upd_same]; omega
          · rw [upd_other _ _ _ _ e]; exact hpw j (by omega)
        · exact word_val p f i y c hpe
      case measure => simp [intOf]; omega
    · obtain rfl : i = n := by omega
      have hltb : ¬ ((i : Int) < i) := by omega
      have hxn := hxs.1
      have hN := word_norm (c := c) hn1 hf tf y0 hpw hc0 hc1 hpe
      by_cases hcz : c = 0
      · subst hcz
        go_wp2_with (go_at_call 14; refine (carryOut_zero bz i m p _ hz (by omega)).mono ?_; rintro e w' ⟨rfl, hz', hf'⟩)
        go_ret
        exact ⟨i, p, rfl, hz', by simpa using hN, by omega, hfx.trans hf'⟩
      · go_wp2_with (go_at_call 14; refine (carryOut_more bz i m c p _ hz (by omega) hcz).mono ?_; rintro e w' ⟨rfl, hz', hf'⟩)
        go_ret
        exact ⟨i + 1, _, rfl, hz', by simpa [hcz] using hN, by omega, hfx.trans hf'⟩
end Go.Proofs.Ybulkbhoa
