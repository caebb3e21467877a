/-
  DERIVED. Seat b2919aF: slices of bytes as they read; zzs2919beq.
-/
import Derived.Test.YbulkbhkuFmtFacts
import Derived.Deep.QuietTactic
import Derived.BigQuiet
import Derived.WalkSmall
namespace Go.Proofs.YbulkbhkuFmt
open Go.RowKit
set_option linter.unusedVariables false

/-- The slice (a, n, ..) reads the bytes zs in the world w. -/
def Rd (w : World) (a : Option Addr) (n : Nat) (zs : List Int) : Prop :=
  zs.length = n ∧ (n = 0 ∨ ∃ b o, a = some ⟨b, o, none⟩ ∧ ∀ i, i < n → w.cell? ⟨b, o + i, none⟩ = some (.int .u8 (zs.getD i 0)))

theorem Rd.keep {w w' : World} {a : Option Addr} {n : Nat} {zs : List Int} (h : Rd w a n zs) (hk : ∀ x, a = some x → w'.heap[x.block]? = w.heap[x.block]?) : Rd w' a n zs := by
  refine ⟨h.1, ?_⟩
  rcases h.2 with h0 | ⟨b, o, rfl, hc⟩
  · exact .inl h0
  · refine .inr ⟨b, o, rfl, fun i hi => ?_⟩
    rw [World.cell?_of_block (w := w) (a := ⟨b, o + i, none⟩) (hk ⟨b, o, none⟩ rfl)]
    exact hc i hi

theorem eq_zero (a b : Option Addr) (ca cb : Nat) (w : World) : Calls Ybaf.prog 7 #[.slice a 0 ca, .slice b 0 cb] w fun e w' => e = .returned (.bool true) ∧ ∃ q, w' = w.drewN q := by
  go_enter Ybaf.func7, Ybaf.ntmps7
  go_wp2_with fail
  go_loop [5] (fun i => i = .int .i64 0) (fun _ => 0)
  case atStart => rfl
  case round =>
    subst hrel
    go_wp2
    go_ret
    exact ⟨rfl, 0, rfl⟩

theorem eq_some (ba oa bb ob ca cb n : Nat) (zs : List Int) (w : World) (hn : n ≤ 100000) (hz : zs.length = n)
    (h1 : ∀ i, i < n → w.cell? ⟨ba, oa + i, none⟩ = some (.int .u8 (zs.getD i 0))) (h2 : ∀ i, i < n → w.cell? ⟨bb, ob + i, none⟩ = some (.int .u8 (zs.getD i 0))) :
    Calls Ybaf.prog 7 #[.slice (some ⟨ba, oa, none⟩) n ca, .slice (some ⟨bb, ob, none⟩) n cb] w fun e w' => e = .returned (.bool true) ∧ ∃ q, w' = w.drewN q := by
  have H1 : Hid (∀ i, i < n → w.cell? ⟨ba, oa + i, none⟩ = some (.int .u8 (zs.getD i 0))) := h1
  have H2 : Hid (∀ i, i < n → w.cell? ⟨bb, ob + i, none⟩ = some (.int .u8 (zs.getD i 0))) := h2
  clear h1 h2
  go_enter Ybaf.func7, Ybaf.ntmps7
  go_wp2_with fail
  go_loopw [5] (fun i wr => ∃ (k q : Nat), k ≤ n ∧ i = .int .i64 k ∧ wr = w.drewN q) (fun i _ => n - (intOf i).toNat)
  case atStart => exact ⟨0, 0, Nat.zero_le _, rfl, rfl⟩
  case round =>
    obtain ⟨k, q, hk, rfl, rfl⟩ := hrel
    by_cases hlt : k < n
    · have hv1 := H1.out k hlt
      have hv2 := H2.out k hlt
      generalize zs.getD k 0 = v at hv1 hv2
      have hlt' : (k : Int) < (n : Int) := by omega
      have hk0 : (0 : Int) ≤ (k : Int) := by omega
      go_wp2_with fail
      go_quiet (fail)
      go_wp2
      go_roundw
      case rel => exact ⟨k + 1, q + nq, by omega, by go_num, rfl⟩
      case measure => simp [intOf]; omega
    · have hlt' : ¬ (k : Int) < (n : Int) := by omega
      go_wp2
      go_ret
      exact ⟨rfl, q, rfl⟩

/-- zzs2919beq at two slices that read the same: true; memory stands. -/
theorem eq_any (a b : Option Addr) (ca cb n : Nat) (zs : List Int) (w : World) (hn : n ≤ 100000) (h1 : Rd w a n zs) (h2 : Rd w b n zs) :
    Calls Ybaf.prog 7 #[.slice a n ca, .slice b n cb] w fun e w' => e = .returned (.bool true) ∧ ∃ q, w' = w.drewN q := by
  by_cases h0 : n = 0
  · subst h0
    exact eq_zero a b ca cb w
  · obtain ⟨hz, h1⟩ := h1
    obtain ⟨_, h2⟩ := h2
    rcases h1 with h1 | ⟨ba, oa, rfl, h1⟩
    · exact absurd h1 h0
    · rcases h2 with h2 | ⟨bb, ob, rfl, h2⟩
      · exact absurd h2 h0
      · exact eq_some ba oa bb ob ca cb n zs w hn hz h1 h2

end Go.Proofs.YbulkbhkuFmt
