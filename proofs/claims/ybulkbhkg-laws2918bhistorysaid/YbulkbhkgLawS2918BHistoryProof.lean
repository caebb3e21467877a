/-
  DERIVED. Seat b2918a: the row of LawS2918BHistory: the frame is the one that the kit's tool wrote for this law; the walk is YbulkbhkgHist.lean.
-/
import Derived.Test.YbulkbhkgRows
import Derived.Test.YbulkbhkgHist
import Derived.WalkKit
import Derived.ProofKit
import Derived.OpenShut
import Derived.ShutString
import Derived.ChangeOld
import Derived.Below
namespace Go.Proofs.Ybulkbhkg.lawS2918BHistory
open Go.ChangeShapes Go.WideShapes Go.ChangeAt Go.RowKit
open Go.ChangeMaps (open_string shut_string)
set_option linter.unusedVariables false

theorem own : ownKnob Yba.prog.godebug = none := by kernel_rfl
theorem laidOut : laidOutB Yba.prog = true := by kernel_rfl

/-- WHAT THE WALK IS TOLD OF A SLICE OF INTEGERS THAT CAME IN: it is nil; or it leads to a row of 'cap' cells, the numbers 'zs' (the first 'len' are its elements, the rest its spare room), each fitting its kind. -/
def IsRow (k : IntKind) (w : World) (a : Option Addr) (len cap : Nat) (zs : List Int) : Prop :=
  (a = none ∧ len = 0 ∧ cap = 0 ∧ zs = []) ∨
  ∃ x, a = some x ∧ len ≤ cap ∧ cap ≤ maxLen ∧ zs.length = cap ∧ (∀ i, i < zs.length → w.cell? (x.add i) = some (.int k (zs.getD i 0))) ∧ ∀ n ∈ zs, (Lit.int k n).wf = true

/-! ### STEP 1: THE WALK: the Go text returns true, AND WRITES NOTHING THAT WAS THERE: 'Below w.heap.size w w'' (Derived/Below.lean: '.refl', '.alloc', '.drew', '.setCell' at a new block, '.trans'). Open each 'IsRow' by 'rcases' AHEAD of 'go_enter'; part every test ahead of the walk. -/
theorem walk (a0 : Option Addr) (len0 cap0 : Nat) (z0 : List Int) (a1 : Int) (a2 : Int) (a3 : Int) (a4 : Int) (w : World) (w0 : IsRow .u8 w a0 len0 cap0 z0) (w1 : (Lit.int .i64 a1).wf = true) (w2 : (Lit.int .i64 a2).wf = true) (w3 : (Lit.int .i64 a3).wf = true) (w4 : (Lit.int .i64 a4).wf = true) :
    Calls Yba.prog 4 #[.slice a0 len0 cap0, .int .i64 a1, .int .i64 a2, .int .i64 a3, .int .i64 a4] w fun e w' => e = .returned (.bool true) ∧ Below w.heap.size w w' := by
  have b1 : -9223372036854775808 ≤ a1 ∧ a1 ≤ 9223372036854775807 := by simpa [Lit.wf, IntKind.min, IntKind.max, IntKind.signed, IntKind.bits] using w1
  have b3 : -9223372036854775808 ≤ a3 ∧ a3 ≤ 9223372036854775807 := by simpa [Lit.wf, IntKind.min, IntKind.max, IntKind.signed, IntKind.bits] using w3
  have b4 : -9223372036854775808 ≤ a4 ∧ a4 ≤ 9223372036854775807 := by simpa [Lit.wf, IntKind.min, IntKind.max, IntKind.signed, IntKind.bits] using w4
  have o0 : -1099511627776 < a2.tmod 1099511627776 := by
    have := Int.tmod_lt_of_pos (-a2) (show (0 : Int) < 1099511627776 by decide)
    rw [Int.neg_tmod] at this
    omega
  have o1 : a2.tmod 1099511627776 < 1099511627776 := Int.tmod_lt_of_pos a2 (by decide)
  by_cases hl : len0 ≤ 1024
  · obtain ⟨xs, hpre, hxs⟩ : ∃ xs : List Value, Pre w (.slice a0 len0 cap0) len0 xs ∧ ∀ u ∈ xs, ∃ q, u = .int .u8 q := by
      rcases w0 with ⟨rfl, rfl, rfl, rfl⟩ | ⟨x, rfl, hlc, hcm, hz, hcell, hwz⟩
      · exact ⟨[], .inl ⟨rfl, rfl, rfl⟩, fun u hu => by cases hu⟩
      · refine ⟨(z0.take len0).map (Value.int .u8), .inr ⟨x, cap0, rfl, ?_, ?_, ?_⟩, ?_⟩
        · simp; omega
        · intro j u hj
          rw [List.getElem?_map] at hj
          obtain ⟨q, hq, rfl⟩ := Option.map_eq_some_iff.1 hj
          have hjl : j < len0 := by
            have := (List.getElem?_eq_some_iff.1 hq).1
            simp at this; omega
          have hq' : z0[j]? = some q := by rw [List.getElem?_take_of_lt hjl] at hq; exact hq
          have h := hcell j (by omega)
          rw [List.getD_eq_getElem?_getD, hq'] at h
          exact h
        · intro u hu
          obtain ⟨q, _, rfl⟩ := List.mem_map.1 hu
          rfl
        · intro u hu
          obtain ⟨q, _, rfl⟩ := List.mem_map.1 hu
          exact ⟨q, rfl⟩
    exact hist_a a0 len0 cap0 xs a1 a2 _ a3 a4 w (by omega) rfl o0 o1 b1.1 b1.2 b3.1 b3.2 b4.1 b4.2 hpre hxs
  · exact hist_long .nilIface a0 len0 cap0 a1 a2 a3 a4 w (by omega)

/-! ### THE ROW's STEP: WRITTEN OUT: LEAVE IT -/
set_option maxRecDepth 100000 in
theorem lifted (os : Os) (started : os.Started) (H : Type) (enc : TypeId × Value → H) :
    ReturnsInHanded {} Yba.checked os 4 .any (Rows.lawS2918BHistorySpec.pre6 enc Yba.prog Yba.f4 Rows.lawS2918BHistoryRow.domain false) (Rows.lawS2918BHistorySpec.post enc Yba.prog Yba.f4 false true false false) := by
  refine returnsInHanded_of_change (C := Yba.checked) own started (by kernel_rfl) Yba.func4
    (ChangeSpec.witness6 (enc := enc) (C := Yba.checked) false ⟨#[], #[.slice none 0 0, .int .i64 0, .int .i64 0, .int .i64 0, .int .i64 0], []⟩ 8 (by kernel_rfl) (by kernel_rfl) (by kernel_rfl) (by kernel_rfl)) ?_
  intro W base args ds gs before hval0 hW hcnd _
  have hval : ∀ (j : Nat) t v, Yba.f4.params[j]? = some t → args[j]? = some v → Value.okWide Yba.prog W .any base t v := hval0
  have hW' := hW
  obtain ⟨p, q, hA0, hV, rfl, hfz, hnd⟩ := hW
  have hA : DataW.TrodAll enc Yba.prog W 0 (fun _ => true) true Yba.f4.params.toList args.toList ds p := hA0
  rw [Yba.params4] at hA hval
  obtain ⟨v0, vs0, d0, ds0, p0, q0, hargs, rfl, rfl, h0, r0⟩ := trodAll_cons hA
  obtain ⟨v1, vs1, d1, ds1, p1, q1, rfl, rfl, rfl, h1, r1⟩ := trodAll_cons r0
  obtain ⟨v2, vs2, d2, ds2, p2, q2, rfl, rfl, rfl, h2, r2⟩ := trodAll_cons r1
  obtain ⟨v3, vs3, d3, ds3, p3, q3, rfl, rfl, rfl, h3, r3⟩ := trodAll_cons r2
  obtain ⟨v4, vs4, d4, ds4, p4, q4, rfl, rfl, rfl, h4, r4⟩ := trodAll_cons r3
  obtain ⟨rfl, rfl, rfl⟩ := trodAll_nil r4
  obtain rfl : args = #[v0, v1, v2, v3, v4] := by cases args; simp_all
  obtain ⟨rfl, rfl⟩ := trodVars_none hV
  obtain ⟨a0, len0, cap0, rfl⟩ := okWide_slice Yba.underlying56 (hval 0 56 v0 rfl rfl)
  have k0 := h0
  have lt0 : ∀ x ∈ p0, x.block < W.heap.size := by obtain ⟨m, hm⟩ := k0; exact DataW.trod_lt m _ _ _ hm
  obtain ⟨z0, w0⟩ : ∃ zs, IsRow .u8 W a0 len0 cap0 zs := by
    obtain ⟨fuel, hf⟩ := h0
    rcases open_ints Yba.underlying56 Yba.underlying5 (by kernel_rfl) hf with ⟨hcs, _⟩ | ⟨x, l, c, zs, hcs, _, hl, hm, hz, _, hcell, hwz⟩
    · simp [Value.cells] at hcs
      obtain ⟨rfl, rfl, rfl⟩ := hcs
      exact ⟨[], .inl ⟨rfl, rfl, rfl, rfl⟩⟩
    · simp [Value.cells] at hcs
      obtain ⟨rfl, rfl, rfl⟩ := hcs
      exact ⟨zs, .inr ⟨_, rfl, hl, hm, by simpa using hz, hcell, hwz⟩⟩
  obtain ⟨a1, rfl, rfl, rfl, w1⟩ := open_int Yba.underlying2 (hval 1 2 v1 rfl rfl) h1
  obtain ⟨a2, rfl, rfl, rfl, w2⟩ := open_int Yba.underlying2 (hval 2 2 v2 rfl rfl) h2
  obtain ⟨a3, rfl, rfl, rfl, w3⟩ := open_int Yba.underlying2 (hval 3 2 v3 rfl rfl) h3
  obtain ⟨a4, rfl, rfl, rfl, w4⟩ := open_int Yba.underlying2 (hval 4 2 v4 rfl rfl) h4
  clear hA0 hval0
  refine (walk a0 len0 cap0 z0 a1 a2 a3 a4 W w0 w1 w2 w3 w4).mono fun e W' ⟨he, bel⟩ => ?_
  subst he
  exact ⟨_, rfl, _, _, _, [], _, [], hW', trodAll_mk1 (shut_bool Yba.underlying4 _), (trodAll_cons_mk (Below.trod laidOut (by kernel_rfl) (of_decide_eq_true (by kernel_rfl)) k0 bel lt0) (trodAll_cons_mk (shut_int Yba.underlying2 w1) (trodAll_cons_mk (shut_int Yba.underlying2 w2) (trodAll_cons_mk (shut_int Yba.underlying2 w3) (trodAll_cons_mk (shut_int Yba.underlying2 w4) trodAll_mk0))))), rfl, bel.frame _, fun h => by cases h⟩

theorem over : Rows.lawS2918BHistoryRow.holds Yba.pinned (OpenSpec.ofChange Rows.lawS2918BHistorySpec) :=
  OpenClaim.holds_of_wide 4 Yba.f4 rfl rfl rfl rfl rfl rfl rfl ⟨rfl, rfl, rfl, rfl, rfl⟩ rfl rfl rfl rfl rfl (by kernel_rfl) Yba.func4 (by kernel_rfl)
    (of_decide_eq_true (by kernel_rfl)) (by unfold Func.isWrapper; first | (rw [if_pos (by decide +kernel)]; kernel_rfl) | (rw [if_neg (by decide +kernel)]; exact ⟨rfl, rfl⟩))
    (fun os started H enc _ => lifted os started H enc)

/-- ████ THE STATEMENT ████ -/
theorem proved : Rows.LawS2918BHistorySaid := over
#print axioms proved
end Go.Proofs.Ybulkbhkg.lawS2918BHistory
