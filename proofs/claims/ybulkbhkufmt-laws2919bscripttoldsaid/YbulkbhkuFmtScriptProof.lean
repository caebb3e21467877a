/-
  DERIVED. Seat b2919aF: the told card of LawS2919BScript.
-/
import Derived.Test.YbulkbhkuFmtScript
import Derived.ProofKit
import Derived.OpenShut
import Derived.ShutString
import Derived.ChangeOld
import Derived.Stop.JoinedAt
import Derived.Stop.JoinedTold
import Derived.SevenToldRow
namespace Go.Proofs.YbulkbhkuFmt
open Go.ChangeShapes Go.WideShapes Go.ChangeAt Go.RowKit Go.Kit
open Go.ChangeMaps (open_string shut_string)
open Go.Extern.Stop Go.Stop Go.Extern
set_option linter.unusedVariables false

theorem sc_own : ownKnob Ybaf.prog.godebug = none := by kernel_rfl
theorem sc_laidOut : laidOutB Ybaf.pinned.checked.prog = true := by kernel_rfl
theorem sc_stops : Ybaf.pinned.checked.prog.stops = ["fmt.errorf"] := by kernel_rfl
theorem sc_stopKnobs : Ybaf.pinned.checked.prog.stopKnobs = [] := by kernel_rfl
theorem sc_quiet (os : Os) : Stop.quiet Ybaf.pinned.checked.prog os := by
  intro k hk
  rw [sc_stopKnobs] at hk
  cases hk

theorem script_any (F : Interp) (a0 s0 : Option Addr) (len cap ns scap : Nat) (zs ss : List Int) (t : Int) (w : World) (hF : F.answers w.tape) (ht0 : -9223372036854775808 ≤ t) (ht1 : t ≤ 9223372036854775807)
    (hsrc : Src w a0 len cap zs) (hsz : Src w s0 ns scap ss) (hsb : ∀ i, 0 ≤ ss.getD i 0 ∧ ss.getD i 0 ≤ 255) :
    Calls Ybaf.prog 5 #[.slice a0 len cap, .int .i64 t, .slice s0 ns scap] w fun e w' => e = .returned (.bool true) ∧ Below w.heap.size w w' := by
  by_cases h : 1024 < len ∨ 1024 < ns
  · exact script_long a0 s0 len cap ns scap t w h
  · exact script_walk F a0 s0 len cap ns scap zs ss t w hF (by omega) (by omega) ht0 ht1 hsrc hsz hsb

theorem sc_src {w : World} {x : Addr} {len cap : Nat} {zs : List Int} (hl : len ≤ cap) (hz : zs.length = cap) (hc : ∀ i, i < zs.length → w.cell? (x.add i) = some (.int .u8 (zs.getD i 0))) : Src w (some x) len cap (zs.take len) := by
  refine ⟨by rw [List.length_take]; omega, hl, .inr ⟨x, rfl, fun i hi => ?_⟩⟩
  rw [hc i (by omega)]
  simp [List.getD_eq_getElem?_getD, List.getElem?_take_of_lt hi]

theorem sc_bytes {zs : List Int} (h : ∀ n ∈ zs, (Lit.int .u8 n).wf = true) (len : Nat) : ∀ i, 0 ≤ (zs.take len).getD i 0 ∧ (zs.take len).getD i 0 ≤ 255 := by
  intro i
  rw [List.getD_eq_getElem?_getD]
  cases hq : (zs.take len)[i]? with
  | none => simp
  | some q =>
    have hm : q ∈ zs := List.mem_of_mem_take (List.mem_of_getElem? hq)
    have := h q hm
    simpa [Lit.wf, IntKind.min, IntKind.max, IntKind.signed, IntKind.bits] using this

theorem sc_open {H : Type} {enc : TypeId × Value → H} {W : World} {a : Option Addr} {len cap : Nat} {d : DataW H} {p : List MemPlace} (h : DataW.Trod enc Ybaf.prog W 0 (fun _ => true) true 22 (.slice a len cap) d p) :
    ∃ zs, Src W a len cap zs ∧ ∀ i, 0 ≤ zs.getD i 0 ∧ zs.getD i 0 ≤ 255 := by
  obtain ⟨fuel, hf⟩ := h
  rcases open_ints Ybaf.underlying22 Ybaf.underlying5 (by kernel_rfl) hf with ⟨hcs, _⟩ | ⟨x, l, c, zs, hcs, _, hl, hm, hz, _, hcell, hwz⟩
  · simp [Value.cells] at hcs
    obtain ⟨rfl, rfl, rfl⟩ := hcs
    exact ⟨[], ⟨rfl, Nat.le_refl _, .inl ⟨rfl, rfl, rfl⟩⟩, fun i => by simp⟩
  · simp [Value.cells] at hcs
    obtain ⟨rfl, rfl, rfl⟩ := hcs
    exact ⟨zs.take _, sc_src hl (by simpa using hz) hcell, sc_bytes hwz _⟩

set_option maxRecDepth 100000 in
theorem sc_lifted (os : Os) (started : os.Started) (H : Type) (enc : TypeId × Value → H) :
    ReturnsInTold none {} Ybaf.checked os 5 .any Input.okWide ((OpenSpec.ofChange Rows.lawS2919BScriptSpec).preRow enc Ybaf.prog Ybaf.f5 [] false []) (fun F => ((OpenSpec.ofChange Rows.lawS2919BScriptSpec).at F).post enc Ybaf.prog Ybaf.f5 false true false false) (aloneAtReturn Ybaf.prog) nothingAlways := by
  refine returnsInTold_of_row (C := Ybaf.checked) (s := OpenSpec.ofChange Rows.lawS2919BScriptSpec) (by kernel_rfl) sc_own started (by kernel_rfl) Ybaf.func5
    (OpenSpec.witness_stopped (enc := enc) (C := Ybaf.checked) false ⟨#[], #[.slice none 0 0, .int .i64 0, .slice none 0 0], []⟩ 8 (by kernel_rfl) (by kernel_rfl) (by kernel_rfl) (by kernel_rfl)) ?_
  intro F W base args ds gs before _ hF hval0 hW _ _ _ _ _
  have hval : ∀ (j : Nat) t v, Ybaf.f5.params[j]? = some t → args[j]? = some v → Value.okWide Ybaf.prog W .any base t v := hval0
  have hW' := hW
  obtain ⟨p, q, hA0, hV, rfl, hfz, hnd⟩ := hW
  have hA : DataW.TrodAll enc Ybaf.prog W 0 (fun _ => true) true Ybaf.f5.params.toList args.toList ds p := hA0
  rw [Ybaf.params5] at hA hval
  obtain ⟨v0, v1, v2, d0, d1, d2, p0, p1, p2, rfl, rfl, rfl, h0, h1, h2⟩ := trodAll_three hA
  obtain ⟨rfl, rfl⟩ := trodVars_none hV
  obtain ⟨a0, len0, cap0, rfl⟩ := okWide_slice Ybaf.underlying22 (hval 0 22 v0 rfl rfl)
  obtain ⟨a2, len2, cap2, rfl⟩ := okWide_slice Ybaf.underlying22 (hval 2 22 v2 rfl rfl)
  have lt0 : ∀ x ∈ p0, x.block < W.heap.size := by obtain ⟨m, hm⟩ := h0; exact DataW.trod_lt m _ _ _ hm
  have lt2 : ∀ x ∈ p2, x.block < W.heap.size := by obtain ⟨m, hm⟩ := h2; exact DataW.trod_lt m _ _ _ hm
  obtain ⟨zs, hsrc, _⟩ := sc_open h0
  obtain ⟨ss, hsz, hsb⟩ := sc_open h2
  obtain ⟨t, rfl, rfl, rfl, wt⟩ := open_int Ybaf.underlying3 (hval 1 3 v1 rfl rfl) h1
  clear hA0 hval0
  have bt : -9223372036854775808 ≤ t ∧ t ≤ 9223372036854775807 := by simpa [Lit.wf, IntKind.min, IntKind.max, IntKind.signed, IntKind.bits] using wt
  refine (script_any F.told a0 a2 len0 cap0 len2 cap2 zs ss t W hF bt.1 bt.2 hsrc hsz hsb).mono fun e W' ⟨he, bel⟩ => ?_
  subst he
  exact ⟨_, rfl, _, _, _, [], _, [], hW', trodAll_mk1 (shut_bool Ybaf.underlying4 _), trodAll_mk3 (Below.trod sc_laidOut (by kernel_rfl) (of_decide_eq_true (by kernel_rfl)) h0 bel lt0) (shut_int Ybaf.underlying3 wt) (Below.trod sc_laidOut (by kernel_rfl) (of_decide_eq_true (by kernel_rfl)) h2 bel lt2), rfl, bel.frame _, fun h => by cases h⟩

theorem script_holds : Rows.LawS2919BScriptToldSaid :=
  Claim7.holds_of_told_any 5 Ybaf.f5 "fmt.errorf" [] [] _ _ _ (by kernel_rfl) rfl rfl rfl sc_laidOut (by kernel_rfl) rfl ⟨rfl, rfl, rfl, rfl, rfl, rfl, rfl⟩ rfl rfl (by kernel_rfl) (by kernel_rfl) Ybaf.func5 (by kernel_rfl)
    (of_decide_eq_true (by kernel_rfl)) (of_decide_eq_true (by kernel_rfl)) sc_stops.symm rfl sc_stopKnobs.symm (by kernel_rfl)
    (by kernel_rfl) (by kernel_rfl) (by kernel_rfl) (by kernel_rfl) (by kernel_rfl) (by kernel_rfl) (by kernel_rfl) (by kernel_rfl) (by kernel_rfl) rfl (by kernel_rfl) rfl rfl
    rfl rfl
    rfl (by kernel_rfl) (by kernel_rfl) (by kernel_rfl) (by decide) (by kernel_rfl)
    (OpenClaim.moreEntering_of (by kernel_rfl) (by kernel_rfl) (by kernel_rfl) (by kernel_rfl) (by kernel_rfl) (by kernel_rfl) (by kernel_rfl) (by kernel_rfl) (by kernel_rfl) (by kernel_rfl))
    ⟨_, WideRow.started_initial, sc_quiet _⟩
    (fun os started _ H enc _ => sc_lifted os started H enc)

#print axioms script_holds
end Go.Proofs.YbulkbhkuFmt
