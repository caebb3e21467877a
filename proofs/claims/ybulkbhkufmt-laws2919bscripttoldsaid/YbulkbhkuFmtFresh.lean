/-
  DERIVED. Seat b2919aF: LawS2919BFresh walked.
-/
import Derived.Test.YbulkbhkuFmtTake
import Derived.Maps.AppendAt
import Derived.Laws.AppendOwnNone
import Derived.OwnWalk
namespace Go.Proofs.YbulkbhkuFmt
open Go.RowKit Go.Extern.Stop Go.Stop Go.Extern
set_option linter.unusedVariables false

theorem info5 : ∃ i, Ybaf.prog.info? 5 = some i ∧ i.zero = some (.int .u8 0) ∧ i.size = 1 ∧ i.bytes = 1 := ⟨Ybaf.t5, by kernel_rfl, rfl, rfl, rfl⟩

@[go_sem] theorem eql_nil22 (a : Option Addr) (n c : Nat) (w : World) : (binOp .eql 22 (.slice a n c) (.slice none 0 0)).run Ybaf.prog w = .ok (.bool a.isNone) w := Lib.run_eql_slice_nil w 22 5 a n c 0 0 Ybaf.underlying22
@[go_sem] theorem neq_nil22 (a : Option Addr) (n c : Nat) (w : World) : (binOp .neq 22 (.slice a n c) (.slice none 0 0)).run Ybaf.prog w = .ok (.bool (!a.isNone)) w := run_neq_slice_nil_any w 22 5 a n c 0 0 Ybaf.underlying22

/-- A slice of bytes that came in: nil, or len cells behind an address. -/
def Src (w : World) (a : Option Addr) (len cap : Nat) (zs : List Int) : Prop :=
  zs.length = len ∧ len ≤ cap ∧ ((a = none ∧ len = 0 ∧ cap = 0) ∨ ∃ x, a = some x ∧ ∀ i, i < len → w.cell? (x.add i) = some (.int .u8 (zs.getD i 0)))

theorem Src.rd {w : World} {a : Option Addr} {len cap : Nat} {zs : List Int} (h : Src w a len cap zs) : Rd w a len zs := by
  refine ⟨h.1, ?_⟩
  by_cases h0 : len = 0
  · exact .inl h0
  · right
    rcases h.2.2 with ⟨_, h1, _⟩ | ⟨x, rfl, hc⟩
    · exact absurd h1 h0
    · have hx : x.spot = none := by
        have h1 := hc 0 (by omega)
        cases hs : x.spot with
        | none => rfl
        | some s =>
          exfalso
          have e : x.add 0 = x := by simp [Addr.add]
          rw [e] at h1
          unfold World.cell? at h1
          split at h1 <;> simp_all
      refine ⟨x.block, x.off, ?_, fun i hi => ?_⟩
      · cases x; simp_all
      · have h2 := hc i hi
        have e : x.add i = ⟨x.block, x.off + i, none⟩ := by
          cases x
          simp only at hx
          subst hx
          unfold Addr.add
          split <;> simp_all
        rw [e] at h2
        exact h2

theorem own_form {w : World} {base : Nat} {e : TypeId} {size : Nat} {v : Value} {n : Nat} {xs : List Value} (h : w.ownsRow base e size v n xs) : ∃ a cap, v = .slice a n cap ∧ n ≤ cap ∧ ∀ x, a = some x → base ≤ x.block ∧ x.block < w.heap.size := by
  rcases h.2 with ⟨rfl, rfl⟩ | ⟨g, cap, cur, rfl, hb, hg, hn, _⟩
  · exact ⟨_, _, rfl, Nat.le_refl _, fun x hx => by cases hx⟩
  · refine ⟨_, _, rfl, hn, fun x hx => ?_⟩
    injection hx with hx
    subst hx
    exact ⟨hb, (Array.getElem?_eq_some_iff.1 hg).1⟩

theorem own_rd {w : World} {base : Nat} {a : Option Addr} {n cap : Nat} {zs : List Int} (h : w.ownsRow base 5 1 (.slice a n cap) n (zs.map (Value.int .u8))) : Rd w a n zs := by
  have hl := h.1
  refine ⟨by simpa using hl, ?_⟩
  rcases h.2 with ⟨_, rfl⟩ | ⟨g, cap', cur, hv, hb, hg, hn, _⟩
  · exact .inl rfl
  · right
    injection hv with h1 h2 h3
    subst h1
    refine ⟨g, 0, rfl, fun i hi => ?_⟩
    have hz : i < zs.length := by simp at hl; omega
    have h4 := h.cells rfl i (.int .u8 (zs.getD i 0)) (by rw [List.getElem?_map, List.getElem?_eq_getElem hz]; simp [List.getD_eq_getElem?_getD, List.getElem?_eq_getElem hz])
    have e : (⟨g, 0, none⟩ : Addr).add i = ⟨g, 0 + i, none⟩ := by unfold Addr.add; split <;> simp_all
    rw [e] at h4
    exact h4

/-- 'append([]byte(nil), data...)'. -/
theorem wpList_copy {w : World} {ops : Array Oper} {rest : List Oper} {o : Oper} {a : Act} {Q : Exit → Act → World → Prop} (hgd : o.guard = none) (s x : Operand)
    (ho : o.op = .call { callee := .builtin .append, args := #[s, x], argTypes := #[22, 22] }) (a0 : Option Addr) (len cap : Nat) (zs : List Int) (hs : a.eval s = .slice none 0 0) (hx : a.eval x = .slice a0 len cap)
    (hsrc : Src w a0 len cap zs) (hn : len ≤ 1024)
    (h : ∀ ca cc w1, Rd w1 ca len zs → len ≤ cc → (∀ x, ca = some x → w.heap.size ≤ x.block ∧ x.block < w1.heap.size) → Below w.heap.size w w1 → wpList Ybaf.prog ops Q rest (a.put o.dst (.slice ca len cc)) w1) :
    wpList Ybaf.prog ops Q (o :: rest) a w := by
  obtain ⟨i0, hi, hz0, hz1, hz2⟩ := info5
  obtain ⟨hzl, hlc, hsrc⟩ := hsrc
  rcases hsrc with ⟨rfl, rfl, rfl⟩ | ⟨ad, rfl, hc⟩
  · exact wpList_append_own_none hgd s x 22 ho 0 5 i0 1 Ybaf.underlying22 hi (.slice none 0 0) 0 [] hs (World.ownsRow_nil w 0 5 1) hx (h none 0 w ⟨hzl, .inl rfl⟩ (Nat.le_refl _) (fun x hx => by cases hx) (Below.refl _ _))
  · refine wpList_append_own_at w hgd s x 22 ho w.heap.size 5 i0 (.int .u8 0) 1 1 Ybaf.underlying22 hi hz0 hz1 hz2 rfl (by decide) (.slice none 0 0) 0 [] hs (World.ownsRow_nil w _ 5 1) ad len cap (zs.map (Value.int .u8)) hx (by simp [hzl]) ?_ ?_ (by unfold maxLen; omega) (by omega) (Nat.le_refl _) ?_
    · intro j u hj
      rw [List.getElem?_map] at hj
      obtain ⟨q, hq, rfl⟩ := Option.map_eq_some_iff.1 hj
      have hjl : j < len := by
        have := (List.getElem?_eq_some_iff.1 hq).1
        omega
      rw [hc j hjl, List.getD_eq_getElem?_getD, hq]
      rfl
    · intro u hu
      obtain ⟨q, _, rfl⟩ := List.mem_map.1 hu
      rfl
    · intro v' w1 ho1 hg1 _ hat
      simp only [Nat.zero_add, List.nil_append] at ho1
      obtain ⟨ca, cc, rfl, h1, h2⟩ := own_form ho1
      exact h ca cc w1 (own_rd ho1) h1 h2 ⟨hg1.os, hg1.tape, hg1.output, hg1.size, fun k hk => hg1.block k hk (by simp [Value.ownBlock])⟩

theorem Rd.fx {rb : Nat} {w w' : World} {a : Option Addr} {n : Nat} {zs : List Int} (h : Rd w a n zs) (hf : Fx rb w w') (hne : ∀ x, a = some x → n ≠ 0 → x.block ≠ rb) : Rd w' a n zs := by
  refine ⟨h.1, ?_⟩
  by_cases h0 : n = 0
  · exact .inl h0
  · rcases h.2 with h1 | ⟨b, o, rfl, hc⟩
    · exact absurd h1 h0
    · refine .inr ⟨b, o, rfl, fun i hi => ?_⟩
      have h2 := hc i hi
      have hb : b < w.heap.size := World.block_lt_of_cell? w _ h2
      rw [World.cell?_of_block (w := w) (a := ⟨b, o + i, none⟩) (hf.block b hb (hne _ rfl h0))]
      exact h2

theorem Rd.old {w : World} {a : Option Addr} {n : Nat} {zs : List Int} (h : Rd w a n zs) : ∀ x, a = some x → n ≠ 0 → x.block < w.heap.size := by
  intro x hx h0
  rcases h.2 with h1 | ⟨b, o, hb, hc⟩
  · exact absurd h1 h0
  · rw [hb] at hx
    injection hx with hx
    subst hx
    exact World.block_lt_of_cell? w _ (hc 0 (by omega))

/-- What stands when the reader is made. -/
structure Made (w : World) (a0 ca : Option Addr) (len cc rb : Nat) (zs : List Int) (t : Int) (w2 : World) : Prop where
  rdr : Rdr w2 rb (.slice ca len cc) t .nilIface
  mine : Rd w2 ca len zs
  src : Rd w2 a0 len zs
  cap : len ≤ cc
  new : w.heap.size ≤ rb
  far : ∀ x, ca = some x → x.block ≠ rb
  old : ∀ x, a0 = some x → len ≠ 0 → x.block < w.heap.size
  fr : Below w.heap.size w w2

theorem made {w w1 : World} {a0 ca : Option Addr} {len cap cc : Nat} {zs : List Int} {t : Int} (hs : Src w a0 len cap zs) (hR1 : Rd w1 ca len zs) (hc1 : len ≤ cc) (hx1 : ∀ x, ca = some x → w.heap.size ≤ x.block ∧ x.block < w1.heap.size) (hB1 : Below w.heap.size w w1) :
    Made w a0 ca len cc w1.heap.size zs t (w1.alloc (.cells #[.slice ca len cc, .int .i64 t, .nilIface] 27)) := by
  have hB2 : Below w.heap.size w (w1.alloc (.cells #[.slice ca len cc, .int .i64 t, .nilIface] 27)) := hB1.alloc hB1.size _
  have ho := hs.rd.old
  refine ⟨heap_alloc_new w1 _, hR1.keep fun x hx => Below.heap_alloc _ _ _ (hx1 x hx).2, ?_, hc1, hB1.size, fun x hx => by have := (hx1 x hx).2; omega, ho, hB2⟩
  exact hs.rd.fx (rb := w1.heap.size) (Fx.below hB2) fun x hx h0 => by have := ho x hx h0; have := hB1.size; omega

theorem fresh_long (a0 : Option Addr) (len cap : Nat) (t n : Int) (w : World) (hl : (1024 : Int) < len) :
    Calls Ybaf.prog 3 #[.slice a0 len cap, .int .i64 t, .int .u8 n] w fun e w' => e = .returned (.bool true) ∧ Below w.heap.size w w' := by
  go_enter Ybaf.func3, Ybaf.ntmps3
  go_wp2
  go_ret
  exact ⟨rfl, Below.refl _ _⟩

set_option maxHeartbeats 2000000 in
theorem fresh_more (F : Interp) (a0 : Option Addr) (len cap k : Nat) (zs : List Int) (t : Int) (w : World) (hF : F.answers w.tape) (hl : len ≤ 1024) (hk : k ≤ 255) (hkl : len < k) (hsrc : Src w a0 len cap zs) :
    Calls Ybaf.prog 3 #[.slice a0 len cap, .int .i64 t, .int .u8 (k : Int)] w fun e w' => e = .returned (.bool true) ∧ Below w.heap.size w w' := by
  have HS : Hid (Src w a0 len cap zs) := hsrc
  have HF : Hid (F.answers w.tape) := hF
  have hl' : ¬ (1024 : Int) < len := by omega
  have hkl' : (len : Int) < (k : Int) := by omega
  clear hsrc hF
  go_enter Ybaf.func3, Ybaf.ntmps3
  go_wp2_with (at_builtin; refine wpList_copy rfl _ _ rfl a0 len cap zs rfl rfl HS.out hl ?_; intro ca cc w1 hR1 hc1 hx1 hB1)
  have hM := made (t := t) HS.out hR1 hc1 hx1 hB1
  obtain ⟨w2, hw2⟩ : ∃ w2, w2 = w1.alloc (.cells #[.slice ca len cc, .int .i64 t, .nilIface] 27) := ⟨_, rfl⟩
  obtain ⟨rb, hrb⟩ : ∃ rb, w1.heap.size = rb := ⟨_, rfl⟩
  rw [← hw2, hrb] at hM ⊢
  have HM : Hid (Made w a0 ca len cc rb zs t w2) := hM
  clear hM hw2 hrb hR1 hc1 hx1 hB1
  refine (take_more F rb len cc ca t k w2 (by rw [HM.out.fr.tape]; exact HF.out) HM.out.rdr hkl').mono ?_
  rintro e w3 ⟨rfl, ⟨b, hR3⟩, hX3⟩
  obtain ⟨c0, c1, c2⟩ := hR3.cells
  have HA : Hid (Rd w3 ca len zs) := HM.out.mine.fx hX3 fun x hx _ => HM.out.far x hx
  have HD : Hid (Rd w3 a0 len zs) := HM.out.src.fx hX3 fun x hx h0 => by have := HM.out.old x hx h0; have := HM.out.new; omega
  have HB3 : Hid (Below w.heap.size w w3) := ⟨hX3.os.trans HM.out.fr.os, hX3.tape.trans HM.out.fr.tape, hX3.output.trans HM.out.fr.output, Nat.le_trans HM.out.fr.size hX3.size, fun k hk => (hX3.block k (by have := HM.out.fr.size; omega) (by have := HM.out.new; omega)).trans (HM.out.fr.block k hk)⟩
  clear hR3 hX3 HM
  go_wp2_with (go_at_call 7; refine (eq_any ca a0 cc cap len zs _ (by omega) HA.out HD.out).mono ?_; rintro e w' ⟨rfl, q, rfl⟩)
  go_ret
  exact ⟨rfl, below_drewN HB3.out _⟩

set_option maxHeartbeats 2000000 in
theorem fresh_ok (a0 : Option Addr) (len cap k : Nat) (zs : List Int) (t : Int) (w : World) (hl : len ≤ 1024) (hkl : k ≤ len) (hk : k ≤ 255) (ht0 : -9223372036854775808 ≤ t) (ht1 : t ≤ 9223372036854775807) (hsrc : Src w a0 len cap zs) :
    Calls Ybaf.prog 3 #[.slice a0 len cap, .int .i64 t, .int .u8 (k : Int)] w fun e w' => e = .returned (.bool true) ∧ Below w.heap.size w w' := by
  have HS : Hid (Src w a0 len cap zs) := hsrc
  have hl' : ¬ (1024 : Int) < len := by omega
  have hkl' : ¬ (len : Int) < (k : Int) := by omega
  have hlcap : len ≤ cap := hsrc.2.1
  have hkcap : (k : Int) ≤ (cap : Int) := by omega
  have hkleni : (k : Int) ≤ (len : Int) := by omega
  have hk0 : (0 : Int) ≤ (k : Int) := by omega
  clear hsrc
  go_enter Ybaf.func3, Ybaf.ntmps3
  go_wp2_with (at_builtin; refine wpList_copy rfl _ _ rfl a0 len cap zs rfl rfl HS.out hl ?_; intro ca cc w1 hR1 hc1 hx1 hB1)
  have hM := made (t := t) HS.out hR1 hc1 hx1 hB1
  obtain ⟨w2, hw2⟩ : ∃ w2, w2 = w1.alloc (.cells #[.slice ca len cc, .int .i64 t, .nilIface] 27) := ⟨_, rfl⟩
  obtain ⟨rb, hrb⟩ : ∃ rb, w1.heap.size = rb := ⟨_, rfl⟩
  rw [← hw2, hrb] at hM ⊢
  have HM : Hid (Made w a0 ca len cc rb zs t w2) := hM
  clear hM hw2 hrb hR1 hc1 hx1 hB1
  refine (take_ok rb len cc k ca t w2 HM.out.rdr hkl HM.out.cap ht0 ht1).mono ?_
  rintro e w3 ⟨rfl, hR3, hX3⟩
  obtain ⟨c0, c1, c2⟩ := hR3.cells
  have hmine := HM.out.mine.fx hX3 fun x hx _ => HM.out.far x hx
  have hsrc := HM.out.src.fx hX3 fun x hx h0 => by have := HM.out.old x hx h0; have := HM.out.new; omega
  have HA1 : Hid (Rd w3 ca k (zs.take k)) := hmine.take hkl
  have HA2 : Hid (Rd w3 (adv ca cc k) (len - k) (zs.drop k)) := hmine.adv HM.out.cap hkl
  have HD1 : Hid (Rd w3 a0 k (zs.take k)) := hsrc.take hkl
  have HD2 : Hid (Rd w3 (adv a0 cap k) (len - k) (zs.drop k)) := hsrc.adv hlcap hkl
  have HB3 : Hid (Below w.heap.size w w3) := ⟨hX3.os.trans HM.out.fr.os, hX3.tape.trans HM.out.fr.tape, hX3.output.trans HM.out.fr.output, Nat.le_trans HM.out.fr.size hX3.size, fun k hk => (hX3.block k (by have := HM.out.fr.size; omega) (by have := HM.out.new; omega)).trans (HM.out.fr.block k hk)⟩
  clear hR3 hX3 HM hmine hsrc
  generalize adv ca cc k = ca2 at c0 HA2
  have hsub : ((len - k : Nat) : Int) = (len : Int) - (k : Int) := by omega
  by_cases hck : cap = k
  · have hck' : adv a0 cap k = a0 := by unfold adv; rw [if_pos hck]
    rw [hck'] at HD2
    clear hck'
    go_wp2_with fail
    go_quiet (first | (go_at_call_of 7 ca; exact Calls.quiet_of (eq_any ca a0 _ _ k (zs.take k) _ (by omega) (HA1.out.keep fun _ _ => rfl) (HD1.out.keep fun _ _ => rfl))) | (go_at_call_of 7 ca2; exact Calls.quiet_of (eq_any ca2 a0 _ _ (len - k) (zs.drop k) _ (by omega) (HA2.out.keep fun _ _ => rfl) (HD2.out.keep fun _ _ => rfl))))
    go_wp2
    go_ret
    exact ⟨rfl, below_drewN HB3.out _⟩
  · have hck' : adv a0 cap k = a0.map (fun x => x.add k) := by unfold adv; rw [if_neg hck]
    rw [hck'] at HD2
    clear hck'
    go_wp2_with fail
    go_quiet (first | (go_at_call_of 7 ca; exact Calls.quiet_of (eq_any ca a0 _ _ k (zs.take k) _ (by omega) (HA1.out.keep fun _ _ => rfl) (HD1.out.keep fun _ _ => rfl))) | (go_at_call_of 7 ca2; exact Calls.quiet_of (eq_any ca2 _ _ _ (len - k) (zs.drop k) _ (by omega) (HA2.out.keep fun _ _ => rfl) (HD2.out.keep fun _ _ => rfl))))
    go_wp2
    go_ret
    exact ⟨rfl, below_drewN HB3.out _⟩

end Go.Proofs.YbulkbhkuFmt
