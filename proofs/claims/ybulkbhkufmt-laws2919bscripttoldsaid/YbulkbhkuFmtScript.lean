/-
  DERIVED. Seat b2919aF: LawS2919BScript walked.
-/
import Derived.Test.YbulkbhkuFmtFresh
namespace Go.Proofs.YbulkbhkuFmt
open Go.RowKit Go.Extern.Stop Go.Stop Go.Extern
set_option linter.unusedVariables false

theorem wrap_step (t : Int) (p k : Nat) : wrap64 (wrap64 (t + p) + k) = wrap64 (t + (p + k : Nat)) := by
  unfold wrap64; omega

theorem adv_block {a : Option Addr} {c n : Nat} {y : Addr} (h : adv a c n = some y) : ∃ x, a = some x ∧ y.block = x.block := by
  unfold adv at h
  split at h
  · exact ⟨y, h, rfl⟩
  · obtain ⟨x, rfl, rfl⟩ := Option.map_eq_some_iff.1 h
    refine ⟨x, rfl, ?_⟩
    unfold Addr.add
    split <;> rfl

/-- What the rounds find. -/
structure Rs (a0 : Option Addr) (len rb : Nat) (zs : List Int) (t : Int) (w2 : World) (p : Nat) (fl : Bool) (ra : Option Addr) (rc : Nat) (at1 : Int) (er : Value) (wr : World) : Prop where
  le : p ≤ len
  rdr : Rdr wr rb (.slice ra (len - p) rc) at1 er
  eat : at1 = wrap64 (t + p)
  mine : Rd wr ra (len - p) (zs.drop p)
  cap : len - p ≤ rc
  far : ∀ x, ra = some x → x.block ≠ rb
  errF : fl = false → er = .nilIface
  errT : fl = true → ∃ b, er = .iface 36 (.pointer (some ⟨b, 0, none⟩))
  fx : Fx rb w2 wr

theorem Rs.ok {a0 : Option Addr} {len rb : Nat} {zs : List Int} {t : Int} {w2 : World} {p k : Nat} {ra : Option Addr} {rc : Nat} {at1 : Int} {er : Value} {wr w3 : World} (h : Rs a0 len rb zs t w2 p false ra rc at1 er wr) (hk : k ≤ len - p)
    (hR : Rdr w3 rb (.slice (adv ra rc k) (len - p - k) (rc - k)) (wrap64 (at1 + k)) .nilIface) (hX : Fx rb wr w3) : Rs a0 len rb zs t w2 (p + k) false (adv ra rc k) (rc - k) (wrap64 (at1 + k)) .nilIface w3 := by
  have hle := h.le
  have hcap := h.cap
  have e1 : len - p - k = len - (p + k) := by omega
  have hm := (h.mine.fx hX fun x hx _ => h.far x hx).adv hcap hk
  rw [e1] at hR hm
  rw [List.drop_drop] at hm
  refine ⟨by omega, hR, ?_, hm, by omega, ?_, fun _ => rfl, (fun e => by cases e), h.fx.trans hX⟩
  · rw [h.eat, wrap_step]
  · intro y hy
    obtain ⟨x, hx, hb⟩ := adv_block hy
    rw [hb]; exact h.far x hx

theorem Rs.more {a0 : Option Addr} {len rb : Nat} {zs : List Int} {t : Int} {w2 : World} {p b : Nat} {ra : Option Addr} {rc : Nat} {at1 : Int} {er : Value} {wr w3 : World} (h : Rs a0 len rb zs t w2 p false ra rc at1 er wr)
    (hR : Rdr w3 rb (.slice ra (len - p) rc) at1 (.iface 36 (.pointer (some ⟨b, 0, none⟩)))) (hX : Fx rb wr w3) : Rs a0 len rb zs t w2 p true ra rc at1 (.iface 36 (.pointer (some ⟨b, 0, none⟩))) w3 :=
  ⟨h.le, hR, h.eat, h.mine.fx hX fun x hx _ => h.far x hx, h.cap, h.far, (fun e => by cases e), fun _ => ⟨b, rfl⟩, h.fx.trans hX⟩

theorem Rs.draw {a0 : Option Addr} {len rb : Nat} {zs : List Int} {t : Int} {w2 : World} {p : Nat} {fl : Bool} {ra : Option Addr} {rc : Nat} {at1 : Int} {er : Value} {wr : World} (h : Rs a0 len rb zs t w2 p fl ra rc at1 er wr) (q : Nat) : Rs a0 len rb zs t w2 p fl ra rc at1 er (wr.drewN q) :=
  ⟨h.le, h.rdr, h.eat, h.mine.keep fun _ _ => rfl, h.cap, h.far, h.errF, h.errT, ⟨h.fx.os, h.fx.tape, h.fx.output, h.fx.size, h.fx.block⟩⟩

theorem script_long (a0 s0 : Option Addr) (len cap ns scap : Nat) (t : Int) (w : World) (hl : 1024 < len ∨ 1024 < ns) :
    Calls Ybaf.prog 5 #[.slice a0 len cap, .int .i64 t, .slice s0 ns scap] w fun e w' => e = .returned (.bool true) ∧ Below w.heap.size w w' := by
  by_cases h1 : 1024 < len
  · have h1' : (1024 : Int) < (len : Int) := by omega
    go_enter Ybaf.func5, Ybaf.ntmps5
    go_wp2
    go_ret
    exact ⟨rfl, Below.refl _ _⟩
  · have h1' : ¬ (1024 : Int) < (len : Int) := by omega
    have h2' : (1024 : Int) < (ns : Int) := by omega
    go_enter Ybaf.func5, Ybaf.ntmps5
    go_wp2
    go_ret
    exact ⟨rfl, Below.refl _ _⟩

set_option maxHeartbeats 8000000 in
set_option maxRecDepth 100000 in
theorem script_walk (F : Interp) (a0 s0 : Option Addr) (len cap ns scap : Nat) (zs ss : List Int) (t : Int) (w : World) (hF : F.answers w.tape) (hl : len ≤ 1024) (hns : ns ≤ 1024) (ht0 : -9223372036854775808 ≤ t) (ht1 : t ≤ 9223372036854775807)
    (hsrc : Src w a0 len cap zs) (hsz : Src w s0 ns scap ss) (hsb : ∀ i, 0 ≤ ss.getD i 0 ∧ ss.getD i 0 ≤ 255) :
    Calls Ybaf.prog 5 #[.slice a0 len cap, .int .i64 t, .slice s0 ns scap] w fun e w' => e = .returned (.bool true) ∧ Below w.heap.size w w' := by
  have HS : Hid (Src w a0 len cap zs) := hsrc
  have HZ : Hid (Rd w s0 ns ss) := hsz.rd
  have HF : Hid (F.answers w.tape) := hF
  have HSB : Hid (∀ i, 0 ≤ ss.getD i 0 ∧ ss.getD i 0 ≤ 255) := hsb
  have hl' : ¬ (1024 : Int) < len := by omega
  have hns' : ¬ (1024 : Int) < ns := by omega
  have hlcap : len ≤ cap := hsrc.2.1
  clear hsrc hF hsz hsb
  go_enter Ybaf.func5, Ybaf.ntmps5
  go_wp2_with (at_builtin; refine wpList_copy rfl _ _ rfl a0 len cap zs rfl rfl HS.out hl ?_; intro ca cc w1 hR1 hc1 hx1 hB1)
  have hM := made (t := t) HS.out hR1 hc1 hx1 hB1
  obtain ⟨w2, hw2⟩ : ∃ w2, w2 = w1.alloc (.cells #[.slice ca len cc, .int .i64 t, .nilIface] 27) := ⟨_, rfl⟩
  obtain ⟨rb, hrb⟩ : ∃ rb, w1.heap.size = rb := ⟨_, rfl⟩
  rw [← hw2, hrb] at hM ⊢
  have HM : Hid (Made w a0 ca len cc rb zs t w2) := hM
  have hwrb := hM.new
  have hws := hM.fr.size
  have HZ2 : Hid (Rd w2 s0 ns ss) := HZ.out.fx (rb := rb) (Fx.below hM.fr) fun x hx h0 => by have := HZ.out.old x hx h0; omega
  have HSo : Hid (∀ x, s0 = some x → ns ≠ 0 → x.block ≠ rb) := fun x hx h0 => by have := HZ.out.old x hx h0; omega
  have hR0 : Rs a0 len rb zs t w2 0 false ca cc t .nilIface w2 :=
    ⟨Nat.zero_le _, hM.rdr, by show t = wrap64 (t + ((0 : Nat) : Int)); unfold wrap64; omega, hM.mine, hM.cap, hM.far, fun _ => rfl, (fun h => by cases h), Fx.refl _ _⟩
  clear hM hw2 hrb hR1 hc1 hx1 hB1 HZ HS
  go_loopw [9, 10, 11] (fun ps fv iv wr => ∃ (j p : Nat) (fl : Bool) (ra : Option Addr) (rc : Nat) (at1 : Int) (er : Value), j ≤ ns ∧ ps = .int .i64 p ∧ fv = .bool fl ∧ iv = .int .i64 j ∧ Rs a0 len rb zs t w2 p fl ra rc at1 er wr) (fun _ _ iv _ => ns - (intOf iv).toNat)
  case atStart => exact ⟨0, 0, false, ca, cc, t, .nilIface, Nat.zero_le _, rfl, rfl, rfl, hR0⟩
  case round =>
    obtain ⟨j, p, fl, ra, rc, at1, er, hj, rfl, rfl, rfl, hR⟩ := hrel
    clear hR0
    by_cases hjl : j < ns
    · have hjl' : (j : Int) < (ns : Int) := by omega
      have hj0 : (0 : Int) ≤ (j : Int) := by omega
      have hZr := HZ2.out.fx hR.fx HSo.out
      obtain ⟨_, hZr⟩ := hZr
      rcases hZr with h0 | ⟨sb, so, rfl, hcz⟩
      · omega
      have cz := hcz j hjl
      have hvb := HSB.out j
      obtain ⟨v, hv⟩ : ∃ v, ss.getD j 0 = v := ⟨_, rfl⟩
      rw [hv] at cz hvb
      obtain ⟨k, rfl⟩ := Int.eq_ofNat_of_zero_le hvb.1
      have hk1 : (k : Int) ≤ 255 := hvb.2
      clear hcz hv hvb
      have HR : Hid (Rs a0 len rb zs t w2 p fl ra rc at1 er wr) := hR
      have hple : p ≤ len := hR.le
      clear hR
      have hp0 : (0 : Int) ≤ (p : Int) := by omega
      have hpl : (p : Int) ≤ (len : Int) := by omega
      go_wp2_with fail
      cases fl with
      | false =>
        obtain rfl := HR.out.errF rfl
        by_cases hkl : p + k ≤ len
        · have hkl' : (p : Int) + (k : Int) ≤ (len : Int) := by omega
          have hkc : (p : Int) + (k : Int) ≤ (cap : Int) := by omega
          refine (take_ok rb (len - p) rc k ra at1 wr HR.out.rdr (by omega) HR.out.cap (by rw [HR.out.eat]; unfold wrap64; omega) (by rw [HR.out.eat]; unfold wrap64; omega)).mono ?_
          rintro e w3 ⟨rfl, hR3, hX3⟩
          have HR3 : Hid (_) := HR.out.ok (k := k) (by omega) hR3 hX3
          have hsrc3 : Rd w3 a0 len zs := HM.out.src.fx HR3.out.fx fun x hx h0 => by have := HM.out.old x hx h0; omega
          have HG : Hid (Rd w3 ra k ((zs.drop p).take k)) := (HR.out.mine.fx hX3 fun x hx _ => HR.out.far x hx).take (by omega)
          have HD : Hid (Rd w3 (adv a0 cap p) k ((zs.drop p).take k)) := (hsrc3.adv hlcap hple).take (by omega)
          obtain ⟨c0, c1, c2⟩ := hR3.cells
          clear hR3 hX3 hsrc3 HR
          have hsub : ((p : Int) + (k : Int) - (p : Int)) = (k : Int) := by omega
          have hsubn : p + k - p = k := by omega
          by_cases hcp : cap = p
          · have hadv : adv a0 cap p = a0 := by unfold adv; rw [if_pos hcp]
            rw [hadv] at HD
            clear hadv
            obtain rfl : k = 0 := by omega
            subst hcp
            go_wp2_with (go_at_call 7; refine (eq_any ra a0 _ _ 0 _ _ (by omega) HG.out HD.out).mono ?_; rintro e w' ⟨rfl, q, rfl⟩)
            go_roundw
            case rel =>
              exact ⟨j + 1, cap + 0, false, _, _, _, _, by omega, by simp, rfl, by go_num, HR3.out.draw q⟩
            case measure => simp [intOf]; omega
          · have hadv : adv a0 cap p = a0.map (fun x => x.add p) := by unfold adv; rw [if_neg hcp]
            rw [hadv] at HD
            clear hadv
            go_wp2_with (go_at_call 7; refine (eq_any ra _ _ _ k _ _ (by omega) HG.out HD.out).mono ?_; rintro e w' ⟨rfl, q, rfl⟩)
            go_roundw
            case rel =>
              exact ⟨j + 1, p + k, false, _, _, _, _, by omega, by go_num, rfl, by go_num, HR3.out.draw q⟩
            case measure => simp [intOf]; omega
        · have hkl' : ¬ (p : Int) + (k : Int) ≤ (len : Int) := by omega
          refine (take_more F rb (len - p) rc ra at1 k wr (by rw [HR.out.fx.tape, HM.out.fr.tape]; exact HF.out) HR.out.rdr (by omega)).mono ?_
          rintro e w3 ⟨rfl, ⟨b, hR3⟩, hX3⟩
          have HR3 : Hid (_) := HR.out.more hR3 hX3
          obtain ⟨c0, c1, c2⟩ := hR3.cells
          clear hR3 hX3 HR
          go_wp2
          go_roundw
          case rel => exact ⟨j + 1, p, true, _, _, _, _, by omega, rfl, rfl, by go_num, HR3.out⟩
          case measure => simp [intOf]; omega
      | true =>
        obtain ⟨b, rfl⟩ := HR.out.errT rfl
        refine (take_err rb b _ at1 k wr HR.out.rdr).mono ?_
        rintro e w3 ⟨rfl, rfl⟩
        obtain ⟨c0, c1, c2⟩ := HR.out.rdr.cells
        go_wp2
        go_roundw
        case rel => exact ⟨j + 1, p, true, _, _, _, _, by omega, rfl, rfl, by go_num, HR.out⟩
        case measure => simp [intOf]; omega
    · have hjl' : ¬ (j : Int) < (ns : Int) := by omega
      have hple : p ≤ len := hR.le
      have hp0 : (0 : Int) ≤ (p : Int) := by omega
      have hpl : (p : Int) ≤ (len : Int) := by omega
      have hw : IntKind.i64.wrap (t + (p : Int)) = at1 := by rw [IntWalk.i64_left]; exact hR.eat.symm
      obtain ⟨c0, c1, c2⟩ := hR.rdr.cells
      have hsrc : Rd wr a0 len zs := HM.out.src.fx hR.fx fun x hx h0 => by have := HM.out.old x hx h0; omega
      have HA : Hid (Rd wr ra (len - p) (zs.drop p)) := hR.mine
      have HD : Hid (Rd wr (adv a0 cap p) (len - p) (zs.drop p)) := hsrc.adv hlcap hple
      have HB : Hid (Below w.heap.size w wr) := ⟨hR.fx.os.trans HM.out.fr.os, hR.fx.tape.trans HM.out.fr.tape, hR.fx.output.trans HM.out.fr.output, Nat.le_trans hws hR.fx.size, fun k hk => (hR.fx.block k (by omega) (by omega)).trans (HM.out.fr.block k hk)⟩
      have HR : Hid (Rs a0 len rb zs t w2 p fl ra rc at1 er wr) := hR
      clear hR hsrc
      obtain ⟨bv, hbv⟩ : ∃ bv, adv a0 cap p = bv := ⟨_, rfl⟩
      have hadv : (if cap = p then a0 else Option.map (fun x => x.add p) a0) = bv := hbv
      rw [hbv] at HD
      clear hbv
      cases fl with
      | false =>
        obtain rfl := HR.out.errF rfl
        clear HR
        go_wp2_with fail
        go_quiet ((go_at_call 7; exact Calls.quiet_of (eq_any _ _ _ _ (len - p) (zs.drop p) _ (by omega) (HA.out.keep fun _ _ => rfl) (HD.out.keep fun _ _ => rfl))))
        go_wp2
        go_ret
        exact ⟨rfl, below_drewN HB.out _⟩
      | true =>
        obtain ⟨b, rfl⟩ := HR.out.errT rfl
        clear HR
        go_wp2_with fail
        go_quiet ((go_at_call 7; exact Calls.quiet_of (eq_any _ _ _ _ (len - p) (zs.drop p) _ (by omega) (HA.out.keep fun _ _ => rfl) (HD.out.keep fun _ _ => rfl))))
        go_wp2
        go_ret
        exact ⟨rfl, below_drewN HB.out _⟩

end Go.Proofs.YbulkbhkuFmt
