/-
  DERIVED. Seat b2917aF: LawS2917CRaw walked at every string.
-/
import Derived.Test.YbulkbhjsFmtFacts
namespace Go.Proofs.YbulkbhjsFmt
open Go.RowKit Go.Extern.Stop Go.Stop Go.Extern

theorem raw_one (w : World) : Calls Ybaf.prog 4 #[.string ⟨#[49]⟩] w fun e w' => e = .returned (.bool true) ∧ Below w.heap.size w w' := by
  go_enter Ybaf.func4, Ybaf.ntmps4
  go_wp2_with (go_at_call 6; refine (upd_one _).mono ?_; rintro e w' ⟨rfl, rfl⟩)
  go_ret
  exact ⟨rfl, Below.refl _ _⟩

theorem raw_empty (w : World) : Calls Ybaf.prog 4 #[.string ⟨#[]⟩] w fun e w' => e = .returned (.bool true) ∧ Below w.heap.size w w' := by
  go_enter Ybaf.func4, Ybaf.ntmps4
  go_wp2_with (go_at_call 6; refine (upd_empty _).mono ?_; rintro e w' ⟨rfl, rfl⟩)
  go_ret
  exact ⟨rfl, Below.refl _ _⟩

theorem raw_nought (w : World) : Calls Ybaf.prog 4 #[.string ⟨#[48]⟩] w fun e w' => e = .returned (.bool true) ∧ Below w.heap.size w w' := by
  go_enter Ybaf.func4, Ybaf.ntmps4
  go_wp2_with (go_at_call 6; refine (upd_nought _).mono ?_; rintro e w' ⟨rfl, rfl⟩)
  go_ret
  exact ⟨rfl, Below.refl _ _⟩

theorem raw_long (F : Interp) (s : ByteArray) (w : World) (hF : F.answers w.tape) (hs : s.size ≤ maxLen) (h : 2 ≤ s.size) :
    Calls Ybaf.prog 4 #[.string s] w fun e w' => e = .returned (.bool true) ∧ Below w.heap.size w w' := by
  unfold maxLen at hs
  have hl : s.toList.length = s.size := by rw [ByteArray.toList_eq]; simp
  have h1 : (s.toList == [49]) = false := by
    rw [beq_eq_false_iff_ne]; intro e; rw [e] at hl; simp at hl; omega
  have h2 : s.toList.isEmpty = false := by
    rw [List.isEmpty_eq_false_iff]; intro e; rw [e] at hl; simp at hl; omega
  have h3 : (s.toList == [48]) = false := by
    rw [beq_eq_false_iff_ne]; intro e; rw [e] at hl; simp at hl; omega
  have H : Hid (_) := (upd_other F s w hF h1 h2 h3)
  clear h1 h2 h3 hl hF
  have hz : ((s.size : Int) == 0) = false := by rw [beq_eq_false_iff_ne]; omega
  have ho : ((s.size : Int) == 1) = false := by rw [beq_eq_false_iff_ne]; omega
  go_enter Ybaf.func4, Ybaf.ntmps4
  go_wp2_with (go_at_call 6; go_must (refine Calls.mono H.out ?_); rintro e w' ⟨⟨b, rfl⟩, hb⟩)
  go_ret
  exact ⟨rfl, hb⟩

theorem raw_byte (F : Interp) (c : UInt8) (w : World) (hF : F.answers w.tape) (h : (((({ data := #[c] } : ByteArray)[0]'(by simp [ByteArray.size])).toNat : Int) == 49) = false) (h' : (((({ data := #[c] } : ByteArray)[0]'(by simp [ByteArray.size])).toNat : Int) == 48) = false) :
    Calls Ybaf.prog 4 #[.string ⟨#[c]⟩] w fun e w' => e = .returned (.bool true) ∧ Below w.heap.size w w' := by
  have e1 : ¬ c = 49 := by rintro rfl; revert h; decide
  have e2 : ¬ c = 48 := by rintro rfl; revert h'; decide
  have H : Hid (_) := (upd_other F ⟨#[c]⟩ w hF (by simp [e1]) (by simp) (by simp [e2]))
  clear e1 e2 hF
  go_enter Ybaf.func4, Ybaf.ntmps4
  go_wp2_with (go_at_call 6; go_must (refine Calls.mono H.out ?_); rintro e w' ⟨⟨b, rfl⟩, hb⟩)
  go_ret
  exact ⟨rfl, hb⟩

/-- LawS2917CRaw at every string. -/
theorem raw_any (F : Interp) (s : ByteArray) (w : World) (hF : F.answers w.tape) (hs : s.size ≤ maxLen) :
    Calls Ybaf.prog 4 #[.string s] w fun e w' => e = .returned (.bool true) ∧ Below w.heap.size w w' := by
  obtain ⟨⟨l⟩⟩ := s
  match l, hs with
  | [], _ => exact raw_empty w
  | [c], _ =>
    by_cases h1 : c = 49
    · subst h1; exact raw_one w
    · by_cases h2 : c = 48
      · subst h2; exact raw_nought w
      · refine raw_byte F c w hF ?_ ?_
        · rw [beq_eq_false_iff_ne]
          intro h
          apply h1
          have h' : (c.toNat : Int) = 49 := h
          exact UInt8.toNat_inj.1 (by show c.toNat = _; simp; omega)
        · rw [beq_eq_false_iff_ne]
          intro h
          apply h2
          have h' : (c.toNat : Int) = 48 := h
          exact UInt8.toNat_inj.1 (by show c.toNat = _; simp; omega)
  | c :: d :: r, hs => exact raw_long F ⟨⟨c :: d :: r⟩⟩ w hF hs (by simp [ByteArray.size])

end Go.Proofs.YbulkbhjsFmt
