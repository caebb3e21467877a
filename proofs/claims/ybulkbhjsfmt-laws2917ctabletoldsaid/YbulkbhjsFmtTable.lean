/-
  DERIVED. Seat b2917aF: LawS2917CTable walked at every input.
-/
import Derived.Test.YbulkbhjsFmtFacts
import Derived.WideShapes
namespace Go.Proofs.YbulkbhjsFmt
open Go.RowKit Go.Extern.Stop Go.Stop Go.Extern

/-- The table's pick, as a plain function -/
def pickS (n : Int) (s : ByteArray) : ByteArray :=
  if n % 8 = 0 then ⟨#[]⟩ else if n % 8 = 1 then ⟨#[48]⟩ else if n % 8 = 2 then ⟨#[49]⟩ else if n % 8 = 3 then ⟨#[49, 48]⟩
  else if n % 8 = 4 then ⟨#[32, 49]⟩ else if n % 8 = 5 then ⟨#[116, 114, 117, 101]⟩ else if n % 8 = 6 then ⟨#[48, 48]⟩ else s

theorem pick_any (n : Int) (s : ByteArray) (w : World) (h0 : 0 ≤ n) (h1 : n ≤ 255) :
    Calls Ybaf.prog 5 #[.int .u8 n, .string s] w fun e w' => e = .returned (.string (pickS n s)) ∧ w' = w := by
  go_enter Ybaf.func5, Ybaf.ntmps5
  go_wp2
  all_goals
    go_ret
    refine ⟨?_, rfl⟩
    simp_all [pickS]
theorem table_one (n : Int) (s : ByteArray) (w : World) (h : Hid (Calls Ybaf.prog 5 #[.int .u8 n, .string s] w fun e w' => e = .returned (.string ⟨#[49]⟩) ∧ w' = w)) :
    Calls Ybaf.prog 3 #[.int .u8 n, .string s] w fun e w' => e = .returned (.bool true) ∧ Below w.heap.size w w' := by
  go_enter Ybaf.func3, Ybaf.ntmps3
  go_wp2_with (first | (go_at_call 5; go_must (refine Calls.mono h.out ?_); rintro e w' ⟨rfl, rfl⟩) | (go_at_call 6; go_must (refine (upd_one _).mono ?_); rintro e w' ⟨rfl, rfl⟩))
  go_ret
  exact ⟨rfl, Below.refl _ _⟩

theorem table_empty (n : Int) (s : ByteArray) (w : World) (h : Hid (Calls Ybaf.prog 5 #[.int .u8 n, .string s] w fun e w' => e = .returned (.string ⟨#[]⟩) ∧ w' = w)) :
    Calls Ybaf.prog 3 #[.int .u8 n, .string s] w fun e w' => e = .returned (.bool true) ∧ Below w.heap.size w w' := by
  go_enter Ybaf.func3, Ybaf.ntmps3
  go_wp2_with (first | (go_at_call 5; go_must (refine Calls.mono h.out ?_); rintro e w' ⟨rfl, rfl⟩) | (go_at_call 6; go_must (refine (upd_empty _).mono ?_); rintro e w' ⟨rfl, rfl⟩))
  go_ret
  exact ⟨rfl, Below.refl _ _⟩

theorem table_nought (n : Int) (s : ByteArray) (w : World) (h : Hid (Calls Ybaf.prog 5 #[.int .u8 n, .string s] w fun e w' => e = .returned (.string ⟨#[48]⟩) ∧ w' = w)) :
    Calls Ybaf.prog 3 #[.int .u8 n, .string s] w fun e w' => e = .returned (.bool true) ∧ Below w.heap.size w w' := by
  go_enter Ybaf.func3, Ybaf.ntmps3
  go_wp2_with (first | (go_at_call 5; go_must (refine Calls.mono h.out ?_); rintro e w' ⟨rfl, rfl⟩) | (go_at_call 6; go_must (refine (upd_nought _).mono ?_); rintro e w' ⟨rfl, rfl⟩))
  go_ret
  exact ⟨rfl, Below.refl _ _⟩

theorem table_other (F : Interp) (n : Int) (s v : ByteArray) (w : World) (hF : F.answers w.tape) (h : Hid (Calls Ybaf.prog 5 #[.int .u8 n, .string s] w fun e w' => e = .returned (.string v) ∧ w' = w))
    (h1 : (v.toList == [49]) = false) (h2 : v.toList.isEmpty = false) (h3 : (v.toList == [48]) = false) :
    Calls Ybaf.prog 3 #[.int .u8 n, .string s] w fun e w' => e = .returned (.bool true) ∧ Below w.heap.size w w' := by
  have H : Hid (_) := upd_other F v w hF h1 h2 h3
  clear hF
  go_enter Ybaf.func3, Ybaf.ntmps3
  go_wp2_with (first | (go_at_call 5; go_must (refine Calls.mono h.out ?_); rintro e w' ⟨rfl, rfl⟩) | (go_at_call 6; go_must (refine Calls.mono H.out ?_); rintro e w' ⟨⟨b, rfl⟩, hb⟩))
  go_ret
  exact ⟨rfl, hb⟩

/-- LawS2917CTable at every input. -/
theorem table_any (F : Interp) (n : Int) (s : ByteArray) (w : World) (hF : F.answers w.tape) (h0 : 0 ≤ n) (h1 : n ≤ 255) :
    Calls Ybaf.prog 3 #[.int .u8 n, .string s] w fun e w' => e = .returned (.bool true) ∧ Below w.heap.size w w' := by
  have hp := pick_any n s w h0 h1
  generalize pickS n s = v at hp
  by_cases c1 : v.toList = [49]
  · have e1 : v = ⟨#[49]⟩ := Go.WideShapes.bytes_inj (by rw [← ByteArray.toList_eq, c1])
    subst e1; exact table_one n s w hp
  by_cases c2 : v.toList = []
  · have e1 : v = ⟨#[]⟩ := Go.WideShapes.bytes_inj (by rw [← ByteArray.toList_eq, c2])
    subst e1; exact table_empty n s w hp
  by_cases c3 : v.toList = [48]
  · have e1 : v = ⟨#[48]⟩ := Go.WideShapes.bytes_inj (by rw [← ByteArray.toList_eq, c3])
    subst e1; exact table_nought n s w hp
  exact table_other F n s v w hF hp (beq_eq_false_iff_ne.2 c1) (List.isEmpty_eq_false_iff.2 c2) (beq_eq_false_iff_ne.2 c3)

end Go.Proofs.YbulkbhjsFmt
