/-
  DERIVED. Seat b2917aF: the closed facts for a walk over fmt.errorf's stop in this dump (after CheckFmt.lean, turned to this program's numbers), and the contracts of updateFromEnv.
-/
import Derived.Test.YbulkbhjsFmtCards
import Derived.WalkKit
import Derived.Stop.CallBack
import Derived.Stop.IfaceNil
import GoSem.ClaimData
import Derived.Below
import Derived.WalkSpells
namespace Go.Proofs.YbulkbhjsFmt
open Go.RowKit Go.Extern.Stop Go.Stop Go.Extern

@[go_sem] theorem call8 (args : Array Value) (w : World) : (callFunc 8 args).run Ybaf.prog w = ((FmtStop.errorf #[9, 30] #[24] args).run Ybaf.prog w).andThen fun v w' => .ok (.value v) w' :=
  run_callFunc_extern Ybaf.func8 (by kernel_rfl) (by kernel_rfl) (by kernel_rfl) (by kernel_rfl) args w

@[go_sem] theorem guardF (name : String) (w : World) : (FmtStop.guard name).run Ybaf.prog w = .ok () w := by kernel_rfl

@[go_sem] theorem fmt0 : FmtStop.printed? ⟨#[37, 115, 61, 37, 113, 58, 32, 119, 97, 110, 116, 32, 49, 32, 116, 111, 32, 117, 112, 100, 97, 116, 101, 32, 99, 97, 115, 101, 32, 102, 105, 108, 101, 115, 44, 32, 48, 32, 111, 114, 32, 110, 111, 116, 104, 105, 110, 103, 32, 110, 111, 116, 32, 116, 111]⟩ 2 = some [(0, 115, false), (1, 113, false)] := by kernel_rfl
@[go_sem] theorem fmt0r (w : World) : (FmtDoors.printed ⟨#[37, 115, 61, 37, 113, 58, 32, 119, 97, 110, 116, 32, 49, 32, 116, 111, 32, 117, 112, 100, 97, 116, 101, 32, 99, 97, 115, 101, 32, 102, 105, 108, 101, 115, 44, 32, 48, 32, 111, 114, 32, 110, 111, 116, 104, 105, 110, 103, 32, 110, 111, 116, 32, 116, 111]⟩ 2).run Ybaf.prog w = .ok [(0, 115, false), (1, 113, false)] w := by kernel_rfl

def shape9 : List UInt8 := [12, 6, 0, 0, 0, 0, 0, 0, 0, 115, 116, 114, 105, 110, 103]
@[go_sem] theorem op9_115 (name : String) (x : ByteArray) (w : World) : (FmtStop.operand name false 115 false (.iface 9 (.string x))).run Ybaf.prog w = .ok (shape9, FmtStop.pack x.data.toList) w := by kernel_rfl
@[go_sem] theorem op9_113 (name : String) (x : ByteArray) (w : World) : (FmtStop.operand name false 113 false (.iface 9 (.string x))).run Ybaf.prog w = .ok (shape9, FmtStop.pack x.data.toList) w := by kernel_rfl
@[go_sem] theorem op9_115w (name : String) (x : ByteArray) (w : World) : (FmtStop.operand name true 115 false (.iface 9 (.string x))).run Ybaf.prog w = .ok (shape9, FmtStop.pack x.data.toList) w := by kernel_rfl
@[go_sem] theorem op9_113w (name : String) (x : ByteArray) (w : World) : (FmtStop.operand name true 113 false (.iface 9 (.string x))).run Ybaf.prog w = .ok (shape9, FmtStop.pack x.data.toList) w := by kernel_rfl
@[go_sem] theorem strict9 (name : String) (x : ByteArray) (w : World) : (FmtStop.strict name (.iface 9 (.string x))).run Ybaf.prog w = .ok (shape9, FmtStop.pack x.data.toList) w := by kernel_rfl

@[go_sem] theorem ptr33 (w : World) : (FmtStop.ptrTo "errors.errorString").run Ybaf.prog w = .ok 33 w := by kernel_rfl
@[go_sem] theorem elem33 (w : World) : (elemOf 33).run Ybaf.prog w = .ok 35 w := by kernel_rfl

/-- updateFromEnv at '1'. -/
theorem upd_one (w : World) : Calls Ybaf.prog 6 #[.string ⟨#[49]⟩] w fun e w' => e = .returned (.tuple #[.bool true, .nilIface]) ∧ w' = w := by
  go_enter Ybaf.func6, Ybaf.ntmps6
  go_wp2
  go_ret2
  exact ⟨rfl, rfl⟩

theorem upd_empty (w : World) : Calls Ybaf.prog 6 #[.string ⟨#[]⟩] w fun e w' => e = .returned (.tuple #[.bool false, .nilIface]) ∧ w' = w := by
  go_enter Ybaf.func6, Ybaf.ntmps6
  go_wp2
  go_ret2
  exact ⟨rfl, rfl⟩

theorem upd_nought (w : World) : Calls Ybaf.prog 6 #[.string ⟨#[48]⟩] w fun e w' => e = .returned (.tuple #[.bool false, .nilIface]) ∧ w' = w := by
  go_enter Ybaf.func6, Ybaf.ntmps6
  go_wp2
  go_ret2
  exact ⟨rfl, rfl⟩

/-- updateFromEnv at every other string: false, and an error that is not nil, in new memory. -/
theorem upd_other (F : Interp) (s : ByteArray) (w : World) (hF : F.answers w.tape) (h1 : (s.toList == [49]) = false) (h2 : s.toList.isEmpty = false) (h3 : (s.toList == [48]) = false) :
    Calls Ybaf.prog 6 #[.string s] w fun e w' => (∃ b, e = .returned (.tuple #[.bool false, .iface 33 (.pointer (some ⟨b, 0, none⟩))])) ∧ Below w.heap.size w w' := by
  have hF' := answers_open hF
  go_enter Ybaf.func6, Ybaf.ntmps6
  go_wp2
  go_ret2
  exact ⟨⟨_, rfl⟩, (((Below.refl _ _).alloc (Nat.le_refl _) _).alloc (by simp) _).drew⟩

end Go.Proofs.YbulkbhjsFmt
