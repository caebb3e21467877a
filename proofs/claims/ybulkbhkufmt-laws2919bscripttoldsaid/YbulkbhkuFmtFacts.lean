/-
  DERIVED. Seat b2919aF: the closed facts for a walk over fmt.errorf's stop in this dump (after CheckFmt.lean, turned to this program's numbers); fmt.Errorf at take's format.
-/
import Derived.Test.YbulkbhkuFmtCards
import Derived.WalkKit
import Derived.Stop.CallBack
import Derived.Stop.IfaceNil
import GoSem.ClaimData
import Derived.Below
import Derived.WalkSpells
namespace Go.Proofs.YbulkbhkuFmt
open Go.RowKit Go.Extern.Stop Go.Stop Go.Extern
set_option linter.unusedVariables false

@[go_sem] theorem call11 (args : Array Value) (w : World) : (callFunc 11 args).run Ybaf.prog w = ((FmtStop.errorf #[9, 39] #[25] args).run Ybaf.prog w).andThen fun v w' => .ok (.value v) w' :=
  run_callFunc_extern Ybaf.func11 (by kernel_rfl) (by kernel_rfl) (by kernel_rfl) (by kernel_rfl) args w

@[go_sem] theorem guardF (name : String) (w : World) : (FmtStop.guard name).run Ybaf.prog w = .ok () w := by kernel_rfl

@[go_sem] theorem fmt0 : FmtStop.printed? ⟨#[116, 104, 101, 32, 98, 121, 116, 101, 115, 32, 101, 110, 100, 32, 97, 116, 32, 98, 121, 116, 101, 32, 37, 100, 44, 32, 119, 105, 116, 104, 105, 110, 32, 97, 32, 102, 105, 101, 108, 100]⟩ 1 = some [(0, 100, false)] := by kernel_rfl
@[go_sem] theorem fmt0r (w : World) : (FmtDoors.printed ⟨#[116, 104, 101, 32, 98, 121, 116, 101, 115, 32, 101, 110, 100, 32, 97, 116, 32, 98, 121, 116, 101, 32, 37, 100, 44, 32, 119, 105, 116, 104, 105, 110, 32, 97, 32, 102, 105, 101, 108, 100]⟩ 1).run Ybaf.prog w = .ok [(0, 100, false)] w := by kernel_rfl

def shape3 : List UInt8 := [5, 3, 0, 0, 0, 0, 0, 0, 0, 105, 110, 116]
@[go_sem] theorem op3_100 (name : String) (x : Int) (w : World) : (FmtStop.operand name false 100 false (.iface 3 (.int .i64 x))).run Ybaf.prog w = .ok (shape3, Go.Extern.Stop.digits 8 (x % 2 ^ 64).toNat) w := by kernel_rfl
@[go_sem] theorem op3_100w (name : String) (x : Int) (w : World) : (FmtStop.operand name true 100 false (.iface 3 (.int .i64 x))).run Ybaf.prog w = .ok (shape3, Go.Extern.Stop.digits 8 (x % 2 ^ 64).toNat) w := by kernel_rfl
@[go_sem] theorem strict3 (name : String) (x : Int) (w : World) : (FmtStop.strict name (.iface 3 (.int .i64 x))).run Ybaf.prog w = .ok (shape3, Go.Extern.Stop.digits 8 (x % 2 ^ 64).toNat) w := by kernel_rfl

@[go_sem] theorem ptr36 (w : World) : (FmtStop.ptrTo "errors.errorString").run Ybaf.prog w = .ok 36 w := by kernel_rfl
@[go_sem] theorem elem36 (w : World) : (elemOf 36).run Ybaf.prog w = .ok 38 w := by kernel_rfl

/-- fmt.Errorf at take's format: an error that is not nil, in new memory. -/
theorem errorf_any (F : Interp) (x : Int) (k : Nat) (w : World) (hF : F.answers w.tape) (hc : w.cell? ⟨k, 0, none⟩ = some (.iface 3 (.int .i64 x))) :
    Calls Ybaf.prog 10 #[.string ⟨#[116, 104, 101, 32, 98, 121, 116, 101, 115, 32, 101, 110, 100, 32, 97, 116, 32, 98, 121, 116, 101, 32, 37, 100, 44, 32, 119, 105, 116, 104, 105, 110, 32, 97, 32, 102, 105, 101, 108, 100]⟩, .slice (some ⟨k, 0, none⟩) 1 1] w fun e w' =>
      (∃ b, e = .returned (.iface 36 (.pointer (some ⟨b, 0, none⟩)))) ∧ Below w.heap.size w w' := by
  have hF' := answers_open hF
  go_enter Ybaf.func10, Ybaf.ntmps10
  go_wp2
  go_ret
  refine ⟨⟨_, rfl⟩, ?_⟩
  repeat first | exact Below.refl _ _ | refine Below.drew ?_ | refine Below.setCell ?_ (by first | (simp; done) | (simp; omega)) _ | refine Below.alloc ?_ (by first | (simp; done) | (simp; omega)) _

theorem fail_any (rb b : Nat) (w : World) (h2 : w.cell? ⟨rb, 2, none⟩ = some .nilIface) (hz : w.frozen? ⟨rb, 2, none⟩ = false) :
    Calls Ybaf.prog 9 #[.pointer (some ⟨rb, 0, none⟩), .iface 36 (.pointer (some ⟨b, 0, none⟩))] w fun e w' => e = .returned (.tuple #[]) ∧ w' = w.setCell ⟨rb, 2, none⟩ (.iface 36 (.pointer (some ⟨b, 0, none⟩))) := by
  go_enter Ybaf.func9, Ybaf.ntmps9
  go_wp2
  go_end0
  exact ⟨rfl, rfl⟩

end Go.Proofs.YbulkbhkuFmt
