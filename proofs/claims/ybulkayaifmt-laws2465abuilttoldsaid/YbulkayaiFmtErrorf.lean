/-
  fmt.Errorf at this program: the closed facts on the stop (after the guide's CheckFmt), and the walk: a new error, never nil.
-/
import Derived.Test.YbulkayaiFmtObject
import Derived.Stop.CallBack
import Derived.Stop.IfaceNil
import GoSem.ClaimData
import GoSem.ClaimNames
namespace Go.Proofs.YbulkayaiFmt.A
open Go.RowKit Go.Extern.Stop Go.Stop Go.Extern
set_option linter.unusedVariables false

theorem call28 (args : Array Value) (w : World) : (callFunc 28 args).run Ybaf.prog w = ((FmtStop.errorf #[9, 59] #[32] args).run Ybaf.prog w).andThen fun v w' => .ok (.value v) w' :=
  run_callFunc_extern Ybaf.func28 (by kernel_rfl) (by kernel_rfl) (by kernel_rfl) (by kernel_rfl) args w
theorem guardOk (name : String) (w : World) : (FmtStop.guard name).run Ybaf.prog w = .ok () w := by kernel_rfl
theorem fmt0 : FmtStop.printed? ⟨#[101, 67, 111, 110, 116, 101, 110, 116, 84, 121, 112, 101, 32, 105, 115, 32, 37, 115, 44, 32, 110, 111, 116, 32, 105, 100, 45, 99, 116, 45, 65, 83, 80, 65]⟩ 1 = some [(0, 115, false)] := by kernel_rfl
theorem fmt0r (w : World) : (FmtDoors.printed ⟨#[101, 67, 111, 110, 116, 101, 110, 116, 84, 121, 112, 101, 32, 105, 115, 32, 37, 115, 44, 32, 110, 111, 116, 32, 105, 100, 45, 99, 116, 45, 65, 83, 80, 65]⟩ 1).run Ybaf.prog w = .ok [(0, 115, false)] w := by kernel_rfl
def shape9 : List UInt8 := [12, 6, 0, 0, 0, 0, 0, 0, 0, 115, 116, 114, 105, 110, 103]
theorem op9_115 (name : String) (x : ByteArray) (w : World) : (FmtStop.operand name false 115 false (.iface 9 (.string x))).run Ybaf.prog w = .ok (shape9, FmtStop.pack x.data.toList) w := by kernel_rfl
theorem op9_115w (name : String) (x : ByteArray) (w : World) : (FmtStop.operand name true 115 false (.iface 9 (.string x))).run Ybaf.prog w = .ok (shape9, FmtStop.pack x.data.toList) w := by kernel_rfl
theorem ptr82 (w : World) : (FmtStop.ptrTo "errors.errorString").run Ybaf.prog w = .ok 82 w := by kernel_rfl
theorem elem82 (w : World) : (elemOf 82).run Ybaf.prog w = .ok 84 w := by kernel_rfl
theorem isError82 (w : World) : (FmtDoors.textMethod 82 "Error").run Ybaf.prog w = .ok true w := by kernel_rfl

attribute [local go_sem] call28 guardOk fmt0 fmt0r op9_115 op9_115w ptr82 elem82 isError82

set_option maxRecDepth 20000 in
set_option maxHeartbeats 2000000 in
theorem errorf (F : Interp) (s : ByteArray) (g : Nat) (w : World) (hF : F.answers w.tape) (hc : w.cell? ⟨g, 0, none⟩ = some (.iface 9 (.string s))) :
    Calls Ybaf.prog 17 #[.string ⟨#[101, 67, 111, 110, 116, 101, 110, 116, 84, 121, 112, 101, 32, 105, 115, 32, 37, 115, 44, 32, 110, 111, 116, 32, 105, 100, 45, 99, 116, 45, 65, 83, 80, 65]⟩, .slice (some ⟨g, 0, none⟩) 1 1] w fun e w' => ∃ a, e = .returned (.iface 82 (.pointer (some a))) ∧ Below w.heap.size w w' := by
  have hF' := Stop.Interp.answers_open hF
  go_enter Ybaf.func17, Ybaf.ntmps17
  go_wp2
  go_ret
  exact ⟨_, rfl, ((Below.refl _ _).alloc (Nat.le_refl _) _).drew⟩

end Go.Proofs.YbulkayaiFmt.A
