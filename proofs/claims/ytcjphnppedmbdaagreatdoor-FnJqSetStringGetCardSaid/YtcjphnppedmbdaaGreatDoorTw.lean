/- Trees of loaded functions, printed by wip/tools/rxprint (a program of this repo): each is what 'exec' comes to, held by the kernel. No statement of the set is proved here. -/
import Derived.Test.YtcjphnppedmbdaaGreatDoorRz
import Derived.Test.YtcjphnppedmbdaaGreatDoorProg
import Derived.KernelRfl
namespace Go.Proofs.YtcjphnppedmbdaaGreatDoor.Tr
open Go Go.Proofs Go.Proofs.YtcjphnppedmbdaaGreatDoor.Rx
set_option linter.unusedVariables false
set_option maxRecDepth 100000
/-! ### errors.New : function 68 -/
def errors_New.t (text : ByteArray) : T :=
  .alloc (Obj.cells #[(Value.string text)] 134 (0, 0)) fun (z0 : Addr) =>
  .leaf 0 [(Value.iface 132 (Value.pointer (some z0)))]
def errors_New.h : Hints := ⟨[], [], [], []⟩
noncomputable def errors_New.c : Code := (Tryz.f68.body).getD .skip
theorem errors_New.e (text : ByteArray) : fnT Tryz.prog errors_New.h Tryz.f68 errors_New.c [.v (Value.string text)] = errors_New.t text := by kernel_rfl
theorem errors_New.calls (text : ByteArray) {w : World} {R : Ending → World → Prop} (hs : sat Tryz.prog (errors_New.t text) (fun l vs w' => l = 0 ∧ R (.returned (retVal vs)) w') w) : Calls Tryz.prog 68 #[(Value.string text)] w R :=
  have h := calls_of_tree (w := w) (R := R) (args := [.v (Value.string text)]) (c := errors_New.c) Tryz.func68 (show Tryz.f68.body = some errors_New.c by kernel_rfl) (of_decide_eq_true (by kernel_rfl)) (errors_New.e text) hs
  h

end Go.Proofs.YtcjphnppedmbdaaGreatDoor.Tr
