/- Trees of loaded functions, printed by wip/tools/rxprint (a program of this repo): each is what 'exec' comes to, held by the kernel. No statement of the set is proved here. -/
import Derived.Test.YtcjphnppedmbdaaDoorRz
import Derived.Test.YtcjphnppedmbdaaDoorProg
import Derived.KernelRfl
namespace Go.Proofs.YtcjphnppedmbdaaDoor.Tr
open Go Go.Proofs Go.Proofs.YtcjphnppedmbdaaDoor.Rx
set_option linter.unusedVariables false
set_option maxRecDepth 100000
/-! ### errors.New : function 44 -/
def errors_New.t (text : ByteArray) : T :=
  .alloc (Obj.cells #[(Value.string text)] 120 (0, 0)) fun (z0 : Addr) =>
  .leaf 0 [(Value.iface 118 (Value.pointer (some z0)))]
def errors_New.h : Hints := ⟨[], [], [], []⟩
noncomputable def errors_New.c : Code := (Tryd.f44.body).getD .skip
theorem errors_New.e (text : ByteArray) : fnT Tryd.prog errors_New.h Tryd.f44 errors_New.c [.v (Value.string text)] = errors_New.t text := by kernel_rfl
theorem errors_New.calls (text : ByteArray) {w : World} {R : Ending → World → Prop} (hs : sat Tryd.prog (errors_New.t text) (fun l vs w' => l = 0 ∧ R (.returned (retVal vs)) w') w) : Calls Tryd.prog 44 #[(Value.string text)] w R :=
  have h := calls_of_tree (w := w) (R := R) (args := [.v (Value.string text)]) (c := errors_New.c) Tryd.func44 (show Tryd.f44.body = some errors_New.c by kernel_rfl) (of_decide_eq_true (by kernel_rfl)) (errors_New.e text) hs
  h

end Go.Proofs.YtcjphnppedmbdaaDoor.Tr
