/- Trees of loaded functions, printed by wip/tools/rxprint (a program of this repo): each is what 'exec' comes to, held by the kernel. No statement of the set is proved here. -/
import Derived.Test.YtlfebfkphgelfaaGreatDoorRz
import Derived.Test.YtlfebfkphgelfaaGreatDoorProg
import Derived.KernelRfl
namespace Go.Proofs.YtlfebfkphgelfaaGreatDoor.Tr
open Go Go.Proofs Go.Proofs.YtlfebfkphgelfaaGreatDoor.Rx
set_option linter.unusedVariables false
set_option maxRecDepth 100000
def jsonparser_lastToken.t1 (data : (Option Addr)) (data_len : Nat) (i0 : Int) : T :=
  .ite (decide (i0 ≥ (0 : Int))) (
    .chk (((0 : Int) ≤ i0) ∧ (i0 < ((data_len : Nat) : Int))) <|
    .ptr data fun (z1 : Addr) =>
    .load (Addr.add z1 ((Int.toNat i0) * 1)) (.int .u8) fun (i2 : Int) =>
    .ite (i2 == (32 : Int)) (
      .leaf 1 [(.int .i64 (IntKind.wrap .i64 (i0 - (1 : Int))))]) (
      .ite (i2 == (10 : Int)) (
        .leaf 1 [(.int .i64 (IntKind.wrap .i64 (i0 - (1 : Int))))]) (
        .ite (i2 == (13 : Int)) (
          .leaf 1 [(.int .i64 (IntKind.wrap .i64 (i0 - (1 : Int))))]) (
          .ite (i2 == (9 : Int)) (
            .leaf 1 [(.int .i64 (IntKind.wrap .i64 (i0 - (1 : Int))))]) (
            .leaf 0 [(.int .i64 i0)]))))) (
    .leaf 0 [(.int .i64 (-1 : Int))])
def jsonparser_lastToken.t (data : (Option Addr)) (data_len : Nat) (data_cap : Nat) : T :=
  .loop 1 (.cons (.int .i64) .nil) [(.int .i64 (IntKind.wrap .i64 (((data_len : Nat) : Int) - (1 : Int))))]
    (fun z => jsonparser_lastToken.t1 data data_len z.1)
def jsonparser_lastToken.h : Hints := ⟨[], [], [], [(2, [(3, (.int .i64))])]⟩
noncomputable def jsonparser_lastToken.c : Code := (Tryz.f67.body).getD .skip
theorem jsonparser_lastToken.e (data : (Option Addr)) (data_len : Nat) (data_cap : Nat) : fnT Tryz.prog jsonparser_lastToken.h Tryz.f67 jsonparser_lastToken.c [.v (Value.slice data data_len data_cap)] = jsonparser_lastToken.t data data_len data_cap := by kernel_rfl
theorem jsonparser_lastToken.calls (data : (Option Addr)) (data_len : Nat) (data_cap : Nat) {w : World} {R : Ending → World → Prop} (hs : sat Tryz.prog (jsonparser_lastToken.t data data_len data_cap) (fun l vs w' => l = 0 ∧ R (.returned (retVal vs)) w') w) : Calls Tryz.prog 67 #[(Value.slice data data_len data_cap)] w R :=
  have h := calls_of_tree (w := w) (R := R) (args := [.v (Value.slice data data_len data_cap)]) (c := jsonparser_lastToken.c) Tryz.func67 (show Tryz.f67.body = some jsonparser_lastToken.c by kernel_rfl) (of_decide_eq_true (by kernel_rfl)) (jsonparser_lastToken.e data data_len data_cap) hs
  h

end Go.Proofs.YtlfebfkphgelfaaGreatDoor.Tr
