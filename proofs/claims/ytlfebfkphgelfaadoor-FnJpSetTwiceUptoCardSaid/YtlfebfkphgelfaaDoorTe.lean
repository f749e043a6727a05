/- Trees of loaded functions, printed by wip/tools/rxprint (a program of this repo): each is what 'exec' comes to, held by the kernel. No statement of the set is proved here. -/
import Derived.Test.YtlfebfkphgelfaaDoorRz
import Derived.Test.YtlfebfkphgelfaaDoorProg
import Derived.KernelRfl
namespace Go.Proofs.YtlfebfkphgelfaaDoor.Tr
open Go Go.Proofs Go.Proofs.YtlfebfkphgelfaaDoor.Rx
set_option linter.unusedVariables false
set_option maxRecDepth 100000
/-! ### pub-tetrapla/laws.FnJpSetTwice : function 3 -/
def laws_FnJpSetTwice.t2 (q0 : ByteArray) (q1 : ByteArray) (q2 : ByteArray) (q3 : (Option Addr)) (q3_len : Nat) (q3_cap : Nat) (b13 : Bool) : T :=
  .ite b13 (
    .leaf 0 [(Value.bool Bool.true)]) (
    .call 9 #[(Value.string q0), (Value.string q1), (Value.slice q3 q3_len q3_cap)] (.tuple (.cons .str (.cons .bool .nil))) fun (z14 : (ByteArray × (Bool × PUnit))) =>
    .call 9 #[(Value.string (z14).1), (Value.string q2), (Value.slice q3 q3_len q3_cap)] (.tuple (.cons .str (.cons .bool .nil))) fun (z15 : (ByteArray × (Bool × PUnit))) =>
    .call 9 #[(Value.string q0), (Value.string q2), (Value.slice q3 q3_len q3_cap)] (.tuple (.cons .str (.cons .bool .nil))) fun (z16 : (ByteArray × (Bool × PUnit))) =>
    .ite ((z14).2).1 (
      .ite ((z15).2).1 (
        .ite ((z16).2).1 (
          .leaf 0 [(Value.bool (strEq (z15).1 (z16).1))]) (
          .leaf 0 [(Value.bool Bool.false)])) (
        .leaf 0 [(Value.bool Bool.false)])) (
      .leaf 0 [(Value.bool Bool.false)]))
def laws_FnJpSetTwice.t1 (q0 : ByteArray) (q1 : ByteArray) (q2 : ByteArray) (q3 : (Option Addr)) (q3_len : Nat) (q3_cap : Nat) (b1 : Bool) : T :=
  .ite b1 (
    .leaf 0 [(Value.bool Bool.true)]) (
    .call 6 #[(Value.string q0), (Value.slice q3 q3_len q3_cap)] (.tuple (.cons (.agg (.cons (.int .i64) (.cons (.int .i64) (.cons (.int .i64) (.cons .slice (.cons .slice .nil)))))) (.cons .bool .nil))) fun (z2 : ((Int × (Int × (Int × (((Option Addr) × (Nat × Nat)) × (((Option Addr) × (Nat × Nat)) × PUnit))))) × (Bool × PUnit))) =>
    .alloc (Obj.cells #[(Value.int IntKind.i64 (0 : Int)), (Value.int IntKind.i64 (0 : Int)), (Value.int IntKind.i64 (0 : Int)), (Value.slice none 0 0), (Value.slice none 0 0)] 27 (0, 0)) fun (z3 : Addr) =>
    .effU (Instr.storeAt 27 (Value.pointer (some z3)) (Value.agg #[(Value.int IntKind.i64 ((z2).1).1), (Value.int IntKind.i64 (((z2).1).2).1), (Value.int IntKind.i64 ((((z2).1).2).2).1), (Value.slice ((((((z2).1).2).2).2).1).1 (((((((z2).1).2).2).2).1).2).1 (((((((z2).1).2).2).2).1).2).2), (Value.slice (((((((z2).1).2).2).2).2).1).1 ((((((((z2).1).2).2).2).2).1).2).1 ((((((((z2).1).2).2).2).2).1).2).2)])) <|
    .call 7 #[(Value.string q0), (Value.slice q3 q3_len q3_cap)] (.tuple (.cons (.int .i64) (.cons .bool .nil))) fun (z4 : (Int × (Bool × PUnit))) =>
    .call 8 #[(Value.string q1)] (.tuple (.cons (.agg (.cons (.int .i64) (.cons (.int .i64) (.cons (.int .i64) (.cons .slice (.cons .slice .nil)))))) (.cons .bool .nil))) fun (z5 : ((Int × (Int × (Int × (((Option Addr) × (Nat × Nat)) × (((Option Addr) × (Nat × Nat)) × PUnit))))) × (Bool × PUnit))) =>
    .alloc (Obj.cells #[(Value.int IntKind.i64 (0 : Int)), (Value.int IntKind.i64 (0 : Int)), (Value.int IntKind.i64 (0 : Int)), (Value.slice none 0 0), (Value.slice none 0 0)] 27 (0, 0)) fun (z6 : Addr) =>
    .effU (Instr.storeAt 27 (Value.pointer (some z6)) (Value.agg #[(Value.int IntKind.i64 ((z5).1).1), (Value.int IntKind.i64 (((z5).1).2).1), (Value.int IntKind.i64 ((((z5).1).2).2).1), (Value.slice ((((((z5).1).2).2).2).1).1 (((((((z5).1).2).2).2).1).2).1 (((((((z5).1).2).2).2).1).2).2), (Value.slice (((((((z5).1).2).2).2).2).1).1 ((((((((z5).1).2).2).2).2).1).2).1 ((((((((z5).1).2).2).2).2).1).2).2)])) <|
    .call 8 #[(Value.string q2)] (.tuple (.cons (.agg (.cons (.int .i64) (.cons (.int .i64) (.cons (.int .i64) (.cons .slice (.cons .slice .nil)))))) (.cons .bool .nil))) fun (z7 : ((Int × (Int × (Int × (((Option Addr) × (Nat × Nat)) × (((Option Addr) × (Nat × Nat)) × PUnit))))) × (Bool × PUnit))) =>
    .alloc (Obj.cells #[(Value.int IntKind.i64 (0 : Int)), (Value.int IntKind.i64 (0 : Int)), (Value.int IntKind.i64 (0 : Int)), (Value.slice none 0 0), (Value.slice none 0 0)] 27 (0, 0)) fun (z8 : Addr) =>
    .effU (Instr.storeAt 27 (Value.pointer (some z8)) (Value.agg #[(Value.int IntKind.i64 ((z7).1).1), (Value.int IntKind.i64 (((z7).1).2).1), (Value.int IntKind.i64 ((((z7).1).2).2).1), (Value.slice ((((((z7).1).2).2).2).1).1 (((((((z7).1).2).2).2).1).2).1 (((((((z7).1).2).2).2).1).2).2), (Value.slice (((((((z7).1).2).2).2).2).1).1 ((((((((z7).1).2).2).2).2).1).2).1 ((((((((z7).1).2).2).2).2).1).2).2)])) <|
    .cut 1 (.cons .bool .nil) (
      .ite (!((z2).2).1) (
        .ite (!((z4).2).1) (
          .leaf 1 [(Value.bool Bool.true)]) (
          .ite (((q3_len : Nat) : Int) == (0 : Int)) (
            .leaf 1 [(Value.bool Bool.true)]) (
            .ite (!((z5).2).1) (
              .leaf 1 [(Value.bool Bool.true)]) (
              .ite (!((z7).2).1) (
                .leaf 1 [(Value.bool Bool.true)]) (
                .load (Addr.add z6 1) (.int .i64) fun (i9 : Int) =>
                .ite (decide (i9 > (0 : Int))) (
                  .leaf 1 [(Value.bool Bool.true)]) (
                  .load (Addr.add z6 2) (.int .i64) fun (i10 : Int) =>
                  .leaf 1 [(Value.bool (decide (i10 < (((ByteArray.size q1) : Nat) : Int))))])))))) (
        .ite (((q3_len : Nat) : Int) == (0 : Int)) (
          .leaf 1 [(Value.bool Bool.true)]) (
          .ite (!((z5).2).1) (
            .leaf 1 [(Value.bool Bool.true)]) (
            .ite (!((z7).2).1) (
              .leaf 1 [(Value.bool Bool.true)]) (
              .load (Addr.add z6 1) (.int .i64) fun (i11 : Int) =>
              .ite (decide (i11 > (0 : Int))) (
                .leaf 1 [(Value.bool Bool.true)]) (
                .load (Addr.add z6 2) (.int .i64) fun (i12 : Int) =>
                .leaf 1 [(Value.bool (decide (i12 < (((ByteArray.size q1) : Nat) : Int))))]))))))
      (fun z => laws_FnJpSetTwice.t2 q0 q1 q2 q3 q3_len q3_cap z.1))
def laws_FnJpSetTwice.t (q0 : ByteArray) (q1 : ByteArray) (q2 : ByteArray) (q3 : (Option Addr)) (q3_len : Nat) (q3_cap : Nat) : T :=
  .cut 1 (.cons .bool .nil) (
    .ite (decide ((((ByteArray.size q0) : Nat) : Int) > (2147483647 : Int))) (
      .leaf 1 [(Value.bool Bool.true)]) (
      .ite (decide ((((ByteArray.size q1) : Nat) : Int) > (2147483647 : Int))) (
        .leaf 1 [(Value.bool Bool.true)]) (
        .ite (decide ((((ByteArray.size q2) : Nat) : Int) > (2147483647 : Int))) (
          .leaf 1 [(Value.bool Bool.true)]) (
          .call 5 #[(Value.slice q3 q3_len q3_cap)] .bool fun (b0 : Bool) =>
          .leaf 1 [(Value.bool (!b0))]))))
    (fun z => laws_FnJpSetTwice.t1 q0 q1 q2 q3 q3_len q3_cap z.1)
def laws_FnJpSetTwice.h : Hints := ⟨[], [], [(1, [(40, .bool)]), (7, [(93, .bool)])], []⟩
noncomputable def laws_FnJpSetTwice.c : Code := (Tryd.f3.body).getD .skip
theorem laws_FnJpSetTwice.e (q0 : ByteArray) (q1 : ByteArray) (q2 : ByteArray) (q3 : (Option Addr)) (q3_len : Nat) (q3_cap : Nat) : fnT Tryd.prog laws_FnJpSetTwice.h Tryd.f3 laws_FnJpSetTwice.c [.v (Value.string q0), .v (Value.string q1), .v (Value.string q2), .v (Value.slice q3 q3_len q3_cap)] = laws_FnJpSetTwice.t q0 q1 q2 q3 q3_len q3_cap := by kernel_rfl
theorem laws_FnJpSetTwice.calls (q0 : ByteArray) (q1 : ByteArray) (q2 : ByteArray) (q3 : (Option Addr)) (q3_len : Nat) (q3_cap : Nat) {w : World} {R : Ending → World → Prop} (hs : sat Tryd.prog (laws_FnJpSetTwice.t q0 q1 q2 q3 q3_len q3_cap) (fun l vs w' => l = 0 ∧ R (.returned (retVal vs)) w') w) : Calls Tryd.prog 3 #[(Value.string q0), (Value.string q1), (Value.string q2), (Value.slice q3 q3_len q3_cap)] w R :=
  have h := calls_of_tree (w := w) (R := R) (args := [.v (Value.string q0), .v (Value.string q1), .v (Value.string q2), .v (Value.slice q3 q3_len q3_cap)]) (c := laws_FnJpSetTwice.c) Tryd.func3 (show Tryd.f3.body = some laws_FnJpSetTwice.c by kernel_rfl) (of_decide_eq_true (by kernel_rfl)) (laws_FnJpSetTwice.e q0 q1 q2 q3 q3_len q3_cap) hs
  h

end Go.Proofs.YtlfebfkphgelfaaDoor.Tr
