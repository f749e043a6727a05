/- Trees of loaded functions, printed by wip/tools/rxprint (a program of this repo): each is what 'exec' comes to, held by the kernel. No statement of the set is proved here. -/
import Derived.Test.YtkpnomdmnhhaoaaGreatDoorRz
import Derived.Test.YtkpnomdmnhhaoaaGreatDoorProg
import Derived.KernelRfl
namespace Go.Proofs.YtkpnomdmnhhaoaaGreatDoor.Tr
open Go Go.Proofs Go.Proofs.YtkpnomdmnhhaoaaGreatDoor.Rx
set_option linter.unusedVariables false
set_option maxRecDepth 100000
/-! ### pub-tetrapla/impl.FjRead : function 10 -/
def impl_FjRead.t (text : ByteArray) : T :=
  .alloc (Obj.cells #[(Value.int IntKind.i64 (0 : Int)), (Value.string (ByteArray.mk #[])), (Value.slice none 0 0), (Value.slice none 0 0)] 26 (0, 0)) fun (z0 : Addr) =>
  .alloc (Obj.cells #[(Value.slice none 0 0), (Value.slice none 0 0)] 48 (0, 0)) fun (z1 : Addr) =>
  .call 19 #[(Value.pointer (some z1)), (Value.string text)] (.tuple (.cons .ptr (.cons .any .nil))) fun (z2 : ((Option Addr) × (Value × PUnit))) =>
  .chk ((isIface ((z2).2).1) = Bool.true) <|
  .ite (!(isNil ((z2).2).1)) (
    .effU (Instr.storeAt 26 (Value.pointer (some z0)) (Value.agg #[(Value.int IntKind.i64 (0 : Int)), (Value.string (ByteArray.mk #[])), (Value.slice none 0 0), (Value.slice none 0 0)])) <|
    .effS (Instr.loadAt 26 (Value.pointer (some z0))) (.agg (.cons (.int .i64) (.cons .str (.cons .slice (.cons .slice .nil))))) fun (z3 : (Int × (ByteArray × (((Option Addr) × (Nat × Nat)) × (((Option Addr) × (Nat × Nat)) × PUnit))))) =>
    .leaf 0 [(Value.agg #[(Value.int IntKind.i64 (z3).1), (Value.string ((z3).2).1), (Value.slice ((((z3).2).2).1).1 (((((z3).2).2).1).2).1 (((((z3).2).2).1).2).2), (Value.slice (((((z3).2).2).2).1).1 ((((((z3).2).2).2).1).2).1 ((((((z3).2).2).2).1).2).2)]), (Value.bool Bool.false)]) (
    .call 17 #[(Value.pointer (z2).1)] (.agg (.cons (.int .i64) (.cons .str (.cons .slice (.cons .slice .nil))))) fun (z4 : (Int × (ByteArray × (((Option Addr) × (Nat × Nat)) × (((Option Addr) × (Nat × Nat)) × PUnit))))) =>
    .effU (Instr.storeAt 26 (Value.pointer (some z0)) (Value.agg #[(Value.int IntKind.i64 (z4).1), (Value.string ((z4).2).1), (Value.slice ((((z4).2).2).1).1 (((((z4).2).2).1).2).1 (((((z4).2).2).1).2).2), (Value.slice (((((z4).2).2).2).1).1 ((((((z4).2).2).2).1).2).1 ((((((z4).2).2).2).1).2).2)])) <|
    .effS (Instr.loadAt 26 (Value.pointer (some z0))) (.agg (.cons (.int .i64) (.cons .str (.cons .slice (.cons .slice .nil))))) fun (z5 : (Int × (ByteArray × (((Option Addr) × (Nat × Nat)) × (((Option Addr) × (Nat × Nat)) × PUnit))))) =>
    .leaf 0 [(Value.agg #[(Value.int IntKind.i64 (z5).1), (Value.string ((z5).2).1), (Value.slice ((((z5).2).2).1).1 (((((z5).2).2).1).2).1 (((((z5).2).2).1).2).2), (Value.slice (((((z5).2).2).2).1).1 ((((((z5).2).2).2).1).2).1 ((((((z5).2).2).2).1).2).2)]), (Value.bool Bool.true)])
def impl_FjRead.h : Hints := ⟨[], [], [], []⟩
noncomputable def impl_FjRead.c : Code := (Tryz.f10.body).getD .skip
theorem impl_FjRead.e (text : ByteArray) : fnT Tryz.prog impl_FjRead.h Tryz.f10 impl_FjRead.c [.v (Value.string text)] = impl_FjRead.t text := by kernel_rfl
theorem impl_FjRead.calls (text : ByteArray) {w : World} {R : Ending → World → Prop} (hs : sat Tryz.prog (impl_FjRead.t text) (fun l vs w' => l = 0 ∧ R (.returned (retVal vs)) w') w) : Calls Tryz.prog 10 #[(Value.string text)] w R :=
  have h := calls_of_tree (w := w) (R := R) (args := [.v (Value.string text)]) (c := impl_FjRead.c) Tryz.func10 (show Tryz.f10.body = some impl_FjRead.c by kernel_rfl) (of_decide_eq_true (by kernel_rfl)) (impl_FjRead.e text) hs
  h

/-! ### pub-tetrapla/impl.FjValid : function 11 -/
def impl_FjValid.t (text : ByteArray) : T :=
  .call 20 #[(Value.string text)] .any fun (v0 : Value) =>
  .chk ((isIface v0) = Bool.true) <|
  .leaf 0 [(Value.bool (isNil v0))]
def impl_FjValid.h : Hints := ⟨[], [], [], []⟩
noncomputable def impl_FjValid.c : Code := (Tryz.f11.body).getD .skip
theorem impl_FjValid.e (text : ByteArray) : fnT Tryz.prog impl_FjValid.h Tryz.f11 impl_FjValid.c [.v (Value.string text)] = impl_FjValid.t text := by kernel_rfl
theorem impl_FjValid.calls (text : ByteArray) {w : World} {R : Ending → World → Prop} (hs : sat Tryz.prog (impl_FjValid.t text) (fun l vs w' => l = 0 ∧ R (.returned (retVal vs)) w') w) : Calls Tryz.prog 11 #[(Value.string text)] w R :=
  have h := calls_of_tree (w := w) (R := R) (args := [.v (Value.string text)]) (c := impl_FjValid.c) Tryz.func11 (show Tryz.f11.body = some impl_FjValid.c by kernel_rfl) (of_decide_eq_true (by kernel_rfl)) (impl_FjValid.e text) hs
  h

/-! ### pub-tetrapla/pub/fastjson.Validate : function 20 -/
def fastjson_Validate.t (s : ByteArray) : T :=
  .call 35 #[(Value.string s)] .str fun (s0 : ByteArray) =>
  .call 39 #[(Value.string s0)] (.tuple (.cons .str (.cons .any .nil))) fun (z1 : (ByteArray × (Value × PUnit))) =>
  .chk ((isIface ((z1).2).1) = Bool.true) <|
  .ite (!(isNil ((z1).2).1)) (
    .call 38 #[(Value.string (ByteArray.mk #[(99 : UInt8), (97 : UInt8), (110 : UInt8), (110 : UInt8), (111 : UInt8), (116 : UInt8), (32 : UInt8), (112 : UInt8), (97 : UInt8), (114 : UInt8), (115 : UInt8), (101 : UInt8), (32 : UInt8), (74 : UInt8), (83 : UInt8), (79 : UInt8), (78 : UInt8)]))] .any fun (v2 : Value) =>
    .leaf 0 [v2]) (
    .call 35 #[(Value.string (z1).1)] .str fun (s3 : ByteArray) =>
    .ite (decide ((((ByteArray.size s3) : Nat) : Int) > (0 : Int))) (
      .call 38 #[(Value.string (ByteArray.mk #[(117 : UInt8), (110 : UInt8), (101 : UInt8), (120 : UInt8), (112 : UInt8), (101 : UInt8), (99 : UInt8), (116 : UInt8), (101 : UInt8), (100 : UInt8), (32 : UInt8), (116 : UInt8), (97 : UInt8), (105 : UInt8), (108 : UInt8)]))] .any fun (v4 : Value) =>
      .leaf 0 [v4]) (
      .leaf 0 [Value.nilIface]))
def fastjson_Validate.h : Hints := ⟨[], [], [], []⟩
noncomputable def fastjson_Validate.c : Code := (Tryz.f20.body).getD .skip
theorem fastjson_Validate.e (s : ByteArray) : fnT Tryz.prog fastjson_Validate.h Tryz.f20 fastjson_Validate.c [.v (Value.string s)] = fastjson_Validate.t s := by kernel_rfl
theorem fastjson_Validate.calls (s : ByteArray) {w : World} {R : Ending → World → Prop} (hs : sat Tryz.prog (fastjson_Validate.t s) (fun l vs w' => l = 0 ∧ R (.returned (retVal vs)) w') w) : Calls Tryz.prog 20 #[(Value.string s)] w R :=
  have h := calls_of_tree (w := w) (R := R) (args := [.v (Value.string s)]) (c := fastjson_Validate.c) Tryz.func20 (show Tryz.f20.body = some fastjson_Validate.c by kernel_rfl) (of_decide_eq_true (by kernel_rfl)) (fastjson_Validate.e s) hs
  h

/-! ### pub-tetrapla/pub/fastjson.validateValue : function 39 -/
def fastjson_validateValue.t1 (z5 : (ByteArray × (ByteArray × (Value × PUnit)))) (i7 : Int) : T :=
  .ite (decide (i7 < (((ByteArray.size (z5).1) : Nat) : Int))) (
    .chk (((0 : Int) ≤ i7) ∧ (i7 < (((ByteArray.size (z5).1) : Nat) : Int))) <|
    .ite (decide ((bt (z5).1 i7) < (32 : Int))) (
      .call 38 #[(Value.string (ByteArray.mk #[(115 : UInt8), (116 : UInt8), (114 : UInt8), (105 : UInt8), (110 : UInt8), (103 : UInt8), (32 : UInt8), (99 : UInt8), (97 : UInt8), (110 : UInt8), (110 : UInt8), (111 : UInt8), (116 : UInt8), (32 : UInt8), (99 : UInt8), (111 : UInt8), (110 : UInt8), (116 : UInt8), (97 : UInt8), (105 : UInt8), (110 : UInt8), (32 : UInt8), (99 : UInt8), (111 : UInt8), (110 : UInt8), (116 : UInt8), (114 : UInt8), (111 : UInt8), (108 : UInt8), (32 : UInt8), (99 : UInt8), (104 : UInt8), (97 : UInt8), (114 : UInt8), (32 : UInt8), (48 : UInt8), (120 : UInt8)]))] .any fun (v8 : Value) =>
      .leaf 0 [(Value.string ((z5).2).1), v8]) (
      .leaf 1 [(Value.int IntKind.i64 (IntKind.wrap IntKind.i64 (i7 + (1 : Int))))])) (
    .leaf 0 [(Value.string ((z5).2).1), Value.nilIface])
def fastjson_validateValue.t2 (q0 : ByteArray) (b9 : Bool) : T :=
  .ite b9 (
    .call 38 #[(Value.string (ByteArray.mk #[(117 : UInt8), (110 : UInt8), (101 : UInt8), (120 : UInt8), (112 : UInt8), (101 : UInt8), (99 : UInt8), (116 : UInt8), (101 : UInt8), (100 : UInt8), (32 : UInt8), (118 : UInt8), (97 : UInt8), (108 : UInt8), (117 : UInt8), (101 : UInt8), (32 : UInt8), (102 : UInt8), (111 : UInt8), (117 : UInt8), (110 : UInt8), (100 : UInt8)]))] .any fun (v10 : Value) =>
    .leaf 0 [(Value.string q0), v10]) (
    .chk (((0 : Int) ≤ (4 : Int)) ∧ (((4 : Int) ≤ (((ByteArray.size q0) : Nat) : Int)) ∧ ((((ByteArray.size q0) : Nat) : Int) ≤ (((ByteArray.size q0) : Nat) : Int)))) <|
    .leaf 0 [(Value.string (ByteArray.extract q0 4 (Int.toNat (((ByteArray.size q0) : Nat) : Int)))), Value.nilIface])
def fastjson_validateValue.t3 (q0 : ByteArray) (b11 : Bool) : T :=
  .ite b11 (
    .call 38 #[(Value.string (ByteArray.mk #[(117 : UInt8), (110 : UInt8), (101 : UInt8), (120 : UInt8), (112 : UInt8), (101 : UInt8), (99 : UInt8), (116 : UInt8), (101 : UInt8), (100 : UInt8), (32 : UInt8), (118 : UInt8), (97 : UInt8), (108 : UInt8), (117 : UInt8), (101 : UInt8), (32 : UInt8), (102 : UInt8), (111 : UInt8), (117 : UInt8), (110 : UInt8), (100 : UInt8)]))] .any fun (v12 : Value) =>
    .leaf 0 [(Value.string q0), v12]) (
    .chk (((0 : Int) ≤ (5 : Int)) ∧ (((5 : Int) ≤ (((ByteArray.size q0) : Nat) : Int)) ∧ ((((ByteArray.size q0) : Nat) : Int) ≤ (((ByteArray.size q0) : Nat) : Int)))) <|
    .leaf 0 [(Value.string (ByteArray.extract q0 5 (Int.toNat (((ByteArray.size q0) : Nat) : Int)))), Value.nilIface])
def fastjson_validateValue.t4 (q0 : ByteArray) (b13 : Bool) : T :=
  .ite b13 (
    .call 38 #[(Value.string (ByteArray.mk #[(117 : UInt8), (110 : UInt8), (101 : UInt8), (120 : UInt8), (112 : UInt8), (101 : UInt8), (99 : UInt8), (116 : UInt8), (101 : UInt8), (100 : UInt8), (32 : UInt8), (118 : UInt8), (97 : UInt8), (108 : UInt8), (117 : UInt8), (101 : UInt8), (32 : UInt8), (102 : UInt8), (111 : UInt8), (117 : UInt8), (110 : UInt8), (100 : UInt8)]))] .any fun (v14 : Value) =>
    .leaf 0 [(Value.string q0), v14]) (
    .chk (((0 : Int) ≤ (4 : Int)) ∧ (((4 : Int) ≤ (((ByteArray.size q0) : Nat) : Int)) ∧ ((((ByteArray.size q0) : Nat) : Int) ≤ (((ByteArray.size q0) : Nat) : Int)))) <|
    .leaf 0 [(Value.string (ByteArray.extract q0 4 (Int.toNat (((ByteArray.size q0) : Nat) : Int)))), Value.nilIface])
def fastjson_validateValue.t (q0 : ByteArray) : T :=
  .ite ((((ByteArray.size q0) : Nat) : Int) == (0 : Int)) (
    .call 38 #[(Value.string (ByteArray.mk #[(99 : UInt8), (97 : UInt8), (110 : UInt8), (110 : UInt8), (111 : UInt8), (116 : UInt8), (32 : UInt8), (112 : UInt8), (97 : UInt8), (114 : UInt8), (115 : UInt8), (101 : UInt8), (32 : UInt8), (101 : UInt8), (109 : UInt8), (112 : UInt8), (116 : UInt8), (121 : UInt8), (32 : UInt8), (115 : UInt8), (116 : UInt8), (114 : UInt8), (105 : UInt8), (110 : UInt8), (103 : UInt8)]))] .any fun (v0 : Value) =>
    .leaf 0 [(Value.string q0), v0]) (
    .chk (((0 : Int) ≤ (0 : Int)) ∧ ((0 : Int) < (((ByteArray.size q0) : Nat) : Int))) <|
    .ite ((bt q0 (0 : Int)) == (123 : Int)) (
      .chk (((0 : Int) ≤ (1 : Int)) ∧ (((1 : Int) ≤ (((ByteArray.size q0) : Nat) : Int)) ∧ ((((ByteArray.size q0) : Nat) : Int) ≤ (((ByteArray.size q0) : Nat) : Int)))) <|
      .call 59 #[(Value.string (ByteArray.extract q0 1 (Int.toNat (((ByteArray.size q0) : Nat) : Int))))] (.tuple (.cons .str (.cons .any .nil))) fun (z1 : (ByteArray × (Value × PUnit))) =>
      .chk ((isIface ((z1).2).1) = Bool.true) <|
      .ite (!(isNil ((z1).2).1)) (
        .call 38 #[(Value.string (ByteArray.mk #[(99 : UInt8), (97 : UInt8), (110 : UInt8), (110 : UInt8), (111 : UInt8), (116 : UInt8), (32 : UInt8), (112 : UInt8), (97 : UInt8), (114 : UInt8), (115 : UInt8), (101 : UInt8), (32 : UInt8), (111 : UInt8), (98 : UInt8), (106 : UInt8), (101 : UInt8), (99 : UInt8), (116 : UInt8)]))] .any fun (v2 : Value) =>
        .leaf 0 [(Value.string (z1).1), v2]) (
        .leaf 0 [(Value.string (z1).1), Value.nilIface])) (
      .chk (((0 : Int) ≤ (0 : Int)) ∧ ((0 : Int) < (((ByteArray.size q0) : Nat) : Int))) <|
      .ite ((bt q0 (0 : Int)) == (91 : Int)) (
        .chk (((0 : Int) ≤ (1 : Int)) ∧ (((1 : Int) ≤ (((ByteArray.size q0) : Nat) : Int)) ∧ ((((ByteArray.size q0) : Nat) : Int) ≤ (((ByteArray.size q0) : Nat) : Int)))) <|
        .call 60 #[(Value.string (ByteArray.extract q0 1 (Int.toNat (((ByteArray.size q0) : Nat) : Int))))] (.tuple (.cons .str (.cons .any .nil))) fun (z3 : (ByteArray × (Value × PUnit))) =>
        .chk ((isIface ((z3).2).1) = Bool.true) <|
        .ite (!(isNil ((z3).2).1)) (
          .call 38 #[(Value.string (ByteArray.mk #[(99 : UInt8), (97 : UInt8), (110 : UInt8), (110 : UInt8), (111 : UInt8), (116 : UInt8), (32 : UInt8), (112 : UInt8), (97 : UInt8), (114 : UInt8), (115 : UInt8), (101 : UInt8), (32 : UInt8), (97 : UInt8), (114 : UInt8), (114 : UInt8), (97 : UInt8), (121 : UInt8)]))] .any fun (v4 : Value) =>
          .leaf 0 [(Value.string (z3).1), v4]) (
          .leaf 0 [(Value.string (z3).1), Value.nilIface])) (
        .chk (((0 : Int) ≤ (0 : Int)) ∧ ((0 : Int) < (((ByteArray.size q0) : Nat) : Int))) <|
        .ite ((bt q0 (0 : Int)) == (34 : Int)) (
          .chk (((0 : Int) ≤ (1 : Int)) ∧ (((1 : Int) ≤ (((ByteArray.size q0) : Nat) : Int)) ∧ ((((ByteArray.size q0) : Nat) : Int) ≤ (((ByteArray.size q0) : Nat) : Int)))) <|
          .call 61 #[(Value.string (ByteArray.extract q0 1 (Int.toNat (((ByteArray.size q0) : Nat) : Int))))] (.tuple (.cons .str (.cons .str (.cons .any .nil)))) fun (z5 : (ByteArray × (ByteArray × (Value × PUnit)))) =>
          .chk ((isIface (((z5).2).2).1) = Bool.true) <|
          .ite (!(isNil (((z5).2).2).1)) (
            .call 38 #[(Value.string (ByteArray.mk #[(99 : UInt8), (97 : UInt8), (110 : UInt8), (110 : UInt8), (111 : UInt8), (116 : UInt8), (32 : UInt8), (112 : UInt8), (97 : UInt8), (114 : UInt8), (115 : UInt8), (101 : UInt8), (32 : UInt8), (115 : UInt8), (116 : UInt8), (114 : UInt8), (105 : UInt8), (110 : UInt8), (103 : UInt8)]))] .any fun (v6 : Value) =>
            .leaf 0 [(Value.string ((z5).2).1), v6]) (
            .loop 1 (.cons (.int .i64) .nil) [(Value.int IntKind.i64 (0 : Int))]
              (fun z => fastjson_validateValue.t1 z5 z.1))) (
          .chk (((0 : Int) ≤ (0 : Int)) ∧ ((0 : Int) < (((ByteArray.size q0) : Nat) : Int))) <|
          .ite ((bt q0 (0 : Int)) == (116 : Int)) (
            .cut 1 (.cons .bool .nil) (
              .ite (decide ((((ByteArray.size q0) : Nat) : Int) < (4 : Int))) (
                .leaf 1 [(Value.bool Bool.true)]) (
                .chk (((0 : Int) ≤ (0 : Int)) ∧ (((0 : Int) ≤ (4 : Int)) ∧ ((4 : Int) ≤ (((ByteArray.size q0) : Nat) : Int)))) <|
                .leaf 1 [(Value.bool (!(strEq (ByteArray.extract q0 0 4) (ByteArray.mk #[(116 : UInt8), (114 : UInt8), (117 : UInt8), (101 : UInt8)]))))]))
              (fun z => fastjson_validateValue.t2 q0 z.1)) (
            .chk (((0 : Int) ≤ (0 : Int)) ∧ ((0 : Int) < (((ByteArray.size q0) : Nat) : Int))) <|
            .ite ((bt q0 (0 : Int)) == (102 : Int)) (
              .cut 1 (.cons .bool .nil) (
                .ite (decide ((((ByteArray.size q0) : Nat) : Int) < (5 : Int))) (
                  .leaf 1 [(Value.bool Bool.true)]) (
                  .chk (((0 : Int) ≤ (0 : Int)) ∧ (((0 : Int) ≤ (5 : Int)) ∧ ((5 : Int) ≤ (((ByteArray.size q0) : Nat) : Int)))) <|
                  .leaf 1 [(Value.bool (!(strEq (ByteArray.extract q0 0 5) (ByteArray.mk #[(102 : UInt8), (97 : UInt8), (108 : UInt8), (115 : UInt8), (101 : UInt8)]))))]))
                (fun z => fastjson_validateValue.t3 q0 z.1)) (
              .chk (((0 : Int) ≤ (0 : Int)) ∧ ((0 : Int) < (((ByteArray.size q0) : Nat) : Int))) <|
              .ite ((bt q0 (0 : Int)) == (110 : Int)) (
                .cut 1 (.cons .bool .nil) (
                  .ite (decide ((((ByteArray.size q0) : Nat) : Int) < (4 : Int))) (
                    .leaf 1 [(Value.bool Bool.true)]) (
                    .chk (((0 : Int) ≤ (0 : Int)) ∧ (((0 : Int) ≤ (4 : Int)) ∧ ((4 : Int) ≤ (((ByteArray.size q0) : Nat) : Int)))) <|
                    .leaf 1 [(Value.bool (!(strEq (ByteArray.extract q0 0 4) (ByteArray.mk #[(110 : UInt8), (117 : UInt8), (108 : UInt8), (108 : UInt8)]))))]))
                  (fun z => fastjson_validateValue.t4 q0 z.1)) (
                .call 62 #[(Value.string q0)] (.tuple (.cons .str (.cons .any .nil))) fun (z15 : (ByteArray × (Value × PUnit))) =>
                .chk ((isIface ((z15).2).1) = Bool.true) <|
                .ite (!(isNil ((z15).2).1)) (
                  .call 38 #[(Value.string (ByteArray.mk #[(99 : UInt8), (97 : UInt8), (110 : UInt8), (110 : UInt8), (111 : UInt8), (116 : UInt8), (32 : UInt8), (112 : UInt8), (97 : UInt8), (114 : UInt8), (115 : UInt8), (101 : UInt8), (32 : UInt8), (110 : UInt8), (117 : UInt8), (109 : UInt8), (98 : UInt8), (101 : UInt8), (114 : UInt8)]))] .any fun (v16 : Value) =>
                  .leaf 0 [(Value.string (z15).1), v16]) (
                  .leaf 0 [(Value.string (z15).1), Value.nilIface]))))))))
def fastjson_validateValue.h : Hints := ⟨[], [], [(25, [(84, .bool)]), (29, [(99, .bool)]), (33, [(114, .bool)])], [(18, [(63, (.int .i64))])]⟩
noncomputable def fastjson_validateValue.c : Code := (Tryz.f39.body).getD .skip
theorem fastjson_validateValue.e (q0 : ByteArray) : fnT Tryz.prog fastjson_validateValue.h Tryz.f39 fastjson_validateValue.c [.v (Value.string q0)] = fastjson_validateValue.t q0 := by kernel_rfl
theorem fastjson_validateValue.calls (q0 : ByteArray) {w : World} {R : Ending → World → Prop} (hs : sat Tryz.prog (fastjson_validateValue.t q0) (fun l vs w' => l = 0 ∧ R (.returned (retVal vs)) w') w) : Calls Tryz.prog 39 #[(Value.string q0)] w R :=
  have h := calls_of_tree (w := w) (R := R) (args := [.v (Value.string q0)]) (c := fastjson_validateValue.c) Tryz.func39 (show Tryz.f39.body = some fastjson_validateValue.c by kernel_rfl) (of_decide_eq_true (by kernel_rfl)) (fastjson_validateValue.e q0) hs
  h

/-! ### pub-tetrapla/pub/fastjson.validateObject : function 59 -/
def fastjson_validateObject.t4 (s10 : ByteArray) (b11 : Bool) : T :=
  .ite b11 (
    .call 38 #[(Value.string (ByteArray.mk #[(109 : UInt8), (105 : UInt8), (115 : UInt8), (115 : UInt8), (105 : UInt8), (110 : UInt8), (103 : UInt8), (32 : UInt8), (39 : UInt8), (58 : UInt8), (39 : UInt8), (32 : UInt8), (97 : UInt8), (102 : UInt8), (116 : UInt8), (101 : UInt8), (114 : UInt8), (32 : UInt8), (111 : UInt8), (98 : UInt8), (106 : UInt8), (101 : UInt8), (99 : UInt8), (116 : UInt8), (32 : UInt8), (107 : UInt8), (101 : UInt8), (121 : UInt8)]))] .any fun (v12 : Value) =>
    .leaf 0 [(Value.string s10), v12]) (
    .chk (((0 : Int) ≤ (1 : Int)) ∧ (((1 : Int) ≤ (((ByteArray.size s10) : Nat) : Int)) ∧ ((((ByteArray.size s10) : Nat) : Int) ≤ (((ByteArray.size s10) : Nat) : Int)))) <|
    .call 35 #[(Value.string (ByteArray.extract s10 1 (Int.toNat (((ByteArray.size s10) : Nat) : Int))))] .str fun (s13 : ByteArray) =>
    .call 39 #[(Value.string s13)] (.tuple (.cons .str (.cons .any .nil))) fun (z14 : (ByteArray × (Value × PUnit))) =>
    .chk ((isIface ((z14).2).1) = Bool.true) <|
    .ite (!(isNil ((z14).2).1)) (
      .call 38 #[(Value.string (ByteArray.mk #[(99 : UInt8), (97 : UInt8), (110 : UInt8), (110 : UInt8), (111 : UInt8), (116 : UInt8), (32 : UInt8), (112 : UInt8), (97 : UInt8), (114 : UInt8), (115 : UInt8), (101 : UInt8), (32 : UInt8), (111 : UInt8), (98 : UInt8), (106 : UInt8), (101 : UInt8), (99 : UInt8), (116 : UInt8), (32 : UInt8), (118 : UInt8), (97 : UInt8), (108 : UInt8), (117 : UInt8), (101 : UInt8)]))] .any fun (v15 : Value) =>
      .leaf 0 [(Value.string (z14).1), v15]) (
      .call 35 #[(Value.string (z14).1)] .str fun (s16 : ByteArray) =>
      .ite ((((ByteArray.size s16) : Nat) : Int) == (0 : Int)) (
        .call 38 #[(Value.string (ByteArray.mk #[(117 : UInt8), (110 : UInt8), (101 : UInt8), (120 : UInt8), (112 : UInt8), (101 : UInt8), (99 : UInt8), (116 : UInt8), (101 : UInt8), (100 : UInt8), (32 : UInt8), (101 : UInt8), (110 : UInt8), (100 : UInt8), (32 : UInt8), (111 : UInt8), (102 : UInt8), (32 : UInt8), (111 : UInt8), (98 : UInt8), (106 : UInt8), (101 : UInt8), (99 : UInt8), (116 : UInt8)]))] .any fun (v17 : Value) =>
        .leaf 0 [(Value.string s16), v17]) (
        .chk (((0 : Int) ≤ (0 : Int)) ∧ ((0 : Int) < (((ByteArray.size s16) : Nat) : Int))) <|
        .ite ((bt s16 (0 : Int)) == (44 : Int)) (
          .chk (((0 : Int) ≤ (1 : Int)) ∧ (((1 : Int) ≤ (((ByteArray.size s16) : Nat) : Int)) ∧ ((((ByteArray.size s16) : Nat) : Int) ≤ (((ByteArray.size s16) : Nat) : Int)))) <|
          .leaf 1 [(Value.string (ByteArray.extract s16 1 (Int.toNat (((ByteArray.size s16) : Nat) : Int))))]) (
          .chk (((0 : Int) ≤ (0 : Int)) ∧ ((0 : Int) < (((ByteArray.size s16) : Nat) : Int))) <|
          .ite ((bt s16 (0 : Int)) == (125 : Int)) (
            .chk (((0 : Int) ≤ (1 : Int)) ∧ (((1 : Int) ≤ (((ByteArray.size s16) : Nat) : Int)) ∧ ((((ByteArray.size s16) : Nat) : Int) ≤ (((ByteArray.size s16) : Nat) : Int)))) <|
            .leaf 0 [(Value.string (ByteArray.extract s16 1 (Int.toNat (((ByteArray.size s16) : Nat) : Int)))), Value.nilIface]) (
            .call 38 #[(Value.string (ByteArray.mk #[(109 : UInt8), (105 : UInt8), (115 : UInt8), (115 : UInt8), (105 : UInt8), (110 : UInt8), (103 : UInt8), (32 : UInt8), (39 : UInt8), (44 : UInt8), (39 : UInt8), (32 : UInt8), (97 : UInt8), (102 : UInt8), (116 : UInt8), (101 : UInt8), (114 : UInt8), (32 : UInt8), (111 : UInt8), (98 : UInt8), (106 : UInt8), (101 : UInt8), (99 : UInt8), (116 : UInt8), (32 : UInt8), (118 : UInt8), (97 : UInt8), (108 : UInt8), (117 : UInt8), (101 : UInt8)]))] .any fun (v18 : Value) =>
            .leaf 0 [(Value.string s16), v18])))))
def fastjson_validateObject.t3 (z6 : (ByteArray × (ByteArray × (Value × PUnit)))) (i8 : Int) : T :=
  .ite (decide (i8 < (((ByteArray.size (z6).1) : Nat) : Int))) (
    .chk (((0 : Int) ≤ i8) ∧ (i8 < (((ByteArray.size (z6).1) : Nat) : Int))) <|
    .ite (decide ((bt (z6).1 i8) < (32 : Int))) (
      .call 38 #[(Value.string (ByteArray.mk #[(111 : UInt8), (98 : UInt8), (106 : UInt8), (101 : UInt8), (99 : UInt8), (116 : UInt8), (32 : UInt8), (107 : UInt8), (101 : UInt8), (121 : UInt8), (32 : UInt8), (99 : UInt8), (97 : UInt8), (110 : UInt8), (110 : UInt8), (111 : UInt8), (116 : UInt8), (32 : UInt8), (99 : UInt8), (111 : UInt8), (110 : UInt8), (116 : UInt8), (97 : UInt8), (105 : UInt8), (110 : UInt8), (32 : UInt8), (99 : UInt8), (111 : UInt8), (110 : UInt8), (116 : UInt8), (114 : UInt8), (111 : UInt8), (108 : UInt8), (32 : UInt8), (99 : UInt8), (104 : UInt8), (97 : UInt8), (114 : UInt8), (32 : UInt8), (48 : UInt8), (120 : UInt8)]))] .any fun (v9 : Value) =>
      .leaf 0 [(Value.string ((z6).2).1), v9]) (
      .leaf 2 [(Value.int IntKind.i64 (IntKind.wrap IntKind.i64 (i8 + (1 : Int))))])) (
    .call 35 #[(Value.string ((z6).2).1)] .str fun (s10 : ByteArray) =>
    .cut 2 (.cons .bool .nil) (
      .ite ((((ByteArray.size s10) : Nat) : Int) == (0 : Int)) (
        .leaf 2 [(Value.bool Bool.true)]) (
        .chk (((0 : Int) ≤ (0 : Int)) ∧ ((0 : Int) < (((ByteArray.size s10) : Nat) : Int))) <|
        .leaf 2 [(Value.bool ((bt s10 (0 : Int)) != (58 : Int)))]))
      (fun z => fastjson_validateObject.t4 s10 z.1))
def fastjson_validateObject.t2 (s3 : ByteArray) (b4 : Bool) : T :=
  .ite b4 (
    .call 38 #[(Value.string (ByteArray.mk #[(99 : UInt8), (97 : UInt8), (110 : UInt8), (110 : UInt8), (111 : UInt8), (116 : UInt8), (32 : UInt8), (102 : UInt8), (105 : UInt8), (110 : UInt8), (100 : UInt8), (32 : UInt8), (111 : UInt8), (112 : UInt8), (101 : UInt8), (110 : UInt8), (105 : UInt8), (110 : UInt8), (103 : UInt8), (32 : UInt8), (39 : UInt8), (34 : UInt8), (34 : UInt8), (32 : UInt8), (102 : UInt8), (111 : UInt8), (114 : UInt8), (32 : UInt8), (111 : UInt8), (98 : UInt8), (106 : UInt8), (101 : UInt8), (99 : UInt8), (116 : UInt8), (32 : UInt8), (107 : UInt8), (101 : UInt8), (121 : UInt8)]))] .any fun (v5 : Value) =>
    .leaf 0 [(Value.string s3), v5]) (
    .chk (((0 : Int) ≤ (1 : Int)) ∧ (((1 : Int) ≤ (((ByteArray.size s3) : Nat) : Int)) ∧ ((((ByteArray.size s3) : Nat) : Int) ≤ (((ByteArray.size s3) : Nat) : Int)))) <|
    .call 84 #[(Value.string (ByteArray.extract s3 1 (Int.toNat (((ByteArray.size s3) : Nat) : Int))))] (.tuple (.cons .str (.cons .str (.cons .any .nil)))) fun (z6 : (ByteArray × (ByteArray × (Value × PUnit)))) =>
    .chk ((isIface (((z6).2).2).1) = Bool.true) <|
    .ite (!(isNil (((z6).2).2).1)) (
      .call 38 #[(Value.string (ByteArray.mk #[(99 : UInt8), (97 : UInt8), (110 : UInt8), (110 : UInt8), (111 : UInt8), (116 : UInt8), (32 : UInt8), (112 : UInt8), (97 : UInt8), (114 : UInt8), (115 : UInt8), (101 : UInt8), (32 : UInt8), (111 : UInt8), (98 : UInt8), (106 : UInt8), (101 : UInt8), (99 : UInt8), (116 : UInt8), (32 : UInt8), (107 : UInt8), (101 : UInt8), (121 : UInt8)]))] .any fun (v7 : Value) =>
      .leaf 0 [(Value.string ((z6).2).1), v7]) (
      .loop 2 (.cons (.int .i64) .nil) [(Value.int IntKind.i64 (0 : Int))]
        (fun z => fastjson_validateObject.t3 z6 z.1)))
def fastjson_validateObject.t1 (s2 : ByteArray) : T :=
  .call 35 #[(Value.string s2)] .str fun (s3 : ByteArray) =>
  .cut 2 (.cons .bool .nil) (
    .ite ((((ByteArray.size s3) : Nat) : Int) == (0 : Int)) (
      .leaf 2 [(Value.bool Bool.true)]) (
      .chk (((0 : Int) ≤ (0 : Int)) ∧ ((0 : Int) < (((ByteArray.size s3) : Nat) : Int))) <|
      .leaf 2 [(Value.bool ((bt s3 (0 : Int)) != (34 : Int)))]))
    (fun z => fastjson_validateObject.t2 s3 z.1)
def fastjson_validateObject.t (q0 : ByteArray) : T :=
  .call 35 #[(Value.string q0)] .str fun (s0 : ByteArray) =>
  .ite ((((ByteArray.size s0) : Nat) : Int) == (0 : Int)) (
    .call 38 #[(Value.string (ByteArray.mk #[(109 : UInt8), (105 : UInt8), (115 : UInt8), (115 : UInt8), (105 : UInt8), (110 : UInt8), (103 : UInt8), (32 : UInt8), (39 : UInt8), (125 : UInt8)]))] .any fun (v1 : Value) =>
    .leaf 0 [(Value.string s0), v1]) (
    .chk (((0 : Int) ≤ (0 : Int)) ∧ ((0 : Int) < (((ByteArray.size s0) : Nat) : Int))) <|
    .ite ((bt s0 (0 : Int)) == (125 : Int)) (
      .chk (((0 : Int) ≤ (1 : Int)) ∧ (((1 : Int) ≤ (((ByteArray.size s0) : Nat) : Int)) ∧ ((((ByteArray.size s0) : Nat) : Int) ≤ (((ByteArray.size s0) : Nat) : Int)))) <|
      .leaf 0 [(Value.string (ByteArray.extract s0 1 (Int.toNat (((ByteArray.size s0) : Nat) : Int)))), Value.nilIface]) (
      .loop 1 (.cons .str .nil) [(Value.string s0)]
        (fun z => fastjson_validateObject.t1 z.1)))
def fastjson_validateObject.h : Hints := ⟨[], [], [(8, [(28, .bool)]), (21, [(63, .bool)])], [(6, [(0, .str)]), (15, [(44, (.int .i64))])]⟩
noncomputable def fastjson_validateObject.c : Code := (Tryz.f59.body).getD .skip
theorem fastjson_validateObject.e (q0 : ByteArray) : fnT Tryz.prog fastjson_validateObject.h Tryz.f59 fastjson_validateObject.c [.v (Value.string q0)] = fastjson_validateObject.t q0 := by kernel_rfl
theorem fastjson_validateObject.calls (q0 : ByteArray) {w : World} {R : Ending → World → Prop} (hs : sat Tryz.prog (fastjson_validateObject.t q0) (fun l vs w' => l = 0 ∧ R (.returned (retVal vs)) w') w) : Calls Tryz.prog 59 #[(Value.string q0)] w R :=
  have h := calls_of_tree (w := w) (R := R) (args := [.v (Value.string q0)]) (c := fastjson_validateObject.c) Tryz.func59 (show Tryz.f59.body = some fastjson_validateObject.c by kernel_rfl) (of_decide_eq_true (by kernel_rfl)) (fastjson_validateObject.e q0) hs
  h

/-! ### pub-tetrapla/pub/fastjson.validateArray : function 60 -/
def fastjson_validateArray.t1 (s2 : ByteArray) : T :=
  .call 35 #[(Value.string s2)] .str fun (s3 : ByteArray) =>
  .call 39 #[(Value.string s3)] (.tuple (.cons .str (.cons .any .nil))) fun (z4 : (ByteArray × (Value × PUnit))) =>
  .chk ((isIface ((z4).2).1) = Bool.true) <|
  .ite (!(isNil ((z4).2).1)) (
    .call 38 #[(Value.string (ByteArray.mk #[(99 : UInt8), (97 : UInt8), (110 : UInt8), (110 : UInt8), (111 : UInt8), (116 : UInt8), (32 : UInt8), (112 : UInt8), (97 : UInt8), (114 : UInt8), (115 : UInt8), (101 : UInt8), (32 : UInt8), (97 : UInt8), (114 : UInt8), (114 : UInt8), (97 : UInt8), (121 : UInt8), (32 : UInt8), (118 : UInt8), (97 : UInt8), (108 : UInt8), (117 : UInt8), (101 : UInt8)]))] .any fun (v5 : Value) =>
    .leaf 0 [(Value.string (z4).1), v5]) (
    .call 35 #[(Value.string (z4).1)] .str fun (s6 : ByteArray) =>
    .ite ((((ByteArray.size s6) : Nat) : Int) == (0 : Int)) (
      .call 38 #[(Value.string (ByteArray.mk #[(117 : UInt8), (110 : UInt8), (101 : UInt8), (120 : UInt8), (112 : UInt8), (101 : UInt8), (99 : UInt8), (116 : UInt8), (101 : UInt8), (100 : UInt8), (32 : UInt8), (101 : UInt8), (110 : UInt8), (100 : UInt8), (32 : UInt8), (111 : UInt8), (102 : UInt8), (32 : UInt8), (97 : UInt8), (114 : UInt8), (114 : UInt8), (97 : UInt8), (121 : UInt8)]))] .any fun (v7 : Value) =>
      .leaf 0 [(Value.string s6), v7]) (
      .chk (((0 : Int) ≤ (0 : Int)) ∧ ((0 : Int) < (((ByteArray.size s6) : Nat) : Int))) <|
      .ite ((bt s6 (0 : Int)) == (44 : Int)) (
        .chk (((0 : Int) ≤ (1 : Int)) ∧ (((1 : Int) ≤ (((ByteArray.size s6) : Nat) : Int)) ∧ ((((ByteArray.size s6) : Nat) : Int) ≤ (((ByteArray.size s6) : Nat) : Int)))) <|
        .leaf 1 [(Value.string (ByteArray.extract s6 1 (Int.toNat (((ByteArray.size s6) : Nat) : Int))))]) (
        .chk (((0 : Int) ≤ (0 : Int)) ∧ ((0 : Int) < (((ByteArray.size s6) : Nat) : Int))) <|
        .ite ((bt s6 (0 : Int)) == (93 : Int)) (
          .chk (((0 : Int) ≤ (1 : Int)) ∧ (((1 : Int) ≤ (((ByteArray.size s6) : Nat) : Int)) ∧ ((((ByteArray.size s6) : Nat) : Int) ≤ (((ByteArray.size s6) : Nat) : Int)))) <|
          .leaf 0 [(Value.string (ByteArray.extract s6 1 (Int.toNat (((ByteArray.size s6) : Nat) : Int)))), Value.nilIface]) (
          .call 38 #[(Value.string (ByteArray.mk #[(109 : UInt8), (105 : UInt8), (115 : UInt8), (115 : UInt8), (105 : UInt8), (110 : UInt8), (103 : UInt8), (32 : UInt8), (39 : UInt8), (44 : UInt8), (39 : UInt8), (32 : UInt8), (97 : UInt8), (102 : UInt8), (116 : UInt8), (101 : UInt8), (114 : UInt8), (32 : UInt8), (97 : UInt8), (114 : UInt8), (114 : UInt8), (97 : UInt8), (121 : UInt8), (32 : UInt8), (118 : UInt8), (97 : UInt8), (108 : UInt8), (117 : UInt8), (101 : UInt8)]))] .any fun (v8 : Value) =>
          .leaf 0 [(Value.string s6), v8]))))
def fastjson_validateArray.t (s : ByteArray) : T :=
  .call 35 #[(Value.string s)] .str fun (s0 : ByteArray) =>
  .ite ((((ByteArray.size s0) : Nat) : Int) == (0 : Int)) (
    .call 38 #[(Value.string (ByteArray.mk #[(109 : UInt8), (105 : UInt8), (115 : UInt8), (115 : UInt8), (105 : UInt8), (110 : UInt8), (103 : UInt8), (32 : UInt8), (39 : UInt8), (93 : UInt8)]))] .any fun (v1 : Value) =>
    .leaf 0 [(Value.string s0), v1]) (
    .chk (((0 : Int) ≤ (0 : Int)) ∧ ((0 : Int) < (((ByteArray.size s0) : Nat) : Int))) <|
    .ite ((bt s0 (0 : Int)) == (93 : Int)) (
      .chk (((0 : Int) ≤ (1 : Int)) ∧ (((1 : Int) ≤ (((ByteArray.size s0) : Nat) : Int)) ∧ ((((ByteArray.size s0) : Nat) : Int) ≤ (((ByteArray.size s0) : Nat) : Int)))) <|
      .leaf 0 [(Value.string (ByteArray.extract s0 1 (Int.toNat (((ByteArray.size s0) : Nat) : Int)))), Value.nilIface]) (
      .loop 1 (.cons .str .nil) [(Value.string s0)]
        (fun z => fastjson_validateArray.t1 z.1)))
def fastjson_validateArray.h : Hints := ⟨[], [], [], [(6, [(0, .str)])]⟩
noncomputable def fastjson_validateArray.c : Code := (Tryz.f60.body).getD .skip
theorem fastjson_validateArray.e (s : ByteArray) : fnT Tryz.prog fastjson_validateArray.h Tryz.f60 fastjson_validateArray.c [.v (Value.string s)] = fastjson_validateArray.t s := by kernel_rfl
theorem fastjson_validateArray.calls (s : ByteArray) {w : World} {R : Ending → World → Prop} (hs : sat Tryz.prog (fastjson_validateArray.t s) (fun l vs w' => l = 0 ∧ R (.returned (retVal vs)) w') w) : Calls Tryz.prog 60 #[(Value.string s)] w R :=
  have h := calls_of_tree (w := w) (R := R) (args := [.v (Value.string s)]) (c := fastjson_validateArray.c) Tryz.func60 (show Tryz.f60.body = some fastjson_validateArray.c by kernel_rfl) (of_decide_eq_true (by kernel_rfl)) (fastjson_validateArray.e s) hs
  h

/-! ### pub-tetrapla/pub/fastjson.validateString : function 61 -/
def fastjson_validateString.t3 (b7 : Bool) (s8 : ByteArray) : T :=
  .leaf 7 [(Value.bool b7), (Value.string s8)]
def fastjson_validateString.t4 (b9 : Bool) (s10 : ByteArray) : T :=
  .leaf 6 [(Value.bool b9), (Value.string s10)]
def fastjson_validateString.t5 (b11 : Bool) (s12 : ByteArray) : T :=
  .leaf 5 [(Value.bool b11), (Value.string s12)]
def fastjson_validateString.t6 (b13 : Bool) (s14 : ByteArray) : T :=
  .leaf 4 [(Value.bool b13), (Value.string s14)]
def fastjson_validateString.t7 (b15 : Bool) (s16 : ByteArray) : T :=
  .leaf 3 [(Value.bool b15), (Value.string s16)]
def fastjson_validateString.t8 (b17 : Bool) (s18 : ByteArray) : T :=
  .leaf 2 [(Value.bool b17), (Value.string s18)]
def fastjson_validateString.t10 (s26 : ByteArray) : T :=
  .leaf 1 [(Value.string s26)]
def fastjson_validateString.t9 (z3 : (ByteArray × (ByteArray × (Value × PUnit)))) (s4 : ByteArray) (i5 : Int) (b19 : Bool) (s20 : ByteArray) : T :=
  .cut 2 (.cons .bool (.cons .str .nil)) (
    .ite b19 (
      .leaf 1 [(Value.string s20)]) (
      .ite ((bt s4 (IntKind.wrap IntKind.i64 (i5 + (1 : Int)))) == (117 : Int)) (
        .ite (decide ((((ByteArray.size s20) : Nat) : Int) < (4 : Int))) (
          .call 38 #[(Value.string (ByteArray.mk #[(116 : UInt8), (111 : UInt8), (111 : UInt8), (32 : UInt8), (115 : UInt8), (104 : UInt8), (111 : UInt8), (114 : UInt8), (116 : UInt8), (32 : UInt8), (101 : UInt8), (115 : UInt8), (99 : UInt8), (97 : UInt8), (112 : UInt8), (101 : UInt8), (32 : UInt8), (115 : UInt8), (101 : UInt8), (113 : UInt8), (117 : UInt8), (101 : UInt8), (110 : UInt8), (99 : UInt8), (101 : UInt8), (58 : UInt8), (32 : UInt8), (92 : UInt8), (117 : UInt8)]))] .any fun (v21 : Value) =>
          .leaf 0 [(Value.string s20), (Value.string ((z3).2).1), v21]) (
          .chk (((0 : Int) ≤ (0 : Int)) ∧ (((0 : Int) ≤ (4 : Int)) ∧ ((4 : Int) ≤ (((ByteArray.size s20) : Nat) : Int)))) <|
          .call 76 #[(Value.string (ByteArray.extract s20 0 4)), (Value.int IntKind.i64 (16 : Int)), (Value.int IntKind.i64 (16 : Int))] (.tuple (.cons (.int .u64) (.cons .any .nil))) fun (z22 : (Int × (Value × PUnit))) =>
          .chk ((isIface ((z22).2).1) = Bool.true) <|
          .ite (!(isNil ((z22).2).1)) (
            .call 38 #[(Value.string (ByteArray.mk #[(105 : UInt8), (110 : UInt8), (118 : UInt8), (97 : UInt8), (108 : UInt8), (105 : UInt8), (100 : UInt8), (32 : UInt8), (101 : UInt8), (115 : UInt8), (99 : UInt8), (97 : UInt8), (112 : UInt8), (101 : UInt8), (32 : UInt8), (115 : UInt8), (101 : UInt8), (113 : UInt8), (117 : UInt8), (101 : UInt8), (110 : UInt8), (99 : UInt8), (101 : UInt8), (32 : UInt8), (92 : UInt8), (117 : UInt8)]))] .any fun (v23 : Value) =>
            .leaf 0 [(Value.string s20), (Value.string ((z3).2).1), v23]) (
            .chk (((0 : Int) ≤ (4 : Int)) ∧ (((4 : Int) ≤ (((ByteArray.size s20) : Nat) : Int)) ∧ ((((ByteArray.size s20) : Nat) : Int) ≤ (((ByteArray.size s20) : Nat) : Int)))) <|
            .leaf 2 [(Value.bool b19), (Value.string (ByteArray.extract s20 4 (Int.toNat (((ByteArray.size s20) : Nat) : Int))))]))) (
        .call 38 #[(Value.string (ByteArray.mk #[(117 : UInt8), (110 : UInt8), (107 : UInt8), (110 : UInt8), (111 : UInt8), (119 : UInt8), (110 : UInt8), (32 : UInt8), (101 : UInt8), (115 : UInt8), (99 : UInt8), (97 : UInt8), (112 : UInt8), (101 : UInt8), (32 : UInt8), (115 : UInt8), (101 : UInt8), (113 : UInt8), (117 : UInt8), (101 : UInt8), (110 : UInt8), (99 : UInt8), (101 : UInt8)]))] .any fun (v24 : Value) =>
        .leaf 0 [(Value.string s20), (Value.string ((z3).2).1), v24])))
    (fun z => fastjson_validateString.t10 z.2.1)
def fastjson_validateString.t2 (z3 : (ByteArray × (ByteArray × (Value × PUnit)))) (s4 : ByteArray) : T :=
  .call 75 #[(Value.string s4), (Value.int IntKind.u8 (92 : Int))] (.int .i64) fun (i5 : Int) =>
  .ite (decide (i5 < (0 : Int))) (
    .leaf 0 [(Value.string s4), (Value.string ((z3).2).1), Value.nilIface]) (
    .ite (decide ((IntKind.wrap IntKind.i64 (i5 + (1 : Int))) ≥ (((ByteArray.size s4) : Nat) : Int))) (
      .call 38 #[(Value.string (ByteArray.mk #[(66 : UInt8), (85 : UInt8), (71 : UInt8), (58 : UInt8), (32 : UInt8), (112 : UInt8), (97 : UInt8), (114 : UInt8), (115 : UInt8), (101 : UInt8), (82 : UInt8), (97 : UInt8), (119 : UInt8), (83 : UInt8), (116 : UInt8), (114 : UInt8), (105 : UInt8), (110 : UInt8), (103 : UInt8), (32 : UInt8), (114 : UInt8), (101 : UInt8), (116 : UInt8), (117 : UInt8), (114 : UInt8), (110 : UInt8), (101 : UInt8), (100 : UInt8), (32 : UInt8), (105 : UInt8), (110 : UInt8), (118 : UInt8), (97 : UInt8), (108 : UInt8), (105 : UInt8), (100 : UInt8), (32 : UInt8), (115 : UInt8), (116 : UInt8), (114 : UInt8), (105 : UInt8), (110 : UInt8), (103 : UInt8), (32 : UInt8), (119 : UInt8), (105 : UInt8), (116 : UInt8), (104 : UInt8), (32 : UInt8), (116 : UInt8), (114 : UInt8), (97 : UInt8), (105 : UInt8), (108 : UInt8), (105 : UInt8), (110 : UInt8), (103 : UInt8), (32 : UInt8), (98 : UInt8), (97 : UInt8), (99 : UInt8), (107 : UInt8), (115 : UInt8), (108 : UInt8), (97 : UInt8), (115 : UInt8), (104 : UInt8)]))] .any fun (v6 : Value) =>
      .leaf 0 [(Value.string s4), (Value.string ((z3).2).1), v6]) (
      .chk (((0 : Int) ≤ (IntKind.wrap IntKind.i64 (i5 + (1 : Int)))) ∧ ((IntKind.wrap IntKind.i64 (i5 + (1 : Int))) < (((ByteArray.size s4) : Nat) : Int))) <|
      .chk (((0 : Int) ≤ (IntKind.wrap IntKind.i64 ((IntKind.wrap IntKind.i64 (i5 + (1 : Int))) + (1 : Int)))) ∧ (((IntKind.wrap IntKind.i64 ((IntKind.wrap IntKind.i64 (i5 + (1 : Int))) + (1 : Int))) ≤ (((ByteArray.size s4) : Nat) : Int)) ∧ ((((ByteArray.size s4) : Nat) : Int) ≤ (((ByteArray.size s4) : Nat) : Int)))) <|
      .cut 2 (.cons .bool (.cons .str .nil)) (
        .ite ((bt s4 (IntKind.wrap IntKind.i64 (i5 + (1 : Int)))) == (34 : Int)) (
          .leaf 2 [(Value.bool ((bt s4 (IntKind.wrap IntKind.i64 (i5 + (1 : Int)))) == (34 : Int))), (Value.string (ByteArray.extract s4 (Int.toNat (IntKind.wrap IntKind.i64 ((IntKind.wrap IntKind.i64 (i5 + (1 : Int))) + (1 : Int)))) (Int.toNat (((ByteArray.size s4) : Nat) : Int))))]) (
          .cut 3 (.cons .bool (.cons .str .nil)) (
            .ite ((bt s4 (IntKind.wrap IntKind.i64 (i5 + (1 : Int)))) == (92 : Int)) (
              .leaf 3 [(Value.bool ((bt s4 (IntKind.wrap IntKind.i64 (i5 + (1 : Int)))) == (92 : Int))), (Value.string (ByteArray.extract s4 (Int.toNat (IntKind.wrap IntKind.i64 ((IntKind.wrap IntKind.i64 (i5 + (1 : Int))) + (1 : Int)))) (Int.toNat (((ByteArray.size s4) : Nat) : Int))))]) (
              .cut 4 (.cons .bool (.cons .str .nil)) (
                .ite ((bt s4 (IntKind.wrap IntKind.i64 (i5 + (1 : Int)))) == (47 : Int)) (
                  .leaf 4 [(Value.bool ((bt s4 (IntKind.wrap IntKind.i64 (i5 + (1 : Int)))) == (47 : Int))), (Value.string (ByteArray.extract s4 (Int.toNat (IntKind.wrap IntKind.i64 ((IntKind.wrap IntKind.i64 (i5 + (1 : Int))) + (1 : Int)))) (Int.toNat (((ByteArray.size s4) : Nat) : Int))))]) (
                  .cut 5 (.cons .bool (.cons .str .nil)) (
                    .ite ((bt s4 (IntKind.wrap IntKind.i64 (i5 + (1 : Int)))) == (98 : Int)) (
                      .leaf 5 [(Value.bool ((bt s4 (IntKind.wrap IntKind.i64 (i5 + (1 : Int)))) == (98 : Int))), (Value.string (ByteArray.extract s4 (Int.toNat (IntKind.wrap IntKind.i64 ((IntKind.wrap IntKind.i64 (i5 + (1 : Int))) + (1 : Int)))) (Int.toNat (((ByteArray.size s4) : Nat) : Int))))]) (
                      .cut 6 (.cons .bool (.cons .str .nil)) (
                        .ite ((bt s4 (IntKind.wrap IntKind.i64 (i5 + (1 : Int)))) == (102 : Int)) (
                          .leaf 6 [(Value.bool ((bt s4 (IntKind.wrap IntKind.i64 (i5 + (1 : Int)))) == (102 : Int))), (Value.string (ByteArray.extract s4 (Int.toNat (IntKind.wrap IntKind.i64 ((IntKind.wrap IntKind.i64 (i5 + (1 : Int))) + (1 : Int)))) (Int.toNat (((ByteArray.size s4) : Nat) : Int))))]) (
                          .cut 7 (.cons .bool (.cons .str .nil)) (
                            .ite ((bt s4 (IntKind.wrap IntKind.i64 (i5 + (1 : Int)))) == (110 : Int)) (
                              .leaf 7 [(Value.bool ((bt s4 (IntKind.wrap IntKind.i64 (i5 + (1 : Int)))) == (110 : Int))), (Value.string (ByteArray.extract s4 (Int.toNat (IntKind.wrap IntKind.i64 ((IntKind.wrap IntKind.i64 (i5 + (1 : Int))) + (1 : Int)))) (Int.toNat (((ByteArray.size s4) : Nat) : Int))))]) (
                              .cut 8 (.cons .bool (.cons .str .nil)) (
                                .ite ((bt s4 (IntKind.wrap IntKind.i64 (i5 + (1 : Int)))) == (114 : Int)) (
                                  .leaf 8 [(Value.bool ((bt s4 (IntKind.wrap IntKind.i64 (i5 + (1 : Int)))) == (114 : Int))), (Value.string (ByteArray.extract s4 (Int.toNat (IntKind.wrap IntKind.i64 ((IntKind.wrap IntKind.i64 (i5 + (1 : Int))) + (1 : Int)))) (Int.toNat (((ByteArray.size s4) : Nat) : Int))))]) (
                                  .leaf 8 [(Value.bool ((bt s4 (IntKind.wrap IntKind.i64 (i5 + (1 : Int)))) == (116 : Int))), (Value.string (ByteArray.extract s4 (Int.toNat (IntKind.wrap IntKind.i64 ((IntKind.wrap IntKind.i64 (i5 + (1 : Int))) + (1 : Int)))) (Int.toNat (((ByteArray.size s4) : Nat) : Int))))]))
                                (fun z => fastjson_validateString.t3 z.1 z.2.1)))
                            (fun z => fastjson_validateString.t4 z.1 z.2.1)))
                        (fun z => fastjson_validateString.t5 z.1 z.2.1)))
                    (fun z => fastjson_validateString.t6 z.1 z.2.1)))
                (fun z => fastjson_validateString.t7 z.1 z.2.1)))
            (fun z => fastjson_validateString.t8 z.1 z.2.1)))
        (fun z => fastjson_validateString.t9 z3 s4 i5 z.1 z.2.1)))
def fastjson_validateString.t1 (q0 : ByteArray) (i0 : Int) (b2 : Bool) : T :=
  .ite b2 (
    .drew <|
    .chk (((0 : Int) ≤ (0 : Int)) ∧ (((0 : Int) ≤ i0) ∧ (i0 ≤ (((ByteArray.size q0) : Nat) : Int)))) <|
    .chk (((0 : Int) ≤ (IntKind.wrap IntKind.i64 (i0 + (1 : Int)))) ∧ (((IntKind.wrap IntKind.i64 (i0 + (1 : Int))) ≤ (((ByteArray.size q0) : Nat) : Int)) ∧ ((((ByteArray.size q0) : Nat) : Int) ≤ (((ByteArray.size q0) : Nat) : Int)))) <|
    .leaf 0 [(Value.string (ByteArray.extract q0 0 (Int.toNat i0))), (Value.string (ByteArray.extract q0 (Int.toNat (IntKind.wrap IntKind.i64 (i0 + (1 : Int)))) (Int.toNat (((ByteArray.size q0) : Nat) : Int)))), Value.nilIface]) (
    .call 46 #[(Value.string q0)] (.tuple (.cons .str (.cons .str (.cons .any .nil)))) fun (z3 : (ByteArray × (ByteArray × (Value × PUnit)))) =>
    .chk ((isIface (((z3).2).2).1) = Bool.true) <|
    .ite (!(isNil (((z3).2).2).1)) (
      .leaf 0 [(Value.string (z3).1), (Value.string ((z3).2).1), (((z3).2).2).1]) (
      .loop 1 (.cons .str .nil) [(Value.string (z3).1)]
        (fun z => fastjson_validateString.t2 z3 z.1)))
def fastjson_validateString.t (q0 : ByteArray) : T :=
  .call 75 #[(Value.string q0), (Value.int IntKind.u8 (34 : Int))] (.int .i64) fun (i0 : Int) =>
  .cut 1 (.cons .bool .nil) (
    .ite (decide (i0 ≥ (0 : Int))) (
      .chk (((0 : Int) ≤ (0 : Int)) ∧ (((0 : Int) ≤ i0) ∧ (i0 ≤ (((ByteArray.size q0) : Nat) : Int)))) <|
      .call 75 #[(Value.string (ByteArray.extract q0 0 (Int.toNat i0))), (Value.int IntKind.u8 (92 : Int))] (.int .i64) fun (i1 : Int) =>
      .leaf 1 [(Value.bool (decide (i1 < (0 : Int))))]) (
      .leaf 1 [(Value.bool Bool.false)]))
    (fun z => fastjson_validateString.t1 q0 i0 z.1)
def fastjson_validateString.h : Hints := ⟨[(69, [(69, .bool), (6, .str)])], [], [(2, [(24, .bool)])], [(7, [(6, .str)])]⟩
noncomputable def fastjson_validateString.c : Code := (Tryz.f61.body).getD .skip
theorem fastjson_validateString.e (q0 : ByteArray) : fnT Tryz.prog fastjson_validateString.h Tryz.f61 fastjson_validateString.c [.v (Value.string q0)] = fastjson_validateString.t q0 := by kernel_rfl
theorem fastjson_validateString.calls (q0 : ByteArray) {w : World} {R : Ending → World → Prop} (hs : sat Tryz.prog (fastjson_validateString.t q0) (fun l vs w' => l = 0 ∧ R (.returned (retVal vs)) w') w) : Calls Tryz.prog 61 #[(Value.string q0)] w R :=
  have h := calls_of_tree (w := w) (R := R) (args := [.v (Value.string q0)]) (c := fastjson_validateString.c) Tryz.func61 (show Tryz.f61.body = some fastjson_validateString.c by kernel_rfl) (of_decide_eq_true (by kernel_rfl)) (fastjson_validateString.e q0) hs
  h

/-! ### pub-tetrapla/pub/fastjson.validateNumber : function 62 -/
def fastjson_validateNumber.t2 (s2 : ByteArray) (i3 : Int) : T :=
  .ite (decide (i3 < (((ByteArray.size s2) : Nat) : Int))) (
    .chk (((0 : Int) ≤ i3) ∧ (i3 < (((ByteArray.size s2) : Nat) : Int))) <|
    .ite (decide ((bt s2 i3) < (48 : Int))) (
      .leaf 1 [(Value.int IntKind.i64 i3)]) (
      .chk (((0 : Int) ≤ i3) ∧ (i3 < (((ByteArray.size s2) : Nat) : Int))) <|
      .ite (decide ((bt s2 i3) > (57 : Int))) (
        .leaf 1 [(Value.int IntKind.i64 i3)]) (
        .leaf 2 [(Value.int IntKind.i64 (IntKind.wrap IntKind.i64 (i3 + (1 : Int))))]))) (
    .leaf 1 [(Value.int IntKind.i64 i3)])
def fastjson_validateNumber.t5 (s2 : ByteArray) (i4 : Int) (i9 : Int) : T :=
  .ite (decide (i9 < (((ByteArray.size (ByteArray.extract s2 (Int.toNat (IntKind.wrap IntKind.i64 (i4 + (1 : Int)))) (Int.toNat (((ByteArray.size s2) : Nat) : Int)))) : Nat) : Int))) (
    .chk (((0 : Int) ≤ i9) ∧ (i9 < (((ByteArray.size (ByteArray.extract s2 (Int.toNat (IntKind.wrap IntKind.i64 (i4 + (1 : Int)))) (Int.toNat (((ByteArray.size s2) : Nat) : Int)))) : Nat) : Int))) <|
    .ite (decide ((bt (ByteArray.extract s2 (Int.toNat (IntKind.wrap IntKind.i64 (i4 + (1 : Int)))) (Int.toNat (((ByteArray.size s2) : Nat) : Int))) i9) < (48 : Int))) (
      .leaf 2 [(Value.int IntKind.i64 i9)]) (
      .chk (((0 : Int) ≤ i9) ∧ (i9 < (((ByteArray.size (ByteArray.extract s2 (Int.toNat (IntKind.wrap IntKind.i64 (i4 + (1 : Int)))) (Int.toNat (((ByteArray.size s2) : Nat) : Int)))) : Nat) : Int))) <|
      .ite (decide ((bt (ByteArray.extract s2 (Int.toNat (IntKind.wrap IntKind.i64 (i4 + (1 : Int)))) (Int.toNat (((ByteArray.size s2) : Nat) : Int))) i9) > (57 : Int))) (
        .leaf 2 [(Value.int IntKind.i64 i9)]) (
        .leaf 3 [(Value.int IntKind.i64 (IntKind.wrap IntKind.i64 (i9 + (1 : Int))))]))) (
    .leaf 2 [(Value.int IntKind.i64 i9)])
def fastjson_validateNumber.t6 (s2 : ByteArray) (i4 : Int) (i10 : Int) : T :=
  .ite (i10 == (0 : Int)) (
    .call 38 #[(Value.string (ByteArray.mk #[(101 : UInt8), (120 : UInt8), (112 : UInt8), (101 : UInt8), (99 : UInt8), (116 : UInt8), (105 : UInt8), (110 : UInt8), (103 : UInt8), (32 : UInt8), (48 : UInt8), (46 : UInt8), (46 : UInt8), (57 : UInt8), (32 : UInt8), (100 : UInt8), (105 : UInt8), (103 : UInt8), (105 : UInt8), (116 : UInt8), (32 : UInt8), (105 : UInt8), (110 : UInt8), (32 : UInt8), (102 : UInt8), (114 : UInt8), (97 : UInt8), (99 : UInt8), (116 : UInt8), (105 : UInt8), (111 : UInt8), (110 : UInt8), (97 : UInt8), (108 : UInt8), (32 : UInt8), (112 : UInt8), (97 : UInt8), (114 : UInt8), (116 : UInt8), (44 : UInt8), (32 : UInt8), (103 : UInt8), (111 : UInt8), (116 : UInt8)]))] .any fun (v11 : Value) =>
    .leaf 0 [(Value.string (ByteArray.extract s2 (Int.toNat (IntKind.wrap IntKind.i64 (i4 + (1 : Int)))) (Int.toNat (((ByteArray.size s2) : Nat) : Int)))), v11]) (
    .ite (decide (i10 ≥ (((ByteArray.size (ByteArray.extract s2 (Int.toNat (IntKind.wrap IntKind.i64 (i4 + (1 : Int)))) (Int.toNat (((ByteArray.size s2) : Nat) : Int)))) : Nat) : Int))) (
      .leaf 0 [(Value.string (ByteArray.mk #[])), Value.nilIface]) (
      .leaf 1 [(Value.int IntKind.i64 i10), (Value.string (ByteArray.extract s2 (Int.toNat (IntKind.wrap IntKind.i64 (i4 + (1 : Int)))) (Int.toNat (((ByteArray.size s2) : Nat) : Int))))]))
def fastjson_validateNumber.t11 (s18 : ByteArray) (i19 : Int) : T :=
  .ite (decide (i19 < (((ByteArray.size s18) : Nat) : Int))) (
    .chk (((0 : Int) ≤ i19) ∧ (i19 < (((ByteArray.size s18) : Nat) : Int))) <|
    .ite (decide ((bt s18 i19) < (48 : Int))) (
      .leaf 1 [(Value.int IntKind.i64 i19)]) (
      .chk (((0 : Int) ≤ i19) ∧ (i19 < (((ByteArray.size s18) : Nat) : Int))) <|
      .ite (decide ((bt s18 i19) > (57 : Int))) (
        .leaf 1 [(Value.int IntKind.i64 i19)]) (
        .leaf 2 [(Value.int IntKind.i64 (IntKind.wrap IntKind.i64 (i19 + (1 : Int))))]))) (
    .leaf 1 [(Value.int IntKind.i64 i19)])
def fastjson_validateNumber.t12 (s18 : ByteArray) (i20 : Int) : T :=
  .ite (i20 == (0 : Int)) (
    .call 38 #[(Value.string (ByteArray.mk #[(101 : UInt8), (120 : UInt8), (112 : UInt8), (101 : UInt8), (99 : UInt8), (116 : UInt8), (105 : UInt8), (110 : UInt8), (103 : UInt8), (32 : UInt8), (48 : UInt8), (46 : UInt8), (46 : UInt8), (57 : UInt8), (32 : UInt8), (100 : UInt8), (105 : UInt8), (103 : UInt8), (105 : UInt8), (116 : UInt8), (32 : UInt8), (105 : UInt8), (110 : UInt8), (32 : UInt8), (101 : UInt8), (120 : UInt8), (112 : UInt8), (111 : UInt8), (110 : UInt8), (101 : UInt8), (110 : UInt8), (116 : UInt8), (32 : UInt8), (112 : UInt8), (97 : UInt8), (114 : UInt8), (116 : UInt8), (44 : UInt8), (32 : UInt8), (103 : UInt8), (111 : UInt8), (116 : UInt8)]))] .any fun (v21 : Value) =>
    .leaf 0 [(Value.string s18), v21]) (
    .ite (decide (i20 ≥ (((ByteArray.size s18) : Nat) : Int))) (
      .leaf 0 [(Value.string (ByteArray.mk #[])), Value.nilIface]) (
      .chk (((0 : Int) ≤ i20) ∧ ((i20 ≤ (((ByteArray.size s18) : Nat) : Int)) ∧ ((((ByteArray.size s18) : Nat) : Int) ≤ (((ByteArray.size s18) : Nat) : Int)))) <|
      .leaf 0 [(Value.string (ByteArray.extract s18 (Int.toNat i20) (Int.toNat (((ByteArray.size s18) : Nat) : Int)))), Value.nilIface]))
def fastjson_validateNumber.t10 (s18 : ByteArray) : T :=
  .cut 1 (.cons (.int .i64) .nil) (
    .loop 2 (.cons (.int .i64) .nil) [(Value.int IntKind.i64 (0 : Int))]
      (fun z => fastjson_validateNumber.t11 s18 z.1))
    (fun z => fastjson_validateNumber.t12 s18 z.1)
def fastjson_validateNumber.t9 (i12 : Int) (s13 : ByteArray) (b16 : Bool) : T :=
  .cut 1 (.cons .str .nil) (
    .ite b16 (
      .chk (((0 : Int) ≤ (1 : Int)) ∧ (((1 : Int) ≤ (((ByteArray.size (ByteArray.extract s13 (Int.toNat (IntKind.wrap IntKind.i64 (i12 + (1 : Int)))) (Int.toNat (((ByteArray.size s13) : Nat) : Int)))) : Nat) : Int)) ∧ ((((ByteArray.size (ByteArray.extract s13 (Int.toNat (IntKind.wrap IntKind.i64 (i12 + (1 : Int)))) (Int.toNat (((ByteArray.size s13) : Nat) : Int)))) : Nat) : Int) ≤ (((ByteArray.size (ByteArray.extract s13 (Int.toNat (IntKind.wrap IntKind.i64 (i12 + (1 : Int)))) (Int.toNat (((ByteArray.size s13) : Nat) : Int)))) : Nat) : Int)))) <|
      .ite ((((ByteArray.size (ByteArray.extract (ByteArray.extract s13 (Int.toNat (IntKind.wrap IntKind.i64 (i12 + (1 : Int)))) (Int.toNat (((ByteArray.size s13) : Nat) : Int))) 1 (Int.toNat (((ByteArray.size (ByteArray.extract s13 (Int.toNat (IntKind.wrap IntKind.i64 (i12 + (1 : Int)))) (Int.toNat (((ByteArray.size s13) : Nat) : Int)))) : Nat) : Int)))) : Nat) : Int) == (0 : Int)) (
        .call 38 #[(Value.string (ByteArray.mk #[(109 : UInt8), (105 : UInt8), (115 : UInt8), (115 : UInt8), (105 : UInt8), (110 : UInt8), (103 : UInt8), (32 : UInt8), (101 : UInt8), (120 : UInt8), (112 : UInt8), (111 : UInt8), (110 : UInt8), (101 : UInt8), (110 : UInt8), (116 : UInt8), (32 : UInt8), (112 : UInt8), (97 : UInt8), (114 : UInt8), (116 : UInt8)]))] .any fun (v17 : Value) =>
        .leaf 0 [(Value.string (ByteArray.extract (ByteArray.extract s13 (Int.toNat (IntKind.wrap IntKind.i64 (i12 + (1 : Int)))) (Int.toNat (((ByteArray.size s13) : Nat) : Int))) 1 (Int.toNat (((ByteArray.size (ByteArray.extract s13 (Int.toNat (IntKind.wrap IntKind.i64 (i12 + (1 : Int)))) (Int.toNat (((ByteArray.size s13) : Nat) : Int)))) : Nat) : Int)))), v17]) (
        .leaf 1 [(Value.string (ByteArray.extract (ByteArray.extract s13 (Int.toNat (IntKind.wrap IntKind.i64 (i12 + (1 : Int)))) (Int.toNat (((ByteArray.size s13) : Nat) : Int))) 1 (Int.toNat (((ByteArray.size (ByteArray.extract s13 (Int.toNat (IntKind.wrap IntKind.i64 (i12 + (1 : Int)))) (Int.toNat (((ByteArray.size s13) : Nat) : Int)))) : Nat) : Int))))])) (
      .leaf 1 [(Value.string (ByteArray.extract s13 (Int.toNat (IntKind.wrap IntKind.i64 (i12 + (1 : Int)))) (Int.toNat (((ByteArray.size s13) : Nat) : Int))))]))
    (fun z => fastjson_validateNumber.t10 z.1)
def fastjson_validateNumber.t8 (i12 : Int) (s13 : ByteArray) (b14 : Bool) : T :=
  .ite b14 (
    .chk (((0 : Int) ≤ (IntKind.wrap IntKind.i64 (i12 + (1 : Int)))) ∧ (((IntKind.wrap IntKind.i64 (i12 + (1 : Int))) ≤ (((ByteArray.size s13) : Nat) : Int)) ∧ ((((ByteArray.size s13) : Nat) : Int) ≤ (((ByteArray.size s13) : Nat) : Int)))) <|
    .ite ((((ByteArray.size (ByteArray.extract s13 (Int.toNat (IntKind.wrap IntKind.i64 (i12 + (1 : Int)))) (Int.toNat (((ByteArray.size s13) : Nat) : Int)))) : Nat) : Int) == (0 : Int)) (
      .call 38 #[(Value.string (ByteArray.mk #[(109 : UInt8), (105 : UInt8), (115 : UInt8), (115 : UInt8), (105 : UInt8), (110 : UInt8), (103 : UInt8), (32 : UInt8), (101 : UInt8), (120 : UInt8), (112 : UInt8), (111 : UInt8), (110 : UInt8), (101 : UInt8), (110 : UInt8), (116 : UInt8), (32 : UInt8), (112 : UInt8), (97 : UInt8), (114 : UInt8), (116 : UInt8)]))] .any fun (v15 : Value) =>
      .leaf 0 [(Value.string (ByteArray.extract s13 (Int.toNat (IntKind.wrap IntKind.i64 (i12 + (1 : Int)))) (Int.toNat (((ByteArray.size s13) : Nat) : Int)))), v15]) (
      .cut 1 (.cons .bool .nil) (
        .chk (((0 : Int) ≤ (0 : Int)) ∧ ((0 : Int) < (((ByteArray.size (ByteArray.extract s13 (Int.toNat (IntKind.wrap IntKind.i64 (i12 + (1 : Int)))) (Int.toNat (((ByteArray.size s13) : Nat) : Int)))) : Nat) : Int))) <|
        .ite ((bt (ByteArray.extract s13 (Int.toNat (IntKind.wrap IntKind.i64 (i12 + (1 : Int)))) (Int.toNat (((ByteArray.size s13) : Nat) : Int))) (0 : Int)) == (45 : Int)) (
          .leaf 1 [(Value.bool Bool.true)]) (
          .chk (((0 : Int) ≤ (0 : Int)) ∧ ((0 : Int) < (((ByteArray.size (ByteArray.extract s13 (Int.toNat (IntKind.wrap IntKind.i64 (i12 + (1 : Int)))) (Int.toNat (((ByteArray.size s13) : Nat) : Int)))) : Nat) : Int))) <|
          .leaf 1 [(Value.bool ((bt (ByteArray.extract s13 (Int.toNat (IntKind.wrap IntKind.i64 (i12 + (1 : Int)))) (Int.toNat (((ByteArray.size s13) : Nat) : Int))) (0 : Int)) == (43 : Int)))]))
        (fun z => fastjson_validateNumber.t9 i12 s13 z.1))) (
    .chk (((0 : Int) ≤ i12) ∧ ((i12 ≤ (((ByteArray.size s13) : Nat) : Int)) ∧ ((((ByteArray.size s13) : Nat) : Int) ≤ (((ByteArray.size s13) : Nat) : Int)))) <|
    .leaf 0 [(Value.string (ByteArray.extract s13 (Int.toNat i12) (Int.toNat (((ByteArray.size s13) : Nat) : Int)))), Value.nilIface])
def fastjson_validateNumber.t7 (i12 : Int) (s13 : ByteArray) : T :=
  .cut 1 (.cons .bool .nil) (
    .chk (((0 : Int) ≤ i12) ∧ (i12 < (((ByteArray.size s13) : Nat) : Int))) <|
    .ite ((bt s13 i12) == (101 : Int)) (
      .leaf 1 [(Value.bool Bool.true)]) (
      .chk (((0 : Int) ≤ i12) ∧ (i12 < (((ByteArray.size s13) : Nat) : Int))) <|
      .leaf 1 [(Value.bool ((bt s13 i12) == (69 : Int)))]))
    (fun z => fastjson_validateNumber.t8 i12 s13 z.1)
def fastjson_validateNumber.t4 (s2 : ByteArray) (i4 : Int) (b6 : Bool) : T :=
  .ite b6 (
    .call 38 #[(Value.string (ByteArray.mk #[(117 : UInt8), (110 : UInt8), (101 : UInt8), (120 : UInt8), (112 : UInt8), (101 : UInt8), (99 : UInt8), (116 : UInt8), (101 : UInt8), (100 : UInt8), (32 : UInt8), (110 : UInt8), (117 : UInt8), (109 : UInt8), (98 : UInt8), (101 : UInt8), (114 : UInt8), (32 : UInt8), (115 : UInt8), (116 : UInt8), (97 : UInt8), (114 : UInt8), (116 : UInt8), (105 : UInt8), (110 : UInt8), (103 : UInt8), (32 : UInt8), (102 : UInt8), (114 : UInt8), (111 : UInt8), (109 : UInt8), (32 : UInt8), (48 : UInt8)]))] .any fun (v7 : Value) =>
    .leaf 0 [(Value.string s2), v7]) (
    .ite (decide (i4 ≥ (((ByteArray.size s2) : Nat) : Int))) (
      .leaf 0 [(Value.string (ByteArray.mk #[])), Value.nilIface]) (
      .chk (((0 : Int) ≤ i4) ∧ (i4 < (((ByteArray.size s2) : Nat) : Int))) <|
      .cut 1 (.cons (.int .i64) (.cons .str .nil)) (
        .ite ((bt s2 i4) == (46 : Int)) (
          .chk (((0 : Int) ≤ (IntKind.wrap IntKind.i64 (i4 + (1 : Int)))) ∧ (((IntKind.wrap IntKind.i64 (i4 + (1 : Int))) ≤ (((ByteArray.size s2) : Nat) : Int)) ∧ ((((ByteArray.size s2) : Nat) : Int) ≤ (((ByteArray.size s2) : Nat) : Int)))) <|
          .ite ((((ByteArray.size (ByteArray.extract s2 (Int.toNat (IntKind.wrap IntKind.i64 (i4 + (1 : Int)))) (Int.toNat (((ByteArray.size s2) : Nat) : Int)))) : Nat) : Int) == (0 : Int)) (
            .call 38 #[(Value.string (ByteArray.mk #[(109 : UInt8), (105 : UInt8), (115 : UInt8), (115 : UInt8), (105 : UInt8), (110 : UInt8), (103 : UInt8), (32 : UInt8), (102 : UInt8), (114 : UInt8), (97 : UInt8), (99 : UInt8), (116 : UInt8), (105 : UInt8), (111 : UInt8), (110 : UInt8), (97 : UInt8), (108 : UInt8), (32 : UInt8), (112 : UInt8), (97 : UInt8), (114 : UInt8), (116 : UInt8)]))] .any fun (v8 : Value) =>
            .leaf 0 [(Value.string (ByteArray.extract s2 (Int.toNat (IntKind.wrap IntKind.i64 (i4 + (1 : Int)))) (Int.toNat (((ByteArray.size s2) : Nat) : Int)))), v8]) (
            .cut 2 (.cons (.int .i64) .nil) (
              .loop 3 (.cons (.int .i64) .nil) [(Value.int IntKind.i64 (0 : Int))]
                (fun z => fastjson_validateNumber.t5 s2 i4 z.1))
              (fun z => fastjson_validateNumber.t6 s2 i4 z.1))) (
          .leaf 1 [(Value.int IntKind.i64 i4), (Value.string s2)]))
        (fun z => fastjson_validateNumber.t7 z.1 z.2.1)))
def fastjson_validateNumber.t3 (s2 : ByteArray) (i4 : Int) : T :=
  .ite (decide (i4 ≤ (0 : Int))) (
    .call 38 #[(Value.string (ByteArray.mk #[(101 : UInt8), (120 : UInt8), (112 : UInt8), (101 : UInt8), (99 : UInt8), (116 : UInt8), (105 : UInt8), (110 : UInt8), (103 : UInt8), (32 : UInt8), (48 : UInt8), (46 : UInt8), (46 : UInt8), (57 : UInt8), (32 : UInt8), (100 : UInt8), (105 : UInt8), (103 : UInt8), (105 : UInt8), (116 : UInt8), (44 : UInt8), (32 : UInt8), (103 : UInt8), (111 : UInt8), (116 : UInt8)]))] .any fun (v5 : Value) =>
    .leaf 0 [(Value.string s2), v5]) (
    .cut 1 (.cons .bool .nil) (
      .chk (((0 : Int) ≤ (0 : Int)) ∧ ((0 : Int) < (((ByteArray.size s2) : Nat) : Int))) <|
      .ite ((bt s2 (0 : Int)) == (48 : Int)) (
        .leaf 1 [(Value.bool (i4 != (1 : Int)))]) (
        .leaf 1 [(Value.bool Bool.false)]))
      (fun z => fastjson_validateNumber.t4 s2 i4 z.1))
def fastjson_validateNumber.t1 (s2 : ByteArray) : T :=
  .cut 1 (.cons (.int .i64) .nil) (
    .loop 2 (.cons (.int .i64) .nil) [(Value.int IntKind.i64 (0 : Int))]
      (fun z => fastjson_validateNumber.t2 s2 z.1))
    (fun z => fastjson_validateNumber.t3 s2 z.1)
def fastjson_validateNumber.t (q0 : ByteArray) : T :=
  .ite ((((ByteArray.size q0) : Nat) : Int) == (0 : Int)) (
    .call 38 #[(Value.string (ByteArray.mk #[(122 : UInt8), (101 : UInt8), (114 : UInt8), (111 : UInt8), (45 : UInt8), (108 : UInt8), (101 : UInt8), (110 : UInt8), (103 : UInt8), (116 : UInt8), (104 : UInt8), (32 : UInt8), (110 : UInt8), (117 : UInt8), (109 : UInt8), (98 : UInt8), (101 : UInt8), (114 : UInt8)]))] .any fun (v0 : Value) =>
    .leaf 0 [(Value.string q0), v0]) (
    .chk (((0 : Int) ≤ (0 : Int)) ∧ ((0 : Int) < (((ByteArray.size q0) : Nat) : Int))) <|
    .cut 1 (.cons .str .nil) (
      .ite ((bt q0 (0 : Int)) == (45 : Int)) (
        .chk (((0 : Int) ≤ (1 : Int)) ∧ (((1 : Int) ≤ (((ByteArray.size q0) : Nat) : Int)) ∧ ((((ByteArray.size q0) : Nat) : Int) ≤ (((ByteArray.size q0) : Nat) : Int)))) <|
        .ite ((((ByteArray.size (ByteArray.extract q0 1 (Int.toNat (((ByteArray.size q0) : Nat) : Int)))) : Nat) : Int) == (0 : Int)) (
          .call 38 #[(Value.string (ByteArray.mk #[(109 : UInt8), (105 : UInt8), (115 : UInt8), (115 : UInt8), (105 : UInt8), (110 : UInt8), (103 : UInt8), (32 : UInt8), (110 : UInt8), (117 : UInt8), (109 : UInt8), (98 : UInt8), (101 : UInt8), (114 : UInt8), (32 : UInt8), (97 : UInt8), (102 : UInt8), (116 : UInt8), (101 : UInt8), (114 : UInt8), (32 : UInt8), (109 : UInt8), (105 : UInt8), (110 : UInt8), (117 : UInt8), (115 : UInt8)]))] .any fun (v1 : Value) =>
          .leaf 0 [(Value.string (ByteArray.extract q0 1 (Int.toNat (((ByteArray.size q0) : Nat) : Int)))), v1]) (
          .leaf 1 [(Value.string (ByteArray.extract q0 1 (Int.toNat (((ByteArray.size q0) : Nat) : Int))))])) (
        .leaf 1 [(Value.string q0)]))
      (fun z => fastjson_validateNumber.t1 z.1))
def fastjson_validateNumber.h : Hints := ⟨[(12, [(0, .str)]), (56, [(4, (.int .i64)), (0, .str)]), (116, [(0, .str)])], [(0, [(4, (.int .i64))]), (2, [(4, (.int .i64))]), (4, [(4, (.int .i64))])], [(13, [(46, .bool)]), (29, [(99, .bool)]), (33, [(116, .bool)])], [(8, [(4, (.int .i64))]), (22, [(4, (.int .i64))]), (38, [(4, (.int .i64))])]⟩
noncomputable def fastjson_validateNumber.c : Code := (Tryz.f62.body).getD .skip
theorem fastjson_validateNumber.e (q0 : ByteArray) : fnT Tryz.prog fastjson_validateNumber.h Tryz.f62 fastjson_validateNumber.c [.v (Value.string q0)] = fastjson_validateNumber.t q0 := by kernel_rfl
theorem fastjson_validateNumber.calls (q0 : ByteArray) {w : World} {R : Ending → World → Prop} (hs : sat Tryz.prog (fastjson_validateNumber.t q0) (fun l vs w' => l = 0 ∧ R (.returned (retVal vs)) w') w) : Calls Tryz.prog 62 #[(Value.string q0)] w R :=
  have h := calls_of_tree (w := w) (R := R) (args := [.v (Value.string q0)]) (c := fastjson_validateNumber.c) Tryz.func62 (show Tryz.f62.body = some fastjson_validateNumber.c by kernel_rfl) (of_decide_eq_true (by kernel_rfl)) (fastjson_validateNumber.e q0) hs
  h

/-! ### pub-tetrapla/pub/fastjson.validateKey : function 84 -/
def fastjson_validateKey.t1 (s : ByteArray) (i0 : Int) : T :=
  .ite (decide (i0 < (((ByteArray.size s) : Nat) : Int))) (
    .chk (((0 : Int) ≤ i0) ∧ (i0 < (((ByteArray.size s) : Nat) : Int))) <|
    .ite ((bt s i0) == (34 : Int)) (
      .drew <|
      .chk (((0 : Int) ≤ (0 : Int)) ∧ (((0 : Int) ≤ i0) ∧ (i0 ≤ (((ByteArray.size s) : Nat) : Int)))) <|
      .chk (((0 : Int) ≤ (IntKind.wrap IntKind.i64 (i0 + (1 : Int)))) ∧ (((IntKind.wrap IntKind.i64 (i0 + (1 : Int))) ≤ (((ByteArray.size s) : Nat) : Int)) ∧ ((((ByteArray.size s) : Nat) : Int) ≤ (((ByteArray.size s) : Nat) : Int)))) <|
      .leaf 0 [(Value.string (ByteArray.extract s 0 (Int.toNat i0))), (Value.string (ByteArray.extract s (Int.toNat (IntKind.wrap IntKind.i64 (i0 + (1 : Int)))) (Int.toNat (((ByteArray.size s) : Nat) : Int)))), Value.nilIface]) (
      .chk (((0 : Int) ≤ i0) ∧ (i0 < (((ByteArray.size s) : Nat) : Int))) <|
      .ite ((bt s i0) == (92 : Int)) (
        .call 61 #[(Value.string s)] (.tuple (.cons .str (.cons .str (.cons .any .nil)))) fun (z1 : (ByteArray × (ByteArray × (Value × PUnit)))) =>
        .leaf 0 [(Value.string (z1).1), (Value.string ((z1).2).1), (((z1).2).2).1]) (
        .leaf 1 [(Value.int IntKind.i64 (IntKind.wrap IntKind.i64 (i0 + (1 : Int))))]))) (
    .call 38 #[(Value.string (ByteArray.mk #[(109 : UInt8), (105 : UInt8), (115 : UInt8), (115 : UInt8), (105 : UInt8), (110 : UInt8), (103 : UInt8), (32 : UInt8), (99 : UInt8), (108 : UInt8), (111 : UInt8), (115 : UInt8), (105 : UInt8), (110 : UInt8), (103 : UInt8)]))] .any fun (v2 : Value) =>
    .leaf 0 [(Value.string (ByteArray.mk #[])), (Value.string s), v2])
def fastjson_validateKey.t (s : ByteArray) : T :=
  .loop 1 (.cons (.int .i64) .nil) [(Value.int IntKind.i64 (0 : Int))]
    (fun z => fastjson_validateKey.t1 s z.1)
def fastjson_validateKey.h : Hints := ⟨[], [], [], [(2, [(8, (.int .i64))])]⟩
noncomputable def fastjson_validateKey.c : Code := (Tryz.f84.body).getD .skip
theorem fastjson_validateKey.e (s : ByteArray) : fnT Tryz.prog fastjson_validateKey.h Tryz.f84 fastjson_validateKey.c [.v (Value.string s)] = fastjson_validateKey.t s := by kernel_rfl
theorem fastjson_validateKey.calls (s : ByteArray) {w : World} {R : Ending → World → Prop} (hs : sat Tryz.prog (fastjson_validateKey.t s) (fun l vs w' => l = 0 ∧ R (.returned (retVal vs)) w') w) : Calls Tryz.prog 84 #[(Value.string s)] w R :=
  have h := calls_of_tree (w := w) (R := R) (args := [.v (Value.string s)]) (c := fastjson_validateKey.c) Tryz.func84 (show Tryz.f84.body = some fastjson_validateKey.c by kernel_rfl) (of_decide_eq_true (by kernel_rfl)) (fastjson_validateKey.e s) hs
  h

/-! ### pub-tetrapla/laws.FnFjTail : function 4 -/
def laws_FnFjTail.t3 (q0 : ByteArray) (q1 : ByteArray) (q2 : Bool) (s6 : ByteArray) : T :=
  .chk (((ByteArray.size q0) + (ByteArray.size s6)) ≤ 9223372036854775807) <|
  .chk (((ByteArray.size (q0 ++ s6)) + (ByteArray.size q1)) ≤ 9223372036854775807) <|
  .call 10 #[(Value.string ((q0 ++ s6) ++ q1))] (.tuple (.cons (.agg (.cons (.int .i64) (.cons .str (.cons .slice (.cons .slice .nil))))) (.cons .bool .nil))) fun (z7 : ((Int × (ByteArray × (((Option Addr) × (Nat × Nat)) × (((Option Addr) × (Nat × Nat)) × PUnit)))) × (Bool × PUnit))) =>
  .alloc (Obj.cells #[(Value.int IntKind.i64 (0 : Int)), (Value.string (ByteArray.mk #[])), (Value.slice none 0 0), (Value.slice none 0 0)] 26 (0, 0)) fun (z8 : Addr) =>
  .effU (Instr.storeAt 26 (Value.pointer (some z8)) (Value.agg #[(Value.int IntKind.i64 ((z7).1).1), (Value.string (((z7).1).2).1), (Value.slice (((((z7).1).2).2).1).1 ((((((z7).1).2).2).1).2).1 ((((((z7).1).2).2).1).2).2), (Value.slice ((((((z7).1).2).2).2).1).1 (((((((z7).1).2).2).2).1).2).1 (((((((z7).1).2).2).2).1).2).2)])) <|
  .chk (((ByteArray.size q0) + (ByteArray.size s6)) ≤ 9223372036854775807) <|
  .chk (((ByteArray.size (q0 ++ s6)) + 1) ≤ 9223372036854775807) <|
  .call 10 #[(Value.string ((q0 ++ s6) ++ (ByteArray.mk #[(32 : UInt8)])))] (.tuple (.cons (.agg (.cons (.int .i64) (.cons .str (.cons .slice (.cons .slice .nil))))) (.cons .bool .nil))) fun (z9 : ((Int × (ByteArray × (((Option Addr) × (Nat × Nat)) × (((Option Addr) × (Nat × Nat)) × PUnit)))) × (Bool × PUnit))) =>
  .alloc (Obj.cells #[(Value.int IntKind.i64 (0 : Int)), (Value.string (ByteArray.mk #[])), (Value.slice none 0 0), (Value.slice none 0 0)] 26 (0, 0)) fun (z10 : Addr) =>
  .effU (Instr.storeAt 26 (Value.pointer (some z10)) (Value.agg #[(Value.int IntKind.i64 ((z9).1).1), (Value.string (((z9).1).2).1), (Value.slice (((((z9).1).2).2).1).1 ((((((z9).1).2).2).1).2).1 ((((((z9).1).2).2).1).2).2), (Value.slice ((((((z9).1).2).2).2).1).1 (((((((z9).1).2).2).2).1).2).1 (((((((z9).1).2).2).2).1).2).2)])) <|
  .ite (!((z7).2).1) (
    .ite (((z9).2).1 == q2) (
      .chk (((ByteArray.size q0) + (ByteArray.size s6)) ≤ 9223372036854775807) <|
      .chk (((ByteArray.size (q0 ++ s6)) + (ByteArray.size q1)) ≤ 9223372036854775807) <|
      .call 11 #[(Value.string ((q0 ++ s6) ++ q1))] .bool fun (b11 : Bool) =>
      .leaf 0 [(Value.bool (!b11))]) (
      .leaf 0 [(Value.bool Bool.false)])) (
    .leaf 0 [(Value.bool Bool.false)])
def laws_FnFjTail.t2 (q0 : ByteArray) (q1 : ByteArray) (q2 : Bool) (b5 : Bool) : T :=
  .ite b5 (
    .leaf 0 [(Value.bool Bool.true)]) (
    .cut 1 (.cons .str .nil) (
      .ite q2 (
        .leaf 1 [(Value.string (ByteArray.mk #[(32 : UInt8)]))]) (
        .leaf 1 [(Value.string (ByteArray.mk #[(44 : UInt8)]))]))
      (fun z => laws_FnFjTail.t3 q0 q1 q2 z.1))
def laws_FnFjTail.t1 (q0 : ByteArray) (q1 : ByteArray) (q2 : Bool) (b0 : Bool) : T :=
  .ite b0 (
    .leaf 0 [(Value.bool Bool.true)]) (
    .call 5 #[(Value.string q0)] (.tuple (.cons (.agg (.cons (.int .i64) (.cons .str (.cons .slice (.cons .slice .nil))))) (.cons .bool .nil))) fun (z1 : ((Int × (ByteArray × (((Option Addr) × (Nat × Nat)) × (((Option Addr) × (Nat × Nat)) × PUnit)))) × (Bool × PUnit))) =>
    .alloc (Obj.cells #[(Value.int IntKind.i64 (0 : Int)), (Value.string (ByteArray.mk #[])), (Value.slice none 0 0), (Value.slice none 0 0)] 26 (0, 0)) fun (z2 : Addr) =>
    .effU (Instr.storeAt 26 (Value.pointer (some z2)) (Value.agg #[(Value.int IntKind.i64 ((z1).1).1), (Value.string (((z1).1).2).1), (Value.slice (((((z1).1).2).2).1).1 ((((((z1).1).2).2).1).2).1 ((((((z1).1).2).2).1).2).2), (Value.slice ((((((z1).1).2).2).2).1).1 (((((((z1).1).2).2).2).1).2).1 (((((((z1).1).2).2).2).1).2).2)])) <|
    .call 5 #[(Value.string q1)] (.tuple (.cons (.agg (.cons (.int .i64) (.cons .str (.cons .slice (.cons .slice .nil))))) (.cons .bool .nil))) fun (z3 : ((Int × (ByteArray × (((Option Addr) × (Nat × Nat)) × (((Option Addr) × (Nat × Nat)) × PUnit)))) × (Bool × PUnit))) =>
    .alloc (Obj.cells #[(Value.int IntKind.i64 (0 : Int)), (Value.string (ByteArray.mk #[])), (Value.slice none 0 0), (Value.slice none 0 0)] 26 (0, 0)) fun (z4 : Addr) =>
    .effU (Instr.storeAt 26 (Value.pointer (some z4)) (Value.agg #[(Value.int IntKind.i64 ((z3).1).1), (Value.string (((z3).1).2).1), (Value.slice (((((z3).1).2).2).1).1 ((((((z3).1).2).2).1).2).1 ((((((z3).1).2).2).1).2).2), (Value.slice ((((((z3).1).2).2).2).1).1 (((((((z3).1).2).2).2).1).2).1 (((((((z3).1).2).2).2).1).2).2)])) <|
    .cut 1 (.cons .bool .nil) (
      .ite (!((z1).2).1) (
        .leaf 1 [(Value.bool Bool.true)]) (
        .ite (!((z3).2).1) (
          .leaf 1 [(Value.bool Bool.true)]) (
          .leaf 1 [(Value.bool (decide ((IntKind.wrap IntKind.i64 ((((ByteArray.size q0) : Nat) : Int) + (((ByteArray.size q1) : Nat) : Int))) > (4000 : Int))))])))
      (fun z => laws_FnFjTail.t2 q0 q1 q2 z.1))
def laws_FnFjTail.t (q0 : ByteArray) (q1 : ByteArray) (q2 : Bool) : T :=
  .cut 1 (.cons .bool .nil) (
    .ite (decide ((((ByteArray.size q0) : Nat) : Int) > (2147483647 : Int))) (
      .leaf 1 [(Value.bool Bool.true)]) (
      .leaf 1 [(Value.bool (decide ((((ByteArray.size q1) : Nat) : Int) > (2147483647 : Int))))]))
    (fun z => laws_FnFjTail.t1 q0 q1 q2 z.1)
def laws_FnFjTail.h : Hints := ⟨[(48, [(11, .str)])], [], [(1, [(23, .bool)]), (5, [(47, .bool)])], []⟩
noncomputable def laws_FnFjTail.c : Code := (Tryz.f4.body).getD .skip
theorem laws_FnFjTail.e (q0 : ByteArray) (q1 : ByteArray) (q2 : Bool) : fnT Tryz.prog laws_FnFjTail.h Tryz.f4 laws_FnFjTail.c [.v (Value.string q0), .v (Value.string q1), .v (Value.bool q2)] = laws_FnFjTail.t q0 q1 q2 := by kernel_rfl
theorem laws_FnFjTail.calls (q0 : ByteArray) (q1 : ByteArray) (q2 : Bool) {w : World} {R : Ending → World → Prop} (hs : sat Tryz.prog (laws_FnFjTail.t q0 q1 q2) (fun l vs w' => l = 0 ∧ R (.returned (retVal vs)) w') w) : Calls Tryz.prog 4 #[(Value.string q0), (Value.string q1), (Value.bool q2)] w R :=
  have h := calls_of_tree (w := w) (R := R) (args := [.v (Value.string q0), .v (Value.string q1), .v (Value.bool q2)]) (c := laws_FnFjTail.c) Tryz.func4 (show Tryz.f4.body = some laws_FnFjTail.c by kernel_rfl) (of_decide_eq_true (by kernel_rfl)) (laws_FnFjTail.e q0 q1 q2) hs
  h

end Go.Proofs.YtkpnomdmnhhaoaaGreatDoor.Tr
