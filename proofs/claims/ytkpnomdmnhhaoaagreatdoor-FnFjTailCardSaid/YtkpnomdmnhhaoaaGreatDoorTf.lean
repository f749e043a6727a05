/- Trees of loaded functions, printed by wip/tools/rxprint (a program of this repo): each is what 'exec' comes to, held by the kernel. No statement of the set is proved here. -/
import Derived.Test.YtkpnomdmnhhaoaaGreatDoorRz
import Derived.Test.YtkpnomdmnhhaoaaGreatDoorProg
import Derived.KernelRfl
namespace Go.Proofs.YtkpnomdmnhhaoaaGreatDoor.Tr
open Go Go.Proofs Go.Proofs.YtkpnomdmnhhaoaaGreatDoor.Rx
set_option linter.unusedVariables false
set_option maxRecDepth 100000
/-! ### (*pub-tetrapla/pub/fastjson.Parser).Parse : function 19 -/
def fastjson_Parser_Parse.t (p : (Option Addr)) (s : ByteArray) : T :=
  .call 35 #[(Value.string s)] .str fun (s0 : ByteArray) =>
  .ptr p fun (z1 : Addr) =>
  .load (Addr.add z1 0) .slice fun (z2 : ((Option Addr) × (Nat × Nat))) =>
  .chk (((0 : Int) ≤ (0 : Int)) ∧ (((0 : Int) ≤ (0 : Int)) ∧ ((0 : Int) ≤ ((((z2).2).2 : Nat) : Int)))) <|
  .eff (Builtin.append_ (Call.argTypes (Call.mk (Callee.builtin Builtin.append) #[(Operand.tmp 16), (Operand.tmp 17)] #[43, 9])) 43 #[(Value.slice (if (((z2).2).2 = 0) then (z2).1 else (Option.map (fun (y3 : Addr) => (Addr.add y3 0)) (z2).1)) 0 (((z2).2).2 - 0)), (Value.string s0)]) .slice fun (z4 : ((Option Addr) × (Nat × Nat))) =>
  .ptr p fun (z5 : Addr) =>
  .store (Addr.add z5 0) (Value.slice (z4).1 ((z4).2).1 ((z4).2).2) <|
  .ptr p fun (z6 : Addr) =>
  .call 36 #[(Value.pointer (some (Addr.add z6 1)))] (.tuple .nil) fun _ =>
  .drew <|
  .ptr p fun (z7 : Addr) =>
  .ptr p fun (z8 : Addr) =>
  .load (Addr.add z8 0) .slice fun (z9 : ((Option Addr) × (Nat × Nat))) =>
  .here fun (z10 : World) =>
  .call 37 #[(Value.slice (z9).1 ((z9).2).1 ((z9).2).2)] .str fun (s11 : ByteArray) =>
  .grew z10 <|
  .call 27 #[(Value.pointer (some (Addr.add z7 1))), (Value.string s11), (Value.int IntKind.i64 (0 : Int))] (.tuple (.cons .ptr (.cons .str (.cons .any .nil)))) fun (z12 : ((Option Addr) × (ByteArray × (Value × PUnit)))) =>
  .chk ((isIface (((z12).2).2).1) = Bool.true) <|
  .ite (!(isNil (((z12).2).2).1)) (
    .call 38 #[(Value.string (ByteArray.mk #[(99 : UInt8), (97 : UInt8), (110 : UInt8), (110 : UInt8), (111 : UInt8), (116 : UInt8), (32 : UInt8), (112 : UInt8), (97 : UInt8), (114 : UInt8), (115 : UInt8), (101 : UInt8), (32 : UInt8), (74 : UInt8), (83 : UInt8), (79 : UInt8), (78 : UInt8)]))] .any fun (v13 : Value) =>
    .leaf 0 [(Value.pointer none), v13]) (
    .call 35 #[(Value.string ((z12).2).1)] .str fun (s14 : ByteArray) =>
    .ite (decide ((((ByteArray.size s14) : Nat) : Int) > (0 : Int))) (
      .call 38 #[(Value.string (ByteArray.mk #[(117 : UInt8), (110 : UInt8), (101 : UInt8), (120 : UInt8), (112 : UInt8), (101 : UInt8), (99 : UInt8), (116 : UInt8), (101 : UInt8), (100 : UInt8), (32 : UInt8), (116 : UInt8), (97 : UInt8), (105 : UInt8), (108 : UInt8)]))] .any fun (v15 : Value) =>
      .leaf 0 [(Value.pointer none), v15]) (
      .leaf 0 [(Value.pointer (z12).1), Value.nilIface]))
def fastjson_Parser_Parse.h : Hints := ⟨[], [], [], []⟩
noncomputable def fastjson_Parser_Parse.c : Code := (Tryz.f19.body).getD .skip
theorem fastjson_Parser_Parse.e (p : (Option Addr)) (s : ByteArray) : fnT Tryz.prog fastjson_Parser_Parse.h Tryz.f19 fastjson_Parser_Parse.c [.v (Value.pointer p), .v (Value.string s)] = fastjson_Parser_Parse.t p s := by kernel_rfl
theorem fastjson_Parser_Parse.calls (p : (Option Addr)) (s : ByteArray) {w : World} {R : Ending → World → Prop} (hs : sat Tryz.prog (fastjson_Parser_Parse.t p s) (fun l vs w' => l = 0 ∧ R (.returned (retVal vs)) w') w) : Calls Tryz.prog 19 #[(Value.pointer p), (Value.string s)] w R :=
  have h := calls_of_tree (w := w) (R := R) (args := [.v (Value.pointer p), .v (Value.string s)]) (c := fastjson_Parser_Parse.c) Tryz.func19 (show Tryz.f19.body = some fastjson_Parser_Parse.c by kernel_rfl) (of_decide_eq_true (by kernel_rfl)) (fastjson_Parser_Parse.e p s) hs
  h

/-! ### (*pub-tetrapla/pub/fastjson.cache).parseValue : function 27 -/
def fastjson_cache_parseValue.t1 (q1 : ByteArray) (b11 : Bool) : T :=
  .ite b11 (
    .call 38 #[(Value.string (ByteArray.mk #[(117 : UInt8), (110 : UInt8), (101 : UInt8), (120 : UInt8), (112 : UInt8), (101 : UInt8), (99 : UInt8), (116 : UInt8), (101 : UInt8), (100 : UInt8), (32 : UInt8), (118 : UInt8), (97 : UInt8), (108 : UInt8), (117 : UInt8), (101 : UInt8), (32 : UInt8), (102 : UInt8), (111 : UInt8), (117 : UInt8), (110 : UInt8), (100 : UInt8)]))] .any fun (v12 : Value) =>
    .leaf 0 [(Value.pointer none), (Value.string q1), v12]) (
    .drew <|
    .chk (((0 : Int) ≤ (4 : Int)) ∧ (((4 : Int) ≤ (((ByteArray.size q1) : Nat) : Int)) ∧ ((((ByteArray.size q1) : Nat) : Int) ≤ (((ByteArray.size q1) : Nat) : Int)))) <|
    .here fun (z13 : World) =>
    .alloc (Obj.cells #[(Value.slice none 0 0), (Value.bool Bool.false), (Value.slice none 0 0), (Value.string (ByteArray.mk #[])), (Value.int IntKind.i64 (5 : Int))] 92 (0, 0)) fun (z14 : Addr) =>
    .grew z13 <|
    .leaf 0 [(Value.pointer (some z14)), (Value.string (ByteArray.extract q1 4 (Int.toNat (((ByteArray.size q1) : Nat) : Int)))), Value.nilIface])
def fastjson_cache_parseValue.t2 (q1 : ByteArray) (b15 : Bool) : T :=
  .ite b15 (
    .call 38 #[(Value.string (ByteArray.mk #[(117 : UInt8), (110 : UInt8), (101 : UInt8), (120 : UInt8), (112 : UInt8), (101 : UInt8), (99 : UInt8), (116 : UInt8), (101 : UInt8), (100 : UInt8), (32 : UInt8), (118 : UInt8), (97 : UInt8), (108 : UInt8), (117 : UInt8), (101 : UInt8), (32 : UInt8), (102 : UInt8), (111 : UInt8), (117 : UInt8), (110 : UInt8), (100 : UInt8)]))] .any fun (v16 : Value) =>
    .leaf 0 [(Value.pointer none), (Value.string q1), v16]) (
    .drew <|
    .chk (((0 : Int) ≤ (5 : Int)) ∧ (((5 : Int) ≤ (((ByteArray.size q1) : Nat) : Int)) ∧ ((((ByteArray.size q1) : Nat) : Int) ≤ (((ByteArray.size q1) : Nat) : Int)))) <|
    .here fun (z17 : World) =>
    .alloc (Obj.cells #[(Value.slice none 0 0), (Value.bool Bool.false), (Value.slice none 0 0), (Value.string (ByteArray.mk #[])), (Value.int IntKind.i64 (6 : Int))] 92 (0, 0)) fun (z18 : Addr) =>
    .grew z17 <|
    .leaf 0 [(Value.pointer (some z18)), (Value.string (ByteArray.extract q1 5 (Int.toNat (((ByteArray.size q1) : Nat) : Int)))), Value.nilIface])
def fastjson_cache_parseValue.t4 (q0 : (Option Addr)) (q1 : ByteArray) (b21 : Bool) : T :=
  .ite b21 (
    .call 47 #[(Value.pointer q0)] .ptr fun (p22 : (Option Addr)) =>
    .ptr p22 fun (z23 : Addr) =>
    .store (Addr.add z23 4) (Value.int IntKind.i64 (4 : Int)) <|
    .chk (((0 : Int) ≤ (0 : Int)) ∧ (((0 : Int) ≤ (3 : Int)) ∧ ((3 : Int) ≤ (((ByteArray.size q1) : Nat) : Int)))) <|
    .ptr p22 fun (z24 : Addr) =>
    .store (Addr.add z24 3) (Value.string (ByteArray.extract q1 0 3)) <|
    .drew <|
    .chk (((0 : Int) ≤ (3 : Int)) ∧ (((3 : Int) ≤ (((ByteArray.size q1) : Nat) : Int)) ∧ ((((ByteArray.size q1) : Nat) : Int) ≤ (((ByteArray.size q1) : Nat) : Int)))) <|
    .leaf 0 [(Value.pointer p22), (Value.string (ByteArray.extract q1 3 (Int.toNat (((ByteArray.size q1) : Nat) : Int)))), Value.nilIface]) (
    .call 38 #[(Value.string (ByteArray.mk #[(117 : UInt8), (110 : UInt8), (101 : UInt8), (120 : UInt8), (112 : UInt8), (101 : UInt8), (99 : UInt8), (116 : UInt8), (101 : UInt8), (100 : UInt8), (32 : UInt8), (118 : UInt8), (97 : UInt8), (108 : UInt8), (117 : UInt8), (101 : UInt8), (32 : UInt8), (102 : UInt8), (111 : UInt8), (117 : UInt8), (110 : UInt8), (100 : UInt8)]))] .any fun (v25 : Value) =>
    .leaf 0 [(Value.pointer none), (Value.string q1), v25])
def fastjson_cache_parseValue.t3 (q0 : (Option Addr)) (q1 : ByteArray) (b19 : Bool) : T :=
  .ite b19 (
    .cut 1 (.cons .bool .nil) (
      .ite (decide ((((ByteArray.size q1) : Nat) : Int) ≥ (3 : Int))) (
        .chk (((0 : Int) ≤ (0 : Int)) ∧ (((0 : Int) ≤ (3 : Int)) ∧ ((3 : Int) ≤ (((ByteArray.size q1) : Nat) : Int)))) <|
        .call 48 #[(Value.string (ByteArray.extract q1 0 3)), (Value.string (ByteArray.mk #[(110 : UInt8), (97 : UInt8), (110 : UInt8)]))] .bool fun (b20 : Bool) =>
        .leaf 1 [(Value.bool b20)]) (
        .leaf 1 [(Value.bool Bool.false)]))
      (fun z => fastjson_cache_parseValue.t4 q0 q1 z.1)) (
    .drew <|
    .chk (((0 : Int) ≤ (4 : Int)) ∧ (((4 : Int) ≤ (((ByteArray.size q1) : Nat) : Int)) ∧ ((((ByteArray.size q1) : Nat) : Int) ≤ (((ByteArray.size q1) : Nat) : Int)))) <|
    .here fun (z26 : World) =>
    .alloc (Obj.cells #[(Value.slice none 0 0), (Value.bool Bool.false), (Value.slice none 0 0), (Value.string (ByteArray.mk #[])), (Value.int IntKind.i64 (0 : Int))] 92 (0, 0)) fun (z27 : Addr) =>
    .grew z26 <|
    .leaf 0 [(Value.pointer (some z27)), (Value.string (ByteArray.extract q1 4 (Int.toNat (((ByteArray.size q1) : Nat) : Int)))), Value.nilIface])
def fastjson_cache_parseValue.t (q0 : (Option Addr)) (q1 : ByteArray) (q2 : Int) : T :=
  .ite ((((ByteArray.size q1) : Nat) : Int) == (0 : Int)) (
    .call 38 #[(Value.string (ByteArray.mk #[(99 : UInt8), (97 : UInt8), (110 : UInt8), (110 : UInt8), (111 : UInt8), (116 : UInt8), (32 : UInt8), (112 : UInt8), (97 : UInt8), (114 : UInt8), (115 : UInt8), (101 : UInt8), (32 : UInt8), (101 : UInt8), (109 : UInt8), (112 : UInt8), (116 : UInt8), (121 : UInt8), (32 : UInt8), (115 : UInt8), (116 : UInt8), (114 : UInt8), (105 : UInt8), (110 : UInt8), (103 : UInt8)]))] .any fun (v0 : Value) =>
    .leaf 0 [(Value.pointer none), (Value.string q1), v0]) (
    .ite (decide ((IntKind.wrap IntKind.i64 (q2 + (1 : Int))) > (300 : Int))) (
      .call 38 #[(Value.string (ByteArray.mk #[(116 : UInt8), (111 : UInt8), (111 : UInt8), (32 : UInt8), (98 : UInt8), (105 : UInt8), (103 : UInt8), (32 : UInt8), (100 : UInt8), (101 : UInt8), (112 : UInt8), (116 : UInt8), (104 : UInt8), (32 : UInt8), (102 : UInt8), (111 : UInt8), (114 : UInt8), (32 : UInt8), (116 : UInt8), (104 : UInt8), (101 : UInt8), (32 : UInt8), (110 : UInt8), (101 : UInt8), (115 : UInt8), (116 : UInt8), (101 : UInt8), (100 : UInt8), (32 : UInt8), (74 : UInt8), (83 : UInt8), (79 : UInt8), (78 : UInt8), (59 : UInt8), (32 : UInt8), (105 : UInt8), (116 : UInt8), (32 : UInt8), (101 : UInt8), (120 : UInt8), (99 : UInt8), (101 : UInt8), (101 : UInt8), (100 : UInt8), (115 : UInt8)]))] .any fun (v1 : Value) =>
      .leaf 0 [(Value.pointer none), (Value.string q1), v1]) (
      .chk (((0 : Int) ≤ (0 : Int)) ∧ ((0 : Int) < (((ByteArray.size q1) : Nat) : Int))) <|
      .ite ((bt q1 (0 : Int)) == (123 : Int)) (
        .chk (((0 : Int) ≤ (1 : Int)) ∧ (((1 : Int) ≤ (((ByteArray.size q1) : Nat) : Int)) ∧ ((((ByteArray.size q1) : Nat) : Int) ≤ (((ByteArray.size q1) : Nat) : Int)))) <|
        .call 44 #[(Value.pointer q0), (Value.string (ByteArray.extract q1 1 (Int.toNat (((ByteArray.size q1) : Nat) : Int)))), (Value.int IntKind.i64 (IntKind.wrap IntKind.i64 (q2 + (1 : Int))))] (.tuple (.cons .ptr (.cons .str (.cons .any .nil)))) fun (z2 : ((Option Addr) × (ByteArray × (Value × PUnit)))) =>
        .chk ((isIface (((z2).2).2).1) = Bool.true) <|
        .ite (!(isNil (((z2).2).2).1)) (
          .call 38 #[(Value.string (ByteArray.mk #[(99 : UInt8), (97 : UInt8), (110 : UInt8), (110 : UInt8), (111 : UInt8), (116 : UInt8), (32 : UInt8), (112 : UInt8), (97 : UInt8), (114 : UInt8), (115 : UInt8), (101 : UInt8), (32 : UInt8), (111 : UInt8), (98 : UInt8), (106 : UInt8), (101 : UInt8), (99 : UInt8), (116 : UInt8)]))] .any fun (v3 : Value) =>
          .leaf 0 [(Value.pointer none), (Value.string ((z2).2).1), v3]) (
          .leaf 0 [(Value.pointer (z2).1), (Value.string ((z2).2).1), Value.nilIface])) (
        .chk (((0 : Int) ≤ (0 : Int)) ∧ ((0 : Int) < (((ByteArray.size q1) : Nat) : Int))) <|
        .ite ((bt q1 (0 : Int)) == (91 : Int)) (
          .chk (((0 : Int) ≤ (1 : Int)) ∧ (((1 : Int) ≤ (((ByteArray.size q1) : Nat) : Int)) ∧ ((((ByteArray.size q1) : Nat) : Int) ≤ (((ByteArray.size q1) : Nat) : Int)))) <|
          .call 45 #[(Value.pointer q0), (Value.string (ByteArray.extract q1 1 (Int.toNat (((ByteArray.size q1) : Nat) : Int)))), (Value.int IntKind.i64 (IntKind.wrap IntKind.i64 (q2 + (1 : Int))))] (.tuple (.cons .ptr (.cons .str (.cons .any .nil)))) fun (z4 : ((Option Addr) × (ByteArray × (Value × PUnit)))) =>
          .chk ((isIface (((z4).2).2).1) = Bool.true) <|
          .ite (!(isNil (((z4).2).2).1)) (
            .call 38 #[(Value.string (ByteArray.mk #[(99 : UInt8), (97 : UInt8), (110 : UInt8), (110 : UInt8), (111 : UInt8), (116 : UInt8), (32 : UInt8), (112 : UInt8), (97 : UInt8), (114 : UInt8), (115 : UInt8), (101 : UInt8), (32 : UInt8), (97 : UInt8), (114 : UInt8), (114 : UInt8), (97 : UInt8), (121 : UInt8)]))] .any fun (v5 : Value) =>
            .leaf 0 [(Value.pointer none), (Value.string ((z4).2).1), v5]) (
            .leaf 0 [(Value.pointer (z4).1), (Value.string ((z4).2).1), Value.nilIface])) (
          .chk (((0 : Int) ≤ (0 : Int)) ∧ ((0 : Int) < (((ByteArray.size q1) : Nat) : Int))) <|
          .ite ((bt q1 (0 : Int)) == (34 : Int)) (
            .chk (((0 : Int) ≤ (1 : Int)) ∧ (((1 : Int) ≤ (((ByteArray.size q1) : Nat) : Int)) ∧ ((((ByteArray.size q1) : Nat) : Int) ≤ (((ByteArray.size q1) : Nat) : Int)))) <|
            .call 46 #[(Value.string (ByteArray.extract q1 1 (Int.toNat (((ByteArray.size q1) : Nat) : Int))))] (.tuple (.cons .str (.cons .str (.cons .any .nil)))) fun (z6 : (ByteArray × (ByteArray × (Value × PUnit)))) =>
            .chk ((isIface (((z6).2).2).1) = Bool.true) <|
            .ite (!(isNil (((z6).2).2).1)) (
              .call 38 #[(Value.string (ByteArray.mk #[(99 : UInt8), (97 : UInt8), (110 : UInt8), (110 : UInt8), (111 : UInt8), (116 : UInt8), (32 : UInt8), (112 : UInt8), (97 : UInt8), (114 : UInt8), (115 : UInt8), (101 : UInt8), (32 : UInt8), (115 : UInt8), (116 : UInt8), (114 : UInt8), (105 : UInt8), (110 : UInt8), (103 : UInt8)]))] .any fun (v7 : Value) =>
              .leaf 0 [(Value.pointer none), (Value.string ((z6).2).1), v7]) (
              .call 47 #[(Value.pointer q0)] .ptr fun (p8 : (Option Addr)) =>
              .ptr p8 fun (z9 : Addr) =>
              .store (Addr.add z9 4) (Value.int IntKind.i64 (7 : Int)) <|
              .ptr p8 fun (z10 : Addr) =>
              .store (Addr.add z10 3) (Value.string (z6).1) <|
              .leaf 0 [(Value.pointer p8), (Value.string ((z6).2).1), Value.nilIface])) (
            .chk (((0 : Int) ≤ (0 : Int)) ∧ ((0 : Int) < (((ByteArray.size q1) : Nat) : Int))) <|
            .ite ((bt q1 (0 : Int)) == (116 : Int)) (
              .cut 1 (.cons .bool .nil) (
                .ite (decide ((((ByteArray.size q1) : Nat) : Int) < (4 : Int))) (
                  .leaf 1 [(Value.bool Bool.true)]) (
                  .chk (((0 : Int) ≤ (0 : Int)) ∧ (((0 : Int) ≤ (4 : Int)) ∧ ((4 : Int) ≤ (((ByteArray.size q1) : Nat) : Int)))) <|
                  .leaf 1 [(Value.bool (!(strEq (ByteArray.extract q1 0 4) (ByteArray.mk #[(116 : UInt8), (114 : UInt8), (117 : UInt8), (101 : UInt8)]))))]))
                (fun z => fastjson_cache_parseValue.t1 q1 z.1)) (
              .chk (((0 : Int) ≤ (0 : Int)) ∧ ((0 : Int) < (((ByteArray.size q1) : Nat) : Int))) <|
              .ite ((bt q1 (0 : Int)) == (102 : Int)) (
                .cut 1 (.cons .bool .nil) (
                  .ite (decide ((((ByteArray.size q1) : Nat) : Int) < (5 : Int))) (
                    .leaf 1 [(Value.bool Bool.true)]) (
                    .chk (((0 : Int) ≤ (0 : Int)) ∧ (((0 : Int) ≤ (5 : Int)) ∧ ((5 : Int) ≤ (((ByteArray.size q1) : Nat) : Int)))) <|
                    .leaf 1 [(Value.bool (!(strEq (ByteArray.extract q1 0 5) (ByteArray.mk #[(102 : UInt8), (97 : UInt8), (108 : UInt8), (115 : UInt8), (101 : UInt8)]))))]))
                  (fun z => fastjson_cache_parseValue.t2 q1 z.1)) (
                .chk (((0 : Int) ≤ (0 : Int)) ∧ ((0 : Int) < (((ByteArray.size q1) : Nat) : Int))) <|
                .ite ((bt q1 (0 : Int)) == (110 : Int)) (
                  .cut 1 (.cons .bool .nil) (
                    .ite (decide ((((ByteArray.size q1) : Nat) : Int) < (4 : Int))) (
                      .leaf 1 [(Value.bool Bool.true)]) (
                      .chk (((0 : Int) ≤ (0 : Int)) ∧ (((0 : Int) ≤ (4 : Int)) ∧ ((4 : Int) ≤ (((ByteArray.size q1) : Nat) : Int)))) <|
                      .leaf 1 [(Value.bool (!(strEq (ByteArray.extract q1 0 4) (ByteArray.mk #[(110 : UInt8), (117 : UInt8), (108 : UInt8), (108 : UInt8)]))))]))
                    (fun z => fastjson_cache_parseValue.t3 q0 q1 z.1)) (
                  .call 49 #[(Value.string q1)] (.tuple (.cons .str (.cons .str (.cons .any .nil)))) fun (z28 : (ByteArray × (ByteArray × (Value × PUnit)))) =>
                  .chk ((isIface (((z28).2).2).1) = Bool.true) <|
                  .ite (!(isNil (((z28).2).2).1)) (
                    .call 38 #[(Value.string (ByteArray.mk #[(99 : UInt8), (97 : UInt8), (110 : UInt8), (110 : UInt8), (111 : UInt8), (116 : UInt8), (32 : UInt8), (112 : UInt8), (97 : UInt8), (114 : UInt8), (115 : UInt8), (101 : UInt8), (32 : UInt8), (110 : UInt8), (117 : UInt8), (109 : UInt8), (98 : UInt8), (101 : UInt8), (114 : UInt8)]))] .any fun (v29 : Value) =>
                    .leaf 0 [(Value.pointer none), (Value.string ((z28).2).1), v29]) (
                    .call 47 #[(Value.pointer q0)] .ptr fun (p30 : (Option Addr)) =>
                    .ptr p30 fun (z31 : Addr) =>
                    .store (Addr.add z31 4) (Value.int IntKind.i64 (4 : Int)) <|
                    .ptr p30 fun (z32 : Addr) =>
                    .store (Addr.add z32 3) (Value.string (z28).1) <|
                    .leaf 0 [(Value.pointer p30), (Value.string ((z28).2).1), Value.nilIface])))))))))
def fastjson_cache_parseValue.h : Hints := ⟨[], [], [(25, [(106, .bool)]), (29, [(123, .bool)]), (33, [(140, .bool)]), (34, [(148, .bool)])], []⟩
noncomputable def fastjson_cache_parseValue.c : Code := (Tryz.f27.body).getD .skip
theorem fastjson_cache_parseValue.e (q0 : (Option Addr)) (q1 : ByteArray) (q2 : Int) : fnT Tryz.prog fastjson_cache_parseValue.h Tryz.f27 fastjson_cache_parseValue.c [.v (Value.pointer q0), .v (Value.string q1), .v (Value.int IntKind.i64 q2)] = fastjson_cache_parseValue.t q0 q1 q2 := by kernel_rfl
theorem fastjson_cache_parseValue.calls (q0 : (Option Addr)) (q1 : ByteArray) (q2 : Int) {w : World} {R : Ending → World → Prop} (hs : sat Tryz.prog (fastjson_cache_parseValue.t q0 q1 q2) (fun l vs w' => l = 0 ∧ R (.returned (retVal vs)) w') w) : Calls Tryz.prog 27 #[(Value.pointer q0), (Value.string q1), (Value.int IntKind.i64 q2)] w R :=
  have h := calls_of_tree (w := w) (R := R) (args := [.v (Value.pointer q0), .v (Value.string q1), .v (Value.int IntKind.i64 q2)]) (c := fastjson_cache_parseValue.c) Tryz.func27 (show Tryz.f27.body = some fastjson_cache_parseValue.c by kernel_rfl) (of_decide_eq_true (by kernel_rfl)) (fastjson_cache_parseValue.e q0 q1 q2) hs
  h

/-! ### (*pub-tetrapla/pub/fastjson.Value).Type : function 28 -/
def fastjson_Value_Type.t (v : (Option Addr)) : T :=
  .ptr v fun (z0 : Addr) =>
  .load (Addr.add z0 4) (.int .i64) fun (i1 : Int) =>
  .ite (i1 == (7 : Int)) (
    .ptr v fun (z2 : Addr) =>
    .load (Addr.add z2 3) .str fun (s3 : ByteArray) =>
    .call 50 #[(Value.string s3)] .str fun (s4 : ByteArray) =>
    .ptr v fun (z5 : Addr) =>
    .store (Addr.add z5 3) (Value.string s4) <|
    .ptr v fun (z6 : Addr) =>
    .store (Addr.add z6 4) (Value.int IntKind.i64 (3 : Int)) <|
    .ptr v fun (z7 : Addr) =>
    .load (Addr.add z7 4) (.int .i64) fun (i8 : Int) =>
    .leaf 0 [(Value.int IntKind.i64 i8)]) (
    .ptr v fun (z9 : Addr) =>
    .load (Addr.add z9 4) (.int .i64) fun (i10 : Int) =>
    .leaf 0 [(Value.int IntKind.i64 i10)])
def fastjson_Value_Type.h : Hints := ⟨[], [], [], []⟩
noncomputable def fastjson_Value_Type.c : Code := (Tryz.f28.body).getD .skip
theorem fastjson_Value_Type.e (v : (Option Addr)) : fnT Tryz.prog fastjson_Value_Type.h Tryz.f28 fastjson_Value_Type.c [.v (Value.pointer v)] = fastjson_Value_Type.t v := by kernel_rfl
theorem fastjson_Value_Type.calls (v : (Option Addr)) {w : World} {R : Ending → World → Prop} (hs : sat Tryz.prog (fastjson_Value_Type.t v) (fun l vs w' => l = 0 ∧ R (.returned (retVal vs)) w') w) : Calls Tryz.prog 28 #[(Value.pointer v)] w R :=
  have h := calls_of_tree (w := w) (R := R) (args := [.v (Value.pointer v)]) (c := fastjson_Value_Type.c) Tryz.func28 (show Tryz.f28.body = some fastjson_Value_Type.c by kernel_rfl) (of_decide_eq_true (by kernel_rfl)) (fastjson_Value_Type.e v) hs
  h

/-! ### pub-tetrapla/pub/fastjson.skipWS : function 35 -/
def fastjson_skipWS.t (s : ByteArray) : T :=
  .ite ((((ByteArray.size s) : Nat) : Int) == (0 : Int)) (
    .leaf 0 [(Value.string s)]) (
    .chk (((0 : Int) ≤ (0 : Int)) ∧ ((0 : Int) < (((ByteArray.size s) : Nat) : Int))) <|
    .ite (decide ((bt s (0 : Int)) > (32 : Int))) (
      .leaf 0 [(Value.string s)]) (
      .call 57 #[(Value.string s)] .str fun (s0 : ByteArray) =>
      .leaf 0 [(Value.string s0)]))
def fastjson_skipWS.h : Hints := ⟨[], [], [], []⟩
noncomputable def fastjson_skipWS.c : Code := (Tryz.f35.body).getD .skip
theorem fastjson_skipWS.e (s : ByteArray) : fnT Tryz.prog fastjson_skipWS.h Tryz.f35 fastjson_skipWS.c [.v (Value.string s)] = fastjson_skipWS.t s := by kernel_rfl
theorem fastjson_skipWS.calls (s : ByteArray) {w : World} {R : Ending → World → Prop} (hs : sat Tryz.prog (fastjson_skipWS.t s) (fun l vs w' => l = 0 ∧ R (.returned (retVal vs)) w') w) : Calls Tryz.prog 35 #[(Value.string s)] w R :=
  have h := calls_of_tree (w := w) (R := R) (args := [.v (Value.string s)]) (c := fastjson_skipWS.c) Tryz.func35 (show Tryz.f35.body = some fastjson_skipWS.c by kernel_rfl) (of_decide_eq_true (by kernel_rfl)) (fastjson_skipWS.e s) hs
  h

/-! ### (*pub-tetrapla/pub/fastjson.cache).reset : function 36 -/
def fastjson_cache_reset.t1 (c0 : (Option Addr)) (z1 : ((Option Addr) × (Nat × Nat))) (i2 : Int) : T :=
  .ite (decide (i2 < ((((z1).2).1 : Nat) : Int))) (
    .chk (((0 : Int) ≤ i2) ∧ (i2 < ((((z1).2).1 : Nat) : Int))) <|
    .ptr (z1).1 fun (z3 : Addr) =>
    .call 58 #[(Value.pointer (some (Addr.add z3 ((Int.toNat i2) * 5))))] (.tuple .nil) fun _ =>
    .leaf 1 [(Value.int IntKind.i64 (IntKind.wrap IntKind.i64 (i2 + (1 : Int))))]) (
    .chk (((0 : Int) ≤ (0 : Int)) ∧ (((0 : Int) ≤ (0 : Int)) ∧ ((0 : Int) ≤ ((((z1).2).2 : Nat) : Int)))) <|
    .ptr c0 fun (z4 : Addr) =>
    .store (Addr.add z4 0) (Value.slice (if (((z1).2).2 = 0) then (z1).1 else (Option.map (fun (y5 : Addr) => (Addr.add y5 0)) (z1).1)) 0 (((z1).2).2 - 0)) <|
    .leaf 0 [])
def fastjson_cache_reset.t (c0 : (Option Addr)) : T :=
  .ptr c0 fun (z0 : Addr) =>
  .load (Addr.add z0 0) .slice fun (z1 : ((Option Addr) × (Nat × Nat))) =>
  .loop 1 (.cons (.int .i64) .nil) [(Value.int IntKind.i64 (0 : Int))]
    (fun z => fastjson_cache_reset.t1 c0 z1 z.1)
def fastjson_cache_reset.h : Hints := ⟨[], [], [], [(2, [(10, (.int .i64))])]⟩
noncomputable def fastjson_cache_reset.c : Code := (Tryz.f36.body).getD .skip
theorem fastjson_cache_reset.e (c0 : (Option Addr)) : fnT Tryz.prog fastjson_cache_reset.h Tryz.f36 fastjson_cache_reset.c [.v (Value.pointer c0)] = fastjson_cache_reset.t c0 := by kernel_rfl
theorem fastjson_cache_reset.calls (c0 : (Option Addr)) {w : World} {R : Ending → World → Prop} (hs : sat Tryz.prog (fastjson_cache_reset.t c0) (fun l vs w' => l = 0 ∧ R (.returned (retVal vs)) w') w) : Calls Tryz.prog 36 #[(Value.pointer c0)] w R :=
  have h := calls_of_tree (w := w) (R := R) (args := [.v (Value.pointer c0)]) (c := fastjson_cache_reset.c) Tryz.func36 (show Tryz.f36.body = some fastjson_cache_reset.c by kernel_rfl) (of_decide_eq_true (by kernel_rfl)) (fastjson_cache_reset.e c0) hs
  h

/-! ### pub-tetrapla/pub/fastjson.b2s : function 37 -/
def fastjson_b2s.t (b : (Option Addr)) (b_len : Nat) (b_cap : Nat) : T :=
  .eff (convert 43 9 (Value.slice b b_len b_cap)) .str fun (s0 : ByteArray) =>
  .leaf 0 [(Value.string s0)]
def fastjson_b2s.h : Hints := ⟨[], [], [], []⟩
noncomputable def fastjson_b2s.c : Code := (Tryz.f37.body).getD .skip
theorem fastjson_b2s.e (b : (Option Addr)) (b_len : Nat) (b_cap : Nat) : fnT Tryz.prog fastjson_b2s.h Tryz.f37 fastjson_b2s.c [.v (Value.slice b b_len b_cap)] = fastjson_b2s.t b b_len b_cap := by kernel_rfl
theorem fastjson_b2s.calls (b : (Option Addr)) (b_len : Nat) (b_cap : Nat) {w : World} {R : Ending → World → Prop} (hs : sat Tryz.prog (fastjson_b2s.t b b_len b_cap) (fun l vs w' => l = 0 ∧ R (.returned (retVal vs)) w') w) : Calls Tryz.prog 37 #[(Value.slice b b_len b_cap)] w R :=
  have h := calls_of_tree (w := w) (R := R) (args := [.v (Value.slice b b_len b_cap)]) (c := fastjson_b2s.c) Tryz.func37 (show Tryz.f37.body = some fastjson_b2s.c by kernel_rfl) (of_decide_eq_true (by kernel_rfl)) (fastjson_b2s.e b b_len b_cap) hs
  h

/-! ### (*pub-tetrapla/pub/fastjson.cache).parseObject : function 44 -/
def fastjson_cache_parseObject.t3 (q0 : (Option Addr)) (q2 : Int) (p5 : (Option Addr)) (p10 : (Option Addr)) (s17 : ByteArray) (b18 : Bool) : T :=
  .ite b18 (
    .call 38 #[(Value.string (ByteArray.mk #[(109 : UInt8), (105 : UInt8), (115 : UInt8), (115 : UInt8), (105 : UInt8), (110 : UInt8), (103 : UInt8), (32 : UInt8), (39 : UInt8), (58 : UInt8), (39 : UInt8), (32 : UInt8), (97 : UInt8), (102 : UInt8), (116 : UInt8), (101 : UInt8), (114 : UInt8), (32 : UInt8), (111 : UInt8), (98 : UInt8), (106 : UInt8), (101 : UInt8), (99 : UInt8), (116 : UInt8), (32 : UInt8), (107 : UInt8), (101 : UInt8), (121 : UInt8)]))] .any fun (v19 : Value) =>
    .leaf 0 [(Value.pointer none), (Value.string s17), v19]) (
    .chk (((0 : Int) ≤ (1 : Int)) ∧ (((1 : Int) ≤ (((ByteArray.size s17) : Nat) : Int)) ∧ ((((ByteArray.size s17) : Nat) : Int) ≤ (((ByteArray.size s17) : Nat) : Int)))) <|
    .call 35 #[(Value.string (ByteArray.extract s17 1 (Int.toNat (((ByteArray.size s17) : Nat) : Int))))] .str fun (s20 : ByteArray) =>
    .call 27 #[(Value.pointer q0), (Value.string s20), (Value.int IntKind.i64 q2)] (.tuple (.cons .ptr (.cons .str (.cons .any .nil)))) fun (z21 : ((Option Addr) × (ByteArray × (Value × PUnit)))) =>
    .ptr p10 fun (z22 : Addr) =>
    .store (Addr.add z22 1) (Value.pointer (z21).1) <|
    .chk ((isIface (((z21).2).2).1) = Bool.true) <|
    .ite (!(isNil (((z21).2).2).1)) (
      .call 38 #[(Value.string (ByteArray.mk #[(99 : UInt8), (97 : UInt8), (110 : UInt8), (110 : UInt8), (111 : UInt8), (116 : UInt8), (32 : UInt8), (112 : UInt8), (97 : UInt8), (114 : UInt8), (115 : UInt8), (101 : UInt8), (32 : UInt8), (111 : UInt8), (98 : UInt8), (106 : UInt8), (101 : UInt8), (99 : UInt8), (116 : UInt8), (32 : UInt8), (118 : UInt8), (97 : UInt8), (108 : UInt8), (117 : UInt8), (101 : UInt8)]))] .any fun (v23 : Value) =>
      .leaf 0 [(Value.pointer none), (Value.string ((z21).2).1), v23]) (
      .call 35 #[(Value.string ((z21).2).1)] .str fun (s24 : ByteArray) =>
      .ite ((((ByteArray.size s24) : Nat) : Int) == (0 : Int)) (
        .call 38 #[(Value.string (ByteArray.mk #[(117 : UInt8), (110 : UInt8), (101 : UInt8), (120 : UInt8), (112 : UInt8), (101 : UInt8), (99 : UInt8), (116 : UInt8), (101 : UInt8), (100 : UInt8), (32 : UInt8), (101 : UInt8), (110 : UInt8), (100 : UInt8), (32 : UInt8), (111 : UInt8), (102 : UInt8), (32 : UInt8), (111 : UInt8), (98 : UInt8), (106 : UInt8), (101 : UInt8), (99 : UInt8), (116 : UInt8)]))] .any fun (v25 : Value) =>
        .leaf 0 [(Value.pointer none), (Value.string s24), v25]) (
        .chk (((0 : Int) ≤ (0 : Int)) ∧ ((0 : Int) < (((ByteArray.size s24) : Nat) : Int))) <|
        .ite ((bt s24 (0 : Int)) == (44 : Int)) (
          .chk (((0 : Int) ≤ (1 : Int)) ∧ (((1 : Int) ≤ (((ByteArray.size s24) : Nat) : Int)) ∧ ((((ByteArray.size s24) : Nat) : Int) ≤ (((ByteArray.size s24) : Nat) : Int)))) <|
          .leaf 1 [(Value.string (ByteArray.extract s24 1 (Int.toNat (((ByteArray.size s24) : Nat) : Int))))]) (
          .chk (((0 : Int) ≤ (0 : Int)) ∧ ((0 : Int) < (((ByteArray.size s24) : Nat) : Int))) <|
          .ite ((bt s24 (0 : Int)) == (125 : Int)) (
            .drew <|
            .chk (((0 : Int) ≤ (1 : Int)) ∧ (((1 : Int) ≤ (((ByteArray.size s24) : Nat) : Int)) ∧ ((((ByteArray.size s24) : Nat) : Int) ≤ (((ByteArray.size s24) : Nat) : Int)))) <|
            .leaf 0 [(Value.pointer p5), (Value.string (ByteArray.extract s24 1 (Int.toNat (((ByteArray.size s24) : Nat) : Int)))), Value.nilIface]) (
            .call 38 #[(Value.string (ByteArray.mk #[(109 : UInt8), (105 : UInt8), (115 : UInt8), (115 : UInt8), (105 : UInt8), (110 : UInt8), (103 : UInt8), (32 : UInt8), (39 : UInt8), (44 : UInt8), (39 : UInt8), (32 : UInt8), (97 : UInt8), (102 : UInt8), (116 : UInt8), (101 : UInt8), (114 : UInt8), (32 : UInt8), (111 : UInt8), (98 : UInt8), (106 : UInt8), (101 : UInt8), (99 : UInt8), (116 : UInt8), (32 : UInt8), (118 : UInt8), (97 : UInt8), (108 : UInt8), (117 : UInt8), (101 : UInt8)]))] .any fun (v26 : Value) =>
            .leaf 0 [(Value.pointer none), (Value.string s24), v26])))))
def fastjson_cache_parseObject.t2 (q0 : (Option Addr)) (q2 : Int) (p5 : (Option Addr)) (p10 : (Option Addr)) (s11 : ByteArray) (b12 : Bool) : T :=
  .ite b12 (
    .call 38 #[(Value.string (ByteArray.mk #[(99 : UInt8), (97 : UInt8), (110 : UInt8), (110 : UInt8), (111 : UInt8), (116 : UInt8), (32 : UInt8), (102 : UInt8), (105 : UInt8), (110 : UInt8), (100 : UInt8), (32 : UInt8), (111 : UInt8), (112 : UInt8), (101 : UInt8), (110 : UInt8), (105 : UInt8), (110 : UInt8), (103 : UInt8), (32 : UInt8), (39 : UInt8), (34 : UInt8), (34 : UInt8), (32 : UInt8), (102 : UInt8), (111 : UInt8), (114 : UInt8), (32 : UInt8), (111 : UInt8), (98 : UInt8), (106 : UInt8), (101 : UInt8), (99 : UInt8), (116 : UInt8), (32 : UInt8), (107 : UInt8), (101 : UInt8), (121 : UInt8)]))] .any fun (v13 : Value) =>
    .leaf 0 [(Value.pointer none), (Value.string s11), v13]) (
    .chk (((0 : Int) ≤ (1 : Int)) ∧ (((1 : Int) ≤ (((ByteArray.size s11) : Nat) : Int)) ∧ ((((ByteArray.size s11) : Nat) : Int) ≤ (((ByteArray.size s11) : Nat) : Int)))) <|
    .call 74 #[(Value.string (ByteArray.extract s11 1 (Int.toNat (((ByteArray.size s11) : Nat) : Int))))] (.tuple (.cons .str (.cons .str (.cons .any .nil)))) fun (z14 : (ByteArray × (ByteArray × (Value × PUnit)))) =>
    .ptr p10 fun (z15 : Addr) =>
    .store (Addr.add z15 0) (Value.string (z14).1) <|
    .chk ((isIface (((z14).2).2).1) = Bool.true) <|
    .ite (!(isNil (((z14).2).2).1)) (
      .call 38 #[(Value.string (ByteArray.mk #[(99 : UInt8), (97 : UInt8), (110 : UInt8), (110 : UInt8), (111 : UInt8), (116 : UInt8), (32 : UInt8), (112 : UInt8), (97 : UInt8), (114 : UInt8), (115 : UInt8), (101 : UInt8), (32 : UInt8), (111 : UInt8), (98 : UInt8), (106 : UInt8), (101 : UInt8), (99 : UInt8), (116 : UInt8), (32 : UInt8), (107 : UInt8), (101 : UInt8), (121 : UInt8)]))] .any fun (v16 : Value) =>
      .leaf 0 [(Value.pointer none), (Value.string ((z14).2).1), v16]) (
      .call 35 #[(Value.string ((z14).2).1)] .str fun (s17 : ByteArray) =>
      .cut 2 (.cons .bool .nil) (
        .ite ((((ByteArray.size s17) : Nat) : Int) == (0 : Int)) (
          .leaf 2 [(Value.bool Bool.true)]) (
          .chk (((0 : Int) ≤ (0 : Int)) ∧ ((0 : Int) < (((ByteArray.size s17) : Nat) : Int))) <|
          .leaf 2 [(Value.bool ((bt s17 (0 : Int)) != (58 : Int)))]))
        (fun z => fastjson_cache_parseObject.t3 q0 q2 p5 p10 s17 z.1)))
def fastjson_cache_parseObject.t1 (q0 : (Option Addr)) (q2 : Int) (p5 : (Option Addr)) (s8 : ByteArray) : T :=
  .ptr p5 fun (z9 : Addr) =>
  .call 73 #[(Value.pointer (some (Addr.add z9 0)))] .ptr fun (p10 : (Option Addr)) =>
  .call 35 #[(Value.string s8)] .str fun (s11 : ByteArray) =>
  .cut 2 (.cons .bool .nil) (
    .ite ((((ByteArray.size s11) : Nat) : Int) == (0 : Int)) (
      .leaf 2 [(Value.bool Bool.true)]) (
      .chk (((0 : Int) ≤ (0 : Int)) ∧ ((0 : Int) < (((ByteArray.size s11) : Nat) : Int))) <|
      .leaf 2 [(Value.bool ((bt s11 (0 : Int)) != (34 : Int)))]))
    (fun z => fastjson_cache_parseObject.t2 q0 q2 p5 p10 s11 z.1)
def fastjson_cache_parseObject.t (q0 : (Option Addr)) (q1 : ByteArray) (q2 : Int) : T :=
  .call 35 #[(Value.string q1)] .str fun (s0 : ByteArray) =>
  .ite ((((ByteArray.size s0) : Nat) : Int) == (0 : Int)) (
    .call 38 #[(Value.string (ByteArray.mk #[(109 : UInt8), (105 : UInt8), (115 : UInt8), (115 : UInt8), (105 : UInt8), (110 : UInt8), (103 : UInt8), (32 : UInt8), (39 : UInt8), (125 : UInt8)]))] .any fun (v1 : Value) =>
    .leaf 0 [(Value.pointer none), (Value.string s0), v1]) (
    .chk (((0 : Int) ≤ (0 : Int)) ∧ ((0 : Int) < (((ByteArray.size s0) : Nat) : Int))) <|
    .ite ((bt s0 (0 : Int)) == (125 : Int)) (
      .call 47 #[(Value.pointer q0)] .ptr fun (p2 : (Option Addr)) =>
      .ptr p2 fun (z3 : Addr) =>
      .store (Addr.add z3 4) (Value.int IntKind.i64 (1 : Int)) <|
      .ptr p2 fun (z4 : Addr) =>
      .call 72 #[(Value.pointer (some (Addr.add z4 0)))] (.tuple .nil) fun _ =>
      .drew <|
      .chk (((0 : Int) ≤ (1 : Int)) ∧ (((1 : Int) ≤ (((ByteArray.size s0) : Nat) : Int)) ∧ ((((ByteArray.size s0) : Nat) : Int) ≤ (((ByteArray.size s0) : Nat) : Int)))) <|
      .leaf 0 [(Value.pointer p2), (Value.string (ByteArray.extract s0 1 (Int.toNat (((ByteArray.size s0) : Nat) : Int)))), Value.nilIface]) (
      .call 47 #[(Value.pointer q0)] .ptr fun (p5 : (Option Addr)) =>
      .ptr p5 fun (z6 : Addr) =>
      .store (Addr.add z6 4) (Value.int IntKind.i64 (1 : Int)) <|
      .ptr p5 fun (z7 : Addr) =>
      .call 72 #[(Value.pointer (some (Addr.add z7 0)))] (.tuple .nil) fun _ =>
      .loop 1 (.cons .str .nil) [(Value.string s0)]
        (fun z => fastjson_cache_parseObject.t1 q0 q2 p5 z.1)))
def fastjson_cache_parseObject.h : Hints := ⟨[], [], [(15, [(57, .bool)]), (21, [(83, .bool)])], [(12, [(1, .str)])]⟩
noncomputable def fastjson_cache_parseObject.c : Code := (Tryz.f44.body).getD .skip
theorem fastjson_cache_parseObject.e (q0 : (Option Addr)) (q1 : ByteArray) (q2 : Int) : fnT Tryz.prog fastjson_cache_parseObject.h Tryz.f44 fastjson_cache_parseObject.c [.v (Value.pointer q0), .v (Value.string q1), .v (Value.int IntKind.i64 q2)] = fastjson_cache_parseObject.t q0 q1 q2 := by kernel_rfl
theorem fastjson_cache_parseObject.calls (q0 : (Option Addr)) (q1 : ByteArray) (q2 : Int) {w : World} {R : Ending → World → Prop} (hs : sat Tryz.prog (fastjson_cache_parseObject.t q0 q1 q2) (fun l vs w' => l = 0 ∧ R (.returned (retVal vs)) w') w) : Calls Tryz.prog 44 #[(Value.pointer q0), (Value.string q1), (Value.int IntKind.i64 q2)] w R :=
  have h := calls_of_tree (w := w) (R := R) (args := [.v (Value.pointer q0), .v (Value.string q1), .v (Value.int IntKind.i64 q2)]) (c := fastjson_cache_parseObject.c) Tryz.func44 (show Tryz.f44.body = some fastjson_cache_parseObject.c by kernel_rfl) (of_decide_eq_true (by kernel_rfl)) (fastjson_cache_parseObject.e q0 q1 q2) hs
  h

/-! ### (*pub-tetrapla/pub/fastjson.cache).parseArray : function 45 -/
def fastjson_cache_parseArray.t1 (q0 : (Option Addr)) (q2 : Int) (p8 : (Option Addr)) (s14 : ByteArray) : T :=
  .call 35 #[(Value.string s14)] .str fun (s15 : ByteArray) =>
  .call 27 #[(Value.pointer q0), (Value.string s15), (Value.int IntKind.i64 q2)] (.tuple (.cons .ptr (.cons .str (.cons .any .nil)))) fun (z16 : ((Option Addr) × (ByteArray × (Value × PUnit)))) =>
  .chk ((isIface (((z16).2).2).1) = Bool.true) <|
  .ite (!(isNil (((z16).2).2).1)) (
    .call 38 #[(Value.string (ByteArray.mk #[(99 : UInt8), (97 : UInt8), (110 : UInt8), (110 : UInt8), (111 : UInt8), (116 : UInt8), (32 : UInt8), (112 : UInt8), (97 : UInt8), (114 : UInt8), (115 : UInt8), (101 : UInt8), (32 : UInt8), (97 : UInt8), (114 : UInt8), (114 : UInt8), (97 : UInt8), (121 : UInt8), (32 : UInt8), (118 : UInt8), (97 : UInt8), (108 : UInt8), (117 : UInt8), (101 : UInt8)]))] .any fun (v17 : Value) =>
    .leaf 0 [(Value.pointer none), (Value.string ((z16).2).1), v17]) (
    .ptr p8 fun (z18 : Addr) =>
    .load (Addr.add z18 2) .slice fun (z19 : ((Option Addr) × (Nat × Nat))) =>
    .eff (Instr.buildSlice 70 1 #[(0, (Value.pointer (z16).1))]) .slice fun (z20 : ((Option Addr) × (Nat × Nat))) =>
    .eff (Builtin.append_ (Call.argTypes (Call.mk (Callee.builtin Builtin.append) #[(Operand.tmp 70), (Operand.tmp 72)] #[70, 70])) 70 #[(Value.slice (z19).1 ((z19).2).1 ((z19).2).2), (Value.slice (z20).1 ((z20).2).1 ((z20).2).2)]) .slice fun (z21 : ((Option Addr) × (Nat × Nat))) =>
    .ptr p8 fun (z22 : Addr) =>
    .store (Addr.add z22 2) (Value.slice (z21).1 ((z21).2).1 ((z21).2).2) <|
    .call 35 #[(Value.string ((z16).2).1)] .str fun (s23 : ByteArray) =>
    .ite ((((ByteArray.size s23) : Nat) : Int) == (0 : Int)) (
      .call 38 #[(Value.string (ByteArray.mk #[(117 : UInt8), (110 : UInt8), (101 : UInt8), (120 : UInt8), (112 : UInt8), (101 : UInt8), (99 : UInt8), (116 : UInt8), (101 : UInt8), (100 : UInt8), (32 : UInt8), (101 : UInt8), (110 : UInt8), (100 : UInt8), (32 : UInt8), (111 : UInt8), (102 : UInt8), (32 : UInt8), (97 : UInt8), (114 : UInt8), (114 : UInt8), (97 : UInt8), (121 : UInt8)]))] .any fun (v24 : Value) =>
      .leaf 0 [(Value.pointer none), (Value.string s23), v24]) (
      .chk (((0 : Int) ≤ (0 : Int)) ∧ ((0 : Int) < (((ByteArray.size s23) : Nat) : Int))) <|
      .ite ((bt s23 (0 : Int)) == (44 : Int)) (
        .chk (((0 : Int) ≤ (1 : Int)) ∧ (((1 : Int) ≤ (((ByteArray.size s23) : Nat) : Int)) ∧ ((((ByteArray.size s23) : Nat) : Int) ≤ (((ByteArray.size s23) : Nat) : Int)))) <|
        .leaf 1 [(Value.string (ByteArray.extract s23 1 (Int.toNat (((ByteArray.size s23) : Nat) : Int))))]) (
        .chk (((0 : Int) ≤ (0 : Int)) ∧ ((0 : Int) < (((ByteArray.size s23) : Nat) : Int))) <|
        .ite ((bt s23 (0 : Int)) == (93 : Int)) (
          .chk (((0 : Int) ≤ (1 : Int)) ∧ (((1 : Int) ≤ (((ByteArray.size s23) : Nat) : Int)) ∧ ((((ByteArray.size s23) : Nat) : Int) ≤ (((ByteArray.size s23) : Nat) : Int)))) <|
          .leaf 0 [(Value.pointer p8), (Value.string (ByteArray.extract s23 1 (Int.toNat (((ByteArray.size s23) : Nat) : Int)))), Value.nilIface]) (
          .call 38 #[(Value.string (ByteArray.mk #[(109 : UInt8), (105 : UInt8), (115 : UInt8), (115 : UInt8), (105 : UInt8), (110 : UInt8), (103 : UInt8), (32 : UInt8), (39 : UInt8), (44 : UInt8), (39 : UInt8), (32 : UInt8), (97 : UInt8), (102 : UInt8), (116 : UInt8), (101 : UInt8), (114 : UInt8), (32 : UInt8), (97 : UInt8), (114 : UInt8), (114 : UInt8), (97 : UInt8), (121 : UInt8), (32 : UInt8), (118 : UInt8), (97 : UInt8), (108 : UInt8), (117 : UInt8), (101 : UInt8)]))] .any fun (v25 : Value) =>
          .leaf 0 [(Value.pointer none), (Value.string s23), v25]))))
def fastjson_cache_parseArray.t (q0 : (Option Addr)) (q1 : ByteArray) (q2 : Int) : T :=
  .call 35 #[(Value.string q1)] .str fun (s0 : ByteArray) =>
  .ite ((((ByteArray.size s0) : Nat) : Int) == (0 : Int)) (
    .call 38 #[(Value.string (ByteArray.mk #[(109 : UInt8), (105 : UInt8), (115 : UInt8), (115 : UInt8), (105 : UInt8), (110 : UInt8), (103 : UInt8), (32 : UInt8), (39 : UInt8), (93 : UInt8)]))] .any fun (v1 : Value) =>
    .leaf 0 [(Value.pointer none), (Value.string s0), v1]) (
    .chk (((0 : Int) ≤ (0 : Int)) ∧ ((0 : Int) < (((ByteArray.size s0) : Nat) : Int))) <|
    .ite ((bt s0 (0 : Int)) == (93 : Int)) (
      .call 47 #[(Value.pointer q0)] .ptr fun (p2 : (Option Addr)) =>
      .ptr p2 fun (z3 : Addr) =>
      .store (Addr.add z3 4) (Value.int IntKind.i64 (2 : Int)) <|
      .ptr p2 fun (z4 : Addr) =>
      .load (Addr.add z4 2) .slice fun (z5 : ((Option Addr) × (Nat × Nat))) =>
      .chk (((0 : Int) ≤ (0 : Int)) ∧ (((0 : Int) ≤ (0 : Int)) ∧ ((0 : Int) ≤ ((((z5).2).2 : Nat) : Int)))) <|
      .ptr p2 fun (z6 : Addr) =>
      .store (Addr.add z6 2) (Value.slice (if (((z5).2).2 = 0) then (z5).1 else (Option.map (fun (y7 : Addr) => (Addr.add y7 0)) (z5).1)) 0 (((z5).2).2 - 0)) <|
      .drew <|
      .chk (((0 : Int) ≤ (1 : Int)) ∧ (((1 : Int) ≤ (((ByteArray.size s0) : Nat) : Int)) ∧ ((((ByteArray.size s0) : Nat) : Int) ≤ (((ByteArray.size s0) : Nat) : Int)))) <|
      .leaf 0 [(Value.pointer p2), (Value.string (ByteArray.extract s0 1 (Int.toNat (((ByteArray.size s0) : Nat) : Int)))), Value.nilIface]) (
      .call 47 #[(Value.pointer q0)] .ptr fun (p8 : (Option Addr)) =>
      .ptr p8 fun (z9 : Addr) =>
      .store (Addr.add z9 4) (Value.int IntKind.i64 (2 : Int)) <|
      .ptr p8 fun (z10 : Addr) =>
      .load (Addr.add z10 2) .slice fun (z11 : ((Option Addr) × (Nat × Nat))) =>
      .chk (((0 : Int) ≤ (0 : Int)) ∧ (((0 : Int) ≤ (0 : Int)) ∧ ((0 : Int) ≤ ((((z11).2).2 : Nat) : Int)))) <|
      .ptr p8 fun (z12 : Addr) =>
      .store (Addr.add z12 2) (Value.slice (if (((z11).2).2 = 0) then (z11).1 else (Option.map (fun (y13 : Addr) => (Addr.add y13 0)) (z11).1)) 0 (((z11).2).2 - 0)) <|
      .loop 1 (.cons .str .nil) [(Value.string s0)]
        (fun z => fastjson_cache_parseArray.t1 q0 q2 p8 z.1)))
def fastjson_cache_parseArray.h : Hints := ⟨[], [], [], [(12, [(1, .str)])]⟩
noncomputable def fastjson_cache_parseArray.c : Code := (Tryz.f45.body).getD .skip
theorem fastjson_cache_parseArray.e (q0 : (Option Addr)) (q1 : ByteArray) (q2 : Int) : fnT Tryz.prog fastjson_cache_parseArray.h Tryz.f45 fastjson_cache_parseArray.c [.v (Value.pointer q0), .v (Value.string q1), .v (Value.int IntKind.i64 q2)] = fastjson_cache_parseArray.t q0 q1 q2 := by kernel_rfl
theorem fastjson_cache_parseArray.calls (q0 : (Option Addr)) (q1 : ByteArray) (q2 : Int) {w : World} {R : Ending → World → Prop} (hs : sat Tryz.prog (fastjson_cache_parseArray.t q0 q1 q2) (fun l vs w' => l = 0 ∧ R (.returned (retVal vs)) w') w) : Calls Tryz.prog 45 #[(Value.pointer q0), (Value.string q1), (Value.int IntKind.i64 q2)] w R :=
  have h := calls_of_tree (w := w) (R := R) (args := [.v (Value.pointer q0), .v (Value.string q1), .v (Value.int IntKind.i64 q2)]) (c := fastjson_cache_parseArray.c) Tryz.func45 (show Tryz.f45.body = some fastjson_cache_parseArray.c by kernel_rfl) (of_decide_eq_true (by kernel_rfl)) (fastjson_cache_parseArray.e q0 q1 q2) hs
  h

/-! ### pub-tetrapla/pub/fastjson.parseRawString : function 46 -/
def fastjson_parseRawString.t4 (q0 : ByteArray) (i3 : Int) (s4 : ByteArray) (i6 : Int) (b8 : Bool) : T :=
  .ite b8 (
    .drew <|
    .chk (((0 : Int) ≤ (0 : Int)) ∧ (((0 : Int) ≤ (IntKind.wrap IntKind.i64 ((IntKind.wrap IntKind.i64 ((((ByteArray.size q0) : Nat) : Int) - (((ByteArray.size (ByteArray.extract s4 (Int.toNat (IntKind.wrap IntKind.i64 (i3 + (1 : Int)))) (Int.toNat (((ByteArray.size s4) : Nat) : Int)))) : Nat) : Int))) + i6))) ∧ ((IntKind.wrap IntKind.i64 ((IntKind.wrap IntKind.i64 ((((ByteArray.size q0) : Nat) : Int) - (((ByteArray.size (ByteArray.extract s4 (Int.toNat (IntKind.wrap IntKind.i64 (i3 + (1 : Int)))) (Int.toNat (((ByteArray.size s4) : Nat) : Int)))) : Nat) : Int))) + i6)) ≤ (((ByteArray.size q0) : Nat) : Int)))) <|
    .chk (((0 : Int) ≤ (IntKind.wrap IntKind.i64 (i6 + (1 : Int)))) ∧ (((IntKind.wrap IntKind.i64 (i6 + (1 : Int))) ≤ (((ByteArray.size (ByteArray.extract s4 (Int.toNat (IntKind.wrap IntKind.i64 (i3 + (1 : Int)))) (Int.toNat (((ByteArray.size s4) : Nat) : Int)))) : Nat) : Int)) ∧ ((((ByteArray.size (ByteArray.extract s4 (Int.toNat (IntKind.wrap IntKind.i64 (i3 + (1 : Int)))) (Int.toNat (((ByteArray.size s4) : Nat) : Int)))) : Nat) : Int) ≤ (((ByteArray.size (ByteArray.extract s4 (Int.toNat (IntKind.wrap IntKind.i64 (i3 + (1 : Int)))) (Int.toNat (((ByteArray.size s4) : Nat) : Int)))) : Nat) : Int)))) <|
    .leaf 0 [(Value.string (ByteArray.extract q0 0 (Int.toNat (IntKind.wrap IntKind.i64 ((IntKind.wrap IntKind.i64 ((((ByteArray.size q0) : Nat) : Int) - (((ByteArray.size (ByteArray.extract s4 (Int.toNat (IntKind.wrap IntKind.i64 (i3 + (1 : Int)))) (Int.toNat (((ByteArray.size s4) : Nat) : Int)))) : Nat) : Int))) + i6))))), (Value.string (ByteArray.extract (ByteArray.extract s4 (Int.toNat (IntKind.wrap IntKind.i64 (i3 + (1 : Int)))) (Int.toNat (((ByteArray.size s4) : Nat) : Int))) (Int.toNat (IntKind.wrap IntKind.i64 (i6 + (1 : Int)))) (Int.toNat (((ByteArray.size (ByteArray.extract s4 (Int.toNat (IntKind.wrap IntKind.i64 (i3 + (1 : Int)))) (Int.toNat (((ByteArray.size s4) : Nat) : Int)))) : Nat) : Int)))), Value.nilIface]) (
    .leaf 1 [(Value.int IntKind.i64 i6), (Value.string (ByteArray.extract s4 (Int.toNat (IntKind.wrap IntKind.i64 (i3 + (1 : Int)))) (Int.toNat (((ByteArray.size s4) : Nat) : Int))))])
def fastjson_parseRawString.t5 (q0 : ByteArray) (i3 : Int) (s4 : ByteArray) (i9 : Int) (b11 : Bool) : T :=
  .ite b11 (
    .drew <|
    .chk (((0 : Int) ≤ (0 : Int)) ∧ (((0 : Int) ≤ (IntKind.wrap IntKind.i64 ((IntKind.wrap IntKind.i64 ((((ByteArray.size q0) : Nat) : Int) - (((ByteArray.size (ByteArray.extract s4 (Int.toNat (IntKind.wrap IntKind.i64 (i3 + (1 : Int)))) (Int.toNat (((ByteArray.size s4) : Nat) : Int)))) : Nat) : Int))) + i9))) ∧ ((IntKind.wrap IntKind.i64 ((IntKind.wrap IntKind.i64 ((((ByteArray.size q0) : Nat) : Int) - (((ByteArray.size (ByteArray.extract s4 (Int.toNat (IntKind.wrap IntKind.i64 (i3 + (1 : Int)))) (Int.toNat (((ByteArray.size s4) : Nat) : Int)))) : Nat) : Int))) + i9)) ≤ (((ByteArray.size q0) : Nat) : Int)))) <|
    .chk (((0 : Int) ≤ (IntKind.wrap IntKind.i64 (i9 + (1 : Int)))) ∧ (((IntKind.wrap IntKind.i64 (i9 + (1 : Int))) ≤ (((ByteArray.size (ByteArray.extract s4 (Int.toNat (IntKind.wrap IntKind.i64 (i3 + (1 : Int)))) (Int.toNat (((ByteArray.size s4) : Nat) : Int)))) : Nat) : Int)) ∧ ((((ByteArray.size (ByteArray.extract s4 (Int.toNat (IntKind.wrap IntKind.i64 (i3 + (1 : Int)))) (Int.toNat (((ByteArray.size s4) : Nat) : Int)))) : Nat) : Int) ≤ (((ByteArray.size (ByteArray.extract s4 (Int.toNat (IntKind.wrap IntKind.i64 (i3 + (1 : Int)))) (Int.toNat (((ByteArray.size s4) : Nat) : Int)))) : Nat) : Int)))) <|
    .leaf 0 [(Value.string (ByteArray.extract q0 0 (Int.toNat (IntKind.wrap IntKind.i64 ((IntKind.wrap IntKind.i64 ((((ByteArray.size q0) : Nat) : Int) - (((ByteArray.size (ByteArray.extract s4 (Int.toNat (IntKind.wrap IntKind.i64 (i3 + (1 : Int)))) (Int.toNat (((ByteArray.size s4) : Nat) : Int)))) : Nat) : Int))) + i9))))), (Value.string (ByteArray.extract (ByteArray.extract s4 (Int.toNat (IntKind.wrap IntKind.i64 (i3 + (1 : Int)))) (Int.toNat (((ByteArray.size s4) : Nat) : Int))) (Int.toNat (IntKind.wrap IntKind.i64 (i9 + (1 : Int)))) (Int.toNat (((ByteArray.size (ByteArray.extract s4 (Int.toNat (IntKind.wrap IntKind.i64 (i3 + (1 : Int)))) (Int.toNat (((ByteArray.size s4) : Nat) : Int)))) : Nat) : Int)))), Value.nilIface]) (
    .leaf 1 [(Value.int IntKind.i64 i9), (Value.string (ByteArray.extract s4 (Int.toNat (IntKind.wrap IntKind.i64 (i3 + (1 : Int)))) (Int.toNat (((ByteArray.size s4) : Nat) : Int))))])
def fastjson_parseRawString.t3 (q0 : ByteArray) (i3 : Int) (s4 : ByteArray) (i5 : Int) : T :=
  .ite (decide (i5 > (0 : Int))) (
    .chk (((0 : Int) ≤ (IntKind.wrap IntKind.i64 (i5 - (1 : Int)))) ∧ ((IntKind.wrap IntKind.i64 (i5 - (1 : Int))) < (((ByteArray.size s4) : Nat) : Int))) <|
    .ite ((bt s4 (IntKind.wrap IntKind.i64 (i5 - (1 : Int)))) == (92 : Int)) (
      .leaf 2 [(Value.int IntKind.i64 (IntKind.wrap IntKind.i64 (i5 - (1 : Int))))]) (
      .chk ((2 : Int) ≠ (0 : Int)) <|
      .ite ((Int.tmod (IntKind.wrap IntKind.u64 (IntKind.wrap IntKind.i64 (i3 - i5))) (2 : Int)) == (0 : Int)) (
        .drew <|
        .chk (((0 : Int) ≤ (0 : Int)) ∧ (((0 : Int) ≤ (IntKind.wrap IntKind.i64 ((IntKind.wrap IntKind.i64 ((((ByteArray.size q0) : Nat) : Int) - (((ByteArray.size s4) : Nat) : Int))) + i3))) ∧ ((IntKind.wrap IntKind.i64 ((IntKind.wrap IntKind.i64 ((((ByteArray.size q0) : Nat) : Int) - (((ByteArray.size s4) : Nat) : Int))) + i3)) ≤ (((ByteArray.size q0) : Nat) : Int)))) <|
        .chk (((0 : Int) ≤ (IntKind.wrap IntKind.i64 (i3 + (1 : Int)))) ∧ (((IntKind.wrap IntKind.i64 (i3 + (1 : Int))) ≤ (((ByteArray.size s4) : Nat) : Int)) ∧ ((((ByteArray.size s4) : Nat) : Int) ≤ (((ByteArray.size s4) : Nat) : Int)))) <|
        .leaf 0 [(Value.string (ByteArray.extract q0 0 (Int.toNat (IntKind.wrap IntKind.i64 ((IntKind.wrap IntKind.i64 ((((ByteArray.size q0) : Nat) : Int) - (((ByteArray.size s4) : Nat) : Int))) + i3))))), (Value.string (ByteArray.extract s4 (Int.toNat (IntKind.wrap IntKind.i64 (i3 + (1 : Int)))) (Int.toNat (((ByteArray.size s4) : Nat) : Int)))), Value.nilIface]) (
        .chk (((0 : Int) ≤ (IntKind.wrap IntKind.i64 (i3 + (1 : Int)))) ∧ (((IntKind.wrap IntKind.i64 (i3 + (1 : Int))) ≤ (((ByteArray.size s4) : Nat) : Int)) ∧ ((((ByteArray.size s4) : Nat) : Int) ≤ (((ByteArray.size s4) : Nat) : Int)))) <|
        .call 75 #[(Value.string (ByteArray.extract s4 (Int.toNat (IntKind.wrap IntKind.i64 (i3 + (1 : Int)))) (Int.toNat (((ByteArray.size s4) : Nat) : Int)))), (Value.int IntKind.u8 (34 : Int))] (.int .i64) fun (i6 : Int) =>
        .ite (decide (i6 < (0 : Int))) (
          .call 38 #[(Value.string (ByteArray.mk #[(109 : UInt8), (105 : UInt8), (115 : UInt8), (115 : UInt8), (105 : UInt8), (110 : UInt8), (103 : UInt8), (32 : UInt8), (99 : UInt8), (108 : UInt8), (111 : UInt8), (115 : UInt8), (105 : UInt8), (110 : UInt8), (103 : UInt8)]))] .any fun (v7 : Value) =>
          .leaf 0 [(Value.string q0), (Value.string (ByteArray.mk #[])), v7]) (
          .cut 2 (.cons .bool .nil) (
            .ite (i6 == (0 : Int)) (
              .leaf 2 [(Value.bool Bool.true)]) (
              .chk (((0 : Int) ≤ (IntKind.wrap IntKind.i64 (i6 - (1 : Int)))) ∧ ((IntKind.wrap IntKind.i64 (i6 - (1 : Int))) < (((ByteArray.size (ByteArray.extract s4 (Int.toNat (IntKind.wrap IntKind.i64 (i3 + (1 : Int)))) (Int.toNat (((ByteArray.size s4) : Nat) : Int)))) : Nat) : Int))) <|
              .leaf 2 [(Value.bool ((bt (ByteArray.extract s4 (Int.toNat (IntKind.wrap IntKind.i64 (i3 + (1 : Int)))) (Int.toNat (((ByteArray.size s4) : Nat) : Int))) (IntKind.wrap IntKind.i64 (i6 - (1 : Int)))) != (92 : Int)))]))
            (fun z => fastjson_parseRawString.t4 q0 i3 s4 i6 z.1))))) (
    .chk ((2 : Int) ≠ (0 : Int)) <|
    .ite ((Int.tmod (IntKind.wrap IntKind.u64 (IntKind.wrap IntKind.i64 (i3 - i5))) (2 : Int)) == (0 : Int)) (
      .drew <|
      .chk (((0 : Int) ≤ (0 : Int)) ∧ (((0 : Int) ≤ (IntKind.wrap IntKind.i64 ((IntKind.wrap IntKind.i64 ((((ByteArray.size q0) : Nat) : Int) - (((ByteArray.size s4) : Nat) : Int))) + i3))) ∧ ((IntKind.wrap IntKind.i64 ((IntKind.wrap IntKind.i64 ((((ByteArray.size q0) : Nat) : Int) - (((ByteArray.size s4) : Nat) : Int))) + i3)) ≤ (((ByteArray.size q0) : Nat) : Int)))) <|
      .chk (((0 : Int) ≤ (IntKind.wrap IntKind.i64 (i3 + (1 : Int)))) ∧ (((IntKind.wrap IntKind.i64 (i3 + (1 : Int))) ≤ (((ByteArray.size s4) : Nat) : Int)) ∧ ((((ByteArray.size s4) : Nat) : Int) ≤ (((ByteArray.size s4) : Nat) : Int)))) <|
      .leaf 0 [(Value.string (ByteArray.extract q0 0 (Int.toNat (IntKind.wrap IntKind.i64 ((IntKind.wrap IntKind.i64 ((((ByteArray.size q0) : Nat) : Int) - (((ByteArray.size s4) : Nat) : Int))) + i3))))), (Value.string (ByteArray.extract s4 (Int.toNat (IntKind.wrap IntKind.i64 (i3 + (1 : Int)))) (Int.toNat (((ByteArray.size s4) : Nat) : Int)))), Value.nilIface]) (
      .chk (((0 : Int) ≤ (IntKind.wrap IntKind.i64 (i3 + (1 : Int)))) ∧ (((IntKind.wrap IntKind.i64 (i3 + (1 : Int))) ≤ (((ByteArray.size s4) : Nat) : Int)) ∧ ((((ByteArray.size s4) : Nat) : Int) ≤ (((ByteArray.size s4) : Nat) : Int)))) <|
      .call 75 #[(Value.string (ByteArray.extract s4 (Int.toNat (IntKind.wrap IntKind.i64 (i3 + (1 : Int)))) (Int.toNat (((ByteArray.size s4) : Nat) : Int)))), (Value.int IntKind.u8 (34 : Int))] (.int .i64) fun (i9 : Int) =>
      .ite (decide (i9 < (0 : Int))) (
        .call 38 #[(Value.string (ByteArray.mk #[(109 : UInt8), (105 : UInt8), (115 : UInt8), (115 : UInt8), (105 : UInt8), (110 : UInt8), (103 : UInt8), (32 : UInt8), (99 : UInt8), (108 : UInt8), (111 : UInt8), (115 : UInt8), (105 : UInt8), (110 : UInt8), (103 : UInt8)]))] .any fun (v10 : Value) =>
        .leaf 0 [(Value.string q0), (Value.string (ByteArray.mk #[])), v10]) (
        .cut 2 (.cons .bool .nil) (
          .ite (i9 == (0 : Int)) (
            .leaf 2 [(Value.bool Bool.true)]) (
            .chk (((0 : Int) ≤ (IntKind.wrap IntKind.i64 (i9 - (1 : Int)))) ∧ ((IntKind.wrap IntKind.i64 (i9 - (1 : Int))) < (((ByteArray.size (ByteArray.extract s4 (Int.toNat (IntKind.wrap IntKind.i64 (i3 + (1 : Int)))) (Int.toNat (((ByteArray.size s4) : Nat) : Int)))) : Nat) : Int))) <|
            .leaf 2 [(Value.bool ((bt (ByteArray.extract s4 (Int.toNat (IntKind.wrap IntKind.i64 (i3 + (1 : Int)))) (Int.toNat (((ByteArray.size s4) : Nat) : Int))) (IntKind.wrap IntKind.i64 (i9 - (1 : Int)))) != (92 : Int)))]))
          (fun z => fastjson_parseRawString.t5 q0 i3 s4 i9 z.1))))
def fastjson_parseRawString.t2 (q0 : ByteArray) (i3 : Int) (s4 : ByteArray) : T :=
  .loop 2 (.cons (.int .i64) .nil) [(Value.int IntKind.i64 (IntKind.wrap IntKind.i64 (i3 - (1 : Int))))]
    (fun z => fastjson_parseRawString.t3 q0 i3 s4 z.1)
def fastjson_parseRawString.t1 (q0 : ByteArray) (i0 : Int) (b2 : Bool) : T :=
  .ite b2 (
    .drew <|
    .chk (((0 : Int) ≤ (0 : Int)) ∧ (((0 : Int) ≤ i0) ∧ (i0 ≤ (((ByteArray.size q0) : Nat) : Int)))) <|
    .chk (((0 : Int) ≤ (IntKind.wrap IntKind.i64 (i0 + (1 : Int)))) ∧ (((IntKind.wrap IntKind.i64 (i0 + (1 : Int))) ≤ (((ByteArray.size q0) : Nat) : Int)) ∧ ((((ByteArray.size q0) : Nat) : Int) ≤ (((ByteArray.size q0) : Nat) : Int)))) <|
    .leaf 0 [(Value.string (ByteArray.extract q0 0 (Int.toNat i0))), (Value.string (ByteArray.extract q0 (Int.toNat (IntKind.wrap IntKind.i64 (i0 + (1 : Int)))) (Int.toNat (((ByteArray.size q0) : Nat) : Int)))), Value.nilIface]) (
    .loop 1 (.cons (.int .i64) (.cons .str .nil)) [(Value.int IntKind.i64 i0), (Value.string q0)]
      (fun z => fastjson_parseRawString.t2 q0 z.1 z.2.1))
def fastjson_parseRawString.t (q0 : ByteArray) : T :=
  .call 75 #[(Value.string q0), (Value.int IntKind.u8 (34 : Int))] (.int .i64) fun (i0 : Int) =>
  .ite (decide (i0 < (0 : Int))) (
    .call 38 #[(Value.string (ByteArray.mk #[(109 : UInt8), (105 : UInt8), (115 : UInt8), (115 : UInt8), (105 : UInt8), (110 : UInt8), (103 : UInt8), (32 : UInt8), (99 : UInt8), (108 : UInt8), (111 : UInt8), (115 : UInt8), (105 : UInt8), (110 : UInt8), (103 : UInt8)]))] .any fun (v1 : Value) =>
    .leaf 0 [(Value.string q0), (Value.string (ByteArray.mk #[])), v1]) (
    .cut 1 (.cons .bool .nil) (
      .ite (i0 == (0 : Int)) (
        .leaf 1 [(Value.bool Bool.true)]) (
        .chk (((0 : Int) ≤ (IntKind.wrap IntKind.i64 (i0 - (1 : Int)))) ∧ ((IntKind.wrap IntKind.i64 (i0 - (1 : Int))) < (((ByteArray.size q0) : Nat) : Int))) <|
        .leaf 1 [(Value.bool ((bt q0 (IntKind.wrap IntKind.i64 (i0 - (1 : Int)))) != (92 : Int)))]))
      (fun z => fastjson_parseRawString.t1 q0 i0 z.1))
def fastjson_parseRawString.h : Hints := ⟨[], [], [(4, [(22, .bool)]), (16, [(81, .bool)])], [(7, [(5, (.int .i64)), (0, .str)]), (8, [(7, (.int .i64))])]⟩
noncomputable def fastjson_parseRawString.c : Code := (Tryz.f46.body).getD .skip
theorem fastjson_parseRawString.e (q0 : ByteArray) : fnT Tryz.prog fastjson_parseRawString.h Tryz.f46 fastjson_parseRawString.c [.v (Value.string q0)] = fastjson_parseRawString.t q0 := by kernel_rfl
theorem fastjson_parseRawString.calls (q0 : ByteArray) {w : World} {R : Ending → World → Prop} (hs : sat Tryz.prog (fastjson_parseRawString.t q0) (fun l vs w' => l = 0 ∧ R (.returned (retVal vs)) w') w) : Calls Tryz.prog 46 #[(Value.string q0)] w R :=
  have h := calls_of_tree (w := w) (R := R) (args := [.v (Value.string q0)]) (c := fastjson_parseRawString.c) Tryz.func46 (show Tryz.f46.body = some fastjson_parseRawString.c by kernel_rfl) (of_decide_eq_true (by kernel_rfl)) (fastjson_parseRawString.e q0) hs
  h

/-! ### (*pub-tetrapla/pub/fastjson.cache).getValue : function 47 -/
def fastjson_cache_getValue.t (c0 : (Option Addr)) : T :=
  .drew <|
  .ptr c0 fun (z0 : Addr) =>
  .load (Addr.add z0 0) .slice fun (z1 : ((Option Addr) × (Nat × Nat))) =>
  .ptr c0 fun (z2 : Addr) =>
  .load (Addr.add z2 0) .slice fun (z3 : ((Option Addr) × (Nat × Nat))) =>
  .ite (decide (((((z1).2).2 : Nat) : Int) > ((((z3).2).1 : Nat) : Int))) (
    .drew <|
    .ptr c0 fun (z4 : Addr) =>
    .load (Addr.add z4 0) .slice fun (z5 : ((Option Addr) × (Nat × Nat))) =>
    .ptr c0 fun (z6 : Addr) =>
    .load (Addr.add z6 0) .slice fun (z7 : ((Option Addr) × (Nat × Nat))) =>
    .chk (((0 : Int) ≤ (0 : Int)) ∧ (((0 : Int) ≤ (IntKind.wrap IntKind.i64 (((((z7).2).1 : Nat) : Int) + (1 : Int)))) ∧ ((IntKind.wrap IntKind.i64 (((((z7).2).1 : Nat) : Int) + (1 : Int))) ≤ ((((z5).2).2 : Nat) : Int)))) <|
    .ptr c0 fun (z8 : Addr) =>
    .store (Addr.add z8 0) (Value.slice (if (((z5).2).2 = 0) then (z5).1 else (Option.map (fun (y9 : Addr) => (Addr.add y9 0)) (z5).1)) ((Int.toNat (IntKind.wrap IntKind.i64 (((((z7).2).1 : Nat) : Int) + (1 : Int)))) - 0) (((z5).2).2 - 0)) <|
    .drew <|
    .ptr c0 fun (z10 : Addr) =>
    .load (Addr.add z10 0) .slice fun (z11 : ((Option Addr) × (Nat × Nat))) =>
    .ptr c0 fun (z12 : Addr) =>
    .load (Addr.add z12 0) .slice fun (z13 : ((Option Addr) × (Nat × Nat))) =>
    .chk (((0 : Int) ≤ (IntKind.wrap IntKind.i64 (((((z13).2).1 : Nat) : Int) - (1 : Int)))) ∧ ((IntKind.wrap IntKind.i64 (((((z13).2).1 : Nat) : Int) - (1 : Int))) < ((((z11).2).1 : Nat) : Int))) <|
    .ptr (z11).1 fun (z14 : Addr) =>
    .leaf 0 [(Value.pointer (some (Addr.add z14 ((Int.toNat (IntKind.wrap IntKind.i64 (((((z13).2).1 : Nat) : Int) - (1 : Int)))) * 5))))]) (
    .ptr c0 fun (z15 : Addr) =>
    .load (Addr.add z15 0) .slice fun (z16 : ((Option Addr) × (Nat × Nat))) =>
    .eff (Instr.buildSlice 44 1 #[(0, (Value.agg #[(Value.slice none 0 0), (Value.bool Bool.false), (Value.slice none 0 0), (Value.string (ByteArray.mk #[])), (Value.int IntKind.i64 (0 : Int))]))]) .slice fun (z17 : ((Option Addr) × (Nat × Nat))) =>
    .eff (Builtin.append_ (Call.argTypes (Call.mk (Callee.builtin Builtin.append) #[(Operand.tmp 32), (Operand.tmp 34)] #[44, 44])) 44 #[(Value.slice (z16).1 ((z16).2).1 ((z16).2).2), (Value.slice (z17).1 ((z17).2).1 ((z17).2).2)]) .slice fun (z18 : ((Option Addr) × (Nat × Nat))) =>
    .ptr c0 fun (z19 : Addr) =>
    .store (Addr.add z19 0) (Value.slice (z18).1 ((z18).2).1 ((z18).2).2) <|
    .drew <|
    .ptr c0 fun (z20 : Addr) =>
    .load (Addr.add z20 0) .slice fun (z21 : ((Option Addr) × (Nat × Nat))) =>
    .ptr c0 fun (z22 : Addr) =>
    .load (Addr.add z22 0) .slice fun (z23 : ((Option Addr) × (Nat × Nat))) =>
    .chk (((0 : Int) ≤ (IntKind.wrap IntKind.i64 (((((z23).2).1 : Nat) : Int) - (1 : Int)))) ∧ ((IntKind.wrap IntKind.i64 (((((z23).2).1 : Nat) : Int) - (1 : Int))) < ((((z21).2).1 : Nat) : Int))) <|
    .ptr (z21).1 fun (z24 : Addr) =>
    .leaf 0 [(Value.pointer (some (Addr.add z24 ((Int.toNat (IntKind.wrap IntKind.i64 (((((z23).2).1 : Nat) : Int) - (1 : Int)))) * 5))))])
def fastjson_cache_getValue.h : Hints := ⟨[], [], [], []⟩
noncomputable def fastjson_cache_getValue.c : Code := (Tryz.f47.body).getD .skip
theorem fastjson_cache_getValue.e (c0 : (Option Addr)) : fnT Tryz.prog fastjson_cache_getValue.h Tryz.f47 fastjson_cache_getValue.c [.v (Value.pointer c0)] = fastjson_cache_getValue.t c0 := by kernel_rfl
theorem fastjson_cache_getValue.calls (c0 : (Option Addr)) {w : World} {R : Ending → World → Prop} (hs : sat Tryz.prog (fastjson_cache_getValue.t c0) (fun l vs w' => l = 0 ∧ R (.returned (retVal vs)) w') w) : Calls Tryz.prog 47 #[(Value.pointer c0)] w R :=
  have h := calls_of_tree (w := w) (R := R) (args := [.v (Value.pointer c0)]) (c := fastjson_cache_getValue.c) Tryz.func47 (show Tryz.f47.body = some fastjson_cache_getValue.c by kernel_rfl) (of_decide_eq_true (by kernel_rfl)) (fastjson_cache_getValue.e c0) hs
  h

/-! ### pub-tetrapla/pub/fastjson.zzFold : function 48 -/
def fastjson_zzFold.t2 (s : ByteArray) (word : ByteArray) (i0 : Int) (b1 : Bool) : T :=
  .ite b1 (
    .chk (((0 : Int) ≤ i0) ∧ (i0 < (((ByteArray.size word) : Nat) : Int))) <|
    .ite ((IntKind.wrap IntKind.u8 ((bt s i0) + (32 : Int))) != (bt word i0)) (
      .leaf 0 [(Value.bool Bool.false)]) (
      .leaf 1 [(Value.int IntKind.i64 (IntKind.wrap IntKind.i64 (i0 + (1 : Int))))])) (
    .chk (((0 : Int) ≤ i0) ∧ (i0 < (((ByteArray.size word) : Nat) : Int))) <|
    .ite ((bt s i0) != (bt word i0)) (
      .leaf 0 [(Value.bool Bool.false)]) (
      .leaf 1 [(Value.int IntKind.i64 (IntKind.wrap IntKind.i64 (i0 + (1 : Int))))]))
def fastjson_zzFold.t1 (s : ByteArray) (word : ByteArray) (i0 : Int) : T :=
  .ite (decide (i0 < (((ByteArray.size s) : Nat) : Int))) (
    .chk (((0 : Int) ≤ i0) ∧ (i0 < (((ByteArray.size s) : Nat) : Int))) <|
    .cut 2 (.cons .bool .nil) (
      .ite (decide ((65 : Int) ≤ (bt s i0))) (
        .leaf 2 [(Value.bool (decide ((bt s i0) ≤ (90 : Int))))]) (
        .leaf 2 [(Value.bool Bool.false)]))
      (fun z => fastjson_zzFold.t2 s word i0 z.1)) (
    .leaf 0 [(Value.bool Bool.true)])
def fastjson_zzFold.t (s : ByteArray) (word : ByteArray) : T :=
  .ite ((((ByteArray.size s) : Nat) : Int) != (((ByteArray.size word) : Nat) : Int)) (
    .leaf 0 [(Value.bool Bool.false)]) (
    .loop 1 (.cons (.int .i64) .nil) [(Value.int IntKind.i64 (0 : Int))]
      (fun z => fastjson_zzFold.t1 s word z.1))
def fastjson_zzFold.h : Hints := ⟨[], [], [(7, [(26, .bool)])], [(4, [(5, (.int .i64))])]⟩
noncomputable def fastjson_zzFold.c : Code := (Tryz.f48.body).getD .skip
theorem fastjson_zzFold.e (s : ByteArray) (word : ByteArray) : fnT Tryz.prog fastjson_zzFold.h Tryz.f48 fastjson_zzFold.c [.v (Value.string s), .v (Value.string word)] = fastjson_zzFold.t s word := by kernel_rfl
theorem fastjson_zzFold.calls (s : ByteArray) (word : ByteArray) {w : World} {R : Ending → World → Prop} (hs : sat Tryz.prog (fastjson_zzFold.t s word) (fun l vs w' => l = 0 ∧ R (.returned (retVal vs)) w') w) : Calls Tryz.prog 48 #[(Value.string s), (Value.string word)] w R :=
  have h := calls_of_tree (w := w) (R := R) (args := [.v (Value.string s), .v (Value.string word)]) (c := fastjson_zzFold.c) Tryz.func48 (show Tryz.f48.body = some fastjson_zzFold.c by kernel_rfl) (of_decide_eq_true (by kernel_rfl)) (fastjson_zzFold.e s word) hs
  h

/-! ### pub-tetrapla/pub/fastjson.parseRawNumber : function 49 -/
def fastjson_parseRawNumber.t4 (i0 : Int) (s1 : ByteArray) (b6 : Bool) : T :=
  .ite b6 (
    .drew <|
    .chk (((0 : Int) ≤ (0 : Int)) ∧ (((0 : Int) ≤ (IntKind.wrap IntKind.i64 (i0 + (3 : Int)))) ∧ ((IntKind.wrap IntKind.i64 (i0 + (3 : Int))) ≤ (((ByteArray.size s1) : Nat) : Int)))) <|
    .chk (((0 : Int) ≤ (IntKind.wrap IntKind.i64 (i0 + (3 : Int)))) ∧ (((IntKind.wrap IntKind.i64 (i0 + (3 : Int))) ≤ (((ByteArray.size s1) : Nat) : Int)) ∧ ((((ByteArray.size s1) : Nat) : Int) ≤ (((ByteArray.size s1) : Nat) : Int)))) <|
    .leaf 0 [(Value.string (ByteArray.extract s1 0 (Int.toNat (IntKind.wrap IntKind.i64 (i0 + (3 : Int)))))), (Value.string (ByteArray.extract s1 (Int.toNat (IntKind.wrap IntKind.i64 (i0 + (3 : Int)))) (Int.toNat (((ByteArray.size s1) : Nat) : Int)))), Value.nilIface]) (
    .leaf 2 [])
def fastjson_parseRawNumber.t5 (s1 : ByteArray) : T :=
  .call 38 #[(Value.string (ByteArray.mk #[(117 : UInt8), (110 : UInt8), (101 : UInt8), (120 : UInt8), (112 : UInt8), (101 : UInt8), (99 : UInt8), (116 : UInt8), (101 : UInt8), (100 : UInt8), (32 : UInt8), (99 : UInt8), (104 : UInt8), (97 : UInt8), (114 : UInt8)]))] .any fun (v7 : Value) =>
  .leaf 0 [(Value.string (ByteArray.mk #[])), (Value.string s1), v7]
def fastjson_parseRawNumber.t3 (i0 : Int) (s1 : ByteArray) (b3 : Bool) : T :=
  .ite b3 (
    .chk (((0 : Int) ≤ i0) ∧ ((i0 ≤ (((ByteArray.size s1) : Nat) : Int)) ∧ ((((ByteArray.size s1) : Nat) : Int) ≤ (((ByteArray.size s1) : Nat) : Int)))) <|
    .cut 2 .nil (
      .ite (decide ((((ByteArray.size (ByteArray.extract s1 (Int.toNat i0) (Int.toNat (((ByteArray.size s1) : Nat) : Int)))) : Nat) : Int) ≥ (3 : Int))) (
        .chk (((0 : Int) ≤ i0) ∧ ((i0 ≤ (IntKind.wrap IntKind.i64 (i0 + (3 : Int)))) ∧ ((IntKind.wrap IntKind.i64 (i0 + (3 : Int))) ≤ (((ByteArray.size s1) : Nat) : Int)))) <|
        .cut 3 (.cons .bool .nil) (
          .call 48 #[(Value.string (ByteArray.extract s1 (Int.toNat i0) (Int.toNat (IntKind.wrap IntKind.i64 (i0 + (3 : Int)))))), (Value.string (ByteArray.mk #[(105 : UInt8), (110 : UInt8), (102 : UInt8)]))] .bool fun (b4 : Bool) =>
          .ite b4 (
            .leaf 3 [(Value.bool Bool.true)]) (
            .call 48 #[(Value.string (ByteArray.extract s1 (Int.toNat i0) (Int.toNat (IntKind.wrap IntKind.i64 (i0 + (3 : Int)))))), (Value.string (ByteArray.mk #[(110 : UInt8), (97 : UInt8), (110 : UInt8)]))] .bool fun (b5 : Bool) =>
            .leaf 3 [(Value.bool b5)]))
          (fun z => fastjson_parseRawNumber.t4 i0 s1 z.1)) (
        .leaf 2 []))
      (fun _ => fastjson_parseRawNumber.t5 s1)) (
    .chk (((0 : Int) ≤ (0 : Int)) ∧ (((0 : Int) ≤ i0) ∧ (i0 ≤ (((ByteArray.size s1) : Nat) : Int)))) <|
    .chk (((0 : Int) ≤ i0) ∧ ((i0 ≤ (((ByteArray.size s1) : Nat) : Int)) ∧ ((((ByteArray.size s1) : Nat) : Int) ≤ (((ByteArray.size s1) : Nat) : Int)))) <|
    .leaf 0 [(Value.string (ByteArray.extract s1 0 (Int.toNat i0))), (Value.string (ByteArray.extract s1 (Int.toNat i0) (Int.toNat (((ByteArray.size s1) : Nat) : Int)))), Value.nilIface])
def fastjson_parseRawNumber.t2 (i0 : Int) (s1 : ByteArray) (b2 : Bool) : T :=
  .ite b2 (
    .leaf 1 [(Value.int IntKind.i64 (IntKind.wrap IntKind.i64 (i0 + (1 : Int)))), (Value.string s1)]) (
    .cut 2 (.cons .bool .nil) (
      .ite (i0 == (0 : Int)) (
        .leaf 2 [(Value.bool Bool.true)]) (
        .ite (i0 == (1 : Int)) (
          .chk (((0 : Int) ≤ (0 : Int)) ∧ ((0 : Int) < (((ByteArray.size s1) : Nat) : Int))) <|
          .ite ((bt s1 (0 : Int)) == (45 : Int)) (
            .leaf 2 [(Value.bool Bool.true)]) (
            .chk (((0 : Int) ≤ (0 : Int)) ∧ ((0 : Int) < (((ByteArray.size s1) : Nat) : Int))) <|
            .leaf 2 [(Value.bool ((bt s1 (0 : Int)) == (43 : Int)))])) (
          .leaf 2 [(Value.bool Bool.false)])))
      (fun z => fastjson_parseRawNumber.t3 i0 s1 z.1))
def fastjson_parseRawNumber.t1 (q0 : ByteArray) (i0 : Int) (s1 : ByteArray) : T :=
  .ite (decide (i0 < (((ByteArray.size q0) : Nat) : Int))) (
    .chk (((0 : Int) ≤ i0) ∧ (i0 < (((ByteArray.size s1) : Nat) : Int))) <|
    .cut 2 (.cons .bool .nil) (
      .ite (decide ((bt s1 i0) ≥ (48 : Int))) (
        .ite (decide ((bt s1 i0) ≤ (57 : Int))) (
          .leaf 2 [(Value.bool Bool.true)]) (
          .ite ((bt s1 i0) == (46 : Int)) (
            .leaf 2 [(Value.bool Bool.true)]) (
            .ite ((bt s1 i0) == (45 : Int)) (
              .leaf 2 [(Value.bool Bool.true)]) (
              .ite ((bt s1 i0) == (101 : Int)) (
                .leaf 2 [(Value.bool Bool.true)]) (
                .ite ((bt s1 i0) == (69 : Int)) (
                  .leaf 2 [(Value.bool Bool.true)]) (
                  .leaf 2 [(Value.bool ((bt s1 i0) == (43 : Int)))])))))) (
        .ite ((bt s1 i0) == (46 : Int)) (
          .leaf 2 [(Value.bool Bool.true)]) (
          .ite ((bt s1 i0) == (45 : Int)) (
            .leaf 2 [(Value.bool Bool.true)]) (
            .ite ((bt s1 i0) == (101 : Int)) (
              .leaf 2 [(Value.bool Bool.true)]) (
              .ite ((bt s1 i0) == (69 : Int)) (
                .leaf 2 [(Value.bool Bool.true)]) (
                .leaf 2 [(Value.bool ((bt s1 i0) == (43 : Int)))]))))))
      (fun z => fastjson_parseRawNumber.t2 i0 s1 z.1)) (
    .leaf 0 [(Value.string s1), (Value.string (ByteArray.mk #[])), Value.nilIface])
def fastjson_parseRawNumber.t (q0 : ByteArray) : T :=
  .loop 1 (.cons (.int .i64) (.cons .str .nil)) [(Value.int IntKind.i64 (0 : Int)), (Value.string q0)]
    (fun z => fastjson_parseRawNumber.t1 q0 z.1 z.2.1)
def fastjson_parseRawNumber.h : Hints := ⟨[(63, [])], [], [(5, [(42, .bool)]), (6, [(58, .bool)]), (9, [(74, .bool)])], [(2, [(11, (.int .i64)), (0, .str)])]⟩
noncomputable def fastjson_parseRawNumber.c : Code := (Tryz.f49.body).getD .skip
theorem fastjson_parseRawNumber.e (q0 : ByteArray) : fnT Tryz.prog fastjson_parseRawNumber.h Tryz.f49 fastjson_parseRawNumber.c [.v (Value.string q0)] = fastjson_parseRawNumber.t q0 := by kernel_rfl
theorem fastjson_parseRawNumber.calls (q0 : ByteArray) {w : World} {R : Ending → World → Prop} (hs : sat Tryz.prog (fastjson_parseRawNumber.t q0) (fun l vs w' => l = 0 ∧ R (.returned (retVal vs)) w') w) : Calls Tryz.prog 49 #[(Value.string q0)] w R :=
  have h := calls_of_tree (w := w) (R := R) (args := [.v (Value.string q0)]) (c := fastjson_parseRawNumber.c) Tryz.func49 (show Tryz.f49.body = some fastjson_parseRawNumber.c by kernel_rfl) (of_decide_eq_true (by kernel_rfl)) (fastjson_parseRawNumber.e q0) hs
  h

/-! ### pub-tetrapla/pub/fastjson.unescapeStringBestEffort : function 50 -/
def fastjson_unescapeStringBestEffort.t2 (z3 : ((Option Addr) × (Nat × Nat))) (s4 : ByteArray) (z22 : (Int × (Value × PUnit))) (b27 : Bool) : T :=
  .ite b27 (
    .eff (Builtin.append_ (Call.argTypes (Call.mk (Callee.builtin Builtin.append) #[(Operand.tmp 119), (Operand.const (Value.string (ByteArray.mk #[(92 : UInt8), (117 : UInt8)])))] #[43, 9])) 43 #[(Value.slice (z3).1 ((z3).2).1 ((z3).2).2), (Value.string (ByteArray.mk #[(92 : UInt8), (117 : UInt8)]))]) .slice fun (z28 : ((Option Addr) × (Nat × Nat))) =>
    .eff (Builtin.append_ (Call.argTypes (Call.mk (Callee.builtin Builtin.append) #[(Operand.tmp 121), (Operand.tmp 122)] #[43, 9])) 43 #[(Value.slice (z28).1 ((z28).2).1 ((z28).2).2), (Value.string (ByteArray.extract (ByteArray.extract s4 1 (Int.toNat (((ByteArray.size s4) : Nat) : Int))) 0 4))]) .slice fun (z29 : ((Option Addr) × (Nat × Nat))) =>
    .leaf 2 [(Value.string (ByteArray.extract (ByteArray.extract s4 1 (Int.toNat (((ByteArray.size s4) : Nat) : Int))) 4 (Int.toNat (((ByteArray.size (ByteArray.extract s4 1 (Int.toNat (((ByteArray.size s4) : Nat) : Int)))) : Nat) : Int)))), (Value.slice (z29).1 ((z29).2).1 ((z29).2).2)]) (
    .chk (((0 : Int) ≤ (2 : Int)) ∧ (((2 : Int) ≤ (6 : Int)) ∧ ((6 : Int) ≤ (((ByteArray.size (ByteArray.extract (ByteArray.extract s4 1 (Int.toNat (((ByteArray.size s4) : Nat) : Int))) 4 (Int.toNat (((ByteArray.size (ByteArray.extract s4 1 (Int.toNat (((ByteArray.size s4) : Nat) : Int)))) : Nat) : Int)))) : Nat) : Int)))) <|
    .call 76 #[(Value.string (ByteArray.extract (ByteArray.extract (ByteArray.extract s4 1 (Int.toNat (((ByteArray.size s4) : Nat) : Int))) 4 (Int.toNat (((ByteArray.size (ByteArray.extract s4 1 (Int.toNat (((ByteArray.size s4) : Nat) : Int)))) : Nat) : Int))) 2 6)), (Value.int IntKind.i64 (16 : Int)), (Value.int IntKind.i64 (16 : Int))] (.tuple (.cons (.int .u64) (.cons .any .nil))) fun (z30 : (Int × (Value × PUnit))) =>
    .chk ((isIface ((z30).2).1) = Bool.true) <|
    .ite (!(isNil ((z30).2).1)) (
      .eff (Builtin.append_ (Call.argTypes (Call.mk (Callee.builtin Builtin.append) #[(Operand.tmp 132), (Operand.const (Value.string (ByteArray.mk #[(92 : UInt8), (117 : UInt8)])))] #[43, 9])) 43 #[(Value.slice (z3).1 ((z3).2).1 ((z3).2).2), (Value.string (ByteArray.mk #[(92 : UInt8), (117 : UInt8)]))]) .slice fun (z31 : ((Option Addr) × (Nat × Nat))) =>
      .eff (Builtin.append_ (Call.argTypes (Call.mk (Callee.builtin Builtin.append) #[(Operand.tmp 134), (Operand.tmp 135)] #[43, 9])) 43 #[(Value.slice (z31).1 ((z31).2).1 ((z31).2).2), (Value.string (ByteArray.extract (ByteArray.extract s4 1 (Int.toNat (((ByteArray.size s4) : Nat) : Int))) 0 4))]) .slice fun (z32 : ((Option Addr) × (Nat × Nat))) =>
      .leaf 2 [(Value.string (ByteArray.extract (ByteArray.extract s4 1 (Int.toNat (((ByteArray.size s4) : Nat) : Int))) 4 (Int.toNat (((ByteArray.size (ByteArray.extract s4 1 (Int.toNat (((ByteArray.size s4) : Nat) : Int)))) : Nat) : Int)))), (Value.slice (z32).1 ((z32).2).1 ((z32).2).2)]) (
      .call 78 #[(Value.int IntKind.i32 (IntKind.wrap IntKind.i32 (z22).1)), (Value.int IntKind.i32 (IntKind.wrap IntKind.i32 (z30).1))] (.int .i32) fun (i33 : Int) =>
      .eff (convert 21 9 (Value.int IntKind.i32 i33)) .str fun (s34 : ByteArray) =>
      .eff (Builtin.append_ (Call.argTypes (Call.mk (Callee.builtin Builtin.append) #[(Operand.tmp 142), (Operand.tmp 144)] #[43, 9])) 43 #[(Value.slice (z3).1 ((z3).2).1 ((z3).2).2), (Value.string s34)]) .slice fun (z35 : ((Option Addr) × (Nat × Nat))) =>
      .chk (((0 : Int) ≤ (6 : Int)) ∧ (((6 : Int) ≤ (((ByteArray.size (ByteArray.extract (ByteArray.extract s4 1 (Int.toNat (((ByteArray.size s4) : Nat) : Int))) 4 (Int.toNat (((ByteArray.size (ByteArray.extract s4 1 (Int.toNat (((ByteArray.size s4) : Nat) : Int)))) : Nat) : Int)))) : Nat) : Int)) ∧ ((((ByteArray.size (ByteArray.extract (ByteArray.extract s4 1 (Int.toNat (((ByteArray.size s4) : Nat) : Int))) 4 (Int.toNat (((ByteArray.size (ByteArray.extract s4 1 (Int.toNat (((ByteArray.size s4) : Nat) : Int)))) : Nat) : Int)))) : Nat) : Int) ≤ (((ByteArray.size (ByteArray.extract (ByteArray.extract s4 1 (Int.toNat (((ByteArray.size s4) : Nat) : Int))) 4 (Int.toNat (((ByteArray.size (ByteArray.extract s4 1 (Int.toNat (((ByteArray.size s4) : Nat) : Int)))) : Nat) : Int)))) : Nat) : Int)))) <|
      .leaf 11 [(Value.string (ByteArray.extract (ByteArray.extract (ByteArray.extract s4 1 (Int.toNat (((ByteArray.size s4) : Nat) : Int))) 4 (Int.toNat (((ByteArray.size (ByteArray.extract s4 1 (Int.toNat (((ByteArray.size s4) : Nat) : Int)))) : Nat) : Int))) 6 (Int.toNat (((ByteArray.size (ByteArray.extract (ByteArray.extract s4 1 (Int.toNat (((ByteArray.size s4) : Nat) : Int))) 4 (Int.toNat (((ByteArray.size (ByteArray.extract s4 1 (Int.toNat (((ByteArray.size s4) : Nat) : Int)))) : Nat) : Int)))) : Nat) : Int)))), (Value.slice (z35).1 ((z35).2).1 ((z35).2).2)]))
def fastjson_unescapeStringBestEffort.t3 (s38 : ByteArray) (z39 : ((Option Addr) × (Nat × Nat))) : T :=
  .leaf 10 [(Value.string s38), (Value.slice (z39).1 ((z39).2).1 ((z39).2).2)]
def fastjson_unescapeStringBestEffort.t4 (s40 : ByteArray) (z41 : ((Option Addr) × (Nat × Nat))) : T :=
  .leaf 9 [(Value.string s40), (Value.slice (z41).1 ((z41).2).1 ((z41).2).2)]
def fastjson_unescapeStringBestEffort.t5 (s42 : ByteArray) (z43 : ((Option Addr) × (Nat × Nat))) : T :=
  .leaf 8 [(Value.string s42), (Value.slice (z43).1 ((z43).2).1 ((z43).2).2)]
def fastjson_unescapeStringBestEffort.t6 (s44 : ByteArray) (z45 : ((Option Addr) × (Nat × Nat))) : T :=
  .leaf 7 [(Value.string s44), (Value.slice (z45).1 ((z45).2).1 ((z45).2).2)]
def fastjson_unescapeStringBestEffort.t7 (s46 : ByteArray) (z47 : ((Option Addr) × (Nat × Nat))) : T :=
  .leaf 6 [(Value.string s46), (Value.slice (z47).1 ((z47).2).1 ((z47).2).2)]
def fastjson_unescapeStringBestEffort.t8 (s48 : ByteArray) (z49 : ((Option Addr) × (Nat × Nat))) : T :=
  .leaf 5 [(Value.string s48), (Value.slice (z49).1 ((z49).2).1 ((z49).2).2)]
def fastjson_unescapeStringBestEffort.t9 (s50 : ByteArray) (z51 : ((Option Addr) × (Nat × Nat))) : T :=
  .leaf 4 [(Value.string s50), (Value.slice (z51).1 ((z51).2).1 ((z51).2).2)]
def fastjson_unescapeStringBestEffort.t10 (s52 : ByteArray) (z53 : ((Option Addr) × (Nat × Nat))) : T :=
  .leaf 3 [(Value.string s52), (Value.slice (z53).1 ((z53).2).1 ((z53).2).2)]
def fastjson_unescapeStringBestEffort.t11 (s54 : ByteArray) (z55 : ((Option Addr) × (Nat × Nat))) : T :=
  .leaf 2 [(Value.string s54), (Value.slice (z55).1 ((z55).2).1 ((z55).2).2)]
def fastjson_unescapeStringBestEffort.t12 (s56 : ByteArray) (z57 : ((Option Addr) × (Nat × Nat))) : T :=
  .call 75 #[(Value.string s56), (Value.int IntKind.u8 (92 : Int))] (.int .i64) fun (i58 : Int) =>
  .ite (decide (i58 < (0 : Int))) (
    .eff (Builtin.append_ (Call.argTypes (Call.mk (Callee.builtin Builtin.append) #[(Operand.tmp 152), (Operand.tmp 153)] #[43, 9])) 43 #[(Value.slice (z57).1 ((z57).2).1 ((z57).2).2), (Value.string s56)]) .slice fun (z59 : ((Option Addr) × (Nat × Nat))) =>
    .call 37 #[(Value.slice (z59).1 ((z59).2).1 ((z59).2).2)] .str fun (s60 : ByteArray) =>
    .leaf 0 [(Value.string s60)]) (
    .chk (((0 : Int) ≤ (0 : Int)) ∧ (((0 : Int) ≤ i58) ∧ (i58 ≤ (((ByteArray.size s56) : Nat) : Int)))) <|
    .eff (Builtin.append_ (Call.argTypes (Call.mk (Callee.builtin Builtin.append) #[(Operand.tmp 155), (Operand.tmp 158)] #[43, 9])) 43 #[(Value.slice (z57).1 ((z57).2).1 ((z57).2).2), (Value.string (ByteArray.extract s56 0 (Int.toNat i58)))]) .slice fun (z61 : ((Option Addr) × (Nat × Nat))) =>
    .chk (((0 : Int) ≤ (IntKind.wrap IntKind.i64 (i58 + (1 : Int)))) ∧ (((IntKind.wrap IntKind.i64 (i58 + (1 : Int))) ≤ (((ByteArray.size s56) : Nat) : Int)) ∧ ((((ByteArray.size s56) : Nat) : Int) ≤ (((ByteArray.size s56) : Nat) : Int)))) <|
    .leaf 1 [(Value.slice (z61).1 ((z61).2).1 ((z61).2).2), (Value.string (ByteArray.extract s56 (Int.toNat (IntKind.wrap IntKind.i64 (i58 + (1 : Int)))) (Int.toNat (((ByteArray.size s56) : Nat) : Int))))])
def fastjson_unescapeStringBestEffort.t1 (z3 : ((Option Addr) × (Nat × Nat))) (s4 : ByteArray) : T :=
  .ite (decide ((((ByteArray.size s4) : Nat) : Int) > (0 : Int))) (
    .chk (((0 : Int) ≤ (0 : Int)) ∧ ((0 : Int) < (((ByteArray.size s4) : Nat) : Int))) <|
    .chk (((0 : Int) ≤ (1 : Int)) ∧ (((1 : Int) ≤ (((ByteArray.size s4) : Nat) : Int)) ∧ ((((ByteArray.size s4) : Nat) : Int) ≤ (((ByteArray.size s4) : Nat) : Int)))) <|
    .cut 2 (.cons .str (.cons .slice .nil)) (
      .cut 3 (.cons .str (.cons .slice .nil)) (
        .ite ((bt s4 (0 : Int)) == (34 : Int)) (
          .eff (Instr.buildSlice 43 1 #[(0, (Value.int IntKind.u8 (34 : Int)))]) .slice fun (z5 : ((Option Addr) × (Nat × Nat))) =>
          .eff (Builtin.append_ (Call.argTypes (Call.mk (Callee.builtin Builtin.append) #[(Operand.tmp 39), (Operand.tmp 40)] #[43, 43])) 43 #[(Value.slice (z3).1 ((z3).2).1 ((z3).2).2), (Value.slice (z5).1 ((z5).2).1 ((z5).2).2)]) .slice fun (z6 : ((Option Addr) × (Nat × Nat))) =>
          .leaf 3 [(Value.string (ByteArray.extract s4 1 (Int.toNat (((ByteArray.size s4) : Nat) : Int)))), (Value.slice (z6).1 ((z6).2).1 ((z6).2).2)]) (
          .cut 4 (.cons .str (.cons .slice .nil)) (
            .ite ((bt s4 (0 : Int)) == (92 : Int)) (
              .eff (Instr.buildSlice 43 1 #[(0, (Value.int IntKind.u8 (92 : Int)))]) .slice fun (z7 : ((Option Addr) × (Nat × Nat))) =>
              .eff (Builtin.append_ (Call.argTypes (Call.mk (Callee.builtin Builtin.append) #[(Operand.tmp 44), (Operand.tmp 45)] #[43, 43])) 43 #[(Value.slice (z3).1 ((z3).2).1 ((z3).2).2), (Value.slice (z7).1 ((z7).2).1 ((z7).2).2)]) .slice fun (z8 : ((Option Addr) × (Nat × Nat))) =>
              .leaf 4 [(Value.string (ByteArray.extract s4 1 (Int.toNat (((ByteArray.size s4) : Nat) : Int)))), (Value.slice (z8).1 ((z8).2).1 ((z8).2).2)]) (
              .cut 5 (.cons .str (.cons .slice .nil)) (
                .ite ((bt s4 (0 : Int)) == (47 : Int)) (
                  .eff (Instr.buildSlice 43 1 #[(0, (Value.int IntKind.u8 (47 : Int)))]) .slice fun (z9 : ((Option Addr) × (Nat × Nat))) =>
                  .eff (Builtin.append_ (Call.argTypes (Call.mk (Callee.builtin Builtin.append) #[(Operand.tmp 49), (Operand.tmp 50)] #[43, 43])) 43 #[(Value.slice (z3).1 ((z3).2).1 ((z3).2).2), (Value.slice (z9).1 ((z9).2).1 ((z9).2).2)]) .slice fun (z10 : ((Option Addr) × (Nat × Nat))) =>
                  .leaf 5 [(Value.string (ByteArray.extract s4 1 (Int.toNat (((ByteArray.size s4) : Nat) : Int)))), (Value.slice (z10).1 ((z10).2).1 ((z10).2).2)]) (
                  .cut 6 (.cons .str (.cons .slice .nil)) (
                    .ite ((bt s4 (0 : Int)) == (98 : Int)) (
                      .eff (Instr.buildSlice 43 1 #[(0, (Value.int IntKind.u8 (8 : Int)))]) .slice fun (z11 : ((Option Addr) × (Nat × Nat))) =>
                      .eff (Builtin.append_ (Call.argTypes (Call.mk (Callee.builtin Builtin.append) #[(Operand.tmp 54), (Operand.tmp 55)] #[43, 43])) 43 #[(Value.slice (z3).1 ((z3).2).1 ((z3).2).2), (Value.slice (z11).1 ((z11).2).1 ((z11).2).2)]) .slice fun (z12 : ((Option Addr) × (Nat × Nat))) =>
                      .leaf 6 [(Value.string (ByteArray.extract s4 1 (Int.toNat (((ByteArray.size s4) : Nat) : Int)))), (Value.slice (z12).1 ((z12).2).1 ((z12).2).2)]) (
                      .cut 7 (.cons .str (.cons .slice .nil)) (
                        .ite ((bt s4 (0 : Int)) == (102 : Int)) (
                          .eff (Instr.buildSlice 43 1 #[(0, (Value.int IntKind.u8 (12 : Int)))]) .slice fun (z13 : ((Option Addr) × (Nat × Nat))) =>
                          .eff (Builtin.append_ (Call.argTypes (Call.mk (Callee.builtin Builtin.append) #[(Operand.tmp 59), (Operand.tmp 60)] #[43, 43])) 43 #[(Value.slice (z3).1 ((z3).2).1 ((z3).2).2), (Value.slice (z13).1 ((z13).2).1 ((z13).2).2)]) .slice fun (z14 : ((Option Addr) × (Nat × Nat))) =>
                          .leaf 7 [(Value.string (ByteArray.extract s4 1 (Int.toNat (((ByteArray.size s4) : Nat) : Int)))), (Value.slice (z14).1 ((z14).2).1 ((z14).2).2)]) (
                          .cut 8 (.cons .str (.cons .slice .nil)) (
                            .ite ((bt s4 (0 : Int)) == (110 : Int)) (
                              .eff (Instr.buildSlice 43 1 #[(0, (Value.int IntKind.u8 (10 : Int)))]) .slice fun (z15 : ((Option Addr) × (Nat × Nat))) =>
                              .eff (Builtin.append_ (Call.argTypes (Call.mk (Callee.builtin Builtin.append) #[(Operand.tmp 64), (Operand.tmp 65)] #[43, 43])) 43 #[(Value.slice (z3).1 ((z3).2).1 ((z3).2).2), (Value.slice (z15).1 ((z15).2).1 ((z15).2).2)]) .slice fun (z16 : ((Option Addr) × (Nat × Nat))) =>
                              .leaf 8 [(Value.string (ByteArray.extract s4 1 (Int.toNat (((ByteArray.size s4) : Nat) : Int)))), (Value.slice (z16).1 ((z16).2).1 ((z16).2).2)]) (
                              .cut 9 (.cons .str (.cons .slice .nil)) (
                                .ite ((bt s4 (0 : Int)) == (114 : Int)) (
                                  .eff (Instr.buildSlice 43 1 #[(0, (Value.int IntKind.u8 (13 : Int)))]) .slice fun (z17 : ((Option Addr) × (Nat × Nat))) =>
                                  .eff (Builtin.append_ (Call.argTypes (Call.mk (Callee.builtin Builtin.append) #[(Operand.tmp 69), (Operand.tmp 70)] #[43, 43])) 43 #[(Value.slice (z3).1 ((z3).2).1 ((z3).2).2), (Value.slice (z17).1 ((z17).2).1 ((z17).2).2)]) .slice fun (z18 : ((Option Addr) × (Nat × Nat))) =>
                                  .leaf 9 [(Value.string (ByteArray.extract s4 1 (Int.toNat (((ByteArray.size s4) : Nat) : Int)))), (Value.slice (z18).1 ((z18).2).1 ((z18).2).2)]) (
                                  .cut 10 (.cons .str (.cons .slice .nil)) (
                                    .ite ((bt s4 (0 : Int)) == (116 : Int)) (
                                      .eff (Instr.buildSlice 43 1 #[(0, (Value.int IntKind.u8 (9 : Int)))]) .slice fun (z19 : ((Option Addr) × (Nat × Nat))) =>
                                      .eff (Builtin.append_ (Call.argTypes (Call.mk (Callee.builtin Builtin.append) #[(Operand.tmp 74), (Operand.tmp 75)] #[43, 43])) 43 #[(Value.slice (z3).1 ((z3).2).1 ((z3).2).2), (Value.slice (z19).1 ((z19).2).1 ((z19).2).2)]) .slice fun (z20 : ((Option Addr) × (Nat × Nat))) =>
                                      .leaf 10 [(Value.string (ByteArray.extract s4 1 (Int.toNat (((ByteArray.size s4) : Nat) : Int)))), (Value.slice (z20).1 ((z20).2).1 ((z20).2).2)]) (
                                      .cut 11 (.cons .str (.cons .slice .nil)) (
                                        .ite ((bt s4 (0 : Int)) == (117 : Int)) (
                                          .ite (decide ((((ByteArray.size (ByteArray.extract s4 1 (Int.toNat (((ByteArray.size s4) : Nat) : Int)))) : Nat) : Int) < (4 : Int))) (
                                            .eff (Builtin.append_ (Call.argTypes (Call.mk (Callee.builtin Builtin.append) #[(Operand.tmp 82), (Operand.const (Value.string (ByteArray.mk #[(92 : UInt8), (117 : UInt8)])))] #[43, 9])) 43 #[(Value.slice (z3).1 ((z3).2).1 ((z3).2).2), (Value.string (ByteArray.mk #[(92 : UInt8), (117 : UInt8)]))]) .slice fun (z21 : ((Option Addr) × (Nat × Nat))) =>
                                            .leaf 2 [(Value.string (ByteArray.extract s4 1 (Int.toNat (((ByteArray.size s4) : Nat) : Int)))), (Value.slice (z21).1 ((z21).2).1 ((z21).2).2)]) (
                                            .chk (((0 : Int) ≤ (0 : Int)) ∧ (((0 : Int) ≤ (4 : Int)) ∧ ((4 : Int) ≤ (((ByteArray.size (ByteArray.extract s4 1 (Int.toNat (((ByteArray.size s4) : Nat) : Int)))) : Nat) : Int)))) <|
                                            .call 76 #[(Value.string (ByteArray.extract (ByteArray.extract s4 1 (Int.toNat (((ByteArray.size s4) : Nat) : Int))) 0 4)), (Value.int IntKind.i64 (16 : Int)), (Value.int IntKind.i64 (16 : Int))] (.tuple (.cons (.int .u64) (.cons .any .nil))) fun (z22 : (Int × (Value × PUnit))) =>
                                            .chk ((isIface ((z22).2).1) = Bool.true) <|
                                            .ite (!(isNil ((z22).2).1)) (
                                              .eff (Builtin.append_ (Call.argTypes (Call.mk (Callee.builtin Builtin.append) #[(Operand.tmp 93), (Operand.const (Value.string (ByteArray.mk #[(92 : UInt8), (117 : UInt8)])))] #[43, 9])) 43 #[(Value.slice (z3).1 ((z3).2).1 ((z3).2).2), (Value.string (ByteArray.mk #[(92 : UInt8), (117 : UInt8)]))]) .slice fun (z23 : ((Option Addr) × (Nat × Nat))) =>
                                              .leaf 2 [(Value.string (ByteArray.extract s4 1 (Int.toNat (((ByteArray.size s4) : Nat) : Int)))), (Value.slice (z23).1 ((z23).2).1 ((z23).2).2)]) (
                                              .chk (((0 : Int) ≤ (4 : Int)) ∧ (((4 : Int) ≤ (((ByteArray.size (ByteArray.extract s4 1 (Int.toNat (((ByteArray.size s4) : Nat) : Int)))) : Nat) : Int)) ∧ ((((ByteArray.size (ByteArray.extract s4 1 (Int.toNat (((ByteArray.size s4) : Nat) : Int)))) : Nat) : Int) ≤ (((ByteArray.size (ByteArray.extract s4 1 (Int.toNat (((ByteArray.size s4) : Nat) : Int)))) : Nat) : Int)))) <|
                                              .call 77 #[(Value.int IntKind.i32 (IntKind.wrap IntKind.i32 (z22).1))] .bool fun (b24 : Bool) =>
                                              .ite (!b24) (
                                                .eff (convert 21 9 (Value.int IntKind.i32 (IntKind.wrap IntKind.i32 (z22).1))) .str fun (s25 : ByteArray) =>
                                                .eff (Builtin.append_ (Call.argTypes (Call.mk (Callee.builtin Builtin.append) #[(Operand.tmp 101), (Operand.tmp 104)] #[43, 9])) 43 #[(Value.slice (z3).1 ((z3).2).1 ((z3).2).2), (Value.string s25)]) .slice fun (z26 : ((Option Addr) × (Nat × Nat))) =>
                                                .leaf 2 [(Value.string (ByteArray.extract (ByteArray.extract s4 1 (Int.toNat (((ByteArray.size s4) : Nat) : Int))) 4 (Int.toNat (((ByteArray.size (ByteArray.extract s4 1 (Int.toNat (((ByteArray.size s4) : Nat) : Int)))) : Nat) : Int)))), (Value.slice (z26).1 ((z26).2).1 ((z26).2).2)]) (
                                                .cut 12 (.cons .bool .nil) (
                                                  .ite (decide ((((ByteArray.size (ByteArray.extract (ByteArray.extract s4 1 (Int.toNat (((ByteArray.size s4) : Nat) : Int))) 4 (Int.toNat (((ByteArray.size (ByteArray.extract s4 1 (Int.toNat (((ByteArray.size s4) : Nat) : Int)))) : Nat) : Int)))) : Nat) : Int) < (6 : Int))) (
                                                    .leaf 12 [(Value.bool Bool.true)]) (
                                                    .chk (((0 : Int) ≤ (0 : Int)) ∧ ((0 : Int) < (((ByteArray.size (ByteArray.extract (ByteArray.extract s4 1 (Int.toNat (((ByteArray.size s4) : Nat) : Int))) 4 (Int.toNat (((ByteArray.size (ByteArray.extract s4 1 (Int.toNat (((ByteArray.size s4) : Nat) : Int)))) : Nat) : Int)))) : Nat) : Int))) <|
                                                    .ite ((bt (ByteArray.extract (ByteArray.extract s4 1 (Int.toNat (((ByteArray.size s4) : Nat) : Int))) 4 (Int.toNat (((ByteArray.size (ByteArray.extract s4 1 (Int.toNat (((ByteArray.size s4) : Nat) : Int)))) : Nat) : Int))) (0 : Int)) != (92 : Int)) (
                                                      .leaf 12 [(Value.bool Bool.true)]) (
                                                      .chk (((0 : Int) ≤ (1 : Int)) ∧ ((1 : Int) < (((ByteArray.size (ByteArray.extract (ByteArray.extract s4 1 (Int.toNat (((ByteArray.size s4) : Nat) : Int))) 4 (Int.toNat (((ByteArray.size (ByteArray.extract s4 1 (Int.toNat (((ByteArray.size s4) : Nat) : Int)))) : Nat) : Int)))) : Nat) : Int))) <|
                                                      .leaf 12 [(Value.bool ((bt (ByteArray.extract (ByteArray.extract s4 1 (Int.toNat (((ByteArray.size s4) : Nat) : Int))) 4 (Int.toNat (((ByteArray.size (ByteArray.extract s4 1 (Int.toNat (((ByteArray.size s4) : Nat) : Int)))) : Nat) : Int))) (1 : Int)) != (117 : Int)))])))
                                                  (fun z => fastjson_unescapeStringBestEffort.t2 z3 s4 z22 z.1))))) (
                                          .eff (Instr.buildSlice 43 2 #[(0, (Value.int IntKind.u8 (92 : Int))), (1, (Value.int IntKind.u8 (bt s4 (0 : Int))))]) .slice fun (z36 : ((Option Addr) × (Nat × Nat))) =>
                                          .eff (Builtin.append_ (Call.argTypes (Call.mk (Callee.builtin Builtin.append) #[(Operand.tmp 33), (Operand.tmp 35)] #[43, 43])) 43 #[(Value.slice (z3).1 ((z3).2).1 ((z3).2).2), (Value.slice (z36).1 ((z36).2).1 ((z36).2).2)]) .slice fun (z37 : ((Option Addr) × (Nat × Nat))) =>
                                          .leaf 11 [(Value.string (ByteArray.extract s4 1 (Int.toNat (((ByteArray.size s4) : Nat) : Int)))), (Value.slice (z37).1 ((z37).2).1 ((z37).2).2)]))
                                        (fun z => fastjson_unescapeStringBestEffort.t3 z.1 z.2.1)))
                                    (fun z => fastjson_unescapeStringBestEffort.t4 z.1 z.2.1)))
                                (fun z => fastjson_unescapeStringBestEffort.t5 z.1 z.2.1)))
                            (fun z => fastjson_unescapeStringBestEffort.t6 z.1 z.2.1)))
                        (fun z => fastjson_unescapeStringBestEffort.t7 z.1 z.2.1)))
                    (fun z => fastjson_unescapeStringBestEffort.t8 z.1 z.2.1)))
                (fun z => fastjson_unescapeStringBestEffort.t9 z.1 z.2.1)))
            (fun z => fastjson_unescapeStringBestEffort.t10 z.1 z.2.1)))
        (fun z => fastjson_unescapeStringBestEffort.t11 z.1 z.2.1))
      (fun z => fastjson_unescapeStringBestEffort.t12 z.1 z.2.1)) (
    .call 37 #[(Value.slice (z3).1 ((z3).2).1 ((z3).2).2)] .str fun (s62 : ByteArray) =>
    .leaf 0 [(Value.string s62)])
def fastjson_unescapeStringBestEffort.t (q0 : ByteArray) : T :=
  .call 75 #[(Value.string q0), (Value.int IntKind.u8 (92 : Int))] (.int .i64) fun (i0 : Int) =>
  .ite (decide (i0 < (0 : Int))) (
    .leaf 0 [(Value.string q0)]) (
    .call 54 #[(Value.string q0)] .slice fun (z1 : ((Option Addr) × (Nat × Nat))) =>
    .chk (((0 : Int) ≤ (0 : Int)) ∧ (((0 : Int) ≤ i0) ∧ (i0 ≤ ((((z1).2).2 : Nat) : Int)))) <|
    .chk (((0 : Int) ≤ (IntKind.wrap IntKind.i64 (i0 + (1 : Int)))) ∧ (((IntKind.wrap IntKind.i64 (i0 + (1 : Int))) ≤ (((ByteArray.size q0) : Nat) : Int)) ∧ ((((ByteArray.size q0) : Nat) : Int) ≤ (((ByteArray.size q0) : Nat) : Int)))) <|
    .loop 1 (.cons .slice (.cons .str .nil)) [(Value.slice (if (((z1).2).2 = 0) then (z1).1 else (Option.map (fun (y2 : Addr) => (Addr.add y2 0)) (z1).1)) ((Int.toNat i0) - 0) (((z1).2).2 - 0)), (Value.string (ByteArray.extract q0 (Int.toNat (IntKind.wrap IntKind.i64 (i0 + (1 : Int)))) (Int.toNat (((ByteArray.size q0) : Nat) : Int))))]
      (fun z => fastjson_unescapeStringBestEffort.t1 z.1 z.2.1))
def fastjson_unescapeStringBestEffort.h : Hints := ⟨[(37, [(0, .str), (4, .slice)]), (42, [(0, .str), (4, .slice)]), (47, [(0, .str), (4, .slice)]), (52, [(0, .str), (4, .slice)]), (57, [(0, .str), (4, .slice)]), (62, [(0, .str), (4, .slice)]), (67, [(0, .str), (4, .slice)]), (72, [(0, .str), (4, .slice)]), (77, [(0, .str), (4, .slice)])], [(2, [(0, .str), (4, .slice)])], [(38, [(118, .bool)])], [(7, [(4, .slice), (0, .str)])]⟩
noncomputable def fastjson_unescapeStringBestEffort.c : Code := (Tryz.f50.body).getD .skip
theorem fastjson_unescapeStringBestEffort.e (q0 : ByteArray) : fnT Tryz.prog fastjson_unescapeStringBestEffort.h Tryz.f50 fastjson_unescapeStringBestEffort.c [.v (Value.string q0)] = fastjson_unescapeStringBestEffort.t q0 := by kernel_rfl
theorem fastjson_unescapeStringBestEffort.calls (q0 : ByteArray) {w : World} {R : Ending → World → Prop} (hs : sat Tryz.prog (fastjson_unescapeStringBestEffort.t q0) (fun l vs w' => l = 0 ∧ R (.returned (retVal vs)) w') w) : Calls Tryz.prog 50 #[(Value.string q0)] w R :=
  have h := calls_of_tree (w := w) (R := R) (args := [.v (Value.string q0)]) (c := fastjson_unescapeStringBestEffort.c) Tryz.func50 (show Tryz.f50.body = some fastjson_unescapeStringBestEffort.c by kernel_rfl) (of_decide_eq_true (by kernel_rfl)) (fastjson_unescapeStringBestEffort.e q0) hs
  h

/-! ### pub-tetrapla/pub/fastjson.s2b : function 54 -/
def fastjson_s2b.t (s : ByteArray) : T :=
  .eff (convert 9 43 (Value.string s)) .slice fun (z0 : ((Option Addr) × (Nat × Nat))) =>
  .leaf 0 [(Value.slice (z0).1 ((z0).2).1 ((z0).2).2)]
def fastjson_s2b.h : Hints := ⟨[], [], [], []⟩
noncomputable def fastjson_s2b.c : Code := (Tryz.f54.body).getD .skip
theorem fastjson_s2b.e (s : ByteArray) : fnT Tryz.prog fastjson_s2b.h Tryz.f54 fastjson_s2b.c [.v (Value.string s)] = fastjson_s2b.t s := by kernel_rfl
theorem fastjson_s2b.calls (s : ByteArray) {w : World} {R : Ending → World → Prop} (hs : sat Tryz.prog (fastjson_s2b.t s) (fun l vs w' => l = 0 ∧ R (.returned (retVal vs)) w') w) : Calls Tryz.prog 54 #[(Value.string s)] w R :=
  have h := calls_of_tree (w := w) (R := R) (args := [.v (Value.string s)]) (c := fastjson_s2b.c) Tryz.func54 (show Tryz.f54.body = some fastjson_s2b.c by kernel_rfl) (of_decide_eq_true (by kernel_rfl)) (fastjson_s2b.e s) hs
  h

/-! ### pub-tetrapla/pub/fastjson.skipWSSlow : function 57 -/
def fastjson_skipWSSlow.t2 (s : ByteArray) (i1 : Int) : T :=
  .ite (decide (i1 < (((ByteArray.size s) : Nat) : Int))) (
    .chk (((0 : Int) ≤ i1) ∧ (i1 < (((ByteArray.size s) : Nat) : Int))) <|
    .ite ((bt s i1) != (32 : Int)) (
      .chk (((0 : Int) ≤ i1) ∧ (i1 < (((ByteArray.size s) : Nat) : Int))) <|
      .ite ((bt s i1) != (10 : Int)) (
        .chk (((0 : Int) ≤ i1) ∧ (i1 < (((ByteArray.size s) : Nat) : Int))) <|
        .ite ((bt s i1) != (9 : Int)) (
          .chk (((0 : Int) ≤ i1) ∧ (i1 < (((ByteArray.size s) : Nat) : Int))) <|
          .ite ((bt s i1) != (13 : Int)) (
            .chk (((0 : Int) ≤ i1) ∧ ((i1 ≤ (((ByteArray.size s) : Nat) : Int)) ∧ ((((ByteArray.size s) : Nat) : Int) ≤ (((ByteArray.size s) : Nat) : Int)))) <|
            .leaf 0 [(Value.string (ByteArray.extract s (Int.toNat i1) (Int.toNat (((ByteArray.size s) : Nat) : Int))))]) (
            .leaf 1 [(Value.int IntKind.i64 (IntKind.wrap IntKind.i64 (i1 + (1 : Int))))])) (
          .leaf 1 [(Value.int IntKind.i64 (IntKind.wrap IntKind.i64 (i1 + (1 : Int))))])) (
        .leaf 1 [(Value.int IntKind.i64 (IntKind.wrap IntKind.i64 (i1 + (1 : Int))))])) (
      .leaf 1 [(Value.int IntKind.i64 (IntKind.wrap IntKind.i64 (i1 + (1 : Int))))])) (
    .leaf 0 [(Value.string (ByteArray.mk #[]))])
def fastjson_skipWSSlow.t1 (s : ByteArray) (b0 : Bool) : T :=
  .ite b0 (
    .leaf 0 [(Value.string s)]) (
    .loop 1 (.cons (.int .i64) .nil) [(Value.int IntKind.i64 (1 : Int))]
      (fun z => fastjson_skipWSSlow.t2 s z.1))
def fastjson_skipWSSlow.t (s : ByteArray) : T :=
  .cut 1 (.cons .bool .nil) (
    .ite ((((ByteArray.size s) : Nat) : Int) == (0 : Int)) (
      .leaf 1 [(Value.bool Bool.true)]) (
      .chk (((0 : Int) ≤ (0 : Int)) ∧ ((0 : Int) < (((ByteArray.size s) : Nat) : Int))) <|
      .ite ((bt s (0 : Int)) != (32 : Int)) (
        .chk (((0 : Int) ≤ (0 : Int)) ∧ ((0 : Int) < (((ByteArray.size s) : Nat) : Int))) <|
        .ite ((bt s (0 : Int)) != (10 : Int)) (
          .chk (((0 : Int) ≤ (0 : Int)) ∧ ((0 : Int) < (((ByteArray.size s) : Nat) : Int))) <|
          .ite ((bt s (0 : Int)) != (9 : Int)) (
            .chk (((0 : Int) ≤ (0 : Int)) ∧ ((0 : Int) < (((ByteArray.size s) : Nat) : Int))) <|
            .leaf 1 [(Value.bool ((bt s (0 : Int)) != (13 : Int)))]) (
            .leaf 1 [(Value.bool Bool.false)])) (
          .leaf 1 [(Value.bool Bool.false)])) (
        .leaf 1 [(Value.bool Bool.false)])))
    (fun z => fastjson_skipWSSlow.t1 s z.1)
def fastjson_skipWSSlow.h : Hints := ⟨[], [], [(1, [(26, .bool)])], [(4, [(3, (.int .i64))])]⟩
noncomputable def fastjson_skipWSSlow.c : Code := (Tryz.f57.body).getD .skip
theorem fastjson_skipWSSlow.e (s : ByteArray) : fnT Tryz.prog fastjson_skipWSSlow.h Tryz.f57 fastjson_skipWSSlow.c [.v (Value.string s)] = fastjson_skipWSSlow.t s := by kernel_rfl
theorem fastjson_skipWSSlow.calls (s : ByteArray) {w : World} {R : Ending → World → Prop} (hs : sat Tryz.prog (fastjson_skipWSSlow.t s) (fun l vs w' => l = 0 ∧ R (.returned (retVal vs)) w') w) : Calls Tryz.prog 57 #[(Value.string s)] w R :=
  have h := calls_of_tree (w := w) (R := R) (args := [.v (Value.string s)]) (c := fastjson_skipWSSlow.c) Tryz.func57 (show Tryz.f57.body = some fastjson_skipWSSlow.c by kernel_rfl) (of_decide_eq_true (by kernel_rfl)) (fastjson_skipWSSlow.e s) hs
  h

/-! ### (*pub-tetrapla/pub/fastjson.Value).reset : function 58 -/
def fastjson_Value_reset.t (v : (Option Addr)) : T :=
  .ptr v fun (z0 : Addr) =>
  .call 72 #[(Value.pointer (some (Addr.add z0 0)))] (.tuple .nil) fun _ =>
  .ptr v fun (z1 : Addr) =>
  .load (Addr.add z1 2) .slice fun (z2 : ((Option Addr) × (Nat × Nat))) =>
  .eff (Builtin.clear_ (Call.argTypes (Call.mk (Callee.builtin Builtin.clear) #[(Operand.tmp 9)] #[70])) 0 #[(Value.slice (z2).1 ((z2).2).1 ((z2).2).2)]) (.tuple .nil) fun _ =>
  .ptr v fun (z3 : Addr) =>
  .load (Addr.add z3 2) .slice fun (z4 : ((Option Addr) × (Nat × Nat))) =>
  .chk (((0 : Int) ≤ (0 : Int)) ∧ (((0 : Int) ≤ (0 : Int)) ∧ ((0 : Int) ≤ ((((z4).2).2 : Nat) : Int)))) <|
  .ptr v fun (z5 : Addr) =>
  .store (Addr.add z5 2) (Value.slice (if (((z4).2).2 = 0) then (z4).1 else (Option.map (fun (y6 : Addr) => (Addr.add y6 0)) (z4).1)) 0 (((z4).2).2 - 0)) <|
  .ptr v fun (z7 : Addr) =>
  .store (Addr.add z7 3) (Value.string (ByteArray.mk #[])) <|
  .ptr v fun (z8 : Addr) =>
  .store (Addr.add z8 4) (Value.int IntKind.i64 (0 : Int)) <|
  .leaf 0 []
def fastjson_Value_reset.h : Hints := ⟨[], [], [], []⟩
noncomputable def fastjson_Value_reset.c : Code := (Tryz.f58.body).getD .skip
theorem fastjson_Value_reset.e (v : (Option Addr)) : fnT Tryz.prog fastjson_Value_reset.h Tryz.f58 fastjson_Value_reset.c [.v (Value.pointer v)] = fastjson_Value_reset.t v := by kernel_rfl
theorem fastjson_Value_reset.calls (v : (Option Addr)) {w : World} {R : Ending → World → Prop} (hs : sat Tryz.prog (fastjson_Value_reset.t v) (fun l vs w' => l = 0 ∧ R (.returned (retVal vs)) w') w) : Calls Tryz.prog 58 #[(Value.pointer v)] w R :=
  have h := calls_of_tree (w := w) (R := R) (args := [.v (Value.pointer v)]) (c := fastjson_Value_reset.c) Tryz.func58 (show Tryz.f58.body = some fastjson_Value_reset.c by kernel_rfl) (of_decide_eq_true (by kernel_rfl)) (fastjson_Value_reset.e v) hs
  h

/-! ### (*pub-tetrapla/pub/fastjson.Object).reset : function 72 -/
def fastjson_Object_reset.t (o : (Option Addr)) : T :=
  .ptr o fun (z0 : Addr) =>
  .load (Addr.add z0 0) .slice fun (z1 : ((Option Addr) × (Nat × Nat))) =>
  .eff (Builtin.clear_ (Call.argTypes (Call.mk (Callee.builtin Builtin.clear) #[(Operand.tmp 5)] #[88])) 0 #[(Value.slice (z1).1 ((z1).2).1 ((z1).2).2)]) (.tuple .nil) fun _ =>
  .ptr o fun (z2 : Addr) =>
  .load (Addr.add z2 0) .slice fun (z3 : ((Option Addr) × (Nat × Nat))) =>
  .chk (((0 : Int) ≤ (0 : Int)) ∧ (((0 : Int) ≤ (0 : Int)) ∧ ((0 : Int) ≤ ((((z3).2).2 : Nat) : Int)))) <|
  .ptr o fun (z4 : Addr) =>
  .store (Addr.add z4 0) (Value.slice (if (((z3).2).2 = 0) then (z3).1 else (Option.map (fun (y5 : Addr) => (Addr.add y5 0)) (z3).1)) 0 (((z3).2).2 - 0)) <|
  .ptr o fun (z6 : Addr) =>
  .store (Addr.add z6 1) (Value.bool Bool.false) <|
  .leaf 0 []
def fastjson_Object_reset.h : Hints := ⟨[], [], [], []⟩
noncomputable def fastjson_Object_reset.c : Code := (Tryz.f72.body).getD .skip
theorem fastjson_Object_reset.e (o : (Option Addr)) : fnT Tryz.prog fastjson_Object_reset.h Tryz.f72 fastjson_Object_reset.c [.v (Value.pointer o)] = fastjson_Object_reset.t o := by kernel_rfl
theorem fastjson_Object_reset.calls (o : (Option Addr)) {w : World} {R : Ending → World → Prop} (hs : sat Tryz.prog (fastjson_Object_reset.t o) (fun l vs w' => l = 0 ∧ R (.returned (retVal vs)) w') w) : Calls Tryz.prog 72 #[(Value.pointer o)] w R :=
  have h := calls_of_tree (w := w) (R := R) (args := [.v (Value.pointer o)]) (c := fastjson_Object_reset.c) Tryz.func72 (show Tryz.f72.body = some fastjson_Object_reset.c by kernel_rfl) (of_decide_eq_true (by kernel_rfl)) (fastjson_Object_reset.e o) hs
  h

/-! ### (*pub-tetrapla/pub/fastjson.Object).getKV : function 73 -/
def fastjson_Object_getKV.t (o : (Option Addr)) : T :=
  .drew <|
  .ptr o fun (z0 : Addr) =>
  .load (Addr.add z0 0) .slice fun (z1 : ((Option Addr) × (Nat × Nat))) =>
  .ptr o fun (z2 : Addr) =>
  .load (Addr.add z2 0) .slice fun (z3 : ((Option Addr) × (Nat × Nat))) =>
  .ite (decide (((((z1).2).2 : Nat) : Int) > ((((z3).2).1 : Nat) : Int))) (
    .drew <|
    .ptr o fun (z4 : Addr) =>
    .load (Addr.add z4 0) .slice fun (z5 : ((Option Addr) × (Nat × Nat))) =>
    .ptr o fun (z6 : Addr) =>
    .load (Addr.add z6 0) .slice fun (z7 : ((Option Addr) × (Nat × Nat))) =>
    .chk (((0 : Int) ≤ (0 : Int)) ∧ (((0 : Int) ≤ (IntKind.wrap IntKind.i64 (((((z7).2).1 : Nat) : Int) + (1 : Int)))) ∧ ((IntKind.wrap IntKind.i64 (((((z7).2).1 : Nat) : Int) + (1 : Int))) ≤ ((((z5).2).2 : Nat) : Int)))) <|
    .ptr o fun (z8 : Addr) =>
    .store (Addr.add z8 0) (Value.slice (if (((z5).2).2 = 0) then (z5).1 else (Option.map (fun (y9 : Addr) => (Addr.add y9 0)) (z5).1)) ((Int.toNat (IntKind.wrap IntKind.i64 (((((z7).2).1 : Nat) : Int) + (1 : Int)))) - 0) (((z5).2).2 - 0)) <|
    .drew <|
    .ptr o fun (z10 : Addr) =>
    .load (Addr.add z10 0) .slice fun (z11 : ((Option Addr) × (Nat × Nat))) =>
    .ptr o fun (z12 : Addr) =>
    .load (Addr.add z12 0) .slice fun (z13 : ((Option Addr) × (Nat × Nat))) =>
    .chk (((0 : Int) ≤ (IntKind.wrap IntKind.i64 (((((z13).2).1 : Nat) : Int) - (1 : Int)))) ∧ ((IntKind.wrap IntKind.i64 (((((z13).2).1 : Nat) : Int) - (1 : Int))) < ((((z11).2).1 : Nat) : Int))) <|
    .ptr (z11).1 fun (z14 : Addr) =>
    .leaf 0 [(Value.pointer (some (Addr.add z14 ((Int.toNat (IntKind.wrap IntKind.i64 (((((z13).2).1 : Nat) : Int) - (1 : Int)))) * 2))))]) (
    .ptr o fun (z15 : Addr) =>
    .load (Addr.add z15 0) .slice fun (z16 : ((Option Addr) × (Nat × Nat))) =>
    .eff (Instr.buildSlice 88 1 #[(0, (Value.agg #[(Value.string (ByteArray.mk #[])), (Value.pointer none)]))]) .slice fun (z17 : ((Option Addr) × (Nat × Nat))) =>
    .eff (Builtin.append_ (Call.argTypes (Call.mk (Callee.builtin Builtin.append) #[(Operand.tmp 32), (Operand.tmp 34)] #[88, 88])) 88 #[(Value.slice (z16).1 ((z16).2).1 ((z16).2).2), (Value.slice (z17).1 ((z17).2).1 ((z17).2).2)]) .slice fun (z18 : ((Option Addr) × (Nat × Nat))) =>
    .ptr o fun (z19 : Addr) =>
    .store (Addr.add z19 0) (Value.slice (z18).1 ((z18).2).1 ((z18).2).2) <|
    .drew <|
    .ptr o fun (z20 : Addr) =>
    .load (Addr.add z20 0) .slice fun (z21 : ((Option Addr) × (Nat × Nat))) =>
    .ptr o fun (z22 : Addr) =>
    .load (Addr.add z22 0) .slice fun (z23 : ((Option Addr) × (Nat × Nat))) =>
    .chk (((0 : Int) ≤ (IntKind.wrap IntKind.i64 (((((z23).2).1 : Nat) : Int) - (1 : Int)))) ∧ ((IntKind.wrap IntKind.i64 (((((z23).2).1 : Nat) : Int) - (1 : Int))) < ((((z21).2).1 : Nat) : Int))) <|
    .ptr (z21).1 fun (z24 : Addr) =>
    .leaf 0 [(Value.pointer (some (Addr.add z24 ((Int.toNat (IntKind.wrap IntKind.i64 (((((z23).2).1 : Nat) : Int) - (1 : Int)))) * 2))))])
def fastjson_Object_getKV.h : Hints := ⟨[], [], [], []⟩
noncomputable def fastjson_Object_getKV.c : Code := (Tryz.f73.body).getD .skip
theorem fastjson_Object_getKV.e (o : (Option Addr)) : fnT Tryz.prog fastjson_Object_getKV.h Tryz.f73 fastjson_Object_getKV.c [.v (Value.pointer o)] = fastjson_Object_getKV.t o := by kernel_rfl
theorem fastjson_Object_getKV.calls (o : (Option Addr)) {w : World} {R : Ending → World → Prop} (hs : sat Tryz.prog (fastjson_Object_getKV.t o) (fun l vs w' => l = 0 ∧ R (.returned (retVal vs)) w') w) : Calls Tryz.prog 73 #[(Value.pointer o)] w R :=
  have h := calls_of_tree (w := w) (R := R) (args := [.v (Value.pointer o)]) (c := fastjson_Object_getKV.c) Tryz.func73 (show Tryz.f73.body = some fastjson_Object_getKV.c by kernel_rfl) (of_decide_eq_true (by kernel_rfl)) (fastjson_Object_getKV.e o) hs
  h

/-! ### pub-tetrapla/pub/fastjson.parseRawKey : function 74 -/
def fastjson_parseRawKey.t1 (s : ByteArray) (i0 : Int) : T :=
  .ite (decide (i0 < (((ByteArray.size s) : Nat) : Int))) (
    .chk (((0 : Int) ≤ i0) ∧ (i0 < (((ByteArray.size s) : Nat) : Int))) <|
    .ite ((bt s i0) == (34 : Int)) (
      .drew <|
      .chk (((0 : Int) ≤ (0 : Int)) ∧ (((0 : Int) ≤ i0) ∧ (i0 ≤ (((ByteArray.size s) : Nat) : Int)))) <|
      .chk (((0 : Int) ≤ (IntKind.wrap IntKind.i64 (i0 + (1 : Int)))) ∧ (((IntKind.wrap IntKind.i64 (i0 + (1 : Int))) ≤ (((ByteArray.size s) : Nat) : Int)) ∧ ((((ByteArray.size s) : Nat) : Int) ≤ (((ByteArray.size s) : Nat) : Int)))) <|
      .leaf 0 [(Value.string (ByteArray.extract s 0 (Int.toNat i0))), (Value.string (ByteArray.extract s (Int.toNat (IntKind.wrap IntKind.i64 (i0 + (1 : Int)))) (Int.toNat (((ByteArray.size s) : Nat) : Int)))), Value.nilIface]) (
      .chk (((0 : Int) ≤ i0) ∧ (i0 < (((ByteArray.size s) : Nat) : Int))) <|
      .ite ((bt s i0) == (92 : Int)) (
        .call 46 #[(Value.string s)] (.tuple (.cons .str (.cons .str (.cons .any .nil)))) fun (z1 : (ByteArray × (ByteArray × (Value × PUnit)))) =>
        .leaf 0 [(Value.string (z1).1), (Value.string ((z1).2).1), (((z1).2).2).1]) (
        .leaf 1 [(Value.int IntKind.i64 (IntKind.wrap IntKind.i64 (i0 + (1 : Int))))]))) (
    .call 38 #[(Value.string (ByteArray.mk #[(109 : UInt8), (105 : UInt8), (115 : UInt8), (115 : UInt8), (105 : UInt8), (110 : UInt8), (103 : UInt8), (32 : UInt8), (99 : UInt8), (108 : UInt8), (111 : UInt8), (115 : UInt8), (105 : UInt8), (110 : UInt8), (103 : UInt8)]))] .any fun (v2 : Value) =>
    .leaf 0 [(Value.string s), (Value.string (ByteArray.mk #[])), v2])
def fastjson_parseRawKey.t (s : ByteArray) : T :=
  .loop 1 (.cons (.int .i64) .nil) [(Value.int IntKind.i64 (0 : Int))]
    (fun z => fastjson_parseRawKey.t1 s z.1)
def fastjson_parseRawKey.h : Hints := ⟨[], [], [], [(2, [(8, (.int .i64))])]⟩
noncomputable def fastjson_parseRawKey.c : Code := (Tryz.f74.body).getD .skip
theorem fastjson_parseRawKey.e (s : ByteArray) : fnT Tryz.prog fastjson_parseRawKey.h Tryz.f74 fastjson_parseRawKey.c [.v (Value.string s)] = fastjson_parseRawKey.t s := by kernel_rfl
theorem fastjson_parseRawKey.calls (s : ByteArray) {w : World} {R : Ending → World → Prop} (hs : sat Tryz.prog (fastjson_parseRawKey.t s) (fun l vs w' => l = 0 ∧ R (.returned (retVal vs)) w') w) : Calls Tryz.prog 74 #[(Value.string s)] w R :=
  have h := calls_of_tree (w := w) (R := R) (args := [.v (Value.string s)]) (c := fastjson_parseRawKey.c) Tryz.func74 (show Tryz.f74.body = some fastjson_parseRawKey.c by kernel_rfl) (of_decide_eq_true (by kernel_rfl)) (fastjson_parseRawKey.e s) hs
  h

/-! ### pub-tetrapla/laws.fjText : function 5 -/
def laws_fjText.t1 (text : ByteArray) (z0 : Addr) (b3 : Bool) : T :=
  .ite b3 (
    .effU (Instr.storeAt 26 (Value.pointer (some z0)) (Value.agg #[(Value.int IntKind.i64 (0 : Int)), (Value.string (ByteArray.mk #[])), (Value.slice none 0 0), (Value.slice none 0 0)])) <|
    .effS (Instr.loadAt 26 (Value.pointer (some z0))) (.agg (.cons (.int .i64) (.cons .str (.cons .slice (.cons .slice .nil))))) fun (z4 : (Int × (ByteArray × (((Option Addr) × (Nat × Nat)) × (((Option Addr) × (Nat × Nat)) × PUnit))))) =>
    .leaf 0 [(Value.agg #[(Value.int IntKind.i64 (z4).1), (Value.string ((z4).2).1), (Value.slice ((((z4).2).2).1).1 (((((z4).2).2).1).2).1 (((((z4).2).2).1).2).2), (Value.slice (((((z4).2).2).2).1).1 ((((((z4).2).2).2).1).2).1 ((((((z4).2).2).2).1).2).2)]), (Value.bool Bool.false)]) (
    .call 14 #[(Value.string text)] (.tuple (.cons (.agg (.cons (.int .i64) (.cons .str (.cons .slice (.cons .slice .nil))))) (.cons .bool .nil))) fun (z5 : ((Int × (ByteArray × (((Option Addr) × (Nat × Nat)) × (((Option Addr) × (Nat × Nat)) × PUnit)))) × (Bool × PUnit))) =>
    .alloc (Obj.cells #[(Value.int IntKind.i64 (0 : Int)), (Value.string (ByteArray.mk #[])), (Value.slice none 0 0), (Value.slice none 0 0)] 26 (0, 0)) fun (z6 : Addr) =>
    .effU (Instr.storeAt 26 (Value.pointer (some z6)) (Value.agg #[(Value.int IntKind.i64 ((z5).1).1), (Value.string (((z5).1).2).1), (Value.slice (((((z5).1).2).2).1).1 ((((((z5).1).2).2).1).2).1 ((((((z5).1).2).2).1).2).2), (Value.slice ((((((z5).1).2).2).2).1).1 (((((((z5).1).2).2).2).1).2).1 (((((((z5).1).2).2).2).1).2).2)])) <|
    .drew <|
    .effQ (Instr.loadAt 26 (Value.pointer (some z6))) (.agg (.cons (.int .i64) (.cons .str (.cons .slice (.cons .slice .nil))))) fun (z7 : (Int × (ByteArray × (((Option Addr) × (Nat × Nat)) × (((Option Addr) × (Nat × Nat)) × PUnit))))) =>
    .ite ((z5).2).1 (
      .effQ (Instr.loadAt 26 (Value.pointer (some z6))) (.agg (.cons (.int .i64) (.cons .str (.cons .slice (.cons .slice .nil))))) fun (z8 : (Int × (ByteArray × (((Option Addr) × (Nat × Nat)) × (((Option Addr) × (Nat × Nat)) × PUnit))))) =>
      .here fun (z9 : World) =>
      .call 15 #[(Value.agg #[(Value.int IntKind.i64 (z8).1), (Value.string ((z8).2).1), (Value.slice ((((z8).2).2).1).1 (((((z8).2).2).1).2).1 (((((z8).2).2).1).2).2), (Value.slice (((((z8).2).2).2).1).1 ((((((z8).2).2).2).1).2).1 ((((((z8).2).2).2).1).2).2)])] (.int .i64) fun (i10 : Int) =>
      .grew z9 <|
      .effU (Instr.storeAt 26 (Value.pointer (some z0)) (Value.agg #[(Value.int IntKind.i64 (z7).1), (Value.string ((z7).2).1), (Value.slice ((((z7).2).2).1).1 (((((z7).2).2).1).2).1 (((((z7).2).2).1).2).2), (Value.slice (((((z7).2).2).2).1).1 ((((((z7).2).2).2).1).2).1 ((((((z7).2).2).2).1).2).2)])) <|
      .effS (Instr.loadAt 26 (Value.pointer (some z0))) (.agg (.cons (.int .i64) (.cons .str (.cons .slice (.cons .slice .nil))))) fun (z11 : (Int × (ByteArray × (((Option Addr) × (Nat × Nat)) × (((Option Addr) × (Nat × Nat)) × PUnit))))) =>
      .leaf 0 [(Value.agg #[(Value.int IntKind.i64 (z11).1), (Value.string ((z11).2).1), (Value.slice ((((z11).2).2).1).1 (((((z11).2).2).1).2).1 (((((z11).2).2).1).2).2), (Value.slice (((((z11).2).2).2).1).1 ((((((z11).2).2).2).1).2).1 ((((((z11).2).2).2).1).2).2)]), (Value.bool (decide (i10 ≤ (250 : Int))))]) (
      .here fun (z12 : World) =>
      .grew z12 <|
      .effU (Instr.storeAt 26 (Value.pointer (some z0)) (Value.agg #[(Value.int IntKind.i64 (z7).1), (Value.string ((z7).2).1), (Value.slice ((((z7).2).2).1).1 (((((z7).2).2).1).2).1 (((((z7).2).2).1).2).2), (Value.slice (((((z7).2).2).2).1).1 ((((((z7).2).2).2).1).2).1 ((((((z7).2).2).2).1).2).2)])) <|
      .effS (Instr.loadAt 26 (Value.pointer (some z0))) (.agg (.cons (.int .i64) (.cons .str (.cons .slice (.cons .slice .nil))))) fun (z13 : (Int × (ByteArray × (((Option Addr) × (Nat × Nat)) × (((Option Addr) × (Nat × Nat)) × PUnit))))) =>
      .leaf 0 [(Value.agg #[(Value.int IntKind.i64 (z13).1), (Value.string ((z13).2).1), (Value.slice ((((z13).2).2).1).1 (((((z13).2).2).1).2).1 (((((z13).2).2).1).2).2), (Value.slice (((((z13).2).2).2).1).1 ((((((z13).2).2).2).1).2).1 ((((((z13).2).2).2).1).2).2)]), (Value.bool Bool.false)]))
def laws_fjText.t (text : ByteArray) : T :=
  .alloc (Obj.cells #[(Value.int IntKind.i64 (0 : Int)), (Value.string (ByteArray.mk #[])), (Value.slice none 0 0), (Value.slice none 0 0)] 26 (0, 0)) fun (z0 : Addr) =>
  .cut 1 (.cons .bool .nil) (
    .ite (decide ((((ByteArray.size text) : Nat) : Int) > (4000 : Int))) (
      .leaf 1 [(Value.bool Bool.true)]) (
      .call 12 #[(Value.string text)] .bool fun (b1 : Bool) =>
      .ite (!b1) (
        .leaf 1 [(Value.bool Bool.true)]) (
        .call 13 #[(Value.string text)] .bool fun (b2 : Bool) =>
        .leaf 1 [(Value.bool (!b2))])))
    (fun z => laws_fjText.t1 text z0 z.1)
def laws_fjText.h : Hints := ⟨[], [], [(1, [(18, .bool)])], []⟩
noncomputable def laws_fjText.c : Code := (Tryz.f5.body).getD .skip
theorem laws_fjText.e (text : ByteArray) : fnT Tryz.prog laws_fjText.h Tryz.f5 laws_fjText.c [.v (Value.string text)] = laws_fjText.t text := by kernel_rfl
theorem laws_fjText.calls (text : ByteArray) {w : World} {R : Ending → World → Prop} (hs : sat Tryz.prog (laws_fjText.t text) (fun l vs w' => l = 0 ∧ R (.returned (retVal vs)) w') w) : Calls Tryz.prog 5 #[(Value.string text)] w R :=
  have h := calls_of_tree (w := w) (R := R) (args := [.v (Value.string text)]) (c := laws_fjText.c) Tryz.func5 (show Tryz.f5.body = some laws_fjText.c by kernel_rfl) (of_decide_eq_true (by kernel_rfl)) (laws_fjText.e text) hs
  h

end Go.Proofs.YtkpnomdmnhhaoaaGreatDoor.Tr
