/- Trees of loaded functions, printed by wip/tools/rxprint (a program of this repo): each is what 'exec' comes to, held by the kernel. No statement of the set is proved here. -/
import Derived.Test.YtkpnomdmnhhaoaaGreatDoorRz
import Derived.Test.YtkpnomdmnhhaoaaGreatDoorProg
import Derived.KernelRfl
namespace Go.Proofs.YtkpnomdmnhhaoaaGreatDoor.Tr
open Go Go.Proofs Go.Proofs.YtkpnomdmnhhaoaaGreatDoor.Rx
set_option linter.unusedVariables false
set_option maxRecDepth 100000
/-! ### strconv.ParseUint : function 76 -/
def strconv_ParseUint.t (s : ByteArray) (base : Int) (bitSize : Int) : T :=
  .call 89 #[(Value.string s), (Value.int IntKind.i64 base), (Value.int IntKind.i64 bitSize)] (.tuple (.cons (.int .u64) (.cons .any .nil))) fun (z0 : (Int × (Value × PUnit))) =>
  .chk ((isIface ((z0).2).1) = Bool.true) <|
  .ite (!(isNil ((z0).2).1)) (
    .call 90 #[(Value.string (ByteArray.mk #[(80 : UInt8), (97 : UInt8), (114 : UInt8), (115 : UInt8), (101 : UInt8), (85 : UInt8), (105 : UInt8), (110 : UInt8), (116 : UInt8)])), (Value.string s), (Value.int IntKind.i64 base), (Value.int IntKind.i64 bitSize), ((z0).2).1] .any fun (v1 : Value) =>
    .leaf 0 [(Value.int IntKind.u64 (z0).1), v1]) (
    .leaf 0 [(Value.int IntKind.u64 (z0).1), Value.nilIface])
def strconv_ParseUint.h : Hints := ⟨[], [], [], []⟩
noncomputable def strconv_ParseUint.c : Code := (Tryz.f76.body).getD .skip
theorem strconv_ParseUint.e (s : ByteArray) (base : Int) (bitSize : Int) : fnT Tryz.prog strconv_ParseUint.h Tryz.f76 strconv_ParseUint.c [.v (Value.string s), .v (Value.int IntKind.i64 base), .v (Value.int IntKind.i64 bitSize)] = strconv_ParseUint.t s base bitSize := by kernel_rfl
theorem strconv_ParseUint.calls (s : ByteArray) (base : Int) (bitSize : Int) {w : World} {R : Ending → World → Prop} (hs : sat Tryz.prog (strconv_ParseUint.t s base bitSize) (fun l vs w' => l = 0 ∧ R (.returned (retVal vs)) w') w) : Calls Tryz.prog 76 #[(Value.string s), (Value.int IntKind.i64 base), (Value.int IntKind.i64 bitSize)] w R :=
  have h := calls_of_tree (w := w) (R := R) (args := [.v (Value.string s), .v (Value.int IntKind.i64 base), .v (Value.int IntKind.i64 bitSize)]) (c := strconv_ParseUint.c) Tryz.func76 (show Tryz.f76.body = some strconv_ParseUint.c by kernel_rfl) (of_decide_eq_true (by kernel_rfl)) (strconv_ParseUint.e s base bitSize) hs
  h

/-! ### internal/strconv.ParseUint : function 89 -/
def i_strconv_ParseUint.t5 (i7 : Int) (s8 : ByteArray) : T :=
  .leaf 6 [(Value.int IntKind.i64 i7), (Value.string s8)]
def i_strconv_ParseUint.t4 (q0 : ByteArray) (b6 : Bool) : T :=
  .cut 7 (.cons (.int .i64) (.cons .str .nil)) (
    .ite b6 (
      .chk (((0 : Int) ≤ (2 : Int)) ∧ (((2 : Int) ≤ (((ByteArray.size q0) : Nat) : Int)) ∧ ((((ByteArray.size q0) : Nat) : Int) ≤ (((ByteArray.size q0) : Nat) : Int)))) <|
      .leaf 7 [(Value.int IntKind.i64 (16 : Int)), (Value.string (ByteArray.extract q0 2 (Int.toNat (((ByteArray.size q0) : Nat) : Int))))]) (
      .chk (((0 : Int) ≤ (1 : Int)) ∧ (((1 : Int) ≤ (((ByteArray.size q0) : Nat) : Int)) ∧ ((((ByteArray.size q0) : Nat) : Int) ≤ (((ByteArray.size q0) : Nat) : Int)))) <|
      .leaf 7 [(Value.int IntKind.i64 (8 : Int)), (Value.string (ByteArray.extract q0 1 (Int.toNat (((ByteArray.size q0) : Nat) : Int))))]))
    (fun z => i_strconv_ParseUint.t5 z.1 z.2.1)
def i_strconv_ParseUint.t6 (i9 : Int) (s10 : ByteArray) : T :=
  .leaf 5 [(Value.int IntKind.i64 i9), (Value.string s10)]
def i_strconv_ParseUint.t3 (q0 : ByteArray) (b4 : Bool) : T :=
  .cut 6 (.cons (.int .i64) (.cons .str .nil)) (
    .ite b4 (
      .chk (((0 : Int) ≤ (2 : Int)) ∧ (((2 : Int) ≤ (((ByteArray.size q0) : Nat) : Int)) ∧ ((((ByteArray.size q0) : Nat) : Int) ≤ (((ByteArray.size q0) : Nat) : Int)))) <|
      .leaf 6 [(Value.int IntKind.i64 (8 : Int)), (Value.string (ByteArray.extract q0 2 (Int.toNat (((ByteArray.size q0) : Nat) : Int))))]) (
      .cut 7 (.cons .bool .nil) (
        .ite (decide ((((ByteArray.size q0) : Nat) : Int) ≥ (3 : Int))) (
          .chk (((0 : Int) ≤ (1 : Int)) ∧ ((1 : Int) < (((ByteArray.size q0) : Nat) : Int))) <|
          .call 94 #[(Value.int IntKind.u8 (bt q0 (1 : Int)))] (.int .u8) fun (i5 : Int) =>
          .leaf 7 [(Value.bool (i5 == (120 : Int)))]) (
          .leaf 7 [(Value.bool Bool.false)]))
        (fun z => i_strconv_ParseUint.t4 q0 z.1)))
    (fun z => i_strconv_ParseUint.t6 z.1 z.2.1)
def i_strconv_ParseUint.t7 (i11 : Int) (s12 : ByteArray) : T :=
  .leaf 4 [(Value.int IntKind.i64 i11), (Value.string s12)]
def i_strconv_ParseUint.t2 (q0 : ByteArray) (b2 : Bool) : T :=
  .cut 5 (.cons (.int .i64) (.cons .str .nil)) (
    .ite b2 (
      .chk (((0 : Int) ≤ (2 : Int)) ∧ (((2 : Int) ≤ (((ByteArray.size q0) : Nat) : Int)) ∧ ((((ByteArray.size q0) : Nat) : Int) ≤ (((ByteArray.size q0) : Nat) : Int)))) <|
      .leaf 5 [(Value.int IntKind.i64 (2 : Int)), (Value.string (ByteArray.extract q0 2 (Int.toNat (((ByteArray.size q0) : Nat) : Int))))]) (
      .cut 6 (.cons .bool .nil) (
        .ite (decide ((((ByteArray.size q0) : Nat) : Int) ≥ (3 : Int))) (
          .chk (((0 : Int) ≤ (1 : Int)) ∧ ((1 : Int) < (((ByteArray.size q0) : Nat) : Int))) <|
          .call 94 #[(Value.int IntKind.u8 (bt q0 (1 : Int)))] (.int .u8) fun (i3 : Int) =>
          .leaf 6 [(Value.bool (i3 == (111 : Int)))]) (
          .leaf 6 [(Value.bool Bool.false)]))
        (fun z => i_strconv_ParseUint.t3 q0 z.1)))
    (fun z => i_strconv_ParseUint.t7 z.1 z.2.1)
def i_strconv_ParseUint.t8 (i13 : Int) (s14 : ByteArray) : T :=
  .leaf 3 [(Value.int IntKind.i64 i13), (Value.string s14)]
def i_strconv_ParseUint.t9 (i15 : Int) (s16 : ByteArray) : T :=
  .leaf 2 [(Value.int IntKind.i64 i15), (Value.string s16)]
def i_strconv_ParseUint.t10 (i17 : Int) (s18 : ByteArray) : T :=
  .leaf 1 [(Value.int IntKind.i64 i17), (Value.string s18)]
def i_strconv_ParseUint.t1 (q0 : ByteArray) (q1 : Int) (b0 : Bool) : T :=
  .cut 2 (.cons (.int .i64) (.cons .str .nil)) (
    .ite b0 (
      .leaf 2 [(Value.int IntKind.i64 q1), (Value.string q0)]) (
      .ite (q1 == (0 : Int)) (
        .chk (((0 : Int) ≤ (0 : Int)) ∧ ((0 : Int) < (((ByteArray.size q0) : Nat) : Int))) <|
        .cut 3 (.cons (.int .i64) (.cons .str .nil)) (
          .ite ((bt q0 (0 : Int)) == (48 : Int)) (
            .cut 4 (.cons (.int .i64) (.cons .str .nil)) (
              .cut 5 (.cons .bool .nil) (
                .ite (decide ((((ByteArray.size q0) : Nat) : Int) ≥ (3 : Int))) (
                  .chk (((0 : Int) ≤ (1 : Int)) ∧ ((1 : Int) < (((ByteArray.size q0) : Nat) : Int))) <|
                  .call 94 #[(Value.int IntKind.u8 (bt q0 (1 : Int)))] (.int .u8) fun (i1 : Int) =>
                  .leaf 5 [(Value.bool (i1 == (98 : Int)))]) (
                  .leaf 5 [(Value.bool Bool.false)]))
                (fun z => i_strconv_ParseUint.t2 q0 z.1))
              (fun z => i_strconv_ParseUint.t8 z.1 z.2.1)) (
            .leaf 3 [(Value.int IntKind.i64 (10 : Int)), (Value.string q0)]))
          (fun z => i_strconv_ParseUint.t9 z.1 z.2.1)) (
        .leaf 0 [(Value.int IntKind.u64 (0 : Int)), (Value.iface 128 (Value.int IntKind.i64 (3 : Int)))])))
    (fun z => i_strconv_ParseUint.t10 z.1 z.2.1)
def i_strconv_ParseUint.t12 (q2 : Int) (b21 : Bool) : T :=
  .ite b21 (
    .leaf 0 [(Value.int IntKind.u64 (0 : Int)), (Value.iface 128 (Value.int IntKind.i64 (4 : Int)))]) (
    .leaf 1 [(Value.int IntKind.i64 q2)])
def i_strconv_ParseUint.t14 (i23 : Int) : T :=
  .leaf 2 [(Value.int IntKind.u64 i23)]
def i_strconv_ParseUint.t15 (i24 : Int) : T :=
  .leaf 1 [(Value.int IntKind.u64 i24)]
def i_strconv_ParseUint.t20 (i31 : Int) (b36 : Bool) : T :=
  .ite b36 (
    .call 94 #[(Value.int IntKind.u8 i31)] (.int .u8) fun (i37 : Int) =>
    .leaf 3 [(Value.int IntKind.u8 (IntKind.wrap IntKind.u8 ((IntKind.wrap IntKind.u8 (i37 - (97 : Int))) + (10 : Int))))]) (
    .leaf 0 [(Value.int IntKind.u64 (0 : Int)), (Value.iface 128 (Value.int IntKind.i64 (2 : Int)))])
def i_strconv_ParseUint.t21 (b29 : Bool) (i38 : Int) : T :=
  .leaf 2 [(Value.bool b29), (Value.int IntKind.u8 i38)]
def i_strconv_ParseUint.t19 (b29 : Bool) (i31 : Int) (b33 : Bool) : T :=
  .cut 3 (.cons (.int .u8) .nil) (
    .ite b33 (
      .leaf 3 [(Value.int IntKind.u8 (IntKind.wrap IntKind.u8 (i31 - (48 : Int))))]) (
      .cut 4 (.cons .bool .nil) (
        .call 94 #[(Value.int IntKind.u8 i31)] (.int .u8) fun (i34 : Int) =>
        .ite (decide ((97 : Int) ≤ i34)) (
          .call 94 #[(Value.int IntKind.u8 i31)] (.int .u8) fun (i35 : Int) =>
          .leaf 4 [(Value.bool (decide (i35 ≤ (122 : Int))))]) (
          .leaf 4 [(Value.bool Bool.false)]))
        (fun z => i_strconv_ParseUint.t20 i31 z.1)))
    (fun z => i_strconv_ParseUint.t21 b29 z.1)
def i_strconv_ParseUint.t18 (i27 : Int) (i28 : Int) (b29 : Bool) (i31 : Int) (b32 : Bool) : T :=
  .ite b32 (
    .leaf 1 [(Value.int IntKind.i64 (IntKind.wrap IntKind.i64 (i27 + (1 : Int)))), (Value.int IntKind.u64 i28), (Value.bool Bool.true)]) (
    .cut 3 (.cons .bool .nil) (
      .ite (decide ((48 : Int) ≤ i31)) (
        .leaf 3 [(Value.bool (decide (i31 ≤ (57 : Int))))]) (
        .leaf 3 [(Value.bool Bool.false)]))
      (fun z => i_strconv_ParseUint.t19 b29 i31 z.1))
def i_strconv_ParseUint.t22 (i19 : Int) (i22 : Int) (i25 : Int) (i27 : Int) (i28 : Int) (b39 : Bool) (i40 : Int) : T :=
  .ite (decide (i40 ≥ (IntKind.wrap IntKind.u8 i19))) (
    .leaf 0 [(Value.int IntKind.u64 (0 : Int)), (Value.iface 128 (Value.int IntKind.i64 (2 : Int)))]) (
    .ite (decide (i28 ≥ i25)) (
      .leaf 0 [(Value.int IntKind.u64 (IntKind.wrap IntKind.u64 ((IntKind.wrap IntKind.u64 ((1 : Int) * ((2 : Int) ^ (Min.min (Int.toNat (IntKind.wrap IntKind.u64 i22)) 64)))) - (1 : Int)))), (Value.iface 128 (Value.int IntKind.i64 (1 : Int)))]) (
      .ite (decide ((IntKind.wrap IntKind.u64 ((IntKind.wrap IntKind.u64 (i28 * (IntKind.wrap IntKind.u64 i19))) + (IntKind.wrap IntKind.u64 i40))) < (IntKind.wrap IntKind.u64 (i28 * (IntKind.wrap IntKind.u64 i19))))) (
        .leaf 0 [(Value.int IntKind.u64 (IntKind.wrap IntKind.u64 ((IntKind.wrap IntKind.u64 ((1 : Int) * ((2 : Int) ^ (Min.min (Int.toNat (IntKind.wrap IntKind.u64 i22)) 64)))) - (1 : Int)))), (Value.iface 128 (Value.int IntKind.i64 (1 : Int)))]) (
        .ite (decide ((IntKind.wrap IntKind.u64 ((IntKind.wrap IntKind.u64 (i28 * (IntKind.wrap IntKind.u64 i19))) + (IntKind.wrap IntKind.u64 i40))) > (IntKind.wrap IntKind.u64 ((IntKind.wrap IntKind.u64 ((1 : Int) * ((2 : Int) ^ (Min.min (Int.toNat (IntKind.wrap IntKind.u64 i22)) 64)))) - (1 : Int))))) (
          .leaf 0 [(Value.int IntKind.u64 (IntKind.wrap IntKind.u64 ((IntKind.wrap IntKind.u64 ((1 : Int) * ((2 : Int) ^ (Min.min (Int.toNat (IntKind.wrap IntKind.u64 i22)) 64)))) - (1 : Int)))), (Value.iface 128 (Value.int IntKind.i64 (1 : Int)))]) (
          .leaf 1 [(Value.int IntKind.i64 (IntKind.wrap IntKind.i64 (i27 + (1 : Int)))), (Value.int IntKind.u64 (IntKind.wrap IntKind.u64 ((IntKind.wrap IntKind.u64 (i28 * (IntKind.wrap IntKind.u64 i19))) + (IntKind.wrap IntKind.u64 i40)))), (Value.bool b39)]))))
def i_strconv_ParseUint.t17 (q0 : ByteArray) (q1 : Int) (i19 : Int) (i22 : Int) (i25 : Int) (z26 : ((Option Addr) × (Nat × Nat))) (i27 : Int) (i28 : Int) (b29 : Bool) : T :=
  .ite (decide (i27 < ((((z26).2).1 : Nat) : Int))) (
    .chk (((0 : Int) ≤ i27) ∧ (i27 < ((((z26).2).1 : Nat) : Int))) <|
    .ptr (z26).1 fun (z30 : Addr) =>
    .load (Addr.add z30 ((Int.toNat i27) * 1)) (.int .u8) fun (i31 : Int) =>
    .cut 2 (.cons .bool (.cons (.int .u8) .nil)) (
      .cut 3 (.cons .bool .nil) (
        .ite (i31 == (95 : Int)) (
          .leaf 3 [(Value.bool (q1 == (0 : Int)))]) (
          .leaf 3 [(Value.bool Bool.false)]))
        (fun z => i_strconv_ParseUint.t18 i27 i28 b29 i31 z.1))
      (fun z => i_strconv_ParseUint.t22 i19 i22 i25 i27 i28 z.1 z.2.1)) (
    .ite b29 (
      .call 95 #[(Value.string q0)] .bool fun (b41 : Bool) =>
      .ite (!b41) (
        .leaf 0 [(Value.int IntKind.u64 (0 : Int)), (Value.iface 128 (Value.int IntKind.i64 (2 : Int)))]) (
        .leaf 0 [(Value.int IntKind.u64 i28), Value.nilIface])) (
      .leaf 0 [(Value.int IntKind.u64 i28), Value.nilIface]))
def i_strconv_ParseUint.t16 (q0 : ByteArray) (q1 : Int) (i19 : Int) (s20 : ByteArray) (i22 : Int) (i25 : Int) : T :=
  .chk ((0 : Int) ≤ (IntKind.wrap IntKind.u64 i22)) <|
  .eff (convert 9 43 (Value.string s20)) .slice fun (z26 : ((Option Addr) × (Nat × Nat))) =>
  .loop 1 (.cons (.int .i64) (.cons (.int .u64) (.cons .bool .nil))) [(Value.int IntKind.i64 (0 : Int)), (Value.int IntKind.u64 (0 : Int)), (Value.bool Bool.false)]
    (fun z => i_strconv_ParseUint.t17 q0 q1 i19 i22 i25 z26 z.1 z.2.1 z.2.2.1)
def i_strconv_ParseUint.t13 (q0 : ByteArray) (q1 : Int) (i19 : Int) (s20 : ByteArray) (i22 : Int) : T :=
  .cut 1 (.cons (.int .u64) .nil) (
    .cut 2 (.cons (.int .u64) .nil) (
      .ite (i19 == (10 : Int)) (
        .leaf 2 [(Value.int IntKind.u64 (1844674407370955162 : Int))]) (
        .cut 3 (.cons (.int .u64) .nil) (
          .ite (i19 == (16 : Int)) (
            .leaf 3 [(Value.int IntKind.u64 (1152921504606846976 : Int))]) (
            .chk ((IntKind.wrap IntKind.u64 i19) ≠ (0 : Int)) <|
            .leaf 3 [(Value.int IntKind.u64 (IntKind.wrap IntKind.u64 ((IntKind.wrap IntKind.u64 (Int.tdiv (18446744073709551615 : Int) (IntKind.wrap IntKind.u64 i19))) + (1 : Int))))]))
          (fun z => i_strconv_ParseUint.t14 z.1)))
      (fun z => i_strconv_ParseUint.t15 z.1))
    (fun z => i_strconv_ParseUint.t16 q0 q1 i19 s20 i22 z.1)
def i_strconv_ParseUint.t11 (q0 : ByteArray) (q1 : Int) (q2 : Int) (i19 : Int) (s20 : ByteArray) : T :=
  .cut 1 (.cons (.int .i64) .nil) (
    .ite (q2 == (0 : Int)) (
      .leaf 1 [(Value.int IntKind.i64 (64 : Int))]) (
      .cut 2 (.cons .bool .nil) (
        .ite (decide (q2 < (0 : Int))) (
          .leaf 2 [(Value.bool Bool.true)]) (
          .leaf 2 [(Value.bool (decide (q2 > (64 : Int))))]))
        (fun z => i_strconv_ParseUint.t12 q2 z.1)))
    (fun z => i_strconv_ParseUint.t13 q0 q1 i19 s20 z.1)
def i_strconv_ParseUint.t (q0 : ByteArray) (q1 : Int) (q2 : Int) : T :=
  .ite (strEq q0 (ByteArray.mk #[])) (
    .leaf 0 [(Value.int IntKind.u64 (0 : Int)), (Value.iface 128 (Value.int IntKind.i64 (2 : Int)))]) (
    .cut 1 (.cons (.int .i64) (.cons .str .nil)) (
      .cut 2 (.cons .bool .nil) (
        .ite (decide ((2 : Int) ≤ q1)) (
          .leaf 2 [(Value.bool (decide (q1 ≤ (36 : Int))))]) (
          .leaf 2 [(Value.bool Bool.false)]))
        (fun z => i_strconv_ParseUint.t1 q0 q1 z.1))
      (fun z => i_strconv_ParseUint.t11 q0 q1 q2 z.1 z.2.1))
def i_strconv_ParseUint.h : Hints := ⟨[(25, [(1, (.int .i64)), (0, .str)]), (37, [(1, (.int .i64)), (0, .str)]), (40, [(1, (.int .i64)), (0, .str)]), (52, [(1, (.int .i64)), (0, .str)]), (64, [(1, (.int .i64)), (0, .str)]), (77, [(2, (.int .i64))]), (90, [(10, (.int .u64))]), (92, [(10, (.int .u64))]), (112, [(16, (.int .u8))])], [(0, [(1, (.int .i64)), (0, .str)]), (1, [(1, (.int .i64)), (0, .str)]), (2, [(10, (.int .u64))]), (5, [(12, .bool), (16, (.int .u8))])], [(6, [(25, .bool)]), (12, [(40, .bool)]), (15, [(52, .bool)]), (18, [(64, .bool)]), (23, [(83, .bool)]), (40, [(106, .bool)]), (42, [(112, .bool)]), (44, [(121, .bool)])], [(36, [(101, (.int .i64)), (13, (.int .u64)), (12, .bool)])]⟩
noncomputable def i_strconv_ParseUint.c : Code := (Tryz.f89.body).getD .skip
theorem i_strconv_ParseUint.e (q0 : ByteArray) (q1 : Int) (q2 : Int) : fnT Tryz.prog i_strconv_ParseUint.h Tryz.f89 i_strconv_ParseUint.c [.v (Value.string q0), .v (Value.int IntKind.i64 q1), .v (Value.int IntKind.i64 q2)] = i_strconv_ParseUint.t q0 q1 q2 := by kernel_rfl
theorem i_strconv_ParseUint.calls (q0 : ByteArray) (q1 : Int) (q2 : Int) {w : World} {R : Ending → World → Prop} (hs : sat Tryz.prog (i_strconv_ParseUint.t q0 q1 q2) (fun l vs w' => l = 0 ∧ R (.returned (retVal vs)) w') w) : Calls Tryz.prog 89 #[(Value.string q0), (Value.int IntKind.i64 q1), (Value.int IntKind.i64 q2)] w R :=
  have h := calls_of_tree (w := w) (R := R) (args := [.v (Value.string q0), .v (Value.int IntKind.i64 q1), .v (Value.int IntKind.i64 q2)]) (c := i_strconv_ParseUint.c) Tryz.func89 (show Tryz.f89.body = some i_strconv_ParseUint.c by kernel_rfl) (of_decide_eq_true (by kernel_rfl)) (i_strconv_ParseUint.e q0 q1 q2) hs
  h

/-! ### internal/strconv.lower : function 94 -/
def i_strconv_lower.t (c0 : Int) : T :=
  .leaf 0 [(Value.int IntKind.u8 (IntKind.wrap IntKind.u8 (((BitVec.toNat ((BitVec.ofInt 8 c0) ||| (BitVec.ofInt 8 (32 : Int)))) : Nat) : Int)))]
def i_strconv_lower.h : Hints := ⟨[], [], [], []⟩
noncomputable def i_strconv_lower.c : Code := (Tryz.f94.body).getD .skip
theorem i_strconv_lower.e (c0 : Int) : fnT Tryz.prog i_strconv_lower.h Tryz.f94 i_strconv_lower.c [.v (Value.int IntKind.u8 c0)] = i_strconv_lower.t c0 := by kernel_rfl
theorem i_strconv_lower.calls (c0 : Int) {w : World} {R : Ending → World → Prop} (hs : sat Tryz.prog (i_strconv_lower.t c0) (fun l vs w' => l = 0 ∧ R (.returned (retVal vs)) w') w) : Calls Tryz.prog 94 #[(Value.int IntKind.u8 c0)] w R :=
  have h := calls_of_tree (w := w) (R := R) (args := [.v (Value.int IntKind.u8 c0)]) (c := i_strconv_lower.c) Tryz.func94 (show Tryz.f94.body = some i_strconv_lower.c by kernel_rfl) (of_decide_eq_true (by kernel_rfl)) (i_strconv_lower.e c0) hs
  h

/-! ### unicode/utf16.IsSurrogate : function 77 -/
def utf16_IsSurrogate.t (r : Int) : T :=
  .ite (decide ((55296 : Int) ≤ r)) (
    .leaf 0 [(Value.bool (decide (r < (57344 : Int))))]) (
    .leaf 0 [(Value.bool Bool.false)])
def utf16_IsSurrogate.h : Hints := ⟨[], [], [], []⟩
noncomputable def utf16_IsSurrogate.c : Code := (Tryz.f77.body).getD .skip
theorem utf16_IsSurrogate.e (r : Int) : fnT Tryz.prog utf16_IsSurrogate.h Tryz.f77 utf16_IsSurrogate.c [.v (Value.int IntKind.i32 r)] = utf16_IsSurrogate.t r := by kernel_rfl
theorem utf16_IsSurrogate.calls (r : Int) {w : World} {R : Ending → World → Prop} (hs : sat Tryz.prog (utf16_IsSurrogate.t r) (fun l vs w' => l = 0 ∧ R (.returned (retVal vs)) w') w) : Calls Tryz.prog 77 #[(Value.int IntKind.i32 r)] w R :=
  have h := calls_of_tree (w := w) (R := R) (args := [.v (Value.int IntKind.i32 r)]) (c := utf16_IsSurrogate.c) Tryz.func77 (show Tryz.f77.body = some utf16_IsSurrogate.c by kernel_rfl) (of_decide_eq_true (by kernel_rfl)) (utf16_IsSurrogate.e r) hs
  h

/-! ### unicode/utf16.DecodeRune : function 78 -/
def utf16_DecodeRune.t (r1 : Int) (r2 : Int) : T :=
  .ite (decide ((55296 : Int) ≤ r1)) (
    .ite (decide (r1 < (56320 : Int))) (
      .ite (decide ((56320 : Int) ≤ r2)) (
        .ite (decide (r2 < (57344 : Int))) (
          .chk ((0 : Int) ≤ (10 : Int)) <|
          .leaf 0 [(Value.int IntKind.i32 (IntKind.wrap IntKind.i32 ((IntKind.wrap IntKind.i32 (((BitVec.toNat ((BitVec.ofInt 32 (IntKind.wrap IntKind.i32 ((IntKind.wrap IntKind.i32 (r1 - (55296 : Int))) * (1024 : Int)))) ||| (BitVec.ofInt 32 (IntKind.wrap IntKind.i32 (r2 - (56320 : Int)))))) : Nat) : Int)) + (65536 : Int))))]) (
          .leaf 0 [(Value.int IntKind.i32 (65533 : Int))])) (
        .leaf 0 [(Value.int IntKind.i32 (65533 : Int))])) (
      .leaf 0 [(Value.int IntKind.i32 (65533 : Int))])) (
    .leaf 0 [(Value.int IntKind.i32 (65533 : Int))])
def utf16_DecodeRune.h : Hints := ⟨[], [], [], []⟩
noncomputable def utf16_DecodeRune.c : Code := (Tryz.f78.body).getD .skip
theorem utf16_DecodeRune.e (r1 : Int) (r2 : Int) : fnT Tryz.prog utf16_DecodeRune.h Tryz.f78 utf16_DecodeRune.c [.v (Value.int IntKind.i32 r1), .v (Value.int IntKind.i32 r2)] = utf16_DecodeRune.t r1 r2 := by kernel_rfl
theorem utf16_DecodeRune.calls (r1 : Int) (r2 : Int) {w : World} {R : Ending → World → Prop} (hs : sat Tryz.prog (utf16_DecodeRune.t r1 r2) (fun l vs w' => l = 0 ∧ R (.returned (retVal vs)) w') w) : Calls Tryz.prog 78 #[(Value.int IntKind.i32 r1), (Value.int IntKind.i32 r2)] w R :=
  have h := calls_of_tree (w := w) (R := R) (args := [.v (Value.int IntKind.i32 r1), .v (Value.int IntKind.i32 r2)]) (c := utf16_DecodeRune.c) Tryz.func78 (show Tryz.f78.body = some utf16_DecodeRune.c by kernel_rfl) (of_decide_eq_true (by kernel_rfl)) (utf16_DecodeRune.e r1 r2) hs
  h

end Go.Proofs.YtkpnomdmnhhaoaaGreatDoor.Tr
