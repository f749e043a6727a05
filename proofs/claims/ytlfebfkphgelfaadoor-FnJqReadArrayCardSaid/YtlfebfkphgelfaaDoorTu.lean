/- Trees of loaded functions, printed by wip/tools/rxprint (a program of this repo): each is what 'exec' comes to, held by the kernel. No statement of the set is proved here. -/
import Derived.Test.YtlfebfkphgelfaaDoorRz
import Derived.Test.YtlfebfkphgelfaaDoorProg
import Derived.KernelRfl
namespace Go.Proofs.YtlfebfkphgelfaaDoor.Tr
open Go Go.Proofs Go.Proofs.YtlfebfkphgelfaaDoor.Rx
set_option linter.unusedVariables false
set_option maxRecDepth 100000
/-! ### unicode/utf8.EncodeRune : function 87 -/
def utf8_EncodeRune.t (p : (Option Addr)) (p_len : Nat) (p_cap : Nat) (r : Int) : T :=
  .ite (decide ((IntKind.wrap IntKind.u32 r) ≤ (127 : Int))) (
    .chk (((0 : Int) ≤ (0 : Int)) ∧ ((0 : Int) < ((p_len : Nat) : Int))) <|
    .ptr p fun (z0 : Addr) =>
    .store (Addr.add z0 0) (Value.int IntKind.u8 (IntKind.wrap IntKind.u8 r)) <|
    .leaf 0 [(Value.int IntKind.i64 (1 : Int))]) (
    .call 96 #[(Value.slice p p_len p_cap), (Value.int IntKind.i32 r)] (.int .i64) fun (i1 : Int) =>
    .leaf 0 [(Value.int IntKind.i64 i1)])
def utf8_EncodeRune.h : Hints := ⟨[], [], [], []⟩
noncomputable def utf8_EncodeRune.c : Code := (Tryd.f87.body).getD .skip
theorem utf8_EncodeRune.e (p : (Option Addr)) (p_len : Nat) (p_cap : Nat) (r : Int) : fnT Tryd.prog utf8_EncodeRune.h Tryd.f87 utf8_EncodeRune.c [.v (Value.slice p p_len p_cap), .v (Value.int IntKind.i32 r)] = utf8_EncodeRune.t p p_len p_cap r := by kernel_rfl
theorem utf8_EncodeRune.calls (p : (Option Addr)) (p_len : Nat) (p_cap : Nat) (r : Int) {w : World} {R : Ending → World → Prop} (hs : sat Tryd.prog (utf8_EncodeRune.t p p_len p_cap r) (fun l vs w' => l = 0 ∧ R (.returned (retVal vs)) w') w) : Calls Tryd.prog 87 #[(Value.slice p p_len p_cap), (Value.int IntKind.i32 r)] w R :=
  have h := calls_of_tree (w := w) (R := R) (args := [.v (Value.slice p p_len p_cap), .v (Value.int IntKind.i32 r)]) (c := utf8_EncodeRune.c) Tryd.func87 (show Tryd.f87.body = some utf8_EncodeRune.c by kernel_rfl) (of_decide_eq_true (by kernel_rfl)) (utf8_EncodeRune.e p p_len p_cap r) hs
  h

/-! ### unicode/utf8.encodeRuneNonASCII : function 96 -/
def utf8_encodeRuneNonASCII.t1 (b4 : Bool) : T :=
  .leaf 1 [(Value.bool b4), (Value.int IntKind.i64 (0 : Int))]
def utf8_encodeRuneNonASCII.t3 (q0 : (Option Addr)) (q0_len : Nat) (q1 : Int) (b12 : Bool) : T :=
  .ite b12 (
    .chk (((0 : Int) ≤ (3 : Int)) ∧ ((3 : Int) < ((q0_len : Nat) : Int))) <|
    .ptr q0 fun (z13 : Addr) =>
    .load (Addr.add z13 3) (.int .u8) fun (i14 : Int) =>
    .chk ((0 : Int) ≤ (18 : Int)) <|
    .chk (((0 : Int) ≤ (0 : Int)) ∧ ((0 : Int) < ((q0_len : Nat) : Int))) <|
    .ptr q0 fun (z15 : Addr) =>
    .store (Addr.add z15 0) (Value.int IntKind.u8 (IntKind.wrap IntKind.u8 (((BitVec.toNat ((BitVec.ofInt 8 (240 : Int)) ||| (BitVec.ofInt 8 (IntKind.wrap IntKind.u8 (Int.fdiv q1 (262144 : Int)))))) : Nat) : Int))) <|
    .chk ((0 : Int) ≤ (12 : Int)) <|
    .chk (((0 : Int) ≤ (1 : Int)) ∧ ((1 : Int) < ((q0_len : Nat) : Int))) <|
    .ptr q0 fun (z16 : Addr) =>
    .store (Addr.add z16 1) (Value.int IntKind.u8 (IntKind.wrap IntKind.u8 (((BitVec.toNat ((BitVec.ofInt 8 (128 : Int)) ||| (BitVec.ofInt 8 (IntKind.wrap IntKind.u8 (((BitVec.toNat ((BitVec.ofInt 8 (IntKind.wrap IntKind.u8 (Int.fdiv q1 (4096 : Int)))) &&& (BitVec.ofInt 8 (63 : Int)))) : Nat) : Int))))) : Nat) : Int))) <|
    .chk ((0 : Int) ≤ (6 : Int)) <|
    .chk (((0 : Int) ≤ (2 : Int)) ∧ ((2 : Int) < ((q0_len : Nat) : Int))) <|
    .ptr q0 fun (z17 : Addr) =>
    .store (Addr.add z17 2) (Value.int IntKind.u8 (IntKind.wrap IntKind.u8 (((BitVec.toNat ((BitVec.ofInt 8 (128 : Int)) ||| (BitVec.ofInt 8 (IntKind.wrap IntKind.u8 (((BitVec.toNat ((BitVec.ofInt 8 (IntKind.wrap IntKind.u8 (Int.fdiv q1 (64 : Int)))) &&& (BitVec.ofInt 8 (63 : Int)))) : Nat) : Int))))) : Nat) : Int))) <|
    .chk (((0 : Int) ≤ (3 : Int)) ∧ ((3 : Int) < ((q0_len : Nat) : Int))) <|
    .ptr q0 fun (z18 : Addr) =>
    .store (Addr.add z18 3) (Value.int IntKind.u8 (IntKind.wrap IntKind.u8 (((BitVec.toNat ((BitVec.ofInt 8 (128 : Int)) ||| (BitVec.ofInt 8 (IntKind.wrap IntKind.u8 (((BitVec.toNat ((BitVec.ofInt 8 (IntKind.wrap IntKind.u8 q1)) &&& (BitVec.ofInt 8 (63 : Int)))) : Nat) : Int))))) : Nat) : Int))) <|
    .leaf 0 [(Value.int IntKind.i64 (4 : Int))]) (
    .chk (((0 : Int) ≤ (2 : Int)) ∧ ((2 : Int) < ((q0_len : Nat) : Int))) <|
    .ptr q0 fun (z19 : Addr) =>
    .load (Addr.add z19 2) (.int .u8) fun (i20 : Int) =>
    .chk (((0 : Int) ≤ (0 : Int)) ∧ ((0 : Int) < ((q0_len : Nat) : Int))) <|
    .ptr q0 fun (z21 : Addr) =>
    .store (Addr.add z21 0) (Value.int IntKind.u8 (239 : Int)) <|
    .chk (((0 : Int) ≤ (1 : Int)) ∧ ((1 : Int) < ((q0_len : Nat) : Int))) <|
    .ptr q0 fun (z22 : Addr) =>
    .store (Addr.add z22 1) (Value.int IntKind.u8 (191 : Int)) <|
    .chk (((0 : Int) ≤ (2 : Int)) ∧ ((2 : Int) < ((q0_len : Nat) : Int))) <|
    .ptr q0 fun (z23 : Addr) =>
    .store (Addr.add z23 2) (Value.int IntKind.u8 (189 : Int)) <|
    .leaf 0 [(Value.int IntKind.i64 (3 : Int))])
def utf8_encodeRuneNonASCII.t4 (i25 : Int) : T :=
  .leaf 0 [(Value.int IntKind.i64 i25)]
def utf8_encodeRuneNonASCII.t2 (q0 : (Option Addr)) (q0_len : Nat) (q1 : Int) (b5 : Bool) : T :=
  .cut 1 (.cons .bool (.cons (.int .i64) .nil)) (
    .ite b5 (
      .chk (((0 : Int) ≤ (2 : Int)) ∧ ((2 : Int) < ((q0_len : Nat) : Int))) <|
      .ptr q0 fun (z7 : Addr) =>
      .load (Addr.add z7 2) (.int .u8) fun (i8 : Int) =>
      .chk ((0 : Int) ≤ (12 : Int)) <|
      .chk (((0 : Int) ≤ (0 : Int)) ∧ ((0 : Int) < ((q0_len : Nat) : Int))) <|
      .ptr q0 fun (z9 : Addr) =>
      .store (Addr.add z9 0) (Value.int IntKind.u8 (IntKind.wrap IntKind.u8 (((BitVec.toNat ((BitVec.ofInt 8 (224 : Int)) ||| (BitVec.ofInt 8 (IntKind.wrap IntKind.u8 (Int.fdiv q1 (4096 : Int)))))) : Nat) : Int))) <|
      .chk ((0 : Int) ≤ (6 : Int)) <|
      .chk (((0 : Int) ≤ (1 : Int)) ∧ ((1 : Int) < ((q0_len : Nat) : Int))) <|
      .ptr q0 fun (z10 : Addr) =>
      .store (Addr.add z10 1) (Value.int IntKind.u8 (IntKind.wrap IntKind.u8 (((BitVec.toNat ((BitVec.ofInt 8 (128 : Int)) ||| (BitVec.ofInt 8 (IntKind.wrap IntKind.u8 (((BitVec.toNat ((BitVec.ofInt 8 (IntKind.wrap IntKind.u8 (Int.fdiv q1 (64 : Int)))) &&& (BitVec.ofInt 8 (63 : Int)))) : Nat) : Int))))) : Nat) : Int))) <|
      .chk (((0 : Int) ≤ (2 : Int)) ∧ ((2 : Int) < ((q0_len : Nat) : Int))) <|
      .ptr q0 fun (z11 : Addr) =>
      .store (Addr.add z11 2) (Value.int IntKind.u8 (IntKind.wrap IntKind.u8 (((BitVec.toNat ((BitVec.ofInt 8 (128 : Int)) ||| (BitVec.ofInt 8 (IntKind.wrap IntKind.u8 (((BitVec.toNat ((BitVec.ofInt 8 (IntKind.wrap IntKind.u8 q1)) &&& (BitVec.ofInt 8 (63 : Int)))) : Nat) : Int))))) : Nat) : Int))) <|
      .leaf 0 [(Value.int IntKind.i64 (3 : Int))]) (
      .cut 2 (.cons .bool .nil) (
        .ite (decide ((IntKind.wrap IntKind.u32 q1) > (65535 : Int))) (
          .leaf 2 [(Value.bool (decide ((IntKind.wrap IntKind.u32 q1) ≤ (1114111 : Int))))]) (
          .leaf 2 [(Value.bool Bool.false)]))
        (fun z => utf8_encodeRuneNonASCII.t3 q0 q0_len q1 z.1)))
    (fun z => utf8_encodeRuneNonASCII.t4 z.2.1)
def utf8_encodeRuneNonASCII.t (q0 : (Option Addr)) (q0_len : Nat) (q0_cap : Nat) (q1 : Int) : T :=
  .ite (decide ((IntKind.wrap IntKind.u32 q1) ≤ (2047 : Int))) (
    .chk (((0 : Int) ≤ (1 : Int)) ∧ ((1 : Int) < ((q0_len : Nat) : Int))) <|
    .ptr q0 fun (z0 : Addr) =>
    .load (Addr.add z0 1) (.int .u8) fun (i1 : Int) =>
    .chk ((0 : Int) ≤ (6 : Int)) <|
    .chk (((0 : Int) ≤ (0 : Int)) ∧ ((0 : Int) < ((q0_len : Nat) : Int))) <|
    .ptr q0 fun (z2 : Addr) =>
    .store (Addr.add z2 0) (Value.int IntKind.u8 (IntKind.wrap IntKind.u8 (((BitVec.toNat ((BitVec.ofInt 8 (192 : Int)) ||| (BitVec.ofInt 8 (IntKind.wrap IntKind.u8 (Int.fdiv q1 (64 : Int)))))) : Nat) : Int))) <|
    .chk (((0 : Int) ≤ (1 : Int)) ∧ ((1 : Int) < ((q0_len : Nat) : Int))) <|
    .ptr q0 fun (z3 : Addr) =>
    .store (Addr.add z3 1) (Value.int IntKind.u8 (IntKind.wrap IntKind.u8 (((BitVec.toNat ((BitVec.ofInt 8 (128 : Int)) ||| (BitVec.ofInt 8 (IntKind.wrap IntKind.u8 (((BitVec.toNat ((BitVec.ofInt 8 (IntKind.wrap IntKind.u8 q1)) &&& (BitVec.ofInt 8 (63 : Int)))) : Nat) : Int))))) : Nat) : Int))) <|
    .leaf 0 [(Value.int IntKind.i64 (2 : Int))]) (
    .cut 1 (.cons .bool (.cons (.int .i64) .nil)) (
      .ite (decide ((IntKind.wrap IntKind.u32 q1) < (55296 : Int))) (
        .leaf 1 [(Value.bool (decide ((IntKind.wrap IntKind.u32 q1) < (55296 : Int)))), (Value.int IntKind.i64 (0 : Int))]) (
        .cut 2 (.cons .bool .nil) (
          .ite (decide ((57343 : Int) < (IntKind.wrap IntKind.u32 q1))) (
            .leaf 2 [(Value.bool (decide ((IntKind.wrap IntKind.u32 q1) ≤ (65535 : Int))))]) (
            .leaf 2 [(Value.bool Bool.false)]))
          (fun z => utf8_encodeRuneNonASCII.t1 z.1)))
      (fun z => utf8_encodeRuneNonASCII.t2 q0 q0_len q1 z.1))
def utf8_encodeRuneNonASCII.h : Hints := ⟨[(35, [(35, .bool), (4, (.int .i64))])], [], [(13, [(35, .bool)]), (19, [(66, .bool)])], []⟩
noncomputable def utf8_encodeRuneNonASCII.c : Code := (Tryd.f96.body).getD .skip
theorem utf8_encodeRuneNonASCII.e (q0 : (Option Addr)) (q0_len : Nat) (q0_cap : Nat) (q1 : Int) : fnT Tryd.prog utf8_encodeRuneNonASCII.h Tryd.f96 utf8_encodeRuneNonASCII.c [.v (Value.slice q0 q0_len q0_cap), .v (Value.int IntKind.i32 q1)] = utf8_encodeRuneNonASCII.t q0 q0_len q0_cap q1 := by kernel_rfl
theorem utf8_encodeRuneNonASCII.calls (q0 : (Option Addr)) (q0_len : Nat) (q0_cap : Nat) (q1 : Int) {w : World} {R : Ending → World → Prop} (hs : sat Tryd.prog (utf8_encodeRuneNonASCII.t q0 q0_len q0_cap q1) (fun l vs w' => l = 0 ∧ R (.returned (retVal vs)) w') w) : Calls Tryd.prog 96 #[(Value.slice q0 q0_len q0_cap), (Value.int IntKind.i32 q1)] w R :=
  have h := calls_of_tree (w := w) (R := R) (args := [.v (Value.slice q0 q0_len q0_cap), .v (Value.int IntKind.i32 q1)]) (c := utf8_encodeRuneNonASCII.c) Tryd.func96 (show Tryd.f96.body = some utf8_encodeRuneNonASCII.c by kernel_rfl) (of_decide_eq_true (by kernel_rfl)) (utf8_encodeRuneNonASCII.e q0 q0_len q0_cap q1) hs
  h

end Go.Proofs.YtlfebfkphgelfaaDoor.Tr
