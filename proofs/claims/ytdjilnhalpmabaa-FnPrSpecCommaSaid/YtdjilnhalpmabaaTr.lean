/- Trees of loaded functions, printed by wip/tools/rxprint (a program of this repo): each is what 'exec' comes to, held by the kernel. No statement of the set is proved here. -/
import Derived.Test.YtdjilnhalpmabaaRz
import Derived.Test.YtdjilnhalpmabaaProg
import Derived.KernelRfl
namespace Go.Proofs.Ytdjilnhalpmabaa.Tr
open Go Go.Proofs Go.Proofs.Ytdjilnhalpmabaa.Rx
set_option linter.unusedVariables false
set_option maxRecDepth 100000
/-! ### pub-tetrapla/laws.FnGjNullish : function 3 -/
def laws_FnGjNullish.t (r_0 : Int) (r_1 : ByteArray) (r_2 : ByteArray) (r_3 : Nat) (r_4 : Bool) : T :=
  .alloc (Obj.cells #[(Value.int IntKind.i64 r_0), (Value.string r_1), (Value.string r_2), (Value.float FloatKind.f64 r_3), (Value.bool r_4)] 24 (0, 0)) fun (z0 : Addr) =>
  .eff (Instr.loadAt 24 (Value.pointer (some z0))) (.agg (.cons (.int .i64) (.cons .str (.cons .str (.cons (.float .f64) (.cons .bool .nil)))))) fun (z1 : (Int × (ByteArray × (ByteArray × (Nat × (Bool × PUnit)))))) =>
  .call 9 #[(Value.agg #[(Value.int IntKind.i64 (z1).1), (Value.string ((z1).2).1), (Value.string (((z1).2).2).1), (Value.float FloatKind.f64 ((((z1).2).2).2).1), (Value.bool (((((z1).2).2).2).2).1)])] .bool fun (b2 : Bool) =>
  .ite (!b2) (
    .leaf 0 [(Value.bool Bool.true)]) (
    .drew <|
    .load (Addr.add z0 0) (.int .i64) fun (i3 : Int) =>
    .ite (decide (i3 < (0 : Int))) (
      .grown <|
      .leaf 0 [(Value.bool Bool.true)]) (
      .load (Addr.add z0 0) (.int .i64) fun (i4 : Int) =>
      .ite (decide (i4 > (5 : Int))) (
        .grown <|
        .leaf 0 [(Value.bool Bool.true)]) (
        .effQ (Instr.loadAt 24 (Value.pointer (some z0))) (.agg (.cons (.int .i64) (.cons .str (.cons .str (.cons (.float .f64) (.cons .bool .nil)))))) fun (z5 : (Int × (ByteArray × (ByteArray × (Nat × (Bool × PUnit)))))) =>
        .callQ 10 #[(Value.agg #[(Value.int IntKind.i64 (z5).1), (Value.string ((z5).2).1), (Value.string (((z5).2).2).1), (Value.float FloatKind.f64 ((((z5).2).2).2).1), (Value.bool (((((z5).2).2).2).2).1)])] .bool fun (b6 : Bool) =>
        .load (Addr.add z0 0) (.int .i64) fun (i7 : Int) =>
        .grown <|
        .leaf 0 [(Value.bool (b6 == (i7 == (0 : Int))))])))
def laws_FnGjNullish.h : Hints := ⟨[], [], [], []⟩
noncomputable def laws_FnGjNullish.c : Code := (Try.f3.body).getD .skip
theorem laws_FnGjNullish.e (r_0 : Int) (r_1 : ByteArray) (r_2 : ByteArray) (r_3 : Nat) (r_4 : Bool) : fnT Try.prog laws_FnGjNullish.h Try.f3 laws_FnGjNullish.c [.v (Value.agg #[(Value.int IntKind.i64 r_0), (Value.string r_1), (Value.string r_2), (Value.float FloatKind.f64 r_3), (Value.bool r_4)])] = laws_FnGjNullish.t r_0 r_1 r_2 r_3 r_4 := by kernel_rfl
theorem laws_FnGjNullish.calls (r_0 : Int) (r_1 : ByteArray) (r_2 : ByteArray) (r_3 : Nat) (r_4 : Bool) {w : World} {R : Ending → World → Prop} (hs : sat Try.prog (laws_FnGjNullish.t r_0 r_1 r_2 r_3 r_4) (fun l vs w' => l = 0 ∧ R (.returned (retVal vs)) w') w) : Calls Try.prog 3 #[(Value.agg #[(Value.int IntKind.i64 r_0), (Value.string r_1), (Value.string r_2), (Value.float FloatKind.f64 r_3), (Value.bool r_4)])] w R :=
  have h := calls_of_tree (w := w) (R := R) (args := [.v (Value.agg #[(Value.int IntKind.i64 r_0), (Value.string r_1), (Value.string r_2), (Value.float FloatKind.f64 r_3), (Value.bool r_4)])]) (c := laws_FnGjNullish.c) Try.func3 (show Try.f3.body = some laws_FnGjNullish.c by kernel_rfl) (of_decide_eq_true (by kernel_rfl)) (laws_FnGjNullish.e r_0 r_1 r_2 r_3 r_4) hs
  h

/-! ### pub-tetrapla/laws.FnGjSimpleName : function 4 -/
def laws_FnGjSimpleName.t1 (name : ByteArray) (i0 : Int) (b1 : Bool) : T :=
  .ite (decide (i0 < (((ByteArray.size name) : Nat) : Int))) (
    .chk (((0 : Int) ≤ i0) ∧ (i0 < (((ByteArray.size name) : Nat) : Int))) <|
    .ite (decide ((bt name i0) < (32 : Int))) (
      .ite (decide ((bt name i0) < (32 : Int))) (
        .leaf 1 [(Value.int IntKind.i64 (IntKind.wrap IntKind.i64 (i0 + (1 : Int)))), (Value.bool Bool.false)]) (
        .leaf 1 [(Value.int IntKind.i64 (IntKind.wrap IntKind.i64 (i0 + (1 : Int)))), (Value.bool b1)])) (
      .ite ((bt name i0) == (91 : Int)) (
        .ite ((bt name i0) == (91 : Int)) (
          .leaf 1 [(Value.int IntKind.i64 (IntKind.wrap IntKind.i64 (i0 + (1 : Int)))), (Value.bool Bool.false)]) (
          .leaf 1 [(Value.int IntKind.i64 (IntKind.wrap IntKind.i64 (i0 + (1 : Int)))), (Value.bool b1)])) (
        .ite ((bt name i0) == (93 : Int)) (
          .ite ((bt name i0) == (93 : Int)) (
            .leaf 1 [(Value.int IntKind.i64 (IntKind.wrap IntKind.i64 (i0 + (1 : Int)))), (Value.bool Bool.false)]) (
            .leaf 1 [(Value.int IntKind.i64 (IntKind.wrap IntKind.i64 (i0 + (1 : Int)))), (Value.bool b1)])) (
          .ite ((bt name i0) == (123 : Int)) (
            .ite ((bt name i0) == (123 : Int)) (
              .leaf 1 [(Value.int IntKind.i64 (IntKind.wrap IntKind.i64 (i0 + (1 : Int)))), (Value.bool Bool.false)]) (
              .leaf 1 [(Value.int IntKind.i64 (IntKind.wrap IntKind.i64 (i0 + (1 : Int)))), (Value.bool b1)])) (
            .ite ((bt name i0) == (125 : Int)) (
              .ite ((bt name i0) == (125 : Int)) (
                .leaf 1 [(Value.int IntKind.i64 (IntKind.wrap IntKind.i64 (i0 + (1 : Int)))), (Value.bool Bool.false)]) (
                .leaf 1 [(Value.int IntKind.i64 (IntKind.wrap IntKind.i64 (i0 + (1 : Int)))), (Value.bool b1)])) (
              .ite ((bt name i0) == (40 : Int)) (
                .ite ((bt name i0) == (40 : Int)) (
                  .leaf 1 [(Value.int IntKind.i64 (IntKind.wrap IntKind.i64 (i0 + (1 : Int)))), (Value.bool Bool.false)]) (
                  .leaf 1 [(Value.int IntKind.i64 (IntKind.wrap IntKind.i64 (i0 + (1 : Int)))), (Value.bool b1)])) (
                .ite ((bt name i0) == (41 : Int)) (
                  .ite ((bt name i0) == (41 : Int)) (
                    .leaf 1 [(Value.int IntKind.i64 (IntKind.wrap IntKind.i64 (i0 + (1 : Int)))), (Value.bool Bool.false)]) (
                    .leaf 1 [(Value.int IntKind.i64 (IntKind.wrap IntKind.i64 (i0 + (1 : Int)))), (Value.bool b1)])) (
                  .ite ((bt name i0) == (35 : Int)) (
                    .ite ((bt name i0) == (35 : Int)) (
                      .leaf 1 [(Value.int IntKind.i64 (IntKind.wrap IntKind.i64 (i0 + (1 : Int)))), (Value.bool Bool.false)]) (
                      .leaf 1 [(Value.int IntKind.i64 (IntKind.wrap IntKind.i64 (i0 + (1 : Int)))), (Value.bool b1)])) (
                    .ite ((bt name i0) == (124 : Int)) (
                      .ite ((bt name i0) == (124 : Int)) (
                        .leaf 1 [(Value.int IntKind.i64 (IntKind.wrap IntKind.i64 (i0 + (1 : Int)))), (Value.bool Bool.false)]) (
                        .leaf 1 [(Value.int IntKind.i64 (IntKind.wrap IntKind.i64 (i0 + (1 : Int)))), (Value.bool b1)])) (
                      .ite ((bt name i0) == (33 : Int)) (
                        .leaf 1 [(Value.int IntKind.i64 (IntKind.wrap IntKind.i64 (i0 + (1 : Int)))), (Value.bool Bool.false)]) (
                        .leaf 1 [(Value.int IntKind.i64 (IntKind.wrap IntKind.i64 (i0 + (1 : Int)))), (Value.bool b1)]))))))))))) (
    .call 11 #[(Value.string name)] .bool fun (b2 : Bool) =>
    .leaf 0 [(Value.bool (b2 == b1))])
def laws_FnGjSimpleName.t (name : ByteArray) : T :=
  .ite (decide ((((ByteArray.size name) : Nat) : Int) > (2147483647 : Int))) (
    .leaf 0 [(Value.bool Bool.true)]) (
    .loop 1 (.cons (.int .i64) (.cons .bool .nil)) [(Value.int IntKind.i64 (0 : Int)), (Value.bool Bool.true)]
      (fun z => laws_FnGjSimpleName.t1 name z.1 z.2.1))
def laws_FnGjSimpleName.h : Hints := ⟨[], [], [], [(5, [(4, (.int .i64)), (3, .bool)])]⟩
noncomputable def laws_FnGjSimpleName.c : Code := (Try.f4.body).getD .skip
theorem laws_FnGjSimpleName.e (name : ByteArray) : fnT Try.prog laws_FnGjSimpleName.h Try.f4 laws_FnGjSimpleName.c [.v (Value.string name)] = laws_FnGjSimpleName.t name := by kernel_rfl
theorem laws_FnGjSimpleName.calls (name : ByteArray) {w : World} {R : Ending → World → Prop} (hs : sat Try.prog (laws_FnGjSimpleName.t name) (fun l vs w' => l = 0 ∧ R (.returned (retVal vs)) w') w) : Calls Try.prog 4 #[(Value.string name)] w R :=
  have h := calls_of_tree (w := w) (R := R) (args := [.v (Value.string name)]) (c := laws_FnGjSimpleName.c) Try.func4 (show Try.f4.body = some laws_FnGjSimpleName.c by kernel_rfl) (of_decide_eq_true (by kernel_rfl)) (laws_FnGjSimpleName.e name) hs
  h

/-! ### pub-tetrapla/laws.FnJpDigits : function 5 -/
def laws_FnJpDigits.t4 (q0 : ByteArray) (i2 : Int) (z3 : (Int × (Bool × (Bool × PUnit)))) (z4 : (Int × (Bool × PUnit))) (b5 : Bool) : T :=
  .ite b5 (
    .leaf 0 [(Value.bool Bool.false)]) (
    .chk (((0 : Int) ≤ (0 : Int)) ∧ (((0 : Int) ≤ i2) ∧ (i2 ≤ (((ByteArray.size q0) : Nat) : Int)))) <|
    .call 13 #[(Value.string (ByteArray.extract q0 0 (Int.toNat i2)))] (.tuple (.cons (.int .i64) (.cons .bool .nil))) fun (z6 : (Int × (Bool × PUnit))) =>
    .ite (decide (i2 < (((ByteArray.size q0) : Nat) : Int))) (
      .ite (!((z6).2).1) (
        .chk (((0 : Int) ≤ (0 : Int)) ∧ (((0 : Int) ≤ i2) ∧ (i2 ≤ (((ByteArray.size q0) : Nat) : Int)))) <|
        .call 14 #[(Value.string (ByteArray.extract q0 0 (Int.toNat i2)))] .bool fun (b7 : Bool) =>
        .ite b7 (
          .leaf 0 [(Value.bool Bool.true)]) (
          .ite (!((z4).2).1) (
            .call 14 #[(Value.string q0)] .bool fun (b8 : Bool) =>
            .leaf 0 [(Value.bool ((((z3).2).2).1 == b8))]) (
            .leaf 0 [(Value.bool (!(((z3).2).2).1))]))) (
        .ite (!((z4).2).1) (
          .call 14 #[(Value.string q0)] .bool fun (b9 : Bool) =>
          .leaf 0 [(Value.bool ((((z3).2).2).1 == b9))]) (
          .leaf 0 [(Value.bool (!(((z3).2).2).1))]))) (
      .ite (!((z4).2).1) (
        .call 14 #[(Value.string q0)] .bool fun (b10 : Bool) =>
        .leaf 0 [(Value.bool ((((z3).2).2).1 == b10))]) (
        .leaf 0 [(Value.bool (!(((z3).2).2).1))])))
def laws_FnJpDigits.t5 (q0 : ByteArray) (i2 : Int) (z11 : (Int × (Bool × (Bool × PUnit)))) (z12 : (Int × (Bool × PUnit))) (b13 : Bool) : T :=
  .ite b13 (
    .leaf 0 [(Value.bool Bool.false)]) (
    .chk (((0 : Int) ≤ (0 : Int)) ∧ (((0 : Int) ≤ i2) ∧ (i2 ≤ (((ByteArray.size q0) : Nat) : Int)))) <|
    .call 13 #[(Value.string (ByteArray.extract q0 0 (Int.toNat i2)))] (.tuple (.cons (.int .i64) (.cons .bool .nil))) fun (z14 : (Int × (Bool × PUnit))) =>
    .ite (decide (i2 < (((ByteArray.size q0) : Nat) : Int))) (
      .ite (!((z14).2).1) (
        .chk (((0 : Int) ≤ (0 : Int)) ∧ (((0 : Int) ≤ i2) ∧ (i2 ≤ (((ByteArray.size q0) : Nat) : Int)))) <|
        .call 14 #[(Value.string (ByteArray.extract q0 0 (Int.toNat i2)))] .bool fun (b15 : Bool) =>
        .ite b15 (
          .leaf 0 [(Value.bool Bool.true)]) (
          .ite (!((z12).2).1) (
            .call 14 #[(Value.string q0)] .bool fun (b16 : Bool) =>
            .leaf 0 [(Value.bool ((((z11).2).2).1 == b16))]) (
            .leaf 0 [(Value.bool (!(((z11).2).2).1))]))) (
        .ite (!((z12).2).1) (
          .call 14 #[(Value.string q0)] .bool fun (b17 : Bool) =>
          .leaf 0 [(Value.bool ((((z11).2).2).1 == b17))]) (
          .leaf 0 [(Value.bool (!(((z11).2).2).1))]))) (
      .ite (!((z12).2).1) (
        .call 14 #[(Value.string q0)] .bool fun (b18 : Bool) =>
        .leaf 0 [(Value.bool ((((z11).2).2).1 == b18))]) (
        .leaf 0 [(Value.bool (!(((z11).2).2).1))])))
def laws_FnJpDigits.t6 (q0 : ByteArray) (i2 : Int) (z19 : (Int × (Bool × (Bool × PUnit)))) (z20 : (Int × (Bool × PUnit))) (b21 : Bool) : T :=
  .ite b21 (
    .leaf 0 [(Value.bool Bool.false)]) (
    .chk (((0 : Int) ≤ (0 : Int)) ∧ (((0 : Int) ≤ i2) ∧ (i2 ≤ (((ByteArray.size q0) : Nat) : Int)))) <|
    .call 13 #[(Value.string (ByteArray.extract q0 0 (Int.toNat i2)))] (.tuple (.cons (.int .i64) (.cons .bool .nil))) fun (z22 : (Int × (Bool × PUnit))) =>
    .ite (decide (i2 < (((ByteArray.size q0) : Nat) : Int))) (
      .ite (!((z22).2).1) (
        .chk (((0 : Int) ≤ (0 : Int)) ∧ (((0 : Int) ≤ i2) ∧ (i2 ≤ (((ByteArray.size q0) : Nat) : Int)))) <|
        .call 14 #[(Value.string (ByteArray.extract q0 0 (Int.toNat i2)))] .bool fun (b23 : Bool) =>
        .ite b23 (
          .leaf 0 [(Value.bool Bool.true)]) (
          .ite (!((z20).2).1) (
            .call 14 #[(Value.string q0)] .bool fun (b24 : Bool) =>
            .leaf 0 [(Value.bool ((((z19).2).2).1 == b24))]) (
            .leaf 0 [(Value.bool (!(((z19).2).2).1))]))) (
        .ite (!((z20).2).1) (
          .call 14 #[(Value.string q0)] .bool fun (b25 : Bool) =>
          .leaf 0 [(Value.bool ((((z19).2).2).1 == b25))]) (
          .leaf 0 [(Value.bool (!(((z19).2).2).1))]))) (
      .ite (!((z20).2).1) (
        .call 14 #[(Value.string q0)] .bool fun (b26 : Bool) =>
        .leaf 0 [(Value.bool ((((z19).2).2).1 == b26))]) (
        .leaf 0 [(Value.bool (!(((z19).2).2).1))])))
def laws_FnJpDigits.t3 (q0 : ByteArray) (i2 : Int) : T :=
  .ite (decide (i2 < (((ByteArray.size q0) : Nat) : Int))) (
    .chk (((0 : Int) ≤ i2) ∧ (i2 < (((ByteArray.size q0) : Nat) : Int))) <|
    .ite (decide ((bt q0 i2) ≥ (48 : Int))) (
      .chk (((0 : Int) ≤ i2) ∧ (i2 < (((ByteArray.size q0) : Nat) : Int))) <|
      .ite (decide ((bt q0 i2) ≤ (57 : Int))) (
        .leaf 1 [(Value.int IntKind.i64 (IntKind.wrap IntKind.i64 (i2 + (1 : Int))))]) (
        .call 12 #[(Value.string q0)] (.tuple (.cons (.int .i64) (.cons .bool (.cons .bool .nil)))) fun (z3 : (Int × (Bool × (Bool × PUnit)))) =>
        .call 13 #[(Value.string q0)] (.tuple (.cons (.int .i64) (.cons .bool .nil))) fun (z4 : (Int × (Bool × PUnit))) =>
        .cut 1 (.cons .bool .nil) (
          .ite (!(((z3).2).1 == ((z4).2).1)) (
            .leaf 1 [(Value.bool Bool.true)]) (
            .ite ((z3).2).1 (
              .leaf 1 [(Value.bool ((z3).1 != (z4).1))]) (
              .leaf 1 [(Value.bool Bool.false)])))
          (fun z => laws_FnJpDigits.t4 q0 i2 z3 z4 z.1))) (
      .call 12 #[(Value.string q0)] (.tuple (.cons (.int .i64) (.cons .bool (.cons .bool .nil)))) fun (z11 : (Int × (Bool × (Bool × PUnit)))) =>
      .call 13 #[(Value.string q0)] (.tuple (.cons (.int .i64) (.cons .bool .nil))) fun (z12 : (Int × (Bool × PUnit))) =>
      .cut 1 (.cons .bool .nil) (
        .ite (!(((z11).2).1 == ((z12).2).1)) (
          .leaf 1 [(Value.bool Bool.true)]) (
          .ite ((z11).2).1 (
            .leaf 1 [(Value.bool ((z11).1 != (z12).1))]) (
            .leaf 1 [(Value.bool Bool.false)])))
        (fun z => laws_FnJpDigits.t5 q0 i2 z11 z12 z.1))) (
    .call 12 #[(Value.string q0)] (.tuple (.cons (.int .i64) (.cons .bool (.cons .bool .nil)))) fun (z19 : (Int × (Bool × (Bool × PUnit)))) =>
    .call 13 #[(Value.string q0)] (.tuple (.cons (.int .i64) (.cons .bool .nil))) fun (z20 : (Int × (Bool × PUnit))) =>
    .cut 1 (.cons .bool .nil) (
      .ite (!(((z19).2).1 == ((z20).2).1)) (
        .leaf 1 [(Value.bool Bool.true)]) (
        .ite ((z19).2).1 (
          .leaf 1 [(Value.bool ((z19).1 != (z20).1))]) (
          .leaf 1 [(Value.bool Bool.false)])))
      (fun z => laws_FnJpDigits.t6 q0 i2 z19 z20 z.1))
def laws_FnJpDigits.t2 (q0 : ByteArray) (i1 : Int) : T :=
  .loop 1 (.cons (.int .i64) .nil) [(Value.int IntKind.i64 i1)]
    (fun z => laws_FnJpDigits.t3 q0 z.1)
def laws_FnJpDigits.t1 (q0 : ByteArray) (b0 : Bool) : T :=
  .cut 1 (.cons (.int .i64) .nil) (
    .ite b0 (
      .leaf 1 [(Value.int IntKind.i64 (1 : Int))]) (
      .leaf 1 [(Value.int IntKind.i64 (0 : Int))]))
    (fun z => laws_FnJpDigits.t2 q0 z.1)
def laws_FnJpDigits.t (q0 : ByteArray) : T :=
  .ite (decide ((((ByteArray.size q0) : Nat) : Int) > (2147483647 : Int))) (
    .leaf 0 [(Value.bool Bool.true)]) (
    .ite (decide ((((ByteArray.size q0) : Nat) : Int) > (65536 : Int))) (
      .leaf 0 [(Value.bool Bool.true)]) (
      .cut 1 (.cons .bool .nil) (
        .ite (!(strEq q0 (ByteArray.mk #[]))) (
          .chk (((0 : Int) ≤ (0 : Int)) ∧ ((0 : Int) < (((ByteArray.size q0) : Nat) : Int))) <|
          .leaf 1 [(Value.bool ((bt q0 (0 : Int)) == (45 : Int)))]) (
          .leaf 1 [(Value.bool Bool.false)]))
        (fun z => laws_FnJpDigits.t1 q0 z.1)))
def laws_FnJpDigits.h : Hints := ⟨[(23, [(3, (.int .i64))])], [], [(6, [(23, .bool)]), (12, [(63, .bool)])], [(8, [(3, (.int .i64))])]⟩
noncomputable def laws_FnJpDigits.c : Code := (Try.f5.body).getD .skip
theorem laws_FnJpDigits.e (q0 : ByteArray) : fnT Try.prog laws_FnJpDigits.h Try.f5 laws_FnJpDigits.c [.v (Value.string q0)] = laws_FnJpDigits.t q0 := by kernel_rfl
theorem laws_FnJpDigits.calls (q0 : ByteArray) {w : World} {R : Ending → World → Prop} (hs : sat Try.prog (laws_FnJpDigits.t q0) (fun l vs w' => l = 0 ∧ R (.returned (retVal vs)) w') w) : Calls Try.prog 5 #[(Value.string q0)] w R :=
  have h := calls_of_tree (w := w) (R := R) (args := [.v (Value.string q0)]) (c := laws_FnJpDigits.c) Try.func5 (show Try.f5.body = some laws_FnJpDigits.c by kernel_rfl) (of_decide_eq_true (by kernel_rfl)) (laws_FnJpDigits.e q0) hs
  h

/-! ### pub-tetrapla/laws.FnGjValidNumberAt : function 7 -/
def laws_FnGjValidNumberAt.t1 (q0 : ByteArray) (q1 : Int) (b0 : Bool) : T :=
  .ite b0 (
    .leaf 0 [(Value.bool Bool.true)]) (
    .call 17 #[(Value.string q0), (Value.int IntKind.i64 (IntKind.wrap IntKind.i64 (q1 - (1 : Int))))] (.tuple (.cons (.int .i64) (.cons .bool .nil))) fun (z1 : (Int × (Bool × PUnit))) =>
    .call 18 #[(Value.string q0), (Value.int IntKind.i64 q1)] (.tuple (.cons (.int .i64) (.cons .bool .nil))) fun (z2 : (Int × (Bool × PUnit))) =>
    .ite (((z2).2).1 == ((z1).2).1) (
      .ite (!((z1).2).1) (
        .leaf 0 [(Value.bool Bool.true)]) (
        .leaf 0 [(Value.bool ((z2).1 == (z1).1))])) (
      .leaf 0 [(Value.bool Bool.false)]))
def laws_FnGjValidNumberAt.t (q0 : ByteArray) (q1 : Int) : T :=
  .ite (decide ((((ByteArray.size q0) : Nat) : Int) > (2147483647 : Int))) (
    .leaf 0 [(Value.bool Bool.true)]) (
    .cut 1 (.cons .bool .nil) (
      .ite (decide ((((ByteArray.size q0) : Nat) : Int) > (65536 : Int))) (
        .leaf 1 [(Value.bool Bool.true)]) (
        .ite (decide (q1 < (1 : Int))) (
          .leaf 1 [(Value.bool Bool.true)]) (
          .ite (decide (q1 > (((ByteArray.size q0) : Nat) : Int))) (
            .leaf 1 [(Value.bool Bool.true)]) (
            .chk (((0 : Int) ≤ (IntKind.wrap IntKind.i64 (q1 - (1 : Int)))) ∧ ((IntKind.wrap IntKind.i64 (q1 - (1 : Int))) < (((ByteArray.size q0) : Nat) : Int))) <|
            .ite ((bt q0 (IntKind.wrap IntKind.i64 (q1 - (1 : Int)))) != (45 : Int)) (
              .chk (((0 : Int) ≤ (IntKind.wrap IntKind.i64 (q1 - (1 : Int)))) ∧ ((IntKind.wrap IntKind.i64 (q1 - (1 : Int))) < (((ByteArray.size q0) : Nat) : Int))) <|
              .ite (decide ((bt q0 (IntKind.wrap IntKind.i64 (q1 - (1 : Int)))) < (48 : Int))) (
                .leaf 1 [(Value.bool Bool.true)]) (
                .chk (((0 : Int) ≤ (IntKind.wrap IntKind.i64 (q1 - (1 : Int)))) ∧ ((IntKind.wrap IntKind.i64 (q1 - (1 : Int))) < (((ByteArray.size q0) : Nat) : Int))) <|
                .leaf 1 [(Value.bool (decide ((bt q0 (IntKind.wrap IntKind.i64 (q1 - (1 : Int)))) > (57 : Int))))])) (
              .leaf 1 [(Value.bool Bool.false)])))))
      (fun z => laws_FnGjValidNumberAt.t1 q0 q1 z.1))
def laws_FnGjValidNumberAt.h : Hints := ⟨[], [], [(3, [(45, .bool)])], []⟩
noncomputable def laws_FnGjValidNumberAt.c : Code := (Try.f7.body).getD .skip
theorem laws_FnGjValidNumberAt.e (q0 : ByteArray) (q1 : Int) : fnT Try.prog laws_FnGjValidNumberAt.h Try.f7 laws_FnGjValidNumberAt.c [.v (Value.string q0), .v (Value.int IntKind.i64 q1)] = laws_FnGjValidNumberAt.t q0 q1 := by kernel_rfl
theorem laws_FnGjValidNumberAt.calls (q0 : ByteArray) (q1 : Int) {w : World} {R : Ending → World → Prop} (hs : sat Try.prog (laws_FnGjValidNumberAt.t q0 q1) (fun l vs w' => l = 0 ∧ R (.returned (retVal vs)) w') w) : Calls Try.prog 7 #[(Value.string q0), (Value.int IntKind.i64 q1)] w R :=
  have h := calls_of_tree (w := w) (R := R) (args := [.v (Value.string q0), .v (Value.int IntKind.i64 q1)]) (c := laws_FnGjValidNumberAt.c) Try.func7 (show Try.f7.body = some laws_FnGjValidNumberAt.c by kernel_rfl) (of_decide_eq_true (by kernel_rfl)) (laws_FnGjValidNumberAt.e q0 q1) hs
  h

/-! ### pub-tetrapla/laws.zzFits4 : function 9 -/
def laws_zzFits4.t (x_0 : Int) (x_1 : ByteArray) (x_2 : ByteArray) (x_3 : Nat) (x_4 : Bool) : T :=
  .alloc (Obj.cells #[(Value.int IntKind.i64 x_0), (Value.string x_1), (Value.string x_2), (Value.float FloatKind.f64 x_3), (Value.bool x_4)] 24 (0, 0)) fun (z0 : Addr) =>
  .load (Addr.add z0 1) .str fun (s1 : ByteArray) =>
  .ite (decide ((((ByteArray.size s1) : Nat) : Int) > (2147483647 : Int))) (
    .leaf 0 [(Value.bool Bool.false)]) (
    .load (Addr.add z0 2) .str fun (s2 : ByteArray) =>
    .ite (decide ((((ByteArray.size s2) : Nat) : Int) > (2147483647 : Int))) (
      .leaf 0 [(Value.bool Bool.false)]) (
      .leaf 0 [(Value.bool Bool.true)]))
def laws_zzFits4.h : Hints := ⟨[], [], [], []⟩
noncomputable def laws_zzFits4.c : Code := (Try.f9.body).getD .skip
theorem laws_zzFits4.e (x_0 : Int) (x_1 : ByteArray) (x_2 : ByteArray) (x_3 : Nat) (x_4 : Bool) : fnT Try.prog laws_zzFits4.h Try.f9 laws_zzFits4.c [.v (Value.agg #[(Value.int IntKind.i64 x_0), (Value.string x_1), (Value.string x_2), (Value.float FloatKind.f64 x_3), (Value.bool x_4)])] = laws_zzFits4.t x_0 x_1 x_2 x_3 x_4 := by kernel_rfl
theorem laws_zzFits4.calls (x_0 : Int) (x_1 : ByteArray) (x_2 : ByteArray) (x_3 : Nat) (x_4 : Bool) {w : World} {R : Ending → World → Prop} (hs : sat Try.prog (laws_zzFits4.t x_0 x_1 x_2 x_3 x_4) (fun l vs w' => l = 0 ∧ R (.returned (retVal vs)) w') w) : Calls Try.prog 9 #[(Value.agg #[(Value.int IntKind.i64 x_0), (Value.string x_1), (Value.string x_2), (Value.float FloatKind.f64 x_3), (Value.bool x_4)])] w R :=
  have h := calls_of_tree (w := w) (R := R) (args := [.v (Value.agg #[(Value.int IntKind.i64 x_0), (Value.string x_1), (Value.string x_2), (Value.float FloatKind.f64 x_3), (Value.bool x_4)])]) (c := laws_zzFits4.c) Try.func9 (show Try.f9.body = some laws_zzFits4.c by kernel_rfl) (of_decide_eq_true (by kernel_rfl)) (laws_zzFits4.e x_0 x_1 x_2 x_3 x_4) hs
  h

/-! ### pub-tetrapla/impl.GjNullish : function 10 -/
def impl_GjNullish.t (r_0 : Int) (r_1 : ByteArray) (r_2 : ByteArray) (r_3 : Nat) (r_4 : Bool) : T :=
  .alloc (Obj.cells #[(Value.int IntKind.i64 r_0), (Value.string r_1), (Value.string r_2), (Value.float FloatKind.f64 r_3), (Value.bool r_4)] 24 (0, 0)) fun (z0 : Addr) =>
  .eff (Instr.loadAt 24 (Value.pointer (some z0))) (.agg (.cons (.int .i64) (.cons .str (.cons .str (.cons (.float .f64) (.cons .bool .nil)))))) fun (z1 : (Int × (ByteArray × (ByteArray × (Nat × (Bool × PUnit)))))) =>
  .call 22 #[(Value.agg #[(Value.int IntKind.i64 (z1).1), (Value.string ((z1).2).1), (Value.string (((z1).2).2).1), (Value.float FloatKind.f64 ((((z1).2).2).2).1), (Value.bool (((((z1).2).2).2).2).1)])] (.agg (.cons (.int .i64) (.cons .str (.cons .str (.cons (.float .f64) (.cons (.int .i64) (.cons .slice .nil))))))) fun (z2 : (Int × (ByteArray × (ByteArray × (Nat × (Int × (((Option Addr) × (Nat × Nat)) × PUnit))))))) =>
  .call 21 #[(Value.agg #[(Value.int IntKind.i64 (z2).1), (Value.string ((z2).2).1), (Value.string (((z2).2).2).1), (Value.float FloatKind.f64 ((((z2).2).2).2).1), (Value.int IntKind.i64 (((((z2).2).2).2).2).1), (Value.slice (((((((z2).2).2).2).2).2).1).1 ((((((((z2).2).2).2).2).2).1).2).1 ((((((((z2).2).2).2).2).2).1).2).2)])] .bool fun (b3 : Bool) =>
  .leaf 0 [(Value.bool b3)]
def impl_GjNullish.h : Hints := ⟨[], [], [], []⟩
noncomputable def impl_GjNullish.c : Code := (Try.f10.body).getD .skip
theorem impl_GjNullish.e (r_0 : Int) (r_1 : ByteArray) (r_2 : ByteArray) (r_3 : Nat) (r_4 : Bool) : fnT Try.prog impl_GjNullish.h Try.f10 impl_GjNullish.c [.v (Value.agg #[(Value.int IntKind.i64 r_0), (Value.string r_1), (Value.string r_2), (Value.float FloatKind.f64 r_3), (Value.bool r_4)])] = impl_GjNullish.t r_0 r_1 r_2 r_3 r_4 := by kernel_rfl
theorem impl_GjNullish.calls (r_0 : Int) (r_1 : ByteArray) (r_2 : ByteArray) (r_3 : Nat) (r_4 : Bool) {w : World} {R : Ending → World → Prop} (hs : sat Try.prog (impl_GjNullish.t r_0 r_1 r_2 r_3 r_4) (fun l vs w' => l = 0 ∧ R (.returned (retVal vs)) w') w) : Calls Try.prog 10 #[(Value.agg #[(Value.int IntKind.i64 r_0), (Value.string r_1), (Value.string r_2), (Value.float FloatKind.f64 r_3), (Value.bool r_4)])] w R :=
  have h := calls_of_tree (w := w) (R := R) (args := [.v (Value.agg #[(Value.int IntKind.i64 r_0), (Value.string r_1), (Value.string r_2), (Value.float FloatKind.f64 r_3), (Value.bool r_4)])]) (c := impl_GjNullish.c) Try.func10 (show Try.f10.body = some impl_GjNullish.c by kernel_rfl) (of_decide_eq_true (by kernel_rfl)) (impl_GjNullish.e r_0 r_1 r_2 r_3 r_4) hs
  h

/-! ### pub-tetrapla/impl.GjSimpleName : function 11 -/
def impl_GjSimpleName.t (name : ByteArray) : T :=
  .call 23 #[(Value.string name)] .bool fun (b0 : Bool) =>
  .leaf 0 [(Value.bool b0)]
def impl_GjSimpleName.h : Hints := ⟨[], [], [], []⟩
noncomputable def impl_GjSimpleName.c : Code := (Try.f11.body).getD .skip
theorem impl_GjSimpleName.e (name : ByteArray) : fnT Try.prog impl_GjSimpleName.h Try.f11 impl_GjSimpleName.c [.v (Value.string name)] = impl_GjSimpleName.t name := by kernel_rfl
theorem impl_GjSimpleName.calls (name : ByteArray) {w : World} {R : Ending → World → Prop} (hs : sat Try.prog (impl_GjSimpleName.t name) (fun l vs w' => l = 0 ∧ R (.returned (retVal vs)) w') w) : Calls Try.prog 11 #[(Value.string name)] w R :=
  have h := calls_of_tree (w := w) (R := R) (args := [.v (Value.string name)]) (c := impl_GjSimpleName.c) Try.func11 (show Try.f11.body = some impl_GjSimpleName.c by kernel_rfl) (of_decide_eq_true (by kernel_rfl)) (impl_GjSimpleName.e name) hs
  h

/-! ### pub-tetrapla/impl.JpDigits : function 12 -/
def impl_JpDigits.t (s : ByteArray) : T :=
  .call 24 #[(Value.string s)] (.tuple (.cons (.int .i64) (.cons .bool (.cons .bool .nil)))) fun (z0 : (Int × (Bool × (Bool × PUnit)))) =>
  .leaf 0 [(Value.int IntKind.i64 (z0).1), (Value.bool ((z0).2).1), (Value.bool (((z0).2).2).1)]
def impl_JpDigits.h : Hints := ⟨[], [], [], []⟩
noncomputable def impl_JpDigits.c : Code := (Try.f12.body).getD .skip
theorem impl_JpDigits.e (s : ByteArray) : fnT Try.prog impl_JpDigits.h Try.f12 impl_JpDigits.c [.v (Value.string s)] = impl_JpDigits.t s := by kernel_rfl
theorem impl_JpDigits.calls (s : ByteArray) {w : World} {R : Ending → World → Prop} (hs : sat Try.prog (impl_JpDigits.t s) (fun l vs w' => l = 0 ∧ R (.returned (retVal vs)) w') w) : Calls Try.prog 12 #[(Value.string s)] w R :=
  have h := calls_of_tree (w := w) (R := R) (args := [.v (Value.string s)]) (c := impl_JpDigits.c) Try.func12 (show Try.f12.body = some impl_JpDigits.c by kernel_rfl) (of_decide_eq_true (by kernel_rfl)) (impl_JpDigits.e s) hs
  h

/-! ### pub-tetrapla/spec.Int64 : function 13 -/
def spec_Int64.t3 (b0 : Bool) (z2 : (Int × (Bool × PUnit))) (b3 : Bool) : T :=
  .ite b3 (
    .leaf 0 [(Value.int IntKind.i64 (IntKind.wrap IntKind.i64 (IntKind.wrap IntKind.u64 ((0 : Int) - (z2).1)))), (Value.bool Bool.true)]) (
    .ite (!b0) (
      .ite (decide ((z2).1 < (9223372036854775808 : Int))) (
        .leaf 0 [(Value.int IntKind.i64 (IntKind.wrap IntKind.i64 (z2).1)), (Value.bool Bool.true)]) (
        .leaf 0 [(Value.int IntKind.i64 (0 : Int)), (Value.bool Bool.false)])) (
      .leaf 0 [(Value.int IntKind.i64 (0 : Int)), (Value.bool Bool.false)]))
def spec_Int64.t2 (b0 : Bool) (s1 : ByteArray) : T :=
  .call 25 #[(Value.string s1)] (.tuple (.cons (.int .u64) (.cons .bool .nil))) fun (z2 : (Int × (Bool × PUnit))) =>
  .ite (!((z2).2).1) (
    .leaf 0 [(Value.int IntKind.i64 (0 : Int)), (Value.bool Bool.false)]) (
    .cut 1 (.cons .bool .nil) (
      .ite b0 (
        .leaf 1 [(Value.bool (decide ((z2).1 ≤ (9223372036854775808 : Int))))]) (
        .leaf 1 [(Value.bool Bool.false)]))
      (fun z => spec_Int64.t3 b0 z2 z.1))
def spec_Int64.t1 (s : ByteArray) (b0 : Bool) : T :=
  .cut 1 (.cons .str .nil) (
    .ite b0 (
      .chk (((0 : Int) ≤ (1 : Int)) ∧ (((1 : Int) ≤ (((ByteArray.size s) : Nat) : Int)) ∧ ((((ByteArray.size s) : Nat) : Int) ≤ (((ByteArray.size s) : Nat) : Int)))) <|
      .leaf 1 [(Value.string (ByteArray.extract s 1 (Int.toNat (((ByteArray.size s) : Nat) : Int))))]) (
      .leaf 1 [(Value.string s)]))
    (fun z => spec_Int64.t2 b0 z.1)
def spec_Int64.t (s : ByteArray) : T :=
  .cut 1 (.cons .bool .nil) (
    .ite (!(strEq s (ByteArray.mk #[]))) (
      .chk (((0 : Int) ≤ (0 : Int)) ∧ ((0 : Int) < (((ByteArray.size s) : Nat) : Int))) <|
      .leaf 1 [(Value.bool ((bt s (0 : Int)) == (45 : Int)))]) (
      .leaf 1 [(Value.bool Bool.false)]))
    (fun z => spec_Int64.t1 s z.1)
def spec_Int64.h : Hints := ⟨[(14, [(0, .str)])], [], [(1, [(4, .bool)]), (7, [(25, .bool)])], []⟩
noncomputable def spec_Int64.c : Code := (Try.f13.body).getD .skip
theorem spec_Int64.e (s : ByteArray) : fnT Try.prog spec_Int64.h Try.f13 spec_Int64.c [.v (Value.string s)] = spec_Int64.t s := by kernel_rfl
theorem spec_Int64.calls (s : ByteArray) {w : World} {R : Ending → World → Prop} (hs : sat Try.prog (spec_Int64.t s) (fun l vs w' => l = 0 ∧ R (.returned (retVal vs)) w') w) : Calls Try.prog 13 #[(Value.string s)] w R :=
  have h := calls_of_tree (w := w) (R := R) (args := [.v (Value.string s)]) (c := spec_Int64.c) Try.func13 (show Try.f13.body = some spec_Int64.c by kernel_rfl) (of_decide_eq_true (by kernel_rfl)) (spec_Int64.e s) hs
  h

/-! ### pub-tetrapla/laws.jpDecimal : function 14 -/
def laws_jpDecimal.t3 (s1 : ByteArray) (i2 : Int) : T :=
  .ite (decide (i2 < (((ByteArray.size s1) : Nat) : Int))) (
    .chk (((0 : Int) ≤ i2) ∧ (i2 < (((ByteArray.size s1) : Nat) : Int))) <|
    .ite (decide ((bt s1 i2) < (48 : Int))) (
      .leaf 0 [(Value.bool Bool.false)]) (
      .chk (((0 : Int) ≤ i2) ∧ (i2 < (((ByteArray.size s1) : Nat) : Int))) <|
      .ite (decide ((bt s1 i2) > (57 : Int))) (
        .leaf 0 [(Value.bool Bool.false)]) (
        .leaf 1 [(Value.int IntKind.i64 (IntKind.wrap IntKind.i64 (i2 + (1 : Int))))]))) (
    .leaf 0 [(Value.bool (!(strEq s1 (ByteArray.mk #[]))))])
def laws_jpDecimal.t2 (s1 : ByteArray) : T :=
  .loop 1 (.cons (.int .i64) .nil) [(Value.int IntKind.i64 (0 : Int))]
    (fun z => laws_jpDecimal.t3 s1 z.1)
def laws_jpDecimal.t1 (s : ByteArray) (b0 : Bool) : T :=
  .cut 1 (.cons .str .nil) (
    .ite b0 (
      .chk (((0 : Int) ≤ (1 : Int)) ∧ (((1 : Int) ≤ (((ByteArray.size s) : Nat) : Int)) ∧ ((((ByteArray.size s) : Nat) : Int) ≤ (((ByteArray.size s) : Nat) : Int)))) <|
      .leaf 1 [(Value.string (ByteArray.extract s 1 (Int.toNat (((ByteArray.size s) : Nat) : Int))))]) (
      .leaf 1 [(Value.string s)]))
    (fun z => laws_jpDecimal.t2 z.1)
def laws_jpDecimal.t (s : ByteArray) : T :=
  .cut 1 (.cons .bool .nil) (
    .ite (!(strEq s (ByteArray.mk #[]))) (
      .chk (((0 : Int) ≤ (0 : Int)) ∧ ((0 : Int) < (((ByteArray.size s) : Nat) : Int))) <|
      .leaf 1 [(Value.bool ((bt s (0 : Int)) == (45 : Int)))]) (
      .leaf 1 [(Value.bool Bool.false)]))
    (fun z => laws_jpDecimal.t1 s z.1)
def laws_jpDecimal.h : Hints := ⟨[(10, [(0, .str)])], [], [(1, [(10, .bool)])], [(4, [(3, (.int .i64))])]⟩
noncomputable def laws_jpDecimal.c : Code := (Try.f14.body).getD .skip
theorem laws_jpDecimal.e (s : ByteArray) : fnT Try.prog laws_jpDecimal.h Try.f14 laws_jpDecimal.c [.v (Value.string s)] = laws_jpDecimal.t s := by kernel_rfl
theorem laws_jpDecimal.calls (s : ByteArray) {w : World} {R : Ending → World → Prop} (hs : sat Try.prog (laws_jpDecimal.t s) (fun l vs w' => l = 0 ∧ R (.returned (retVal vs)) w') w) : Calls Try.prog 14 #[(Value.string s)] w R :=
  have h := calls_of_tree (w := w) (R := R) (args := [.v (Value.string s)]) (c := laws_jpDecimal.c) Try.func14 (show Try.f14.body = some laws_jpDecimal.c by kernel_rfl) (of_decide_eq_true (by kernel_rfl)) (laws_jpDecimal.e s) hs
  h

/-! ### pub-tetrapla/spec.NumberAt : function 17 -/
def spec_NumberAt.t (text : ByteArray) (at1 : Int) : T :=
  .alloc (Obj.cells #[(Value.string (ByteArray.mk #[])), (Value.int IntKind.i64 (0 : Int))] 58 (0, 0)) fun (z0 : Addr) =>
  .effU (Instr.storeAt 58 (Value.pointer (some z0)) (Value.agg #[(Value.string text), (Value.int IntKind.i64 at1)])) <|
  .call 28 #[(Value.pointer (some z0))] .bool fun (b1 : Bool) =>
  .load (Addr.add z0 1) (.int .i64) fun (i2 : Int) =>
  .leaf 0 [(Value.int IntKind.i64 i2), (Value.bool b1)]
def spec_NumberAt.h : Hints := ⟨[], [], [], []⟩
noncomputable def spec_NumberAt.c : Code := (Try.f17.body).getD .skip
theorem spec_NumberAt.e (text : ByteArray) (at1 : Int) : fnT Try.prog spec_NumberAt.h Try.f17 spec_NumberAt.c [.v (Value.string text), .v (Value.int IntKind.i64 at1)] = spec_NumberAt.t text at1 := by kernel_rfl
theorem spec_NumberAt.calls (text : ByteArray) (at1 : Int) {w : World} {R : Ending → World → Prop} (hs : sat Try.prog (spec_NumberAt.t text at1) (fun l vs w' => l = 0 ∧ R (.returned (retVal vs)) w') w) : Calls Try.prog 17 #[(Value.string text), (Value.int IntKind.i64 at1)] w R :=
  have h := calls_of_tree (w := w) (R := R) (args := [.v (Value.string text), .v (Value.int IntKind.i64 at1)]) (c := spec_NumberAt.c) Try.func17 (show Try.f17.body = some spec_NumberAt.c by kernel_rfl) (of_decide_eq_true (by kernel_rfl)) (spec_NumberAt.e text at1) hs
  h

/-! ### pub-tetrapla/impl.GjValidNumberAt : function 18 -/
def impl_GjValidNumberAt.t (text : ByteArray) (at1 : Int) : T :=
  .call 29 #[(Value.string text), (Value.int IntKind.i64 at1)] (.tuple (.cons (.int .i64) (.cons .bool .nil))) fun (z0 : (Int × (Bool × PUnit))) =>
  .leaf 0 [(Value.int IntKind.i64 (z0).1), (Value.bool ((z0).2).1)]
def impl_GjValidNumberAt.h : Hints := ⟨[], [], [], []⟩
noncomputable def impl_GjValidNumberAt.c : Code := (Try.f18.body).getD .skip
theorem impl_GjValidNumberAt.e (text : ByteArray) (at1 : Int) : fnT Try.prog impl_GjValidNumberAt.h Try.f18 impl_GjValidNumberAt.c [.v (Value.string text), .v (Value.int IntKind.i64 at1)] = impl_GjValidNumberAt.t text at1 := by kernel_rfl
theorem impl_GjValidNumberAt.calls (text : ByteArray) (at1 : Int) {w : World} {R : Ending → World → Prop} (hs : sat Try.prog (impl_GjValidNumberAt.t text at1) (fun l vs w' => l = 0 ∧ R (.returned (retVal vs)) w') w) : Calls Try.prog 18 #[(Value.string text), (Value.int IntKind.i64 at1)] w R :=
  have h := calls_of_tree (w := w) (R := R) (args := [.v (Value.string text), .v (Value.int IntKind.i64 at1)]) (c := impl_GjValidNumberAt.c) Try.func18 (show Try.f18.body = some impl_GjValidNumberAt.c by kernel_rfl) (of_decide_eq_true (by kernel_rfl)) (impl_GjValidNumberAt.e text at1) hs
  h

/-! ### pub-tetrapla/pub/gjson.DoorNullish : function 21 -/
def gjson_DoorNullish.t (r_0 : Int) (r_1 : ByteArray) (r_2 : ByteArray) (r_3 : Nat) (r_4 : Int) (r_5 : (Option Addr)) (r_5_len : Nat) (r_5_cap : Nat) : T :=
  .alloc (Obj.cells #[(Value.int IntKind.i64 r_0), (Value.string r_1), (Value.string r_2), (Value.float FloatKind.f64 r_3), (Value.int IntKind.i64 r_4), (Value.slice r_5 r_5_len r_5_cap)] 51 (0, 0)) fun (z0 : Addr) =>
  .eff (Instr.loadAt 51 (Value.pointer (some z0))) (.agg (.cons (.int .i64) (.cons .str (.cons .str (.cons (.float .f64) (.cons (.int .i64) (.cons .slice .nil))))))) fun (z1 : (Int × (ByteArray × (ByteArray × (Nat × (Int × (((Option Addr) × (Nat × Nat)) × PUnit))))))) =>
  .call 32 #[(Value.agg #[(Value.int IntKind.i64 (z1).1), (Value.string ((z1).2).1), (Value.string (((z1).2).2).1), (Value.float FloatKind.f64 ((((z1).2).2).2).1), (Value.int IntKind.i64 (((((z1).2).2).2).2).1), (Value.slice (((((((z1).2).2).2).2).2).1).1 ((((((((z1).2).2).2).2).2).1).2).1 ((((((((z1).2).2).2).2).2).1).2).2)])] .bool fun (b2 : Bool) =>
  .leaf 0 [(Value.bool b2)]
def gjson_DoorNullish.h : Hints := ⟨[], [], [], []⟩
noncomputable def gjson_DoorNullish.c : Code := (Try.f21.body).getD .skip
theorem gjson_DoorNullish.e (r_0 : Int) (r_1 : ByteArray) (r_2 : ByteArray) (r_3 : Nat) (r_4 : Int) (r_5 : (Option Addr)) (r_5_len : Nat) (r_5_cap : Nat) : fnT Try.prog gjson_DoorNullish.h Try.f21 gjson_DoorNullish.c [.v (Value.agg #[(Value.int IntKind.i64 r_0), (Value.string r_1), (Value.string r_2), (Value.float FloatKind.f64 r_3), (Value.int IntKind.i64 r_4), (Value.slice r_5 r_5_len r_5_cap)])] = gjson_DoorNullish.t r_0 r_1 r_2 r_3 r_4 r_5 r_5_len r_5_cap := by kernel_rfl
theorem gjson_DoorNullish.calls (r_0 : Int) (r_1 : ByteArray) (r_2 : ByteArray) (r_3 : Nat) (r_4 : Int) (r_5 : (Option Addr)) (r_5_len : Nat) (r_5_cap : Nat) {w : World} {R : Ending → World → Prop} (hs : sat Try.prog (gjson_DoorNullish.t r_0 r_1 r_2 r_3 r_4 r_5 r_5_len r_5_cap) (fun l vs w' => l = 0 ∧ R (.returned (retVal vs)) w') w) : Calls Try.prog 21 #[(Value.agg #[(Value.int IntKind.i64 r_0), (Value.string r_1), (Value.string r_2), (Value.float FloatKind.f64 r_3), (Value.int IntKind.i64 r_4), (Value.slice r_5 r_5_len r_5_cap)])] w R :=
  have h := calls_of_tree (w := w) (R := R) (args := [.v (Value.agg #[(Value.int IntKind.i64 r_0), (Value.string r_1), (Value.string r_2), (Value.float FloatKind.f64 r_3), (Value.int IntKind.i64 r_4), (Value.slice r_5 r_5_len r_5_cap)])]) (c := gjson_DoorNullish.c) Try.func21 (show Try.f21.body = some gjson_DoorNullish.c by kernel_rfl) (of_decide_eq_true (by kernel_rfl)) (gjson_DoorNullish.e r_0 r_1 r_2 r_3 r_4 r_5 r_5_len r_5_cap) hs
  h

/-! ### pub-tetrapla/impl.gjOf : function 22 -/
def impl_gjOf.t (r_0 : Int) (r_1 : ByteArray) (r_2 : ByteArray) (r_3 : Nat) (r_4 : Bool) : T :=
  .alloc (Obj.cells #[(Value.int IntKind.i64 r_0), (Value.string r_1), (Value.string r_2), (Value.float FloatKind.f64 r_3), (Value.bool r_4)] 24 (0, 0)) fun (z0 : Addr) =>
  .alloc (Obj.cells #[(Value.int IntKind.i64 (0 : Int)), (Value.string (ByteArray.mk #[])), (Value.string (ByteArray.mk #[])), (Value.float FloatKind.f64 0), (Value.int IntKind.i64 (0 : Int)), (Value.slice none 0 0)] 51 (0, 0)) fun (z1 : Addr) =>
  .load (Addr.add z0 0) (.int .i64) fun (i2 : Int) =>
  .load (Addr.add z0 1) .str fun (s3 : ByteArray) =>
  .load (Addr.add z0 2) .str fun (s4 : ByteArray) =>
  .load (Addr.add z0 3) (.float .f64) fun (z5 : Nat) =>
  .effU (Instr.storeAt 51 (Value.pointer (some z1)) (Value.agg #[(Value.int IntKind.i64 i2), (Value.string s3), (Value.string s4), (Value.float FloatKind.f64 z5), (Value.int IntKind.i64 (0 : Int)), (Value.slice none 0 0)])) <|
  .effS (Instr.loadAt 51 (Value.pointer (some z1))) (.agg (.cons (.int .i64) (.cons .str (.cons .str (.cons (.float .f64) (.cons (.int .i64) (.cons .slice .nil))))))) fun (z6 : (Int × (ByteArray × (ByteArray × (Nat × (Int × (((Option Addr) × (Nat × Nat)) × PUnit))))))) =>
  .leaf 0 [(Value.agg #[(Value.int IntKind.i64 (z6).1), (Value.string ((z6).2).1), (Value.string (((z6).2).2).1), (Value.float FloatKind.f64 ((((z6).2).2).2).1), (Value.int IntKind.i64 (((((z6).2).2).2).2).1), (Value.slice (((((((z6).2).2).2).2).2).1).1 ((((((((z6).2).2).2).2).2).1).2).1 ((((((((z6).2).2).2).2).2).1).2).2)])]
def impl_gjOf.h : Hints := ⟨[], [], [], []⟩
noncomputable def impl_gjOf.c : Code := (Try.f22.body).getD .skip
theorem impl_gjOf.e (r_0 : Int) (r_1 : ByteArray) (r_2 : ByteArray) (r_3 : Nat) (r_4 : Bool) : fnT Try.prog impl_gjOf.h Try.f22 impl_gjOf.c [.v (Value.agg #[(Value.int IntKind.i64 r_0), (Value.string r_1), (Value.string r_2), (Value.float FloatKind.f64 r_3), (Value.bool r_4)])] = impl_gjOf.t r_0 r_1 r_2 r_3 r_4 := by kernel_rfl
theorem impl_gjOf.calls (r_0 : Int) (r_1 : ByteArray) (r_2 : ByteArray) (r_3 : Nat) (r_4 : Bool) {w : World} {R : Ending → World → Prop} (hs : sat Try.prog (impl_gjOf.t r_0 r_1 r_2 r_3 r_4) (fun l vs w' => l = 0 ∧ R (.returned (retVal vs)) w') w) : Calls Try.prog 22 #[(Value.agg #[(Value.int IntKind.i64 r_0), (Value.string r_1), (Value.string r_2), (Value.float FloatKind.f64 r_3), (Value.bool r_4)])] w R :=
  have h := calls_of_tree (w := w) (R := R) (args := [.v (Value.agg #[(Value.int IntKind.i64 r_0), (Value.string r_1), (Value.string r_2), (Value.float FloatKind.f64 r_3), (Value.bool r_4)])]) (c := impl_gjOf.c) Try.func22 (show Try.f22.body = some impl_gjOf.c by kernel_rfl) (of_decide_eq_true (by kernel_rfl)) (impl_gjOf.e r_0 r_1 r_2 r_3 r_4) hs
  h

/-! ### pub-tetrapla/pub/gjson.DoorSimple : function 23 -/
def gjson_DoorSimple.t (s : ByteArray) : T :=
  .call 33 #[(Value.string s)] .bool fun (b0 : Bool) =>
  .leaf 0 [(Value.bool b0)]
def gjson_DoorSimple.h : Hints := ⟨[], [], [], []⟩
noncomputable def gjson_DoorSimple.c : Code := (Try.f23.body).getD .skip
theorem gjson_DoorSimple.e (s : ByteArray) : fnT Try.prog gjson_DoorSimple.h Try.f23 gjson_DoorSimple.c [.v (Value.string s)] = gjson_DoorSimple.t s := by kernel_rfl
theorem gjson_DoorSimple.calls (s : ByteArray) {w : World} {R : Ending → World → Prop} (hs : sat Try.prog (gjson_DoorSimple.t s) (fun l vs w' => l = 0 ∧ R (.returned (retVal vs)) w') w) : Calls Try.prog 23 #[(Value.string s)] w R :=
  have h := calls_of_tree (w := w) (R := R) (args := [.v (Value.string s)]) (c := gjson_DoorSimple.c) Try.func23 (show Try.f23.body = some gjson_DoorSimple.c by kernel_rfl) (of_decide_eq_true (by kernel_rfl)) (gjson_DoorSimple.e s) hs
  h

/-! ### pub-tetrapla/pub/jsonparser.DoorParseInt : function 24 -/
def jsonparser_DoorParseInt.t (s : ByteArray) : T :=
  .eff (convert 9 55 (Value.string s)) .slice fun (z0 : ((Option Addr) × (Nat × Nat))) =>
  .call 34 #[(Value.slice (z0).1 ((z0).2).1 ((z0).2).2)] (.tuple (.cons (.int .i64) (.cons .bool (.cons .bool .nil)))) fun (z1 : (Int × (Bool × (Bool × PUnit)))) =>
  .leaf 0 [(Value.int IntKind.i64 (z1).1), (Value.bool ((z1).2).1), (Value.bool (((z1).2).2).1)]
def jsonparser_DoorParseInt.h : Hints := ⟨[], [], [], []⟩
noncomputable def jsonparser_DoorParseInt.c : Code := (Try.f24.body).getD .skip
theorem jsonparser_DoorParseInt.e (s : ByteArray) : fnT Try.prog jsonparser_DoorParseInt.h Try.f24 jsonparser_DoorParseInt.c [.v (Value.string s)] = jsonparser_DoorParseInt.t s := by kernel_rfl
theorem jsonparser_DoorParseInt.calls (s : ByteArray) {w : World} {R : Ending → World → Prop} (hs : sat Try.prog (jsonparser_DoorParseInt.t s) (fun l vs w' => l = 0 ∧ R (.returned (retVal vs)) w') w) : Calls Try.prog 24 #[(Value.string s)] w R :=
  have h := calls_of_tree (w := w) (R := R) (args := [.v (Value.string s)]) (c := jsonparser_DoorParseInt.c) Try.func24 (show Try.f24.body = some jsonparser_DoorParseInt.c by kernel_rfl) (of_decide_eq_true (by kernel_rfl)) (jsonparser_DoorParseInt.e s) hs
  h

/-! ### pub-tetrapla/spec.Uint64 : function 25 -/
def spec_Uint64.t2 (s : ByteArray) (i0 : Int) (i1 : Int) (b2 : Bool) : T :=
  .ite b2 (
    .leaf 0 [(Value.int IntKind.u64 (0 : Int)), (Value.bool Bool.false)]) (
    .chk (((0 : Int) ≤ i0) ∧ (i0 < (((ByteArray.size s) : Nat) : Int))) <|
    .chk ((10 : Int) ≠ (0 : Int)) <|
    .ite (decide (i1 > (IntKind.wrap IntKind.u64 (Int.tdiv (IntKind.wrap IntKind.u64 ((18446744073709551615 : Int) - (IntKind.wrap IntKind.u64 (IntKind.wrap IntKind.u8 ((bt s i0) - (48 : Int)))))) (10 : Int))))) (
      .leaf 0 [(Value.int IntKind.u64 (0 : Int)), (Value.bool Bool.false)]) (
      .leaf 1 [(Value.int IntKind.i64 (IntKind.wrap IntKind.i64 (i0 + (1 : Int)))), (Value.int IntKind.u64 (IntKind.wrap IntKind.u64 ((IntKind.wrap IntKind.u64 (i1 * (10 : Int))) + (IntKind.wrap IntKind.u64 (IntKind.wrap IntKind.u8 ((bt s i0) - (48 : Int)))))))]))
def spec_Uint64.t1 (s : ByteArray) (i0 : Int) (i1 : Int) : T :=
  .ite (decide (i0 < (((ByteArray.size s) : Nat) : Int))) (
    .cut 2 (.cons .bool .nil) (
      .chk (((0 : Int) ≤ i0) ∧ (i0 < (((ByteArray.size s) : Nat) : Int))) <|
      .ite (decide ((bt s i0) < (48 : Int))) (
        .leaf 2 [(Value.bool Bool.true)]) (
        .chk (((0 : Int) ≤ i0) ∧ (i0 < (((ByteArray.size s) : Nat) : Int))) <|
        .leaf 2 [(Value.bool (decide ((bt s i0) > (57 : Int))))]))
      (fun z => spec_Uint64.t2 s i0 i1 z.1)) (
    .leaf 0 [(Value.int IntKind.u64 i1), (Value.bool Bool.true)])
def spec_Uint64.t (s : ByteArray) : T :=
  .ite (strEq s (ByteArray.mk #[])) (
    .leaf 0 [(Value.int IntKind.u64 (0 : Int)), (Value.bool Bool.false)]) (
    .loop 1 (.cons (.int .i64) (.cons (.int .u64) .nil)) [(Value.int IntKind.i64 (0 : Int)), (Value.int IntKind.u64 (0 : Int))]
      (fun z => spec_Uint64.t1 s z.1 z.2.1))
def spec_Uint64.h : Hints := ⟨[], [], [(7, [(24, .bool)])], [(5, [(5, (.int .i64)), (4, (.int .u64))])]⟩
noncomputable def spec_Uint64.c : Code := (Try.f25.body).getD .skip
theorem spec_Uint64.e (s : ByteArray) : fnT Try.prog spec_Uint64.h Try.f25 spec_Uint64.c [.v (Value.string s)] = spec_Uint64.t s := by kernel_rfl
theorem spec_Uint64.calls (s : ByteArray) {w : World} {R : Ending → World → Prop} (hs : sat Try.prog (spec_Uint64.t s) (fun l vs w' => l = 0 ∧ R (.returned (retVal vs)) w') w) : Calls Try.prog 25 #[(Value.string s)] w R :=
  have h := calls_of_tree (w := w) (R := R) (args := [.v (Value.string s)]) (c := spec_Uint64.c) Try.func25 (show Try.f25.body = some spec_Uint64.c by kernel_rfl) (of_decide_eq_true (by kernel_rfl)) (spec_Uint64.e s) hs
  h

/-! ### (*pub-tetrapla/spec.reader).number : function 28 -/
def spec_reader_number.t2 (r : (Option Addr)) (b6 : Bool) : T :=
  .ite b6 (
    .leaf 0 [(Value.bool Bool.false)]) (
    .call 37 #[(Value.pointer r), (Value.int IntKind.u8 (101 : Int))] .bool fun (b7 : Bool) =>
    .ite b7 (
      .call 37 #[(Value.pointer r), (Value.int IntKind.u8 (43 : Int))] .bool fun (b8 : Bool) =>
      .ite (!b8) (
        .call 37 #[(Value.pointer r), (Value.int IntKind.u8 (45 : Int))] .bool fun (b9 : Bool) =>
        .call 38 #[(Value.pointer r)] .bool fun (b10 : Bool) =>
        .leaf 0 [(Value.bool b10)]) (
        .call 38 #[(Value.pointer r)] .bool fun (b11 : Bool) =>
        .leaf 0 [(Value.bool b11)])) (
      .call 37 #[(Value.pointer r), (Value.int IntKind.u8 (69 : Int))] .bool fun (b12 : Bool) =>
      .ite b12 (
        .call 37 #[(Value.pointer r), (Value.int IntKind.u8 (43 : Int))] .bool fun (b13 : Bool) =>
        .ite (!b13) (
          .call 37 #[(Value.pointer r), (Value.int IntKind.u8 (45 : Int))] .bool fun (b14 : Bool) =>
          .call 38 #[(Value.pointer r)] .bool fun (b15 : Bool) =>
          .leaf 0 [(Value.bool b15)]) (
          .call 38 #[(Value.pointer r)] .bool fun (b16 : Bool) =>
          .leaf 0 [(Value.bool b16)])) (
        .leaf 0 [(Value.bool Bool.true)])))
def spec_reader_number.t1 (r : (Option Addr)) (b3 : Bool) : T :=
  .ite b3 (
    .leaf 0 [(Value.bool Bool.false)]) (
    .cut 1 (.cons .bool .nil) (
      .call 37 #[(Value.pointer r), (Value.int IntKind.u8 (46 : Int))] .bool fun (b4 : Bool) =>
      .ite b4 (
        .call 38 #[(Value.pointer r)] .bool fun (b5 : Bool) =>
        .leaf 1 [(Value.bool (!b5))]) (
        .leaf 1 [(Value.bool Bool.false)]))
      (fun z => spec_reader_number.t2 r z.1))
def spec_reader_number.t (r : (Option Addr)) : T :=
  .call 37 #[(Value.pointer r), (Value.int IntKind.u8 (45 : Int))] .bool fun (b0 : Bool) =>
  .cut 1 (.cons .bool .nil) (
    .call 37 #[(Value.pointer r), (Value.int IntKind.u8 (48 : Int))] .bool fun (b1 : Bool) =>
    .ite (!b1) (
      .call 38 #[(Value.pointer r)] .bool fun (b2 : Bool) =>
      .leaf 1 [(Value.bool (!b2))]) (
      .leaf 1 [(Value.bool Bool.false)]))
    (fun z => spec_reader_number.t1 r z.1)
def spec_reader_number.h : Hints := ⟨[], [], [(2, [(12, .bool)]), (4, [(19, .bool)])], []⟩
noncomputable def spec_reader_number.c : Code := (Try.f28.body).getD .skip
theorem spec_reader_number.e (r : (Option Addr)) : fnT Try.prog spec_reader_number.h Try.f28 spec_reader_number.c [.v (Value.pointer r)] = spec_reader_number.t r := by kernel_rfl
theorem spec_reader_number.calls (r : (Option Addr)) {w : World} {R : Ending → World → Prop} (hs : sat Try.prog (spec_reader_number.t r) (fun l vs w' => l = 0 ∧ R (.returned (retVal vs)) w') w) : Calls Try.prog 28 #[(Value.pointer r)] w R :=
  have h := calls_of_tree (w := w) (R := R) (args := [.v (Value.pointer r)]) (c := spec_reader_number.c) Try.func28 (show Try.f28.body = some spec_reader_number.c by kernel_rfl) (of_decide_eq_true (by kernel_rfl)) (spec_reader_number.e r) hs
  h

/-! ### pub-tetrapla/pub/gjson.DoorValidNumber : function 29 -/
def gjson_DoorValidNumber.t (s : ByteArray) (at1 : Int) : T :=
  .eff (convert 9 55 (Value.string s)) .slice fun (z0 : ((Option Addr) × (Nat × Nat))) =>
  .call 39 #[(Value.slice (z0).1 ((z0).2).1 ((z0).2).2), (Value.int IntKind.i64 at1)] (.tuple (.cons (.int .i64) (.cons .bool .nil))) fun (z1 : (Int × (Bool × PUnit))) =>
  .leaf 0 [(Value.int IntKind.i64 (z1).1), (Value.bool ((z1).2).1)]
def gjson_DoorValidNumber.h : Hints := ⟨[], [], [], []⟩
noncomputable def gjson_DoorValidNumber.c : Code := (Try.f29.body).getD .skip
theorem gjson_DoorValidNumber.e (s : ByteArray) (at1 : Int) : fnT Try.prog gjson_DoorValidNumber.h Try.f29 gjson_DoorValidNumber.c [.v (Value.string s), .v (Value.int IntKind.i64 at1)] = gjson_DoorValidNumber.t s at1 := by kernel_rfl
theorem gjson_DoorValidNumber.calls (s : ByteArray) (at1 : Int) {w : World} {R : Ending → World → Prop} (hs : sat Try.prog (gjson_DoorValidNumber.t s at1) (fun l vs w' => l = 0 ∧ R (.returned (retVal vs)) w') w) : Calls Try.prog 29 #[(Value.string s), (Value.int IntKind.i64 at1)] w R :=
  have h := calls_of_tree (w := w) (R := R) (args := [.v (Value.string s), .v (Value.int IntKind.i64 at1)]) (c := gjson_DoorValidNumber.c) Try.func29 (show Try.f29.body = some gjson_DoorValidNumber.c by kernel_rfl) (of_decide_eq_true (by kernel_rfl)) (gjson_DoorValidNumber.e s at1) hs
  h

/-! ### pub-tetrapla/pub/gjson.nullish : function 32 -/
def gjson_nullish.t (t0_0 : Int) (t0_1 : ByteArray) (t0_2 : ByteArray) (t0_3 : Nat) (t0_4 : Int) (t0_5 : (Option Addr)) (t0_5_len : Nat) (t0_5_cap : Nat) : T :=
  .alloc (Obj.cells #[(Value.int IntKind.i64 t0_0), (Value.string t0_1), (Value.string t0_2), (Value.float FloatKind.f64 t0_3), (Value.int IntKind.i64 t0_4), (Value.slice t0_5 t0_5_len t0_5_cap)] 51 (0, 0)) fun (z0 : Addr) =>
  .load (Addr.add z0 0) (.int .i64) fun (i1 : Int) =>
  .leaf 0 [(Value.bool (i1 == (0 : Int)))]
def gjson_nullish.h : Hints := ⟨[], [], [], []⟩
noncomputable def gjson_nullish.c : Code := (Try.f32.body).getD .skip
theorem gjson_nullish.e (t0_0 : Int) (t0_1 : ByteArray) (t0_2 : ByteArray) (t0_3 : Nat) (t0_4 : Int) (t0_5 : (Option Addr)) (t0_5_len : Nat) (t0_5_cap : Nat) : fnT Try.prog gjson_nullish.h Try.f32 gjson_nullish.c [.v (Value.agg #[(Value.int IntKind.i64 t0_0), (Value.string t0_1), (Value.string t0_2), (Value.float FloatKind.f64 t0_3), (Value.int IntKind.i64 t0_4), (Value.slice t0_5 t0_5_len t0_5_cap)])] = gjson_nullish.t t0_0 t0_1 t0_2 t0_3 t0_4 t0_5 t0_5_len t0_5_cap := by kernel_rfl
theorem gjson_nullish.calls (t0_0 : Int) (t0_1 : ByteArray) (t0_2 : ByteArray) (t0_3 : Nat) (t0_4 : Int) (t0_5 : (Option Addr)) (t0_5_len : Nat) (t0_5_cap : Nat) {w : World} {R : Ending → World → Prop} (hs : sat Try.prog (gjson_nullish.t t0_0 t0_1 t0_2 t0_3 t0_4 t0_5 t0_5_len t0_5_cap) (fun l vs w' => l = 0 ∧ R (.returned (retVal vs)) w') w) : Calls Try.prog 32 #[(Value.agg #[(Value.int IntKind.i64 t0_0), (Value.string t0_1), (Value.string t0_2), (Value.float FloatKind.f64 t0_3), (Value.int IntKind.i64 t0_4), (Value.slice t0_5 t0_5_len t0_5_cap)])] w R :=
  have h := calls_of_tree (w := w) (R := R) (args := [.v (Value.agg #[(Value.int IntKind.i64 t0_0), (Value.string t0_1), (Value.string t0_2), (Value.float FloatKind.f64 t0_3), (Value.int IntKind.i64 t0_4), (Value.slice t0_5 t0_5_len t0_5_cap)])]) (c := gjson_nullish.c) Try.func32 (show Try.f32.body = some gjson_nullish.c by kernel_rfl) (of_decide_eq_true (by kernel_rfl)) (gjson_nullish.e t0_0 t0_1 t0_2 t0_3 t0_4 t0_5 t0_5_len t0_5_cap) hs
  h

/-! ### pub-tetrapla/pub/gjson.isSimpleName : function 33 -/
def gjson_isSimpleName.t1 (component : ByteArray) (i0 : Int) : T :=
  .ite (decide (i0 < (((ByteArray.size component) : Nat) : Int))) (
    .chk (((0 : Int) ≤ i0) ∧ (i0 < (((ByteArray.size component) : Nat) : Int))) <|
    .ite (decide ((bt component i0) < (32 : Int))) (
      .leaf 0 [(Value.bool Bool.false)]) (
      .chk (((0 : Int) ≤ i0) ∧ (i0 < (((ByteArray.size component) : Nat) : Int))) <|
      .ite ((bt component i0) == (91 : Int)) (
        .ite ((bt component i0) == (91 : Int)) (
          .leaf 0 [(Value.bool Bool.false)]) (
          .leaf 1 [(Value.int IntKind.i64 (IntKind.wrap IntKind.i64 (i0 + (1 : Int))))])) (
        .ite ((bt component i0) == (93 : Int)) (
          .ite ((bt component i0) == (93 : Int)) (
            .leaf 0 [(Value.bool Bool.false)]) (
            .leaf 1 [(Value.int IntKind.i64 (IntKind.wrap IntKind.i64 (i0 + (1 : Int))))])) (
          .ite ((bt component i0) == (123 : Int)) (
            .ite ((bt component i0) == (123 : Int)) (
              .leaf 0 [(Value.bool Bool.false)]) (
              .leaf 1 [(Value.int IntKind.i64 (IntKind.wrap IntKind.i64 (i0 + (1 : Int))))])) (
            .ite ((bt component i0) == (125 : Int)) (
              .ite ((bt component i0) == (125 : Int)) (
                .leaf 0 [(Value.bool Bool.false)]) (
                .leaf 1 [(Value.int IntKind.i64 (IntKind.wrap IntKind.i64 (i0 + (1 : Int))))])) (
              .ite ((bt component i0) == (40 : Int)) (
                .ite ((bt component i0) == (40 : Int)) (
                  .leaf 0 [(Value.bool Bool.false)]) (
                  .leaf 1 [(Value.int IntKind.i64 (IntKind.wrap IntKind.i64 (i0 + (1 : Int))))])) (
                .ite ((bt component i0) == (41 : Int)) (
                  .ite ((bt component i0) == (41 : Int)) (
                    .leaf 0 [(Value.bool Bool.false)]) (
                    .leaf 1 [(Value.int IntKind.i64 (IntKind.wrap IntKind.i64 (i0 + (1 : Int))))])) (
                  .ite ((bt component i0) == (35 : Int)) (
                    .ite ((bt component i0) == (35 : Int)) (
                      .leaf 0 [(Value.bool Bool.false)]) (
                      .leaf 1 [(Value.int IntKind.i64 (IntKind.wrap IntKind.i64 (i0 + (1 : Int))))])) (
                    .ite ((bt component i0) == (124 : Int)) (
                      .ite ((bt component i0) == (124 : Int)) (
                        .leaf 0 [(Value.bool Bool.false)]) (
                        .leaf 1 [(Value.int IntKind.i64 (IntKind.wrap IntKind.i64 (i0 + (1 : Int))))])) (
                      .ite ((bt component i0) == (33 : Int)) (
                        .leaf 0 [(Value.bool Bool.false)]) (
                        .leaf 1 [(Value.int IntKind.i64 (IntKind.wrap IntKind.i64 (i0 + (1 : Int))))]))))))))))) (
    .leaf 0 [(Value.bool Bool.true)])
def gjson_isSimpleName.t (component : ByteArray) : T :=
  .loop 1 (.cons (.int .i64) .nil) [(Value.int IntKind.i64 (0 : Int))]
    (fun z => gjson_isSimpleName.t1 component z.1)
def gjson_isSimpleName.h : Hints := ⟨[], [], [], [(2, [(3, (.int .i64))])]⟩
noncomputable def gjson_isSimpleName.c : Code := (Try.f33.body).getD .skip
theorem gjson_isSimpleName.e (component : ByteArray) : fnT Try.prog gjson_isSimpleName.h Try.f33 gjson_isSimpleName.c [.v (Value.string component)] = gjson_isSimpleName.t component := by kernel_rfl
theorem gjson_isSimpleName.calls (component : ByteArray) {w : World} {R : Ending → World → Prop} (hs : sat Try.prog (gjson_isSimpleName.t component) (fun l vs w' => l = 0 ∧ R (.returned (retVal vs)) w') w) : Calls Try.prog 33 #[(Value.string component)] w R :=
  have h := calls_of_tree (w := w) (R := R) (args := [.v (Value.string component)]) (c := gjson_isSimpleName.c) Try.func33 (show Try.f33.body = some gjson_isSimpleName.c by kernel_rfl) (of_decide_eq_true (by kernel_rfl)) (gjson_isSimpleName.e component) hs
  h

/-! ### pub-tetrapla/pub/jsonparser.parseInt : function 34 -/
def jsonparser_parseInt.t2 (q0 : (Option Addr)) (q0_len : Nat) (b3 : Bool) (i4 : Int) (i5 : Int) : T :=
  .ite (decide (i4 < ((q0_len : Nat) : Int))) (
    .chk (((0 : Int) ≤ i4) ∧ (i4 < ((q0_len : Nat) : Int))) <|
    .ptr q0 fun (z6 : Addr) =>
    .load (Addr.add z6 ((Int.toNat i4) * 1)) (.int .u8) fun (i7 : Int) =>
    .ite (decide ((IntKind.wrap IntKind.u8 (i7 - (48 : Int))) > (9 : Int))) (
      .leaf 0 [(Value.int IntKind.i64 (0 : Int)), (Value.bool Bool.false), (Value.bool Bool.false)]) (
      .leaf 1 [(Value.int IntKind.i64 (IntKind.wrap IntKind.i64 (i4 + (1 : Int)))), (Value.int IntKind.i64 (IntKind.wrap IntKind.i64 ((IntKind.wrap IntKind.i64 ((10 : Int) * i5)) + (IntKind.wrap IntKind.i64 (IntKind.wrap IntKind.u8 (i7 - (48 : Int)))))))])) (
    .ite b3 (
      .leaf 0 [(Value.int IntKind.i64 (IntKind.wrap IntKind.i64 ((0 : Int) - i5))), (Value.bool Bool.true), (Value.bool Bool.false)]) (
      .leaf 0 [(Value.int IntKind.i64 i5), (Value.bool Bool.true), (Value.bool Bool.false)]))
def jsonparser_parseInt.t5 (i10 : Int) (i11 : Int) (i13 : Int) (b14 : Bool) : T :=
  .ite b14 (
    .leaf 0 [(Value.int IntKind.i64 (0 : Int)), (Value.bool Bool.false), (Value.bool Bool.false)]) (
    .ite (decide (i11 > (1844674407370955161 : Int))) (
      .leaf 0 [(Value.int IntKind.i64 (0 : Int)), (Value.bool Bool.false), (Value.bool Bool.true)]) (
      .ite (decide ((IntKind.wrap IntKind.u64 ((IntKind.wrap IntKind.u64 (i11 * (10 : Int))) + (IntKind.wrap IntKind.u64 (IntKind.wrap IntKind.u8 (i13 - (48 : Int)))))) < (IntKind.wrap IntKind.u64 (i11 * (10 : Int))))) (
        .leaf 0 [(Value.int IntKind.i64 (0 : Int)), (Value.bool Bool.false), (Value.bool Bool.true)]) (
        .leaf 1 [(Value.int IntKind.i64 (IntKind.wrap IntKind.i64 (i10 + (1 : Int)))), (Value.int IntKind.u64 (IntKind.wrap IntKind.u64 ((IntKind.wrap IntKind.u64 (i11 * (10 : Int))) + (IntKind.wrap IntKind.u64 (IntKind.wrap IntKind.u8 (i13 - (48 : Int)))))))])))
def jsonparser_parseInt.t6 (b15 : Bool) : T :=
  .ite b15 (
    .leaf 0 [(Value.int IntKind.i64 (-9223372036854775808 : Int)), (Value.bool Bool.true), (Value.bool Bool.false)]) (
    .leaf 0 [(Value.int IntKind.i64 (0 : Int)), (Value.bool Bool.false), (Value.bool Bool.true)])
def jsonparser_parseInt.t4 (b3 : Bool) (z9 : ((Option Addr) × (Nat × Nat))) (i10 : Int) (i11 : Int) : T :=
  .ite (decide (i10 < ((((z9).2).1 : Nat) : Int))) (
    .chk (((0 : Int) ≤ i10) ∧ (i10 < ((((z9).2).1 : Nat) : Int))) <|
    .ptr (z9).1 fun (z12 : Addr) =>
    .load (Addr.add z12 ((Int.toNat i10) * 1)) (.int .u8) fun (i13 : Int) =>
    .cut 2 (.cons .bool .nil) (
      .ite (decide (i13 < (48 : Int))) (
        .leaf 2 [(Value.bool Bool.true)]) (
        .leaf 2 [(Value.bool (decide (i13 > (57 : Int))))]))
      (fun z => jsonparser_parseInt.t5 i10 i11 i13 z.1)) (
    .ite (decide (i11 > (9223372036854775807 : Int))) (
      .cut 1 (.cons .bool .nil) (
        .ite b3 (
          .leaf 1 [(Value.bool (i11 == (9223372036854775808 : Int)))]) (
          .leaf 1 [(Value.bool Bool.false)]))
        (fun z => jsonparser_parseInt.t6 z.1)) (
      .ite b3 (
        .leaf 0 [(Value.int IntKind.i64 (IntKind.wrap IntKind.i64 ((0 : Int) - (IntKind.wrap IntKind.i64 i11)))), (Value.bool Bool.true), (Value.bool Bool.false)]) (
        .leaf 0 [(Value.int IntKind.i64 (IntKind.wrap IntKind.i64 i11)), (Value.bool Bool.true), (Value.bool Bool.false)])))
def jsonparser_parseInt.t3 (b3 : Bool) (z9 : ((Option Addr) × (Nat × Nat))) : T :=
  .loop 1 (.cons (.int .i64) (.cons (.int .u64) .nil)) [(Value.int IntKind.i64 (0 : Int)), (Value.int IntKind.u64 (0 : Int))]
    (fun z => jsonparser_parseInt.t4 b3 z9 z.1 z.2.1)
def jsonparser_parseInt.t1 (q0 : (Option Addr)) (q0_len : Nat) (q0_cap : Nat) (i2 : Int) (b3 : Bool) : T :=
  .ite (i2 == ((q0_len : Nat) : Int)) (
    .leaf 0 [(Value.int IntKind.i64 (0 : Int)), (Value.bool Bool.false), (Value.bool Bool.false)]) (
    .ite (decide ((IntKind.wrap IntKind.i64 (((q0_len : Nat) : Int) - i2)) < (19 : Int))) (
      .loop 1 (.cons (.int .i64) (.cons (.int .i64) .nil)) [(Value.int IntKind.i64 i2), (Value.int IntKind.i64 (0 : Int))]
        (fun z => jsonparser_parseInt.t2 q0 q0_len b3 z.1 z.2.1)) (
      .cut 1 (.cons .slice .nil) (
        .ite b3 (
          .chk (((0 : Int) ≤ (1 : Int)) ∧ (((1 : Int) ≤ ((q0_len : Nat) : Int)) ∧ (((q0_len : Nat) : Int) ≤ ((q0_cap : Nat) : Int)))) <|
          .leaf 1 [(Value.slice (if (q0_cap = 1) then q0 else (Option.map (fun (y8 : Addr) => (Addr.add y8 1)) q0)) ((Int.toNat ((q0_len : Nat) : Int)) - 1) (q0_cap - 1))]) (
          .leaf 1 [(Value.slice q0 q0_len q0_cap)]))
        (fun z => jsonparser_parseInt.t3 b3 z.1)))
def jsonparser_parseInt.t (q0 : (Option Addr)) (q0_len : Nat) (q0_cap : Nat) : T :=
  .ite (((q0_len : Nat) : Int) == (0 : Int)) (
    .leaf 0 [(Value.int IntKind.i64 (0 : Int)), (Value.bool Bool.false), (Value.bool Bool.false)]) (
    .chk (((0 : Int) ≤ (0 : Int)) ∧ ((0 : Int) < ((q0_len : Nat) : Int))) <|
    .ptr q0 fun (z0 : Addr) =>
    .load (Addr.add z0 0) (.int .u8) fun (i1 : Int) =>
    .cut 1 (.cons (.int .i64) (.cons .bool .nil)) (
      .ite (i1 == (45 : Int)) (
        .leaf 1 [(Value.int IntKind.i64 (1 : Int)), (Value.bool Bool.true)]) (
        .leaf 1 [(Value.int IntKind.i64 (0 : Int)), (Value.bool Bool.false)]))
      (fun z => jsonparser_parseInt.t1 q0 q0_len q0_cap z.1 z.2.1))
def jsonparser_parseInt.h : Hints := ⟨[(20, [(7, (.int .i64)), (6, .bool)]), (49, [(0, .slice)])], [], [(27, [(63, .bool)]), (38, [(84, .bool)])], [(12, [(7, (.int .i64)), (2, (.int .i64))]), (25, [(54, (.int .i64)), (9, (.int .u64))])]⟩
noncomputable def jsonparser_parseInt.c : Code := (Try.f34.body).getD .skip
theorem jsonparser_parseInt.e (q0 : (Option Addr)) (q0_len : Nat) (q0_cap : Nat) : fnT Try.prog jsonparser_parseInt.h Try.f34 jsonparser_parseInt.c [.v (Value.slice q0 q0_len q0_cap)] = jsonparser_parseInt.t q0 q0_len q0_cap := by kernel_rfl
theorem jsonparser_parseInt.calls (q0 : (Option Addr)) (q0_len : Nat) (q0_cap : Nat) {w : World} {R : Ending → World → Prop} (hs : sat Try.prog (jsonparser_parseInt.t q0 q0_len q0_cap) (fun l vs w' => l = 0 ∧ R (.returned (retVal vs)) w') w) : Calls Try.prog 34 #[(Value.slice q0 q0_len q0_cap)] w R :=
  have h := calls_of_tree (w := w) (R := R) (args := [.v (Value.slice q0 q0_len q0_cap)]) (c := jsonparser_parseInt.c) Try.func34 (show Try.f34.body = some jsonparser_parseInt.c by kernel_rfl) (of_decide_eq_true (by kernel_rfl)) (jsonparser_parseInt.e q0 q0_len q0_cap) hs
  h

/-! ### (*pub-tetrapla/spec.reader).blanks : function 35 -/
def spec_reader_blanks.t1 (r : (Option Addr)) : T :=
  .drew <|
  .ptr r fun (z0 : Addr) =>
  .load (Addr.add z0 1) (.int .i64) fun (i1 : Int) =>
  .ptr r fun (z2 : Addr) =>
  .load (Addr.add z2 0) .str fun (s3 : ByteArray) =>
  .ite (decide (i1 < (((ByteArray.size s3) : Nat) : Int))) (
    .ptr r fun (z4 : Addr) =>
    .load (Addr.add z4 0) .str fun (s5 : ByteArray) =>
    .ptr r fun (z6 : Addr) =>
    .load (Addr.add z6 1) (.int .i64) fun (i7 : Int) =>
    .chk (((0 : Int) ≤ i7) ∧ (i7 < (((ByteArray.size s5) : Nat) : Int))) <|
    .callQ 46 #[(Value.int IntKind.u8 (bt s5 i7))] .bool fun (b8 : Bool) =>
    .grown <|
    .ite b8 (
      .ptr r fun (z9 : Addr) =>
      .load (Addr.add z9 1) (.int .i64) fun (i10 : Int) =>
      .ptr r fun (z11 : Addr) =>
      .store (Addr.add z11 1) (Value.int IntKind.i64 (IntKind.wrap IntKind.i64 (i10 + (1 : Int)))) <|
      .leaf 1 []) (
      .leaf 0 [])) (
    .grown <|
    .leaf 0 [])
def spec_reader_blanks.t (r : (Option Addr)) : T :=
  .loop 1 .nil []
    (fun _ => spec_reader_blanks.t1 r)
def spec_reader_blanks.h : Hints := ⟨[], [], [], [(0, [])]⟩
noncomputable def spec_reader_blanks.c : Code := (Try.f35.body).getD .skip
theorem spec_reader_blanks.e (r : (Option Addr)) : fnT Try.prog spec_reader_blanks.h Try.f35 spec_reader_blanks.c [.v (Value.pointer r)] = spec_reader_blanks.t r := by kernel_rfl
theorem spec_reader_blanks.calls (r : (Option Addr)) {w : World} {R : Ending → World → Prop} (hs : sat Try.prog (spec_reader_blanks.t r) (fun l vs w' => l = 0 ∧ R (.returned (retVal vs)) w') w) : Calls Try.prog 35 #[(Value.pointer r)] w R :=
  have h := calls_of_tree (w := w) (R := R) (args := [.v (Value.pointer r)]) (c := spec_reader_blanks.c) Try.func35 (show Try.f35.body = some spec_reader_blanks.c by kernel_rfl) (of_decide_eq_true (by kernel_rfl)) (spec_reader_blanks.e r) hs
  h

/-! ### (*pub-tetrapla/spec.reader).take : function 37 -/
def spec_reader_take.t (r : (Option Addr)) (c1 : Int) : T :=
  .drew <|
  .ptr r fun (z0 : Addr) =>
  .load (Addr.add z0 1) (.int .i64) fun (i1 : Int) =>
  .ptr r fun (z2 : Addr) =>
  .load (Addr.add z2 0) .str fun (s3 : ByteArray) =>
  .ite (decide (i1 < (((ByteArray.size s3) : Nat) : Int))) (
    .ptr r fun (z4 : Addr) =>
    .load (Addr.add z4 0) .str fun (s5 : ByteArray) =>
    .ptr r fun (z6 : Addr) =>
    .load (Addr.add z6 1) (.int .i64) fun (i7 : Int) =>
    .chk (((0 : Int) ≤ i7) ∧ (i7 < (((ByteArray.size s5) : Nat) : Int))) <|
    .ite ((bt s5 i7) == c1) (
      .ptr r fun (z8 : Addr) =>
      .load (Addr.add z8 1) (.int .i64) fun (i9 : Int) =>
      .ptr r fun (z10 : Addr) =>
      .store (Addr.add z10 1) (Value.int IntKind.i64 (IntKind.wrap IntKind.i64 (i9 + (1 : Int)))) <|
      .leaf 0 [(Value.bool Bool.true)]) (
      .leaf 0 [(Value.bool Bool.false)])) (
    .leaf 0 [(Value.bool Bool.false)])
def spec_reader_take.h : Hints := ⟨[], [], [], []⟩
noncomputable def spec_reader_take.c : Code := (Try.f37.body).getD .skip
theorem spec_reader_take.e (r : (Option Addr)) (c1 : Int) : fnT Try.prog spec_reader_take.h Try.f37 spec_reader_take.c [.v (Value.pointer r), .v (Value.int IntKind.u8 c1)] = spec_reader_take.t r c1 := by kernel_rfl
theorem spec_reader_take.calls (r : (Option Addr)) (c1 : Int) {w : World} {R : Ending → World → Prop} (hs : sat Try.prog (spec_reader_take.t r c1) (fun l vs w' => l = 0 ∧ R (.returned (retVal vs)) w') w) : Calls Try.prog 37 #[(Value.pointer r), (Value.int IntKind.u8 c1)] w R :=
  have h := calls_of_tree (w := w) (R := R) (args := [.v (Value.pointer r), .v (Value.int IntKind.u8 c1)]) (c := spec_reader_take.c) Try.func37 (show Try.f37.body = some spec_reader_take.c by kernel_rfl) (of_decide_eq_true (by kernel_rfl)) (spec_reader_take.e r c1) hs
  h

/-! ### (*pub-tetrapla/spec.reader).digits : function 38 -/
def spec_reader_digits.t1 (r : (Option Addr)) (i1 : Int) (i3 : Int) : T :=
  .ite (decide ((48 : Int) ≤ i3)) (
    .ite (decide (i3 ≤ (57 : Int))) (
      .ptr r fun (z4 : Addr) =>
      .load (Addr.add z4 1) (.int .i64) fun (i5 : Int) =>
      .ptr r fun (z6 : Addr) =>
      .store (Addr.add z6 1) (Value.int IntKind.i64 (IntKind.wrap IntKind.i64 (i5 + (1 : Int)))) <|
      .call 40 #[(Value.pointer r)] (.int .u8) fun (i7 : Int) =>
      .leaf 1 [(Value.int IntKind.u8 i7)]) (
      .ptr r fun (z8 : Addr) =>
      .load (Addr.add z8 1) (.int .i64) fun (i9 : Int) =>
      .leaf 0 [(Value.bool (decide (i9 > i1)))])) (
    .ptr r fun (z10 : Addr) =>
    .load (Addr.add z10 1) (.int .i64) fun (i11 : Int) =>
    .leaf 0 [(Value.bool (decide (i11 > i1)))])
def spec_reader_digits.t (r : (Option Addr)) : T :=
  .ptr r fun (z0 : Addr) =>
  .load (Addr.add z0 1) (.int .i64) fun (i1 : Int) =>
  .call 40 #[(Value.pointer r)] (.int .u8) fun (i2 : Int) =>
  .loop 1 (.cons (.int .u8) .nil) [(Value.int IntKind.u8 i2)]
    (fun z => spec_reader_digits.t1 r i1 z.1)
def spec_reader_digits.h : Hints := ⟨[], [], [], [(3, [(4, (.int .u8))])]⟩
noncomputable def spec_reader_digits.c : Code := (Try.f38.body).getD .skip
theorem spec_reader_digits.e (r : (Option Addr)) : fnT Try.prog spec_reader_digits.h Try.f38 spec_reader_digits.c [.v (Value.pointer r)] = spec_reader_digits.t r := by kernel_rfl
theorem spec_reader_digits.calls (r : (Option Addr)) {w : World} {R : Ending → World → Prop} (hs : sat Try.prog (spec_reader_digits.t r) (fun l vs w' => l = 0 ∧ R (.returned (retVal vs)) w') w) : Calls Try.prog 38 #[(Value.pointer r)] w R :=
  have h := calls_of_tree (w := w) (R := R) (args := [.v (Value.pointer r)]) (c := spec_reader_digits.c) Try.func38 (show Try.f38.body = some spec_reader_digits.c by kernel_rfl) (of_decide_eq_true (by kernel_rfl)) (spec_reader_digits.e r) hs
  h

/-! ### pub-tetrapla/pub/gjson.validnumber : function 39 -/
def gjson_validnumber.t1 (q1 : Int) (b6 : Bool) : T :=
  .ite b6 (
    .leaf 0 [(Value.int IntKind.i64 (IntKind.wrap IntKind.i64 ((IntKind.wrap IntKind.i64 (q1 - (1 : Int))) + (1 : Int)))), (Value.bool Bool.false)]) (
    .leaf 1 [(Value.int IntKind.i64 (IntKind.wrap IntKind.i64 ((IntKind.wrap IntKind.i64 (q1 - (1 : Int))) + (1 : Int))))])
def gjson_validnumber.t3 (q0 : (Option Addr)) (q0_len : Nat) (i10 : Int) : T :=
  .ite (decide (i10 < ((q0_len : Nat) : Int))) (
    .chk (((0 : Int) ≤ i10) ∧ (i10 < ((q0_len : Nat) : Int))) <|
    .ptr q0 fun (z11 : Addr) =>
    .load (Addr.add z11 ((Int.toNat i10) * 1)) (.int .u8) fun (i12 : Int) =>
    .ite (decide (i12 ≥ (48 : Int))) (
      .chk (((0 : Int) ≤ i10) ∧ (i10 < ((q0_len : Nat) : Int))) <|
      .ptr q0 fun (z13 : Addr) =>
      .load (Addr.add z13 ((Int.toNat i10) * 1)) (.int .u8) fun (i14 : Int) =>
      .ite (decide (i14 ≤ (57 : Int))) (
        .leaf 3 [(Value.int IntKind.i64 (IntKind.wrap IntKind.i64 (i10 + (1 : Int))))]) (
        .leaf 2 [(Value.int IntKind.i64 i10)])) (
      .leaf 2 [(Value.int IntKind.i64 i10)])) (
    .leaf 2 [(Value.int IntKind.i64 i10)])
def gjson_validnumber.t4 (i15 : Int) : T :=
  .leaf 1 [(Value.int IntKind.i64 i15)]
def gjson_validnumber.t7 (q0 : (Option Addr)) (q0_len : Nat) (i24 : Int) : T :=
  .ite (decide (i24 < ((q0_len : Nat) : Int))) (
    .chk (((0 : Int) ≤ i24) ∧ (i24 < ((q0_len : Nat) : Int))) <|
    .ptr q0 fun (z25 : Addr) =>
    .load (Addr.add z25 ((Int.toNat i24) * 1)) (.int .u8) fun (i26 : Int) =>
    .ite (decide (i26 ≥ (48 : Int))) (
      .chk (((0 : Int) ≤ i24) ∧ (i24 < ((q0_len : Nat) : Int))) <|
      .ptr q0 fun (z27 : Addr) =>
      .load (Addr.add z27 ((Int.toNat i24) * 1)) (.int .u8) fun (i28 : Int) =>
      .ite (decide (i28 ≤ (57 : Int))) (
        .leaf 3 [(Value.int IntKind.i64 (IntKind.wrap IntKind.i64 (i24 + (1 : Int))))]) (
        .leaf 2 [(Value.int IntKind.i64 i24)])) (
      .leaf 2 [(Value.int IntKind.i64 i24)])) (
    .leaf 2 [(Value.int IntKind.i64 i24)])
def gjson_validnumber.t8 (i29 : Int) : T :=
  .leaf 1 [(Value.int IntKind.i64 i29)]
def gjson_validnumber.t6 (q0 : (Option Addr)) (q0_len : Nat) (i16 : Int) (b23 : Bool) : T :=
  .ite b23 (
    .leaf 0 [(Value.int IntKind.i64 (IntKind.wrap IntKind.i64 (i16 + (1 : Int)))), (Value.bool Bool.false)]) (
    .cut 2 (.cons (.int .i64) .nil) (
      .loop 3 (.cons (.int .i64) .nil) [(Value.int IntKind.i64 (IntKind.wrap IntKind.i64 ((IntKind.wrap IntKind.i64 (i16 + (1 : Int))) + (1 : Int))))]
        (fun z => gjson_validnumber.t7 q0 q0_len z.1))
      (fun z => gjson_validnumber.t8 z.1))
def gjson_validnumber.t14 (q0 : (Option Addr)) (q0_len : Nat) (i47 : Int) : T :=
  .ite (decide (i47 < ((q0_len : Nat) : Int))) (
    .chk (((0 : Int) ≤ i47) ∧ (i47 < ((q0_len : Nat) : Int))) <|
    .ptr q0 fun (z48 : Addr) =>
    .load (Addr.add z48 ((Int.toNat i47) * 1)) (.int .u8) fun (i49 : Int) =>
    .ite (decide (i49 ≥ (48 : Int))) (
      .chk (((0 : Int) ≤ i47) ∧ (i47 < ((q0_len : Nat) : Int))) <|
      .ptr q0 fun (z50 : Addr) =>
      .load (Addr.add z50 ((Int.toNat i47) * 1)) (.int .u8) fun (i51 : Int) =>
      .ite (decide (i51 ≤ (57 : Int))) (
        .leaf 1 [(Value.int IntKind.i64 (IntKind.wrap IntKind.i64 (i47 + (1 : Int))))]) (
        .leaf 0 [(Value.int IntKind.i64 i47), (Value.bool Bool.true)])) (
      .leaf 0 [(Value.int IntKind.i64 i47), (Value.bool Bool.true)])) (
    .leaf 0 [(Value.int IntKind.i64 i47), (Value.bool Bool.true)])
def gjson_validnumber.t13 (q0 : (Option Addr)) (q0_len : Nat) (i41 : Int) (b46 : Bool) : T :=
  .ite b46 (
    .leaf 0 [(Value.int IntKind.i64 i41), (Value.bool Bool.false)]) (
    .loop 1 (.cons (.int .i64) .nil) [(Value.int IntKind.i64 (IntKind.wrap IntKind.i64 (i41 + (1 : Int))))]
      (fun z => gjson_validnumber.t14 q0 q0_len z.1))
def gjson_validnumber.t12 (q0 : (Option Addr)) (q0_len : Nat) (i41 : Int) : T :=
  .ite (i41 == ((q0_len : Nat) : Int)) (
    .leaf 0 [(Value.int IntKind.i64 i41), (Value.bool Bool.false)]) (
    .cut 1 (.cons .bool .nil) (
      .chk (((0 : Int) ≤ i41) ∧ (i41 < ((q0_len : Nat) : Int))) <|
      .ptr q0 fun (z42 : Addr) =>
      .load (Addr.add z42 ((Int.toNat i41) * 1)) (.int .u8) fun (i43 : Int) =>
      .ite (decide (i43 < (48 : Int))) (
        .leaf 1 [(Value.bool Bool.true)]) (
        .chk (((0 : Int) ≤ i41) ∧ (i41 < ((q0_len : Nat) : Int))) <|
        .ptr q0 fun (z44 : Addr) =>
        .load (Addr.add z44 ((Int.toNat i41) * 1)) (.int .u8) fun (i45 : Int) =>
        .leaf 1 [(Value.bool (decide (i45 > (57 : Int))))]))
      (fun z => gjson_validnumber.t13 q0 q0_len i41 z.1))
def gjson_validnumber.t11 (q0 : (Option Addr)) (q0_len : Nat) (i30 : Int) (b40 : Bool) : T :=
  .cut 1 (.cons (.int .i64) .nil) (
    .ite b40 (
      .leaf 1 [(Value.int IntKind.i64 (IntKind.wrap IntKind.i64 ((IntKind.wrap IntKind.i64 (i30 + (1 : Int))) + (1 : Int))))]) (
      .leaf 1 [(Value.int IntKind.i64 (IntKind.wrap IntKind.i64 (i30 + (1 : Int))))]))
    (fun z => gjson_validnumber.t12 q0 q0_len z.1)
def gjson_validnumber.t10 (q0 : (Option Addr)) (q0_len : Nat) (i30 : Int) (b35 : Bool) : T :=
  .ite b35 (
    .ite ((IntKind.wrap IntKind.i64 (i30 + (1 : Int))) == ((q0_len : Nat) : Int)) (
      .leaf 0 [(Value.int IntKind.i64 (IntKind.wrap IntKind.i64 (i30 + (1 : Int)))), (Value.bool Bool.false)]) (
      .cut 1 (.cons .bool .nil) (
        .chk (((0 : Int) ≤ (IntKind.wrap IntKind.i64 (i30 + (1 : Int)))) ∧ ((IntKind.wrap IntKind.i64 (i30 + (1 : Int))) < ((q0_len : Nat) : Int))) <|
        .ptr q0 fun (z36 : Addr) =>
        .load (Addr.add z36 ((Int.toNat (IntKind.wrap IntKind.i64 (i30 + (1 : Int)))) * 1)) (.int .u8) fun (i37 : Int) =>
        .ite (i37 == (43 : Int)) (
          .leaf 1 [(Value.bool Bool.true)]) (
          .chk (((0 : Int) ≤ (IntKind.wrap IntKind.i64 (i30 + (1 : Int)))) ∧ ((IntKind.wrap IntKind.i64 (i30 + (1 : Int))) < ((q0_len : Nat) : Int))) <|
          .ptr q0 fun (z38 : Addr) =>
          .load (Addr.add z38 ((Int.toNat (IntKind.wrap IntKind.i64 (i30 + (1 : Int)))) * 1)) (.int .u8) fun (i39 : Int) =>
          .leaf 1 [(Value.bool (i39 == (45 : Int)))]))
        (fun z => gjson_validnumber.t11 q0 q0_len i30 z.1))) (
    .leaf 0 [(Value.int IntKind.i64 i30), (Value.bool Bool.true)])
def gjson_validnumber.t9 (q0 : (Option Addr)) (q0_len : Nat) (i30 : Int) : T :=
  .ite (i30 == ((q0_len : Nat) : Int)) (
    .leaf 0 [(Value.int IntKind.i64 i30), (Value.bool Bool.true)]) (
    .cut 1 (.cons .bool .nil) (
      .chk (((0 : Int) ≤ i30) ∧ (i30 < ((q0_len : Nat) : Int))) <|
      .ptr q0 fun (z31 : Addr) =>
      .load (Addr.add z31 ((Int.toNat i30) * 1)) (.int .u8) fun (i32 : Int) =>
      .ite (i32 == (101 : Int)) (
        .leaf 1 [(Value.bool Bool.true)]) (
        .chk (((0 : Int) ≤ i30) ∧ (i30 < ((q0_len : Nat) : Int))) <|
        .ptr q0 fun (z33 : Addr) =>
        .load (Addr.add z33 ((Int.toNat i30) * 1)) (.int .u8) fun (i34 : Int) =>
        .leaf 1 [(Value.bool (i34 == (69 : Int)))]))
      (fun z => gjson_validnumber.t10 q0 q0_len i30 z.1))
def gjson_validnumber.t5 (q0 : (Option Addr)) (q0_len : Nat) (i16 : Int) : T :=
  .ite (i16 == ((q0_len : Nat) : Int)) (
    .leaf 0 [(Value.int IntKind.i64 i16), (Value.bool Bool.true)]) (
    .chk (((0 : Int) ≤ i16) ∧ (i16 < ((q0_len : Nat) : Int))) <|
    .ptr q0 fun (z17 : Addr) =>
    .load (Addr.add z17 ((Int.toNat i16) * 1)) (.int .u8) fun (i18 : Int) =>
    .cut 1 (.cons (.int .i64) .nil) (
      .ite (i18 == (46 : Int)) (
        .ite ((IntKind.wrap IntKind.i64 (i16 + (1 : Int))) == ((q0_len : Nat) : Int)) (
          .leaf 0 [(Value.int IntKind.i64 (IntKind.wrap IntKind.i64 (i16 + (1 : Int)))), (Value.bool Bool.false)]) (
          .cut 2 (.cons .bool .nil) (
            .chk (((0 : Int) ≤ (IntKind.wrap IntKind.i64 (i16 + (1 : Int)))) ∧ ((IntKind.wrap IntKind.i64 (i16 + (1 : Int))) < ((q0_len : Nat) : Int))) <|
            .ptr q0 fun (z19 : Addr) =>
            .load (Addr.add z19 ((Int.toNat (IntKind.wrap IntKind.i64 (i16 + (1 : Int)))) * 1)) (.int .u8) fun (i20 : Int) =>
            .ite (decide (i20 < (48 : Int))) (
              .leaf 2 [(Value.bool Bool.true)]) (
              .chk (((0 : Int) ≤ (IntKind.wrap IntKind.i64 (i16 + (1 : Int)))) ∧ ((IntKind.wrap IntKind.i64 (i16 + (1 : Int))) < ((q0_len : Nat) : Int))) <|
              .ptr q0 fun (z21 : Addr) =>
              .load (Addr.add z21 ((Int.toNat (IntKind.wrap IntKind.i64 (i16 + (1 : Int)))) * 1)) (.int .u8) fun (i22 : Int) =>
              .leaf 2 [(Value.bool (decide (i22 > (57 : Int))))]))
            (fun z => gjson_validnumber.t6 q0 q0_len i16 z.1))) (
        .leaf 1 [(Value.int IntKind.i64 i16)]))
      (fun z => gjson_validnumber.t9 q0 q0_len z.1))
def gjson_validnumber.t2 (q0 : (Option Addr)) (q0_len : Nat) (i7 : Int) : T :=
  .ite (i7 == ((q0_len : Nat) : Int)) (
    .leaf 0 [(Value.int IntKind.i64 i7), (Value.bool Bool.false)]) (
    .chk (((0 : Int) ≤ i7) ∧ (i7 < ((q0_len : Nat) : Int))) <|
    .ptr q0 fun (z8 : Addr) =>
    .load (Addr.add z8 ((Int.toNat i7) * 1)) (.int .u8) fun (i9 : Int) =>
    .cut 1 (.cons (.int .i64) .nil) (
      .ite (i9 == (48 : Int)) (
        .leaf 1 [(Value.int IntKind.i64 (IntKind.wrap IntKind.i64 (i7 + (1 : Int))))]) (
        .cut 2 (.cons (.int .i64) .nil) (
          .loop 3 (.cons (.int .i64) .nil) [(Value.int IntKind.i64 i7)]
            (fun z => gjson_validnumber.t3 q0 q0_len z.1))
          (fun z => gjson_validnumber.t4 z.1)))
      (fun z => gjson_validnumber.t5 q0 q0_len z.1))
def gjson_validnumber.t (q0 : (Option Addr)) (q0_len : Nat) (q0_cap : Nat) (q1 : Int) : T :=
  .chk (((0 : Int) ≤ (IntKind.wrap IntKind.i64 (q1 - (1 : Int)))) ∧ ((IntKind.wrap IntKind.i64 (q1 - (1 : Int))) < ((q0_len : Nat) : Int))) <|
  .ptr q0 fun (z0 : Addr) =>
  .load (Addr.add z0 ((Int.toNat (IntKind.wrap IntKind.i64 (q1 - (1 : Int)))) * 1)) (.int .u8) fun (i1 : Int) =>
  .cut 1 (.cons (.int .i64) .nil) (
    .ite (i1 == (45 : Int)) (
      .ite ((IntKind.wrap IntKind.i64 ((IntKind.wrap IntKind.i64 (q1 - (1 : Int))) + (1 : Int))) == ((q0_len : Nat) : Int)) (
        .leaf 0 [(Value.int IntKind.i64 (IntKind.wrap IntKind.i64 ((IntKind.wrap IntKind.i64 (q1 - (1 : Int))) + (1 : Int)))), (Value.bool Bool.false)]) (
        .cut 2 (.cons .bool .nil) (
          .chk (((0 : Int) ≤ (IntKind.wrap IntKind.i64 ((IntKind.wrap IntKind.i64 (q1 - (1 : Int))) + (1 : Int)))) ∧ ((IntKind.wrap IntKind.i64 ((IntKind.wrap IntKind.i64 (q1 - (1 : Int))) + (1 : Int))) < ((q0_len : Nat) : Int))) <|
          .ptr q0 fun (z2 : Addr) =>
          .load (Addr.add z2 ((Int.toNat (IntKind.wrap IntKind.i64 ((IntKind.wrap IntKind.i64 (q1 - (1 : Int))) + (1 : Int)))) * 1)) (.int .u8) fun (i3 : Int) =>
          .ite (decide (i3 < (48 : Int))) (
            .leaf 2 [(Value.bool Bool.true)]) (
            .chk (((0 : Int) ≤ (IntKind.wrap IntKind.i64 ((IntKind.wrap IntKind.i64 (q1 - (1 : Int))) + (1 : Int)))) ∧ ((IntKind.wrap IntKind.i64 ((IntKind.wrap IntKind.i64 (q1 - (1 : Int))) + (1 : Int))) < ((q0_len : Nat) : Int))) <|
            .ptr q0 fun (z4 : Addr) =>
            .load (Addr.add z4 ((Int.toNat (IntKind.wrap IntKind.i64 ((IntKind.wrap IntKind.i64 (q1 - (1 : Int))) + (1 : Int)))) * 1)) (.int .u8) fun (i5 : Int) =>
            .leaf 2 [(Value.bool (decide (i5 > (57 : Int))))]))
          (fun z => gjson_validnumber.t1 q1 z.1))) (
      .leaf 1 [(Value.int IntKind.i64 (IntKind.wrap IntKind.i64 (q1 - (1 : Int))))]))
    (fun z => gjson_validnumber.t2 q0 q0_len z.1)
def gjson_validnumber.h : Hints := ⟨[(12, [(1, (.int .i64))]), (42, [(1, (.int .i64))]), (72, [(1, (.int .i64))]), (148, [(1, (.int .i64))])], [(0, [(1, (.int .i64))]), (2, [(1, (.int .i64))])], [(6, [(31, .bool)]), (21, [(91, .bool)]), (29, [(129, .bool)]), (33, [(148, .bool)]), (37, [(167, .bool)])], [(12, [(1, (.int .i64))]), (24, [(1, (.int .i64))]), (40, [(1, (.int .i64))])]⟩
noncomputable def gjson_validnumber.c : Code := (Try.f39.body).getD .skip
theorem gjson_validnumber.e (q0 : (Option Addr)) (q0_len : Nat) (q0_cap : Nat) (q1 : Int) : fnT Try.prog gjson_validnumber.h Try.f39 gjson_validnumber.c [.v (Value.slice q0 q0_len q0_cap), .v (Value.int IntKind.i64 q1)] = gjson_validnumber.t q0 q0_len q0_cap q1 := by kernel_rfl
theorem gjson_validnumber.calls (q0 : (Option Addr)) (q0_len : Nat) (q0_cap : Nat) (q1 : Int) {w : World} {R : Ending → World → Prop} (hs : sat Try.prog (gjson_validnumber.t q0 q0_len q0_cap q1) (fun l vs w' => l = 0 ∧ R (.returned (retVal vs)) w') w) : Calls Try.prog 39 #[(Value.slice q0 q0_len q0_cap), (Value.int IntKind.i64 q1)] w R :=
  have h := calls_of_tree (w := w) (R := R) (args := [.v (Value.slice q0 q0_len q0_cap), .v (Value.int IntKind.i64 q1)]) (c := gjson_validnumber.c) Try.func39 (show Try.f39.body = some gjson_validnumber.c by kernel_rfl) (of_decide_eq_true (by kernel_rfl)) (gjson_validnumber.e q0 q0_len q0_cap q1) hs
  h

/-! ### (*pub-tetrapla/spec.reader).here : function 40 -/
def spec_reader_here.t (r : (Option Addr)) : T :=
  .drew <|
  .ptr r fun (z0 : Addr) =>
  .load (Addr.add z0 1) (.int .i64) fun (i1 : Int) =>
  .ptr r fun (z2 : Addr) =>
  .load (Addr.add z2 0) .str fun (s3 : ByteArray) =>
  .ite (decide (i1 < (((ByteArray.size s3) : Nat) : Int))) (
    .drew <|
    .ptr r fun (z4 : Addr) =>
    .load (Addr.add z4 0) .str fun (s5 : ByteArray) =>
    .ptr r fun (z6 : Addr) =>
    .load (Addr.add z6 1) (.int .i64) fun (i7 : Int) =>
    .chk (((0 : Int) ≤ i7) ∧ (i7 < (((ByteArray.size s5) : Nat) : Int))) <|
    .leaf 0 [(Value.int IntKind.u8 (bt s5 i7))]) (
    .leaf 0 [(Value.int IntKind.u8 (0 : Int))])
def spec_reader_here.h : Hints := ⟨[], [], [], []⟩
noncomputable def spec_reader_here.c : Code := (Try.f40.body).getD .skip
theorem spec_reader_here.e (r : (Option Addr)) : fnT Try.prog spec_reader_here.h Try.f40 spec_reader_here.c [.v (Value.pointer r)] = spec_reader_here.t r := by kernel_rfl
theorem spec_reader_here.calls (r : (Option Addr)) {w : World} {R : Ending → World → Prop} (hs : sat Try.prog (spec_reader_here.t r) (fun l vs w' => l = 0 ∧ R (.returned (retVal vs)) w') w) : Calls Try.prog 40 #[(Value.pointer r)] w R :=
  have h := calls_of_tree (w := w) (R := R) (args := [.v (Value.pointer r)]) (c := spec_reader_here.c) Try.func40 (show Try.f40.body = some spec_reader_here.c by kernel_rfl) (of_decide_eq_true (by kernel_rfl)) (spec_reader_here.e r) hs
  h

/-! ### (*pub-tetrapla/spec.reader).quoted : function 43 -/
def spec_reader_quoted.t1 (r : (Option Addr)) : T :=
  .drew <|
  .ptr r fun (z3 : Addr) =>
  .load (Addr.add z3 1) (.int .i64) fun (i4 : Int) =>
  .ptr r fun (z5 : Addr) =>
  .load (Addr.add z5 0) .str fun (s6 : ByteArray) =>
  .ite (decide (i4 < (((ByteArray.size s6) : Nat) : Int))) (
    .drew <|
    .ptr r fun (z7 : Addr) =>
    .load (Addr.add z7 0) .str fun (s8 : ByteArray) =>
    .ptr r fun (z9 : Addr) =>
    .load (Addr.add z9 1) (.int .i64) fun (i10 : Int) =>
    .chk (((0 : Int) ≤ i10) ∧ (i10 < (((ByteArray.size s8) : Nat) : Int))) <|
    .ptr r fun (z11 : Addr) =>
    .load (Addr.add z11 1) (.int .i64) fun (i12 : Int) =>
    .ptr r fun (z13 : Addr) =>
    .store (Addr.add z13 1) (Value.int IntKind.i64 (IntKind.wrap IntKind.i64 (i12 + (1 : Int)))) <|
    .ite ((bt s8 i10) == (34 : Int)) (
      .leaf 0 [(Value.bool Bool.true)]) (
      .ite (decide ((bt s8 i10) < (32 : Int))) (
        .leaf 0 [(Value.bool Bool.false)]) (
        .ite ((bt s8 i10) == (92 : Int)) (
          .call 47 #[(Value.pointer r)] .bool fun (b14 : Bool) =>
          .ite (!b14) (
            .leaf 0 [(Value.bool Bool.false)]) (
            .leaf 1 [])) (
          .leaf 1 [])))) (
    .leaf 0 [(Value.bool Bool.false)])
def spec_reader_quoted.t (r : (Option Addr)) : T :=
  .ptr r fun (z0 : Addr) =>
  .load (Addr.add z0 1) (.int .i64) fun (i1 : Int) =>
  .ptr r fun (z2 : Addr) =>
  .store (Addr.add z2 1) (Value.int IntKind.i64 (IntKind.wrap IntKind.i64 (i1 + (1 : Int)))) <|
  .loop 1 .nil []
    (fun _ => spec_reader_quoted.t1 r)
def spec_reader_quoted.h : Hints := ⟨[], [], [], [(2, [])]⟩
noncomputable def spec_reader_quoted.c : Code := (Try.f43.body).getD .skip
theorem spec_reader_quoted.e (r : (Option Addr)) : fnT Try.prog spec_reader_quoted.h Try.f43 spec_reader_quoted.c [.v (Value.pointer r)] = spec_reader_quoted.t r := by kernel_rfl
theorem spec_reader_quoted.calls (r : (Option Addr)) {w : World} {R : Ending → World → Prop} (hs : sat Try.prog (spec_reader_quoted.t r) (fun l vs w' => l = 0 ∧ R (.returned (retVal vs)) w') w) : Calls Try.prog 43 #[(Value.pointer r)] w R :=
  have h := calls_of_tree (w := w) (R := R) (args := [.v (Value.pointer r)]) (c := spec_reader_quoted.c) Try.func43 (show Try.f43.body = some spec_reader_quoted.c by kernel_rfl) (of_decide_eq_true (by kernel_rfl)) (spec_reader_quoted.e r) hs
  h

/-! ### (*pub-tetrapla/spec.reader).word : function 44 -/
def spec_reader_word.t1 (r : (Option Addr)) (w1 : ByteArray) (b10 : Bool) : T :=
  .ite b10 (
    .leaf 0 [(Value.bool Bool.false)]) (
    .ptr r fun (z11 : Addr) =>
    .load (Addr.add z11 1) (.int .i64) fun (i12 : Int) =>
    .ptr r fun (z13 : Addr) =>
    .store (Addr.add z13 1) (Value.int IntKind.i64 (IntKind.wrap IntKind.i64 (i12 + (((ByteArray.size w1) : Nat) : Int)))) <|
    .leaf 0 [(Value.bool Bool.true)])
def spec_reader_word.t (r : (Option Addr)) (w1 : ByteArray) : T :=
  .cut 1 (.cons .bool .nil) (
    .drew <|
    .ptr r fun (z0 : Addr) =>
    .load (Addr.add z0 0) .str fun (s1 : ByteArray) =>
    .ptr r fun (z2 : Addr) =>
    .load (Addr.add z2 1) (.int .i64) fun (i3 : Int) =>
    .ite (decide ((IntKind.wrap IntKind.i64 ((((ByteArray.size s1) : Nat) : Int) - i3)) < (((ByteArray.size w1) : Nat) : Int))) (
      .leaf 1 [(Value.bool Bool.true)]) (
      .ptr r fun (z4 : Addr) =>
      .load (Addr.add z4 0) .str fun (s5 : ByteArray) =>
      .ptr r fun (z6 : Addr) =>
      .load (Addr.add z6 1) (.int .i64) fun (i7 : Int) =>
      .ptr r fun (z8 : Addr) =>
      .load (Addr.add z8 1) (.int .i64) fun (i9 : Int) =>
      .chk (((0 : Int) ≤ i7) ∧ ((i7 ≤ (IntKind.wrap IntKind.i64 (i9 + (((ByteArray.size w1) : Nat) : Int)))) ∧ ((IntKind.wrap IntKind.i64 (i9 + (((ByteArray.size w1) : Nat) : Int))) ≤ (((ByteArray.size s5) : Nat) : Int)))) <|
      .leaf 1 [(Value.bool (!(strEq (ByteArray.extract s5 (Int.toNat i7) (Int.toNat (IntKind.wrap IntKind.i64 (i9 + (((ByteArray.size w1) : Nat) : Int))))) w1)))]))
    (fun z => spec_reader_word.t1 r w1 z.1)
def spec_reader_word.h : Hints := ⟨[], [], [(1, [(37, .bool)])], []⟩
noncomputable def spec_reader_word.c : Code := (Try.f44.body).getD .skip
theorem spec_reader_word.e (r : (Option Addr)) (w1 : ByteArray) : fnT Try.prog spec_reader_word.h Try.f44 spec_reader_word.c [.v (Value.pointer r), .v (Value.string w1)] = spec_reader_word.t r w1 := by kernel_rfl
theorem spec_reader_word.calls (r : (Option Addr)) (w1 : ByteArray) {w : World} {R : Ending → World → Prop} (hs : sat Try.prog (spec_reader_word.t r w1) (fun l vs w' => l = 0 ∧ R (.returned (retVal vs)) w') w) : Calls Try.prog 44 #[(Value.pointer r), (Value.string w1)] w R :=
  have h := calls_of_tree (w := w) (R := R) (args := [.v (Value.pointer r), .v (Value.string w1)]) (c := spec_reader_word.c) Try.func44 (show Try.f44.body = some spec_reader_word.c by kernel_rfl) (of_decide_eq_true (by kernel_rfl)) (spec_reader_word.e r w1) hs
  h

/-! ### pub-tetrapla/spec.Blank : function 46 -/
def spec_Blank.t (c0 : Int) : T :=
  .ite (c0 == (32 : Int)) (
    .leaf 0 [(Value.bool Bool.true)]) (
    .ite (c0 == (9 : Int)) (
      .leaf 0 [(Value.bool Bool.true)]) (
      .ite (c0 == (10 : Int)) (
        .leaf 0 [(Value.bool Bool.true)]) (
        .leaf 0 [(Value.bool (c0 == (13 : Int)))])))
def spec_Blank.h : Hints := ⟨[], [], [], []⟩
noncomputable def spec_Blank.c : Code := (Try.f46.body).getD .skip
theorem spec_Blank.e (c0 : Int) : fnT Try.prog spec_Blank.h Try.f46 spec_Blank.c [.v (Value.int IntKind.u8 c0)] = spec_Blank.t c0 := by kernel_rfl
theorem spec_Blank.calls (c0 : Int) {w : World} {R : Ending → World → Prop} (hs : sat Try.prog (spec_Blank.t c0) (fun l vs w' => l = 0 ∧ R (.returned (retVal vs)) w') w) : Calls Try.prog 46 #[(Value.int IntKind.u8 c0)] w R :=
  have h := calls_of_tree (w := w) (R := R) (args := [.v (Value.int IntKind.u8 c0)]) (c := spec_Blank.c) Try.func46 (show Try.f46.body = some spec_Blank.c by kernel_rfl) (of_decide_eq_true (by kernel_rfl)) (spec_Blank.e c0) hs
  h

/-! ### (*pub-tetrapla/spec.reader).escape : function 47 -/
def spec_reader_escape.t1 (b1 : Bool) : T :=
  .leaf 6 [(Value.bool b1)]
def spec_reader_escape.t2 (b2 : Bool) : T :=
  .leaf 5 [(Value.bool b2)]
def spec_reader_escape.t3 (b3 : Bool) : T :=
  .leaf 4 [(Value.bool b3)]
def spec_reader_escape.t4 (b4 : Bool) : T :=
  .leaf 3 [(Value.bool b4)]
def spec_reader_escape.t5 (b5 : Bool) : T :=
  .leaf 2 [(Value.bool b5)]
def spec_reader_escape.t6 (b6 : Bool) : T :=
  .leaf 1 [(Value.bool b6)]
def spec_reader_escape.t8 (r : (Option Addr)) (i14 : Int) : T :=
  .ite (decide (i14 < (4 : Int))) (
    .call 40 #[(Value.pointer r)] (.int .u8) fun (i15 : Int) =>
    .call 49 #[(Value.int IntKind.u8 i15)] (.tuple (.cons (.int .i64) (.cons .bool .nil))) fun (z16 : (Int × (Bool × PUnit))) =>
    .ite (!((z16).2).1) (
      .leaf 0 [(Value.bool Bool.false)]) (
      .ptr r fun (z17 : Addr) =>
      .load (Addr.add z17 1) (.int .i64) fun (i18 : Int) =>
      .ptr r fun (z19 : Addr) =>
      .store (Addr.add z19 1) (Value.int IntKind.i64 (IntKind.wrap IntKind.i64 (i18 + (1 : Int)))) <|
      .leaf 2 [(Value.int IntKind.i64 (IntKind.wrap IntKind.i64 (i14 + (1 : Int))))])) (
    .leaf 0 [(Value.bool Bool.true)])
def spec_reader_escape.t9 : T :=
  .leaf 0 [(Value.bool Bool.false)]
def spec_reader_escape.t7 (r : (Option Addr)) (i0 : Int) (b7 : Bool) : T :=
  .cut 1 (.cons .bool .nil) (
    .ite b7 (
      .ptr r fun (z8 : Addr) =>
      .load (Addr.add z8 1) (.int .i64) fun (i9 : Int) =>
      .ptr r fun (z10 : Addr) =>
      .store (Addr.add z10 1) (Value.int IntKind.i64 (IntKind.wrap IntKind.i64 (i9 + (1 : Int)))) <|
      .leaf 0 [(Value.bool Bool.true)]) (
      .ite (i0 == (117 : Int)) (
        .ptr r fun (z11 : Addr) =>
        .load (Addr.add z11 1) (.int .i64) fun (i12 : Int) =>
        .ptr r fun (z13 : Addr) =>
        .store (Addr.add z13 1) (Value.int IntKind.i64 (IntKind.wrap IntKind.i64 (i12 + (1 : Int)))) <|
        .loop 2 (.cons (.int .i64) .nil) [(Value.int IntKind.i64 (0 : Int))]
          (fun z => spec_reader_escape.t8 r z.1)) (
        .leaf 1 [(Value.bool b7)])))
    (fun z => spec_reader_escape.t9)
def spec_reader_escape.t (r : (Option Addr)) : T :=
  .call 40 #[(Value.pointer r)] (.int .u8) fun (i0 : Int) =>
  .cut 1 (.cons .bool .nil) (
    .ite (i0 == (34 : Int)) (
      .leaf 1 [(Value.bool (i0 == (34 : Int)))]) (
      .cut 2 (.cons .bool .nil) (
        .ite (i0 == (92 : Int)) (
          .leaf 2 [(Value.bool (i0 == (92 : Int)))]) (
          .cut 3 (.cons .bool .nil) (
            .ite (i0 == (47 : Int)) (
              .leaf 3 [(Value.bool (i0 == (47 : Int)))]) (
              .cut 4 (.cons .bool .nil) (
                .ite (i0 == (98 : Int)) (
                  .leaf 4 [(Value.bool (i0 == (98 : Int)))]) (
                  .cut 5 (.cons .bool .nil) (
                    .ite (i0 == (102 : Int)) (
                      .leaf 5 [(Value.bool (i0 == (102 : Int)))]) (
                      .cut 6 (.cons .bool .nil) (
                        .ite (i0 == (110 : Int)) (
                          .leaf 6 [(Value.bool (i0 == (110 : Int)))]) (
                          .cut 7 (.cons .bool .nil) (
                            .ite (i0 == (114 : Int)) (
                              .leaf 7 [(Value.bool (i0 == (114 : Int)))]) (
                              .leaf 7 [(Value.bool (i0 == (116 : Int)))]))
                            (fun z => spec_reader_escape.t1 z.1)))
                        (fun z => spec_reader_escape.t2 z.1)))
                    (fun z => spec_reader_escape.t3 z.1)))
                (fun z => spec_reader_escape.t4 z.1)))
            (fun z => spec_reader_escape.t5 z.1)))
        (fun z => spec_reader_escape.t6 z.1)))
    (fun z => spec_reader_escape.t7 r i0 z.1)
def spec_reader_escape.h : Hints := ⟨[(8, [(8, .bool)]), (8, [(8, .bool)]), (8, [(8, .bool)]), (8, [(8, .bool)]), (8, [(8, .bool)]), (8, [(8, .bool)]), (8, [(8, .bool)])], [], [], [(15, [(3, (.int .i64))])]⟩
noncomputable def spec_reader_escape.c : Code := (Try.f47.body).getD .skip
theorem spec_reader_escape.e (r : (Option Addr)) : fnT Try.prog spec_reader_escape.h Try.f47 spec_reader_escape.c [.v (Value.pointer r)] = spec_reader_escape.t r := by kernel_rfl
theorem spec_reader_escape.calls (r : (Option Addr)) {w : World} {R : Ending → World → Prop} (hs : sat Try.prog (spec_reader_escape.t r) (fun l vs w' => l = 0 ∧ R (.returned (retVal vs)) w') w) : Calls Try.prog 47 #[(Value.pointer r)] w R :=
  have h := calls_of_tree (w := w) (R := R) (args := [.v (Value.pointer r)]) (c := spec_reader_escape.c) Try.func47 (show Try.f47.body = some spec_reader_escape.c by kernel_rfl) (of_decide_eq_true (by kernel_rfl)) (spec_reader_escape.e r) hs
  h

/-! ### pub-tetrapla/spec.hexDigit : function 49 -/
def spec_hexDigit.t2 (c0 : Int) (b1 : Bool) : T :=
  .ite b1 (
    .leaf 0 [(Value.int IntKind.i64 (IntKind.wrap IntKind.i64 ((IntKind.wrap IntKind.i64 (IntKind.wrap IntKind.u8 (c0 - (97 : Int)))) + (10 : Int)))), (Value.bool Bool.true)]) (
    .ite (decide ((65 : Int) ≤ c0)) (
      .ite (decide (c0 ≤ (70 : Int))) (
        .leaf 0 [(Value.int IntKind.i64 (IntKind.wrap IntKind.i64 ((IntKind.wrap IntKind.i64 (IntKind.wrap IntKind.u8 (c0 - (65 : Int)))) + (10 : Int)))), (Value.bool Bool.true)]) (
        .leaf 0 [(Value.int IntKind.i64 (0 : Int)), (Value.bool Bool.false)])) (
      .leaf 0 [(Value.int IntKind.i64 (0 : Int)), (Value.bool Bool.false)]))
def spec_hexDigit.t1 (c0 : Int) (b0 : Bool) : T :=
  .ite b0 (
    .leaf 0 [(Value.int IntKind.i64 (IntKind.wrap IntKind.i64 (IntKind.wrap IntKind.u8 (c0 - (48 : Int))))), (Value.bool Bool.true)]) (
    .cut 1 (.cons .bool .nil) (
      .ite (decide ((97 : Int) ≤ c0)) (
        .leaf 1 [(Value.bool (decide (c0 ≤ (102 : Int))))]) (
        .leaf 1 [(Value.bool Bool.false)]))
      (fun z => spec_hexDigit.t2 c0 z.1))
def spec_hexDigit.t (c0 : Int) : T :=
  .cut 1 (.cons .bool .nil) (
    .ite (decide ((48 : Int) ≤ c0)) (
      .leaf 1 [(Value.bool (decide (c0 ≤ (57 : Int))))]) (
      .leaf 1 [(Value.bool Bool.false)]))
    (fun z => spec_hexDigit.t1 c0 z.1)
def spec_hexDigit.h : Hints := ⟨[], [], [(1, [(4, .bool)]), (3, [(14, .bool)])], []⟩
noncomputable def spec_hexDigit.c : Code := (Try.f49.body).getD .skip
theorem spec_hexDigit.e (c0 : Int) : fnT Try.prog spec_hexDigit.h Try.f49 spec_hexDigit.c [.v (Value.int IntKind.u8 c0)] = spec_hexDigit.t c0 := by kernel_rfl
theorem spec_hexDigit.calls (c0 : Int) {w : World} {R : Ending → World → Prop} (hs : sat Try.prog (spec_hexDigit.t c0) (fun l vs w' => l = 0 ∧ R (.returned (retVal vs)) w') w) : Calls Try.prog 49 #[(Value.int IntKind.u8 c0)] w R :=
  have h := calls_of_tree (w := w) (R := R) (args := [.v (Value.int IntKind.u8 c0)]) (c := spec_hexDigit.c) Try.func49 (show Try.f49.body = some spec_hexDigit.c by kernel_rfl) (of_decide_eq_true (by kernel_rfl)) (spec_hexDigit.e c0) hs
  h

end Go.Proofs.Ytdjilnhalpmabaa.Tr
