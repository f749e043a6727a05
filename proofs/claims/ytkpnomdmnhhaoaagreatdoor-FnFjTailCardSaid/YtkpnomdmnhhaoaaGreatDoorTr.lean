/- Trees of loaded functions, printed by wip/tools/rxprint (a program of this repo): each is what 'exec' comes to, held by the kernel. No statement of the set is proved here. -/
import Derived.Test.YtkpnomdmnhhaoaaGreatDoorRz
import Derived.Test.YtkpnomdmnhhaoaaGreatDoorProg
import Derived.KernelRfl
namespace Go.Proofs.YtkpnomdmnhhaoaaGreatDoor.Tr
open Go Go.Proofs Go.Proofs.YtkpnomdmnhhaoaaGreatDoor.Rx
set_option linter.unusedVariables false
set_option maxRecDepth 100000
/-! ### pub-tetrapla/spec.UTF8 : function 12 -/
def spec_UTF8.t1 (s : ByteArray) (i0 : Int) : T :=
  .ite (decide (i0 < (((ByteArray.size s) : Nat) : Int))) (
    .call 21 #[(Value.string s), (Value.int IntKind.i64 i0)] (.tuple (.cons (.int .i64) (.cons (.int .i64) (.cons .bool .nil)))) fun (z1 : (Int × (Int × (Bool × PUnit)))) =>
    .ite (!(((z1).2).2).1) (
      .leaf 0 [(Value.bool Bool.false)]) (
      .leaf 1 [(Value.int IntKind.i64 (IntKind.wrap IntKind.i64 (i0 + ((z1).2).1)))])) (
    .leaf 0 [(Value.bool Bool.true)])
def spec_UTF8.t (s : ByteArray) : T :=
  .loop 1 (.cons (.int .i64) .nil) [(Value.int IntKind.i64 (0 : Int))]
    (fun z => spec_UTF8.t1 s z.1)
def spec_UTF8.h : Hints := ⟨[], [], [], [(2, [(3, (.int .i64))])]⟩
noncomputable def spec_UTF8.c : Code := (Tryz.f12.body).getD .skip
theorem spec_UTF8.e (s : ByteArray) : fnT Tryz.prog spec_UTF8.h Tryz.f12 spec_UTF8.c [.v (Value.string s)] = spec_UTF8.t s := by kernel_rfl
theorem spec_UTF8.calls (s : ByteArray) {w : World} {R : Ending → World → Prop} (hs : sat Tryz.prog (spec_UTF8.t s) (fun l vs w' => l = 0 ∧ R (.returned (retVal vs)) w') w) : Calls Tryz.prog 12 #[(Value.string s)] w R :=
  have h := calls_of_tree (w := w) (R := R) (args := [.v (Value.string s)]) (c := spec_UTF8.c) Tryz.func12 (show Tryz.f12.body = some spec_UTF8.c by kernel_rfl) (of_decide_eq_true (by kernel_rfl)) (spec_UTF8.e s) hs
  h

/-! ### pub-tetrapla/spec.Paired : function 13 -/
def spec_Paired.t1 (text : ByteArray) (i0 : Int) : T :=
  .ite (decide (i0 < (((ByteArray.size text) : Nat) : Int))) (
    .chk (((0 : Int) ≤ i0) ∧ (i0 < (((ByteArray.size text) : Nat) : Int))) <|
    .ite ((bt text i0) != (92 : Int)) (
      .leaf 1 [(Value.int IntKind.i64 (IntKind.wrap IntKind.i64 (i0 + (1 : Int))))]) (
      .call 22 #[(Value.string text), (Value.int IntKind.i64 i0)] (.tuple (.cons (.int .i64) (.cons .bool .nil))) fun (z1 : (Int × (Bool × PUnit))) =>
      .ite (!((z1).2).1) (
        .leaf 1 [(Value.int IntKind.i64 (IntKind.wrap IntKind.i64 (i0 + (2 : Int))))]) (
        .call 23 #[(Value.int IntKind.i64 (z1).1)] .bool fun (b2 : Bool) =>
        .ite b2 (
          .call 22 #[(Value.string text), (Value.int IntKind.i64 (IntKind.wrap IntKind.i64 (i0 + (6 : Int))))] (.tuple (.cons (.int .i64) (.cons .bool .nil))) fun (z3 : (Int × (Bool × PUnit))) =>
          .ite (!((z3).2).1) (
            .leaf 0 [(Value.bool Bool.false)]) (
            .call 24 #[(Value.int IntKind.i64 (z3).1)] .bool fun (b4 : Bool) =>
            .ite (!b4) (
              .leaf 0 [(Value.bool Bool.false)]) (
              .leaf 1 [(Value.int IntKind.i64 (IntKind.wrap IntKind.i64 (i0 + (12 : Int))))]))) (
          .call 24 #[(Value.int IntKind.i64 (z1).1)] .bool fun (b5 : Bool) =>
          .ite b5 (
            .leaf 0 [(Value.bool Bool.false)]) (
            .leaf 1 [(Value.int IntKind.i64 (IntKind.wrap IntKind.i64 (i0 + (6 : Int))))]))))) (
    .leaf 0 [(Value.bool Bool.true)])
def spec_Paired.t (text : ByteArray) : T :=
  .loop 1 (.cons (.int .i64) .nil) [(Value.int IntKind.i64 (0 : Int))]
    (fun z => spec_Paired.t1 text z.1)
def spec_Paired.h : Hints := ⟨[], [], [], [(2, [(3, (.int .i64))])]⟩
noncomputable def spec_Paired.c : Code := (Tryz.f13.body).getD .skip
theorem spec_Paired.e (text : ByteArray) : fnT Tryz.prog spec_Paired.h Tryz.f13 spec_Paired.c [.v (Value.string text)] = spec_Paired.t text := by kernel_rfl
theorem spec_Paired.calls (text : ByteArray) {w : World} {R : Ending → World → Prop} (hs : sat Tryz.prog (spec_Paired.t text) (fun l vs w' => l = 0 ∧ R (.returned (retVal vs)) w') w) : Calls Tryz.prog 13 #[(Value.string text)] w R :=
  have h := calls_of_tree (w := w) (R := R) (args := [.v (Value.string text)]) (c := spec_Paired.c) Tryz.func13 (show Tryz.f13.body = some spec_Paired.c by kernel_rfl) (of_decide_eq_true (by kernel_rfl)) (spec_Paired.e text) hs
  h

/-! ### pub-tetrapla/spec.Character : function 21 -/
def spec_Character.t3 (q0 : ByteArray) (q1 : Int) (b2 : Bool) : T :=
  .ite b2 (
    .leaf 3 [(Value.int IntKind.i64 (IntKind.wrap IntKind.i64 ((IntKind.wrap IntKind.i64 (bt q0 q1)) - (240 : Int)))), (Value.int IntKind.i64 (3 : Int)), (Value.int IntKind.i64 (65536 : Int))]) (
    .leaf 0 [(Value.int IntKind.i64 (65533 : Int)), (Value.int IntKind.i64 (1 : Int)), (Value.bool Bool.false)])
def spec_Character.t4 (i3 : Int) (i4 : Int) (i5 : Int) : T :=
  .leaf 2 [(Value.int IntKind.i64 i3), (Value.int IntKind.i64 i4), (Value.int IntKind.i64 i5)]
def spec_Character.t2 (q0 : ByteArray) (q1 : Int) (b1 : Bool) : T :=
  .cut 3 (.cons (.int .i64) (.cons (.int .i64) (.cons (.int .i64) .nil))) (
    .ite b1 (
      .leaf 3 [(Value.int IntKind.i64 (IntKind.wrap IntKind.i64 ((IntKind.wrap IntKind.i64 (bt q0 q1)) - (224 : Int)))), (Value.int IntKind.i64 (2 : Int)), (Value.int IntKind.i64 (2048 : Int))]) (
      .cut 4 (.cons .bool .nil) (
        .ite (decide ((240 : Int) ≤ (IntKind.wrap IntKind.i64 (bt q0 q1)))) (
          .leaf 4 [(Value.bool (decide ((IntKind.wrap IntKind.i64 (bt q0 q1)) ≤ (244 : Int))))]) (
          .leaf 4 [(Value.bool Bool.false)]))
        (fun z => spec_Character.t3 q0 q1 z.1)))
    (fun z => spec_Character.t4 z.1 z.2.1 z.2.2.1)
def spec_Character.t5 (i6 : Int) (i7 : Int) (i8 : Int) : T :=
  .leaf 1 [(Value.int IntKind.i64 i6), (Value.int IntKind.i64 i7), (Value.int IntKind.i64 i8)]
def spec_Character.t1 (q0 : ByteArray) (q1 : Int) (b0 : Bool) : T :=
  .cut 2 (.cons (.int .i64) (.cons (.int .i64) (.cons (.int .i64) .nil))) (
    .ite b0 (
      .leaf 2 [(Value.int IntKind.i64 (IntKind.wrap IntKind.i64 ((IntKind.wrap IntKind.i64 (bt q0 q1)) - (192 : Int)))), (Value.int IntKind.i64 (1 : Int)), (Value.int IntKind.i64 (128 : Int))]) (
      .cut 3 (.cons .bool .nil) (
        .ite (decide ((224 : Int) ≤ (IntKind.wrap IntKind.i64 (bt q0 q1)))) (
          .leaf 3 [(Value.bool (decide ((IntKind.wrap IntKind.i64 (bt q0 q1)) ≤ (239 : Int))))]) (
          .leaf 3 [(Value.bool Bool.false)]))
        (fun z => spec_Character.t2 q0 q1 z.1)))
    (fun z => spec_Character.t5 z.1 z.2.1 z.2.2.1)
def spec_Character.t8 (q0 : ByteArray) (q1 : Int) (i12 : Int) (i13 : Int) (b14 : Bool) : T :=
  .ite b14 (
    .leaf 0 [(Value.int IntKind.i64 (65533 : Int)), (Value.int IntKind.i64 (1 : Int)), (Value.bool Bool.false)]) (
    .leaf 1 [(Value.int IntKind.i64 (IntKind.wrap IntKind.i64 (i12 + (1 : Int)))), (Value.int IntKind.i64 (IntKind.wrap IntKind.i64 ((IntKind.wrap IntKind.i64 ((IntKind.wrap IntKind.i64 (i13 * (64 : Int))) + (IntKind.wrap IntKind.i64 (bt q0 (IntKind.wrap IntKind.i64 (q1 + i12)))))) - (128 : Int))))])
def spec_Character.t7 (q0 : ByteArray) (q1 : Int) (i10 : Int) (i11 : Int) (i12 : Int) (i13 : Int) : T :=
  .ite (decide (i12 ≤ i10)) (
    .chk (((0 : Int) ≤ (IntKind.wrap IntKind.i64 (q1 + i12))) ∧ ((IntKind.wrap IntKind.i64 (q1 + i12)) < (((ByteArray.size q0) : Nat) : Int))) <|
    .cut 2 (.cons .bool .nil) (
      .ite (decide ((IntKind.wrap IntKind.i64 (bt q0 (IntKind.wrap IntKind.i64 (q1 + i12)))) < (128 : Int))) (
        .leaf 2 [(Value.bool Bool.true)]) (
        .leaf 2 [(Value.bool (decide ((IntKind.wrap IntKind.i64 (bt q0 (IntKind.wrap IntKind.i64 (q1 + i12)))) > (191 : Int))))]))
      (fun z => spec_Character.t8 q0 q1 i12 i13 z.1)) (
    .ite (decide (i13 < i11)) (
      .leaf 0 [(Value.int IntKind.i64 (65533 : Int)), (Value.int IntKind.i64 (1 : Int)), (Value.bool Bool.false)]) (
      .ite (decide (i13 > (1114111 : Int))) (
        .leaf 0 [(Value.int IntKind.i64 (65533 : Int)), (Value.int IntKind.i64 (1 : Int)), (Value.bool Bool.false)]) (
        .call 23 #[(Value.int IntKind.i64 i13)] .bool fun (b15 : Bool) =>
        .ite b15 (
          .leaf 0 [(Value.int IntKind.i64 (65533 : Int)), (Value.int IntKind.i64 (1 : Int)), (Value.bool Bool.false)]) (
          .call 24 #[(Value.int IntKind.i64 i13)] .bool fun (b16 : Bool) =>
          .ite b16 (
            .leaf 0 [(Value.int IntKind.i64 (65533 : Int)), (Value.int IntKind.i64 (1 : Int)), (Value.bool Bool.false)]) (
            .leaf 0 [(Value.int IntKind.i64 i13), (Value.int IntKind.i64 (IntKind.wrap IntKind.i64 (i10 + (1 : Int)))), (Value.bool Bool.true)])))))
def spec_Character.t6 (q0 : ByteArray) (q1 : Int) (i9 : Int) (i10 : Int) (i11 : Int) : T :=
  .ite (decide ((IntKind.wrap IntKind.i64 ((((ByteArray.size q0) : Nat) : Int) - q1)) ≤ i10)) (
    .leaf 0 [(Value.int IntKind.i64 (65533 : Int)), (Value.int IntKind.i64 (1 : Int)), (Value.bool Bool.false)]) (
    .loop 1 (.cons (.int .i64) (.cons (.int .i64) .nil)) [(Value.int IntKind.i64 (1 : Int)), (Value.int IntKind.i64 i9)]
      (fun z => spec_Character.t7 q0 q1 i10 i11 z.1 z.2.1))
def spec_Character.t (q0 : ByteArray) (q1 : Int) : T :=
  .chk (((0 : Int) ≤ q1) ∧ (q1 < (((ByteArray.size q0) : Nat) : Int))) <|
  .cut 1 (.cons (.int .i64) (.cons (.int .i64) (.cons (.int .i64) .nil))) (
    .ite (decide ((IntKind.wrap IntKind.i64 (bt q0 q1)) < (128 : Int))) (
      .leaf 0 [(Value.int IntKind.i64 (IntKind.wrap IntKind.i64 (bt q0 q1))), (Value.int IntKind.i64 (1 : Int)), (Value.bool Bool.true)]) (
      .cut 2 (.cons .bool .nil) (
        .ite (decide ((194 : Int) ≤ (IntKind.wrap IntKind.i64 (bt q0 q1)))) (
          .leaf 2 [(Value.bool (decide ((IntKind.wrap IntKind.i64 (bt q0 q1)) ≤ (223 : Int))))]) (
          .leaf 2 [(Value.bool Bool.false)]))
        (fun z => spec_Character.t1 q0 q1 z.1)))
    (fun z => spec_Character.t6 q0 q1 z.1 z.2.1 z.2.2.1)
def spec_Character.h : Hints := ⟨[(20, [(7, (.int .i64)), (8, (.int .i64)), (9, (.int .i64))]), (29, [(7, (.int .i64)), (8, (.int .i64)), (9, (.int .i64))])], [(0, [(7, (.int .i64)), (8, (.int .i64)), (9, (.int .i64))])], [(6, [(20, .bool)]), (8, [(29, .bool)]), (10, [(38, .bool)]), (18, [(69, .bool)])], [(15, [(10, (.int .i64)), (7, (.int .i64))])]⟩
noncomputable def spec_Character.c : Code := (Tryz.f21.body).getD .skip
theorem spec_Character.e (q0 : ByteArray) (q1 : Int) : fnT Tryz.prog spec_Character.h Tryz.f21 spec_Character.c [.v (Value.string q0), .v (Value.int IntKind.i64 q1)] = spec_Character.t q0 q1 := by kernel_rfl
theorem spec_Character.calls (q0 : ByteArray) (q1 : Int) {w : World} {R : Ending → World → Prop} (hs : sat Tryz.prog (spec_Character.t q0 q1) (fun l vs w' => l = 0 ∧ R (.returned (retVal vs)) w') w) : Calls Tryz.prog 21 #[(Value.string q0), (Value.int IntKind.i64 q1)] w R :=
  have h := calls_of_tree (w := w) (R := R) (args := [.v (Value.string q0), .v (Value.int IntKind.i64 q1)]) (c := spec_Character.c) Tryz.func21 (show Tryz.f21.body = some spec_Character.c by kernel_rfl) (of_decide_eq_true (by kernel_rfl)) (spec_Character.e q0 q1) hs
  h

/-! ### pub-tetrapla/spec.unit : function 22 -/
def spec_unit.t2 (s : ByteArray) (at1 : Int) (i1 : Int) (i2 : Int) : T :=
  .ite (decide (i1 < (IntKind.wrap IntKind.i64 (at1 + (6 : Int))))) (
    .chk (((0 : Int) ≤ i1) ∧ (i1 < (((ByteArray.size s) : Nat) : Int))) <|
    .call 40 #[(Value.int IntKind.u8 (bt s i1))] (.tuple (.cons (.int .i64) (.cons .bool .nil))) fun (z3 : (Int × (Bool × PUnit))) =>
    .ite (!((z3).2).1) (
      .leaf 0 [(Value.int IntKind.i64 (0 : Int)), (Value.bool Bool.false)]) (
      .leaf 1 [(Value.int IntKind.i64 (IntKind.wrap IntKind.i64 (i1 + (1 : Int)))), (Value.int IntKind.i64 (IntKind.wrap IntKind.i64 ((IntKind.wrap IntKind.i64 (i2 * (16 : Int))) + (z3).1)))])) (
    .leaf 0 [(Value.int IntKind.i64 i2), (Value.bool Bool.true)])
def spec_unit.t1 (s : ByteArray) (at1 : Int) (b0 : Bool) : T :=
  .ite b0 (
    .leaf 0 [(Value.int IntKind.i64 (0 : Int)), (Value.bool Bool.false)]) (
    .loop 1 (.cons (.int .i64) (.cons (.int .i64) .nil)) [(Value.int IntKind.i64 (IntKind.wrap IntKind.i64 (at1 + (2 : Int)))), (Value.int IntKind.i64 (0 : Int))]
      (fun z => spec_unit.t2 s at1 z.1 z.2.1))
def spec_unit.t (s : ByteArray) (at1 : Int) : T :=
  .cut 1 (.cons .bool .nil) (
    .ite (decide ((IntKind.wrap IntKind.i64 ((((ByteArray.size s) : Nat) : Int) - at1)) < (6 : Int))) (
      .leaf 1 [(Value.bool Bool.true)]) (
      .chk (((0 : Int) ≤ at1) ∧ (at1 < (((ByteArray.size s) : Nat) : Int))) <|
      .ite ((bt s at1) != (92 : Int)) (
        .leaf 1 [(Value.bool Bool.true)]) (
        .chk (((0 : Int) ≤ (IntKind.wrap IntKind.i64 (at1 + (1 : Int)))) ∧ ((IntKind.wrap IntKind.i64 (at1 + (1 : Int))) < (((ByteArray.size s) : Nat) : Int))) <|
        .leaf 1 [(Value.bool ((bt s (IntKind.wrap IntKind.i64 (at1 + (1 : Int)))) != (117 : Int)))])))
    (fun z => spec_unit.t1 s at1 z.1)
def spec_unit.h : Hints := ⟨[], [], [(1, [(27, .bool)])], [(5, [(7, (.int .i64)), (6, (.int .i64))])]⟩
noncomputable def spec_unit.c : Code := (Tryz.f22.body).getD .skip
theorem spec_unit.e (s : ByteArray) (at1 : Int) : fnT Tryz.prog spec_unit.h Tryz.f22 spec_unit.c [.v (Value.string s), .v (Value.int IntKind.i64 at1)] = spec_unit.t s at1 := by kernel_rfl
theorem spec_unit.calls (s : ByteArray) (at1 : Int) {w : World} {R : Ending → World → Prop} (hs : sat Tryz.prog (spec_unit.t s at1) (fun l vs w' => l = 0 ∧ R (.returned (retVal vs)) w') w) : Calls Tryz.prog 22 #[(Value.string s), (Value.int IntKind.i64 at1)] w R :=
  have h := calls_of_tree (w := w) (R := R) (args := [.v (Value.string s), .v (Value.int IntKind.i64 at1)]) (c := spec_unit.c) Tryz.func22 (show Tryz.f22.body = some spec_unit.c by kernel_rfl) (of_decide_eq_true (by kernel_rfl)) (spec_unit.e s at1) hs
  h

/-! ### pub-tetrapla/spec.high : function 23 -/
def spec_high.t (n : Int) : T :=
  .ite (decide ((55296 : Int) ≤ n)) (
    .leaf 0 [(Value.bool (decide (n ≤ (56319 : Int))))]) (
    .leaf 0 [(Value.bool Bool.false)])
def spec_high.h : Hints := ⟨[], [], [], []⟩
noncomputable def spec_high.c : Code := (Tryz.f23.body).getD .skip
theorem spec_high.e (n : Int) : fnT Tryz.prog spec_high.h Tryz.f23 spec_high.c [.v (Value.int IntKind.i64 n)] = spec_high.t n := by kernel_rfl
theorem spec_high.calls (n : Int) {w : World} {R : Ending → World → Prop} (hs : sat Tryz.prog (spec_high.t n) (fun l vs w' => l = 0 ∧ R (.returned (retVal vs)) w') w) : Calls Tryz.prog 23 #[(Value.int IntKind.i64 n)] w R :=
  have h := calls_of_tree (w := w) (R := R) (args := [.v (Value.int IntKind.i64 n)]) (c := spec_high.c) Tryz.func23 (show Tryz.f23.body = some spec_high.c by kernel_rfl) (of_decide_eq_true (by kernel_rfl)) (spec_high.e n) hs
  h

/-! ### pub-tetrapla/spec.low : function 24 -/
def spec_low.t (n : Int) : T :=
  .ite (decide ((56320 : Int) ≤ n)) (
    .leaf 0 [(Value.bool (decide (n ≤ (57343 : Int))))]) (
    .leaf 0 [(Value.bool Bool.false)])
def spec_low.h : Hints := ⟨[], [], [], []⟩
noncomputable def spec_low.c : Code := (Tryz.f24.body).getD .skip
theorem spec_low.e (n : Int) : fnT Tryz.prog spec_low.h Tryz.f24 spec_low.c [.v (Value.int IntKind.i64 n)] = spec_low.t n := by kernel_rfl
theorem spec_low.calls (n : Int) {w : World} {R : Ending → World → Prop} (hs : sat Tryz.prog (spec_low.t n) (fun l vs w' => l = 0 ∧ R (.returned (retVal vs)) w') w) : Calls Tryz.prog 24 #[(Value.int IntKind.i64 n)] w R :=
  have h := calls_of_tree (w := w) (R := R) (args := [.v (Value.int IntKind.i64 n)]) (c := spec_low.c) Tryz.func24 (show Tryz.f24.body = some spec_low.c by kernel_rfl) (of_decide_eq_true (by kernel_rfl)) (spec_low.e n) hs
  h

/-! ### pub-tetrapla/spec.Places : function 25 -/
def spec_Places.t (text : ByteArray) : T :=
  .alloc (Obj.cells #[(Value.int IntKind.i64 (0 : Int)), (Value.int IntKind.i64 (0 : Int)), (Value.int IntKind.i64 (0 : Int)), (Value.slice none 0 0), (Value.slice none 0 0)] 60 (0, 0)) fun (z0 : Addr) =>
  .alloc (Obj.cells #[(Value.string (ByteArray.mk #[])), (Value.int IntKind.i64 (0 : Int))] 80 (0, 0)) fun (z1 : Addr) =>
  .effU (Instr.storeAt 80 (Value.pointer (some z1)) (Value.agg #[(Value.string text), (Value.int IntKind.i64 (0 : Int))])) <|
  .call 41 #[(Value.pointer (some z1))] (.tuple .nil) fun _ =>
  .call 42 #[(Value.pointer (some z1))] (.tuple (.cons (.agg (.cons (.int .i64) (.cons (.int .i64) (.cons (.int .i64) (.cons .slice (.cons .slice .nil)))))) (.cons .bool .nil))) fun (z2 : ((Int × (Int × (Int × (((Option Addr) × (Nat × Nat)) × (((Option Addr) × (Nat × Nat)) × PUnit))))) × (Bool × PUnit))) =>
  .alloc (Obj.cells #[(Value.int IntKind.i64 (0 : Int)), (Value.int IntKind.i64 (0 : Int)), (Value.int IntKind.i64 (0 : Int)), (Value.slice none 0 0), (Value.slice none 0 0)] 60 (0, 0)) fun (z3 : Addr) =>
  .effU (Instr.storeAt 60 (Value.pointer (some z3)) (Value.agg #[(Value.int IntKind.i64 ((z2).1).1), (Value.int IntKind.i64 (((z2).1).2).1), (Value.int IntKind.i64 ((((z2).1).2).2).1), (Value.slice ((((((z2).1).2).2).2).1).1 (((((((z2).1).2).2).2).1).2).1 (((((((z2).1).2).2).2).1).2).2), (Value.slice (((((((z2).1).2).2).2).2).1).1 ((((((((z2).1).2).2).2).2).1).2).1 ((((((((z2).1).2).2).2).2).1).2).2)])) <|
  .ite (!((z2).2).1) (
    .effU (Instr.storeAt 60 (Value.pointer (some z0)) (Value.agg #[(Value.int IntKind.i64 (0 : Int)), (Value.int IntKind.i64 (0 : Int)), (Value.int IntKind.i64 (0 : Int)), (Value.slice none 0 0), (Value.slice none 0 0)])) <|
    .effS (Instr.loadAt 60 (Value.pointer (some z0))) (.agg (.cons (.int .i64) (.cons (.int .i64) (.cons (.int .i64) (.cons .slice (.cons .slice .nil)))))) fun (z4 : (Int × (Int × (Int × (((Option Addr) × (Nat × Nat)) × (((Option Addr) × (Nat × Nat)) × PUnit)))))) =>
    .leaf 0 [(Value.agg #[(Value.int IntKind.i64 (z4).1), (Value.int IntKind.i64 ((z4).2).1), (Value.int IntKind.i64 (((z4).2).2).1), (Value.slice (((((z4).2).2).2).1).1 ((((((z4).2).2).2).1).2).1 ((((((z4).2).2).2).1).2).2), (Value.slice ((((((z4).2).2).2).2).1).1 (((((((z4).2).2).2).2).1).2).1 (((((((z4).2).2).2).2).1).2).2)]), (Value.bool Bool.false)]) (
    .call 41 #[(Value.pointer (some z1))] (.tuple .nil) fun _ =>
    .load (Addr.add z1 1) (.int .i64) fun (i5 : Int) =>
    .ite (i5 != (((ByteArray.size text) : Nat) : Int)) (
      .effU (Instr.storeAt 60 (Value.pointer (some z0)) (Value.agg #[(Value.int IntKind.i64 (0 : Int)), (Value.int IntKind.i64 (0 : Int)), (Value.int IntKind.i64 (0 : Int)), (Value.slice none 0 0), (Value.slice none 0 0)])) <|
      .effS (Instr.loadAt 60 (Value.pointer (some z0))) (.agg (.cons (.int .i64) (.cons (.int .i64) (.cons (.int .i64) (.cons .slice (.cons .slice .nil)))))) fun (z6 : (Int × (Int × (Int × (((Option Addr) × (Nat × Nat)) × (((Option Addr) × (Nat × Nat)) × PUnit)))))) =>
      .leaf 0 [(Value.agg #[(Value.int IntKind.i64 (z6).1), (Value.int IntKind.i64 ((z6).2).1), (Value.int IntKind.i64 (((z6).2).2).1), (Value.slice (((((z6).2).2).2).1).1 ((((((z6).2).2).2).1).2).1 ((((((z6).2).2).2).1).2).2), (Value.slice ((((((z6).2).2).2).2).1).1 (((((((z6).2).2).2).2).1).2).1 (((((((z6).2).2).2).2).1).2).2)]), (Value.bool Bool.false)]) (
      .eff (Instr.loadAt 60 (Value.pointer (some z3))) (.agg (.cons (.int .i64) (.cons (.int .i64) (.cons (.int .i64) (.cons .slice (.cons .slice .nil)))))) fun (z7 : (Int × (Int × (Int × (((Option Addr) × (Nat × Nat)) × (((Option Addr) × (Nat × Nat)) × PUnit)))))) =>
      .effU (Instr.storeAt 60 (Value.pointer (some z0)) (Value.agg #[(Value.int IntKind.i64 (z7).1), (Value.int IntKind.i64 ((z7).2).1), (Value.int IntKind.i64 (((z7).2).2).1), (Value.slice (((((z7).2).2).2).1).1 ((((((z7).2).2).2).1).2).1 ((((((z7).2).2).2).1).2).2), (Value.slice ((((((z7).2).2).2).2).1).1 (((((((z7).2).2).2).2).1).2).1 (((((((z7).2).2).2).2).1).2).2)])) <|
      .effS (Instr.loadAt 60 (Value.pointer (some z0))) (.agg (.cons (.int .i64) (.cons (.int .i64) (.cons (.int .i64) (.cons .slice (.cons .slice .nil)))))) fun (z8 : (Int × (Int × (Int × (((Option Addr) × (Nat × Nat)) × (((Option Addr) × (Nat × Nat)) × PUnit)))))) =>
      .leaf 0 [(Value.agg #[(Value.int IntKind.i64 (z8).1), (Value.int IntKind.i64 ((z8).2).1), (Value.int IntKind.i64 (((z8).2).2).1), (Value.slice (((((z8).2).2).2).1).1 ((((((z8).2).2).2).1).2).1 ((((((z8).2).2).2).1).2).2), (Value.slice ((((((z8).2).2).2).2).1).1 (((((((z8).2).2).2).2).1).2).1 (((((((z8).2).2).2).2).1).2).2)]), (Value.bool Bool.true)]))
def spec_Places.h : Hints := ⟨[], [], [], []⟩
noncomputable def spec_Places.c : Code := (Tryz.f25.body).getD .skip
theorem spec_Places.e (text : ByteArray) : fnT Tryz.prog spec_Places.h Tryz.f25 spec_Places.c [.v (Value.string text)] = spec_Places.t text := by kernel_rfl
theorem spec_Places.calls (text : ByteArray) {w : World} {R : Ending → World → Prop} (hs : sat Tryz.prog (spec_Places.t text) (fun l vs w' => l = 0 ∧ R (.returned (retVal vs)) w') w) : Calls Tryz.prog 25 #[(Value.string text)] w R :=
  have h := calls_of_tree (w := w) (R := R) (args := [.v (Value.string text)]) (c := spec_Places.c) Tryz.func25 (show Tryz.f25.body = some spec_Places.c by kernel_rfl) (of_decide_eq_true (by kernel_rfl)) (spec_Places.e text) hs
  h

/-! ### pub-tetrapla/spec.hexDigit : function 40 -/
def spec_hexDigit.t2 (c0 : Int) (b1 : Bool) : T :=
  .ite b1 (
    .leaf 0 [(Value.int IntKind.i64 (IntKind.wrap IntKind.i64 ((IntKind.wrap IntKind.i64 (IntKind.wrap IntKind.u8 (c0 - (97 : Int)))) + (10 : Int)))), (Value.bool Bool.true)]) (
    .ite (decide ((65 : Int) ≤ c0)) (
      .ite (decide (c0 ≤ (70 : Int))) (
        .leaf 0 [(Value.int IntKind.i64 (IntKind.wrap IntKind.i64 ((IntKind.wrap IntKind.i64 (IntKind.wrap IntKind.u8 (c0 - (65 : Int)))) + (10 : Int)))), (Value.bool Bool.true)]) (
        .leaf 0 [(Value.int IntKind.i64 (0 : Int)), (Value.bool Bool.false)])) (
      .leaf 0 [(Value.int IntKind.i64 (0 : Int)), (Value.bool Bool.false)]))
def spec_hexDigit.t1 (c0 : Int) (b0 : Bool) : T :=
  .ite b0 (
    .leaf 0 [(Value.int IntKind.i64 (IntKind.wrap IntKind.i64 (IntKind.wrap IntKind.u8 (c0 - (48 : Int))))), (Value.bool Bool.true)]) (
    .cut 1 (.cons .bool .nil) (
      .ite (decide ((97 : Int) ≤ c0)) (
        .leaf 1 [(Value.bool (decide (c0 ≤ (102 : Int))))]) (
        .leaf 1 [(Value.bool Bool.false)]))
      (fun z => spec_hexDigit.t2 c0 z.1))
def spec_hexDigit.t (c0 : Int) : T :=
  .cut 1 (.cons .bool .nil) (
    .ite (decide ((48 : Int) ≤ c0)) (
      .leaf 1 [(Value.bool (decide (c0 ≤ (57 : Int))))]) (
      .leaf 1 [(Value.bool Bool.false)]))
    (fun z => spec_hexDigit.t1 c0 z.1)
def spec_hexDigit.h : Hints := ⟨[], [], [(1, [(4, .bool)]), (3, [(14, .bool)])], []⟩
noncomputable def spec_hexDigit.c : Code := (Tryz.f40.body).getD .skip
theorem spec_hexDigit.e (c0 : Int) : fnT Tryz.prog spec_hexDigit.h Tryz.f40 spec_hexDigit.c [.v (Value.int IntKind.u8 c0)] = spec_hexDigit.t c0 := by kernel_rfl
theorem spec_hexDigit.calls (c0 : Int) {w : World} {R : Ending → World → Prop} (hs : sat Tryz.prog (spec_hexDigit.t c0) (fun l vs w' => l = 0 ∧ R (.returned (retVal vs)) w') w) : Calls Tryz.prog 40 #[(Value.int IntKind.u8 c0)] w R :=
  have h := calls_of_tree (w := w) (R := R) (args := [.v (Value.int IntKind.u8 c0)]) (c := spec_hexDigit.c) Tryz.func40 (show Tryz.f40.body = some spec_hexDigit.c by kernel_rfl) (of_decide_eq_true (by kernel_rfl)) (spec_hexDigit.e c0) hs
  h

/-! ### (*pub-tetrapla/spec.reader).blanks : function 41 -/
def spec_reader_blanks.t1 (r : (Option Addr)) : T :=
  .drew <|
  .ptr r fun (z0 : Addr) =>
  .load (Addr.add z0 1) (.int .i64) fun (i1 : Int) =>
  .ptr r fun (z2 : Addr) =>
  .load (Addr.add z2 0) .str fun (s3 : ByteArray) =>
  .ite (decide (i1 < (((ByteArray.size s3) : Nat) : Int))) (
    .ptr r fun (z4 : Addr) =>
    .load (Addr.add z4 0) .str fun (s5 : ByteArray) =>
    .ptr r fun (z6 : Addr) =>
    .load (Addr.add z6 1) (.int .i64) fun (i7 : Int) =>
    .chk (((0 : Int) ≤ i7) ∧ (i7 < (((ByteArray.size s5) : Nat) : Int))) <|
    .call 63 #[(Value.int IntKind.u8 (bt s5 i7))] .bool fun (b8 : Bool) =>
    .ite b8 (
      .ptr r fun (z9 : Addr) =>
      .load (Addr.add z9 1) (.int .i64) fun (i10 : Int) =>
      .ptr r fun (z11 : Addr) =>
      .store (Addr.add z11 1) (Value.int IntKind.i64 (IntKind.wrap IntKind.i64 (i10 + (1 : Int)))) <|
      .leaf 1 []) (
      .leaf 0 [])) (
    .leaf 0 [])
def spec_reader_blanks.t (r : (Option Addr)) : T :=
  .loop 1 .nil []
    (fun _ => spec_reader_blanks.t1 r)
def spec_reader_blanks.h : Hints := ⟨[], [], [], [(0, [])]⟩
noncomputable def spec_reader_blanks.c : Code := (Tryz.f41.body).getD .skip
theorem spec_reader_blanks.e (r : (Option Addr)) : fnT Tryz.prog spec_reader_blanks.h Tryz.f41 spec_reader_blanks.c [.v (Value.pointer r)] = spec_reader_blanks.t r := by kernel_rfl
theorem spec_reader_blanks.calls (r : (Option Addr)) {w : World} {R : Ending → World → Prop} (hs : sat Tryz.prog (spec_reader_blanks.t r) (fun l vs w' => l = 0 ∧ R (.returned (retVal vs)) w') w) : Calls Tryz.prog 41 #[(Value.pointer r)] w R :=
  have h := calls_of_tree (w := w) (R := R) (args := [.v (Value.pointer r)]) (c := spec_reader_blanks.c) Tryz.func41 (show Tryz.f41.body = some spec_reader_blanks.c by kernel_rfl) (of_decide_eq_true (by kernel_rfl)) (spec_reader_blanks.e r) hs
  h

/-! ### pub-tetrapla/spec.Unquote : function 43 -/
def spec_Unquote.t2 (i0 : Int) (z1 : ((Option Addr) × (Nat × Nat))) (z4 : (Int × (Bool × PUnit))) (z8 : (Int × (Bool × PUnit))) (b11 : Bool) : T :=
  .ite b11 (
    .call 71 #[(Value.slice (z1).1 ((z1).2).1 ((z1).2).2), (Value.int IntKind.i64 (IntKind.wrap IntKind.i64 ((IntKind.wrap IntKind.i64 ((65536 : Int) + (IntKind.wrap IntKind.i64 ((IntKind.wrap IntKind.i64 ((z4).1 - (55296 : Int))) * (1024 : Int))))) + (IntKind.wrap IntKind.i64 ((z8).1 - (56320 : Int))))))] .slice fun (z12 : ((Option Addr) × (Nat × Nat))) =>
    .leaf 1 [(Value.int IntKind.i64 (IntKind.wrap IntKind.i64 ((IntKind.wrap IntKind.i64 (i0 + (6 : Int))) + (6 : Int)))), (Value.slice (z12).1 ((z12).2).1 ((z12).2).2)]) (
    .call 71 #[(Value.slice (z1).1 ((z1).2).1 ((z1).2).2), (Value.int IntKind.i64 (z4).1)] .slice fun (z13 : ((Option Addr) × (Nat × Nat))) =>
    .leaf 1 [(Value.int IntKind.i64 (IntKind.wrap IntKind.i64 (i0 + (6 : Int)))), (Value.slice (z13).1 ((z13).2).1 ((z13).2).2)])
def spec_Unquote.t1 (q0 : ByteArray) (i0 : Int) (z1 : ((Option Addr) × (Nat × Nat))) : T :=
  .ite (decide (i0 < (((ByteArray.size (ByteArray.extract q0 1 (Int.toNat (IntKind.wrap IntKind.i64 ((((ByteArray.size q0) : Nat) : Int) - (1 : Int)))))) : Nat) : Int))) (
    .chk (((0 : Int) ≤ i0) ∧ (i0 < (((ByteArray.size (ByteArray.extract q0 1 (Int.toNat (IntKind.wrap IntKind.i64 ((((ByteArray.size q0) : Nat) : Int) - (1 : Int)))))) : Nat) : Int))) <|
    .ite ((bt (ByteArray.extract q0 1 (Int.toNat (IntKind.wrap IntKind.i64 ((((ByteArray.size q0) : Nat) : Int) - (1 : Int))))) i0) != (92 : Int)) (
      .chk (((0 : Int) ≤ i0) ∧ (i0 < (((ByteArray.size (ByteArray.extract q0 1 (Int.toNat (IntKind.wrap IntKind.i64 ((((ByteArray.size q0) : Nat) : Int) - (1 : Int)))))) : Nat) : Int))) <|
      .eff (Instr.buildSlice 43 1 #[(0, (Value.int IntKind.u8 (bt (ByteArray.extract q0 1 (Int.toNat (IntKind.wrap IntKind.i64 ((((ByteArray.size q0) : Nat) : Int) - (1 : Int))))) i0)))]) .slice fun (z2 : ((Option Addr) × (Nat × Nat))) =>
      .eff (Builtin.append_ (Call.argTypes (Call.mk (Callee.builtin Builtin.append) #[(Operand.tmp 23), (Operand.tmp 27)] #[43, 43])) 43 #[(Value.slice (z1).1 ((z1).2).1 ((z1).2).2), (Value.slice (z2).1 ((z2).2).1 ((z2).2).2)]) .slice fun (z3 : ((Option Addr) × (Nat × Nat))) =>
      .leaf 1 [(Value.int IntKind.i64 (IntKind.wrap IntKind.i64 (i0 + (1 : Int)))), (Value.slice (z3).1 ((z3).2).1 ((z3).2).2)]) (
      .call 22 #[(Value.string (ByteArray.extract q0 1 (Int.toNat (IntKind.wrap IntKind.i64 ((((ByteArray.size q0) : Nat) : Int) - (1 : Int)))))), (Value.int IntKind.i64 i0)] (.tuple (.cons (.int .i64) (.cons .bool .nil))) fun (z4 : (Int × (Bool × PUnit))) =>
      .ite (!((z4).2).1) (
        .chk (((0 : Int) ≤ (IntKind.wrap IntKind.i64 (i0 + (1 : Int)))) ∧ ((IntKind.wrap IntKind.i64 (i0 + (1 : Int))) < (((ByteArray.size (ByteArray.extract q0 1 (Int.toNat (IntKind.wrap IntKind.i64 ((((ByteArray.size q0) : Nat) : Int) - (1 : Int)))))) : Nat) : Int))) <|
        .call 70 #[(Value.int IntKind.u8 (bt (ByteArray.extract q0 1 (Int.toNat (IntKind.wrap IntKind.i64 ((((ByteArray.size q0) : Nat) : Int) - (1 : Int))))) (IntKind.wrap IntKind.i64 (i0 + (1 : Int)))))] (.int .u8) fun (i5 : Int) =>
        .eff (Instr.buildSlice 43 1 #[(0, (Value.int IntKind.u8 i5))]) .slice fun (z6 : ((Option Addr) × (Nat × Nat))) =>
        .eff (Builtin.append_ (Call.argTypes (Call.mk (Callee.builtin Builtin.append) #[(Operand.tmp 39), (Operand.tmp 45)] #[43, 43])) 43 #[(Value.slice (z1).1 ((z1).2).1 ((z1).2).2), (Value.slice (z6).1 ((z6).2).1 ((z6).2).2)]) .slice fun (z7 : ((Option Addr) × (Nat × Nat))) =>
        .leaf 1 [(Value.int IntKind.i64 (IntKind.wrap IntKind.i64 (i0 + (2 : Int)))), (Value.slice (z7).1 ((z7).2).1 ((z7).2).2)]) (
        .call 22 #[(Value.string (ByteArray.extract q0 1 (Int.toNat (IntKind.wrap IntKind.i64 ((((ByteArray.size q0) : Nat) : Int) - (1 : Int)))))), (Value.int IntKind.i64 (IntKind.wrap IntKind.i64 (i0 + (6 : Int))))] (.tuple (.cons (.int .i64) (.cons .bool .nil))) fun (z8 : (Int × (Bool × PUnit))) =>
        .cut 2 (.cons .bool .nil) (
          .ite ((z8).2).1 (
            .call 23 #[(Value.int IntKind.i64 (z4).1)] .bool fun (b9 : Bool) =>
            .ite b9 (
              .call 24 #[(Value.int IntKind.i64 (z8).1)] .bool fun (b10 : Bool) =>
              .leaf 2 [(Value.bool b10)]) (
              .leaf 2 [(Value.bool Bool.false)])) (
            .leaf 2 [(Value.bool Bool.false)]))
          (fun z => spec_Unquote.t2 i0 z1 z4 z8 z.1)))) (
    .eff (convert 43 9 (Value.slice (z1).1 ((z1).2).1 ((z1).2).2)) .str fun (s14 : ByteArray) =>
    .leaf 0 [(Value.string s14)])
def spec_Unquote.t (q0 : ByteArray) : T :=
  .chk (((0 : Int) ≤ (1 : Int)) ∧ (((1 : Int) ≤ (IntKind.wrap IntKind.i64 ((((ByteArray.size q0) : Nat) : Int) - (1 : Int)))) ∧ ((IntKind.wrap IntKind.i64 ((((ByteArray.size q0) : Nat) : Int) - (1 : Int))) ≤ (((ByteArray.size q0) : Nat) : Int)))) <|
  .loop 1 (.cons (.int .i64) (.cons .slice .nil)) [(Value.int IntKind.i64 (0 : Int)), (Value.slice none 0 0)]
    (fun z => spec_Unquote.t1 q0 z.1 z.2.1)
def spec_Unquote.h : Hints := ⟨[], [], [(14, [(65, .bool)])], [(4, [(5, (.int .i64)), (3, .slice)])]⟩
noncomputable def spec_Unquote.c : Code := (Tryz.f43.body).getD .skip
theorem spec_Unquote.e (q0 : ByteArray) : fnT Tryz.prog spec_Unquote.h Tryz.f43 spec_Unquote.c [.v (Value.string q0)] = spec_Unquote.t q0 := by kernel_rfl
theorem spec_Unquote.calls (q0 : ByteArray) {w : World} {R : Ending → World → Prop} (hs : sat Tryz.prog (spec_Unquote.t q0) (fun l vs w' => l = 0 ∧ R (.returned (retVal vs)) w') w) : Calls Tryz.prog 43 #[(Value.string q0)] w R :=
  have h := calls_of_tree (w := w) (R := R) (args := [.v (Value.string q0)]) (c := spec_Unquote.c) Tryz.func43 (show Tryz.f43.body = some spec_Unquote.c by kernel_rfl) (of_decide_eq_true (by kernel_rfl)) (spec_Unquote.e q0) hs
  h

/-! ### pub-tetrapla/spec.short : function 70 -/
def spec_short.t (c0 : Int) : T :=
  .ite (c0 == (98 : Int)) (
    .leaf 0 [(Value.int IntKind.u8 (8 : Int))]) (
    .ite (c0 == (102 : Int)) (
      .leaf 0 [(Value.int IntKind.u8 (12 : Int))]) (
      .ite (c0 == (110 : Int)) (
        .leaf 0 [(Value.int IntKind.u8 (10 : Int))]) (
        .ite (c0 == (114 : Int)) (
          .leaf 0 [(Value.int IntKind.u8 (13 : Int))]) (
          .ite (c0 == (116 : Int)) (
            .leaf 0 [(Value.int IntKind.u8 (9 : Int))]) (
            .leaf 0 [(Value.int IntKind.u8 c0)])))))
def spec_short.h : Hints := ⟨[], [], [], []⟩
noncomputable def spec_short.c : Code := (Tryz.f70.body).getD .skip
theorem spec_short.e (c0 : Int) : fnT Tryz.prog spec_short.h Tryz.f70 spec_short.c [.v (Value.int IntKind.u8 c0)] = spec_short.t c0 := by kernel_rfl
theorem spec_short.calls (c0 : Int) {w : World} {R : Ending → World → Prop} (hs : sat Tryz.prog (spec_short.t c0) (fun l vs w' => l = 0 ∧ R (.returned (retVal vs)) w') w) : Calls Tryz.prog 70 #[(Value.int IntKind.u8 c0)] w R :=
  have h := calls_of_tree (w := w) (R := R) (args := [.v (Value.int IntKind.u8 c0)]) (c := spec_short.c) Tryz.func70 (show Tryz.f70.body = some spec_short.c by kernel_rfl) (of_decide_eq_true (by kernel_rfl)) (spec_short.e c0) hs
  h

/-! ### pub-tetrapla/spec.appendUTF8 : function 71 -/
def spec_appendUTF8.t1 (q0 : (Option Addr)) (q0_len : Nat) (q0_cap : Nat) (q1 : Int) (b6 : Bool) : T :=
  .ite b6 (
    .eff (Instr.buildSlice 43 3 #[(0, (Value.int IntKind.u8 (239 : Int))), (1, (Value.int IntKind.u8 (191 : Int))), (2, (Value.int IntKind.u8 (189 : Int)))]) .slice fun (z7 : ((Option Addr) × (Nat × Nat))) =>
    .eff (Builtin.append_ (Call.argTypes (Call.mk (Callee.builtin Builtin.append) #[(Operand.tmp 34), (Operand.tmp 35)] #[43, 43])) 43 #[(Value.slice q0 q0_len q0_cap), (Value.slice (z7).1 ((z7).2).1 ((z7).2).2)]) .slice fun (z8 : ((Option Addr) × (Nat × Nat))) =>
    .leaf 0 [(Value.slice (z8).1 ((z8).2).1 ((z8).2).2)]) (
    .ite (decide (q1 < (65536 : Int))) (
      .chk ((4096 : Int) ≠ (0 : Int)) <|
      .chk ((64 : Int) ≠ (0 : Int)) <|
      .chk ((64 : Int) ≠ (0 : Int)) <|
      .chk ((64 : Int) ≠ (0 : Int)) <|
      .eff (Instr.buildSlice 43 3 #[(0, (Value.int IntKind.u8 (IntKind.wrap IntKind.u8 (IntKind.wrap IntKind.i64 ((224 : Int) + (IntKind.wrap IntKind.i64 (Int.tdiv q1 (4096 : Int)))))))), (1, (Value.int IntKind.u8 (IntKind.wrap IntKind.u8 (IntKind.wrap IntKind.i64 ((128 : Int) + (Int.tmod (IntKind.wrap IntKind.i64 (Int.tdiv q1 (64 : Int))) (64 : Int))))))), (2, (Value.int IntKind.u8 (IntKind.wrap IntKind.u8 (IntKind.wrap IntKind.i64 ((128 : Int) + (Int.tmod q1 (64 : Int)))))))]) .slice fun (z9 : ((Option Addr) × (Nat × Nat))) =>
      .eff (Builtin.append_ (Call.argTypes (Call.mk (Callee.builtin Builtin.append) #[(Operand.tmp 40), (Operand.tmp 54)] #[43, 43])) 43 #[(Value.slice q0 q0_len q0_cap), (Value.slice (z9).1 ((z9).2).1 ((z9).2).2)]) .slice fun (z10 : ((Option Addr) × (Nat × Nat))) =>
      .leaf 0 [(Value.slice (z10).1 ((z10).2).1 ((z10).2).2)]) (
      .chk ((262144 : Int) ≠ (0 : Int)) <|
      .chk ((4096 : Int) ≠ (0 : Int)) <|
      .chk ((64 : Int) ≠ (0 : Int)) <|
      .chk ((64 : Int) ≠ (0 : Int)) <|
      .chk ((64 : Int) ≠ (0 : Int)) <|
      .chk ((64 : Int) ≠ (0 : Int)) <|
      .eff (Instr.buildSlice 43 4 #[(0, (Value.int IntKind.u8 (IntKind.wrap IntKind.u8 (IntKind.wrap IntKind.i64 ((240 : Int) + (IntKind.wrap IntKind.i64 (Int.tdiv q1 (262144 : Int)))))))), (1, (Value.int IntKind.u8 (IntKind.wrap IntKind.u8 (IntKind.wrap IntKind.i64 ((128 : Int) + (Int.tmod (IntKind.wrap IntKind.i64 (Int.tdiv q1 (4096 : Int))) (64 : Int))))))), (2, (Value.int IntKind.u8 (IntKind.wrap IntKind.u8 (IntKind.wrap IntKind.i64 ((128 : Int) + (Int.tmod (IntKind.wrap IntKind.i64 (Int.tdiv q1 (64 : Int))) (64 : Int))))))), (3, (Value.int IntKind.u8 (IntKind.wrap IntKind.u8 (IntKind.wrap IntKind.i64 ((128 : Int) + (Int.tmod q1 (64 : Int)))))))]) .slice fun (z11 : ((Option Addr) × (Nat × Nat))) =>
      .eff (Builtin.append_ (Call.argTypes (Call.mk (Callee.builtin Builtin.append) #[(Operand.tmp 56), (Operand.tmp 75)] #[43, 43])) 43 #[(Value.slice q0 q0_len q0_cap), (Value.slice (z11).1 ((z11).2).1 ((z11).2).2)]) .slice fun (z12 : ((Option Addr) × (Nat × Nat))) =>
      .leaf 0 [(Value.slice (z12).1 ((z12).2).1 ((z12).2).2)]))
def spec_appendUTF8.t (q0 : (Option Addr)) (q0_len : Nat) (q0_cap : Nat) (q1 : Int) : T :=
  .ite (decide (q1 < (128 : Int))) (
    .eff (Instr.buildSlice 43 1 #[(0, (Value.int IntKind.u8 (IntKind.wrap IntKind.u8 q1)))]) .slice fun (z0 : ((Option Addr) × (Nat × Nat))) =>
    .eff (Builtin.append_ (Call.argTypes (Call.mk (Callee.builtin Builtin.append) #[(Operand.tmp 8), (Operand.tmp 11)] #[43, 43])) 43 #[(Value.slice q0 q0_len q0_cap), (Value.slice (z0).1 ((z0).2).1 ((z0).2).2)]) .slice fun (z1 : ((Option Addr) × (Nat × Nat))) =>
    .leaf 0 [(Value.slice (z1).1 ((z1).2).1 ((z1).2).2)]) (
    .ite (decide (q1 < (2048 : Int))) (
      .chk ((64 : Int) ≠ (0 : Int)) <|
      .chk ((64 : Int) ≠ (0 : Int)) <|
      .eff (Instr.buildSlice 43 2 #[(0, (Value.int IntKind.u8 (IntKind.wrap IntKind.u8 (IntKind.wrap IntKind.i64 ((192 : Int) + (IntKind.wrap IntKind.i64 (Int.tdiv q1 (64 : Int)))))))), (1, (Value.int IntKind.u8 (IntKind.wrap IntKind.u8 (IntKind.wrap IntKind.i64 ((128 : Int) + (Int.tmod q1 (64 : Int)))))))]) .slice fun (z2 : ((Option Addr) × (Nat × Nat))) =>
      .eff (Builtin.append_ (Call.argTypes (Call.mk (Callee.builtin Builtin.append) #[(Operand.tmp 16), (Operand.tmp 25)] #[43, 43])) 43 #[(Value.slice q0 q0_len q0_cap), (Value.slice (z2).1 ((z2).2).1 ((z2).2).2)]) .slice fun (z3 : ((Option Addr) × (Nat × Nat))) =>
      .leaf 0 [(Value.slice (z3).1 ((z3).2).1 ((z3).2).2)]) (
      .cut 1 (.cons .bool .nil) (
        .call 23 #[(Value.int IntKind.i64 q1)] .bool fun (b4 : Bool) =>
        .ite b4 (
          .leaf 1 [(Value.bool Bool.true)]) (
          .call 24 #[(Value.int IntKind.i64 q1)] .bool fun (b5 : Bool) =>
          .leaf 1 [(Value.bool b5)]))
        (fun z => spec_appendUTF8.t1 q0 q0_len q0_cap q1 z.1)))
def spec_appendUTF8.h : Hints := ⟨[], [], [(5, [(27, .bool)])], []⟩
noncomputable def spec_appendUTF8.c : Code := (Tryz.f71.body).getD .skip
theorem spec_appendUTF8.e (q0 : (Option Addr)) (q0_len : Nat) (q0_cap : Nat) (q1 : Int) : fnT Tryz.prog spec_appendUTF8.h Tryz.f71 spec_appendUTF8.c [.v (Value.slice q0 q0_len q0_cap), .v (Value.int IntKind.i64 q1)] = spec_appendUTF8.t q0 q0_len q0_cap q1 := by kernel_rfl
theorem spec_appendUTF8.calls (q0 : (Option Addr)) (q0_len : Nat) (q0_cap : Nat) (q1 : Int) {w : World} {R : Ending → World → Prop} (hs : sat Tryz.prog (spec_appendUTF8.t q0 q0_len q0_cap q1) (fun l vs w' => l = 0 ∧ R (.returned (retVal vs)) w') w) : Calls Tryz.prog 71 #[(Value.slice q0 q0_len q0_cap), (Value.int IntKind.i64 q1)] w R :=
  have h := calls_of_tree (w := w) (R := R) (args := [.v (Value.slice q0 q0_len q0_cap), .v (Value.int IntKind.i64 q1)]) (c := spec_appendUTF8.c) Tryz.func71 (show Tryz.f71.body = some spec_appendUTF8.c by kernel_rfl) (of_decide_eq_true (by kernel_rfl)) (spec_appendUTF8.e q0 q0_len q0_cap q1) hs
  h

/-! ### pub-tetrapla/spec.Blank : function 63 -/
def spec_Blank.t (c0 : Int) : T :=
  .ite (c0 == (32 : Int)) (
    .leaf 0 [(Value.bool Bool.true)]) (
    .ite (c0 == (9 : Int)) (
      .leaf 0 [(Value.bool Bool.true)]) (
      .ite (c0 == (10 : Int)) (
        .leaf 0 [(Value.bool Bool.true)]) (
        .leaf 0 [(Value.bool (c0 == (13 : Int)))])))
def spec_Blank.h : Hints := ⟨[], [], [], []⟩
noncomputable def spec_Blank.c : Code := (Tryz.f63.body).getD .skip
theorem spec_Blank.e (c0 : Int) : fnT Tryz.prog spec_Blank.h Tryz.f63 spec_Blank.c [.v (Value.int IntKind.u8 c0)] = spec_Blank.t c0 := by kernel_rfl
theorem spec_Blank.calls (c0 : Int) {w : World} {R : Ending → World → Prop} (hs : sat Tryz.prog (spec_Blank.t c0) (fun l vs w' => l = 0 ∧ R (.returned (retVal vs)) w') w) : Calls Tryz.prog 63 #[(Value.int IntKind.u8 c0)] w R :=
  have h := calls_of_tree (w := w) (R := R) (args := [.v (Value.int IntKind.u8 c0)]) (c := spec_Blank.c) Tryz.func63 (show Tryz.f63.body = some spec_Blank.c by kernel_rfl) (of_decide_eq_true (by kernel_rfl)) (spec_Blank.e c0) hs
  h

/-! ### (*pub-tetrapla/spec.reader).here : function 64 -/
def spec_reader_here.t (r : (Option Addr)) : T :=
  .drew <|
  .ptr r fun (z0 : Addr) =>
  .load (Addr.add z0 1) (.int .i64) fun (i1 : Int) =>
  .ptr r fun (z2 : Addr) =>
  .load (Addr.add z2 0) .str fun (s3 : ByteArray) =>
  .ite (decide (i1 < (((ByteArray.size s3) : Nat) : Int))) (
    .drew <|
    .ptr r fun (z4 : Addr) =>
    .load (Addr.add z4 0) .str fun (s5 : ByteArray) =>
    .ptr r fun (z6 : Addr) =>
    .load (Addr.add z6 1) (.int .i64) fun (i7 : Int) =>
    .chk (((0 : Int) ≤ i7) ∧ (i7 < (((ByteArray.size s5) : Nat) : Int))) <|
    .leaf 0 [(Value.int IntKind.u8 (bt s5 i7))]) (
    .leaf 0 [(Value.int IntKind.u8 (0 : Int))])
def spec_reader_here.h : Hints := ⟨[], [], [], []⟩
noncomputable def spec_reader_here.c : Code := (Tryz.f64.body).getD .skip
theorem spec_reader_here.e (r : (Option Addr)) : fnT Tryz.prog spec_reader_here.h Tryz.f64 spec_reader_here.c [.v (Value.pointer r)] = spec_reader_here.t r := by kernel_rfl
theorem spec_reader_here.calls (r : (Option Addr)) {w : World} {R : Ending → World → Prop} (hs : sat Tryz.prog (spec_reader_here.t r) (fun l vs w' => l = 0 ∧ R (.returned (retVal vs)) w') w) : Calls Tryz.prog 64 #[(Value.pointer r)] w R :=
  have h := calls_of_tree (w := w) (R := R) (args := [.v (Value.pointer r)]) (c := spec_reader_here.c) Tryz.func64 (show Tryz.f64.body = some spec_reader_here.c by kernel_rfl) (of_decide_eq_true (by kernel_rfl)) (spec_reader_here.e r) hs
  h

/-! ### (*pub-tetrapla/spec.reader).quoted : function 67 -/
def spec_reader_quoted.t1 (r : (Option Addr)) : T :=
  .drew <|
  .ptr r fun (z3 : Addr) =>
  .load (Addr.add z3 1) (.int .i64) fun (i4 : Int) =>
  .ptr r fun (z5 : Addr) =>
  .load (Addr.add z5 0) .str fun (s6 : ByteArray) =>
  .ite (decide (i4 < (((ByteArray.size s6) : Nat) : Int))) (
    .drew <|
    .ptr r fun (z7 : Addr) =>
    .load (Addr.add z7 0) .str fun (s8 : ByteArray) =>
    .ptr r fun (z9 : Addr) =>
    .load (Addr.add z9 1) (.int .i64) fun (i10 : Int) =>
    .chk (((0 : Int) ≤ i10) ∧ (i10 < (((ByteArray.size s8) : Nat) : Int))) <|
    .ptr r fun (z11 : Addr) =>
    .load (Addr.add z11 1) (.int .i64) fun (i12 : Int) =>
    .ptr r fun (z13 : Addr) =>
    .store (Addr.add z13 1) (Value.int IntKind.i64 (IntKind.wrap IntKind.i64 (i12 + (1 : Int)))) <|
    .ite ((bt s8 i10) == (34 : Int)) (
      .leaf 0 [(Value.bool Bool.true)]) (
      .ite (decide ((bt s8 i10) < (32 : Int))) (
        .leaf 0 [(Value.bool Bool.false)]) (
        .ite ((bt s8 i10) == (92 : Int)) (
          .call 86 #[(Value.pointer r)] .bool fun (b14 : Bool) =>
          .ite (!b14) (
            .leaf 0 [(Value.bool Bool.false)]) (
            .leaf 1 [])) (
          .leaf 1 [])))) (
    .leaf 0 [(Value.bool Bool.false)])
def spec_reader_quoted.t (r : (Option Addr)) : T :=
  .ptr r fun (z0 : Addr) =>
  .load (Addr.add z0 1) (.int .i64) fun (i1 : Int) =>
  .ptr r fun (z2 : Addr) =>
  .store (Addr.add z2 1) (Value.int IntKind.i64 (IntKind.wrap IntKind.i64 (i1 + (1 : Int)))) <|
  .loop 1 .nil []
    (fun _ => spec_reader_quoted.t1 r)
def spec_reader_quoted.h : Hints := ⟨[], [], [], [(2, [])]⟩
noncomputable def spec_reader_quoted.c : Code := (Tryz.f67.body).getD .skip
theorem spec_reader_quoted.e (r : (Option Addr)) : fnT Tryz.prog spec_reader_quoted.h Tryz.f67 spec_reader_quoted.c [.v (Value.pointer r)] = spec_reader_quoted.t r := by kernel_rfl
theorem spec_reader_quoted.calls (r : (Option Addr)) {w : World} {R : Ending → World → Prop} (hs : sat Tryz.prog (spec_reader_quoted.t r) (fun l vs w' => l = 0 ∧ R (.returned (retVal vs)) w') w) : Calls Tryz.prog 67 #[(Value.pointer r)] w R :=
  have h := calls_of_tree (w := w) (R := R) (args := [.v (Value.pointer r)]) (c := spec_reader_quoted.c) Tryz.func67 (show Tryz.f67.body = some spec_reader_quoted.c by kernel_rfl) (of_decide_eq_true (by kernel_rfl)) (spec_reader_quoted.e r) hs
  h

/-! ### (*pub-tetrapla/spec.reader).number : function 68 -/
def spec_reader_number.t2 (r : (Option Addr)) (b6 : Bool) : T :=
  .ite b6 (
    .leaf 0 [(Value.bool Bool.false)]) (
    .call 85 #[(Value.pointer r), (Value.int IntKind.u8 (101 : Int))] .bool fun (b7 : Bool) =>
    .ite b7 (
      .call 85 #[(Value.pointer r), (Value.int IntKind.u8 (43 : Int))] .bool fun (b8 : Bool) =>
      .ite (!b8) (
        .call 85 #[(Value.pointer r), (Value.int IntKind.u8 (45 : Int))] .bool fun (b9 : Bool) =>
        .call 87 #[(Value.pointer r)] .bool fun (b10 : Bool) =>
        .leaf 0 [(Value.bool b10)]) (
        .call 87 #[(Value.pointer r)] .bool fun (b11 : Bool) =>
        .leaf 0 [(Value.bool b11)])) (
      .call 85 #[(Value.pointer r), (Value.int IntKind.u8 (69 : Int))] .bool fun (b12 : Bool) =>
      .ite b12 (
        .call 85 #[(Value.pointer r), (Value.int IntKind.u8 (43 : Int))] .bool fun (b13 : Bool) =>
        .ite (!b13) (
          .call 85 #[(Value.pointer r), (Value.int IntKind.u8 (45 : Int))] .bool fun (b14 : Bool) =>
          .call 87 #[(Value.pointer r)] .bool fun (b15 : Bool) =>
          .leaf 0 [(Value.bool b15)]) (
          .call 87 #[(Value.pointer r)] .bool fun (b16 : Bool) =>
          .leaf 0 [(Value.bool b16)])) (
        .leaf 0 [(Value.bool Bool.true)])))
def spec_reader_number.t1 (r : (Option Addr)) (b3 : Bool) : T :=
  .ite b3 (
    .leaf 0 [(Value.bool Bool.false)]) (
    .cut 1 (.cons .bool .nil) (
      .call 85 #[(Value.pointer r), (Value.int IntKind.u8 (46 : Int))] .bool fun (b4 : Bool) =>
      .ite b4 (
        .call 87 #[(Value.pointer r)] .bool fun (b5 : Bool) =>
        .leaf 1 [(Value.bool (!b5))]) (
        .leaf 1 [(Value.bool Bool.false)]))
      (fun z => spec_reader_number.t2 r z.1))
def spec_reader_number.t (r : (Option Addr)) : T :=
  .call 85 #[(Value.pointer r), (Value.int IntKind.u8 (45 : Int))] .bool fun (b0 : Bool) =>
  .cut 1 (.cons .bool .nil) (
    .call 85 #[(Value.pointer r), (Value.int IntKind.u8 (48 : Int))] .bool fun (b1 : Bool) =>
    .ite (!b1) (
      .call 87 #[(Value.pointer r)] .bool fun (b2 : Bool) =>
      .leaf 1 [(Value.bool (!b2))]) (
      .leaf 1 [(Value.bool Bool.false)]))
    (fun z => spec_reader_number.t1 r z.1)
def spec_reader_number.h : Hints := ⟨[], [], [(2, [(12, .bool)]), (4, [(19, .bool)])], []⟩
noncomputable def spec_reader_number.c : Code := (Tryz.f68.body).getD .skip
theorem spec_reader_number.e (r : (Option Addr)) : fnT Tryz.prog spec_reader_number.h Tryz.f68 spec_reader_number.c [.v (Value.pointer r)] = spec_reader_number.t r := by kernel_rfl
theorem spec_reader_number.calls (r : (Option Addr)) {w : World} {R : Ending → World → Prop} (hs : sat Tryz.prog (spec_reader_number.t r) (fun l vs w' => l = 0 ∧ R (.returned (retVal vs)) w') w) : Calls Tryz.prog 68 #[(Value.pointer r)] w R :=
  have h := calls_of_tree (w := w) (R := R) (args := [.v (Value.pointer r)]) (c := spec_reader_number.c) Tryz.func68 (show Tryz.f68.body = some spec_reader_number.c by kernel_rfl) (of_decide_eq_true (by kernel_rfl)) (spec_reader_number.e r) hs
  h

/-! ### (*pub-tetrapla/spec.reader).word : function 69 -/
def spec_reader_word.t1 (r : (Option Addr)) (w1 : ByteArray) (b10 : Bool) : T :=
  .ite b10 (
    .leaf 0 [(Value.bool Bool.false)]) (
    .ptr r fun (z11 : Addr) =>
    .load (Addr.add z11 1) (.int .i64) fun (i12 : Int) =>
    .ptr r fun (z13 : Addr) =>
    .store (Addr.add z13 1) (Value.int IntKind.i64 (IntKind.wrap IntKind.i64 (i12 + (((ByteArray.size w1) : Nat) : Int)))) <|
    .leaf 0 [(Value.bool Bool.true)])
def spec_reader_word.t (r : (Option Addr)) (w1 : ByteArray) : T :=
  .cut 1 (.cons .bool .nil) (
    .drew <|
    .ptr r fun (z0 : Addr) =>
    .load (Addr.add z0 0) .str fun (s1 : ByteArray) =>
    .ptr r fun (z2 : Addr) =>
    .load (Addr.add z2 1) (.int .i64) fun (i3 : Int) =>
    .ite (decide ((IntKind.wrap IntKind.i64 ((((ByteArray.size s1) : Nat) : Int) - i3)) < (((ByteArray.size w1) : Nat) : Int))) (
      .leaf 1 [(Value.bool Bool.true)]) (
      .ptr r fun (z4 : Addr) =>
      .load (Addr.add z4 0) .str fun (s5 : ByteArray) =>
      .ptr r fun (z6 : Addr) =>
      .load (Addr.add z6 1) (.int .i64) fun (i7 : Int) =>
      .ptr r fun (z8 : Addr) =>
      .load (Addr.add z8 1) (.int .i64) fun (i9 : Int) =>
      .chk (((0 : Int) ≤ i7) ∧ ((i7 ≤ (IntKind.wrap IntKind.i64 (i9 + (((ByteArray.size w1) : Nat) : Int)))) ∧ ((IntKind.wrap IntKind.i64 (i9 + (((ByteArray.size w1) : Nat) : Int))) ≤ (((ByteArray.size s5) : Nat) : Int)))) <|
      .leaf 1 [(Value.bool (!(strEq (ByteArray.extract s5 (Int.toNat i7) (Int.toNat (IntKind.wrap IntKind.i64 (i9 + (((ByteArray.size w1) : Nat) : Int))))) w1)))]))
    (fun z => spec_reader_word.t1 r w1 z.1)
def spec_reader_word.h : Hints := ⟨[], [], [(1, [(37, .bool)])], []⟩
noncomputable def spec_reader_word.c : Code := (Tryz.f69.body).getD .skip
theorem spec_reader_word.e (r : (Option Addr)) (w1 : ByteArray) : fnT Tryz.prog spec_reader_word.h Tryz.f69 spec_reader_word.c [.v (Value.pointer r), .v (Value.string w1)] = spec_reader_word.t r w1 := by kernel_rfl
theorem spec_reader_word.calls (r : (Option Addr)) (w1 : ByteArray) {w : World} {R : Ending → World → Prop} (hs : sat Tryz.prog (spec_reader_word.t r w1) (fun l vs w' => l = 0 ∧ R (.returned (retVal vs)) w') w) : Calls Tryz.prog 69 #[(Value.pointer r), (Value.string w1)] w R :=
  have h := calls_of_tree (w := w) (R := R) (args := [.v (Value.pointer r), .v (Value.string w1)]) (c := spec_reader_word.c) Tryz.func69 (show Tryz.f69.body = some spec_reader_word.c by kernel_rfl) (of_decide_eq_true (by kernel_rfl)) (spec_reader_word.e r w1) hs
  h

/-! ### (*pub-tetrapla/spec.reader).take : function 85 -/
def spec_reader_take.t (r : (Option Addr)) (c1 : Int) : T :=
  .drew <|
  .ptr r fun (z0 : Addr) =>
  .load (Addr.add z0 1) (.int .i64) fun (i1 : Int) =>
  .ptr r fun (z2 : Addr) =>
  .load (Addr.add z2 0) .str fun (s3 : ByteArray) =>
  .ite (decide (i1 < (((ByteArray.size s3) : Nat) : Int))) (
    .ptr r fun (z4 : Addr) =>
    .load (Addr.add z4 0) .str fun (s5 : ByteArray) =>
    .ptr r fun (z6 : Addr) =>
    .load (Addr.add z6 1) (.int .i64) fun (i7 : Int) =>
    .chk (((0 : Int) ≤ i7) ∧ (i7 < (((ByteArray.size s5) : Nat) : Int))) <|
    .ite ((bt s5 i7) == c1) (
      .ptr r fun (z8 : Addr) =>
      .load (Addr.add z8 1) (.int .i64) fun (i9 : Int) =>
      .ptr r fun (z10 : Addr) =>
      .store (Addr.add z10 1) (Value.int IntKind.i64 (IntKind.wrap IntKind.i64 (i9 + (1 : Int)))) <|
      .leaf 0 [(Value.bool Bool.true)]) (
      .leaf 0 [(Value.bool Bool.false)])) (
    .leaf 0 [(Value.bool Bool.false)])
def spec_reader_take.h : Hints := ⟨[], [], [], []⟩
noncomputable def spec_reader_take.c : Code := (Tryz.f85.body).getD .skip
theorem spec_reader_take.e (r : (Option Addr)) (c1 : Int) : fnT Tryz.prog spec_reader_take.h Tryz.f85 spec_reader_take.c [.v (Value.pointer r), .v (Value.int IntKind.u8 c1)] = spec_reader_take.t r c1 := by kernel_rfl
theorem spec_reader_take.calls (r : (Option Addr)) (c1 : Int) {w : World} {R : Ending → World → Prop} (hs : sat Tryz.prog (spec_reader_take.t r c1) (fun l vs w' => l = 0 ∧ R (.returned (retVal vs)) w') w) : Calls Tryz.prog 85 #[(Value.pointer r), (Value.int IntKind.u8 c1)] w R :=
  have h := calls_of_tree (w := w) (R := R) (args := [.v (Value.pointer r), .v (Value.int IntKind.u8 c1)]) (c := spec_reader_take.c) Tryz.func85 (show Tryz.f85.body = some spec_reader_take.c by kernel_rfl) (of_decide_eq_true (by kernel_rfl)) (spec_reader_take.e r c1) hs
  h

/-! ### (*pub-tetrapla/spec.reader).escape : function 86 -/
def spec_reader_escape.t1 (b1 : Bool) : T :=
  .leaf 6 [(Value.bool b1)]
def spec_reader_escape.t2 (b2 : Bool) : T :=
  .leaf 5 [(Value.bool b2)]
def spec_reader_escape.t3 (b3 : Bool) : T :=
  .leaf 4 [(Value.bool b3)]
def spec_reader_escape.t4 (b4 : Bool) : T :=
  .leaf 3 [(Value.bool b4)]
def spec_reader_escape.t5 (b5 : Bool) : T :=
  .leaf 2 [(Value.bool b5)]
def spec_reader_escape.t6 (b6 : Bool) : T :=
  .leaf 1 [(Value.bool b6)]
def spec_reader_escape.t8 (r : (Option Addr)) (i14 : Int) : T :=
  .ite (decide (i14 < (4 : Int))) (
    .call 64 #[(Value.pointer r)] (.int .u8) fun (i15 : Int) =>
    .call 40 #[(Value.int IntKind.u8 i15)] (.tuple (.cons (.int .i64) (.cons .bool .nil))) fun (z16 : (Int × (Bool × PUnit))) =>
    .ite (!((z16).2).1) (
      .leaf 0 [(Value.bool Bool.false)]) (
      .ptr r fun (z17 : Addr) =>
      .load (Addr.add z17 1) (.int .i64) fun (i18 : Int) =>
      .ptr r fun (z19 : Addr) =>
      .store (Addr.add z19 1) (Value.int IntKind.i64 (IntKind.wrap IntKind.i64 (i18 + (1 : Int)))) <|
      .leaf 2 [(Value.int IntKind.i64 (IntKind.wrap IntKind.i64 (i14 + (1 : Int))))])) (
    .leaf 0 [(Value.bool Bool.true)])
def spec_reader_escape.t9 : T :=
  .leaf 0 [(Value.bool Bool.false)]
def spec_reader_escape.t7 (r : (Option Addr)) (i0 : Int) (b7 : Bool) : T :=
  .cut 1 (.cons .bool .nil) (
    .ite b7 (
      .ptr r fun (z8 : Addr) =>
      .load (Addr.add z8 1) (.int .i64) fun (i9 : Int) =>
      .ptr r fun (z10 : Addr) =>
      .store (Addr.add z10 1) (Value.int IntKind.i64 (IntKind.wrap IntKind.i64 (i9 + (1 : Int)))) <|
      .leaf 0 [(Value.bool Bool.true)]) (
      .ite (i0 == (117 : Int)) (
        .ptr r fun (z11 : Addr) =>
        .load (Addr.add z11 1) (.int .i64) fun (i12 : Int) =>
        .ptr r fun (z13 : Addr) =>
        .store (Addr.add z13 1) (Value.int IntKind.i64 (IntKind.wrap IntKind.i64 (i12 + (1 : Int)))) <|
        .loop 2 (.cons (.int .i64) .nil) [(Value.int IntKind.i64 (0 : Int))]
          (fun z => spec_reader_escape.t8 r z.1)) (
        .leaf 1 [(Value.bool b7)])))
    (fun z => spec_reader_escape.t9)
def spec_reader_escape.t (r : (Option Addr)) : T :=
  .call 64 #[(Value.pointer r)] (.int .u8) fun (i0 : Int) =>
  .cut 1 (.cons .bool .nil) (
    .ite (i0 == (34 : Int)) (
      .leaf 1 [(Value.bool (i0 == (34 : Int)))]) (
      .cut 2 (.cons .bool .nil) (
        .ite (i0 == (92 : Int)) (
          .leaf 2 [(Value.bool (i0 == (92 : Int)))]) (
          .cut 3 (.cons .bool .nil) (
            .ite (i0 == (47 : Int)) (
              .leaf 3 [(Value.bool (i0 == (47 : Int)))]) (
              .cut 4 (.cons .bool .nil) (
                .ite (i0 == (98 : Int)) (
                  .leaf 4 [(Value.bool (i0 == (98 : Int)))]) (
                  .cut 5 (.cons .bool .nil) (
                    .ite (i0 == (102 : Int)) (
                      .leaf 5 [(Value.bool (i0 == (102 : Int)))]) (
                      .cut 6 (.cons .bool .nil) (
                        .ite (i0 == (110 : Int)) (
                          .leaf 6 [(Value.bool (i0 == (110 : Int)))]) (
                          .cut 7 (.cons .bool .nil) (
                            .ite (i0 == (114 : Int)) (
                              .leaf 7 [(Value.bool (i0 == (114 : Int)))]) (
                              .leaf 7 [(Value.bool (i0 == (116 : Int)))]))
                            (fun z => spec_reader_escape.t1 z.1)))
                        (fun z => spec_reader_escape.t2 z.1)))
                    (fun z => spec_reader_escape.t3 z.1)))
                (fun z => spec_reader_escape.t4 z.1)))
            (fun z => spec_reader_escape.t5 z.1)))
        (fun z => spec_reader_escape.t6 z.1)))
    (fun z => spec_reader_escape.t7 r i0 z.1)
def spec_reader_escape.h : Hints := ⟨[(8, [(8, .bool)])], [], [], [(15, [(3, (.int .i64))])]⟩
noncomputable def spec_reader_escape.c : Code := (Tryz.f86.body).getD .skip
theorem spec_reader_escape.e (r : (Option Addr)) : fnT Tryz.prog spec_reader_escape.h Tryz.f86 spec_reader_escape.c [.v (Value.pointer r)] = spec_reader_escape.t r := by kernel_rfl
theorem spec_reader_escape.calls (r : (Option Addr)) {w : World} {R : Ending → World → Prop} (hs : sat Tryz.prog (spec_reader_escape.t r) (fun l vs w' => l = 0 ∧ R (.returned (retVal vs)) w') w) : Calls Tryz.prog 86 #[(Value.pointer r)] w R :=
  have h := calls_of_tree (w := w) (R := R) (args := [.v (Value.pointer r)]) (c := spec_reader_escape.c) Tryz.func86 (show Tryz.f86.body = some spec_reader_escape.c by kernel_rfl) (of_decide_eq_true (by kernel_rfl)) (spec_reader_escape.e r) hs
  h

/-! ### (*pub-tetrapla/spec.reader).digits : function 87 -/
def spec_reader_digits.t1 (r : (Option Addr)) (i1 : Int) (i3 : Int) : T :=
  .ite (decide ((48 : Int) ≤ i3)) (
    .ite (decide (i3 ≤ (57 : Int))) (
      .ptr r fun (z4 : Addr) =>
      .load (Addr.add z4 1) (.int .i64) fun (i5 : Int) =>
      .ptr r fun (z6 : Addr) =>
      .store (Addr.add z6 1) (Value.int IntKind.i64 (IntKind.wrap IntKind.i64 (i5 + (1 : Int)))) <|
      .call 64 #[(Value.pointer r)] (.int .u8) fun (i7 : Int) =>
      .leaf 1 [(Value.int IntKind.u8 i7)]) (
      .ptr r fun (z8 : Addr) =>
      .load (Addr.add z8 1) (.int .i64) fun (i9 : Int) =>
      .leaf 0 [(Value.bool (decide (i9 > i1)))])) (
    .ptr r fun (z10 : Addr) =>
    .load (Addr.add z10 1) (.int .i64) fun (i11 : Int) =>
    .leaf 0 [(Value.bool (decide (i11 > i1)))])
def spec_reader_digits.t (r : (Option Addr)) : T :=
  .ptr r fun (z0 : Addr) =>
  .load (Addr.add z0 1) (.int .i64) fun (i1 : Int) =>
  .call 64 #[(Value.pointer r)] (.int .u8) fun (i2 : Int) =>
  .loop 1 (.cons (.int .u8) .nil) [(Value.int IntKind.u8 i2)]
    (fun z => spec_reader_digits.t1 r i1 z.1)
def spec_reader_digits.h : Hints := ⟨[], [], [], [(3, [(4, (.int .u8))])]⟩
noncomputable def spec_reader_digits.c : Code := (Tryz.f87.body).getD .skip
theorem spec_reader_digits.e (r : (Option Addr)) : fnT Tryz.prog spec_reader_digits.h Tryz.f87 spec_reader_digits.c [.v (Value.pointer r)] = spec_reader_digits.t r := by kernel_rfl
theorem spec_reader_digits.calls (r : (Option Addr)) {w : World} {R : Ending → World → Prop} (hs : sat Tryz.prog (spec_reader_digits.t r) (fun l vs w' => l = 0 ∧ R (.returned (retVal vs)) w') w) : Calls Tryz.prog 87 #[(Value.pointer r)] w R :=
  have h := calls_of_tree (w := w) (R := R) (args := [.v (Value.pointer r)]) (c := spec_reader_digits.c) Tryz.func87 (show Tryz.f87.body = some spec_reader_digits.c by kernel_rfl) (of_decide_eq_true (by kernel_rfl)) (spec_reader_digits.e r) hs
  h

/-! ### errors.New : function 38 -/
def errors_New.t (text : ByteArray) : T :=
  .alloc (Obj.cells #[(Value.string text)] 101 (0, 0)) fun (z0 : Addr) =>
  .leaf 0 [(Value.iface 99 (Value.pointer (some z0)))]
def errors_New.h : Hints := ⟨[], [], [], []⟩
noncomputable def errors_New.c : Code := (Tryz.f38.body).getD .skip
theorem errors_New.e (text : ByteArray) : fnT Tryz.prog errors_New.h Tryz.f38 errors_New.c [.v (Value.string text)] = errors_New.t text := by kernel_rfl
theorem errors_New.calls (text : ByteArray) {w : World} {R : Ending → World → Prop} (hs : sat Tryz.prog (errors_New.t text) (fun l vs w' => l = 0 ∧ R (.returned (retVal vs)) w') w) : Calls Tryz.prog 38 #[(Value.string text)] w R :=
  have h := calls_of_tree (w := w) (R := R) (args := [.v (Value.string text)]) (c := errors_New.c) Tryz.func38 (show Tryz.f38.body = some errors_New.c by kernel_rfl) (of_decide_eq_true (by kernel_rfl)) (errors_New.e text) hs
  h

end Go.Proofs.YtkpnomdmnhhaoaaGreatDoor.Tr
