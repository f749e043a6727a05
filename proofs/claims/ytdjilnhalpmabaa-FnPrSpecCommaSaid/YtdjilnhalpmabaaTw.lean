/- Trees of loaded functions, printed by wip/tools/rxprint (a program of this repo): each is what 'exec' comes to, held by the kernel. No statement of the set is proved here. -/
import Derived.Test.YtdjilnhalpmabaaRz
import Derived.Test.YtdjilnhalpmabaaProg
import Derived.KernelRfl
namespace Go.Proofs.Ytdjilnhalpmabaa.Tr
open Go Go.Proofs Go.Proofs.Ytdjilnhalpmabaa.Rx
set_option linter.unusedVariables false
set_option maxRecDepth 100000
/-! ### pub-tetrapla/laws.FnFjCheckNumber : function 8 -/
def laws_FnFjCheckNumber.t2 (s : ByteArray) (z2 : Addr) (b4 : Bool) : T :=
  .call 20 #[(Value.string s)] (.tuple (.cons .str (.cons .bool .nil))) fun (z5 : (ByteArray × (Bool × PUnit))) =>
  .call 20 #[(Value.string (ByteArray.mk #[(49 : UInt8)]))] (.tuple (.cons .str (.cons .bool .nil))) fun (z6 : (ByteArray × (Bool × PUnit))) =>
  .ite ((z6).2).1 (
    .ite (((z5).2).1 == b4) (
      .ite (!b4) (
        .leaf 0 [(Value.bool Bool.true)]) (
        .load (Addr.add z2 2) (.int .i64) fun (i7 : Int) =>
        .chk (((0 : Int) ≤ i7) ∧ ((i7 ≤ (((ByteArray.size s) : Nat) : Int)) ∧ ((((ByteArray.size s) : Nat) : Int) ≤ (((ByteArray.size s) : Nat) : Int)))) <|
        .leaf 0 [(Value.bool (strEq (z5).1 (ByteArray.extract s (Int.toNat i7) (Int.toNat (((ByteArray.size s) : Nat) : Int)))))])) (
      .leaf 0 [(Value.bool Bool.false)])) (
    .leaf 0 [(Value.bool Bool.false)])
def laws_FnFjCheckNumber.t1 (s : ByteArray) (b0 : Bool) : T :=
  .ite b0 (
    .leaf 0 [(Value.bool Bool.true)]) (
    .call 19 #[(Value.string s)] (.tuple (.cons (.agg (.cons (.int .i64) (.cons (.int .i64) (.cons (.int .i64) (.cons .slice (.cons .slice .nil)))))) (.cons .bool .nil))) fun (z1 : ((Int × (Int × (Int × (((Option Addr) × (Nat × Nat)) × (((Option Addr) × (Nat × Nat)) × PUnit))))) × (Bool × PUnit))) =>
    .alloc (Obj.cells #[(Value.int IntKind.i64 (0 : Int)), (Value.int IntKind.i64 (0 : Int)), (Value.int IntKind.i64 (0 : Int)), (Value.slice none 0 0), (Value.slice none 0 0)] 35 (0, 0)) fun (z2 : Addr) =>
    .effU (Instr.storeAt 35 (Value.pointer (some z2)) (Value.agg #[(Value.int IntKind.i64 ((z1).1).1), (Value.int IntKind.i64 (((z1).1).2).1), (Value.int IntKind.i64 ((((z1).1).2).2).1), (Value.slice ((((((z1).1).2).2).2).1).1 (((((((z1).1).2).2).2).1).2).1 (((((((z1).1).2).2).2).1).2).2), (Value.slice (((((((z1).1).2).2).2).2).1).1 ((((((((z1).1).2).2).2).2).1).2).1 ((((((((z1).1).2).2).2).2).1).2).2)])) <|
    .cut 1 (.cons .bool .nil) (
      .ite ((z1).2).1 (
        .load (Addr.add z2 0) (.int .i64) fun (i3 : Int) =>
        .leaf 1 [(Value.bool (i3 == (3 : Int)))]) (
        .leaf 1 [(Value.bool Bool.false)]))
      (fun z => laws_FnFjCheckNumber.t2 s z2 z.1))
def laws_FnFjCheckNumber.t (s : ByteArray) : T :=
  .ite (decide ((((ByteArray.size s) : Nat) : Int) > (2147483647 : Int))) (
    .leaf 0 [(Value.bool Bool.true)]) (
    .cut 1 (.cons .bool .nil) (
      .ite (strEq s (ByteArray.mk #[])) (
        .leaf 1 [(Value.bool Bool.true)]) (
        .leaf 1 [(Value.bool (decide ((((ByteArray.size s) : Nat) : Int) > (4000 : Int))))]))
      (fun z => laws_FnFjCheckNumber.t1 s z.1))
def laws_FnFjCheckNumber.h : Hints := ⟨[], [], [(3, [(18, .bool)]), (6, [(4, .bool)])], []⟩
noncomputable def laws_FnFjCheckNumber.c : Code := (Try.f8.body).getD .skip
theorem laws_FnFjCheckNumber.e (s : ByteArray) : fnT Try.prog laws_FnFjCheckNumber.h Try.f8 laws_FnFjCheckNumber.c [.v (Value.string s)] = laws_FnFjCheckNumber.t s := by kernel_rfl
theorem laws_FnFjCheckNumber.calls (s : ByteArray) {w : World} {R : Ending → World → Prop} (hs : sat Try.prog (laws_FnFjCheckNumber.t s) (fun l vs w' => l = 0 ∧ R (.returned (retVal vs)) w') w) : Calls Try.prog 8 #[(Value.string s)] w R :=
  have h := calls_of_tree (w := w) (R := R) (args := [.v (Value.string s)]) (c := laws_FnFjCheckNumber.c) Try.func8 (show Try.f8.body = some laws_FnFjCheckNumber.c by kernel_rfl) (of_decide_eq_true (by kernel_rfl)) (laws_FnFjCheckNumber.e s) hs
  h

/-! ### pub-tetrapla/laws.prPlaces : function 15 -/
def laws_prPlaces.t (text : ByteArray) : T :=
  .alloc (Obj.cells #[(Value.int IntKind.i64 (0 : Int)), (Value.int IntKind.i64 (0 : Int)), (Value.int IntKind.i64 (0 : Int)), (Value.slice none 0 0), (Value.slice none 0 0)] 35 (0, 0)) fun (z0 : Addr) =>
  .ite (decide ((((ByteArray.size text) : Nat) : Int) > (4096 : Int))) (
    .effU (Instr.storeAt 35 (Value.pointer (some z0)) (Value.agg #[(Value.int IntKind.i64 (0 : Int)), (Value.int IntKind.i64 (0 : Int)), (Value.int IntKind.i64 (0 : Int)), (Value.slice none 0 0), (Value.slice none 0 0)])) <|
    .effS (Instr.loadAt 35 (Value.pointer (some z0))) (.agg (.cons (.int .i64) (.cons (.int .i64) (.cons (.int .i64) (.cons .slice (.cons .slice .nil)))))) fun (z1 : (Int × (Int × (Int × (((Option Addr) × (Nat × Nat)) × (((Option Addr) × (Nat × Nat)) × PUnit)))))) =>
    .leaf 0 [(Value.agg #[(Value.int IntKind.i64 (z1).1), (Value.int IntKind.i64 ((z1).2).1), (Value.int IntKind.i64 (((z1).2).2).1), (Value.slice (((((z1).2).2).2).1).1 ((((((z1).2).2).2).1).2).1 ((((((z1).2).2).2).1).2).2), (Value.slice ((((((z1).2).2).2).2).1).1 (((((((z1).2).2).2).2).1).2).1 (((((((z1).2).2).2).2).1).2).2)]), (Value.bool Bool.false)]) (
    .call 26 #[(Value.string text)] (.tuple (.cons (.agg (.cons (.int .i64) (.cons (.int .i64) (.cons (.int .i64) (.cons .slice (.cons .slice .nil)))))) (.cons .bool .nil))) fun (z2 : ((Int × (Int × (Int × (((Option Addr) × (Nat × Nat)) × (((Option Addr) × (Nat × Nat)) × PUnit))))) × (Bool × PUnit))) =>
    .effU (Instr.storeAt 35 (Value.pointer (some z0)) (Value.agg #[(Value.int IntKind.i64 ((z2).1).1), (Value.int IntKind.i64 (((z2).1).2).1), (Value.int IntKind.i64 ((((z2).1).2).2).1), (Value.slice ((((((z2).1).2).2).2).1).1 (((((((z2).1).2).2).2).1).2).1 (((((((z2).1).2).2).2).1).2).2), (Value.slice (((((((z2).1).2).2).2).2).1).1 ((((((((z2).1).2).2).2).2).1).2).1 ((((((((z2).1).2).2).2).2).1).2).2)])) <|
    .effS (Instr.loadAt 35 (Value.pointer (some z0))) (.agg (.cons (.int .i64) (.cons (.int .i64) (.cons (.int .i64) (.cons .slice (.cons .slice .nil)))))) fun (z3 : (Int × (Int × (Int × (((Option Addr) × (Nat × Nat)) × (((Option Addr) × (Nat × Nat)) × PUnit)))))) =>
    .leaf 0 [(Value.agg #[(Value.int IntKind.i64 (z3).1), (Value.int IntKind.i64 ((z3).2).1), (Value.int IntKind.i64 (((z3).2).2).1), (Value.slice (((((z3).2).2).2).1).1 ((((((z3).2).2).2).1).2).1 ((((((z3).2).2).2).1).2).2), (Value.slice ((((((z3).2).2).2).2).1).1 (((((((z3).2).2).2).2).1).2).1 (((((((z3).2).2).2).2).1).2).2)]), (Value.bool ((z2).2).1)])
def laws_prPlaces.h : Hints := ⟨[], [], [], []⟩
noncomputable def laws_prPlaces.c : Code := (Try.f15.body).getD .skip
theorem laws_prPlaces.e (text : ByteArray) : fnT Try.prog laws_prPlaces.h Try.f15 laws_prPlaces.c [.v (Value.string text)] = laws_prPlaces.t text := by kernel_rfl
theorem laws_prPlaces.calls (text : ByteArray) {w : World} {R : Ending → World → Prop} (hs : sat Try.prog (laws_prPlaces.t text) (fun l vs w' => l = 0 ∧ R (.returned (retVal vs)) w') w) : Calls Try.prog 15 #[(Value.string text)] w R :=
  have h := calls_of_tree (w := w) (R := R) (args := [.v (Value.string text)]) (c := laws_prPlaces.c) Try.func15 (show Try.f15.body = some laws_prPlaces.c by kernel_rfl) (of_decide_eq_true (by kernel_rfl)) (laws_prPlaces.e text) hs
  h

/-! ### pub-tetrapla/spec.Begins : function 19 -/
def spec_Begins.t (q0 : ByteArray) : T :=
  .alloc (Obj.cells #[(Value.int IntKind.i64 (0 : Int)), (Value.int IntKind.i64 (0 : Int)), (Value.int IntKind.i64 (0 : Int)), (Value.slice none 0 0), (Value.slice none 0 0)] 35 (0, 0)) fun (z0 : Addr) =>
  .alloc (Obj.cells #[(Value.string (ByteArray.mk #[])), (Value.int IntKind.i64 (0 : Int))] 58 (0, 0)) fun (z1 : Addr) =>
  .effU (Instr.storeAt 58 (Value.pointer (some z1)) (Value.agg #[(Value.string q0), (Value.int IntKind.i64 (0 : Int))])) <|
  .call 30 #[(Value.pointer (some z1))] (.tuple (.cons (.agg (.cons (.int .i64) (.cons (.int .i64) (.cons (.int .i64) (.cons .slice (.cons .slice .nil)))))) (.cons .bool .nil))) fun (z2 : ((Int × (Int × (Int × (((Option Addr) × (Nat × Nat)) × (((Option Addr) × (Nat × Nat)) × PUnit))))) × (Bool × PUnit))) =>
  .alloc (Obj.cells #[(Value.int IntKind.i64 (0 : Int)), (Value.int IntKind.i64 (0 : Int)), (Value.int IntKind.i64 (0 : Int)), (Value.slice none 0 0), (Value.slice none 0 0)] 35 (0, 0)) fun (z3 : Addr) =>
  .effU (Instr.storeAt 35 (Value.pointer (some z3)) (Value.agg #[(Value.int IntKind.i64 ((z2).1).1), (Value.int IntKind.i64 (((z2).1).2).1), (Value.int IntKind.i64 ((((z2).1).2).2).1), (Value.slice ((((((z2).1).2).2).2).1).1 (((((((z2).1).2).2).2).1).2).1 (((((((z2).1).2).2).2).1).2).2), (Value.slice (((((((z2).1).2).2).2).2).1).1 ((((((((z2).1).2).2).2).2).1).2).1 ((((((((z2).1).2).2).2).2).1).2).2)])) <|
  .ite (!((z2).2).1) (
    .effU (Instr.storeAt 35 (Value.pointer (some z0)) (Value.agg #[(Value.int IntKind.i64 (0 : Int)), (Value.int IntKind.i64 (0 : Int)), (Value.int IntKind.i64 (0 : Int)), (Value.slice none 0 0), (Value.slice none 0 0)])) <|
    .effS (Instr.loadAt 35 (Value.pointer (some z0))) (.agg (.cons (.int .i64) (.cons (.int .i64) (.cons (.int .i64) (.cons .slice (.cons .slice .nil)))))) fun (z4 : (Int × (Int × (Int × (((Option Addr) × (Nat × Nat)) × (((Option Addr) × (Nat × Nat)) × PUnit)))))) =>
    .leaf 0 [(Value.agg #[(Value.int IntKind.i64 (z4).1), (Value.int IntKind.i64 ((z4).2).1), (Value.int IntKind.i64 (((z4).2).2).1), (Value.slice (((((z4).2).2).2).1).1 ((((((z4).2).2).2).1).2).1 ((((((z4).2).2).2).1).2).2), (Value.slice ((((((z4).2).2).2).2).1).1 (((((((z4).2).2).2).2).1).2).1 (((((((z4).2).2).2).2).1).2).2)]), (Value.bool Bool.false)]) (
    .load (Addr.add z3 0) (.int .i64) fun (i5 : Int) =>
    .ite (i5 == (3 : Int)) (
      .load (Addr.add z3 2) (.int .i64) fun (i6 : Int) =>
      .chk (((0 : Int) ≤ (IntKind.wrap IntKind.i64 (i6 - (1 : Int)))) ∧ ((IntKind.wrap IntKind.i64 (i6 - (1 : Int))) < (((ByteArray.size q0) : Nat) : Int))) <|
      .ite ((bt q0 (IntKind.wrap IntKind.i64 (i6 - (1 : Int)))) == (48 : Int)) (
        .load (Addr.add z3 2) (.int .i64) fun (i7 : Int) =>
        .ite (i7 == (1 : Int)) (
          .load (Addr.add z3 2) (.int .i64) fun (i8 : Int) =>
          .ite (decide (i8 < (((ByteArray.size q0) : Nat) : Int))) (
            .load (Addr.add z3 2) (.int .i64) fun (i9 : Int) =>
            .chk (((0 : Int) ≤ i9) ∧ (i9 < (((ByteArray.size q0) : Nat) : Int))) <|
            .ite (decide ((48 : Int) ≤ (bt q0 i9))) (
              .load (Addr.add z3 2) (.int .i64) fun (i10 : Int) =>
              .chk (((0 : Int) ≤ i10) ∧ (i10 < (((ByteArray.size q0) : Nat) : Int))) <|
              .ite (decide ((bt q0 i10) ≤ (57 : Int))) (
                .effU (Instr.storeAt 35 (Value.pointer (some z0)) (Value.agg #[(Value.int IntKind.i64 (0 : Int)), (Value.int IntKind.i64 (0 : Int)), (Value.int IntKind.i64 (0 : Int)), (Value.slice none 0 0), (Value.slice none 0 0)])) <|
                .effS (Instr.loadAt 35 (Value.pointer (some z0))) (.agg (.cons (.int .i64) (.cons (.int .i64) (.cons (.int .i64) (.cons .slice (.cons .slice .nil)))))) fun (z11 : (Int × (Int × (Int × (((Option Addr) × (Nat × Nat)) × (((Option Addr) × (Nat × Nat)) × PUnit)))))) =>
                .leaf 0 [(Value.agg #[(Value.int IntKind.i64 (z11).1), (Value.int IntKind.i64 ((z11).2).1), (Value.int IntKind.i64 (((z11).2).2).1), (Value.slice (((((z11).2).2).2).1).1 ((((((z11).2).2).2).1).2).1 ((((((z11).2).2).2).1).2).2), (Value.slice ((((((z11).2).2).2).2).1).1 (((((((z11).2).2).2).2).1).2).1 (((((((z11).2).2).2).2).1).2).2)]), (Value.bool Bool.false)]) (
                .eff (Instr.loadAt 35 (Value.pointer (some z3))) (.agg (.cons (.int .i64) (.cons (.int .i64) (.cons (.int .i64) (.cons .slice (.cons .slice .nil)))))) fun (z12 : (Int × (Int × (Int × (((Option Addr) × (Nat × Nat)) × (((Option Addr) × (Nat × Nat)) × PUnit)))))) =>
                .effU (Instr.storeAt 35 (Value.pointer (some z0)) (Value.agg #[(Value.int IntKind.i64 (z12).1), (Value.int IntKind.i64 ((z12).2).1), (Value.int IntKind.i64 (((z12).2).2).1), (Value.slice (((((z12).2).2).2).1).1 ((((((z12).2).2).2).1).2).1 ((((((z12).2).2).2).1).2).2), (Value.slice ((((((z12).2).2).2).2).1).1 (((((((z12).2).2).2).2).1).2).1 (((((((z12).2).2).2).2).1).2).2)])) <|
                .effS (Instr.loadAt 35 (Value.pointer (some z0))) (.agg (.cons (.int .i64) (.cons (.int .i64) (.cons (.int .i64) (.cons .slice (.cons .slice .nil)))))) fun (z13 : (Int × (Int × (Int × (((Option Addr) × (Nat × Nat)) × (((Option Addr) × (Nat × Nat)) × PUnit)))))) =>
                .leaf 0 [(Value.agg #[(Value.int IntKind.i64 (z13).1), (Value.int IntKind.i64 ((z13).2).1), (Value.int IntKind.i64 (((z13).2).2).1), (Value.slice (((((z13).2).2).2).1).1 ((((((z13).2).2).2).1).2).1 ((((((z13).2).2).2).1).2).2), (Value.slice ((((((z13).2).2).2).2).1).1 (((((((z13).2).2).2).2).1).2).1 (((((((z13).2).2).2).2).1).2).2)]), (Value.bool Bool.true)])) (
              .eff (Instr.loadAt 35 (Value.pointer (some z3))) (.agg (.cons (.int .i64) (.cons (.int .i64) (.cons (.int .i64) (.cons .slice (.cons .slice .nil)))))) fun (z14 : (Int × (Int × (Int × (((Option Addr) × (Nat × Nat)) × (((Option Addr) × (Nat × Nat)) × PUnit)))))) =>
              .effU (Instr.storeAt 35 (Value.pointer (some z0)) (Value.agg #[(Value.int IntKind.i64 (z14).1), (Value.int IntKind.i64 ((z14).2).1), (Value.int IntKind.i64 (((z14).2).2).1), (Value.slice (((((z14).2).2).2).1).1 ((((((z14).2).2).2).1).2).1 ((((((z14).2).2).2).1).2).2), (Value.slice ((((((z14).2).2).2).2).1).1 (((((((z14).2).2).2).2).1).2).1 (((((((z14).2).2).2).2).1).2).2)])) <|
              .effS (Instr.loadAt 35 (Value.pointer (some z0))) (.agg (.cons (.int .i64) (.cons (.int .i64) (.cons (.int .i64) (.cons .slice (.cons .slice .nil)))))) fun (z15 : (Int × (Int × (Int × (((Option Addr) × (Nat × Nat)) × (((Option Addr) × (Nat × Nat)) × PUnit)))))) =>
              .leaf 0 [(Value.agg #[(Value.int IntKind.i64 (z15).1), (Value.int IntKind.i64 ((z15).2).1), (Value.int IntKind.i64 (((z15).2).2).1), (Value.slice (((((z15).2).2).2).1).1 ((((((z15).2).2).2).1).2).1 ((((((z15).2).2).2).1).2).2), (Value.slice ((((((z15).2).2).2).2).1).1 (((((((z15).2).2).2).2).1).2).1 (((((((z15).2).2).2).2).1).2).2)]), (Value.bool Bool.true)])) (
            .eff (Instr.loadAt 35 (Value.pointer (some z3))) (.agg (.cons (.int .i64) (.cons (.int .i64) (.cons (.int .i64) (.cons .slice (.cons .slice .nil)))))) fun (z16 : (Int × (Int × (Int × (((Option Addr) × (Nat × Nat)) × (((Option Addr) × (Nat × Nat)) × PUnit)))))) =>
            .effU (Instr.storeAt 35 (Value.pointer (some z0)) (Value.agg #[(Value.int IntKind.i64 (z16).1), (Value.int IntKind.i64 ((z16).2).1), (Value.int IntKind.i64 (((z16).2).2).1), (Value.slice (((((z16).2).2).2).1).1 ((((((z16).2).2).2).1).2).1 ((((((z16).2).2).2).1).2).2), (Value.slice ((((((z16).2).2).2).2).1).1 (((((((z16).2).2).2).2).1).2).1 (((((((z16).2).2).2).2).1).2).2)])) <|
            .effS (Instr.loadAt 35 (Value.pointer (some z0))) (.agg (.cons (.int .i64) (.cons (.int .i64) (.cons (.int .i64) (.cons .slice (.cons .slice .nil)))))) fun (z17 : (Int × (Int × (Int × (((Option Addr) × (Nat × Nat)) × (((Option Addr) × (Nat × Nat)) × PUnit)))))) =>
            .leaf 0 [(Value.agg #[(Value.int IntKind.i64 (z17).1), (Value.int IntKind.i64 ((z17).2).1), (Value.int IntKind.i64 (((z17).2).2).1), (Value.slice (((((z17).2).2).2).1).1 ((((((z17).2).2).2).1).2).1 ((((((z17).2).2).2).1).2).2), (Value.slice ((((((z17).2).2).2).2).1).1 (((((((z17).2).2).2).2).1).2).1 (((((((z17).2).2).2).2).1).2).2)]), (Value.bool Bool.true)])) (
          .load (Addr.add z3 2) (.int .i64) fun (i18 : Int) =>
          .ite (i18 == (2 : Int)) (
            .chk (((0 : Int) ≤ (0 : Int)) ∧ ((0 : Int) < (((ByteArray.size q0) : Nat) : Int))) <|
            .ite ((bt q0 (0 : Int)) == (45 : Int)) (
              .load (Addr.add z3 2) (.int .i64) fun (i19 : Int) =>
              .ite (decide (i19 < (((ByteArray.size q0) : Nat) : Int))) (
                .load (Addr.add z3 2) (.int .i64) fun (i20 : Int) =>
                .chk (((0 : Int) ≤ i20) ∧ (i20 < (((ByteArray.size q0) : Nat) : Int))) <|
                .ite (decide ((48 : Int) ≤ (bt q0 i20))) (
                  .load (Addr.add z3 2) (.int .i64) fun (i21 : Int) =>
                  .chk (((0 : Int) ≤ i21) ∧ (i21 < (((ByteArray.size q0) : Nat) : Int))) <|
                  .ite (decide ((bt q0 i21) ≤ (57 : Int))) (
                    .effU (Instr.storeAt 35 (Value.pointer (some z0)) (Value.agg #[(Value.int IntKind.i64 (0 : Int)), (Value.int IntKind.i64 (0 : Int)), (Value.int IntKind.i64 (0 : Int)), (Value.slice none 0 0), (Value.slice none 0 0)])) <|
                    .effS (Instr.loadAt 35 (Value.pointer (some z0))) (.agg (.cons (.int .i64) (.cons (.int .i64) (.cons (.int .i64) (.cons .slice (.cons .slice .nil)))))) fun (z22 : (Int × (Int × (Int × (((Option Addr) × (Nat × Nat)) × (((Option Addr) × (Nat × Nat)) × PUnit)))))) =>
                    .leaf 0 [(Value.agg #[(Value.int IntKind.i64 (z22).1), (Value.int IntKind.i64 ((z22).2).1), (Value.int IntKind.i64 (((z22).2).2).1), (Value.slice (((((z22).2).2).2).1).1 ((((((z22).2).2).2).1).2).1 ((((((z22).2).2).2).1).2).2), (Value.slice ((((((z22).2).2).2).2).1).1 (((((((z22).2).2).2).2).1).2).1 (((((((z22).2).2).2).2).1).2).2)]), (Value.bool Bool.false)]) (
                    .eff (Instr.loadAt 35 (Value.pointer (some z3))) (.agg (.cons (.int .i64) (.cons (.int .i64) (.cons (.int .i64) (.cons .slice (.cons .slice .nil)))))) fun (z23 : (Int × (Int × (Int × (((Option Addr) × (Nat × Nat)) × (((Option Addr) × (Nat × Nat)) × PUnit)))))) =>
                    .effU (Instr.storeAt 35 (Value.pointer (some z0)) (Value.agg #[(Value.int IntKind.i64 (z23).1), (Value.int IntKind.i64 ((z23).2).1), (Value.int IntKind.i64 (((z23).2).2).1), (Value.slice (((((z23).2).2).2).1).1 ((((((z23).2).2).2).1).2).1 ((((((z23).2).2).2).1).2).2), (Value.slice ((((((z23).2).2).2).2).1).1 (((((((z23).2).2).2).2).1).2).1 (((((((z23).2).2).2).2).1).2).2)])) <|
                    .effS (Instr.loadAt 35 (Value.pointer (some z0))) (.agg (.cons (.int .i64) (.cons (.int .i64) (.cons (.int .i64) (.cons .slice (.cons .slice .nil)))))) fun (z24 : (Int × (Int × (Int × (((Option Addr) × (Nat × Nat)) × (((Option Addr) × (Nat × Nat)) × PUnit)))))) =>
                    .leaf 0 [(Value.agg #[(Value.int IntKind.i64 (z24).1), (Value.int IntKind.i64 ((z24).2).1), (Value.int IntKind.i64 (((z24).2).2).1), (Value.slice (((((z24).2).2).2).1).1 ((((((z24).2).2).2).1).2).1 ((((((z24).2).2).2).1).2).2), (Value.slice ((((((z24).2).2).2).2).1).1 (((((((z24).2).2).2).2).1).2).1 (((((((z24).2).2).2).2).1).2).2)]), (Value.bool Bool.true)])) (
                  .eff (Instr.loadAt 35 (Value.pointer (some z3))) (.agg (.cons (.int .i64) (.cons (.int .i64) (.cons (.int .i64) (.cons .slice (.cons .slice .nil)))))) fun (z25 : (Int × (Int × (Int × (((Option Addr) × (Nat × Nat)) × (((Option Addr) × (Nat × Nat)) × PUnit)))))) =>
                  .effU (Instr.storeAt 35 (Value.pointer (some z0)) (Value.agg #[(Value.int IntKind.i64 (z25).1), (Value.int IntKind.i64 ((z25).2).1), (Value.int IntKind.i64 (((z25).2).2).1), (Value.slice (((((z25).2).2).2).1).1 ((((((z25).2).2).2).1).2).1 ((((((z25).2).2).2).1).2).2), (Value.slice ((((((z25).2).2).2).2).1).1 (((((((z25).2).2).2).2).1).2).1 (((((((z25).2).2).2).2).1).2).2)])) <|
                  .effS (Instr.loadAt 35 (Value.pointer (some z0))) (.agg (.cons (.int .i64) (.cons (.int .i64) (.cons (.int .i64) (.cons .slice (.cons .slice .nil)))))) fun (z26 : (Int × (Int × (Int × (((Option Addr) × (Nat × Nat)) × (((Option Addr) × (Nat × Nat)) × PUnit)))))) =>
                  .leaf 0 [(Value.agg #[(Value.int IntKind.i64 (z26).1), (Value.int IntKind.i64 ((z26).2).1), (Value.int IntKind.i64 (((z26).2).2).1), (Value.slice (((((z26).2).2).2).1).1 ((((((z26).2).2).2).1).2).1 ((((((z26).2).2).2).1).2).2), (Value.slice ((((((z26).2).2).2).2).1).1 (((((((z26).2).2).2).2).1).2).1 (((((((z26).2).2).2).2).1).2).2)]), (Value.bool Bool.true)])) (
                .eff (Instr.loadAt 35 (Value.pointer (some z3))) (.agg (.cons (.int .i64) (.cons (.int .i64) (.cons (.int .i64) (.cons .slice (.cons .slice .nil)))))) fun (z27 : (Int × (Int × (Int × (((Option Addr) × (Nat × Nat)) × (((Option Addr) × (Nat × Nat)) × PUnit)))))) =>
                .effU (Instr.storeAt 35 (Value.pointer (some z0)) (Value.agg #[(Value.int IntKind.i64 (z27).1), (Value.int IntKind.i64 ((z27).2).1), (Value.int IntKind.i64 (((z27).2).2).1), (Value.slice (((((z27).2).2).2).1).1 ((((((z27).2).2).2).1).2).1 ((((((z27).2).2).2).1).2).2), (Value.slice ((((((z27).2).2).2).2).1).1 (((((((z27).2).2).2).2).1).2).1 (((((((z27).2).2).2).2).1).2).2)])) <|
                .effS (Instr.loadAt 35 (Value.pointer (some z0))) (.agg (.cons (.int .i64) (.cons (.int .i64) (.cons (.int .i64) (.cons .slice (.cons .slice .nil)))))) fun (z28 : (Int × (Int × (Int × (((Option Addr) × (Nat × Nat)) × (((Option Addr) × (Nat × Nat)) × PUnit)))))) =>
                .leaf 0 [(Value.agg #[(Value.int IntKind.i64 (z28).1), (Value.int IntKind.i64 ((z28).2).1), (Value.int IntKind.i64 (((z28).2).2).1), (Value.slice (((((z28).2).2).2).1).1 ((((((z28).2).2).2).1).2).1 ((((((z28).2).2).2).1).2).2), (Value.slice ((((((z28).2).2).2).2).1).1 (((((((z28).2).2).2).2).1).2).1 (((((((z28).2).2).2).2).1).2).2)]), (Value.bool Bool.true)])) (
              .eff (Instr.loadAt 35 (Value.pointer (some z3))) (.agg (.cons (.int .i64) (.cons (.int .i64) (.cons (.int .i64) (.cons .slice (.cons .slice .nil)))))) fun (z29 : (Int × (Int × (Int × (((Option Addr) × (Nat × Nat)) × (((Option Addr) × (Nat × Nat)) × PUnit)))))) =>
              .effU (Instr.storeAt 35 (Value.pointer (some z0)) (Value.agg #[(Value.int IntKind.i64 (z29).1), (Value.int IntKind.i64 ((z29).2).1), (Value.int IntKind.i64 (((z29).2).2).1), (Value.slice (((((z29).2).2).2).1).1 ((((((z29).2).2).2).1).2).1 ((((((z29).2).2).2).1).2).2), (Value.slice ((((((z29).2).2).2).2).1).1 (((((((z29).2).2).2).2).1).2).1 (((((((z29).2).2).2).2).1).2).2)])) <|
              .effS (Instr.loadAt 35 (Value.pointer (some z0))) (.agg (.cons (.int .i64) (.cons (.int .i64) (.cons (.int .i64) (.cons .slice (.cons .slice .nil)))))) fun (z30 : (Int × (Int × (Int × (((Option Addr) × (Nat × Nat)) × (((Option Addr) × (Nat × Nat)) × PUnit)))))) =>
              .leaf 0 [(Value.agg #[(Value.int IntKind.i64 (z30).1), (Value.int IntKind.i64 ((z30).2).1), (Value.int IntKind.i64 (((z30).2).2).1), (Value.slice (((((z30).2).2).2).1).1 ((((((z30).2).2).2).1).2).1 ((((((z30).2).2).2).1).2).2), (Value.slice ((((((z30).2).2).2).2).1).1 (((((((z30).2).2).2).2).1).2).1 (((((((z30).2).2).2).2).1).2).2)]), (Value.bool Bool.true)])) (
            .eff (Instr.loadAt 35 (Value.pointer (some z3))) (.agg (.cons (.int .i64) (.cons (.int .i64) (.cons (.int .i64) (.cons .slice (.cons .slice .nil)))))) fun (z31 : (Int × (Int × (Int × (((Option Addr) × (Nat × Nat)) × (((Option Addr) × (Nat × Nat)) × PUnit)))))) =>
            .effU (Instr.storeAt 35 (Value.pointer (some z0)) (Value.agg #[(Value.int IntKind.i64 (z31).1), (Value.int IntKind.i64 ((z31).2).1), (Value.int IntKind.i64 (((z31).2).2).1), (Value.slice (((((z31).2).2).2).1).1 ((((((z31).2).2).2).1).2).1 ((((((z31).2).2).2).1).2).2), (Value.slice ((((((z31).2).2).2).2).1).1 (((((((z31).2).2).2).2).1).2).1 (((((((z31).2).2).2).2).1).2).2)])) <|
            .effS (Instr.loadAt 35 (Value.pointer (some z0))) (.agg (.cons (.int .i64) (.cons (.int .i64) (.cons (.int .i64) (.cons .slice (.cons .slice .nil)))))) fun (z32 : (Int × (Int × (Int × (((Option Addr) × (Nat × Nat)) × (((Option Addr) × (Nat × Nat)) × PUnit)))))) =>
            .leaf 0 [(Value.agg #[(Value.int IntKind.i64 (z32).1), (Value.int IntKind.i64 ((z32).2).1), (Value.int IntKind.i64 (((z32).2).2).1), (Value.slice (((((z32).2).2).2).1).1 ((((((z32).2).2).2).1).2).1 ((((((z32).2).2).2).1).2).2), (Value.slice ((((((z32).2).2).2).2).1).1 (((((((z32).2).2).2).2).1).2).1 (((((((z32).2).2).2).2).1).2).2)]), (Value.bool Bool.true)]))) (
        .eff (Instr.loadAt 35 (Value.pointer (some z3))) (.agg (.cons (.int .i64) (.cons (.int .i64) (.cons (.int .i64) (.cons .slice (.cons .slice .nil)))))) fun (z33 : (Int × (Int × (Int × (((Option Addr) × (Nat × Nat)) × (((Option Addr) × (Nat × Nat)) × PUnit)))))) =>
        .effU (Instr.storeAt 35 (Value.pointer (some z0)) (Value.agg #[(Value.int IntKind.i64 (z33).1), (Value.int IntKind.i64 ((z33).2).1), (Value.int IntKind.i64 (((z33).2).2).1), (Value.slice (((((z33).2).2).2).1).1 ((((((z33).2).2).2).1).2).1 ((((((z33).2).2).2).1).2).2), (Value.slice ((((((z33).2).2).2).2).1).1 (((((((z33).2).2).2).2).1).2).1 (((((((z33).2).2).2).2).1).2).2)])) <|
        .effS (Instr.loadAt 35 (Value.pointer (some z0))) (.agg (.cons (.int .i64) (.cons (.int .i64) (.cons (.int .i64) (.cons .slice (.cons .slice .nil)))))) fun (z34 : (Int × (Int × (Int × (((Option Addr) × (Nat × Nat)) × (((Option Addr) × (Nat × Nat)) × PUnit)))))) =>
        .leaf 0 [(Value.agg #[(Value.int IntKind.i64 (z34).1), (Value.int IntKind.i64 ((z34).2).1), (Value.int IntKind.i64 (((z34).2).2).1), (Value.slice (((((z34).2).2).2).1).1 ((((((z34).2).2).2).1).2).1 ((((((z34).2).2).2).1).2).2), (Value.slice ((((((z34).2).2).2).2).1).1 (((((((z34).2).2).2).2).1).2).1 (((((((z34).2).2).2).2).1).2).2)]), (Value.bool Bool.true)])) (
      .eff (Instr.loadAt 35 (Value.pointer (some z3))) (.agg (.cons (.int .i64) (.cons (.int .i64) (.cons (.int .i64) (.cons .slice (.cons .slice .nil)))))) fun (z35 : (Int × (Int × (Int × (((Option Addr) × (Nat × Nat)) × (((Option Addr) × (Nat × Nat)) × PUnit)))))) =>
      .effU (Instr.storeAt 35 (Value.pointer (some z0)) (Value.agg #[(Value.int IntKind.i64 (z35).1), (Value.int IntKind.i64 ((z35).2).1), (Value.int IntKind.i64 (((z35).2).2).1), (Value.slice (((((z35).2).2).2).1).1 ((((((z35).2).2).2).1).2).1 ((((((z35).2).2).2).1).2).2), (Value.slice ((((((z35).2).2).2).2).1).1 (((((((z35).2).2).2).2).1).2).1 (((((((z35).2).2).2).2).1).2).2)])) <|
      .effS (Instr.loadAt 35 (Value.pointer (some z0))) (.agg (.cons (.int .i64) (.cons (.int .i64) (.cons (.int .i64) (.cons .slice (.cons .slice .nil)))))) fun (z36 : (Int × (Int × (Int × (((Option Addr) × (Nat × Nat)) × (((Option Addr) × (Nat × Nat)) × PUnit)))))) =>
      .leaf 0 [(Value.agg #[(Value.int IntKind.i64 (z36).1), (Value.int IntKind.i64 ((z36).2).1), (Value.int IntKind.i64 (((z36).2).2).1), (Value.slice (((((z36).2).2).2).1).1 ((((((z36).2).2).2).1).2).1 ((((((z36).2).2).2).1).2).2), (Value.slice ((((((z36).2).2).2).2).1).1 (((((((z36).2).2).2).2).1).2).1 (((((((z36).2).2).2).2).1).2).2)]), (Value.bool Bool.true)]))
def spec_Begins.h : Hints := ⟨[], [], [], []⟩
noncomputable def spec_Begins.c : Code := (Try.f19.body).getD .skip
theorem spec_Begins.e (q0 : ByteArray) : fnT Try.prog spec_Begins.h Try.f19 spec_Begins.c [.v (Value.string q0)] = spec_Begins.t q0 := by kernel_rfl
theorem spec_Begins.calls (q0 : ByteArray) {w : World} {R : Ending → World → Prop} (hs : sat Try.prog (spec_Begins.t q0) (fun l vs w' => l = 0 ∧ R (.returned (retVal vs)) w') w) : Calls Try.prog 19 #[(Value.string q0)] w R :=
  have h := calls_of_tree (w := w) (R := R) (args := [.v (Value.string q0)]) (c := spec_Begins.c) Try.func19 (show Try.f19.body = some spec_Begins.c by kernel_rfl) (of_decide_eq_true (by kernel_rfl)) (spec_Begins.e q0) hs
  h

/-! ### pub-tetrapla/impl.FjCheckNumber : function 20 -/
def impl_FjCheckNumber.t (s : ByteArray) : T :=
  .call 31 #[(Value.string s)] (.tuple (.cons .str (.cons .any .nil))) fun (z0 : (ByteArray × (Value × PUnit))) =>
  .chk ((isIface ((z0).2).1) = Bool.true) <|
  .ite (!(isNil ((z0).2).1)) (
    .leaf 0 [(Value.string (ByteArray.mk #[])), (Value.bool Bool.false)]) (
    .leaf 0 [(Value.string (z0).1), (Value.bool Bool.true)])
def impl_FjCheckNumber.h : Hints := ⟨[], [], [], []⟩
noncomputable def impl_FjCheckNumber.c : Code := (Try.f20.body).getD .skip
theorem impl_FjCheckNumber.e (s : ByteArray) : fnT Try.prog impl_FjCheckNumber.h Try.f20 impl_FjCheckNumber.c [.v (Value.string s)] = impl_FjCheckNumber.t s := by kernel_rfl
theorem impl_FjCheckNumber.calls (s : ByteArray) {w : World} {R : Ending → World → Prop} (hs : sat Try.prog (impl_FjCheckNumber.t s) (fun l vs w' => l = 0 ∧ R (.returned (retVal vs)) w') w) : Calls Try.prog 20 #[(Value.string s)] w R :=
  have h := calls_of_tree (w := w) (R := R) (args := [.v (Value.string s)]) (c := impl_FjCheckNumber.c) Try.func20 (show Try.f20.body = some impl_FjCheckNumber.c by kernel_rfl) (of_decide_eq_true (by kernel_rfl)) (impl_FjCheckNumber.e s) hs
  h

/-! ### pub-tetrapla/spec.Places : function 26 -/
def spec_Places.t (text : ByteArray) : T :=
  .alloc (Obj.cells #[(Value.int IntKind.i64 (0 : Int)), (Value.int IntKind.i64 (0 : Int)), (Value.int IntKind.i64 (0 : Int)), (Value.slice none 0 0), (Value.slice none 0 0)] 35 (0, 0)) fun (z0 : Addr) =>
  .alloc (Obj.cells #[(Value.string (ByteArray.mk #[])), (Value.int IntKind.i64 (0 : Int))] 58 (0, 0)) fun (z1 : Addr) =>
  .effU (Instr.storeAt 58 (Value.pointer (some z1)) (Value.agg #[(Value.string text), (Value.int IntKind.i64 (0 : Int))])) <|
  .call 35 #[(Value.pointer (some z1))] (.tuple .nil) fun _ =>
  .call 30 #[(Value.pointer (some z1))] (.tuple (.cons (.agg (.cons (.int .i64) (.cons (.int .i64) (.cons (.int .i64) (.cons .slice (.cons .slice .nil)))))) (.cons .bool .nil))) fun (z2 : ((Int × (Int × (Int × (((Option Addr) × (Nat × Nat)) × (((Option Addr) × (Nat × Nat)) × PUnit))))) × (Bool × PUnit))) =>
  .alloc (Obj.cells #[(Value.int IntKind.i64 (0 : Int)), (Value.int IntKind.i64 (0 : Int)), (Value.int IntKind.i64 (0 : Int)), (Value.slice none 0 0), (Value.slice none 0 0)] 35 (0, 0)) fun (z3 : Addr) =>
  .effU (Instr.storeAt 35 (Value.pointer (some z3)) (Value.agg #[(Value.int IntKind.i64 ((z2).1).1), (Value.int IntKind.i64 (((z2).1).2).1), (Value.int IntKind.i64 ((((z2).1).2).2).1), (Value.slice ((((((z2).1).2).2).2).1).1 (((((((z2).1).2).2).2).1).2).1 (((((((z2).1).2).2).2).1).2).2), (Value.slice (((((((z2).1).2).2).2).2).1).1 ((((((((z2).1).2).2).2).2).1).2).1 ((((((((z2).1).2).2).2).2).1).2).2)])) <|
  .ite (!((z2).2).1) (
    .effU (Instr.storeAt 35 (Value.pointer (some z0)) (Value.agg #[(Value.int IntKind.i64 (0 : Int)), (Value.int IntKind.i64 (0 : Int)), (Value.int IntKind.i64 (0 : Int)), (Value.slice none 0 0), (Value.slice none 0 0)])) <|
    .effS (Instr.loadAt 35 (Value.pointer (some z0))) (.agg (.cons (.int .i64) (.cons (.int .i64) (.cons (.int .i64) (.cons .slice (.cons .slice .nil)))))) fun (z4 : (Int × (Int × (Int × (((Option Addr) × (Nat × Nat)) × (((Option Addr) × (Nat × Nat)) × PUnit)))))) =>
    .leaf 0 [(Value.agg #[(Value.int IntKind.i64 (z4).1), (Value.int IntKind.i64 ((z4).2).1), (Value.int IntKind.i64 (((z4).2).2).1), (Value.slice (((((z4).2).2).2).1).1 ((((((z4).2).2).2).1).2).1 ((((((z4).2).2).2).1).2).2), (Value.slice ((((((z4).2).2).2).2).1).1 (((((((z4).2).2).2).2).1).2).1 (((((((z4).2).2).2).2).1).2).2)]), (Value.bool Bool.false)]) (
    .call 35 #[(Value.pointer (some z1))] (.tuple .nil) fun _ =>
    .load (Addr.add z1 1) (.int .i64) fun (i5 : Int) =>
    .ite (i5 != (((ByteArray.size text) : Nat) : Int)) (
      .effU (Instr.storeAt 35 (Value.pointer (some z0)) (Value.agg #[(Value.int IntKind.i64 (0 : Int)), (Value.int IntKind.i64 (0 : Int)), (Value.int IntKind.i64 (0 : Int)), (Value.slice none 0 0), (Value.slice none 0 0)])) <|
      .effS (Instr.loadAt 35 (Value.pointer (some z0))) (.agg (.cons (.int .i64) (.cons (.int .i64) (.cons (.int .i64) (.cons .slice (.cons .slice .nil)))))) fun (z6 : (Int × (Int × (Int × (((Option Addr) × (Nat × Nat)) × (((Option Addr) × (Nat × Nat)) × PUnit)))))) =>
      .leaf 0 [(Value.agg #[(Value.int IntKind.i64 (z6).1), (Value.int IntKind.i64 ((z6).2).1), (Value.int IntKind.i64 (((z6).2).2).1), (Value.slice (((((z6).2).2).2).1).1 ((((((z6).2).2).2).1).2).1 ((((((z6).2).2).2).1).2).2), (Value.slice ((((((z6).2).2).2).2).1).1 (((((((z6).2).2).2).2).1).2).1 (((((((z6).2).2).2).2).1).2).2)]), (Value.bool Bool.false)]) (
      .eff (Instr.loadAt 35 (Value.pointer (some z3))) (.agg (.cons (.int .i64) (.cons (.int .i64) (.cons (.int .i64) (.cons .slice (.cons .slice .nil)))))) fun (z7 : (Int × (Int × (Int × (((Option Addr) × (Nat × Nat)) × (((Option Addr) × (Nat × Nat)) × PUnit)))))) =>
      .effU (Instr.storeAt 35 (Value.pointer (some z0)) (Value.agg #[(Value.int IntKind.i64 (z7).1), (Value.int IntKind.i64 ((z7).2).1), (Value.int IntKind.i64 (((z7).2).2).1), (Value.slice (((((z7).2).2).2).1).1 ((((((z7).2).2).2).1).2).1 ((((((z7).2).2).2).1).2).2), (Value.slice ((((((z7).2).2).2).2).1).1 (((((((z7).2).2).2).2).1).2).1 (((((((z7).2).2).2).2).1).2).2)])) <|
      .effS (Instr.loadAt 35 (Value.pointer (some z0))) (.agg (.cons (.int .i64) (.cons (.int .i64) (.cons (.int .i64) (.cons .slice (.cons .slice .nil)))))) fun (z8 : (Int × (Int × (Int × (((Option Addr) × (Nat × Nat)) × (((Option Addr) × (Nat × Nat)) × PUnit)))))) =>
      .leaf 0 [(Value.agg #[(Value.int IntKind.i64 (z8).1), (Value.int IntKind.i64 ((z8).2).1), (Value.int IntKind.i64 (((z8).2).2).1), (Value.slice (((((z8).2).2).2).1).1 ((((((z8).2).2).2).1).2).1 ((((((z8).2).2).2).1).2).2), (Value.slice ((((((z8).2).2).2).2).1).1 (((((((z8).2).2).2).2).1).2).1 (((((((z8).2).2).2).2).1).2).2)]), (Value.bool Bool.true)]))
def spec_Places.h : Hints := ⟨[], [], [], []⟩
noncomputable def spec_Places.c : Code := (Try.f26.body).getD .skip
theorem spec_Places.e (text : ByteArray) : fnT Try.prog spec_Places.h Try.f26 spec_Places.c [.v (Value.string text)] = spec_Places.t text := by kernel_rfl
theorem spec_Places.calls (text : ByteArray) {w : World} {R : Ending → World → Prop} (hs : sat Try.prog (spec_Places.t text) (fun l vs w' => l = 0 ∧ R (.returned (retVal vs)) w') w) : Calls Try.prog 26 #[(Value.string text)] w R :=
  have h := calls_of_tree (w := w) (R := R) (args := [.v (Value.string text)]) (c := spec_Places.c) Try.func26 (show Try.f26.body = some spec_Places.c by kernel_rfl) (of_decide_eq_true (by kernel_rfl)) (spec_Places.e text) hs
  h

/-! ### pub-tetrapla/pub/fastjson.DoorCheckNumber : function 31 -/
def fastjson_DoorCheckNumber.t (s : ByteArray) : T :=
  .call 45 #[(Value.string s)] (.tuple (.cons .str (.cons .any .nil))) fun (z0 : (ByteArray × (Value × PUnit))) =>
  .leaf 0 [(Value.string (z0).1), ((z0).2).1]
def fastjson_DoorCheckNumber.h : Hints := ⟨[], [], [], []⟩
noncomputable def fastjson_DoorCheckNumber.c : Code := (Try.f31.body).getD .skip
theorem fastjson_DoorCheckNumber.e (s : ByteArray) : fnT Try.prog fastjson_DoorCheckNumber.h Try.f31 fastjson_DoorCheckNumber.c [.v (Value.string s)] = fastjson_DoorCheckNumber.t s := by kernel_rfl
theorem fastjson_DoorCheckNumber.calls (s : ByteArray) {w : World} {R : Ending → World → Prop} (hs : sat Try.prog (fastjson_DoorCheckNumber.t s) (fun l vs w' => l = 0 ∧ R (.returned (retVal vs)) w') w) : Calls Try.prog 31 #[(Value.string s)] w R :=
  have h := calls_of_tree (w := w) (R := R) (args := [.v (Value.string s)]) (c := fastjson_DoorCheckNumber.c) Try.func31 (show Try.f31.body = some fastjson_DoorCheckNumber.c by kernel_rfl) (of_decide_eq_true (by kernel_rfl)) (fastjson_DoorCheckNumber.e s) hs
  h

/-! ### pub-tetrapla/pub/fastjson.validateNumber : function 45 -/
def fastjson_validateNumber.t2 (s2 : ByteArray) (i3 : Int) : T :=
  .ite (decide (i3 < (((ByteArray.size s2) : Nat) : Int))) (
    .chk (((0 : Int) ≤ i3) ∧ (i3 < (((ByteArray.size s2) : Nat) : Int))) <|
    .ite (decide ((bt s2 i3) < (48 : Int))) (
      .leaf 1 [(Value.int IntKind.i64 i3)]) (
      .chk (((0 : Int) ≤ i3) ∧ (i3 < (((ByteArray.size s2) : Nat) : Int))) <|
      .ite (decide ((bt s2 i3) > (57 : Int))) (
        .leaf 1 [(Value.int IntKind.i64 i3)]) (
        .leaf 2 [(Value.int IntKind.i64 (IntKind.wrap IntKind.i64 (i3 + (1 : Int))))]))) (
    .leaf 1 [(Value.int IntKind.i64 i3)])
def fastjson_validateNumber.t5 (s2 : ByteArray) (i4 : Int) (i9 : Int) : T :=
  .ite (decide (i9 < (((ByteArray.size (ByteArray.extract s2 (Int.toNat (IntKind.wrap IntKind.i64 (i4 + (1 : Int)))) (Int.toNat (((ByteArray.size s2) : Nat) : Int)))) : Nat) : Int))) (
    .chk (((0 : Int) ≤ i9) ∧ (i9 < (((ByteArray.size (ByteArray.extract s2 (Int.toNat (IntKind.wrap IntKind.i64 (i4 + (1 : Int)))) (Int.toNat (((ByteArray.size s2) : Nat) : Int)))) : Nat) : Int))) <|
    .ite (decide ((bt (ByteArray.extract s2 (Int.toNat (IntKind.wrap IntKind.i64 (i4 + (1 : Int)))) (Int.toNat (((ByteArray.size s2) : Nat) : Int))) i9) < (48 : Int))) (
      .leaf 2 [(Value.int IntKind.i64 i9)]) (
      .chk (((0 : Int) ≤ i9) ∧ (i9 < (((ByteArray.size (ByteArray.extract s2 (Int.toNat (IntKind.wrap IntKind.i64 (i4 + (1 : Int)))) (Int.toNat (((ByteArray.size s2) : Nat) : Int)))) : Nat) : Int))) <|
      .ite (decide ((bt (ByteArray.extract s2 (Int.toNat (IntKind.wrap IntKind.i64 (i4 + (1 : Int)))) (Int.toNat (((ByteArray.size s2) : Nat) : Int))) i9) > (57 : Int))) (
        .leaf 2 [(Value.int IntKind.i64 i9)]) (
        .leaf 3 [(Value.int IntKind.i64 (IntKind.wrap IntKind.i64 (i9 + (1 : Int))))]))) (
    .leaf 2 [(Value.int IntKind.i64 i9)])
def fastjson_validateNumber.t6 (s2 : ByteArray) (i4 : Int) (i10 : Int) : T :=
  .ite (i10 == (0 : Int)) (
    .call 48 #[(Value.string (ByteArray.mk #[(101 : UInt8), (120 : UInt8), (112 : UInt8), (101 : UInt8), (99 : UInt8), (116 : UInt8), (105 : UInt8), (110 : UInt8), (103 : UInt8), (32 : UInt8), (48 : UInt8), (46 : UInt8), (46 : UInt8), (57 : UInt8), (32 : UInt8), (100 : UInt8), (105 : UInt8), (103 : UInt8), (105 : UInt8), (116 : UInt8), (32 : UInt8), (105 : UInt8), (110 : UInt8), (32 : UInt8), (102 : UInt8), (114 : UInt8), (97 : UInt8), (99 : UInt8), (116 : UInt8), (105 : UInt8), (111 : UInt8), (110 : UInt8), (97 : UInt8), (108 : UInt8), (32 : UInt8), (112 : UInt8), (97 : UInt8), (114 : UInt8), (116 : UInt8), (44 : UInt8), (32 : UInt8), (103 : UInt8), (111 : UInt8), (116 : UInt8)]))] .any fun (v11 : Value) =>
    .leaf 0 [(Value.string (ByteArray.extract s2 (Int.toNat (IntKind.wrap IntKind.i64 (i4 + (1 : Int)))) (Int.toNat (((ByteArray.size s2) : Nat) : Int)))), v11]) (
    .ite (decide (i10 ≥ (((ByteArray.size (ByteArray.extract s2 (Int.toNat (IntKind.wrap IntKind.i64 (i4 + (1 : Int)))) (Int.toNat (((ByteArray.size s2) : Nat) : Int)))) : Nat) : Int))) (
      .leaf 0 [(Value.string (ByteArray.mk #[])), Value.nilIface]) (
      .leaf 1 [(Value.int IntKind.i64 i10), (Value.string (ByteArray.extract s2 (Int.toNat (IntKind.wrap IntKind.i64 (i4 + (1 : Int)))) (Int.toNat (((ByteArray.size s2) : Nat) : Int))))]))
def fastjson_validateNumber.t11 (s18 : ByteArray) (i19 : Int) : T :=
  .ite (decide (i19 < (((ByteArray.size s18) : Nat) : Int))) (
    .chk (((0 : Int) ≤ i19) ∧ (i19 < (((ByteArray.size s18) : Nat) : Int))) <|
    .ite (decide ((bt s18 i19) < (48 : Int))) (
      .leaf 1 [(Value.int IntKind.i64 i19)]) (
      .chk (((0 : Int) ≤ i19) ∧ (i19 < (((ByteArray.size s18) : Nat) : Int))) <|
      .ite (decide ((bt s18 i19) > (57 : Int))) (
        .leaf 1 [(Value.int IntKind.i64 i19)]) (
        .leaf 2 [(Value.int IntKind.i64 (IntKind.wrap IntKind.i64 (i19 + (1 : Int))))]))) (
    .leaf 1 [(Value.int IntKind.i64 i19)])
def fastjson_validateNumber.t12 (s18 : ByteArray) (i20 : Int) : T :=
  .ite (i20 == (0 : Int)) (
    .call 48 #[(Value.string (ByteArray.mk #[(101 : UInt8), (120 : UInt8), (112 : UInt8), (101 : UInt8), (99 : UInt8), (116 : UInt8), (105 : UInt8), (110 : UInt8), (103 : UInt8), (32 : UInt8), (48 : UInt8), (46 : UInt8), (46 : UInt8), (57 : UInt8), (32 : UInt8), (100 : UInt8), (105 : UInt8), (103 : UInt8), (105 : UInt8), (116 : UInt8), (32 : UInt8), (105 : UInt8), (110 : UInt8), (32 : UInt8), (101 : UInt8), (120 : UInt8), (112 : UInt8), (111 : UInt8), (110 : UInt8), (101 : UInt8), (110 : UInt8), (116 : UInt8), (32 : UInt8), (112 : UInt8), (97 : UInt8), (114 : UInt8), (116 : UInt8), (44 : UInt8), (32 : UInt8), (103 : UInt8), (111 : UInt8), (116 : UInt8)]))] .any fun (v21 : Value) =>
    .leaf 0 [(Value.string s18), v21]) (
    .ite (decide (i20 ≥ (((ByteArray.size s18) : Nat) : Int))) (
      .leaf 0 [(Value.string (ByteArray.mk #[])), Value.nilIface]) (
      .chk (((0 : Int) ≤ i20) ∧ ((i20 ≤ (((ByteArray.size s18) : Nat) : Int)) ∧ ((((ByteArray.size s18) : Nat) : Int) ≤ (((ByteArray.size s18) : Nat) : Int)))) <|
      .leaf 0 [(Value.string (ByteArray.extract s18 (Int.toNat i20) (Int.toNat (((ByteArray.size s18) : Nat) : Int)))), Value.nilIface]))
def fastjson_validateNumber.t10 (s18 : ByteArray) : T :=
  .cut 1 (.cons (.int .i64) .nil) (
    .loop 2 (.cons (.int .i64) .nil) [(Value.int IntKind.i64 (0 : Int))]
      (fun z => fastjson_validateNumber.t11 s18 z.1))
    (fun z => fastjson_validateNumber.t12 s18 z.1)
def fastjson_validateNumber.t9 (i12 : Int) (s13 : ByteArray) (b16 : Bool) : T :=
  .cut 1 (.cons .str .nil) (
    .ite b16 (
      .chk (((0 : Int) ≤ (1 : Int)) ∧ (((1 : Int) ≤ (((ByteArray.size (ByteArray.extract s13 (Int.toNat (IntKind.wrap IntKind.i64 (i12 + (1 : Int)))) (Int.toNat (((ByteArray.size s13) : Nat) : Int)))) : Nat) : Int)) ∧ ((((ByteArray.size (ByteArray.extract s13 (Int.toNat (IntKind.wrap IntKind.i64 (i12 + (1 : Int)))) (Int.toNat (((ByteArray.size s13) : Nat) : Int)))) : Nat) : Int) ≤ (((ByteArray.size (ByteArray.extract s13 (Int.toNat (IntKind.wrap IntKind.i64 (i12 + (1 : Int)))) (Int.toNat (((ByteArray.size s13) : Nat) : Int)))) : Nat) : Int)))) <|
      .ite ((((ByteArray.size (ByteArray.extract (ByteArray.extract s13 (Int.toNat (IntKind.wrap IntKind.i64 (i12 + (1 : Int)))) (Int.toNat (((ByteArray.size s13) : Nat) : Int))) 1 (Int.toNat (((ByteArray.size (ByteArray.extract s13 (Int.toNat (IntKind.wrap IntKind.i64 (i12 + (1 : Int)))) (Int.toNat (((ByteArray.size s13) : Nat) : Int)))) : Nat) : Int)))) : Nat) : Int) == (0 : Int)) (
        .call 48 #[(Value.string (ByteArray.mk #[(109 : UInt8), (105 : UInt8), (115 : UInt8), (115 : UInt8), (105 : UInt8), (110 : UInt8), (103 : UInt8), (32 : UInt8), (101 : UInt8), (120 : UInt8), (112 : UInt8), (111 : UInt8), (110 : UInt8), (101 : UInt8), (110 : UInt8), (116 : UInt8), (32 : UInt8), (112 : UInt8), (97 : UInt8), (114 : UInt8), (116 : UInt8)]))] .any fun (v17 : Value) =>
        .leaf 0 [(Value.string (ByteArray.extract (ByteArray.extract s13 (Int.toNat (IntKind.wrap IntKind.i64 (i12 + (1 : Int)))) (Int.toNat (((ByteArray.size s13) : Nat) : Int))) 1 (Int.toNat (((ByteArray.size (ByteArray.extract s13 (Int.toNat (IntKind.wrap IntKind.i64 (i12 + (1 : Int)))) (Int.toNat (((ByteArray.size s13) : Nat) : Int)))) : Nat) : Int)))), v17]) (
        .leaf 1 [(Value.string (ByteArray.extract (ByteArray.extract s13 (Int.toNat (IntKind.wrap IntKind.i64 (i12 + (1 : Int)))) (Int.toNat (((ByteArray.size s13) : Nat) : Int))) 1 (Int.toNat (((ByteArray.size (ByteArray.extract s13 (Int.toNat (IntKind.wrap IntKind.i64 (i12 + (1 : Int)))) (Int.toNat (((ByteArray.size s13) : Nat) : Int)))) : Nat) : Int))))])) (
      .leaf 1 [(Value.string (ByteArray.extract s13 (Int.toNat (IntKind.wrap IntKind.i64 (i12 + (1 : Int)))) (Int.toNat (((ByteArray.size s13) : Nat) : Int))))]))
    (fun z => fastjson_validateNumber.t10 z.1)
def fastjson_validateNumber.t8 (i12 : Int) (s13 : ByteArray) (b14 : Bool) : T :=
  .ite b14 (
    .chk (((0 : Int) ≤ (IntKind.wrap IntKind.i64 (i12 + (1 : Int)))) ∧ (((IntKind.wrap IntKind.i64 (i12 + (1 : Int))) ≤ (((ByteArray.size s13) : Nat) : Int)) ∧ ((((ByteArray.size s13) : Nat) : Int) ≤ (((ByteArray.size s13) : Nat) : Int)))) <|
    .ite ((((ByteArray.size (ByteArray.extract s13 (Int.toNat (IntKind.wrap IntKind.i64 (i12 + (1 : Int)))) (Int.toNat (((ByteArray.size s13) : Nat) : Int)))) : Nat) : Int) == (0 : Int)) (
      .call 48 #[(Value.string (ByteArray.mk #[(109 : UInt8), (105 : UInt8), (115 : UInt8), (115 : UInt8), (105 : UInt8), (110 : UInt8), (103 : UInt8), (32 : UInt8), (101 : UInt8), (120 : UInt8), (112 : UInt8), (111 : UInt8), (110 : UInt8), (101 : UInt8), (110 : UInt8), (116 : UInt8), (32 : UInt8), (112 : UInt8), (97 : UInt8), (114 : UInt8), (116 : UInt8)]))] .any fun (v15 : Value) =>
      .leaf 0 [(Value.string (ByteArray.extract s13 (Int.toNat (IntKind.wrap IntKind.i64 (i12 + (1 : Int)))) (Int.toNat (((ByteArray.size s13) : Nat) : Int)))), v15]) (
      .cut 1 (.cons .bool .nil) (
        .chk (((0 : Int) ≤ (0 : Int)) ∧ ((0 : Int) < (((ByteArray.size (ByteArray.extract s13 (Int.toNat (IntKind.wrap IntKind.i64 (i12 + (1 : Int)))) (Int.toNat (((ByteArray.size s13) : Nat) : Int)))) : Nat) : Int))) <|
        .ite ((bt (ByteArray.extract s13 (Int.toNat (IntKind.wrap IntKind.i64 (i12 + (1 : Int)))) (Int.toNat (((ByteArray.size s13) : Nat) : Int))) (0 : Int)) == (45 : Int)) (
          .leaf 1 [(Value.bool Bool.true)]) (
          .chk (((0 : Int) ≤ (0 : Int)) ∧ ((0 : Int) < (((ByteArray.size (ByteArray.extract s13 (Int.toNat (IntKind.wrap IntKind.i64 (i12 + (1 : Int)))) (Int.toNat (((ByteArray.size s13) : Nat) : Int)))) : Nat) : Int))) <|
          .leaf 1 [(Value.bool ((bt (ByteArray.extract s13 (Int.toNat (IntKind.wrap IntKind.i64 (i12 + (1 : Int)))) (Int.toNat (((ByteArray.size s13) : Nat) : Int))) (0 : Int)) == (43 : Int)))]))
        (fun z => fastjson_validateNumber.t9 i12 s13 z.1))) (
    .chk (((0 : Int) ≤ i12) ∧ ((i12 ≤ (((ByteArray.size s13) : Nat) : Int)) ∧ ((((ByteArray.size s13) : Nat) : Int) ≤ (((ByteArray.size s13) : Nat) : Int)))) <|
    .leaf 0 [(Value.string (ByteArray.extract s13 (Int.toNat i12) (Int.toNat (((ByteArray.size s13) : Nat) : Int)))), Value.nilIface])
def fastjson_validateNumber.t7 (i12 : Int) (s13 : ByteArray) : T :=
  .cut 1 (.cons .bool .nil) (
    .chk (((0 : Int) ≤ i12) ∧ (i12 < (((ByteArray.size s13) : Nat) : Int))) <|
    .ite ((bt s13 i12) == (101 : Int)) (
      .leaf 1 [(Value.bool Bool.true)]) (
      .chk (((0 : Int) ≤ i12) ∧ (i12 < (((ByteArray.size s13) : Nat) : Int))) <|
      .leaf 1 [(Value.bool ((bt s13 i12) == (69 : Int)))]))
    (fun z => fastjson_validateNumber.t8 i12 s13 z.1)
def fastjson_validateNumber.t4 (s2 : ByteArray) (i4 : Int) (b6 : Bool) : T :=
  .ite b6 (
    .call 48 #[(Value.string (ByteArray.mk #[(117 : UInt8), (110 : UInt8), (101 : UInt8), (120 : UInt8), (112 : UInt8), (101 : UInt8), (99 : UInt8), (116 : UInt8), (101 : UInt8), (100 : UInt8), (32 : UInt8), (110 : UInt8), (117 : UInt8), (109 : UInt8), (98 : UInt8), (101 : UInt8), (114 : UInt8), (32 : UInt8), (115 : UInt8), (116 : UInt8), (97 : UInt8), (114 : UInt8), (116 : UInt8), (105 : UInt8), (110 : UInt8), (103 : UInt8), (32 : UInt8), (102 : UInt8), (114 : UInt8), (111 : UInt8), (109 : UInt8), (32 : UInt8), (48 : UInt8)]))] .any fun (v7 : Value) =>
    .leaf 0 [(Value.string s2), v7]) (
    .ite (decide (i4 ≥ (((ByteArray.size s2) : Nat) : Int))) (
      .leaf 0 [(Value.string (ByteArray.mk #[])), Value.nilIface]) (
      .chk (((0 : Int) ≤ i4) ∧ (i4 < (((ByteArray.size s2) : Nat) : Int))) <|
      .cut 1 (.cons (.int .i64) (.cons .str .nil)) (
        .ite ((bt s2 i4) == (46 : Int)) (
          .chk (((0 : Int) ≤ (IntKind.wrap IntKind.i64 (i4 + (1 : Int)))) ∧ (((IntKind.wrap IntKind.i64 (i4 + (1 : Int))) ≤ (((ByteArray.size s2) : Nat) : Int)) ∧ ((((ByteArray.size s2) : Nat) : Int) ≤ (((ByteArray.size s2) : Nat) : Int)))) <|
          .ite ((((ByteArray.size (ByteArray.extract s2 (Int.toNat (IntKind.wrap IntKind.i64 (i4 + (1 : Int)))) (Int.toNat (((ByteArray.size s2) : Nat) : Int)))) : Nat) : Int) == (0 : Int)) (
            .call 48 #[(Value.string (ByteArray.mk #[(109 : UInt8), (105 : UInt8), (115 : UInt8), (115 : UInt8), (105 : UInt8), (110 : UInt8), (103 : UInt8), (32 : UInt8), (102 : UInt8), (114 : UInt8), (97 : UInt8), (99 : UInt8), (116 : UInt8), (105 : UInt8), (111 : UInt8), (110 : UInt8), (97 : UInt8), (108 : UInt8), (32 : UInt8), (112 : UInt8), (97 : UInt8), (114 : UInt8), (116 : UInt8)]))] .any fun (v8 : Value) =>
            .leaf 0 [(Value.string (ByteArray.extract s2 (Int.toNat (IntKind.wrap IntKind.i64 (i4 + (1 : Int)))) (Int.toNat (((ByteArray.size s2) : Nat) : Int)))), v8]) (
            .cut 2 (.cons (.int .i64) .nil) (
              .loop 3 (.cons (.int .i64) .nil) [(Value.int IntKind.i64 (0 : Int))]
                (fun z => fastjson_validateNumber.t5 s2 i4 z.1))
              (fun z => fastjson_validateNumber.t6 s2 i4 z.1))) (
          .leaf 1 [(Value.int IntKind.i64 i4), (Value.string s2)]))
        (fun z => fastjson_validateNumber.t7 z.1 z.2.1)))
def fastjson_validateNumber.t3 (s2 : ByteArray) (i4 : Int) : T :=
  .ite (decide (i4 ≤ (0 : Int))) (
    .call 48 #[(Value.string (ByteArray.mk #[(101 : UInt8), (120 : UInt8), (112 : UInt8), (101 : UInt8), (99 : UInt8), (116 : UInt8), (105 : UInt8), (110 : UInt8), (103 : UInt8), (32 : UInt8), (48 : UInt8), (46 : UInt8), (46 : UInt8), (57 : UInt8), (32 : UInt8), (100 : UInt8), (105 : UInt8), (103 : UInt8), (105 : UInt8), (116 : UInt8), (44 : UInt8), (32 : UInt8), (103 : UInt8), (111 : UInt8), (116 : UInt8)]))] .any fun (v5 : Value) =>
    .leaf 0 [(Value.string s2), v5]) (
    .cut 1 (.cons .bool .nil) (
      .chk (((0 : Int) ≤ (0 : Int)) ∧ ((0 : Int) < (((ByteArray.size s2) : Nat) : Int))) <|
      .ite ((bt s2 (0 : Int)) == (48 : Int)) (
        .leaf 1 [(Value.bool (i4 != (1 : Int)))]) (
        .leaf 1 [(Value.bool Bool.false)]))
      (fun z => fastjson_validateNumber.t4 s2 i4 z.1))
def fastjson_validateNumber.t1 (s2 : ByteArray) : T :=
  .cut 1 (.cons (.int .i64) .nil) (
    .loop 2 (.cons (.int .i64) .nil) [(Value.int IntKind.i64 (0 : Int))]
      (fun z => fastjson_validateNumber.t2 s2 z.1))
    (fun z => fastjson_validateNumber.t3 s2 z.1)
def fastjson_validateNumber.t (q0 : ByteArray) : T :=
  .ite ((((ByteArray.size q0) : Nat) : Int) == (0 : Int)) (
    .call 48 #[(Value.string (ByteArray.mk #[(122 : UInt8), (101 : UInt8), (114 : UInt8), (111 : UInt8), (45 : UInt8), (108 : UInt8), (101 : UInt8), (110 : UInt8), (103 : UInt8), (116 : UInt8), (104 : UInt8), (32 : UInt8), (110 : UInt8), (117 : UInt8), (109 : UInt8), (98 : UInt8), (101 : UInt8), (114 : UInt8)]))] .any fun (v0 : Value) =>
    .leaf 0 [(Value.string q0), v0]) (
    .chk (((0 : Int) ≤ (0 : Int)) ∧ ((0 : Int) < (((ByteArray.size q0) : Nat) : Int))) <|
    .cut 1 (.cons .str .nil) (
      .ite ((bt q0 (0 : Int)) == (45 : Int)) (
        .chk (((0 : Int) ≤ (1 : Int)) ∧ (((1 : Int) ≤ (((ByteArray.size q0) : Nat) : Int)) ∧ ((((ByteArray.size q0) : Nat) : Int) ≤ (((ByteArray.size q0) : Nat) : Int)))) <|
        .ite ((((ByteArray.size (ByteArray.extract q0 1 (Int.toNat (((ByteArray.size q0) : Nat) : Int)))) : Nat) : Int) == (0 : Int)) (
          .call 48 #[(Value.string (ByteArray.mk #[(109 : UInt8), (105 : UInt8), (115 : UInt8), (115 : UInt8), (105 : UInt8), (110 : UInt8), (103 : UInt8), (32 : UInt8), (110 : UInt8), (117 : UInt8), (109 : UInt8), (98 : UInt8), (101 : UInt8), (114 : UInt8), (32 : UInt8), (97 : UInt8), (102 : UInt8), (116 : UInt8), (101 : UInt8), (114 : UInt8), (32 : UInt8), (109 : UInt8), (105 : UInt8), (110 : UInt8), (117 : UInt8), (115 : UInt8)]))] .any fun (v1 : Value) =>
          .leaf 0 [(Value.string (ByteArray.extract q0 1 (Int.toNat (((ByteArray.size q0) : Nat) : Int)))), v1]) (
          .leaf 1 [(Value.string (ByteArray.extract q0 1 (Int.toNat (((ByteArray.size q0) : Nat) : Int))))])) (
        .leaf 1 [(Value.string q0)]))
      (fun z => fastjson_validateNumber.t1 z.1))
def fastjson_validateNumber.h : Hints := ⟨[(12, [(0, .str)]), (56, [(4, (.int .i64)), (0, .str)]), (116, [(0, .str)])], [(0, [(4, (.int .i64))]), (2, [(4, (.int .i64))]), (4, [(4, (.int .i64))])], [(13, [(46, .bool)]), (29, [(99, .bool)]), (33, [(116, .bool)])], [(8, [(4, (.int .i64))]), (22, [(4, (.int .i64))]), (38, [(4, (.int .i64))])]⟩
noncomputable def fastjson_validateNumber.c : Code := (Try.f45.body).getD .skip
theorem fastjson_validateNumber.e (q0 : ByteArray) : fnT Try.prog fastjson_validateNumber.h Try.f45 fastjson_validateNumber.c [.v (Value.string q0)] = fastjson_validateNumber.t q0 := by kernel_rfl
theorem fastjson_validateNumber.calls (q0 : ByteArray) {w : World} {R : Ending → World → Prop} (hs : sat Try.prog (fastjson_validateNumber.t q0) (fun l vs w' => l = 0 ∧ R (.returned (retVal vs)) w') w) : Calls Try.prog 45 #[(Value.string q0)] w R :=
  have h := calls_of_tree (w := w) (R := R) (args := [.v (Value.string q0)]) (c := fastjson_validateNumber.c) Try.func45 (show Try.f45.body = some fastjson_validateNumber.c by kernel_rfl) (of_decide_eq_true (by kernel_rfl)) (fastjson_validateNumber.e q0) hs
  h

/-! ### errors.New : function 48 -/
def errors_New.t (text : ByteArray) : T :=
  .alloc (Obj.cells #[(Value.string text)] 81 (0, 0)) fun (z0 : Addr) =>
  .leaf 0 [(Value.iface 79 (Value.pointer (some z0)))]
def errors_New.h : Hints := ⟨[], [], [], []⟩
noncomputable def errors_New.c : Code := (Try.f48.body).getD .skip
theorem errors_New.e (text : ByteArray) : fnT Try.prog errors_New.h Try.f48 errors_New.c [.v (Value.string text)] = errors_New.t text := by kernel_rfl
theorem errors_New.calls (text : ByteArray) {w : World} {R : Ending → World → Prop} (hs : sat Try.prog (errors_New.t text) (fun l vs w' => l = 0 ∧ R (.returned (retVal vs)) w') w) : Calls Try.prog 48 #[(Value.string text)] w R :=
  have h := calls_of_tree (w := w) (R := R) (args := [.v (Value.string text)]) (c := errors_New.c) Try.func48 (show Try.f48.body = some errors_New.c by kernel_rfl) (of_decide_eq_true (by kernel_rfl)) (errors_New.e text) hs
  h

end Go.Proofs.Ytdjilnhalpmabaa.Tr
