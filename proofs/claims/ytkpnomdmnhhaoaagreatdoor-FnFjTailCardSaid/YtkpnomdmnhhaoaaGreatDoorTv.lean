/- Trees of loaded functions, printed by wip/tools/rxprint (a program of this repo): each is what 'exec' comes to, held by the kernel. No statement of the set is proved here. -/
import Derived.Test.YtkpnomdmnhhaoaaGreatDoorRz
import Derived.Test.YtkpnomdmnhhaoaaGreatDoorProg
import Derived.KernelRfl
namespace Go.Proofs.YtkpnomdmnhhaoaaGreatDoor.Tr
open Go Go.Proofs Go.Proofs.YtkpnomdmnhhaoaaGreatDoor.Rx
set_option linter.unusedVariables false
set_option maxRecDepth 100000
/-! ### (*pub-tetrapla/spec.reader).value : function 42 -/
def spec_reader_value.t1 (q0 : (Option Addr)) (z0 : Addr) (z3 : Addr) (b20 : Bool) : T :=
  .ite b20 (
    .store (Addr.add z3 0) (Value.int IntKind.i64 (3 : Int)) <|
    .call 68 #[(Value.pointer q0)] .bool fun (b21 : Bool) =>
    .ptr q0 fun (z22 : Addr) =>
    .load (Addr.add z22 1) (.int .i64) fun (i23 : Int) =>
    .store (Addr.add z3 2) (Value.int IntKind.i64 i23) <|
    .eff (Instr.loadAt 60 (Value.pointer (some z3))) (.agg (.cons (.int .i64) (.cons (.int .i64) (.cons (.int .i64) (.cons .slice (.cons .slice .nil)))))) fun (z24 : (Int × (Int × (Int × (((Option Addr) × (Nat × Nat)) × (((Option Addr) × (Nat × Nat)) × PUnit)))))) =>
    .effU (Instr.storeAt 60 (Value.pointer (some z0)) (Value.agg #[(Value.int IntKind.i64 (z24).1), (Value.int IntKind.i64 ((z24).2).1), (Value.int IntKind.i64 (((z24).2).2).1), (Value.slice (((((z24).2).2).2).1).1 ((((((z24).2).2).2).1).2).1 ((((((z24).2).2).2).1).2).2), (Value.slice ((((((z24).2).2).2).2).1).1 (((((((z24).2).2).2).2).1).2).1 (((((((z24).2).2).2).2).1).2).2)])) <|
    .effS (Instr.loadAt 60 (Value.pointer (some z0))) (.agg (.cons (.int .i64) (.cons (.int .i64) (.cons (.int .i64) (.cons .slice (.cons .slice .nil)))))) fun (z25 : (Int × (Int × (Int × (((Option Addr) × (Nat × Nat)) × (((Option Addr) × (Nat × Nat)) × PUnit)))))) =>
    .leaf 0 [(Value.agg #[(Value.int IntKind.i64 (z25).1), (Value.int IntKind.i64 ((z25).2).1), (Value.int IntKind.i64 (((z25).2).2).1), (Value.slice (((((z25).2).2).2).1).1 ((((((z25).2).2).2).1).2).1 ((((((z25).2).2).2).1).2).2), (Value.slice ((((((z25).2).2).2).2).1).1 (((((((z25).2).2).2).2).1).2).1 (((((((z25).2).2).2).2).1).2).2)]), (Value.bool b21)]) (
    .call 69 #[(Value.pointer q0), (Value.string (ByteArray.mk #[(110 : UInt8), (117 : UInt8), (108 : UInt8), (108 : UInt8)]))] .bool fun (b26 : Bool) =>
    .ite b26 (
      .store (Addr.add z3 0) (Value.int IntKind.i64 (0 : Int)) <|
      .ptr q0 fun (z27 : Addr) =>
      .load (Addr.add z27 1) (.int .i64) fun (i28 : Int) =>
      .store (Addr.add z3 2) (Value.int IntKind.i64 i28) <|
      .eff (Instr.loadAt 60 (Value.pointer (some z3))) (.agg (.cons (.int .i64) (.cons (.int .i64) (.cons (.int .i64) (.cons .slice (.cons .slice .nil)))))) fun (z29 : (Int × (Int × (Int × (((Option Addr) × (Nat × Nat)) × (((Option Addr) × (Nat × Nat)) × PUnit)))))) =>
      .effU (Instr.storeAt 60 (Value.pointer (some z0)) (Value.agg #[(Value.int IntKind.i64 (z29).1), (Value.int IntKind.i64 ((z29).2).1), (Value.int IntKind.i64 (((z29).2).2).1), (Value.slice (((((z29).2).2).2).1).1 ((((((z29).2).2).2).1).2).1 ((((((z29).2).2).2).1).2).2), (Value.slice ((((((z29).2).2).2).2).1).1 (((((((z29).2).2).2).2).1).2).1 (((((((z29).2).2).2).2).1).2).2)])) <|
      .effS (Instr.loadAt 60 (Value.pointer (some z0))) (.agg (.cons (.int .i64) (.cons (.int .i64) (.cons (.int .i64) (.cons .slice (.cons .slice .nil)))))) fun (z30 : (Int × (Int × (Int × (((Option Addr) × (Nat × Nat)) × (((Option Addr) × (Nat × Nat)) × PUnit)))))) =>
      .leaf 0 [(Value.agg #[(Value.int IntKind.i64 (z30).1), (Value.int IntKind.i64 ((z30).2).1), (Value.int IntKind.i64 (((z30).2).2).1), (Value.slice (((((z30).2).2).2).1).1 ((((((z30).2).2).2).1).2).1 ((((((z30).2).2).2).1).2).2), (Value.slice ((((((z30).2).2).2).2).1).1 (((((((z30).2).2).2).2).1).2).1 (((((((z30).2).2).2).2).1).2).2)]), (Value.bool Bool.true)]) (
      .call 69 #[(Value.pointer q0), (Value.string (ByteArray.mk #[(102 : UInt8), (97 : UInt8), (108 : UInt8), (115 : UInt8), (101 : UInt8)]))] .bool fun (b31 : Bool) =>
      .ite b31 (
        .store (Addr.add z3 0) (Value.int IntKind.i64 (1 : Int)) <|
        .ptr q0 fun (z32 : Addr) =>
        .load (Addr.add z32 1) (.int .i64) fun (i33 : Int) =>
        .store (Addr.add z3 2) (Value.int IntKind.i64 i33) <|
        .eff (Instr.loadAt 60 (Value.pointer (some z3))) (.agg (.cons (.int .i64) (.cons (.int .i64) (.cons (.int .i64) (.cons .slice (.cons .slice .nil)))))) fun (z34 : (Int × (Int × (Int × (((Option Addr) × (Nat × Nat)) × (((Option Addr) × (Nat × Nat)) × PUnit)))))) =>
        .effU (Instr.storeAt 60 (Value.pointer (some z0)) (Value.agg #[(Value.int IntKind.i64 (z34).1), (Value.int IntKind.i64 ((z34).2).1), (Value.int IntKind.i64 (((z34).2).2).1), (Value.slice (((((z34).2).2).2).1).1 ((((((z34).2).2).2).1).2).1 ((((((z34).2).2).2).1).2).2), (Value.slice ((((((z34).2).2).2).2).1).1 (((((((z34).2).2).2).2).1).2).1 (((((((z34).2).2).2).2).1).2).2)])) <|
        .effS (Instr.loadAt 60 (Value.pointer (some z0))) (.agg (.cons (.int .i64) (.cons (.int .i64) (.cons (.int .i64) (.cons .slice (.cons .slice .nil)))))) fun (z35 : (Int × (Int × (Int × (((Option Addr) × (Nat × Nat)) × (((Option Addr) × (Nat × Nat)) × PUnit)))))) =>
        .leaf 0 [(Value.agg #[(Value.int IntKind.i64 (z35).1), (Value.int IntKind.i64 ((z35).2).1), (Value.int IntKind.i64 (((z35).2).2).1), (Value.slice (((((z35).2).2).2).1).1 ((((((z35).2).2).2).1).2).1 ((((((z35).2).2).2).1).2).2), (Value.slice ((((((z35).2).2).2).2).1).1 (((((((z35).2).2).2).2).1).2).1 (((((((z35).2).2).2).2).1).2).2)]), (Value.bool Bool.true)]) (
        .call 69 #[(Value.pointer q0), (Value.string (ByteArray.mk #[(116 : UInt8), (114 : UInt8), (117 : UInt8), (101 : UInt8)]))] .bool fun (b36 : Bool) =>
        .ite b36 (
          .store (Addr.add z3 0) (Value.int IntKind.i64 (2 : Int)) <|
          .ptr q0 fun (z37 : Addr) =>
          .load (Addr.add z37 1) (.int .i64) fun (i38 : Int) =>
          .store (Addr.add z3 2) (Value.int IntKind.i64 i38) <|
          .eff (Instr.loadAt 60 (Value.pointer (some z3))) (.agg (.cons (.int .i64) (.cons (.int .i64) (.cons (.int .i64) (.cons .slice (.cons .slice .nil)))))) fun (z39 : (Int × (Int × (Int × (((Option Addr) × (Nat × Nat)) × (((Option Addr) × (Nat × Nat)) × PUnit)))))) =>
          .effU (Instr.storeAt 60 (Value.pointer (some z0)) (Value.agg #[(Value.int IntKind.i64 (z39).1), (Value.int IntKind.i64 ((z39).2).1), (Value.int IntKind.i64 (((z39).2).2).1), (Value.slice (((((z39).2).2).2).1).1 ((((((z39).2).2).2).1).2).1 ((((((z39).2).2).2).1).2).2), (Value.slice ((((((z39).2).2).2).2).1).1 (((((((z39).2).2).2).2).1).2).1 (((((((z39).2).2).2).2).1).2).2)])) <|
          .effS (Instr.loadAt 60 (Value.pointer (some z0))) (.agg (.cons (.int .i64) (.cons (.int .i64) (.cons (.int .i64) (.cons .slice (.cons .slice .nil)))))) fun (z40 : (Int × (Int × (Int × (((Option Addr) × (Nat × Nat)) × (((Option Addr) × (Nat × Nat)) × PUnit)))))) =>
          .leaf 0 [(Value.agg #[(Value.int IntKind.i64 (z40).1), (Value.int IntKind.i64 ((z40).2).1), (Value.int IntKind.i64 (((z40).2).2).1), (Value.slice (((((z40).2).2).2).1).1 ((((((z40).2).2).2).1).2).1 ((((((z40).2).2).2).1).2).2), (Value.slice ((((((z40).2).2).2).2).1).1 (((((((z40).2).2).2).2).1).2).1 (((((((z40).2).2).2).2).1).2).2)]), (Value.bool Bool.true)]) (
          .ptr q0 fun (z41 : Addr) =>
          .load (Addr.add z41 1) (.int .i64) fun (i42 : Int) =>
          .store (Addr.add z3 2) (Value.int IntKind.i64 i42) <|
          .eff (Instr.loadAt 60 (Value.pointer (some z3))) (.agg (.cons (.int .i64) (.cons (.int .i64) (.cons (.int .i64) (.cons .slice (.cons .slice .nil)))))) fun (z43 : (Int × (Int × (Int × (((Option Addr) × (Nat × Nat)) × (((Option Addr) × (Nat × Nat)) × PUnit)))))) =>
          .effU (Instr.storeAt 60 (Value.pointer (some z0)) (Value.agg #[(Value.int IntKind.i64 (z43).1), (Value.int IntKind.i64 ((z43).2).1), (Value.int IntKind.i64 (((z43).2).2).1), (Value.slice (((((z43).2).2).2).1).1 ((((((z43).2).2).2).1).2).1 ((((((z43).2).2).2).1).2).2), (Value.slice ((((((z43).2).2).2).2).1).1 (((((((z43).2).2).2).2).1).2).1 (((((((z43).2).2).2).2).1).2).2)])) <|
          .effS (Instr.loadAt 60 (Value.pointer (some z0))) (.agg (.cons (.int .i64) (.cons (.int .i64) (.cons (.int .i64) (.cons .slice (.cons .slice .nil)))))) fun (z44 : (Int × (Int × (Int × (((Option Addr) × (Nat × Nat)) × (((Option Addr) × (Nat × Nat)) × PUnit)))))) =>
          .leaf 0 [(Value.agg #[(Value.int IntKind.i64 (z44).1), (Value.int IntKind.i64 ((z44).2).1), (Value.int IntKind.i64 (((z44).2).2).1), (Value.slice (((((z44).2).2).2).1).1 ((((((z44).2).2).2).1).2).1 ((((((z44).2).2).2).1).2).2), (Value.slice ((((((z44).2).2).2).2).1).1 (((((((z44).2).2).2).2).1).2).1 (((((((z44).2).2).2).2).1).2).2)]), (Value.bool Bool.false)]))))
def spec_reader_value.t (q0 : (Option Addr)) : T :=
  .alloc (Obj.cells #[(Value.int IntKind.i64 (0 : Int)), (Value.int IntKind.i64 (0 : Int)), (Value.int IntKind.i64 (0 : Int)), (Value.slice none 0 0), (Value.slice none 0 0)] 60 (0, 0)) fun (z0 : Addr) =>
  .ptr q0 fun (z1 : Addr) =>
  .load (Addr.add z1 1) (.int .i64) fun (i2 : Int) =>
  .alloc (Obj.cells #[(Value.int IntKind.i64 (0 : Int)), (Value.int IntKind.i64 (0 : Int)), (Value.int IntKind.i64 (0 : Int)), (Value.slice none 0 0), (Value.slice none 0 0)] 60 (0, 0)) fun (z3 : Addr) =>
  .effU (Instr.storeAt 60 (Value.pointer (some z3)) (Value.agg #[(Value.int IntKind.i64 (0 : Int)), (Value.int IntKind.i64 i2), (Value.int IntKind.i64 (0 : Int)), (Value.slice none 0 0), (Value.slice none 0 0)])) <|
  .call 64 #[(Value.pointer q0)] (.int .u8) fun (i4 : Int) =>
  .ite (i4 == (123 : Int)) (
    .store (Addr.add z3 0) (Value.int IntKind.i64 (6 : Int)) <|
    .call 65 #[(Value.pointer q0)] (.tuple (.cons .slice (.cons .slice (.cons .bool .nil)))) fun (z5 : (((Option Addr) × (Nat × Nat)) × (((Option Addr) × (Nat × Nat)) × (Bool × PUnit)))) =>
    .store (Addr.add z3 3) (Value.slice ((z5).1).1 (((z5).1).2).1 (((z5).1).2).2) <|
    .store (Addr.add z3 4) (Value.slice (((z5).2).1).1 ((((z5).2).1).2).1 ((((z5).2).1).2).2) <|
    .ptr q0 fun (z6 : Addr) =>
    .load (Addr.add z6 1) (.int .i64) fun (i7 : Int) =>
    .store (Addr.add z3 2) (Value.int IntKind.i64 i7) <|
    .eff (Instr.loadAt 60 (Value.pointer (some z3))) (.agg (.cons (.int .i64) (.cons (.int .i64) (.cons (.int .i64) (.cons .slice (.cons .slice .nil)))))) fun (z8 : (Int × (Int × (Int × (((Option Addr) × (Nat × Nat)) × (((Option Addr) × (Nat × Nat)) × PUnit)))))) =>
    .effU (Instr.storeAt 60 (Value.pointer (some z0)) (Value.agg #[(Value.int IntKind.i64 (z8).1), (Value.int IntKind.i64 ((z8).2).1), (Value.int IntKind.i64 (((z8).2).2).1), (Value.slice (((((z8).2).2).2).1).1 ((((((z8).2).2).2).1).2).1 ((((((z8).2).2).2).1).2).2), (Value.slice ((((((z8).2).2).2).2).1).1 (((((((z8).2).2).2).2).1).2).1 (((((((z8).2).2).2).2).1).2).2)])) <|
    .effS (Instr.loadAt 60 (Value.pointer (some z0))) (.agg (.cons (.int .i64) (.cons (.int .i64) (.cons (.int .i64) (.cons .slice (.cons .slice .nil)))))) fun (z9 : (Int × (Int × (Int × (((Option Addr) × (Nat × Nat)) × (((Option Addr) × (Nat × Nat)) × PUnit)))))) =>
    .leaf 0 [(Value.agg #[(Value.int IntKind.i64 (z9).1), (Value.int IntKind.i64 ((z9).2).1), (Value.int IntKind.i64 (((z9).2).2).1), (Value.slice (((((z9).2).2).2).1).1 ((((((z9).2).2).2).1).2).1 ((((((z9).2).2).2).1).2).2), (Value.slice ((((((z9).2).2).2).2).1).1 (((((((z9).2).2).2).2).1).2).1 (((((((z9).2).2).2).2).1).2).2)]), (Value.bool (((z5).2).2).1)]) (
    .ite (i4 == (91 : Int)) (
      .store (Addr.add z3 0) (Value.int IntKind.i64 (5 : Int)) <|
      .call 66 #[(Value.pointer q0)] (.tuple (.cons .slice (.cons .bool .nil))) fun (z10 : (((Option Addr) × (Nat × Nat)) × (Bool × PUnit))) =>
      .store (Addr.add z3 4) (Value.slice ((z10).1).1 (((z10).1).2).1 (((z10).1).2).2) <|
      .ptr q0 fun (z11 : Addr) =>
      .load (Addr.add z11 1) (.int .i64) fun (i12 : Int) =>
      .store (Addr.add z3 2) (Value.int IntKind.i64 i12) <|
      .eff (Instr.loadAt 60 (Value.pointer (some z3))) (.agg (.cons (.int .i64) (.cons (.int .i64) (.cons (.int .i64) (.cons .slice (.cons .slice .nil)))))) fun (z13 : (Int × (Int × (Int × (((Option Addr) × (Nat × Nat)) × (((Option Addr) × (Nat × Nat)) × PUnit)))))) =>
      .effU (Instr.storeAt 60 (Value.pointer (some z0)) (Value.agg #[(Value.int IntKind.i64 (z13).1), (Value.int IntKind.i64 ((z13).2).1), (Value.int IntKind.i64 (((z13).2).2).1), (Value.slice (((((z13).2).2).2).1).1 ((((((z13).2).2).2).1).2).1 ((((((z13).2).2).2).1).2).2), (Value.slice ((((((z13).2).2).2).2).1).1 (((((((z13).2).2).2).2).1).2).1 (((((((z13).2).2).2).2).1).2).2)])) <|
      .effS (Instr.loadAt 60 (Value.pointer (some z0))) (.agg (.cons (.int .i64) (.cons (.int .i64) (.cons (.int .i64) (.cons .slice (.cons .slice .nil)))))) fun (z14 : (Int × (Int × (Int × (((Option Addr) × (Nat × Nat)) × (((Option Addr) × (Nat × Nat)) × PUnit)))))) =>
      .leaf 0 [(Value.agg #[(Value.int IntKind.i64 (z14).1), (Value.int IntKind.i64 ((z14).2).1), (Value.int IntKind.i64 (((z14).2).2).1), (Value.slice (((((z14).2).2).2).1).1 ((((((z14).2).2).2).1).2).1 ((((((z14).2).2).2).1).2).2), (Value.slice ((((((z14).2).2).2).2).1).1 (((((((z14).2).2).2).2).1).2).1 (((((((z14).2).2).2).2).1).2).2)]), (Value.bool ((z10).2).1)]) (
      .ite (i4 == (34 : Int)) (
        .store (Addr.add z3 0) (Value.int IntKind.i64 (4 : Int)) <|
        .call 67 #[(Value.pointer q0)] .bool fun (b15 : Bool) =>
        .ptr q0 fun (z16 : Addr) =>
        .load (Addr.add z16 1) (.int .i64) fun (i17 : Int) =>
        .store (Addr.add z3 2) (Value.int IntKind.i64 i17) <|
        .eff (Instr.loadAt 60 (Value.pointer (some z3))) (.agg (.cons (.int .i64) (.cons (.int .i64) (.cons (.int .i64) (.cons .slice (.cons .slice .nil)))))) fun (z18 : (Int × (Int × (Int × (((Option Addr) × (Nat × Nat)) × (((Option Addr) × (Nat × Nat)) × PUnit)))))) =>
        .effU (Instr.storeAt 60 (Value.pointer (some z0)) (Value.agg #[(Value.int IntKind.i64 (z18).1), (Value.int IntKind.i64 ((z18).2).1), (Value.int IntKind.i64 (((z18).2).2).1), (Value.slice (((((z18).2).2).2).1).1 ((((((z18).2).2).2).1).2).1 ((((((z18).2).2).2).1).2).2), (Value.slice ((((((z18).2).2).2).2).1).1 (((((((z18).2).2).2).2).1).2).1 (((((((z18).2).2).2).2).1).2).2)])) <|
        .effS (Instr.loadAt 60 (Value.pointer (some z0))) (.agg (.cons (.int .i64) (.cons (.int .i64) (.cons (.int .i64) (.cons .slice (.cons .slice .nil)))))) fun (z19 : (Int × (Int × (Int × (((Option Addr) × (Nat × Nat)) × (((Option Addr) × (Nat × Nat)) × PUnit)))))) =>
        .leaf 0 [(Value.agg #[(Value.int IntKind.i64 (z19).1), (Value.int IntKind.i64 ((z19).2).1), (Value.int IntKind.i64 (((z19).2).2).1), (Value.slice (((((z19).2).2).2).1).1 ((((((z19).2).2).2).1).2).1 ((((((z19).2).2).2).1).2).2), (Value.slice ((((((z19).2).2).2).2).1).1 (((((((z19).2).2).2).2).1).2).1 (((((((z19).2).2).2).2).1).2).2)]), (Value.bool b15)]) (
        .cut 1 (.cons .bool .nil) (
          .ite (i4 == (45 : Int)) (
            .leaf 1 [(Value.bool Bool.true)]) (
            .ite (decide ((48 : Int) ≤ i4)) (
              .leaf 1 [(Value.bool (decide (i4 ≤ (57 : Int))))]) (
              .leaf 1 [(Value.bool Bool.false)])))
          (fun z => spec_reader_value.t1 q0 z0 z3 z.1))))
def spec_reader_value.h : Hints := ⟨[], [], [(14, [(42, .bool)])], []⟩
noncomputable def spec_reader_value.c : Code := (Tryz.f42.body).getD .skip
theorem spec_reader_value.e (q0 : (Option Addr)) : fnT Tryz.prog spec_reader_value.h Tryz.f42 spec_reader_value.c [.v (Value.pointer q0)] = spec_reader_value.t q0 := by kernel_rfl
theorem spec_reader_value.calls (q0 : (Option Addr)) {w : World} {R : Ending → World → Prop} (hs : sat Tryz.prog (spec_reader_value.t q0) (fun l vs w' => l = 0 ∧ R (.returned (retVal vs)) w') w) : Calls Tryz.prog 42 #[(Value.pointer q0)] w R :=
  have h := calls_of_tree (w := w) (R := R) (args := [.v (Value.pointer q0)]) (c := spec_reader_value.c) Tryz.func42 (show Tryz.f42.body = some spec_reader_value.c by kernel_rfl) (of_decide_eq_true (by kernel_rfl)) (spec_reader_value.e q0) hs
  h

/-! ### (*pub-tetrapla/spec.reader).members : function 65 -/
def spec_reader_members.t2 (q0 : (Option Addr)) (z4 : ((Option Addr) × (Nat × Nat))) (z5 : ((Option Addr) × (Nat × Nat))) (i7 : Int) (b10 : Bool) : T :=
  .ite b10 (
    .leaf 0 [(Value.slice none 0 0), (Value.slice none 0 0), (Value.bool Bool.false)]) (
    .ptr q0 fun (z11 : Addr) =>
    .load (Addr.add z11 1) (.int .i64) fun (i12 : Int) =>
    .eff (Instr.buildSlice 57 1 #[(0, (Value.agg #[(Value.int IntKind.i64 i7), (Value.int IntKind.i64 i12)]))]) .slice fun (z13 : ((Option Addr) × (Nat × Nat))) =>
    .eff (Builtin.append_ (Call.argTypes (Call.mk (Callee.builtin Builtin.append) #[(Operand.tmp 33), (Operand.tmp 40)] #[57, 57])) 57 #[(Value.slice (z5).1 ((z5).2).1 ((z5).2).2), (Value.slice (z13).1 ((z13).2).1 ((z13).2).2)]) .slice fun (z14 : ((Option Addr) × (Nat × Nat))) =>
    .call 41 #[(Value.pointer q0)] (.tuple .nil) fun _ =>
    .call 85 #[(Value.pointer q0), (Value.int IntKind.u8 (58 : Int))] .bool fun (b15 : Bool) =>
    .ite (!b15) (
      .leaf 0 [(Value.slice none 0 0), (Value.slice none 0 0), (Value.bool Bool.false)]) (
      .call 41 #[(Value.pointer q0)] (.tuple .nil) fun _ =>
      .call 42 #[(Value.pointer q0)] (.tuple (.cons (.agg (.cons (.int .i64) (.cons (.int .i64) (.cons (.int .i64) (.cons .slice (.cons .slice .nil)))))) (.cons .bool .nil))) fun (z16 : ((Int × (Int × (Int × (((Option Addr) × (Nat × Nat)) × (((Option Addr) × (Nat × Nat)) × PUnit))))) × (Bool × PUnit))) =>
      .alloc (Obj.cells #[(Value.int IntKind.i64 (0 : Int)), (Value.int IntKind.i64 (0 : Int)), (Value.int IntKind.i64 (0 : Int)), (Value.slice none 0 0), (Value.slice none 0 0)] 60 (0, 0)) fun (z17 : Addr) =>
      .effU (Instr.storeAt 60 (Value.pointer (some z17)) (Value.agg #[(Value.int IntKind.i64 ((z16).1).1), (Value.int IntKind.i64 (((z16).1).2).1), (Value.int IntKind.i64 ((((z16).1).2).2).1), (Value.slice ((((((z16).1).2).2).2).1).1 (((((((z16).1).2).2).2).1).2).1 (((((((z16).1).2).2).2).1).2).2), (Value.slice (((((((z16).1).2).2).2).2).1).1 ((((((((z16).1).2).2).2).2).1).2).1 ((((((((z16).1).2).2).2).2).1).2).2)])) <|
      .ite (!((z16).2).1) (
        .leaf 0 [(Value.slice none 0 0), (Value.slice none 0 0), (Value.bool Bool.false)]) (
        .eff (Instr.loadAt 60 (Value.pointer (some z17))) (.agg (.cons (.int .i64) (.cons (.int .i64) (.cons (.int .i64) (.cons .slice (.cons .slice .nil)))))) fun (z18 : (Int × (Int × (Int × (((Option Addr) × (Nat × Nat)) × (((Option Addr) × (Nat × Nat)) × PUnit)))))) =>
        .eff (Instr.buildSlice 58 1 #[(0, (Value.agg #[(Value.int IntKind.i64 (z18).1), (Value.int IntKind.i64 ((z18).2).1), (Value.int IntKind.i64 (((z18).2).2).1), (Value.slice (((((z18).2).2).2).1).1 ((((((z18).2).2).2).1).2).1 ((((((z18).2).2).2).1).2).2), (Value.slice ((((((z18).2).2).2).2).1).1 (((((((z18).2).2).2).2).1).2).1 (((((((z18).2).2).2).2).1).2).2)]))]) .slice fun (z19 : ((Option Addr) × (Nat × Nat))) =>
        .eff (Builtin.append_ (Call.argTypes (Call.mk (Callee.builtin Builtin.append) #[(Operand.tmp 56), (Operand.tmp 58)] #[58, 58])) 58 #[(Value.slice (z4).1 ((z4).2).1 ((z4).2).2), (Value.slice (z19).1 ((z19).2).1 ((z19).2).2)]) .slice fun (z20 : ((Option Addr) × (Nat × Nat))) =>
        .call 41 #[(Value.pointer q0)] (.tuple .nil) fun _ =>
        .call 85 #[(Value.pointer q0), (Value.int IntKind.u8 (125 : Int))] .bool fun (b21 : Bool) =>
        .ite b21 (
          .leaf 0 [(Value.slice (z14).1 ((z14).2).1 ((z14).2).2), (Value.slice (z20).1 ((z20).2).1 ((z20).2).2), (Value.bool Bool.true)]) (
          .call 85 #[(Value.pointer q0), (Value.int IntKind.u8 (44 : Int))] .bool fun (b22 : Bool) =>
          .ite (!b22) (
            .leaf 0 [(Value.slice none 0 0), (Value.slice none 0 0), (Value.bool Bool.false)]) (
            .call 41 #[(Value.pointer q0)] (.tuple .nil) fun _ =>
            .leaf 1 [(Value.slice (z20).1 ((z20).2).1 ((z20).2).2), (Value.slice (z14).1 ((z14).2).1 ((z14).2).2)])))))
def spec_reader_members.t1 (q0 : (Option Addr)) (z4 : ((Option Addr) × (Nat × Nat))) (z5 : ((Option Addr) × (Nat × Nat))) : T :=
  .ptr q0 fun (z6 : Addr) =>
  .load (Addr.add z6 1) (.int .i64) fun (i7 : Int) =>
  .cut 2 (.cons .bool .nil) (
    .call 64 #[(Value.pointer q0)] (.int .u8) fun (i8 : Int) =>
    .ite (i8 != (34 : Int)) (
      .leaf 2 [(Value.bool Bool.true)]) (
      .call 67 #[(Value.pointer q0)] .bool fun (b9 : Bool) =>
      .leaf 2 [(Value.bool (!b9))]))
    (fun z => spec_reader_members.t2 q0 z4 z5 i7 z.1)
def spec_reader_members.t (q0 : (Option Addr)) : T :=
  .ptr q0 fun (z0 : Addr) =>
  .load (Addr.add z0 1) (.int .i64) fun (i1 : Int) =>
  .ptr q0 fun (z2 : Addr) =>
  .store (Addr.add z2 1) (Value.int IntKind.i64 (IntKind.wrap IntKind.i64 (i1 + (1 : Int)))) <|
  .call 41 #[(Value.pointer q0)] (.tuple .nil) fun _ =>
  .call 85 #[(Value.pointer q0), (Value.int IntKind.u8 (125 : Int))] .bool fun (b3 : Bool) =>
  .ite b3 (
    .leaf 0 [(Value.slice none 0 0), (Value.slice none 0 0), (Value.bool Bool.true)]) (
    .loop 1 (.cons .slice (.cons .slice .nil)) [(Value.slice none 0 0), (Value.slice none 0 0)]
      (fun z => spec_reader_members.t1 q0 z.1 z.2.1))
def spec_reader_members.h : Hints := ⟨[], [], [(8, [(32, .bool)])], [(7, [(6, .slice), (5, .slice)])]⟩
noncomputable def spec_reader_members.c : Code := (Tryz.f65.body).getD .skip
theorem spec_reader_members.e (q0 : (Option Addr)) : fnT Tryz.prog spec_reader_members.h Tryz.f65 spec_reader_members.c [.v (Value.pointer q0)] = spec_reader_members.t q0 := by kernel_rfl
theorem spec_reader_members.calls (q0 : (Option Addr)) {w : World} {R : Ending → World → Prop} (hs : sat Tryz.prog (spec_reader_members.t q0) (fun l vs w' => l = 0 ∧ R (.returned (retVal vs)) w') w) : Calls Tryz.prog 65 #[(Value.pointer q0)] w R :=
  have h := calls_of_tree (w := w) (R := R) (args := [.v (Value.pointer q0)]) (c := spec_reader_members.c) Tryz.func65 (show Tryz.f65.body = some spec_reader_members.c by kernel_rfl) (of_decide_eq_true (by kernel_rfl)) (spec_reader_members.e q0) hs
  h

/-! ### (*pub-tetrapla/spec.reader).elements : function 66 -/
def spec_reader_elements.t1 (r : (Option Addr)) (z4 : ((Option Addr) × (Nat × Nat))) : T :=
  .call 42 #[(Value.pointer r)] (.tuple (.cons (.agg (.cons (.int .i64) (.cons (.int .i64) (.cons (.int .i64) (.cons .slice (.cons .slice .nil)))))) (.cons .bool .nil))) fun (z5 : ((Int × (Int × (Int × (((Option Addr) × (Nat × Nat)) × (((Option Addr) × (Nat × Nat)) × PUnit))))) × (Bool × PUnit))) =>
  .alloc (Obj.cells #[(Value.int IntKind.i64 (0 : Int)), (Value.int IntKind.i64 (0 : Int)), (Value.int IntKind.i64 (0 : Int)), (Value.slice none 0 0), (Value.slice none 0 0)] 60 (0, 0)) fun (z6 : Addr) =>
  .effU (Instr.storeAt 60 (Value.pointer (some z6)) (Value.agg #[(Value.int IntKind.i64 ((z5).1).1), (Value.int IntKind.i64 (((z5).1).2).1), (Value.int IntKind.i64 ((((z5).1).2).2).1), (Value.slice ((((((z5).1).2).2).2).1).1 (((((((z5).1).2).2).2).1).2).1 (((((((z5).1).2).2).2).1).2).2), (Value.slice (((((((z5).1).2).2).2).2).1).1 ((((((((z5).1).2).2).2).2).1).2).1 ((((((((z5).1).2).2).2).2).1).2).2)])) <|
  .ite (!((z5).2).1) (
    .leaf 0 [(Value.slice none 0 0), (Value.bool Bool.false)]) (
    .eff (Instr.loadAt 60 (Value.pointer (some z6))) (.agg (.cons (.int .i64) (.cons (.int .i64) (.cons (.int .i64) (.cons .slice (.cons .slice .nil)))))) fun (z7 : (Int × (Int × (Int × (((Option Addr) × (Nat × Nat)) × (((Option Addr) × (Nat × Nat)) × PUnit)))))) =>
    .eff (Instr.buildSlice 58 1 #[(0, (Value.agg #[(Value.int IntKind.i64 (z7).1), (Value.int IntKind.i64 ((z7).2).1), (Value.int IntKind.i64 (((z7).2).2).1), (Value.slice (((((z7).2).2).2).1).1 ((((((z7).2).2).2).1).2).1 ((((((z7).2).2).2).1).2).2), (Value.slice ((((((z7).2).2).2).2).1).1 (((((((z7).2).2).2).2).1).2).1 (((((((z7).2).2).2).2).1).2).2)]))]) .slice fun (z8 : ((Option Addr) × (Nat × Nat))) =>
    .eff (Builtin.append_ (Call.argTypes (Call.mk (Callee.builtin Builtin.append) #[(Operand.tmp 25), (Operand.tmp 27)] #[58, 58])) 58 #[(Value.slice (z4).1 ((z4).2).1 ((z4).2).2), (Value.slice (z8).1 ((z8).2).1 ((z8).2).2)]) .slice fun (z9 : ((Option Addr) × (Nat × Nat))) =>
    .call 41 #[(Value.pointer r)] (.tuple .nil) fun _ =>
    .call 85 #[(Value.pointer r), (Value.int IntKind.u8 (93 : Int))] .bool fun (b10 : Bool) =>
    .ite b10 (
      .leaf 0 [(Value.slice (z9).1 ((z9).2).1 ((z9).2).2), (Value.bool Bool.true)]) (
      .call 85 #[(Value.pointer r), (Value.int IntKind.u8 (44 : Int))] .bool fun (b11 : Bool) =>
      .ite (!b11) (
        .leaf 0 [(Value.slice none 0 0), (Value.bool Bool.false)]) (
        .call 41 #[(Value.pointer r)] (.tuple .nil) fun _ =>
        .leaf 1 [(Value.slice (z9).1 ((z9).2).1 ((z9).2).2)])))
def spec_reader_elements.t (r : (Option Addr)) : T :=
  .ptr r fun (z0 : Addr) =>
  .load (Addr.add z0 1) (.int .i64) fun (i1 : Int) =>
  .ptr r fun (z2 : Addr) =>
  .store (Addr.add z2 1) (Value.int IntKind.i64 (IntKind.wrap IntKind.i64 (i1 + (1 : Int)))) <|
  .call 41 #[(Value.pointer r)] (.tuple .nil) fun _ =>
  .call 85 #[(Value.pointer r), (Value.int IntKind.u8 (93 : Int))] .bool fun (b3 : Bool) =>
  .ite b3 (
    .leaf 0 [(Value.slice none 0 0), (Value.bool Bool.true)]) (
    .loop 1 (.cons .slice .nil) [(Value.slice none 0 0)]
      (fun z => spec_reader_elements.t1 r z.1))
def spec_reader_elements.h : Hints := ⟨[], [], [], [(6, [(4, .slice)])]⟩
noncomputable def spec_reader_elements.c : Code := (Tryz.f66.body).getD .skip
theorem spec_reader_elements.e (r : (Option Addr)) : fnT Tryz.prog spec_reader_elements.h Tryz.f66 spec_reader_elements.c [.v (Value.pointer r)] = spec_reader_elements.t r := by kernel_rfl
theorem spec_reader_elements.calls (r : (Option Addr)) {w : World} {R : Ending → World → Prop} (hs : sat Tryz.prog (spec_reader_elements.t r) (fun l vs w' => l = 0 ∧ R (.returned (retVal vs)) w') w) : Calls Tryz.prog 66 #[(Value.pointer r)] w R :=
  have h := calls_of_tree (w := w) (R := R) (args := [.v (Value.pointer r)]) (c := spec_reader_elements.c) Tryz.func66 (show Tryz.f66.body = some spec_reader_elements.c by kernel_rfl) (of_decide_eq_true (by kernel_rfl)) (spec_reader_elements.e r) hs
  h

end Go.Proofs.YtkpnomdmnhhaoaaGreatDoor.Tr
