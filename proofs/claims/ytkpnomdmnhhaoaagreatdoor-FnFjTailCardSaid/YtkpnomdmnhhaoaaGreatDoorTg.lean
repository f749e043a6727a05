/- Trees of loaded functions, printed by wip/tools/rxprint (a program of this repo): each is what 'exec' comes to, held by the kernel. No statement of the set is proved here. -/
import Derived.Test.YtkpnomdmnhhaoaaGreatDoorRz
import Derived.Test.YtkpnomdmnhhaoaaGreatDoorProg
import Derived.KernelRfl
namespace Go.Proofs.YtkpnomdmnhhaoaaGreatDoor.Tr
open Go Go.Proofs Go.Proofs.YtkpnomdmnhhaoaaGreatDoor.Rx
set_option linter.unusedVariables false
set_option maxRecDepth 100000
/-! ### pub-tetrapla/spec.Read : function 14 -/
def spec_Read.t (text : ByteArray) : T :=
  .alloc (Obj.cells #[(Value.int IntKind.i64 (0 : Int)), (Value.string (ByteArray.mk #[])), (Value.slice none 0 0), (Value.slice none 0 0)] 26 (0, 0)) fun (z0 : Addr) =>
  .call 25 #[(Value.string text)] (.tuple (.cons (.agg (.cons (.int .i64) (.cons (.int .i64) (.cons (.int .i64) (.cons .slice (.cons .slice .nil)))))) (.cons .bool .nil))) fun (z1 : ((Int × (Int × (Int × (((Option Addr) × (Nat × Nat)) × (((Option Addr) × (Nat × Nat)) × PUnit))))) × (Bool × PUnit))) =>
  .alloc (Obj.cells #[(Value.int IntKind.i64 (0 : Int)), (Value.int IntKind.i64 (0 : Int)), (Value.int IntKind.i64 (0 : Int)), (Value.slice none 0 0), (Value.slice none 0 0)] 60 (0, 0)) fun (z2 : Addr) =>
  .effU (Instr.storeAt 60 (Value.pointer (some z2)) (Value.agg #[(Value.int IntKind.i64 ((z1).1).1), (Value.int IntKind.i64 (((z1).1).2).1), (Value.int IntKind.i64 ((((z1).1).2).2).1), (Value.slice ((((((z1).1).2).2).2).1).1 (((((((z1).1).2).2).2).1).2).1 (((((((z1).1).2).2).2).1).2).2), (Value.slice (((((((z1).1).2).2).2).2).1).1 ((((((((z1).1).2).2).2).2).1).2).1 ((((((((z1).1).2).2).2).2).1).2).2)])) <|
  .ite (!((z1).2).1) (
    .effU (Instr.storeAt 26 (Value.pointer (some z0)) (Value.agg #[(Value.int IntKind.i64 (0 : Int)), (Value.string (ByteArray.mk #[])), (Value.slice none 0 0), (Value.slice none 0 0)])) <|
    .effS (Instr.loadAt 26 (Value.pointer (some z0))) (.agg (.cons (.int .i64) (.cons .str (.cons .slice (.cons .slice .nil))))) fun (z3 : (Int × (ByteArray × (((Option Addr) × (Nat × Nat)) × (((Option Addr) × (Nat × Nat)) × PUnit))))) =>
    .leaf 0 [(Value.agg #[(Value.int IntKind.i64 (z3).1), (Value.string ((z3).2).1), (Value.slice ((((z3).2).2).1).1 (((((z3).2).2).1).2).1 (((((z3).2).2).1).2).2), (Value.slice (((((z3).2).2).2).1).1 ((((((z3).2).2).2).1).2).1 ((((((z3).2).2).2).1).2).2)]), (Value.bool Bool.false)]) (
    .eff (Instr.loadAt 60 (Value.pointer (some z2))) (.agg (.cons (.int .i64) (.cons (.int .i64) (.cons (.int .i64) (.cons .slice (.cons .slice .nil)))))) fun (z4 : (Int × (Int × (Int × (((Option Addr) × (Nat × Nat)) × (((Option Addr) × (Nat × Nat)) × PUnit)))))) =>
    .call 26 #[(Value.string text), (Value.agg #[(Value.int IntKind.i64 (z4).1), (Value.int IntKind.i64 ((z4).2).1), (Value.int IntKind.i64 (((z4).2).2).1), (Value.slice (((((z4).2).2).2).1).1 ((((((z4).2).2).2).1).2).1 ((((((z4).2).2).2).1).2).2), (Value.slice ((((((z4).2).2).2).2).1).1 (((((((z4).2).2).2).2).1).2).1 (((((((z4).2).2).2).2).1).2).2)])] (.agg (.cons (.int .i64) (.cons .str (.cons .slice (.cons .slice .nil))))) fun (z5 : (Int × (ByteArray × (((Option Addr) × (Nat × Nat)) × (((Option Addr) × (Nat × Nat)) × PUnit))))) =>
    .effU (Instr.storeAt 26 (Value.pointer (some z0)) (Value.agg #[(Value.int IntKind.i64 (z5).1), (Value.string ((z5).2).1), (Value.slice ((((z5).2).2).1).1 (((((z5).2).2).1).2).1 (((((z5).2).2).1).2).2), (Value.slice (((((z5).2).2).2).1).1 ((((((z5).2).2).2).1).2).1 ((((((z5).2).2).2).1).2).2)])) <|
    .effS (Instr.loadAt 26 (Value.pointer (some z0))) (.agg (.cons (.int .i64) (.cons .str (.cons .slice (.cons .slice .nil))))) fun (z6 : (Int × (ByteArray × (((Option Addr) × (Nat × Nat)) × (((Option Addr) × (Nat × Nat)) × PUnit))))) =>
    .leaf 0 [(Value.agg #[(Value.int IntKind.i64 (z6).1), (Value.string ((z6).2).1), (Value.slice ((((z6).2).2).1).1 (((((z6).2).2).1).2).1 (((((z6).2).2).1).2).2), (Value.slice (((((z6).2).2).2).1).1 ((((((z6).2).2).2).1).2).1 ((((((z6).2).2).2).1).2).2)]), (Value.bool Bool.true)])
def spec_Read.h : Hints := ⟨[], [], [], []⟩
noncomputable def spec_Read.c : Code := (Tryz.f14.body).getD .skip
theorem spec_Read.e (text : ByteArray) : fnT Tryz.prog spec_Read.h Tryz.f14 spec_Read.c [.v (Value.string text)] = spec_Read.t text := by kernel_rfl
theorem spec_Read.calls (text : ByteArray) {w : World} {R : Ending → World → Prop} (hs : sat Tryz.prog (spec_Read.t text) (fun l vs w' => l = 0 ∧ R (.returned (retVal vs)) w') w) : Calls Tryz.prog 14 #[(Value.string text)] w R :=
  have h := calls_of_tree (w := w) (R := R) (args := [.v (Value.string text)]) (c := spec_Read.c) Tryz.func14 (show Tryz.f14.body = some spec_Read.c by kernel_rfl) (of_decide_eq_true (by kernel_rfl)) (spec_Read.e text) hs
  h

/-! ### pub-tetrapla/spec.Tree : function 26 -/
def spec_Tree.t1 : T :=
  .leaf 2 []
def spec_Tree.t2 : T :=
  .leaf 1 []
def spec_Tree.t5 (q0 : ByteArray) (z0 : Addr) (z1 : Addr) (z3 : Addr) (i24 : Int) : T :=
  .load (Addr.add z0 4) .slice fun (z25 : ((Option Addr) × (Nat × Nat))) =>
  .ite (decide (i24 < ((((z25).2).1 : Nat) : Int))) (
    .drew <|
    .load (Addr.add z3 3) .slice fun (z26 : ((Option Addr) × (Nat × Nat))) =>
    .load (Addr.add z0 4) .slice fun (z27 : ((Option Addr) × (Nat × Nat))) =>
    .chk (((0 : Int) ≤ i24) ∧ (i24 < ((((z27).2).1 : Nat) : Int))) <|
    .ptr (z27).1 fun (z28 : Addr) =>
    .effQ (Instr.loadAt 60 (Value.pointer (some (Addr.add z28 ((Int.toNat i24) * 5))))) (.agg (.cons (.int .i64) (.cons (.int .i64) (.cons (.int .i64) (.cons .slice (.cons .slice .nil)))))) fun (z29 : (Int × (Int × (Int × (((Option Addr) × (Nat × Nat)) × (((Option Addr) × (Nat × Nat)) × PUnit)))))) =>
    .here fun (z30 : World) =>
    .call 26 #[(Value.string q0), (Value.agg #[(Value.int IntKind.i64 (z29).1), (Value.int IntKind.i64 ((z29).2).1), (Value.int IntKind.i64 (((z29).2).2).1), (Value.slice (((((z29).2).2).2).1).1 ((((((z29).2).2).2).1).2).1 ((((((z29).2).2).2).1).2).2), (Value.slice ((((((z29).2).2).2).2).1).1 (((((((z29).2).2).2).2).1).2).1 (((((((z29).2).2).2).2).1).2).2)])] (.agg (.cons (.int .i64) (.cons .str (.cons .slice (.cons .slice .nil))))) fun (z31 : (Int × (ByteArray × (((Option Addr) × (Nat × Nat)) × (((Option Addr) × (Nat × Nat)) × PUnit))))) =>
    .grew z30 <|
    .here fun (z32 : World) =>
    .eff (Instr.buildSlice 24 1 #[(0, (Value.agg #[(Value.int IntKind.i64 (z31).1), (Value.string ((z31).2).1), (Value.slice ((((z31).2).2).1).1 (((((z31).2).2).1).2).1 (((((z31).2).2).1).2).2), (Value.slice (((((z31).2).2).2).1).1 ((((((z31).2).2).2).1).2).1 ((((((z31).2).2).2).1).2).2)]))]) .slice fun (z33 : ((Option Addr) × (Nat × Nat))) =>
    .grew z32 <|
    .eff (Builtin.append_ (Call.argTypes (Call.mk (Callee.builtin Builtin.append) #[(Operand.tmp 67), (Operand.tmp 75)] #[24, 24])) 24 #[(Value.slice (z26).1 ((z26).2).1 ((z26).2).2), (Value.slice (z33).1 ((z33).2).1 ((z33).2).2)]) .slice fun (z34 : ((Option Addr) × (Nat × Nat))) =>
    .store (Addr.add z3 3) (Value.slice (z34).1 ((z34).2).1 ((z34).2).2) <|
    .leaf 1 [(Value.int IntKind.i64 (IntKind.wrap IntKind.i64 (i24 + (1 : Int))))]) (
    .eff (Instr.loadAt 26 (Value.pointer (some z3))) (.agg (.cons (.int .i64) (.cons .str (.cons .slice (.cons .slice .nil))))) fun (z35 : (Int × (ByteArray × (((Option Addr) × (Nat × Nat)) × (((Option Addr) × (Nat × Nat)) × PUnit))))) =>
    .effU (Instr.storeAt 26 (Value.pointer (some z1)) (Value.agg #[(Value.int IntKind.i64 (z35).1), (Value.string ((z35).2).1), (Value.slice ((((z35).2).2).1).1 (((((z35).2).2).1).2).1 (((((z35).2).2).1).2).2), (Value.slice (((((z35).2).2).2).1).1 ((((((z35).2).2).2).1).2).1 ((((((z35).2).2).2).1).2).2)])) <|
    .effS (Instr.loadAt 26 (Value.pointer (some z1))) (.agg (.cons (.int .i64) (.cons .str (.cons .slice (.cons .slice .nil))))) fun (z36 : (Int × (ByteArray × (((Option Addr) × (Nat × Nat)) × (((Option Addr) × (Nat × Nat)) × PUnit))))) =>
    .leaf 0 [(Value.agg #[(Value.int IntKind.i64 (z36).1), (Value.string ((z36).2).1), (Value.slice ((((z36).2).2).1).1 (((((z36).2).2).1).2).1 (((((z36).2).2).1).2).2), (Value.slice (((((z36).2).2).2).1).1 ((((((z36).2).2).2).1).2).1 ((((((z36).2).2).2).1).2).2)])])
def spec_Tree.t4 (q0 : ByteArray) (z0 : Addr) (z1 : Addr) (z3 : Addr) (i10 : Int) : T :=
  .load (Addr.add z0 3) .slice fun (z11 : ((Option Addr) × (Nat × Nat))) =>
  .ite (decide (i10 < ((((z11).2).1 : Nat) : Int))) (
    .drew <|
    .load (Addr.add z3 2) .slice fun (z12 : ((Option Addr) × (Nat × Nat))) =>
    .load (Addr.add z0 3) .slice fun (z13 : ((Option Addr) × (Nat × Nat))) =>
    .chk (((0 : Int) ≤ i10) ∧ (i10 < ((((z13).2).1 : Nat) : Int))) <|
    .ptr (z13).1 fun (z14 : Addr) =>
    .load (Addr.add (Addr.add z14 ((Int.toNat i10) * 2)) 0) (.int .i64) fun (i15 : Int) =>
    .load (Addr.add z0 3) .slice fun (z16 : ((Option Addr) × (Nat × Nat))) =>
    .chk (((0 : Int) ≤ i10) ∧ (i10 < ((((z16).2).1 : Nat) : Int))) <|
    .ptr (z16).1 fun (z17 : Addr) =>
    .load (Addr.add (Addr.add z17 ((Int.toNat i10) * 2)) 1) (.int .i64) fun (i18 : Int) =>
    .chk (((0 : Int) ≤ i15) ∧ ((i15 ≤ i18) ∧ (i18 ≤ (((ByteArray.size q0) : Nat) : Int)))) <|
    .here fun (z19 : World) =>
    .call 43 #[(Value.string (ByteArray.extract q0 (Int.toNat i15) (Int.toNat i18)))] .str fun (s20 : ByteArray) =>
    .grew z19 <|
    .here fun (z21 : World) =>
    .eff (Instr.buildSlice 23 1 #[(0, (Value.string s20))]) .slice fun (z22 : ((Option Addr) × (Nat × Nat))) =>
    .grew z21 <|
    .eff (Builtin.append_ (Call.argTypes (Call.mk (Callee.builtin Builtin.append) #[(Operand.tmp 40), (Operand.tmp 56)] #[23, 23])) 23 #[(Value.slice (z12).1 ((z12).2).1 ((z12).2).2), (Value.slice (z22).1 ((z22).2).1 ((z22).2).2)]) .slice fun (z23 : ((Option Addr) × (Nat × Nat))) =>
    .store (Addr.add z3 2) (Value.slice (z23).1 ((z23).2).1 ((z23).2).2) <|
    .leaf 1 [(Value.int IntKind.i64 (IntKind.wrap IntKind.i64 (i10 + (1 : Int))))]) (
    .loop 1 (.cons (.int .i64) .nil) [(Value.int IntKind.i64 (0 : Int))]
      (fun z => spec_Tree.t5 q0 z0 z1 z3 z.1))
def spec_Tree.t3 (q0 : ByteArray) (z0 : Addr) (z1 : Addr) (z3 : Addr) : T :=
  .loop 1 (.cons (.int .i64) .nil) [(Value.int IntKind.i64 (0 : Int))]
    (fun z => spec_Tree.t4 q0 z0 z1 z3 z.1)
def spec_Tree.t (q0 : ByteArray) (q1_0 : Int) (q1_1 : Int) (q1_2 : Int) (q1_3 : (Option Addr)) (q1_3_len : Nat) (q1_3_cap : Nat) (q1_4 : (Option Addr)) (q1_4_len : Nat) (q1_4_cap : Nat) : T :=
  .alloc (Obj.cells #[(Value.int IntKind.i64 q1_0), (Value.int IntKind.i64 q1_1), (Value.int IntKind.i64 q1_2), (Value.slice q1_3 q1_3_len q1_3_cap), (Value.slice q1_4 q1_4_len q1_4_cap)] 60 (0, 0)) fun (z0 : Addr) =>
  .alloc (Obj.cells #[(Value.int IntKind.i64 (0 : Int)), (Value.string (ByteArray.mk #[])), (Value.slice none 0 0), (Value.slice none 0 0)] 26 (0, 0)) fun (z1 : Addr) =>
  .load (Addr.add z0 0) (.int .i64) fun (i2 : Int) =>
  .alloc (Obj.cells #[(Value.int IntKind.i64 (0 : Int)), (Value.string (ByteArray.mk #[])), (Value.slice none 0 0), (Value.slice none 0 0)] 26 (0, 0)) fun (z3 : Addr) =>
  .effU (Instr.storeAt 26 (Value.pointer (some z3)) (Value.agg #[(Value.int IntKind.i64 i2), (Value.string (ByteArray.mk #[])), (Value.slice none 0 0), (Value.slice none 0 0)])) <|
  .load (Addr.add z0 0) (.int .i64) fun (i4 : Int) =>
  .cut 1 .nil (
    .cut 2 .nil (
      .ite (i4 == (3 : Int)) (
        .load (Addr.add z0 1) (.int .i64) fun (i5 : Int) =>
        .load (Addr.add z0 2) (.int .i64) fun (i6 : Int) =>
        .chk (((0 : Int) ≤ i5) ∧ ((i5 ≤ i6) ∧ (i6 ≤ (((ByteArray.size q0) : Nat) : Int)))) <|
        .store (Addr.add z3 1) (Value.string (ByteArray.extract q0 (Int.toNat i5) (Int.toNat i6))) <|
        .leaf 2 []) (
        .cut 3 .nil (
          .ite (i4 == (4 : Int)) (
            .load (Addr.add z0 1) (.int .i64) fun (i7 : Int) =>
            .load (Addr.add z0 2) (.int .i64) fun (i8 : Int) =>
            .chk (((0 : Int) ≤ i7) ∧ ((i7 ≤ i8) ∧ (i8 ≤ (((ByteArray.size q0) : Nat) : Int)))) <|
            .call 43 #[(Value.string (ByteArray.extract q0 (Int.toNat i7) (Int.toNat i8)))] .str fun (s9 : ByteArray) =>
            .store (Addr.add z3 1) (Value.string s9) <|
            .leaf 3 []) (
            .leaf 3 []))
          (fun _ => spec_Tree.t1)))
      (fun _ => spec_Tree.t2))
    (fun _ => spec_Tree.t3 q0 z0 z1 z3)
def spec_Tree.h : Hints := ⟨[(13, []), (22, [])], [(0, [])], [], [(8, [(6, (.int .i64))]), (12, [(7, (.int .i64))])]⟩
noncomputable def spec_Tree.c : Code := (Tryz.f26.body).getD .skip
theorem spec_Tree.e (q0 : ByteArray) (q1_0 : Int) (q1_1 : Int) (q1_2 : Int) (q1_3 : (Option Addr)) (q1_3_len : Nat) (q1_3_cap : Nat) (q1_4 : (Option Addr)) (q1_4_len : Nat) (q1_4_cap : Nat) : fnT Tryz.prog spec_Tree.h Tryz.f26 spec_Tree.c [.v (Value.string q0), .v (Value.agg #[(Value.int IntKind.i64 q1_0), (Value.int IntKind.i64 q1_1), (Value.int IntKind.i64 q1_2), (Value.slice q1_3 q1_3_len q1_3_cap), (Value.slice q1_4 q1_4_len q1_4_cap)])] = spec_Tree.t q0 q1_0 q1_1 q1_2 q1_3 q1_3_len q1_3_cap q1_4 q1_4_len q1_4_cap := by kernel_rfl
theorem spec_Tree.calls (q0 : ByteArray) (q1_0 : Int) (q1_1 : Int) (q1_2 : Int) (q1_3 : (Option Addr)) (q1_3_len : Nat) (q1_3_cap : Nat) (q1_4 : (Option Addr)) (q1_4_len : Nat) (q1_4_cap : Nat) {w : World} {R : Ending → World → Prop} (hs : sat Tryz.prog (spec_Tree.t q0 q1_0 q1_1 q1_2 q1_3 q1_3_len q1_3_cap q1_4 q1_4_len q1_4_cap) (fun l vs w' => l = 0 ∧ R (.returned (retVal vs)) w') w) : Calls Tryz.prog 26 #[(Value.string q0), (Value.agg #[(Value.int IntKind.i64 q1_0), (Value.int IntKind.i64 q1_1), (Value.int IntKind.i64 q1_2), (Value.slice q1_3 q1_3_len q1_3_cap), (Value.slice q1_4 q1_4_len q1_4_cap)])] w R :=
  have h := calls_of_tree (w := w) (R := R) (args := [.v (Value.string q0), .v (Value.agg #[(Value.int IntKind.i64 q1_0), (Value.int IntKind.i64 q1_1), (Value.int IntKind.i64 q1_2), (Value.slice q1_3 q1_3_len q1_3_cap), (Value.slice q1_4 q1_4_len q1_4_cap)])]) (c := spec_Tree.c) Tryz.func26 (show Tryz.f26.body = some spec_Tree.c by kernel_rfl) (of_decide_eq_true (by kernel_rfl)) (spec_Tree.e q0 q1_0 q1_1 q1_2 q1_3 q1_3_len q1_3_cap q1_4 q1_4_len q1_4_cap) hs
  h

/-! ### pub-tetrapla/spec.Depth : function 15 -/
def spec_Depth.t2 (z0 : Addr) (i4 : Int) (i5 : Int) : T :=
  .load (Addr.add z0 3) .slice fun (z6 : ((Option Addr) × (Nat × Nat))) =>
  .ite (decide (i4 < ((((z6).2).1 : Nat) : Int))) (
    .load (Addr.add z0 3) .slice fun (z7 : ((Option Addr) × (Nat × Nat))) =>
    .chk (((0 : Int) ≤ i4) ∧ (i4 < ((((z7).2).1 : Nat) : Int))) <|
    .ptr (z7).1 fun (z8 : Addr) =>
    .eff (Instr.loadAt 26 (Value.pointer (some (Addr.add z8 ((Int.toNat i4) * 4))))) (.agg (.cons (.int .i64) (.cons .str (.cons .slice (.cons .slice .nil))))) fun (z9 : (Int × (ByteArray × (((Option Addr) × (Nat × Nat)) × (((Option Addr) × (Nat × Nat)) × PUnit))))) =>
    .call 15 #[(Value.agg #[(Value.int IntKind.i64 (z9).1), (Value.string ((z9).2).1), (Value.slice ((((z9).2).2).1).1 (((((z9).2).2).1).2).1 (((((z9).2).2).1).2).2), (Value.slice (((((z9).2).2).2).1).1 ((((((z9).2).2).2).1).2).1 ((((((z9).2).2).2).1).2).2)])] (.int .i64) fun (i10 : Int) =>
    .eff (Builtin.max_ (Call.argTypes (Call.mk (Callee.builtin Builtin.max) #[(Operand.tmp 20), (Operand.tmp 26)] #[3, 3])) 3 #[(Value.int IntKind.i64 i5), (Value.int IntKind.i64 i10)]) (.int .i64) fun (i11 : Int) =>
    .leaf 1 [(Value.int IntKind.i64 (IntKind.wrap IntKind.i64 (i4 + (1 : Int)))), (Value.int IntKind.i64 i11)]) (
    .leaf 0 [(Value.int IntKind.i64 (IntKind.wrap IntKind.i64 (i5 + (1 : Int))))])
def spec_Depth.t1 (z0 : Addr) (b3 : Bool) : T :=
  .ite b3 (
    .leaf 0 [(Value.int IntKind.i64 (0 : Int))]) (
    .loop 1 (.cons (.int .i64) (.cons (.int .i64) .nil)) [(Value.int IntKind.i64 (0 : Int)), (Value.int IntKind.i64 (0 : Int))]
      (fun z => spec_Depth.t2 z0 z.1 z.2.1))
def spec_Depth.t (n_0 : Int) (n_1 : ByteArray) (n_2 : (Option Addr)) (n_2_len : Nat) (n_2_cap : Nat) (n_3 : (Option Addr)) (n_3_len : Nat) (n_3_cap : Nat) : T :=
  .alloc (Obj.cells #[(Value.int IntKind.i64 n_0), (Value.string n_1), (Value.slice n_2 n_2_len n_2_cap), (Value.slice n_3 n_3_len n_3_cap)] 26 (0, 0)) fun (z0 : Addr) =>
  .cut 1 (.cons .bool .nil) (
    .load (Addr.add z0 0) (.int .i64) fun (i1 : Int) =>
    .ite (i1 != (5 : Int)) (
      .load (Addr.add z0 0) (.int .i64) fun (i2 : Int) =>
      .leaf 1 [(Value.bool (i2 != (6 : Int)))]) (
      .leaf 1 [(Value.bool Bool.false)]))
    (fun z => spec_Depth.t1 z0 z.1)
def spec_Depth.h : Hints := ⟨[], [], [(1, [(12, .bool)])], [(5, [(4, (.int .i64)), (3, (.int .i64))])]⟩
noncomputable def spec_Depth.c : Code := (Tryz.f15.body).getD .skip
theorem spec_Depth.e (n_0 : Int) (n_1 : ByteArray) (n_2 : (Option Addr)) (n_2_len : Nat) (n_2_cap : Nat) (n_3 : (Option Addr)) (n_3_len : Nat) (n_3_cap : Nat) : fnT Tryz.prog spec_Depth.h Tryz.f15 spec_Depth.c [.v (Value.agg #[(Value.int IntKind.i64 n_0), (Value.string n_1), (Value.slice n_2 n_2_len n_2_cap), (Value.slice n_3 n_3_len n_3_cap)])] = spec_Depth.t n_0 n_1 n_2 n_2_len n_2_cap n_3 n_3_len n_3_cap := by kernel_rfl
theorem spec_Depth.calls (n_0 : Int) (n_1 : ByteArray) (n_2 : (Option Addr)) (n_2_len : Nat) (n_2_cap : Nat) (n_3 : (Option Addr)) (n_3_len : Nat) (n_3_cap : Nat) {w : World} {R : Ending → World → Prop} (hs : sat Tryz.prog (spec_Depth.t n_0 n_1 n_2 n_2_len n_2_cap n_3 n_3_len n_3_cap) (fun l vs w' => l = 0 ∧ R (.returned (retVal vs)) w') w) : Calls Tryz.prog 15 #[(Value.agg #[(Value.int IntKind.i64 n_0), (Value.string n_1), (Value.slice n_2 n_2_len n_2_cap), (Value.slice n_3 n_3_len n_3_cap)])] w R :=
  have h := calls_of_tree (w := w) (R := R) (args := [.v (Value.agg #[(Value.int IntKind.i64 n_0), (Value.string n_1), (Value.slice n_2 n_2_len n_2_cap), (Value.slice n_3 n_3_len n_3_cap)])]) (c := spec_Depth.c) Tryz.func15 (show Tryz.f15.body = some spec_Depth.c by kernel_rfl) (of_decide_eq_true (by kernel_rfl)) (spec_Depth.e n_0 n_1 n_2 n_2_len n_2_cap n_3 n_3_len n_3_cap) hs
  h

end Go.Proofs.YtkpnomdmnhhaoaaGreatDoor.Tr
