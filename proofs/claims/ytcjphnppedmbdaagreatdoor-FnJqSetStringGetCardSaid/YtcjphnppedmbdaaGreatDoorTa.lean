/- Trees of loaded functions, printed by wip/tools/rxprint (a program of this repo): each is what 'exec' comes to, held by the kernel. No statement of the set is proved here. -/
import Derived.Test.YtcjphnppedmbdaaGreatDoorRz
import Derived.Test.YtcjphnppedmbdaaGreatDoorProg
import Derived.KernelRfl
namespace Go.Proofs.YtcjphnppedmbdaaGreatDoor.Tr
open Go Go.Proofs Go.Proofs.YtcjphnppedmbdaaGreatDoor.Rx
set_option linter.unusedVariables false
set_option maxRecDepth 100000
/-! ### pub-tetrapla/laws.FnJqArrayWild : function 5 -/
def laws_FnJqArrayWild.t5 (q0 : ByteArray) (z3 : Addr) (z11 : (((Option Addr) × (Nat × Nat)) × (Int × (Bool × PUnit)))) (i14 : Int) : T :=
  .ite (decide (i14 < (((((z11).1).2).1 : Nat) : Int))) (
    .load (Addr.add z3 4) .slice fun (z15 : ((Option Addr) × (Nat × Nat))) =>
    .chk (((0 : Int) ≤ i14) ∧ (i14 < ((((z15).2).1 : Nat) : Int))) <|
    .ptr (z15).1 fun (z16 : Addr) =>
    .eff (Instr.loadAt 27 (Value.pointer (some (Addr.add z16 ((Int.toNat i14) * 5))))) (.agg (.cons (.int .i64) (.cons (.int .i64) (.cons (.int .i64) (.cons .slice (.cons .slice .nil)))))) fun (z17 : (Int × (Int × (Int × (((Option Addr) × (Nat × Nat)) × (((Option Addr) × (Nat × Nat)) × PUnit)))))) =>
    .alloc (Obj.cells #[(Value.int IntKind.i64 (0 : Int)), (Value.int IntKind.i64 (0 : Int)), (Value.int IntKind.i64 (0 : Int)), (Value.slice none 0 0), (Value.slice none 0 0)] 27 (0, 0)) fun (z18 : Addr) =>
    .effU (Instr.storeAt 27 (Value.pointer (some z18)) (Value.agg #[(Value.int IntKind.i64 (z17).1), (Value.int IntKind.i64 ((z17).2).1), (Value.int IntKind.i64 (((z17).2).2).1), (Value.slice (((((z17).2).2).2).1).1 ((((((z17).2).2).2).1).2).1 ((((((z17).2).2).2).1).2).2), (Value.slice ((((((z17).2).2).2).2).1).1 (((((((z17).2).2).2).2).1).2).1 (((((((z17).2).2).2).2).1).2).2)])) <|
    .drew <|
    .chk (((0 : Int) ≤ i14) ∧ (i14 < (((((z11).1).2).1 : Nat) : Int))) <|
    .ptr ((z11).1).1 fun (z19 : Addr) =>
    .effQ (Instr.loadAt 54 (Value.pointer (some (Addr.add z19 ((Int.toNat i14) * 3))))) (.agg (.cons (.int .i64) (.cons .str (.cons (.int .i64) .nil)))) fun (z20 : (Int × (ByteArray × (Int × PUnit)))) =>
    .effQ (Instr.loadAt 27 (Value.pointer (some z18))) (.agg (.cons (.int .i64) (.cons (.int .i64) (.cons (.int .i64) (.cons .slice (.cons .slice .nil)))))) fun (z21 : (Int × (Int × (Int × (((Option Addr) × (Nat × Nat)) × (((Option Addr) × (Nat × Nat)) × PUnit)))))) =>
    .load (Addr.add z18 0) (.int .i64) fun (i22 : Int) =>
    .here fun (z23 : World) =>
    .call 23 #[(Value.string q0), (Value.agg #[(Value.int IntKind.i64 (z21).1), (Value.int IntKind.i64 ((z21).2).1), (Value.int IntKind.i64 (((z21).2).2).1), (Value.slice (((((z21).2).2).2).1).1 ((((((z21).2).2).2).1).2).1 ((((((z21).2).2).2).1).2).2), (Value.slice ((((((z21).2).2).2).2).1).1 (((((((z21).2).2).2).2).1).2).1 (((((((z21).2).2).2).2).1).2).2)])] .str fun (s24 : ByteArray) =>
    .grew z23 <|
    .here fun (z25 : World) =>
    .call 24 #[(Value.int IntKind.i64 i22)] (.int .i64) fun (i26 : Int) =>
    .grew z25 <|
    .eff (Bind.bind (eqGuard BinOp.neq 54 (Operand.tmp 77) (Operand.tmp 85) (Value.agg #[(Value.int IntKind.i64 (z20).1), (Value.string ((z20).2).1), (Value.int IntKind.i64 (((z20).2).2).1)]) (Value.agg #[(Value.int IntKind.i64 i14), (Value.string s24), (Value.int IntKind.i64 i26)])) (fun (y27 : Unit) => (binOp BinOp.neq 54 (Value.agg #[(Value.int IntKind.i64 (z20).1), (Value.string ((z20).2).1), (Value.int IntKind.i64 (((z20).2).2).1)]) (Value.agg #[(Value.int IntKind.i64 i14), (Value.string s24), (Value.int IntKind.i64 i26)])))) .bool fun (b28 : Bool) =>
    .ite b28 (
      .leaf 0 [(Value.bool Bool.false)]) (
      .leaf 1 [(Value.int IntKind.i64 (IntKind.wrap IntKind.i64 (i14 + (1 : Int))))])) (
    .leaf 0 [(Value.bool Bool.true)])
def laws_FnJqArrayWild.t4 (q0 : ByteArray) (z3 : Addr) (z11 : (((Option Addr) × (Nat × Nat)) × (Int × (Bool × PUnit)))) (b13 : Bool) : T :=
  .ite b13 (
    .leaf 0 [(Value.bool Bool.false)]) (
    .loop 1 (.cons (.int .i64) .nil) [(Value.int IntKind.i64 (0 : Int))]
      (fun z => laws_FnJqArrayWild.t5 q0 z3 z11 z.1))
def laws_FnJqArrayWild.t3 (q0 : ByteArray) (z3 : Addr) (z10 : ((Option Addr) × (Nat × Nat))) : T :=
  .call 22 #[(Value.string q0), (Value.slice (z10).1 ((z10).2).1 ((z10).2).2)] (.tuple (.cons .slice (.cons (.int .i64) (.cons .bool .nil)))) fun (z11 : (((Option Addr) × (Nat × Nat)) × (Int × (Bool × PUnit)))) =>
  .cut 1 (.cons .bool .nil) (
    .ite (!(((z11).2).2).1) (
      .leaf 1 [(Value.bool Bool.true)]) (
      .load (Addr.add z3 4) .slice fun (z12 : ((Option Addr) × (Nat × Nat))) =>
      .ite (((z11).2).1 != ((((z12).2).1 : Nat) : Int)) (
        .leaf 1 [(Value.bool Bool.true)]) (
        .leaf 1 [(Value.bool ((((((z11).1).2).1 : Nat) : Int) != ((z11).2).1))])))
    (fun z => laws_FnJqArrayWild.t4 q0 z3 z11 z.1)
def laws_FnJqArrayWild.t2 (q0 : ByteArray) (q1 : (Option Addr)) (q1_len : Nat) (q1_cap : Nat) (q2 : Bool) (z3 : Addr) (b5 : Bool) : T :=
  .ite b5 (
    .leaf 0 [(Value.bool Bool.true)]) (
    .cut 1 (.cons .slice .nil) (
      .ite q2 (
        .eff (Instr.buildSlice 22 0 #[]) .slice fun (z6 : ((Option Addr) × (Nat × Nat))) =>
        .eff (Builtin.append_ (Call.argTypes (Call.mk (Callee.builtin Builtin.append) #[(Operand.tmp 36), (Operand.tmp 37)] #[22, 22])) 22 #[(Value.slice (z6).1 ((z6).2).1 ((z6).2).2), (Value.slice q1 q1_len q1_cap)]) .slice fun (z7 : ((Option Addr) × (Nat × Nat))) =>
        .eff (Instr.buildSlice 22 1 #[(0, (Value.string (ByteArray.mk #[(91 : UInt8), (42 : UInt8), (93 : UInt8)])))]) .slice fun (z8 : ((Option Addr) × (Nat × Nat))) =>
        .eff (Builtin.append_ (Call.argTypes (Call.mk (Callee.builtin Builtin.append) #[(Operand.tmp 38), (Operand.tmp 39)] #[22, 22])) 22 #[(Value.slice (z7).1 ((z7).2).1 ((z7).2).2), (Value.slice (z8).1 ((z8).2).1 ((z8).2).2)]) .slice fun (z9 : ((Option Addr) × (Nat × Nat))) =>
        .leaf 1 [(Value.slice (z9).1 ((z9).2).1 ((z9).2).2)]) (
        .leaf 1 [(Value.slice q1 q1_len q1_cap)]))
      (fun z => laws_FnJqArrayWild.t3 q0 z3 z.1))
def laws_FnJqArrayWild.t1 (q0 : ByteArray) (q1 : (Option Addr)) (q1_len : Nat) (q1_cap : Nat) (q2 : Bool) (b1 : Bool) : T :=
  .ite b1 (
    .leaf 0 [(Value.bool Bool.true)]) (
    .call 21 #[(Value.string q0), (Value.slice q1 q1_len q1_cap)] (.tuple (.cons (.agg (.cons (.int .i64) (.cons (.int .i64) (.cons (.int .i64) (.cons .slice (.cons .slice .nil)))))) (.cons .bool .nil))) fun (z2 : ((Int × (Int × (Int × (((Option Addr) × (Nat × Nat)) × (((Option Addr) × (Nat × Nat)) × PUnit))))) × (Bool × PUnit))) =>
    .alloc (Obj.cells #[(Value.int IntKind.i64 (0 : Int)), (Value.int IntKind.i64 (0 : Int)), (Value.int IntKind.i64 (0 : Int)), (Value.slice none 0 0), (Value.slice none 0 0)] 27 (0, 0)) fun (z3 : Addr) =>
    .effU (Instr.storeAt 27 (Value.pointer (some z3)) (Value.agg #[(Value.int IntKind.i64 ((z2).1).1), (Value.int IntKind.i64 (((z2).1).2).1), (Value.int IntKind.i64 ((((z2).1).2).2).1), (Value.slice ((((((z2).1).2).2).2).1).1 (((((((z2).1).2).2).2).1).2).1 (((((((z2).1).2).2).2).1).2).2), (Value.slice (((((((z2).1).2).2).2).2).1).1 ((((((((z2).1).2).2).2).2).1).2).1 ((((((((z2).1).2).2).2).2).1).2).2)])) <|
    .cut 1 (.cons .bool .nil) (
      .ite (!((z2).2).1) (
        .leaf 1 [(Value.bool Bool.true)]) (
        .load (Addr.add z3 0) (.int .i64) fun (i4 : Int) =>
        .leaf 1 [(Value.bool (i4 != (5 : Int)))]))
      (fun z => laws_FnJqArrayWild.t2 q0 q1 q1_len q1_cap q2 z3 z.1))
def laws_FnJqArrayWild.t (q0 : ByteArray) (q1 : (Option Addr)) (q1_len : Nat) (q1_cap : Nat) (q2 : Bool) : T :=
  .cut 1 (.cons .bool .nil) (
    .ite (decide ((((ByteArray.size q0) : Nat) : Int) > (2147483647 : Int))) (
      .leaf 1 [(Value.bool Bool.true)]) (
      .call 8 #[(Value.slice q1 q1_len q1_cap)] .bool fun (b0 : Bool) =>
      .leaf 1 [(Value.bool (!b0))]))
    (fun z => laws_FnJqArrayWild.t1 q0 q1 q1_len q1_cap q2 z.1)
def laws_FnJqArrayWild.h : Hints := ⟨[(35, [(1, .slice)])], [], [(1, [(21, .bool)]), (4, [(34, .bool)]), (9, [(62, .bool)])], [(12, [(12, (.int .i64))])]⟩
noncomputable def laws_FnJqArrayWild.c : Code := (Tryz.f5.body).getD .skip
theorem laws_FnJqArrayWild.e (q0 : ByteArray) (q1 : (Option Addr)) (q1_len : Nat) (q1_cap : Nat) (q2 : Bool) : fnT Tryz.prog laws_FnJqArrayWild.h Tryz.f5 laws_FnJqArrayWild.c [.v (Value.string q0), .v (Value.slice q1 q1_len q1_cap), .v (Value.bool q2)] = laws_FnJqArrayWild.t q0 q1 q1_len q1_cap q2 := by kernel_rfl
theorem laws_FnJqArrayWild.calls (q0 : ByteArray) (q1 : (Option Addr)) (q1_len : Nat) (q1_cap : Nat) (q2 : Bool) {w : World} {R : Ending → World → Prop} (hs : sat Tryz.prog (laws_FnJqArrayWild.t q0 q1 q1_len q1_cap q2) (fun l vs w' => l = 0 ∧ R (.returned (retVal vs)) w') w) : Calls Tryz.prog 5 #[(Value.string q0), (Value.slice q1 q1_len q1_cap), (Value.bool q2)] w R :=
  have h := calls_of_tree (w := w) (R := R) (args := [.v (Value.string q0), .v (Value.slice q1 q1_len q1_cap), .v (Value.bool q2)]) (c := laws_FnJqArrayWild.c) Tryz.func5 (show Tryz.f5.body = some laws_FnJqArrayWild.c by kernel_rfl) (of_decide_eq_true (by kernel_rfl)) (laws_FnJqArrayWild.e q0 q1 q1_len q1_cap q2) hs
  h

/-! ### pub-tetrapla/laws.jqFound : function 21 -/
def laws_jqFound.t (text : ByteArray) (keys : (Option Addr)) (keys_len : Nat) (keys_cap : Nat) : T :=
  .alloc (Obj.cells #[(Value.int IntKind.i64 (0 : Int)), (Value.int IntKind.i64 (0 : Int)), (Value.int IntKind.i64 (0 : Int)), (Value.slice none 0 0), (Value.slice none 0 0)] 27 (0, 0)) fun (z0 : Addr) =>
  .call 45 #[(Value.string text)] (.tuple (.cons (.agg (.cons (.int .i64) (.cons (.int .i64) (.cons (.int .i64) (.cons .slice (.cons .slice .nil)))))) (.cons .bool .nil))) fun (z1 : ((Int × (Int × (Int × (((Option Addr) × (Nat × Nat)) × (((Option Addr) × (Nat × Nat)) × PUnit))))) × (Bool × PUnit))) =>
  .alloc (Obj.cells #[(Value.int IntKind.i64 (0 : Int)), (Value.int IntKind.i64 (0 : Int)), (Value.int IntKind.i64 (0 : Int)), (Value.slice none 0 0), (Value.slice none 0 0)] 27 (0, 0)) fun (z2 : Addr) =>
  .effU (Instr.storeAt 27 (Value.pointer (some z2)) (Value.agg #[(Value.int IntKind.i64 ((z1).1).1), (Value.int IntKind.i64 (((z1).1).2).1), (Value.int IntKind.i64 ((((z1).1).2).2).1), (Value.slice ((((((z1).1).2).2).2).1).1 (((((((z1).1).2).2).2).1).2).1 (((((((z1).1).2).2).2).1).2).2), (Value.slice (((((((z1).1).2).2).2).2).1).1 ((((((((z1).1).2).2).2).2).1).2).1 ((((((((z1).1).2).2).2).2).1).2).2)])) <|
  .ite (!((z1).2).1) (
    .effU (Instr.storeAt 27 (Value.pointer (some z0)) (Value.agg #[(Value.int IntKind.i64 (0 : Int)), (Value.int IntKind.i64 (0 : Int)), (Value.int IntKind.i64 (0 : Int)), (Value.slice none 0 0), (Value.slice none 0 0)])) <|
    .effS (Instr.loadAt 27 (Value.pointer (some z0))) (.agg (.cons (.int .i64) (.cons (.int .i64) (.cons (.int .i64) (.cons .slice (.cons .slice .nil)))))) fun (z3 : (Int × (Int × (Int × (((Option Addr) × (Nat × Nat)) × (((Option Addr) × (Nat × Nat)) × PUnit)))))) =>
    .leaf 0 [(Value.agg #[(Value.int IntKind.i64 (z3).1), (Value.int IntKind.i64 ((z3).2).1), (Value.int IntKind.i64 (((z3).2).2).1), (Value.slice (((((z3).2).2).2).1).1 ((((((z3).2).2).2).1).2).1 ((((((z3).2).2).2).1).2).2), (Value.slice ((((((z3).2).2).2).2).1).1 (((((((z3).2).2).2).2).1).2).1 (((((((z3).2).2).2).2).1).2).2)]), (Value.bool Bool.false)]) (
    .eff (Instr.loadAt 27 (Value.pointer (some z2))) (.agg (.cons (.int .i64) (.cons (.int .i64) (.cons (.int .i64) (.cons .slice (.cons .slice .nil)))))) fun (z4 : (Int × (Int × (Int × (((Option Addr) × (Nat × Nat)) × (((Option Addr) × (Nat × Nat)) × PUnit)))))) =>
    .call 35 #[(Value.string text), (Value.agg #[(Value.int IntKind.i64 (z4).1), (Value.int IntKind.i64 ((z4).2).1), (Value.int IntKind.i64 (((z4).2).2).1), (Value.slice (((((z4).2).2).2).1).1 ((((((z4).2).2).2).1).2).1 ((((((z4).2).2).2).1).2).2), (Value.slice ((((((z4).2).2).2).2).1).1 (((((((z4).2).2).2).2).1).2).1 (((((((z4).2).2).2).2).1).2).2)]), (Value.slice keys keys_len keys_cap)] .bool fun (b5 : Bool) =>
    .ite (!b5) (
      .effU (Instr.storeAt 27 (Value.pointer (some z0)) (Value.agg #[(Value.int IntKind.i64 (0 : Int)), (Value.int IntKind.i64 (0 : Int)), (Value.int IntKind.i64 (0 : Int)), (Value.slice none 0 0), (Value.slice none 0 0)])) <|
      .effS (Instr.loadAt 27 (Value.pointer (some z0))) (.agg (.cons (.int .i64) (.cons (.int .i64) (.cons (.int .i64) (.cons .slice (.cons .slice .nil)))))) fun (z6 : (Int × (Int × (Int × (((Option Addr) × (Nat × Nat)) × (((Option Addr) × (Nat × Nat)) × PUnit)))))) =>
      .leaf 0 [(Value.agg #[(Value.int IntKind.i64 (z6).1), (Value.int IntKind.i64 ((z6).2).1), (Value.int IntKind.i64 (((z6).2).2).1), (Value.slice (((((z6).2).2).2).1).1 ((((((z6).2).2).2).1).2).1 ((((((z6).2).2).2).1).2).2), (Value.slice ((((((z6).2).2).2).2).1).1 (((((((z6).2).2).2).2).1).2).1 (((((((z6).2).2).2).2).1).2).2)]), (Value.bool Bool.false)]) (
      .eff (Instr.loadAt 27 (Value.pointer (some z2))) (.agg (.cons (.int .i64) (.cons (.int .i64) (.cons (.int .i64) (.cons .slice (.cons .slice .nil)))))) fun (z7 : (Int × (Int × (Int × (((Option Addr) × (Nat × Nat)) × (((Option Addr) × (Nat × Nat)) × PUnit)))))) =>
      .call 28 #[(Value.string text), (Value.agg #[(Value.int IntKind.i64 (z7).1), (Value.int IntKind.i64 ((z7).2).1), (Value.int IntKind.i64 (((z7).2).2).1), (Value.slice (((((z7).2).2).2).1).1 ((((((z7).2).2).2).1).2).1 ((((((z7).2).2).2).1).2).2), (Value.slice ((((((z7).2).2).2).2).1).1 (((((((z7).2).2).2).2).1).2).1 (((((((z7).2).2).2).2).1).2).2)]), (Value.slice keys keys_len keys_cap)] .bool fun (b8 : Bool) =>
      .ite (!b8) (
        .effU (Instr.storeAt 27 (Value.pointer (some z0)) (Value.agg #[(Value.int IntKind.i64 (0 : Int)), (Value.int IntKind.i64 (0 : Int)), (Value.int IntKind.i64 (0 : Int)), (Value.slice none 0 0), (Value.slice none 0 0)])) <|
        .effS (Instr.loadAt 27 (Value.pointer (some z0))) (.agg (.cons (.int .i64) (.cons (.int .i64) (.cons (.int .i64) (.cons .slice (.cons .slice .nil)))))) fun (z9 : (Int × (Int × (Int × (((Option Addr) × (Nat × Nat)) × (((Option Addr) × (Nat × Nat)) × PUnit)))))) =>
        .leaf 0 [(Value.agg #[(Value.int IntKind.i64 (z9).1), (Value.int IntKind.i64 ((z9).2).1), (Value.int IntKind.i64 (((z9).2).2).1), (Value.slice (((((z9).2).2).2).1).1 ((((((z9).2).2).2).1).2).1 ((((((z9).2).2).2).1).2).2), (Value.slice ((((((z9).2).2).2).2).1).1 (((((((z9).2).2).2).2).1).2).1 (((((((z9).2).2).2).2).1).2).2)]), (Value.bool Bool.false)]) (
        .eff (Instr.loadAt 27 (Value.pointer (some z2))) (.agg (.cons (.int .i64) (.cons (.int .i64) (.cons (.int .i64) (.cons .slice (.cons .slice .nil)))))) fun (z10 : (Int × (Int × (Int × (((Option Addr) × (Nat × Nat)) × (((Option Addr) × (Nat × Nat)) × PUnit)))))) =>
        .call 46 #[(Value.string text), (Value.agg #[(Value.int IntKind.i64 (z10).1), (Value.int IntKind.i64 ((z10).2).1), (Value.int IntKind.i64 (((z10).2).2).1), (Value.slice (((((z10).2).2).2).1).1 ((((((z10).2).2).2).1).2).1 ((((((z10).2).2).2).1).2).2), (Value.slice ((((((z10).2).2).2).2).1).1 (((((((z10).2).2).2).2).1).2).1 (((((((z10).2).2).2).2).1).2).2)]), (Value.slice keys keys_len keys_cap)] (.tuple (.cons (.agg (.cons (.int .i64) (.cons (.int .i64) (.cons (.int .i64) (.cons .slice (.cons .slice .nil)))))) (.cons .bool .nil))) fun (z11 : ((Int × (Int × (Int × (((Option Addr) × (Nat × Nat)) × (((Option Addr) × (Nat × Nat)) × PUnit))))) × (Bool × PUnit))) =>
        .effU (Instr.storeAt 27 (Value.pointer (some z0)) (Value.agg #[(Value.int IntKind.i64 ((z11).1).1), (Value.int IntKind.i64 (((z11).1).2).1), (Value.int IntKind.i64 ((((z11).1).2).2).1), (Value.slice ((((((z11).1).2).2).2).1).1 (((((((z11).1).2).2).2).1).2).1 (((((((z11).1).2).2).2).1).2).2), (Value.slice (((((((z11).1).2).2).2).2).1).1 ((((((((z11).1).2).2).2).2).1).2).1 ((((((((z11).1).2).2).2).2).1).2).2)])) <|
        .effS (Instr.loadAt 27 (Value.pointer (some z0))) (.agg (.cons (.int .i64) (.cons (.int .i64) (.cons (.int .i64) (.cons .slice (.cons .slice .nil)))))) fun (z12 : (Int × (Int × (Int × (((Option Addr) × (Nat × Nat)) × (((Option Addr) × (Nat × Nat)) × PUnit)))))) =>
        .leaf 0 [(Value.agg #[(Value.int IntKind.i64 (z12).1), (Value.int IntKind.i64 ((z12).2).1), (Value.int IntKind.i64 (((z12).2).2).1), (Value.slice (((((z12).2).2).2).1).1 ((((((z12).2).2).2).1).2).1 ((((((z12).2).2).2).1).2).2), (Value.slice ((((((z12).2).2).2).2).1).1 (((((((z12).2).2).2).2).1).2).1 (((((((z12).2).2).2).2).1).2).2)]), (Value.bool ((z11).2).1)])))
def laws_jqFound.h : Hints := ⟨[], [], [], []⟩
noncomputable def laws_jqFound.c : Code := (Tryz.f21.body).getD .skip
theorem laws_jqFound.e (text : ByteArray) (keys : (Option Addr)) (keys_len : Nat) (keys_cap : Nat) : fnT Tryz.prog laws_jqFound.h Tryz.f21 laws_jqFound.c [.v (Value.string text), .v (Value.slice keys keys_len keys_cap)] = laws_jqFound.t text keys keys_len keys_cap := by kernel_rfl
theorem laws_jqFound.calls (text : ByteArray) (keys : (Option Addr)) (keys_len : Nat) (keys_cap : Nat) {w : World} {R : Ending → World → Prop} (hs : sat Tryz.prog (laws_jqFound.t text keys keys_len keys_cap) (fun l vs w' => l = 0 ∧ R (.returned (retVal vs)) w') w) : Calls Tryz.prog 21 #[(Value.string text), (Value.slice keys keys_len keys_cap)] w R :=
  have h := calls_of_tree (w := w) (R := R) (args := [.v (Value.string text), .v (Value.slice keys keys_len keys_cap)]) (c := laws_jqFound.c) Tryz.func21 (show Tryz.f21.body = some laws_jqFound.c by kernel_rfl) (of_decide_eq_true (by kernel_rfl)) (laws_jqFound.e text keys keys_len keys_cap) hs
  h

/-! ### pub-tetrapla/impl.JqArrayWild : function 22 -/
def impl_JqArrayWild.t (text : ByteArray) (keys : (Option Addr)) (keys_len : Nat) (keys_cap : Nat) : T :=
  .alloc (Obj.cells #[(Value.slice none 0 0)] 50 (0, 0)) fun (z0 : Addr) =>
  .eff (convert 9 66 (Value.string text)) .slice fun (z1 : ((Option Addr) × (Nat × Nat))) =>
  .call 47 #[(Value.slice (z1).1 ((z1).2).1 ((z1).2).2), (Value.func (.func 48) #[] #[(Value.pointer (some z0))]), (Value.slice keys keys_len keys_cap)] (.tuple (.cons (.int .i64) (.cons .any .nil))) fun (z2 : (Int × (Value × PUnit))) =>
  .drew <|
  .load z0 .slice fun (z3 : ((Option Addr) × (Nat × Nat))) =>
  .chk ((isIface ((z2).2).1) = Bool.true) <|
  .leaf 0 [(Value.slice (z3).1 ((z3).2).1 ((z3).2).2), (Value.int IntKind.i64 (z2).1), (Value.bool (isNil ((z2).2).1))]
def impl_JqArrayWild.h : Hints := ⟨[], [], [], []⟩
noncomputable def impl_JqArrayWild.c : Code := (Tryz.f22.body).getD .skip
theorem impl_JqArrayWild.e (text : ByteArray) (keys : (Option Addr)) (keys_len : Nat) (keys_cap : Nat) : fnT Tryz.prog impl_JqArrayWild.h Tryz.f22 impl_JqArrayWild.c [.v (Value.string text), .v (Value.slice keys keys_len keys_cap)] = impl_JqArrayWild.t text keys keys_len keys_cap := by kernel_rfl
theorem impl_JqArrayWild.calls (text : ByteArray) (keys : (Option Addr)) (keys_len : Nat) (keys_cap : Nat) {w : World} {R : Ending → World → Prop} (hs : sat Tryz.prog (impl_JqArrayWild.t text keys keys_len keys_cap) (fun l vs w' => l = 0 ∧ R (.returned (retVal vs)) w') w) : Calls Tryz.prog 22 #[(Value.string text), (Value.slice keys keys_len keys_cap)] w R :=
  have h := calls_of_tree (w := w) (R := R) (args := [.v (Value.string text), .v (Value.slice keys keys_len keys_cap)]) (c := impl_JqArrayWild.c) Tryz.func22 (show Tryz.f22.body = some impl_JqArrayWild.c by kernel_rfl) (of_decide_eq_true (by kernel_rfl)) (impl_JqArrayWild.e text keys keys_len keys_cap) hs
  h

/-! ### pub-tetrapla/spec.Raw : function 23 -/
def spec_Raw.t (text : ByteArray) (p_0 : Int) (p_1 : Int) (p_2 : Int) (p_3 : (Option Addr)) (p_3_len : Nat) (p_3_cap : Nat) (p_4 : (Option Addr)) (p_4_len : Nat) (p_4_cap : Nat) : T :=
  .alloc (Obj.cells #[(Value.int IntKind.i64 p_0), (Value.int IntKind.i64 p_1), (Value.int IntKind.i64 p_2), (Value.slice p_3 p_3_len p_3_cap), (Value.slice p_4 p_4_len p_4_cap)] 27 (0, 0)) fun (z0 : Addr) =>
  .load (Addr.add z0 0) (.int .i64) fun (i1 : Int) =>
  .ite (i1 == (4 : Int)) (
    .load (Addr.add z0 1) (.int .i64) fun (i2 : Int) =>
    .load (Addr.add z0 2) (.int .i64) fun (i3 : Int) =>
    .chk (((0 : Int) ≤ (IntKind.wrap IntKind.i64 (i2 + (1 : Int)))) ∧ (((IntKind.wrap IntKind.i64 (i2 + (1 : Int))) ≤ (IntKind.wrap IntKind.i64 (i3 - (1 : Int)))) ∧ ((IntKind.wrap IntKind.i64 (i3 - (1 : Int))) ≤ (((ByteArray.size text) : Nat) : Int)))) <|
    .leaf 0 [(Value.string (ByteArray.extract text (Int.toNat (IntKind.wrap IntKind.i64 (i2 + (1 : Int)))) (Int.toNat (IntKind.wrap IntKind.i64 (i3 - (1 : Int))))))]) (
    .load (Addr.add z0 1) (.int .i64) fun (i4 : Int) =>
    .load (Addr.add z0 2) (.int .i64) fun (i5 : Int) =>
    .chk (((0 : Int) ≤ i4) ∧ ((i4 ≤ i5) ∧ (i5 ≤ (((ByteArray.size text) : Nat) : Int)))) <|
    .leaf 0 [(Value.string (ByteArray.extract text (Int.toNat i4) (Int.toNat i5)))])
def spec_Raw.h : Hints := ⟨[], [], [], []⟩
noncomputable def spec_Raw.c : Code := (Tryz.f23.body).getD .skip
theorem spec_Raw.e (text : ByteArray) (p_0 : Int) (p_1 : Int) (p_2 : Int) (p_3 : (Option Addr)) (p_3_len : Nat) (p_3_cap : Nat) (p_4 : (Option Addr)) (p_4_len : Nat) (p_4_cap : Nat) : fnT Tryz.prog spec_Raw.h Tryz.f23 spec_Raw.c [.v (Value.string text), .v (Value.agg #[(Value.int IntKind.i64 p_0), (Value.int IntKind.i64 p_1), (Value.int IntKind.i64 p_2), (Value.slice p_3 p_3_len p_3_cap), (Value.slice p_4 p_4_len p_4_cap)])] = spec_Raw.t text p_0 p_1 p_2 p_3 p_3_len p_3_cap p_4 p_4_len p_4_cap := by kernel_rfl
theorem spec_Raw.calls (text : ByteArray) (p_0 : Int) (p_1 : Int) (p_2 : Int) (p_3 : (Option Addr)) (p_3_len : Nat) (p_3_cap : Nat) (p_4 : (Option Addr)) (p_4_len : Nat) (p_4_cap : Nat) {w : World} {R : Ending → World → Prop} (hs : sat Tryz.prog (spec_Raw.t text p_0 p_1 p_2 p_3 p_3_len p_3_cap p_4 p_4_len p_4_cap) (fun l vs w' => l = 0 ∧ R (.returned (retVal vs)) w') w) : Calls Tryz.prog 23 #[(Value.string text), (Value.agg #[(Value.int IntKind.i64 p_0), (Value.int IntKind.i64 p_1), (Value.int IntKind.i64 p_2), (Value.slice p_3 p_3_len p_3_cap), (Value.slice p_4 p_4_len p_4_cap)])] w R :=
  have h := calls_of_tree (w := w) (R := R) (args := [.v (Value.string text), .v (Value.agg #[(Value.int IntKind.i64 p_0), (Value.int IntKind.i64 p_1), (Value.int IntKind.i64 p_2), (Value.slice p_3 p_3_len p_3_cap), (Value.slice p_4 p_4_len p_4_cap)])]) (c := spec_Raw.c) Tryz.func23 (show Tryz.f23.body = some spec_Raw.c by kernel_rfl) (of_decide_eq_true (by kernel_rfl)) (spec_Raw.e text p_0 p_1 p_2 p_3 p_3_len p_3_cap p_4 p_4_len p_4_cap) hs
  h

/-! ### pub-tetrapla/laws.jpKind : function 24 -/
def laws_jpKind.t (kind : Int) : T :=
  .ite (kind == (4 : Int)) (
    .leaf 0 [(Value.int IntKind.i64 (1 : Int))]) (
    .ite (kind == (3 : Int)) (
      .leaf 0 [(Value.int IntKind.i64 (2 : Int))]) (
      .ite (kind == (6 : Int)) (
        .leaf 0 [(Value.int IntKind.i64 (3 : Int))]) (
        .ite (kind == (5 : Int)) (
          .leaf 0 [(Value.int IntKind.i64 (4 : Int))]) (
          .ite (kind == (2 : Int)) (
            .ite (kind == (2 : Int)) (
              .leaf 0 [(Value.int IntKind.i64 (5 : Int))]) (
              .leaf 0 [(Value.int IntKind.i64 (6 : Int))])) (
            .ite (kind == (1 : Int)) (
              .leaf 0 [(Value.int IntKind.i64 (5 : Int))]) (
              .leaf 0 [(Value.int IntKind.i64 (6 : Int))]))))))
def laws_jpKind.h : Hints := ⟨[], [], [], []⟩
noncomputable def laws_jpKind.c : Code := (Tryz.f24.body).getD .skip
theorem laws_jpKind.e (kind : Int) : fnT Tryz.prog laws_jpKind.h Tryz.f24 laws_jpKind.c [.v (Value.int IntKind.i64 kind)] = laws_jpKind.t kind := by kernel_rfl
theorem laws_jpKind.calls (kind : Int) {w : World} {R : Ending → World → Prop} (hs : sat Tryz.prog (laws_jpKind.t kind) (fun l vs w' => l = 0 ∧ R (.returned (retVal vs)) w') w) : Calls Tryz.prog 24 #[(Value.int IntKind.i64 kind)] w R :=
  have h := calls_of_tree (w := w) (R := R) (args := [.v (Value.int IntKind.i64 kind)]) (c := laws_jpKind.c) Tryz.func24 (show Tryz.f24.body = some laws_jpKind.c by kernel_rfl) (of_decide_eq_true (by kernel_rfl)) (laws_jpKind.e kind) hs
  h

/-! ### pub-tetrapla/laws.jqClean : function 28 -/
def laws_jqClean.t2 (text : ByteArray) (keys : (Option Addr)) (keys_len : Nat) (z0 : Addr) (i1 : Int) (b7 : Bool) : T :=
  .ite b7 (
    .leaf 0 [(Value.bool Bool.false)]) (
    .drew <|
    .effQ (Instr.loadAt 27 (Value.pointer (some z0))) (.agg (.cons (.int .i64) (.cons (.int .i64) (.cons (.int .i64) (.cons .slice (.cons .slice .nil)))))) fun (z8 : (Int × (Int × (Int × (((Option Addr) × (Nat × Nat)) × (((Option Addr) × (Nat × Nat)) × PUnit)))))) =>
    .chk (((0 : Int) ≤ i1) ∧ (i1 < ((keys_len : Nat) : Int))) <|
    .ptr keys fun (z9 : Addr) =>
    .load (Addr.add z9 ((Int.toNat i1) * 1)) .str fun (s10 : ByteArray) =>
    .both (
      .call 37 #[(Value.string text), (Value.agg #[(Value.int IntKind.i64 (z8).1), (Value.int IntKind.i64 ((z8).2).1), (Value.int IntKind.i64 (((z8).2).2).1), (Value.slice (((((z8).2).2).2).1).1 ((((((z8).2).2).2).1).2).1 ((((((z8).2).2).2).1).2).2), (Value.slice ((((((z8).2).2).2).2).1).1 (((((((z8).2).2).2).2).1).2).1 (((((((z8).2).2).2).2).1).2).2)]), (Value.string s10)] (.tuple (.cons (.agg (.cons (.int .i64) (.cons (.int .i64) (.cons (.int .i64) (.cons .slice (.cons .slice .nil)))))) (.cons .bool .nil))) fun (z11 : ((Int × (Int × (Int × (((Option Addr) × (Nat × Nat)) × (((Option Addr) × (Nat × Nat)) × PUnit))))) × (Bool × PUnit))) =>
      .alloc (Obj.cells #[(Value.int IntKind.i64 (0 : Int)), (Value.int IntKind.i64 (0 : Int)), (Value.int IntKind.i64 (0 : Int)), (Value.slice none 0 0), (Value.slice none 0 0)] 27 (0, 0)) fun (z12 : Addr) =>
      .effU (Instr.storeAt 27 (Value.pointer (some z12)) (Value.agg #[(Value.int IntKind.i64 ((z11).1).1), (Value.int IntKind.i64 (((z11).1).2).1), (Value.int IntKind.i64 ((((z11).1).2).2).1), (Value.slice ((((((z11).1).2).2).2).1).1 (((((((z11).1).2).2).2).1).2).1 (((((((z11).1).2).2).2).1).2).2), (Value.slice (((((((z11).1).2).2).2).2).1).1 ((((((((z11).1).2).2).2).2).1).2).1 ((((((((z11).1).2).2).2).2).1).2).2)])) <|
      .ite (!((z11).2).1) (
        .leaf 0 [(Value.bool Bool.true)]) (
        .eff (Instr.loadAt 27 (Value.pointer (some z12))) (.agg (.cons (.int .i64) (.cons (.int .i64) (.cons (.int .i64) (.cons .slice (.cons .slice .nil)))))) fun (z13 : (Int × (Int × (Int × (((Option Addr) × (Nat × Nat)) × (((Option Addr) × (Nat × Nat)) × PUnit)))))) =>
        .effU (Instr.storeAt 27 (Value.pointer (some z0)) (Value.agg #[(Value.int IntKind.i64 (z13).1), (Value.int IntKind.i64 ((z13).2).1), (Value.int IntKind.i64 (((z13).2).2).1), (Value.slice (((((z13).2).2).2).1).1 ((((((z13).2).2).2).1).2).1 ((((((z13).2).2).2).1).2).2), (Value.slice ((((((z13).2).2).2).2).1).1 (((((((z13).2).2).2).2).1).2).1 (((((((z13).2).2).2).2).1).2).2)])) <|
        .leaf 1 [(Value.int IntKind.i64 (IntKind.wrap IntKind.i64 (i1 + (1 : Int))))])) (
      .here fun (z14 : World) =>
      .alloc (Obj.cells #[(Value.int IntKind.i64 (0 : Int)), (Value.int IntKind.i64 (0 : Int)), (Value.int IntKind.i64 (0 : Int)), (Value.slice none 0 0), (Value.slice none 0 0)] 27 (0, 0)) fun (z15 : Addr) =>
      .grew z14 <|
      .call 37 #[(Value.string text), (Value.agg #[(Value.int IntKind.i64 (z8).1), (Value.int IntKind.i64 ((z8).2).1), (Value.int IntKind.i64 (((z8).2).2).1), (Value.slice (((((z8).2).2).2).1).1 ((((((z8).2).2).2).1).2).1 ((((((z8).2).2).2).1).2).2), (Value.slice ((((((z8).2).2).2).2).1).1 (((((((z8).2).2).2).2).1).2).1 (((((((z8).2).2).2).2).1).2).2)]), (Value.string s10)] (.tuple (.cons (.agg (.cons (.int .i64) (.cons (.int .i64) (.cons (.int .i64) (.cons .slice (.cons .slice .nil)))))) (.cons .bool .nil))) fun (z16 : ((Int × (Int × (Int × (((Option Addr) × (Nat × Nat)) × (((Option Addr) × (Nat × Nat)) × PUnit))))) × (Bool × PUnit))) =>
      .effU (Instr.storeAt 27 (Value.pointer (some z15)) (Value.agg #[(Value.int IntKind.i64 ((z16).1).1), (Value.int IntKind.i64 (((z16).1).2).1), (Value.int IntKind.i64 ((((z16).1).2).2).1), (Value.slice ((((((z16).1).2).2).2).1).1 (((((((z16).1).2).2).2).1).2).1 (((((((z16).1).2).2).2).1).2).2), (Value.slice (((((((z16).1).2).2).2).2).1).1 ((((((((z16).1).2).2).2).2).1).2).1 ((((((((z16).1).2).2).2).2).1).2).2)])) <|
      .ite (!((z16).2).1) (
        .leaf 0 [(Value.bool Bool.true)]) (
        .eff (Instr.loadAt 27 (Value.pointer (some z15))) (.agg (.cons (.int .i64) (.cons (.int .i64) (.cons (.int .i64) (.cons .slice (.cons .slice .nil)))))) fun (z17 : (Int × (Int × (Int × (((Option Addr) × (Nat × Nat)) × (((Option Addr) × (Nat × Nat)) × PUnit)))))) =>
        .effU (Instr.storeAt 27 (Value.pointer (some z0)) (Value.agg #[(Value.int IntKind.i64 (z17).1), (Value.int IntKind.i64 ((z17).2).1), (Value.int IntKind.i64 (((z17).2).2).1), (Value.slice (((((z17).2).2).2).1).1 ((((((z17).2).2).2).1).2).1 ((((((z17).2).2).2).1).2).2), (Value.slice ((((((z17).2).2).2).2).1).1 (((((((z17).2).2).2).2).1).2).1 (((((((z17).2).2).2).2).1).2).2)])) <|
        .leaf 1 [(Value.int IntKind.i64 (IntKind.wrap IntKind.i64 (i1 + (1 : Int))))])))
def laws_jqClean.t1 (text : ByteArray) (keys : (Option Addr)) (keys_len : Nat) (z0 : Addr) (i1 : Int) : T :=
  .ite (decide (i1 < ((keys_len : Nat) : Int))) (
    .cut 2 (.cons .bool .nil) (
      .load (Addr.add z0 0) (.int .i64) fun (i2 : Int) =>
      .ite (i2 != (5 : Int)) (
        .chk (((0 : Int) ≤ i1) ∧ (i1 < ((keys_len : Nat) : Int))) <|
        .ptr keys fun (z3 : Addr) =>
        .load (Addr.add z3 ((Int.toNat i1) * 1)) .str fun (s4 : ByteArray) =>
        .ite (!(strEq s4 (ByteArray.mk #[]))) (
          .chk (((0 : Int) ≤ i1) ∧ (i1 < ((keys_len : Nat) : Int))) <|
          .ptr keys fun (z5 : Addr) =>
          .load (Addr.add z5 ((Int.toNat i1) * 1)) .str fun (s6 : ByteArray) =>
          .chk (((0 : Int) ≤ (0 : Int)) ∧ ((0 : Int) < (((ByteArray.size s6) : Nat) : Int))) <|
          .leaf 2 [(Value.bool ((bt s6 (0 : Int)) == (91 : Int)))]) (
          .leaf 2 [(Value.bool Bool.false)])) (
        .leaf 2 [(Value.bool Bool.false)]))
      (fun z => laws_jqClean.t2 text keys keys_len z0 i1 z.1)) (
    .leaf 0 [(Value.bool Bool.true)])
def laws_jqClean.t (text : ByteArray) (p_0 : Int) (p_1 : Int) (p_2 : Int) (p_3 : (Option Addr)) (p_3_len : Nat) (p_3_cap : Nat) (p_4 : (Option Addr)) (p_4_len : Nat) (p_4_cap : Nat) (keys : (Option Addr)) (keys_len : Nat) (keys_cap : Nat) : T :=
  .alloc (Obj.cells #[(Value.int IntKind.i64 p_0), (Value.int IntKind.i64 p_1), (Value.int IntKind.i64 p_2), (Value.slice p_3 p_3_len p_3_cap), (Value.slice p_4 p_4_len p_4_cap)] 27 (0, 0)) fun (z0 : Addr) =>
  .loop 1 (.cons (.int .i64) .nil) [(Value.int IntKind.i64 (0 : Int))]
    (fun z => laws_jqClean.t1 text keys keys_len z0 z.1)
def laws_jqClean.h : Hints := ⟨[], [], [(4, [(33, .bool)])], [(2, [(7, (.int .i64))])]⟩
noncomputable def laws_jqClean.c : Code := (Tryz.f28.body).getD .skip
theorem laws_jqClean.e (text : ByteArray) (p_0 : Int) (p_1 : Int) (p_2 : Int) (p_3 : (Option Addr)) (p_3_len : Nat) (p_3_cap : Nat) (p_4 : (Option Addr)) (p_4_len : Nat) (p_4_cap : Nat) (keys : (Option Addr)) (keys_len : Nat) (keys_cap : Nat) : fnT Tryz.prog laws_jqClean.h Tryz.f28 laws_jqClean.c [.v (Value.string text), .v (Value.agg #[(Value.int IntKind.i64 p_0), (Value.int IntKind.i64 p_1), (Value.int IntKind.i64 p_2), (Value.slice p_3 p_3_len p_3_cap), (Value.slice p_4 p_4_len p_4_cap)]), .v (Value.slice keys keys_len keys_cap)] = laws_jqClean.t text p_0 p_1 p_2 p_3 p_3_len p_3_cap p_4 p_4_len p_4_cap keys keys_len keys_cap := by kernel_rfl
theorem laws_jqClean.calls (text : ByteArray) (p_0 : Int) (p_1 : Int) (p_2 : Int) (p_3 : (Option Addr)) (p_3_len : Nat) (p_3_cap : Nat) (p_4 : (Option Addr)) (p_4_len : Nat) (p_4_cap : Nat) (keys : (Option Addr)) (keys_len : Nat) (keys_cap : Nat) {w : World} {R : Ending → World → Prop} (hs : sat Tryz.prog (laws_jqClean.t text p_0 p_1 p_2 p_3 p_3_len p_3_cap p_4 p_4_len p_4_cap keys keys_len keys_cap) (fun l vs w' => l = 0 ∧ R (.returned (retVal vs)) w') w) : Calls Tryz.prog 28 #[(Value.string text), (Value.agg #[(Value.int IntKind.i64 p_0), (Value.int IntKind.i64 p_1), (Value.int IntKind.i64 p_2), (Value.slice p_3 p_3_len p_3_cap), (Value.slice p_4 p_4_len p_4_cap)]), (Value.slice keys keys_len keys_cap)] w R :=
  have h := calls_of_tree (w := w) (R := R) (args := [.v (Value.string text), .v (Value.agg #[(Value.int IntKind.i64 p_0), (Value.int IntKind.i64 p_1), (Value.int IntKind.i64 p_2), (Value.slice p_3 p_3_len p_3_cap), (Value.slice p_4 p_4_len p_4_cap)]), .v (Value.slice keys keys_len keys_cap)]) (c := laws_jqClean.c) Tryz.func28 (show Tryz.f28.body = some laws_jqClean.c by kernel_rfl) (of_decide_eq_true (by kernel_rfl)) (laws_jqClean.e text p_0 p_1 p_2 p_3 p_3_len p_3_cap p_4 p_4_len p_4_cap keys keys_len keys_cap) hs
  h

/-! ### pub-tetrapla/laws.jqPlace : function 45 -/
def laws_jqPlace.t (text : ByteArray) : T :=
  .alloc (Obj.cells #[(Value.int IntKind.i64 (0 : Int)), (Value.int IntKind.i64 (0 : Int)), (Value.int IntKind.i64 (0 : Int)), (Value.slice none 0 0), (Value.slice none 0 0)] 27 (0, 0)) fun (z0 : Addr) =>
  .ite (decide ((((ByteArray.size text) : Nat) : Int) > (16384 : Int))) (
    .effU (Instr.storeAt 27 (Value.pointer (some z0)) (Value.agg #[(Value.int IntKind.i64 (0 : Int)), (Value.int IntKind.i64 (0 : Int)), (Value.int IntKind.i64 (0 : Int)), (Value.slice none 0 0), (Value.slice none 0 0)])) <|
    .effS (Instr.loadAt 27 (Value.pointer (some z0))) (.agg (.cons (.int .i64) (.cons (.int .i64) (.cons (.int .i64) (.cons .slice (.cons .slice .nil)))))) fun (z1 : (Int × (Int × (Int × (((Option Addr) × (Nat × Nat)) × (((Option Addr) × (Nat × Nat)) × PUnit)))))) =>
    .leaf 0 [(Value.agg #[(Value.int IntKind.i64 (z1).1), (Value.int IntKind.i64 ((z1).2).1), (Value.int IntKind.i64 (((z1).2).2).1), (Value.slice (((((z1).2).2).2).1).1 ((((((z1).2).2).2).1).2).1 ((((((z1).2).2).2).1).2).2), (Value.slice ((((((z1).2).2).2).2).1).1 (((((((z1).2).2).2).2).1).2).1 (((((((z1).2).2).2).2).1).2).2)]), (Value.bool Bool.false)]) (
    .call 27 #[(Value.string text)] (.tuple (.cons (.agg (.cons (.int .i64) (.cons (.int .i64) (.cons (.int .i64) (.cons .slice (.cons .slice .nil)))))) (.cons .bool .nil))) fun (z2 : ((Int × (Int × (Int × (((Option Addr) × (Nat × Nat)) × (((Option Addr) × (Nat × Nat)) × PUnit))))) × (Bool × PUnit))) =>
    .effU (Instr.storeAt 27 (Value.pointer (some z0)) (Value.agg #[(Value.int IntKind.i64 ((z2).1).1), (Value.int IntKind.i64 (((z2).1).2).1), (Value.int IntKind.i64 ((((z2).1).2).2).1), (Value.slice ((((((z2).1).2).2).2).1).1 (((((((z2).1).2).2).2).1).2).1 (((((((z2).1).2).2).2).1).2).2), (Value.slice (((((((z2).1).2).2).2).2).1).1 ((((((((z2).1).2).2).2).2).1).2).1 ((((((((z2).1).2).2).2).2).1).2).2)])) <|
    .effS (Instr.loadAt 27 (Value.pointer (some z0))) (.agg (.cons (.int .i64) (.cons (.int .i64) (.cons (.int .i64) (.cons .slice (.cons .slice .nil)))))) fun (z3 : (Int × (Int × (Int × (((Option Addr) × (Nat × Nat)) × (((Option Addr) × (Nat × Nat)) × PUnit)))))) =>
    .leaf 0 [(Value.agg #[(Value.int IntKind.i64 (z3).1), (Value.int IntKind.i64 ((z3).2).1), (Value.int IntKind.i64 (((z3).2).2).1), (Value.slice (((((z3).2).2).2).1).1 ((((((z3).2).2).2).1).2).1 ((((((z3).2).2).2).1).2).2), (Value.slice ((((((z3).2).2).2).2).1).1 (((((((z3).2).2).2).2).1).2).1 (((((((z3).2).2).2).2).1).2).2)]), (Value.bool ((z2).2).1)])
def laws_jqPlace.h : Hints := ⟨[], [], [], []⟩
noncomputable def laws_jqPlace.c : Code := (Tryz.f45.body).getD .skip
theorem laws_jqPlace.e (text : ByteArray) : fnT Tryz.prog laws_jqPlace.h Tryz.f45 laws_jqPlace.c [.v (Value.string text)] = laws_jqPlace.t text := by kernel_rfl
theorem laws_jqPlace.calls (text : ByteArray) {w : World} {R : Ending → World → Prop} (hs : sat Tryz.prog (laws_jqPlace.t text) (fun l vs w' => l = 0 ∧ R (.returned (retVal vs)) w') w) : Calls Tryz.prog 45 #[(Value.string text)] w R :=
  have h := calls_of_tree (w := w) (R := R) (args := [.v (Value.string text)]) (c := laws_jqPlace.c) Tryz.func45 (show Tryz.f45.body = some laws_jqPlace.c by kernel_rfl) (of_decide_eq_true (by kernel_rfl)) (laws_jqPlace.e text) hs
  h

/-! ### pub-tetrapla/spec.Seek : function 46 -/
def spec_Seek.t1 (text : ByteArray) (keys : (Option Addr)) (keys_len : Nat) (z0 : Addr) (z1 : Addr) (i2 : Int) : T :=
  .ite (decide (i2 < ((keys_len : Nat) : Int))) (
    .chk (((0 : Int) ≤ i2) ∧ (i2 < ((keys_len : Nat) : Int))) <|
    .ptr keys fun (z3 : Addr) =>
    .load (Addr.add z3 ((Int.toNat i2) * 1)) .str fun (s4 : ByteArray) =>
    .eff (Instr.loadAt 27 (Value.pointer (some z0))) (.agg (.cons (.int .i64) (.cons (.int .i64) (.cons (.int .i64) (.cons .slice (.cons .slice .nil)))))) fun (z5 : (Int × (Int × (Int × (((Option Addr) × (Nat × Nat)) × (((Option Addr) × (Nat × Nat)) × PUnit)))))) =>
    .call 37 #[(Value.string text), (Value.agg #[(Value.int IntKind.i64 (z5).1), (Value.int IntKind.i64 ((z5).2).1), (Value.int IntKind.i64 (((z5).2).2).1), (Value.slice (((((z5).2).2).2).1).1 ((((((z5).2).2).2).1).2).1 ((((((z5).2).2).2).1).2).2), (Value.slice ((((((z5).2).2).2).2).1).1 (((((((z5).2).2).2).2).1).2).1 (((((((z5).2).2).2).2).1).2).2)]), (Value.string s4)] (.tuple (.cons (.agg (.cons (.int .i64) (.cons (.int .i64) (.cons (.int .i64) (.cons .slice (.cons .slice .nil)))))) (.cons .bool .nil))) fun (z6 : ((Int × (Int × (Int × (((Option Addr) × (Nat × Nat)) × (((Option Addr) × (Nat × Nat)) × PUnit))))) × (Bool × PUnit))) =>
    .alloc (Obj.cells #[(Value.int IntKind.i64 (0 : Int)), (Value.int IntKind.i64 (0 : Int)), (Value.int IntKind.i64 (0 : Int)), (Value.slice none 0 0), (Value.slice none 0 0)] 27 (0, 0)) fun (z7 : Addr) =>
    .effU (Instr.storeAt 27 (Value.pointer (some z7)) (Value.agg #[(Value.int IntKind.i64 ((z6).1).1), (Value.int IntKind.i64 (((z6).1).2).1), (Value.int IntKind.i64 ((((z6).1).2).2).1), (Value.slice ((((((z6).1).2).2).2).1).1 (((((((z6).1).2).2).2).1).2).1 (((((((z6).1).2).2).2).1).2).2), (Value.slice (((((((z6).1).2).2).2).2).1).1 ((((((((z6).1).2).2).2).2).1).2).1 ((((((((z6).1).2).2).2).2).1).2).2)])) <|
    .ite (!((z6).2).1) (
      .effU (Instr.storeAt 27 (Value.pointer (some z1)) (Value.agg #[(Value.int IntKind.i64 (0 : Int)), (Value.int IntKind.i64 (0 : Int)), (Value.int IntKind.i64 (0 : Int)), (Value.slice none 0 0), (Value.slice none 0 0)])) <|
      .effS (Instr.loadAt 27 (Value.pointer (some z1))) (.agg (.cons (.int .i64) (.cons (.int .i64) (.cons (.int .i64) (.cons .slice (.cons .slice .nil)))))) fun (z8 : (Int × (Int × (Int × (((Option Addr) × (Nat × Nat)) × (((Option Addr) × (Nat × Nat)) × PUnit)))))) =>
      .leaf 0 [(Value.agg #[(Value.int IntKind.i64 (z8).1), (Value.int IntKind.i64 ((z8).2).1), (Value.int IntKind.i64 (((z8).2).2).1), (Value.slice (((((z8).2).2).2).1).1 ((((((z8).2).2).2).1).2).1 ((((((z8).2).2).2).1).2).2), (Value.slice ((((((z8).2).2).2).2).1).1 (((((((z8).2).2).2).2).1).2).1 (((((((z8).2).2).2).2).1).2).2)]), (Value.bool Bool.false)]) (
      .eff (Instr.loadAt 27 (Value.pointer (some z7))) (.agg (.cons (.int .i64) (.cons (.int .i64) (.cons (.int .i64) (.cons .slice (.cons .slice .nil)))))) fun (z9 : (Int × (Int × (Int × (((Option Addr) × (Nat × Nat)) × (((Option Addr) × (Nat × Nat)) × PUnit)))))) =>
      .effU (Instr.storeAt 27 (Value.pointer (some z0)) (Value.agg #[(Value.int IntKind.i64 (z9).1), (Value.int IntKind.i64 ((z9).2).1), (Value.int IntKind.i64 (((z9).2).2).1), (Value.slice (((((z9).2).2).2).1).1 ((((((z9).2).2).2).1).2).1 ((((((z9).2).2).2).1).2).2), (Value.slice ((((((z9).2).2).2).2).1).1 (((((((z9).2).2).2).2).1).2).1 (((((((z9).2).2).2).2).1).2).2)])) <|
      .leaf 1 [(Value.int IntKind.i64 (IntKind.wrap IntKind.i64 (i2 + (1 : Int))))])) (
    .eff (Instr.loadAt 27 (Value.pointer (some z0))) (.agg (.cons (.int .i64) (.cons (.int .i64) (.cons (.int .i64) (.cons .slice (.cons .slice .nil)))))) fun (z10 : (Int × (Int × (Int × (((Option Addr) × (Nat × Nat)) × (((Option Addr) × (Nat × Nat)) × PUnit)))))) =>
    .effU (Instr.storeAt 27 (Value.pointer (some z1)) (Value.agg #[(Value.int IntKind.i64 (z10).1), (Value.int IntKind.i64 ((z10).2).1), (Value.int IntKind.i64 (((z10).2).2).1), (Value.slice (((((z10).2).2).2).1).1 ((((((z10).2).2).2).1).2).1 ((((((z10).2).2).2).1).2).2), (Value.slice ((((((z10).2).2).2).2).1).1 (((((((z10).2).2).2).2).1).2).1 (((((((z10).2).2).2).2).1).2).2)])) <|
    .effS (Instr.loadAt 27 (Value.pointer (some z1))) (.agg (.cons (.int .i64) (.cons (.int .i64) (.cons (.int .i64) (.cons .slice (.cons .slice .nil)))))) fun (z11 : (Int × (Int × (Int × (((Option Addr) × (Nat × Nat)) × (((Option Addr) × (Nat × Nat)) × PUnit)))))) =>
    .leaf 0 [(Value.agg #[(Value.int IntKind.i64 (z11).1), (Value.int IntKind.i64 ((z11).2).1), (Value.int IntKind.i64 (((z11).2).2).1), (Value.slice (((((z11).2).2).2).1).1 ((((((z11).2).2).2).1).2).1 ((((((z11).2).2).2).1).2).2), (Value.slice ((((((z11).2).2).2).2).1).1 (((((((z11).2).2).2).2).1).2).1 (((((((z11).2).2).2).2).1).2).2)]), (Value.bool Bool.true)])
def spec_Seek.t (text : ByteArray) (p_0 : Int) (p_1 : Int) (p_2 : Int) (p_3 : (Option Addr)) (p_3_len : Nat) (p_3_cap : Nat) (p_4 : (Option Addr)) (p_4_len : Nat) (p_4_cap : Nat) (keys : (Option Addr)) (keys_len : Nat) (keys_cap : Nat) : T :=
  .alloc (Obj.cells #[(Value.int IntKind.i64 p_0), (Value.int IntKind.i64 p_1), (Value.int IntKind.i64 p_2), (Value.slice p_3 p_3_len p_3_cap), (Value.slice p_4 p_4_len p_4_cap)] 27 (0, 0)) fun (z0 : Addr) =>
  .alloc (Obj.cells #[(Value.int IntKind.i64 (0 : Int)), (Value.int IntKind.i64 (0 : Int)), (Value.int IntKind.i64 (0 : Int)), (Value.slice none 0 0), (Value.slice none 0 0)] 27 (0, 0)) fun (z1 : Addr) =>
  .loop 1 (.cons (.int .i64) .nil) [(Value.int IntKind.i64 (0 : Int))]
    (fun z => spec_Seek.t1 text keys keys_len z0 z1 z.1)
def spec_Seek.h : Hints := ⟨[], [], [], [(2, [(14, (.int .i64))])]⟩
noncomputable def spec_Seek.c : Code := (Tryz.f46.body).getD .skip
theorem spec_Seek.e (text : ByteArray) (p_0 : Int) (p_1 : Int) (p_2 : Int) (p_3 : (Option Addr)) (p_3_len : Nat) (p_3_cap : Nat) (p_4 : (Option Addr)) (p_4_len : Nat) (p_4_cap : Nat) (keys : (Option Addr)) (keys_len : Nat) (keys_cap : Nat) : fnT Tryz.prog spec_Seek.h Tryz.f46 spec_Seek.c [.v (Value.string text), .v (Value.agg #[(Value.int IntKind.i64 p_0), (Value.int IntKind.i64 p_1), (Value.int IntKind.i64 p_2), (Value.slice p_3 p_3_len p_3_cap), (Value.slice p_4 p_4_len p_4_cap)]), .v (Value.slice keys keys_len keys_cap)] = spec_Seek.t text p_0 p_1 p_2 p_3 p_3_len p_3_cap p_4 p_4_len p_4_cap keys keys_len keys_cap := by kernel_rfl
theorem spec_Seek.calls (text : ByteArray) (p_0 : Int) (p_1 : Int) (p_2 : Int) (p_3 : (Option Addr)) (p_3_len : Nat) (p_3_cap : Nat) (p_4 : (Option Addr)) (p_4_len : Nat) (p_4_cap : Nat) (keys : (Option Addr)) (keys_len : Nat) (keys_cap : Nat) {w : World} {R : Ending → World → Prop} (hs : sat Tryz.prog (spec_Seek.t text p_0 p_1 p_2 p_3 p_3_len p_3_cap p_4 p_4_len p_4_cap keys keys_len keys_cap) (fun l vs w' => l = 0 ∧ R (.returned (retVal vs)) w') w) : Calls Tryz.prog 46 #[(Value.string text), (Value.agg #[(Value.int IntKind.i64 p_0), (Value.int IntKind.i64 p_1), (Value.int IntKind.i64 p_2), (Value.slice p_3 p_3_len p_3_cap), (Value.slice p_4 p_4_len p_4_cap)]), (Value.slice keys keys_len keys_cap)] w R :=
  have h := calls_of_tree (w := w) (R := R) (args := [.v (Value.string text), .v (Value.agg #[(Value.int IntKind.i64 p_0), (Value.int IntKind.i64 p_1), (Value.int IntKind.i64 p_2), (Value.slice p_3 p_3_len p_3_cap), (Value.slice p_4 p_4_len p_4_cap)]), .v (Value.slice keys keys_len keys_cap)]) (c := spec_Seek.c) Tryz.func46 (show Tryz.f46.body = some spec_Seek.c by kernel_rfl) (of_decide_eq_true (by kernel_rfl)) (spec_Seek.e text p_0 p_1 p_2 p_3 p_3_len p_3_cap p_4 p_4_len p_4_cap keys keys_len keys_cap) hs
  h

/-! ### pub-tetrapla/pub/jsonparser.ArrayEachWildcard : function 47 -/
def jsonparser_ArrayEachWildcard.t1 (data : (Option Addr)) (data_len : Nat) (data_cap : Nat) (keys : (Option Addr)) (keys_len : Nat) (keys_cap : Nat) (z0 : Addr) (b3 : Bool) : T :=
  .ite b3 (
    .chk (((0 : Int) ≤ (0 : Int)) ∧ (((0 : Int) ≤ (IntKind.wrap IntKind.i64 (((keys_len : Nat) : Int) - (1 : Int)))) ∧ ((IntKind.wrap IntKind.i64 (((keys_len : Nat) : Int) - (1 : Int))) ≤ ((keys_cap : Nat) : Int)))) <|
    .alloc (Obj.cells #[(Value.int IntKind.i64 (0 : Int))] 3 (0, 0)) fun (z4 : Addr) =>
    .store z4 (Value.int IntKind.i64 (0 : Int)) <|
    .call 65 #[(Value.slice data data_len data_cap), (Value.func (.func 66) #[] #[(Value.pointer (some z4)), (Value.pointer (some z0))]), (Value.slice (if (keys_cap = 0) then keys else (Option.map (fun (y5 : Addr) => (Addr.add y5 0)) keys)) ((Int.toNat (IntKind.wrap IntKind.i64 (((keys_len : Nat) : Int) - (1 : Int)))) - 0) (keys_cap - 0))] (.tuple (.cons (.int .i64) (.cons .any .nil))) fun (z6 : (Int × (Value × PUnit))) =>
    .leaf 0 [(Value.int IntKind.i64 (z6).1), ((z6).2).1]) (
    .alloc (Obj.cells #[(Value.int IntKind.i64 (0 : Int))] 3 (0, 0)) fun (z7 : Addr) =>
    .store z7 (Value.int IntKind.i64 (0 : Int)) <|
    .call 65 #[(Value.slice data data_len data_cap), (Value.func (.func 66) #[] #[(Value.pointer (some z7)), (Value.pointer (some z0))]), (Value.slice keys keys_len keys_cap)] (.tuple (.cons (.int .i64) (.cons .any .nil))) fun (z8 : (Int × (Value × PUnit))) =>
    .leaf 0 [(Value.int IntKind.i64 (z8).1), ((z8).2).1])
def jsonparser_ArrayEachWildcard.t (data : (Option Addr)) (data_len : Nat) (data_cap : Nat) (cb : Value) (keys : (Option Addr)) (keys_len : Nat) (keys_cap : Nat) : T :=
  .alloc (Obj.cells (Value.cells cb) 82 (0, 0)) fun (z0 : Addr) =>
  .cut 1 (.cons .bool .nil) (
    .ite (decide (((keys_len : Nat) : Int) > (0 : Int))) (
      .chk (((0 : Int) ≤ (IntKind.wrap IntKind.i64 (((keys_len : Nat) : Int) - (1 : Int)))) ∧ ((IntKind.wrap IntKind.i64 (((keys_len : Nat) : Int) - (1 : Int))) < ((keys_len : Nat) : Int))) <|
      .ptr keys fun (z1 : Addr) =>
      .load (Addr.add z1 ((Int.toNat (IntKind.wrap IntKind.i64 (((keys_len : Nat) : Int) - (1 : Int)))) * 1)) .str fun (s2 : ByteArray) =>
      .leaf 1 [(Value.bool (strEq s2 (ByteArray.mk #[(91 : UInt8), (42 : UInt8), (93 : UInt8)])))]) (
      .leaf 1 [(Value.bool Bool.false)]))
    (fun z => jsonparser_ArrayEachWildcard.t1 data data_len data_cap keys keys_len keys_cap z0 z.1)
def jsonparser_ArrayEachWildcard.h : Hints := ⟨[], [], [(1, [(20, .bool)])], []⟩
noncomputable def jsonparser_ArrayEachWildcard.c : Code := (Tryz.f47.body).getD .skip
theorem jsonparser_ArrayEachWildcard.e (data : (Option Addr)) (data_len : Nat) (data_cap : Nat) (cb : Value) (keys : (Option Addr)) (keys_len : Nat) (keys_cap : Nat) : fnT Tryz.prog jsonparser_ArrayEachWildcard.h Tryz.f47 jsonparser_ArrayEachWildcard.c [.v (Value.slice data data_len data_cap), .o cb, .v (Value.slice keys keys_len keys_cap)] = jsonparser_ArrayEachWildcard.t data data_len data_cap cb keys keys_len keys_cap := by kernel_rfl
theorem jsonparser_ArrayEachWildcard.calls (data : (Option Addr)) (data_len : Nat) (data_cap : Nat) (cb : Value) (keys : (Option Addr)) (keys_len : Nat) (keys_cap : Nat) {w : World} {R : Ending → World → Prop} (hs : sat Tryz.prog (jsonparser_ArrayEachWildcard.t data data_len data_cap cb keys keys_len keys_cap) (fun l vs w' => l = 0 ∧ R (.returned (retVal vs)) w') w) : Calls Tryz.prog 47 #[(Value.slice data data_len data_cap), cb, (Value.slice keys keys_len keys_cap)] w R :=
  have h := calls_of_tree (w := w) (R := R) (args := [.v (Value.slice data data_len data_cap), .o cb, .v (Value.slice keys keys_len keys_cap)]) (c := jsonparser_ArrayEachWildcard.c) Tryz.func47 (show Tryz.f47.body = some jsonparser_ArrayEachWildcard.c by kernel_rfl) (of_decide_eq_true (by kernel_rfl)) (jsonparser_ArrayEachWildcard.e data data_len data_cap cb keys keys_len keys_cap) hs
  h

/-! ### pub-tetrapla/impl.JqArrayWild$1 : function 48 -/
def impl_JqArrayWild_1.t (i : Int) (v : (Option Addr)) (v_len : Nat) (v_cap : Nat) (kind : Int) (at3 : Int) (err : Value) (fv0 : (Option Addr)) : T :=
  .ptr fv0 fun (z0 : Addr) =>
  .load z0 .slice fun (z1 : ((Option Addr) × (Nat × Nat))) =>
  .eff (convert 66 9 (Value.slice v v_len v_cap)) .str fun (s2 : ByteArray) =>
  .eff (Instr.buildSlice 50 1 #[(0, (Value.agg #[(Value.int IntKind.i64 i), (Value.string s2), (Value.int IntKind.i64 kind)]))]) .slice fun (z3 : ((Option Addr) × (Nat × Nat))) =>
  .eff (Builtin.append_ (Call.argTypes (Call.mk (Callee.builtin Builtin.append) #[(Operand.tmp 12), (Operand.tmp 18)] #[50, 50])) 50 #[(Value.slice (z1).1 ((z1).2).1 ((z1).2).2), (Value.slice (z3).1 ((z3).2).1 ((z3).2).2)]) .slice fun (z4 : ((Option Addr) × (Nat × Nat))) =>
  .ptr fv0 fun (z5 : Addr) =>
  .store z5 (Value.slice (z4).1 ((z4).2).1 ((z4).2).2) <|
  .leaf 0 [Value.nilIface]
def impl_JqArrayWild_1.h : Hints := ⟨[], [], [], []⟩
noncomputable def impl_JqArrayWild_1.c : Code := (Tryz.f48.body).getD .skip
theorem impl_JqArrayWild_1.e (i : Int) (v : (Option Addr)) (v_len : Nat) (v_cap : Nat) (kind : Int) (at3 : Int) (err : Value) (fv0 : (Option Addr)) : fnT Tryz.prog impl_JqArrayWild_1.h Tryz.f48 impl_JqArrayWild_1.c [.v (Value.int IntKind.i64 i), .v (Value.slice v v_len v_cap), .v (Value.int IntKind.i64 kind), .v (Value.int IntKind.i64 at3), .o err, .v (Value.pointer fv0)] = impl_JqArrayWild_1.t i v v_len v_cap kind at3 err fv0 := by kernel_rfl
theorem impl_JqArrayWild_1.calls (i : Int) (v : (Option Addr)) (v_len : Nat) (v_cap : Nat) (kind : Int) (at3 : Int) (err : Value) (fv0 : (Option Addr)) {w : World} {R : Ending → World → Prop} (hs : sat Tryz.prog (impl_JqArrayWild_1.t i v v_len v_cap kind at3 err fv0) (fun l vs w' => l = 0 ∧ R (.returned (retVal vs)) w') w) : Calls Tryz.prog 48 #[(Value.int IntKind.i64 i), (Value.slice v v_len v_cap), (Value.int IntKind.i64 kind), (Value.int IntKind.i64 at3), err, (Value.pointer fv0)] w R :=
  have h := calls_of_tree (w := w) (R := R) (args := [.v (Value.int IntKind.i64 i), .v (Value.slice v v_len v_cap), .v (Value.int IntKind.i64 kind), .v (Value.int IntKind.i64 at3), .o err, .v (Value.pointer fv0)]) (c := impl_JqArrayWild_1.c) Tryz.func48 (show Tryz.f48.body = some impl_JqArrayWild_1.c by kernel_rfl) (of_decide_eq_true (by kernel_rfl)) (impl_JqArrayWild_1.e i v v_len v_cap kind at3 err fv0) hs
  h

/-! ### pub-tetrapla/pub/jsonparser.ArrayEachErr : function 65 -/
def jsonparser_ArrayEachErr.t (data : (Option Addr)) (data_len : Nat) (data_cap : Nat) (cb : Value) (keys : (Option Addr)) (keys_len : Nat) (keys_cap : Nat) : T :=
  .call 94 #[(Value.slice data data_len data_cap), cb, (Value.slice keys keys_len keys_cap)] (.tuple (.cons (.int .i64) (.cons (.int .i64) (.cons .any .nil)))) fun (z0 : (Int × (Int × (Value × PUnit)))) =>
  .leaf 0 [(Value.int IntKind.i64 ((z0).2).1), (((z0).2).2).1]
def jsonparser_ArrayEachErr.h : Hints := ⟨[], [], [], []⟩
noncomputable def jsonparser_ArrayEachErr.c : Code := (Tryz.f65.body).getD .skip
theorem jsonparser_ArrayEachErr.e (data : (Option Addr)) (data_len : Nat) (data_cap : Nat) (cb : Value) (keys : (Option Addr)) (keys_len : Nat) (keys_cap : Nat) : fnT Tryz.prog jsonparser_ArrayEachErr.h Tryz.f65 jsonparser_ArrayEachErr.c [.v (Value.slice data data_len data_cap), .o cb, .v (Value.slice keys keys_len keys_cap)] = jsonparser_ArrayEachErr.t data data_len data_cap cb keys keys_len keys_cap := by kernel_rfl
theorem jsonparser_ArrayEachErr.calls (data : (Option Addr)) (data_len : Nat) (data_cap : Nat) (cb : Value) (keys : (Option Addr)) (keys_len : Nat) (keys_cap : Nat) {w : World} {R : Ending → World → Prop} (hs : sat Tryz.prog (jsonparser_ArrayEachErr.t data data_len data_cap cb keys keys_len keys_cap) (fun l vs w' => l = 0 ∧ R (.returned (retVal vs)) w') w) : Calls Tryz.prog 65 #[(Value.slice data data_len data_cap), cb, (Value.slice keys keys_len keys_cap)] w R :=
  have h := calls_of_tree (w := w) (R := R) (args := [.v (Value.slice data data_len data_cap), .o cb, .v (Value.slice keys keys_len keys_cap)]) (c := jsonparser_ArrayEachErr.c) Tryz.func65 (show Tryz.f65.body = some jsonparser_ArrayEachErr.c by kernel_rfl) (of_decide_eq_true (by kernel_rfl)) (jsonparser_ArrayEachErr.e data data_len data_cap cb keys keys_len keys_cap) hs
  h

/-! ### pub-tetrapla/pub/jsonparser.ArrayEachWildcard$1 : function 66 -/
def jsonparser_ArrayEachWildcard_1.t (value : (Option Addr)) (value_len : Nat) (value_cap : Nat) (valueType : Int) (offset : Int) (err : Value) (fv0 : (Option Addr)) (fv1 : (Option Addr)) : T :=
  .ptr fv0 fun (z0 : Addr) =>
  .load z0 (.int .i64) fun (i1 : Int) =>
  .ptr fv0 fun (z2 : Addr) =>
  .load z2 (.int .i64) fun (i3 : Int) =>
  .ptr fv0 fun (z4 : Addr) =>
  .store z4 (Value.int IntKind.i64 (IntKind.wrap IntKind.i64 (i3 + (1 : Int)))) <|
  .ptr fv1 fun (z5 : Addr) =>
  .load z5 .any fun (v6 : Value) =>
  .callD v6 #[(Value.int IntKind.i64 i1), (Value.slice value value_len value_cap), (Value.int IntKind.i64 valueType), (Value.int IntKind.i64 offset), err] .any fun (v7 : Value) =>
  .leaf 0 [v7]
def jsonparser_ArrayEachWildcard_1.h : Hints := ⟨[], [], [], []⟩
noncomputable def jsonparser_ArrayEachWildcard_1.c : Code := (Tryz.f66.body).getD .skip
theorem jsonparser_ArrayEachWildcard_1.e (value : (Option Addr)) (value_len : Nat) (value_cap : Nat) (valueType : Int) (offset : Int) (err : Value) (fv0 : (Option Addr)) (fv1 : (Option Addr)) : fnT Tryz.prog jsonparser_ArrayEachWildcard_1.h Tryz.f66 jsonparser_ArrayEachWildcard_1.c [.v (Value.slice value value_len value_cap), .v (Value.int IntKind.i64 valueType), .v (Value.int IntKind.i64 offset), .o err, .v (Value.pointer fv0), .v (Value.pointer fv1)] = jsonparser_ArrayEachWildcard_1.t value value_len value_cap valueType offset err fv0 fv1 := by kernel_rfl
theorem jsonparser_ArrayEachWildcard_1.calls (value : (Option Addr)) (value_len : Nat) (value_cap : Nat) (valueType : Int) (offset : Int) (err : Value) (fv0 : (Option Addr)) (fv1 : (Option Addr)) {w : World} {R : Ending → World → Prop} (hs : sat Tryz.prog (jsonparser_ArrayEachWildcard_1.t value value_len value_cap valueType offset err fv0 fv1) (fun l vs w' => l = 0 ∧ R (.returned (retVal vs)) w') w) : Calls Tryz.prog 66 #[(Value.slice value value_len value_cap), (Value.int IntKind.i64 valueType), (Value.int IntKind.i64 offset), err, (Value.pointer fv0), (Value.pointer fv1)] w R :=
  have h := calls_of_tree (w := w) (R := R) (args := [.v (Value.slice value value_len value_cap), .v (Value.int IntKind.i64 valueType), .v (Value.int IntKind.i64 offset), .o err, .v (Value.pointer fv0), .v (Value.pointer fv1)]) (c := jsonparser_ArrayEachWildcard_1.c) Tryz.func66 (show Tryz.f66.body = some jsonparser_ArrayEachWildcard_1.c by kernel_rfl) (of_decide_eq_true (by kernel_rfl)) (jsonparser_ArrayEachWildcard_1.e value value_len value_cap valueType offset err fv0 fv1) hs
  h

/-! ### pub-tetrapla/pub/jsonparser.nextToken : function 84 -/
def jsonparser_nextToken.t (data : (Option Addr)) (data_len : Nat) (data_cap : Nat) : T :=
  .eff (Instr.loadAt 100 (Value.pointer (some (Addr.mk 0 0 Option.none)))) (.agg (.cons .bool (.cons .bool (.cons (.int .i64) .nil)))) fun (z0 : (Bool × (Bool × (Int × PUnit)))) =>
  .call 91 #[(Value.agg #[(Value.bool (z0).1), (Value.bool ((z0).2).1), (Value.int IntKind.i64 (((z0).2).2).1)]), (Value.slice data data_len data_cap)] (.int .i64) fun (i1 : Int) =>
  .leaf 0 [(Value.int IntKind.i64 i1)]
def jsonparser_nextToken.h : Hints := ⟨[], [], [], []⟩
noncomputable def jsonparser_nextToken.c : Code := (Tryz.f84.body).getD .skip
theorem jsonparser_nextToken.e (data : (Option Addr)) (data_len : Nat) (data_cap : Nat) : fnT Tryz.prog jsonparser_nextToken.h Tryz.f84 jsonparser_nextToken.c [.v (Value.slice data data_len data_cap)] = jsonparser_nextToken.t data data_len data_cap := by kernel_rfl
theorem jsonparser_nextToken.calls (data : (Option Addr)) (data_len : Nat) (data_cap : Nat) {w : World} {R : Ending → World → Prop} (hs : sat Tryz.prog (jsonparser_nextToken.t data data_len data_cap) (fun l vs w' => l = 0 ∧ R (.returned (retVal vs)) w') w) : Calls Tryz.prog 84 #[(Value.slice data data_len data_cap)] w R :=
  have h := calls_of_tree (w := w) (R := R) (args := [.v (Value.slice data data_len data_cap)]) (c := jsonparser_nextToken.c) Tryz.func84 (show Tryz.f84.body = some jsonparser_nextToken.c by kernel_rfl) (of_decide_eq_true (by kernel_rfl)) (jsonparser_nextToken.e data data_len data_cap) hs
  h

/-! ### pub-tetrapla/pub/jsonparser.arrayEachErr : function 94 -/
def jsonparser_arrayEachErr.t3 (q0 : (Option Addr)) (q0_len : Nat) (q0_cap : Nat) (q1 : Value) (i22 : Int) (i23 : Int) : T :=
  .chk (((0 : Int) ≤ i23) ∧ ((i23 ≤ ((q0_len : Nat) : Int)) ∧ (((q0_len : Nat) : Int) ≤ ((q0_cap : Nat) : Int)))) <|
  .call 39 #[(Value.slice (if (q0_cap = (Int.toNat i23)) then q0 else (Option.map (fun (y24 : Addr) => (Addr.add y24 ((Int.toNat i23) * 1))) q0)) ((Int.toNat ((q0_len : Nat) : Int)) - (Int.toNat i23)) (q0_cap - (Int.toNat i23))), (Value.slice none 0 0)] (.tuple (.cons .slice (.cons (.int .i64) (.cons (.int .i64) (.cons .any .nil))))) fun (z25 : (((Option Addr) × (Nat × Nat)) × (Int × (Int × (Value × PUnit))))) =>
  .ite ((((z25).2).2).1 == (0 : Int)) (
    .leaf 0 [(Value.int IntKind.i64 i23), (Value.int IntKind.i64 i22), ((((z25).2).2).2).1]) (
    .callD q1 #[(Value.slice ((z25).1).1 (((z25).1).2).1 (((z25).1).2).2), (Value.int IntKind.i64 ((z25).2).1), (Value.int IntKind.i64 (IntKind.wrap IntKind.i64 ((IntKind.wrap IntKind.i64 (i23 + (((z25).2).2).1)) - (((((z25).1).2).1 : Nat) : Int)))), ((((z25).2).2).2).1] .any fun (v26 : Value) =>
    .chk ((isIface v26) = Bool.true) <|
    .ite (!(isNil v26)) (
      .load (Addr.mk 7 0 Option.none) .any fun (v27 : Value) =>
      .call 109 #[v26, v27] .bool fun (b28 : Bool) =>
      .ite b28 (
        .leaf 0 [(Value.int IntKind.i64 i23), (Value.int IntKind.i64 (IntKind.wrap IntKind.i64 (i22 + (1 : Int)))), Value.nilIface]) (
        .leaf 0 [(Value.int IntKind.i64 i23), (Value.int IntKind.i64 (IntKind.wrap IntKind.i64 (i22 + (1 : Int)))), v26])) (
      .chk ((isIface ((((z25).2).2).2).1) = Bool.true) <|
      .ite (!(isNil ((((z25).2).2).2).1)) (
        .leaf 0 [(Value.int IntKind.i64 i23), (Value.int IntKind.i64 (IntKind.wrap IntKind.i64 (i22 + (1 : Int)))), ((((z25).2).2).2).1]) (
        .chk (((0 : Int) ≤ (IntKind.wrap IntKind.i64 (i23 + (((z25).2).2).1))) ∧ (((IntKind.wrap IntKind.i64 (i23 + (((z25).2).2).1)) ≤ ((q0_len : Nat) : Int)) ∧ (((q0_len : Nat) : Int) ≤ ((q0_cap : Nat) : Int)))) <|
        .call 84 #[(Value.slice (if (q0_cap = (Int.toNat (IntKind.wrap IntKind.i64 (i23 + (((z25).2).2).1)))) then q0 else (Option.map (fun (y29 : Addr) => (Addr.add y29 ((Int.toNat (IntKind.wrap IntKind.i64 (i23 + (((z25).2).2).1))) * 1))) q0)) ((Int.toNat ((q0_len : Nat) : Int)) - (Int.toNat (IntKind.wrap IntKind.i64 (i23 + (((z25).2).2).1)))) (q0_cap - (Int.toNat (IntKind.wrap IntKind.i64 (i23 + (((z25).2).2).1)))))] (.int .i64) fun (i30 : Int) =>
        .ite (i30 == (-1 : Int)) (
          .drew <|
          .load (Addr.mk 3 0 Option.none) .any fun (v31 : Value) =>
          .leaf 0 [(Value.int IntKind.i64 (IntKind.wrap IntKind.i64 (i23 + (((z25).2).2).1))), (Value.int IntKind.i64 (IntKind.wrap IntKind.i64 (i22 + (1 : Int)))), v31]) (
          .chk (((0 : Int) ≤ (IntKind.wrap IntKind.i64 ((IntKind.wrap IntKind.i64 (i23 + (((z25).2).2).1)) + i30))) ∧ ((IntKind.wrap IntKind.i64 ((IntKind.wrap IntKind.i64 (i23 + (((z25).2).2).1)) + i30)) < ((q0_len : Nat) : Int))) <|
          .ptr q0 fun (z32 : Addr) =>
          .load (Addr.add z32 ((Int.toNat (IntKind.wrap IntKind.i64 ((IntKind.wrap IntKind.i64 (i23 + (((z25).2).2).1)) + i30))) * 1)) (.int .u8) fun (i33 : Int) =>
          .ite (i33 == (93 : Int)) (
            .leaf 0 [(Value.int IntKind.i64 (IntKind.wrap IntKind.i64 ((IntKind.wrap IntKind.i64 (i23 + (((z25).2).2).1)) + i30))), (Value.int IntKind.i64 (IntKind.wrap IntKind.i64 (i22 + (1 : Int)))), Value.nilIface]) (
            .chk (((0 : Int) ≤ (IntKind.wrap IntKind.i64 ((IntKind.wrap IntKind.i64 (i23 + (((z25).2).2).1)) + i30))) ∧ ((IntKind.wrap IntKind.i64 ((IntKind.wrap IntKind.i64 (i23 + (((z25).2).2).1)) + i30)) < ((q0_len : Nat) : Int))) <|
            .ptr q0 fun (z34 : Addr) =>
            .load (Addr.add z34 ((Int.toNat (IntKind.wrap IntKind.i64 ((IntKind.wrap IntKind.i64 (i23 + (((z25).2).2).1)) + i30))) * 1)) (.int .u8) fun (i35 : Int) =>
            .ite (i35 != (44 : Int)) (
              .drew <|
              .load (Addr.mk 3 0 Option.none) .any fun (v36 : Value) =>
              .leaf 0 [(Value.int IntKind.i64 (IntKind.wrap IntKind.i64 ((IntKind.wrap IntKind.i64 (i23 + (((z25).2).2).1)) + i30))), (Value.int IntKind.i64 (IntKind.wrap IntKind.i64 (i22 + (1 : Int)))), v36]) (
              .leaf 1 [(Value.int IntKind.i64 (IntKind.wrap IntKind.i64 (i22 + (1 : Int)))), (Value.int IntKind.i64 (IntKind.wrap IntKind.i64 ((IntKind.wrap IntKind.i64 ((IntKind.wrap IntKind.i64 (i23 + (((z25).2).2).1)) + i30)) + (1 : Int))))]))))))
def jsonparser_arrayEachErr.t2 (q0 : (Option Addr)) (q0_len : Nat) (q0_cap : Nat) (q1 : Value) (i15 : Int) (i16 : Int) : T :=
  .chk (((0 : Int) ≤ i15) ∧ ((i15 ≤ ((q0_len : Nat) : Int)) ∧ (((q0_len : Nat) : Int) ≤ ((q0_cap : Nat) : Int)))) <|
  .call 84 #[(Value.slice (if (q0_cap = (Int.toNat i15)) then q0 else (Option.map (fun (y17 : Addr) => (Addr.add y17 ((Int.toNat i15) * 1))) q0)) ((Int.toNat ((q0_len : Nat) : Int)) - (Int.toNat i15)) (q0_cap - (Int.toNat i15)))] (.int .i64) fun (i18 : Int) =>
  .ite (i18 == (-1 : Int)) (
    .drew <|
    .load (Addr.mk 5 0 Option.none) .any fun (v19 : Value) =>
    .leaf 0 [(Value.int IntKind.i64 i15), (Value.int IntKind.i64 (0 : Int)), v19]) (
    .chk (((0 : Int) ≤ (IntKind.wrap IntKind.i64 (i15 + i18))) ∧ ((IntKind.wrap IntKind.i64 (i15 + i18)) < ((q0_len : Nat) : Int))) <|
    .ptr q0 fun (z20 : Addr) =>
    .load (Addr.add z20 ((Int.toNat (IntKind.wrap IntKind.i64 (i15 + i18))) * 1)) (.int .u8) fun (i21 : Int) =>
    .ite (i21 == (93 : Int)) (
      .leaf 0 [(Value.int IntKind.i64 (IntKind.wrap IntKind.i64 (i15 + i18))), (Value.int IntKind.i64 (0 : Int)), Value.nilIface]) (
      .loop 1 (.cons (.int .i64) (.cons (.int .i64) .nil)) [(Value.int IntKind.i64 i16), (Value.int IntKind.i64 (IntKind.wrap IntKind.i64 (i15 + i18)))]
        (fun z => jsonparser_arrayEachErr.t3 q0 q0_len q0_cap q1 z.1 z.2.1)))
def jsonparser_arrayEachErr.t1 (q0 : (Option Addr)) (q0_len : Nat) (q0_cap : Nat) (q1 : Value) (q2 : (Option Addr)) (q2_len : Nat) (q2_cap : Nat) (i1 : Int) (b5 : Bool) : T :=
  .ite b5 (
    .drew <|
    .load (Addr.mk 3 0 Option.none) .any fun (v6 : Value) =>
    .leaf 0 [(Value.int IntKind.i64 (-1 : Int)), (Value.int IntKind.i64 (0 : Int)), v6]) (
    .cut 1 (.cons (.int .i64) (.cons (.int .i64) .nil)) (
      .ite (decide (((q2_len : Nat) : Int) > (0 : Int))) (
        .call 108 #[(Value.slice q0 q0_len q0_cap), (Value.slice q2 q2_len q2_cap)] (.int .i64) fun (i7 : Int) =>
        .ite (i7 == (-1 : Int)) (
          .drew <|
          .load (Addr.mk 2 0 Option.none) .any fun (v8 : Value) =>
          .leaf 0 [(Value.int IntKind.i64 i7), (Value.int IntKind.i64 (0 : Int)), v8]) (
          .chk (((0 : Int) ≤ i7) ∧ ((i7 ≤ ((q0_len : Nat) : Int)) ∧ (((q0_len : Nat) : Int) ≤ ((q0_cap : Nat) : Int)))) <|
          .call 84 #[(Value.slice (if (q0_cap = (Int.toNat i7)) then q0 else (Option.map (fun (y9 : Addr) => (Addr.add y9 ((Int.toNat i7) * 1))) q0)) ((Int.toNat ((q0_len : Nat) : Int)) - (Int.toNat i7)) (q0_cap - (Int.toNat i7)))] (.int .i64) fun (i10 : Int) =>
          .ite (i10 == (-1 : Int)) (
            .drew <|
            .load (Addr.mk 5 0 Option.none) .any fun (v11 : Value) =>
            .leaf 0 [(Value.int IntKind.i64 i7), (Value.int IntKind.i64 (0 : Int)), v11]) (
            .chk (((0 : Int) ≤ (IntKind.wrap IntKind.i64 (i7 + i10))) ∧ ((IntKind.wrap IntKind.i64 (i7 + i10)) < ((q0_len : Nat) : Int))) <|
            .ptr q0 fun (z12 : Addr) =>
            .load (Addr.add z12 ((Int.toNat (IntKind.wrap IntKind.i64 (i7 + i10))) * 1)) (.int .u8) fun (i13 : Int) =>
            .ite (i13 != (91 : Int)) (
              .drew <|
              .load (Addr.mk 3 0 Option.none) .any fun (v14 : Value) =>
              .leaf 0 [(Value.int IntKind.i64 (IntKind.wrap IntKind.i64 (i7 + i10))), (Value.int IntKind.i64 (0 : Int)), v14]) (
              .leaf 1 [(Value.int IntKind.i64 (IntKind.wrap IntKind.i64 ((IntKind.wrap IntKind.i64 (i7 + i10)) + (1 : Int)))), (Value.int IntKind.i64 (0 : Int))])))) (
        .leaf 1 [(Value.int IntKind.i64 (IntKind.wrap IntKind.i64 (i1 + (1 : Int)))), (Value.int IntKind.i64 (0 : Int))]))
      (fun z => jsonparser_arrayEachErr.t2 q0 q0_len q0_cap q1 z.1 z.2.1))
def jsonparser_arrayEachErr.t (q0 : (Option Addr)) (q0_len : Nat) (q0_cap : Nat) (q1 : Value) (q2 : (Option Addr)) (q2_len : Nat) (q2_cap : Nat) : T :=
  .ite (((q0_len : Nat) : Int) == (0 : Int)) (
    .drew <|
    .load (Addr.mk 6 0 Option.none) .any fun (v0 : Value) =>
    .leaf 0 [(Value.int IntKind.i64 (-1 : Int)), (Value.int IntKind.i64 (0 : Int)), v0]) (
    .call 84 #[(Value.slice q0 q0_len q0_cap)] (.int .i64) fun (i1 : Int) =>
    .ite (i1 == (-1 : Int)) (
      .drew <|
      .load (Addr.mk 5 0 Option.none) .any fun (v2 : Value) =>
      .leaf 0 [(Value.int IntKind.i64 (-1 : Int)), (Value.int IntKind.i64 (0 : Int)), v2]) (
      .cut 1 (.cons .bool .nil) (
        .ite (((q2_len : Nat) : Int) == (0 : Int)) (
          .chk (((0 : Int) ≤ i1) ∧ (i1 < ((q0_len : Nat) : Int))) <|
          .ptr q0 fun (z3 : Addr) =>
          .load (Addr.add z3 ((Int.toNat i1) * 1)) (.int .u8) fun (i4 : Int) =>
          .leaf 1 [(Value.bool (i4 != (91 : Int)))]) (
          .leaf 1 [(Value.bool Bool.false)]))
        (fun z => jsonparser_arrayEachErr.t1 q0 q0_len q0_cap q1 q2 q2_len q2_cap i1 z.1)))
def jsonparser_arrayEachErr.h : Hints := ⟨[(42, [(6, (.int .i64)), (7, (.int .i64))])], [], [(6, [(36, .bool)])], [(26, [(7, (.int .i64)), (6, (.int .i64))])]⟩
noncomputable def jsonparser_arrayEachErr.c : Code := (Tryz.f94.body).getD .skip
theorem jsonparser_arrayEachErr.e (q0 : (Option Addr)) (q0_len : Nat) (q0_cap : Nat) (q1 : Value) (q2 : (Option Addr)) (q2_len : Nat) (q2_cap : Nat) : fnT Tryz.prog jsonparser_arrayEachErr.h Tryz.f94 jsonparser_arrayEachErr.c [.v (Value.slice q0 q0_len q0_cap), .o q1, .v (Value.slice q2 q2_len q2_cap)] = jsonparser_arrayEachErr.t q0 q0_len q0_cap q1 q2 q2_len q2_cap := by kernel_rfl
theorem jsonparser_arrayEachErr.calls (q0 : (Option Addr)) (q0_len : Nat) (q0_cap : Nat) (q1 : Value) (q2 : (Option Addr)) (q2_len : Nat) (q2_cap : Nat) {w : World} {R : Ending → World → Prop} (hs : sat Tryz.prog (jsonparser_arrayEachErr.t q0 q0_len q0_cap q1 q2 q2_len q2_cap) (fun l vs w' => l = 0 ∧ R (.returned (retVal vs)) w') w) : Calls Tryz.prog 94 #[(Value.slice q0 q0_len q0_cap), q1, (Value.slice q2 q2_len q2_cap)] w R :=
  have h := calls_of_tree (w := w) (R := R) (args := [.v (Value.slice q0 q0_len q0_cap), .o q1, .v (Value.slice q2 q2_len q2_cap)]) (c := jsonparser_arrayEachErr.c) Tryz.func94 (show Tryz.f94.body = some jsonparser_arrayEachErr.c by kernel_rfl) (of_decide_eq_true (by kernel_rfl)) (jsonparser_arrayEachErr.e q0 q0_len q0_cap q1 q2 q2_len q2_cap) hs
  h

/-! ### pub-tetrapla/pub/jsonparser.searchKeys : function 108 -/
def jsonparser_searchKeys.t (data : (Option Addr)) (data_len : Nat) (data_cap : Nat) (keys : (Option Addr)) (keys_len : Nat) (keys_cap : Nat) : T :=
  .eff (Instr.loadAt 100 (Value.pointer (some (Addr.mk 0 0 Option.none)))) (.agg (.cons .bool (.cons .bool (.cons (.int .i64) .nil)))) fun (z0 : (Bool × (Bool × (Int × PUnit)))) =>
  .call 101 #[(Value.agg #[(Value.bool (z0).1), (Value.bool ((z0).2).1), (Value.int IntKind.i64 (((z0).2).2).1)]), (Value.slice data data_len data_cap), (Value.slice keys keys_len keys_cap)] (.int .i64) fun (i1 : Int) =>
  .leaf 0 [(Value.int IntKind.i64 i1)]
def jsonparser_searchKeys.h : Hints := ⟨[], [], [], []⟩
noncomputable def jsonparser_searchKeys.c : Code := (Tryz.f108.body).getD .skip
theorem jsonparser_searchKeys.e (data : (Option Addr)) (data_len : Nat) (data_cap : Nat) (keys : (Option Addr)) (keys_len : Nat) (keys_cap : Nat) : fnT Tryz.prog jsonparser_searchKeys.h Tryz.f108 jsonparser_searchKeys.c [.v (Value.slice data data_len data_cap), .v (Value.slice keys keys_len keys_cap)] = jsonparser_searchKeys.t data data_len data_cap keys keys_len keys_cap := by kernel_rfl
theorem jsonparser_searchKeys.calls (data : (Option Addr)) (data_len : Nat) (data_cap : Nat) (keys : (Option Addr)) (keys_len : Nat) (keys_cap : Nat) {w : World} {R : Ending → World → Prop} (hs : sat Tryz.prog (jsonparser_searchKeys.t data data_len data_cap keys keys_len keys_cap) (fun l vs w' => l = 0 ∧ R (.returned (retVal vs)) w') w) : Calls Tryz.prog 108 #[(Value.slice data data_len data_cap), (Value.slice keys keys_len keys_cap)] w R :=
  have h := calls_of_tree (w := w) (R := R) (args := [.v (Value.slice data data_len data_cap), .v (Value.slice keys keys_len keys_cap)]) (c := jsonparser_searchKeys.c) Tryz.func108 (show Tryz.f108.body = some jsonparser_searchKeys.c by kernel_rfl) (of_decide_eq_true (by kernel_rfl)) (jsonparser_searchKeys.e data data_len data_cap keys keys_len keys_cap) hs
  h

end Go.Proofs.YtcjphnppedmbdaaGreatDoor.Tr
