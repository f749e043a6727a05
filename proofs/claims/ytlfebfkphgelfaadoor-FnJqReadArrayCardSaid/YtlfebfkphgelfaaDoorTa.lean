/- Trees of loaded functions, printed by wip/tools/rxprint (a program of this repo): each is what 'exec' comes to, held by the kernel. No statement of the set is proved here. -/
import Derived.Test.YtlfebfkphgelfaaDoorRz
import Derived.Test.YtlfebfkphgelfaaDoorProg
import Derived.KernelRfl
namespace Go.Proofs.YtlfebfkphgelfaaDoor.Tr
open Go Go.Proofs Go.Proofs.YtlfebfkphgelfaaDoor.Rx
set_option linter.unusedVariables false
set_option maxRecDepth 100000
/-! ### pub-tetrapla/laws.FnJqReadArray : function 4 -/
def laws_FnJqReadArray.t4 (q0 : ByteArray) (z2 : Addr) (z7 : (((Option Addr) × (Nat × Nat)) × (Bool × PUnit))) (i10 : Int) : T :=
  .ite (decide (i10 < (((((z7).1).2).1 : Nat) : Int))) (
    .drew <|
    .chk (((0 : Int) ≤ i10) ∧ (i10 < (((((z7).1).2).1 : Nat) : Int))) <|
    .ptr ((z7).1).1 fun (z11 : Addr) =>
    .effS (Instr.loadAt 44 (Value.pointer (some (Addr.add z11 ((Int.toNat i10) * 4))))) (.agg (.cons .str (.cons .str (.cons (.int .i64) (.cons (.int .i64) .nil))))) fun (z12 : (ByteArray × (ByteArray × (Int × (Int × PUnit))))) =>
    .load (Addr.add z2 4) .slice fun (z13 : ((Option Addr) × (Nat × Nat))) =>
    .chk (((0 : Int) ≤ i10) ∧ (i10 < ((((z13).2).1 : Nat) : Int))) <|
    .ptr (z13).1 fun (z14 : Addr) =>
    .effS (Instr.loadAt 27 (Value.pointer (some (Addr.add z14 ((Int.toNat i10) * 5))))) (.agg (.cons (.int .i64) (.cons (.int .i64) (.cons (.int .i64) (.cons .slice (.cons .slice .nil)))))) fun (z15 : (Int × (Int × (Int × (((Option Addr) × (Nat × Nat)) × (((Option Addr) × (Nat × Nat)) × PUnit)))))) =>
    .call 14 #[(Value.agg #[(Value.string (z12).1), (Value.string ((z12).2).1), (Value.int IntKind.i64 (((z12).2).2).1), (Value.int IntKind.i64 ((((z12).2).2).2).1)]), (Value.string q0), (Value.agg #[(Value.int IntKind.i64 (z15).1), (Value.int IntKind.i64 ((z15).2).1), (Value.int IntKind.i64 (((z15).2).2).1), (Value.slice (((((z15).2).2).2).1).1 ((((((z15).2).2).2).1).2).1 ((((((z15).2).2).2).1).2).2), (Value.slice ((((((z15).2).2).2).2).1).1 (((((((z15).2).2).2).2).1).2).1 (((((((z15).2).2).2).2).1).2).2)])] .bool fun (b16 : Bool) =>
    .ite (!b16) (
      .leaf 0 [(Value.bool Bool.false)]) (
      .leaf 1 [(Value.int IntKind.i64 (IntKind.wrap IntKind.i64 (i10 + (1 : Int))))])) (
    .leaf 0 [(Value.bool Bool.true)])
def laws_FnJqReadArray.t3 (q0 : ByteArray) (z2 : Addr) (z7 : (((Option Addr) × (Nat × Nat)) × (Bool × PUnit))) (b9 : Bool) : T :=
  .ite b9 (
    .leaf 0 [(Value.bool Bool.false)]) (
    .loop 1 (.cons (.int .i64) .nil) [(Value.int IntKind.i64 (0 : Int))]
      (fun z => laws_FnJqReadArray.t4 q0 z2 z7 z.1))
def laws_FnJqReadArray.t2 (q0 : ByteArray) (q1 : (Option Addr)) (q1_len : Nat) (q1_cap : Nat) (q2 : Int) (z2 : Addr) (b5 : Bool) : T :=
  .ite b5 (
    .leaf 0 [(Value.bool Bool.true)]) (
    .call 13 #[(Value.string q0), (Value.slice q1 q1_len q1_cap)] .slice fun (z6 : ((Option Addr) × (Nat × Nat))) =>
    .call 12 #[(Value.slice (z6).1 ((z6).2).1 ((z6).2).2), (Value.int IntKind.i64 q2)] (.tuple (.cons .slice (.cons .bool .nil))) fun (z7 : (((Option Addr) × (Nat × Nat)) × (Bool × PUnit))) =>
    .cut 1 (.cons .bool .nil) (
      .ite (!((z7).2).1) (
        .leaf 1 [(Value.bool Bool.true)]) (
        .load (Addr.add z2 4) .slice fun (z8 : ((Option Addr) × (Nat × Nat))) =>
        .leaf 1 [(Value.bool ((((((z7).1).2).1 : Nat) : Int) != ((((z8).2).1 : Nat) : Int)))]))
      (fun z => laws_FnJqReadArray.t3 q0 z2 z7 z.1))
def laws_FnJqReadArray.t1 (q0 : ByteArray) (q1 : (Option Addr)) (q1_len : Nat) (q1_cap : Nat) (q2 : Int) (b0 : Bool) : T :=
  .ite b0 (
    .leaf 0 [(Value.bool Bool.true)]) (
    .call 10 #[(Value.string q0)] (.tuple (.cons (.agg (.cons (.int .i64) (.cons (.int .i64) (.cons (.int .i64) (.cons .slice (.cons .slice .nil)))))) (.cons .bool .nil))) fun (z1 : ((Int × (Int × (Int × (((Option Addr) × (Nat × Nat)) × (((Option Addr) × (Nat × Nat)) × PUnit))))) × (Bool × PUnit))) =>
    .alloc (Obj.cells #[(Value.int IntKind.i64 (0 : Int)), (Value.int IntKind.i64 (0 : Int)), (Value.int IntKind.i64 (0 : Int)), (Value.slice none 0 0), (Value.slice none 0 0)] 27 (0, 0)) fun (z2 : Addr) =>
    .effU (Instr.storeAt 27 (Value.pointer (some z2)) (Value.agg #[(Value.int IntKind.i64 ((z1).1).1), (Value.int IntKind.i64 (((z1).1).2).1), (Value.int IntKind.i64 ((((z1).1).2).2).1), (Value.slice ((((((z1).1).2).2).2).1).1 (((((((z1).1).2).2).2).1).2).1 (((((((z1).1).2).2).2).1).2).2), (Value.slice (((((((z1).1).2).2).2).2).1).1 ((((((((z1).1).2).2).2).2).1).2).1 ((((((((z1).1).2).2).2).2).1).2).2)])) <|
    .cut 1 (.cons .bool .nil) (
      .ite (!((z1).2).1) (
        .leaf 1 [(Value.bool Bool.true)]) (
        .call 11 #[(Value.string q0), (Value.slice q1 q1_len q1_cap), (Value.int IntKind.i64 q2)] .bool fun (b3 : Bool) =>
        .ite (!b3) (
          .leaf 1 [(Value.bool Bool.true)]) (
          .load (Addr.add z2 0) (.int .i64) fun (i4 : Int) =>
          .leaf 1 [(Value.bool (i4 != (5 : Int)))])))
      (fun z => laws_FnJqReadArray.t2 q0 q1 q1_len q1_cap q2 z2 z.1))
def laws_FnJqReadArray.t (q0 : ByteArray) (q1 : (Option Addr)) (q1_len : Nat) (q1_cap : Nat) (q2 : Int) : T :=
  .cut 1 (.cons .bool .nil) (
    .ite (decide ((((ByteArray.size q0) : Nat) : Int) > (2147483647 : Int))) (
      .leaf 1 [(Value.bool Bool.true)]) (
      .leaf 1 [(Value.bool (decide (((q1_len : Nat) : Int) > (2147483647 : Int))))]))
    (fun z => laws_FnJqReadArray.t1 q0 q1 q1_len q1_cap q2 z.1)
def laws_FnJqReadArray.h : Hints := ⟨[], [], [(1, [(19, .bool)]), (4, [(38, .bool)]), (7, [(56, .bool)])], [(10, [(11, (.int .i64))])]⟩
noncomputable def laws_FnJqReadArray.c : Code := (Tryd.f4.body).getD .skip
theorem laws_FnJqReadArray.e (q0 : ByteArray) (q1 : (Option Addr)) (q1_len : Nat) (q1_cap : Nat) (q2 : Int) : fnT Tryd.prog laws_FnJqReadArray.h Tryd.f4 laws_FnJqReadArray.c [.v (Value.string q0), .v (Value.slice q1 q1_len q1_cap), .v (Value.int IntKind.i64 q2)] = laws_FnJqReadArray.t q0 q1 q1_len q1_cap q2 := by kernel_rfl
theorem laws_FnJqReadArray.calls (q0 : ByteArray) (q1 : (Option Addr)) (q1_len : Nat) (q1_cap : Nat) (q2 : Int) {w : World} {R : Ending → World → Prop} (hs : sat Tryd.prog (laws_FnJqReadArray.t q0 q1 q1_len q1_cap q2) (fun l vs w' => l = 0 ∧ R (.returned (retVal vs)) w') w) : Calls Tryd.prog 4 #[(Value.string q0), (Value.slice q1 q1_len q1_cap), (Value.int IntKind.i64 q2)] w R :=
  have h := calls_of_tree (w := w) (R := R) (args := [.v (Value.string q0), .v (Value.slice q1 q1_len q1_cap), .v (Value.int IntKind.i64 q2)]) (c := laws_FnJqReadArray.c) Tryd.func4 (show Tryd.f4.body = some laws_FnJqReadArray.c by kernel_rfl) (of_decide_eq_true (by kernel_rfl)) (laws_FnJqReadArray.e q0 q1 q1_len q1_cap q2) hs
  h

/-! ### pub-tetrapla/laws.jqStream : function 11 -/
def laws_jqStream.t (text : ByteArray) (cuts : (Option Addr)) (cuts_len : Nat) (cuts_cap : Nat) (window : Int) : T :=
  .ite (decide ((((ByteArray.size text) : Nat) : Int) ≤ (3000 : Int))) (
    .ite (decide (((cuts_len : Nat) : Int) ≤ (100 : Int))) (
      .ite (decide (window ≥ (0 : Int))) (
        .leaf 0 [(Value.bool (decide (window ≤ (1048576 : Int))))]) (
        .leaf 0 [(Value.bool Bool.false)])) (
      .leaf 0 [(Value.bool Bool.false)])) (
    .leaf 0 [(Value.bool Bool.false)])
def laws_jqStream.h : Hints := ⟨[], [], [], []⟩
noncomputable def laws_jqStream.c : Code := (Tryd.f11.body).getD .skip
theorem laws_jqStream.e (text : ByteArray) (cuts : (Option Addr)) (cuts_len : Nat) (cuts_cap : Nat) (window : Int) : fnT Tryd.prog laws_jqStream.h Tryd.f11 laws_jqStream.c [.v (Value.string text), .v (Value.slice cuts cuts_len cuts_cap), .v (Value.int IntKind.i64 window)] = laws_jqStream.t text cuts cuts_len cuts_cap window := by kernel_rfl
theorem laws_jqStream.calls (text : ByteArray) (cuts : (Option Addr)) (cuts_len : Nat) (cuts_cap : Nat) (window : Int) {w : World} {R : Ending → World → Prop} (hs : sat Tryd.prog (laws_jqStream.t text cuts cuts_len cuts_cap window) (fun l vs w' => l = 0 ∧ R (.returned (retVal vs)) w') w) : Calls Tryd.prog 11 #[(Value.string text), (Value.slice cuts cuts_len cuts_cap), (Value.int IntKind.i64 window)] w R :=
  have h := calls_of_tree (w := w) (R := R) (args := [.v (Value.string text), .v (Value.slice cuts cuts_len cuts_cap), .v (Value.int IntKind.i64 window)]) (c := laws_jqStream.c) Tryd.func11 (show Tryd.f11.body = some laws_jqStream.c by kernel_rfl) (of_decide_eq_true (by kernel_rfl)) (laws_jqStream.e text cuts cuts_len cuts_cap window) hs
  h

/-! ### pub-tetrapla/impl.JqReadArray : function 12 -/
def impl_JqReadArray.t (pieces : (Option Addr)) (pieces_len : Nat) (pieces_cap : Nat) (window : Int) : T :=
  .alloc (Obj.cells #[(Value.slice none 0 0)] 38 (0, 0)) fun (z0 : Addr) =>
  .call 22 #[(Value.slice pieces pieces_len pieces_cap), (Value.int IntKind.i64 window)] .ptr fun (p1 : (Option Addr)) =>
  .call 23 #[(Value.pointer p1), (Value.func (.func 24) #[] #[(Value.pointer (some z0))])] .any fun (v2 : Value) =>
  .drew <|
  .load z0 .slice fun (z3 : ((Option Addr) × (Nat × Nat))) =>
  .chk ((isIface v2) = Bool.true) <|
  .leaf 0 [(Value.slice (z3).1 ((z3).2).1 ((z3).2).2), (Value.bool (isNil v2))]
def impl_JqReadArray.h : Hints := ⟨[], [], [], []⟩
noncomputable def impl_JqReadArray.c : Code := (Tryd.f12.body).getD .skip
theorem impl_JqReadArray.e (pieces : (Option Addr)) (pieces_len : Nat) (pieces_cap : Nat) (window : Int) : fnT Tryd.prog impl_JqReadArray.h Tryd.f12 impl_JqReadArray.c [.v (Value.slice pieces pieces_len pieces_cap), .v (Value.int IntKind.i64 window)] = impl_JqReadArray.t pieces pieces_len pieces_cap window := by kernel_rfl
theorem impl_JqReadArray.calls (pieces : (Option Addr)) (pieces_len : Nat) (pieces_cap : Nat) (window : Int) {w : World} {R : Ending → World → Prop} (hs : sat Tryd.prog (impl_JqReadArray.t pieces pieces_len pieces_cap window) (fun l vs w' => l = 0 ∧ R (.returned (retVal vs)) w') w) : Calls Tryd.prog 12 #[(Value.slice pieces pieces_len pieces_cap), (Value.int IntKind.i64 window)] w R :=
  have h := calls_of_tree (w := w) (R := R) (args := [.v (Value.slice pieces pieces_len pieces_cap), .v (Value.int IntKind.i64 window)]) (c := impl_JqReadArray.c) Tryd.func12 (show Tryd.f12.body = some impl_JqReadArray.c by kernel_rfl) (of_decide_eq_true (by kernel_rfl)) (impl_JqReadArray.e pieces pieces_len pieces_cap window) hs
  h

/-! ### pub-tetrapla/laws.jqPieces : function 13 -/
def laws_jqPieces.t3 (i6 : Int) : T :=
  .leaf 2 [(Value.int IntKind.i64 i6)]
def laws_jqPieces.t2 (i4 : Int) (b5 : Bool) : T :=
  .cut 3 (.cons (.int .i64) .nil) (
    .ite b5 (
      .leaf 3 [(Value.int IntKind.i64 (1 : Int))]) (
      .leaf 3 [(Value.int IntKind.i64 (IntKind.wrap IntKind.i64 i4))]))
    (fun z => laws_jqPieces.t3 z.1)
def laws_jqPieces.t4 (i0 : Int) (s1 : ByteArray) (z2 : ((Option Addr) × (Nat × Nat))) (i7 : Int) : T :=
  .eff (Builtin.min_ (Call.argTypes (Call.mk (Callee.builtin Builtin.min) #[(Operand.tmp 28), (Operand.tmp 30)] #[3, 3])) 3 #[(Value.int IntKind.i64 i7), (Value.int IntKind.i64 (((ByteArray.size s1) : Nat) : Int))]) (.int .i64) fun (i8 : Int) =>
  .chk (((0 : Int) ≤ (0 : Int)) ∧ (((0 : Int) ≤ i8) ∧ (i8 ≤ (((ByteArray.size s1) : Nat) : Int)))) <|
  .eff (Instr.buildSlice 22 1 #[(0, (Value.string (ByteArray.extract s1 0 (Int.toNat i8))))]) .slice fun (z9 : ((Option Addr) × (Nat × Nat))) =>
  .eff (Builtin.append_ (Call.argTypes (Call.mk (Callee.builtin Builtin.append) #[(Operand.tmp 32), (Operand.tmp 36)] #[22, 22])) 22 #[(Value.slice (z2).1 ((z2).2).1 ((z2).2).2), (Value.slice (z9).1 ((z9).2).1 ((z9).2).2)]) .slice fun (z10 : ((Option Addr) × (Nat × Nat))) =>
  .chk (((0 : Int) ≤ i8) ∧ ((i8 ≤ (((ByteArray.size s1) : Nat) : Int)) ∧ ((((ByteArray.size s1) : Nat) : Int) ≤ (((ByteArray.size s1) : Nat) : Int)))) <|
  .leaf 1 [(Value.int IntKind.i64 (IntKind.wrap IntKind.i64 (i0 + (1 : Int)))), (Value.string (ByteArray.extract s1 (Int.toNat i8) (Int.toNat (((ByteArray.size s1) : Nat) : Int)))), (Value.slice (z10).1 ((z10).2).1 ((z10).2).2)]
def laws_jqPieces.t1 (cuts : (Option Addr)) (cuts_len : Nat) (i0 : Int) (s1 : ByteArray) (z2 : ((Option Addr) × (Nat × Nat))) : T :=
  .ite (!(strEq s1 (ByteArray.mk #[]))) (
    .cut 2 (.cons (.int .i64) .nil) (
      .ite (decide (((cuts_len : Nat) : Int) > (0 : Int))) (
        .chk (((cuts_len : Nat) : Int) ≠ (0 : Int)) <|
        .chk (((0 : Int) ≤ (Int.tmod i0 ((cuts_len : Nat) : Int))) ∧ ((Int.tmod i0 ((cuts_len : Nat) : Int)) < ((cuts_len : Nat) : Int))) <|
        .ptr cuts fun (z3 : Addr) =>
        .load (Addr.add z3 ((Int.toNat (Int.tmod i0 ((cuts_len : Nat) : Int))) * 1)) (.int .u8) fun (i4 : Int) =>
        .cut 3 (.cons .bool .nil) (
          .ite ((IntKind.wrap IntKind.i64 i4) == (0 : Int)) (
            .chk ((2 : Int) ≠ (0 : Int)) <|
            .leaf 3 [(Value.bool ((Int.tmod i0 (2 : Int)) == (1 : Int)))]) (
            .leaf 3 [(Value.bool Bool.false)]))
          (fun z => laws_jqPieces.t2 i4 z.1)) (
        .leaf 2 [(Value.int IntKind.i64 (1 : Int))]))
      (fun z => laws_jqPieces.t4 i0 s1 z2 z.1)) (
    .leaf 0 [(Value.slice (z2).1 ((z2).2).1 ((z2).2).2)])
def laws_jqPieces.t (text : ByteArray) (cuts : (Option Addr)) (cuts_len : Nat) (cuts_cap : Nat) : T :=
  .loop 1 (.cons (.int .i64) (.cons .str (.cons .slice .nil))) [(Value.int IntKind.i64 (0 : Int)), (Value.string text), (Value.slice none 0 0)]
    (fun z => laws_jqPieces.t1 cuts cuts_len z.1 z.2.1 z.2.2.1)
def laws_jqPieces.h : Hints := ⟨[(12, [(7, (.int .i64))]), (27, [(7, (.int .i64))])], [], [(7, [(27, .bool)])], [(3, [(6, (.int .i64)), (0, .str), (5, .slice)])]⟩
noncomputable def laws_jqPieces.c : Code := (Tryd.f13.body).getD .skip
theorem laws_jqPieces.e (text : ByteArray) (cuts : (Option Addr)) (cuts_len : Nat) (cuts_cap : Nat) : fnT Tryd.prog laws_jqPieces.h Tryd.f13 laws_jqPieces.c [.v (Value.string text), .v (Value.slice cuts cuts_len cuts_cap)] = laws_jqPieces.t text cuts cuts_len cuts_cap := by kernel_rfl
theorem laws_jqPieces.calls (text : ByteArray) (cuts : (Option Addr)) (cuts_len : Nat) (cuts_cap : Nat) {w : World} {R : Ending → World → Prop} (hs : sat Tryd.prog (laws_jqPieces.t text cuts cuts_len cuts_cap) (fun l vs w' => l = 0 ∧ R (.returned (retVal vs)) w') w) : Calls Tryd.prog 13 #[(Value.string text), (Value.slice cuts cuts_len cuts_cap)] w R :=
  have h := calls_of_tree (w := w) (R := R) (args := [.v (Value.string text), .v (Value.slice cuts cuts_len cuts_cap)]) (c := laws_jqPieces.c) Tryd.func13 (show Tryd.f13.body = some laws_jqPieces.c by kernel_rfl) (of_decide_eq_true (by kernel_rfl)) (laws_jqPieces.e text cuts cuts_len cuts_cap) hs
  h

/-! ### pub-tetrapla/laws.jpSame : function 14 -/
def laws_jpSame.t (f_0 : ByteArray) (f_1 : ByteArray) (f_2 : Int) (f_3 : Int) (text : ByteArray) (p_0 : Int) (p_1 : Int) (p_2 : Int) (p_3 : (Option Addr)) (p_3_len : Nat) (p_3_cap : Nat) (p_4 : (Option Addr)) (p_4_len : Nat) (p_4_cap : Nat) : T :=
  .alloc (Obj.cells #[(Value.string f_0), (Value.string f_1), (Value.int IntKind.i64 f_2), (Value.int IntKind.i64 f_3)] 44 (0, 0)) fun (z0 : Addr) =>
  .alloc (Obj.cells #[(Value.int IntKind.i64 p_0), (Value.int IntKind.i64 p_1), (Value.int IntKind.i64 p_2), (Value.slice p_3 p_3_len p_3_cap), (Value.slice p_4 p_4_len p_4_cap)] 27 (0, 0)) fun (z1 : Addr) =>
  .drew <|
  .load (Addr.add z0 2) (.int .i64) fun (i2 : Int) =>
  .load (Addr.add z1 0) (.int .i64) fun (i3 : Int) =>
  .here fun (z4 : World) =>
  .call 25 #[(Value.int IntKind.i64 i3)] (.int .i64) fun (i5 : Int) =>
  .grew z4 <|
  .ite (i2 == i5) (
    .load (Addr.add z0 1) .str fun (s6 : ByteArray) =>
    .effQ (Instr.loadAt 27 (Value.pointer (some z1))) (.agg (.cons (.int .i64) (.cons (.int .i64) (.cons (.int .i64) (.cons .slice (.cons .slice .nil)))))) fun (z7 : (Int × (Int × (Int × (((Option Addr) × (Nat × Nat)) × (((Option Addr) × (Nat × Nat)) × PUnit)))))) =>
    .here fun (z8 : World) =>
    .call 26 #[(Value.string text), (Value.agg #[(Value.int IntKind.i64 (z7).1), (Value.int IntKind.i64 ((z7).2).1), (Value.int IntKind.i64 (((z7).2).2).1), (Value.slice (((((z7).2).2).2).1).1 ((((((z7).2).2).2).1).2).1 ((((((z7).2).2).2).1).2).2), (Value.slice ((((((z7).2).2).2).2).1).1 (((((((z7).2).2).2).2).1).2).1 (((((((z7).2).2).2).2).1).2).2)])] .str fun (s9 : ByteArray) =>
    .grew z8 <|
    .leaf 0 [(Value.bool (strEq s6 s9))]) (
    .here fun (z10 : World) =>
    .grew z10 <|
    .leaf 0 [(Value.bool Bool.false)])
def laws_jpSame.h : Hints := ⟨[], [], [], []⟩
noncomputable def laws_jpSame.c : Code := (Tryd.f14.body).getD .skip
theorem laws_jpSame.e (f_0 : ByteArray) (f_1 : ByteArray) (f_2 : Int) (f_3 : Int) (text : ByteArray) (p_0 : Int) (p_1 : Int) (p_2 : Int) (p_3 : (Option Addr)) (p_3_len : Nat) (p_3_cap : Nat) (p_4 : (Option Addr)) (p_4_len : Nat) (p_4_cap : Nat) : fnT Tryd.prog laws_jpSame.h Tryd.f14 laws_jpSame.c [.v (Value.agg #[(Value.string f_0), (Value.string f_1), (Value.int IntKind.i64 f_2), (Value.int IntKind.i64 f_3)]), .v (Value.string text), .v (Value.agg #[(Value.int IntKind.i64 p_0), (Value.int IntKind.i64 p_1), (Value.int IntKind.i64 p_2), (Value.slice p_3 p_3_len p_3_cap), (Value.slice p_4 p_4_len p_4_cap)])] = laws_jpSame.t f_0 f_1 f_2 f_3 text p_0 p_1 p_2 p_3 p_3_len p_3_cap p_4 p_4_len p_4_cap := by kernel_rfl
theorem laws_jpSame.calls (f_0 : ByteArray) (f_1 : ByteArray) (f_2 : Int) (f_3 : Int) (text : ByteArray) (p_0 : Int) (p_1 : Int) (p_2 : Int) (p_3 : (Option Addr)) (p_3_len : Nat) (p_3_cap : Nat) (p_4 : (Option Addr)) (p_4_len : Nat) (p_4_cap : Nat) {w : World} {R : Ending → World → Prop} (hs : sat Tryd.prog (laws_jpSame.t f_0 f_1 f_2 f_3 text p_0 p_1 p_2 p_3 p_3_len p_3_cap p_4 p_4_len p_4_cap) (fun l vs w' => l = 0 ∧ R (.returned (retVal vs)) w') w) : Calls Tryd.prog 14 #[(Value.agg #[(Value.string f_0), (Value.string f_1), (Value.int IntKind.i64 f_2), (Value.int IntKind.i64 f_3)]), (Value.string text), (Value.agg #[(Value.int IntKind.i64 p_0), (Value.int IntKind.i64 p_1), (Value.int IntKind.i64 p_2), (Value.slice p_3 p_3_len p_3_cap), (Value.slice p_4 p_4_len p_4_cap)])] w R :=
  have h := calls_of_tree (w := w) (R := R) (args := [.v (Value.agg #[(Value.string f_0), (Value.string f_1), (Value.int IntKind.i64 f_2), (Value.int IntKind.i64 f_3)]), .v (Value.string text), .v (Value.agg #[(Value.int IntKind.i64 p_0), (Value.int IntKind.i64 p_1), (Value.int IntKind.i64 p_2), (Value.slice p_3 p_3_len p_3_cap), (Value.slice p_4 p_4_len p_4_cap)])]) (c := laws_jpSame.c) Tryd.func14 (show Tryd.f14.body = some laws_jpSame.c by kernel_rfl) (of_decide_eq_true (by kernel_rfl)) (laws_jpSame.e f_0 f_1 f_2 f_3 text p_0 p_1 p_2 p_3 p_3_len p_3_cap p_4 p_4_len p_4_cap) hs
  h

/-! ### pub-tetrapla/impl.reader : function 22 -/
def impl_reader.t (pieces : (Option Addr)) (pieces_len : Nat) (pieces_cap : Nat) (window : Int) : T :=
  .eff (Instr.buildSlice 22 0 #[]) .slice fun (z0 : ((Option Addr) × (Nat × Nat))) =>
  .eff (Builtin.append_ (Call.argTypes (Call.mk (Callee.builtin Builtin.append) #[(Operand.tmp 5), (Operand.tmp 6)] #[22, 22])) 22 #[(Value.slice (z0).1 ((z0).2).1 ((z0).2).2), (Value.slice pieces pieces_len pieces_cap)]) .slice fun (z1 : ((Option Addr) × (Nat × Nat))) =>
  .alloc (Obj.cells #[(Value.slice (z1).1 ((z1).2).1 ((z1).2).2)] 85 (0, 0)) fun (z2 : Addr) =>
  .eff (Instr.buildSlice 106 1 #[(0, (Value.agg #[(Value.bool Bool.false), (Value.bool Bool.false), (Value.int IntKind.i64 window)]))]) .slice fun (z3 : ((Option Addr) × (Nat × Nat))) =>
  .call 40 #[(Value.iface 83 (Value.pointer (some z2))), (Value.slice (z3).1 ((z3).2).1 ((z3).2).2)] .ptr fun (p4 : (Option Addr)) =>
  .leaf 0 [(Value.pointer p4)]
def impl_reader.h : Hints := ⟨[], [], [], []⟩
noncomputable def impl_reader.c : Code := (Tryd.f22.body).getD .skip
theorem impl_reader.e (pieces : (Option Addr)) (pieces_len : Nat) (pieces_cap : Nat) (window : Int) : fnT Tryd.prog impl_reader.h Tryd.f22 impl_reader.c [.v (Value.slice pieces pieces_len pieces_cap), .v (Value.int IntKind.i64 window)] = impl_reader.t pieces pieces_len pieces_cap window := by kernel_rfl
theorem impl_reader.calls (pieces : (Option Addr)) (pieces_len : Nat) (pieces_cap : Nat) (window : Int) {w : World} {R : Ending → World → Prop} (hs : sat Tryd.prog (impl_reader.t pieces pieces_len pieces_cap window) (fun l vs w' => l = 0 ∧ R (.returned (retVal vs)) w') w) : Calls Tryd.prog 22 #[(Value.slice pieces pieces_len pieces_cap), (Value.int IntKind.i64 window)] w R :=
  have h := calls_of_tree (w := w) (R := R) (args := [.v (Value.slice pieces pieces_len pieces_cap), .v (Value.int IntKind.i64 window)]) (c := impl_reader.c) Tryd.func22 (show Tryd.f22.body = some impl_reader.c by kernel_rfl) (of_decide_eq_true (by kernel_rfl)) (impl_reader.e pieces pieces_len pieces_cap window) hs
  h

/-! ### (*pub-tetrapla/pub/jsonparser.ReaderParser).ArrayEach : function 23 -/
def jsonparser_ReaderParser_ArrayEach.t1 (q0 : (Option Addr)) (q1 : Value) : T :=
  .call 43 #[(Value.pointer q0)] (.tuple (.cons .slice (.cons .any .nil))) fun (z19 : (((Option Addr) × (Nat × Nat)) × (Value × PUnit))) =>
  .chk ((isIface ((z19).2).1) = Bool.true) <|
  .ite (!(isNil ((z19).2).1)) (
    .callD q1 #[(Value.slice none 0 0), (Value.int IntKind.i64 (7 : Int)), ((z19).2).1] (.tuple .nil) fun _ =>
    .leaf 0 [((z19).2).1]) (
    .ptr q0 fun (z20 : Addr) =>
    .eff (Instr.loadAt 73 (Value.pointer (some (Addr.add z20 4)))) (.agg (.cons .bool (.cons .bool (.cons (.int .i64) .nil)))) fun (z21 : (Bool × (Bool × (Int × PUnit)))) =>
    .call 44 #[(Value.agg #[(Value.bool (z21).1), (Value.bool ((z21).2).1), (Value.int IntKind.i64 (((z21).2).2).1)]), (Value.slice ((z19).1).1 (((z19).1).2).1 (((z19).1).2).2), (Value.slice none 0 0)] (.tuple (.cons .slice (.cons (.int .i64) (.cons (.int .i64) (.cons .any .nil))))) fun (z22 : (((Option Addr) × (Nat × Nat)) × (Int × (Int × (Value × PUnit))))) =>
    .callD q1 #[(Value.slice ((z22).1).1 (((z22).1).2).1 (((z22).1).2).2), (Value.int IntKind.i64 ((z22).2).1), ((((z22).2).2).2).1] (.tuple .nil) fun _ =>
    .chk ((isIface ((((z22).2).2).2).1) = Bool.true) <|
    .ite (!(isNil ((((z22).2).2).2).1)) (
      .leaf 0 [((((z22).2).2).2).1]) (
      .call 41 #[(Value.pointer q0)] .any fun (v23 : Value) =>
      .chk ((isIface v23) = Bool.true) <|
      .ite (!(isNil v23)) (
        .load (Addr.mk 1 0 Option.none) .any fun (v24 : Value) =>
        .eff (Bind.bind (eqGuard BinOp.eql 51 (Operand.tmp 104) (Operand.tmp 105) v23 v24) (fun (y25 : Unit) => (binOp BinOp.eql 51 v23 v24))) .bool fun (b26 : Bool) =>
        .ite b26 (
          .load (Addr.mk 3 0 Option.none) .any fun (v27 : Value) =>
          .leaf 0 [v27]) (
          .leaf 0 [v23])) (
        .call 42 #[(Value.pointer q0), (Value.bool Bool.false)] (.tuple (.cons (.int .u8) (.cons .any .nil))) fun (z28 : (Int × (Value × PUnit))) =>
        .chk ((isIface ((z28).2).1) = Bool.true) <|
        .ite (!(isNil ((z28).2).1)) (
          .leaf 0 [((z28).2).1]) (
          .ite ((z28).1 == (93 : Int)) (
            .ptr q0 fun (z29 : Addr) =>
            .load (Addr.add z29 3) (.int .i64) fun (i30 : Int) =>
            .ptr q0 fun (z31 : Addr) =>
            .store (Addr.add z31 3) (Value.int IntKind.i64 (IntKind.wrap IntKind.i64 (i30 + (1 : Int)))) <|
            .leaf 0 [Value.nilIface]) (
            .ite ((z28).1 == (44 : Int)) (
              .ptr q0 fun (z32 : Addr) =>
              .load (Addr.add z32 3) (.int .i64) fun (i33 : Int) =>
              .ptr q0 fun (z34 : Addr) =>
              .store (Addr.add z34 3) (Value.int IntKind.i64 (IntKind.wrap IntKind.i64 (i33 + (1 : Int)))) <|
              .call 41 #[(Value.pointer q0)] .any fun (v35 : Value) =>
              .chk ((isIface v35) = Bool.true) <|
              .ite (!(isNil v35)) (
                .load (Addr.mk 1 0 Option.none) .any fun (v36 : Value) =>
                .eff (Bind.bind (eqGuard BinOp.eql 51 (Operand.tmp 141) (Operand.tmp 142) v35 v36) (fun (y37 : Unit) => (binOp BinOp.eql 51 v35 v36))) .bool fun (b38 : Bool) =>
                .ite b38 (
                  .load (Addr.mk 3 0 Option.none) .any fun (v39 : Value) =>
                  .leaf 0 [v39]) (
                  .leaf 0 [v35])) (
                .call 42 #[(Value.pointer q0), (Value.bool Bool.false)] (.tuple (.cons (.int .u8) (.cons .any .nil))) fun (z40 : (Int × (Value × PUnit))) =>
                .chk ((isIface ((z40).2).1) = Bool.true) <|
                .ite (!(isNil ((z40).2).1)) (
                  .leaf 0 [((z40).2).1]) (
                  .ite ((z40).1 == (93 : Int)) (
                    .load (Addr.mk 3 0 Option.none) .any fun (v41 : Value) =>
                    .leaf 0 [v41]) (
                    .leaf 1 [])))) (
              .load (Addr.mk 3 0 Option.none) .any fun (v42 : Value) =>
              .leaf 0 [v42]))))))
def jsonparser_ReaderParser_ArrayEach.t (q0 : (Option Addr)) (q1 : Value) : T :=
  .call 41 #[(Value.pointer q0)] .any fun (v0 : Value) =>
  .chk ((isIface v0) = Bool.true) <|
  .ite (!(isNil v0)) (
    .load (Addr.mk 1 0 Option.none) .any fun (v1 : Value) =>
    .eff (Bind.bind (eqGuard BinOp.eql 51 (Operand.tmp 21) (Operand.tmp 22) v0 v1) (fun (y2 : Unit) => (binOp BinOp.eql 51 v0 v1))) .bool fun (b3 : Bool) =>
    .ite b3 (
      .load (Addr.mk 2 0 Option.none) .any fun (v4 : Value) =>
      .leaf 0 [v4]) (
      .leaf 0 [v0])) (
    .call 42 #[(Value.pointer q0), (Value.bool Bool.false)] (.tuple (.cons (.int .u8) (.cons .any .nil))) fun (z5 : (Int × (Value × PUnit))) =>
    .chk ((isIface ((z5).2).1) = Bool.true) <|
    .ite (!(isNil ((z5).2).1)) (
      .leaf 0 [((z5).2).1]) (
      .ite ((z5).1 != (91 : Int)) (
        .load (Addr.mk 3 0 Option.none) .any fun (v6 : Value) =>
        .leaf 0 [v6]) (
        .ptr q0 fun (z7 : Addr) =>
        .load (Addr.add z7 3) (.int .i64) fun (i8 : Int) =>
        .ptr q0 fun (z9 : Addr) =>
        .store (Addr.add z9 3) (Value.int IntKind.i64 (IntKind.wrap IntKind.i64 (i8 + (1 : Int)))) <|
        .call 41 #[(Value.pointer q0)] .any fun (v10 : Value) =>
        .chk ((isIface v10) = Bool.true) <|
        .ite (!(isNil v10)) (
          .load (Addr.mk 1 0 Option.none) .any fun (v11 : Value) =>
          .eff (Bind.bind (eqGuard BinOp.eql 51 (Operand.tmp 48) (Operand.tmp 49) v10 v11) (fun (y12 : Unit) => (binOp BinOp.eql 51 v10 v11))) .bool fun (b13 : Bool) =>
          .ite b13 (
            .load (Addr.mk 3 0 Option.none) .any fun (v14 : Value) =>
            .leaf 0 [v14]) (
            .leaf 0 [v10])) (
          .call 42 #[(Value.pointer q0), (Value.bool Bool.false)] (.tuple (.cons (.int .u8) (.cons .any .nil))) fun (z15 : (Int × (Value × PUnit))) =>
          .chk ((isIface ((z15).2).1) = Bool.true) <|
          .ite (!(isNil ((z15).2).1)) (
            .leaf 0 [((z15).2).1]) (
            .ite ((z15).1 == (93 : Int)) (
              .ptr q0 fun (z16 : Addr) =>
              .load (Addr.add z16 3) (.int .i64) fun (i17 : Int) =>
              .ptr q0 fun (z18 : Addr) =>
              .store (Addr.add z18 3) (Value.int IntKind.i64 (IntKind.wrap IntKind.i64 (i17 + (1 : Int)))) <|
              .leaf 0 [Value.nilIface]) (
              .loop 1 .nil []
                (fun _ => jsonparser_ReaderParser_ArrayEach.t1 q0 q1)))))))
def jsonparser_ReaderParser_ArrayEach.h : Hints := ⟨[], [], [], [(23, [])]⟩
noncomputable def jsonparser_ReaderParser_ArrayEach.c : Code := (Tryd.f23.body).getD .skip
theorem jsonparser_ReaderParser_ArrayEach.e (q0 : (Option Addr)) (q1 : Value) : fnT Tryd.prog jsonparser_ReaderParser_ArrayEach.h Tryd.f23 jsonparser_ReaderParser_ArrayEach.c [.v (Value.pointer q0), .o q1] = jsonparser_ReaderParser_ArrayEach.t q0 q1 := by kernel_rfl
theorem jsonparser_ReaderParser_ArrayEach.calls (q0 : (Option Addr)) (q1 : Value) {w : World} {R : Ending → World → Prop} (hs : sat Tryd.prog (jsonparser_ReaderParser_ArrayEach.t q0 q1) (fun l vs w' => l = 0 ∧ R (.returned (retVal vs)) w') w) : Calls Tryd.prog 23 #[(Value.pointer q0), q1] w R :=
  have h := calls_of_tree (w := w) (R := R) (args := [.v (Value.pointer q0), .o q1]) (c := jsonparser_ReaderParser_ArrayEach.c) Tryd.func23 (show Tryd.f23.body = some jsonparser_ReaderParser_ArrayEach.c by kernel_rfl) (of_decide_eq_true (by kernel_rfl)) (jsonparser_ReaderParser_ArrayEach.e q0 q1) hs
  h

/-! ### pub-tetrapla/impl.JqReadArray$1 : function 24 -/
def impl_JqReadArray_1.t (v : (Option Addr)) (v_len : Nat) (v_cap : Nat) (kind : Int) (err : Value) (fv0 : (Option Addr)) : T :=
  .ptr fv0 fun (z0 : Addr) =>
  .load z0 .slice fun (z1 : ((Option Addr) × (Nat × Nat))) =>
  .eff (convert 36 9 (Value.slice v v_len v_cap)) .str fun (s2 : ByteArray) =>
  .eff (Instr.buildSlice 38 1 #[(0, (Value.agg #[(Value.string (ByteArray.mk #[])), (Value.string s2), (Value.int IntKind.i64 kind), (Value.int IntKind.i64 (0 : Int))]))]) .slice fun (z3 : ((Option Addr) × (Nat × Nat))) =>
  .eff (Builtin.append_ (Call.argTypes (Call.mk (Callee.builtin Builtin.append) #[(Operand.tmp 7), (Operand.tmp 12)] #[38, 38])) 38 #[(Value.slice (z1).1 ((z1).2).1 ((z1).2).2), (Value.slice (z3).1 ((z3).2).1 ((z3).2).2)]) .slice fun (z4 : ((Option Addr) × (Nat × Nat))) =>
  .ptr fv0 fun (z5 : Addr) =>
  .store z5 (Value.slice (z4).1 ((z4).2).1 ((z4).2).2) <|
  .leaf 0 []
def impl_JqReadArray_1.h : Hints := ⟨[], [], [], []⟩
noncomputable def impl_JqReadArray_1.c : Code := (Tryd.f24.body).getD .skip
theorem impl_JqReadArray_1.e (v : (Option Addr)) (v_len : Nat) (v_cap : Nat) (kind : Int) (err : Value) (fv0 : (Option Addr)) : fnT Tryd.prog impl_JqReadArray_1.h Tryd.f24 impl_JqReadArray_1.c [.v (Value.slice v v_len v_cap), .v (Value.int IntKind.i64 kind), .o err, .v (Value.pointer fv0)] = impl_JqReadArray_1.t v v_len v_cap kind err fv0 := by kernel_rfl
theorem impl_JqReadArray_1.calls (v : (Option Addr)) (v_len : Nat) (v_cap : Nat) (kind : Int) (err : Value) (fv0 : (Option Addr)) {w : World} {R : Ending → World → Prop} (hs : sat Tryd.prog (impl_JqReadArray_1.t v v_len v_cap kind err fv0) (fun l vs w' => l = 0 ∧ R (.returned (retVal vs)) w') w) : Calls Tryd.prog 24 #[(Value.slice v v_len v_cap), (Value.int IntKind.i64 kind), err, (Value.pointer fv0)] w R :=
  have h := calls_of_tree (w := w) (R := R) (args := [.v (Value.slice v v_len v_cap), .v (Value.int IntKind.i64 kind), .o err, .v (Value.pointer fv0)]) (c := impl_JqReadArray_1.c) Tryd.func24 (show Tryd.f24.body = some impl_JqReadArray_1.c by kernel_rfl) (of_decide_eq_true (by kernel_rfl)) (impl_JqReadArray_1.e v v_len v_cap kind err fv0) hs
  h

/-! ### pub-tetrapla/laws.jpKind : function 25 -/
def laws_jpKind.t (kind : Int) : T :=
  .ite (kind == (4 : Int)) (
    .leaf 0 [(Value.int IntKind.i64 (1 : Int))]) (
    .ite (kind == (3 : Int)) (
      .leaf 0 [(Value.int IntKind.i64 (2 : Int))]) (
      .ite (kind == (6 : Int)) (
        .leaf 0 [(Value.int IntKind.i64 (3 : Int))]) (
        .ite (kind == (5 : Int)) (
          .leaf 0 [(Value.int IntKind.i64 (4 : Int))]) (
          .ite (kind == (2 : Int)) (
            .ite (kind == (2 : Int)) (
              .leaf 0 [(Value.int IntKind.i64 (5 : Int))]) (
              .leaf 0 [(Value.int IntKind.i64 (6 : Int))])) (
            .ite (kind == (1 : Int)) (
              .leaf 0 [(Value.int IntKind.i64 (5 : Int))]) (
              .leaf 0 [(Value.int IntKind.i64 (6 : Int))]))))))
def laws_jpKind.h : Hints := ⟨[], [], [], []⟩
noncomputable def laws_jpKind.c : Code := (Tryd.f25.body).getD .skip
theorem laws_jpKind.e (kind : Int) : fnT Tryd.prog laws_jpKind.h Tryd.f25 laws_jpKind.c [.v (Value.int IntKind.i64 kind)] = laws_jpKind.t kind := by kernel_rfl
theorem laws_jpKind.calls (kind : Int) {w : World} {R : Ending → World → Prop} (hs : sat Tryd.prog (laws_jpKind.t kind) (fun l vs w' => l = 0 ∧ R (.returned (retVal vs)) w') w) : Calls Tryd.prog 25 #[(Value.int IntKind.i64 kind)] w R :=
  have h := calls_of_tree (w := w) (R := R) (args := [.v (Value.int IntKind.i64 kind)]) (c := laws_jpKind.c) Tryd.func25 (show Tryd.f25.body = some laws_jpKind.c by kernel_rfl) (of_decide_eq_true (by kernel_rfl)) (laws_jpKind.e kind) hs
  h

/-! ### pub-tetrapla/spec.Raw : function 26 -/
def spec_Raw.t (text : ByteArray) (p_0 : Int) (p_1 : Int) (p_2 : Int) (p_3 : (Option Addr)) (p_3_len : Nat) (p_3_cap : Nat) (p_4 : (Option Addr)) (p_4_len : Nat) (p_4_cap : Nat) : T :=
  .alloc (Obj.cells #[(Value.int IntKind.i64 p_0), (Value.int IntKind.i64 p_1), (Value.int IntKind.i64 p_2), (Value.slice p_3 p_3_len p_3_cap), (Value.slice p_4 p_4_len p_4_cap)] 27 (0, 0)) fun (z0 : Addr) =>
  .load (Addr.add z0 0) (.int .i64) fun (i1 : Int) =>
  .ite (i1 == (4 : Int)) (
    .load (Addr.add z0 1) (.int .i64) fun (i2 : Int) =>
    .load (Addr.add z0 2) (.int .i64) fun (i3 : Int) =>
    .chk (((0 : Int) ≤ (IntKind.wrap IntKind.i64 (i2 + (1 : Int)))) ∧ (((IntKind.wrap IntKind.i64 (i2 + (1 : Int))) ≤ (IntKind.wrap IntKind.i64 (i3 - (1 : Int)))) ∧ ((IntKind.wrap IntKind.i64 (i3 - (1 : Int))) ≤ (((ByteArray.size text) : Nat) : Int)))) <|
    .leaf 0 [(Value.string (ByteArray.extract text (Int.toNat (IntKind.wrap IntKind.i64 (i2 + (1 : Int)))) (Int.toNat (IntKind.wrap IntKind.i64 (i3 - (1 : Int))))))]) (
    .load (Addr.add z0 1) (.int .i64) fun (i4 : Int) =>
    .load (Addr.add z0 2) (.int .i64) fun (i5 : Int) =>
    .chk (((0 : Int) ≤ i4) ∧ ((i4 ≤ i5) ∧ (i5 ≤ (((ByteArray.size text) : Nat) : Int)))) <|
    .leaf 0 [(Value.string (ByteArray.extract text (Int.toNat i4) (Int.toNat i5)))])
def spec_Raw.h : Hints := ⟨[], [], [], []⟩
noncomputable def spec_Raw.c : Code := (Tryd.f26.body).getD .skip
theorem spec_Raw.e (text : ByteArray) (p_0 : Int) (p_1 : Int) (p_2 : Int) (p_3 : (Option Addr)) (p_3_len : Nat) (p_3_cap : Nat) (p_4 : (Option Addr)) (p_4_len : Nat) (p_4_cap : Nat) : fnT Tryd.prog spec_Raw.h Tryd.f26 spec_Raw.c [.v (Value.string text), .v (Value.agg #[(Value.int IntKind.i64 p_0), (Value.int IntKind.i64 p_1), (Value.int IntKind.i64 p_2), (Value.slice p_3 p_3_len p_3_cap), (Value.slice p_4 p_4_len p_4_cap)])] = spec_Raw.t text p_0 p_1 p_2 p_3 p_3_len p_3_cap p_4 p_4_len p_4_cap := by kernel_rfl
theorem spec_Raw.calls (text : ByteArray) (p_0 : Int) (p_1 : Int) (p_2 : Int) (p_3 : (Option Addr)) (p_3_len : Nat) (p_3_cap : Nat) (p_4 : (Option Addr)) (p_4_len : Nat) (p_4_cap : Nat) {w : World} {R : Ending → World → Prop} (hs : sat Tryd.prog (spec_Raw.t text p_0 p_1 p_2 p_3 p_3_len p_3_cap p_4 p_4_len p_4_cap) (fun l vs w' => l = 0 ∧ R (.returned (retVal vs)) w') w) : Calls Tryd.prog 26 #[(Value.string text), (Value.agg #[(Value.int IntKind.i64 p_0), (Value.int IntKind.i64 p_1), (Value.int IntKind.i64 p_2), (Value.slice p_3 p_3_len p_3_cap), (Value.slice p_4 p_4_len p_4_cap)])] w R :=
  have h := calls_of_tree (w := w) (R := R) (args := [.v (Value.string text), .v (Value.agg #[(Value.int IntKind.i64 p_0), (Value.int IntKind.i64 p_1), (Value.int IntKind.i64 p_2), (Value.slice p_3 p_3_len p_3_cap), (Value.slice p_4 p_4_len p_4_cap)])]) (c := spec_Raw.c) Tryd.func26 (show Tryd.f26.body = some spec_Raw.c by kernel_rfl) (of_decide_eq_true (by kernel_rfl)) (spec_Raw.e text p_0 p_1 p_2 p_3 p_3_len p_3_cap p_4 p_4_len p_4_cap) hs
  h

/-! ### pub-tetrapla/pub/jsonparser.NewReaderParser : function 40 -/
def jsonparser_NewReaderParser.t (r : Value) (opts : (Option Addr)) (opts_len : Nat) (opts_cap : Nat) : T :=
  .eff (Instr.loadAt 73 (Value.pointer (some (Addr.mk 0 0 Option.none)))) (.agg (.cons .bool (.cons .bool (.cons (.int .i64) .nil)))) fun (z0 : (Bool × (Bool × (Int × PUnit)))) =>
  .alloc (Obj.cells #[(Value.bool Bool.false), (Value.bool Bool.false), (Value.int IntKind.i64 (0 : Int))] 73 (0, 0)) fun (z1 : Addr) =>
  .effU (Instr.storeAt 73 (Value.pointer (some z1)) (Value.agg #[(Value.bool (z0).1), (Value.bool ((z0).2).1), (Value.int IntKind.i64 (((z0).2).2).1)])) <|
  .ite (decide (((opts_len : Nat) : Int) > (0 : Int))) (
    .chk (((0 : Int) ≤ (0 : Int)) ∧ ((0 : Int) < ((opts_len : Nat) : Int))) <|
    .ptr opts fun (z2 : Addr) =>
    .eff (Instr.loadAt 73 (Value.pointer (some (Addr.add z2 0)))) (.agg (.cons .bool (.cons .bool (.cons (.int .i64) .nil)))) fun (z3 : (Bool × (Bool × (Int × PUnit)))) =>
    .effU (Instr.storeAt 73 (Value.pointer (some z1)) (Value.agg #[(Value.bool (z3).1), (Value.bool ((z3).2).1), (Value.int IntKind.i64 (((z3).2).2).1)])) <|
    .eff (Instr.loadAt 73 (Value.pointer (some z1))) (.agg (.cons .bool (.cons .bool (.cons (.int .i64) .nil)))) fun (z4 : (Bool × (Bool × (Int × PUnit)))) =>
    .eff (Instr.build 92 #[(0, r), (4, (Value.agg #[(Value.bool (z4).1), (Value.bool ((z4).2).1), (Value.int IntKind.i64 (((z4).2).2).1)]))]) (.agg (.cons .any (.cons .slice (.cons (.int .i64) (.cons (.int .i64) (.cons .bool (.cons .bool (.cons (.int .i64) (.cons .any (.cons (.int .i64) .nil)))))))))) fun (z5 : (Value × (((Option Addr) × (Nat × Nat)) × (Int × (Int × (Bool × (Bool × (Int × (Value × (Int × PUnit)))))))))) =>
    .alloc (Obj.cells #[(z5).1, (Value.slice (((z5).2).1).1 ((((z5).2).1).2).1 ((((z5).2).1).2).2), (Value.int IntKind.i64 (((z5).2).2).1), (Value.int IntKind.i64 ((((z5).2).2).2).1), (Value.bool (((((z5).2).2).2).2).1), (Value.bool ((((((z5).2).2).2).2).2).1), (Value.int IntKind.i64 (((((((z5).2).2).2).2).2).2).1), ((((((((z5).2).2).2).2).2).2).2).1, (Value.int IntKind.i64 (((((((((z5).2).2).2).2).2).2).2).2).1)] 92 (0, 0)) fun (z6 : Addr) =>
    .leaf 0 [(Value.pointer (some z6))]) (
    .eff (Instr.loadAt 73 (Value.pointer (some z1))) (.agg (.cons .bool (.cons .bool (.cons (.int .i64) .nil)))) fun (z7 : (Bool × (Bool × (Int × PUnit)))) =>
    .eff (Instr.build 92 #[(0, r), (4, (Value.agg #[(Value.bool (z7).1), (Value.bool ((z7).2).1), (Value.int IntKind.i64 (((z7).2).2).1)]))]) (.agg (.cons .any (.cons .slice (.cons (.int .i64) (.cons (.int .i64) (.cons .bool (.cons .bool (.cons (.int .i64) (.cons .any (.cons (.int .i64) .nil)))))))))) fun (z8 : (Value × (((Option Addr) × (Nat × Nat)) × (Int × (Int × (Bool × (Bool × (Int × (Value × (Int × PUnit)))))))))) =>
    .alloc (Obj.cells #[(z8).1, (Value.slice (((z8).2).1).1 ((((z8).2).1).2).1 ((((z8).2).1).2).2), (Value.int IntKind.i64 (((z8).2).2).1), (Value.int IntKind.i64 ((((z8).2).2).2).1), (Value.bool (((((z8).2).2).2).2).1), (Value.bool ((((((z8).2).2).2).2).2).1), (Value.int IntKind.i64 (((((((z8).2).2).2).2).2).2).1), ((((((((z8).2).2).2).2).2).2).2).1, (Value.int IntKind.i64 (((((((((z8).2).2).2).2).2).2).2).2).1)] 92 (0, 0)) fun (z9 : Addr) =>
    .leaf 0 [(Value.pointer (some z9))])
def jsonparser_NewReaderParser.h : Hints := ⟨[], [], [], []⟩
noncomputable def jsonparser_NewReaderParser.c : Code := (Tryd.f40.body).getD .skip
theorem jsonparser_NewReaderParser.e (r : Value) (opts : (Option Addr)) (opts_len : Nat) (opts_cap : Nat) : fnT Tryd.prog jsonparser_NewReaderParser.h Tryd.f40 jsonparser_NewReaderParser.c [.o r, .v (Value.slice opts opts_len opts_cap)] = jsonparser_NewReaderParser.t r opts opts_len opts_cap := by kernel_rfl
theorem jsonparser_NewReaderParser.calls (r : Value) (opts : (Option Addr)) (opts_len : Nat) (opts_cap : Nat) {w : World} {R : Ending → World → Prop} (hs : sat Tryd.prog (jsonparser_NewReaderParser.t r opts opts_len opts_cap) (fun l vs w' => l = 0 ∧ R (.returned (retVal vs)) w') w) : Calls Tryd.prog 40 #[r, (Value.slice opts opts_len opts_cap)] w R :=
  have h := calls_of_tree (w := w) (R := R) (args := [.o r, .v (Value.slice opts opts_len opts_cap)]) (c := jsonparser_NewReaderParser.c) Tryd.func40 (show Tryd.f40.body = some jsonparser_NewReaderParser.c by kernel_rfl) (of_decide_eq_true (by kernel_rfl)) (jsonparser_NewReaderParser.e r opts opts_len opts_cap) hs
  h

/-! ### (*pub-tetrapla/pub/jsonparser.ReaderParser).skipWhitespace : function 41 -/
def jsonparser_ReaderParser_skipWhitespace.t1 (rp : (Option Addr)) : T :=
  .call 42 #[(Value.pointer rp), (Value.bool Bool.false)] (.tuple (.cons (.int .u8) (.cons .any .nil))) fun (z0 : (Int × (Value × PUnit))) =>
  .chk ((isIface ((z0).2).1) = Bool.true) <|
  .ite (!(isNil ((z0).2).1)) (
    .leaf 0 [((z0).2).1]) (
    .call 59 #[(Value.int IntKind.u8 (z0).1)] .bool fun (b1 : Bool) =>
    .ite (!b1) (
      .leaf 0 [Value.nilIface]) (
      .ptr rp fun (z2 : Addr) =>
      .load (Addr.add z2 3) (.int .i64) fun (i3 : Int) =>
      .ptr rp fun (z4 : Addr) =>
      .store (Addr.add z4 3) (Value.int IntKind.i64 (IntKind.wrap IntKind.i64 (i3 + (1 : Int)))) <|
      .leaf 1 []))
def jsonparser_ReaderParser_skipWhitespace.t (rp : (Option Addr)) : T :=
  .loop 1 .nil []
    (fun _ => jsonparser_ReaderParser_skipWhitespace.t1 rp)
def jsonparser_ReaderParser_skipWhitespace.h : Hints := ⟨[], [], [], [(1, [])]⟩
noncomputable def jsonparser_ReaderParser_skipWhitespace.c : Code := (Tryd.f41.body).getD .skip
theorem jsonparser_ReaderParser_skipWhitespace.e (rp : (Option Addr)) : fnT Tryd.prog jsonparser_ReaderParser_skipWhitespace.h Tryd.f41 jsonparser_ReaderParser_skipWhitespace.c [.v (Value.pointer rp)] = jsonparser_ReaderParser_skipWhitespace.t rp := by kernel_rfl
theorem jsonparser_ReaderParser_skipWhitespace.calls (rp : (Option Addr)) {w : World} {R : Ending → World → Prop} (hs : sat Tryd.prog (jsonparser_ReaderParser_skipWhitespace.t rp) (fun l vs w' => l = 0 ∧ R (.returned (retVal vs)) w') w) : Calls Tryd.prog 41 #[(Value.pointer rp)] w R :=
  have h := calls_of_tree (w := w) (R := R) (args := [.v (Value.pointer rp)]) (c := jsonparser_ReaderParser_skipWhitespace.c) Tryd.func41 (show Tryd.f41.body = some jsonparser_ReaderParser_skipWhitespace.c by kernel_rfl) (of_decide_eq_true (by kernel_rfl)) (jsonparser_ReaderParser_skipWhitespace.e rp) hs
  h

/-! ### (*pub-tetrapla/pub/jsonparser.ReaderParser).peekByte : function 42 -/
def jsonparser_ReaderParser_peekByte.t1 (rp : (Option Addr)) (retain : Bool) : T :=
  .drew <|
  .ptr rp fun (z0 : Addr) =>
  .load (Addr.add z0 3) (.int .i64) fun (i1 : Int) =>
  .ptr rp fun (z2 : Addr) =>
  .load (Addr.add z2 1) .slice fun (z3 : ((Option Addr) × (Nat × Nat))) =>
  .ite (decide (i1 ≥ ((((z3).2).1 : Nat) : Int))) (
    .ite (!retain) (
      .call 60 #[(Value.pointer rp)] (.tuple .nil) fun _ =>
      .call 61 #[(Value.pointer rp)] .any fun (v4 : Value) =>
      .chk ((isIface v4) = Bool.true) <|
      .ite (!(isNil v4)) (
        .leaf 0 [(Value.int IntKind.u8 (0 : Int)), v4]) (
        .leaf 1 [])) (
      .call 61 #[(Value.pointer rp)] .any fun (v5 : Value) =>
      .chk ((isIface v5) = Bool.true) <|
      .ite (!(isNil v5)) (
        .leaf 0 [(Value.int IntKind.u8 (0 : Int)), v5]) (
        .leaf 1 []))) (
    .drew <|
    .ptr rp fun (z6 : Addr) =>
    .load (Addr.add z6 1) .slice fun (z7 : ((Option Addr) × (Nat × Nat))) =>
    .ptr rp fun (z8 : Addr) =>
    .load (Addr.add z8 3) (.int .i64) fun (i9 : Int) =>
    .chk (((0 : Int) ≤ i9) ∧ (i9 < ((((z7).2).1 : Nat) : Int))) <|
    .ptr (z7).1 fun (z10 : Addr) =>
    .load (Addr.add z10 ((Int.toNat i9) * 1)) (.int .u8) fun (i11 : Int) =>
    .leaf 0 [(Value.int IntKind.u8 i11), Value.nilIface])
def jsonparser_ReaderParser_peekByte.t (rp : (Option Addr)) (retain : Bool) : T :=
  .loop 1 .nil []
    (fun _ => jsonparser_ReaderParser_peekByte.t1 rp retain)
def jsonparser_ReaderParser_peekByte.h : Hints := ⟨[], [], [], [(1, [])]⟩
noncomputable def jsonparser_ReaderParser_peekByte.c : Code := (Tryd.f42.body).getD .skip
theorem jsonparser_ReaderParser_peekByte.e (rp : (Option Addr)) (retain : Bool) : fnT Tryd.prog jsonparser_ReaderParser_peekByte.h Tryd.f42 jsonparser_ReaderParser_peekByte.c [.v (Value.pointer rp), .v (Value.bool retain)] = jsonparser_ReaderParser_peekByte.t rp retain := by kernel_rfl
theorem jsonparser_ReaderParser_peekByte.calls (rp : (Option Addr)) (retain : Bool) {w : World} {R : Ending → World → Prop} (hs : sat Tryd.prog (jsonparser_ReaderParser_peekByte.t rp retain) (fun l vs w' => l = 0 ∧ R (.returned (retVal vs)) w') w) : Calls Tryd.prog 42 #[(Value.pointer rp), (Value.bool retain)] w R :=
  have h := calls_of_tree (w := w) (R := R) (args := [.v (Value.pointer rp), .v (Value.bool retain)]) (c := jsonparser_ReaderParser_peekByte.c) Tryd.func42 (show Tryd.f42.body = some jsonparser_ReaderParser_peekByte.c by kernel_rfl) (of_decide_eq_true (by kernel_rfl)) (jsonparser_ReaderParser_peekByte.e rp retain) hs
  h

/-! ### (*pub-tetrapla/pub/jsonparser.ReaderParser).captureValue : function 43 -/
def jsonparser_ReaderParser_captureValue.t (rp : (Option Addr)) : T :=
  .call 41 #[(Value.pointer rp)] .any fun (v0 : Value) =>
  .chk ((isIface v0) = Bool.true) <|
  .ite (!(isNil v0)) (
    .load (Addr.mk 1 0 Option.none) .any fun (v1 : Value) =>
    .eff (Bind.bind (eqGuard BinOp.eql 51 (Operand.tmp 11) (Operand.tmp 12) v0 v1) (fun (y2 : Unit) => (binOp BinOp.eql 51 v0 v1))) .bool fun (b3 : Bool) =>
    .ite b3 (
      .drew <|
      .load (Addr.mk 5 0 Option.none) .any fun (v4 : Value) =>
      .leaf 0 [(Value.slice none 0 0), v4]) (
      .leaf 0 [(Value.slice none 0 0), v0])) (
    .call 60 #[(Value.pointer rp)] (.tuple .nil) fun _ =>
    .ptr rp fun (z5 : Addr) =>
    .load (Addr.add z5 3) (.int .i64) fun (i6 : Int) =>
    .call 62 #[(Value.pointer rp), (Value.bool Bool.true)] .any fun (v7 : Value) =>
    .chk ((isIface v7) = Bool.true) <|
    .ite (!(isNil v7)) (
      .leaf 0 [(Value.slice none 0 0), v7]) (
      .drew <|
      .ptr rp fun (z8 : Addr) =>
      .load (Addr.add z8 1) .slice fun (z9 : ((Option Addr) × (Nat × Nat))) =>
      .ptr rp fun (z10 : Addr) =>
      .load (Addr.add z10 3) (.int .i64) fun (i11 : Int) =>
      .chk (((0 : Int) ≤ i6) ∧ ((i6 ≤ i11) ∧ (i11 ≤ ((((z9).2).2 : Nat) : Int)))) <|
      .leaf 0 [(Value.slice (if (((z9).2).2 = (Int.toNat i6)) then (z9).1 else (Option.map (fun (y12 : Addr) => (Addr.add y12 ((Int.toNat i6) * 1))) (z9).1)) ((Int.toNat i11) - (Int.toNat i6)) (((z9).2).2 - (Int.toNat i6))), Value.nilIface]))
def jsonparser_ReaderParser_captureValue.h : Hints := ⟨[], [], [], []⟩
noncomputable def jsonparser_ReaderParser_captureValue.c : Code := (Tryd.f43.body).getD .skip
theorem jsonparser_ReaderParser_captureValue.e (rp : (Option Addr)) : fnT Tryd.prog jsonparser_ReaderParser_captureValue.h Tryd.f43 jsonparser_ReaderParser_captureValue.c [.v (Value.pointer rp)] = jsonparser_ReaderParser_captureValue.t rp := by kernel_rfl
theorem jsonparser_ReaderParser_captureValue.calls (rp : (Option Addr)) {w : World} {R : Ending → World → Prop} (hs : sat Tryd.prog (jsonparser_ReaderParser_captureValue.t rp) (fun l vs w' => l = 0 ∧ R (.returned (retVal vs)) w') w) : Calls Tryd.prog 43 #[(Value.pointer rp)] w R :=
  have h := calls_of_tree (w := w) (R := R) (args := [.v (Value.pointer rp)]) (c := jsonparser_ReaderParser_captureValue.c) Tryd.func43 (show Tryd.f43.body = some jsonparser_ReaderParser_captureValue.c by kernel_rfl) (of_decide_eq_true (by kernel_rfl)) (jsonparser_ReaderParser_captureValue.e rp) hs
  h

/-! ### pub-tetrapla/pub/jsonparser.isJSONWhitespace : function 59 -/
def jsonparser_isJSONWhitespace.t (b : Int) : T :=
  .ite (b == (32 : Int)) (
    .leaf 0 [(Value.bool Bool.true)]) (
    .ite (b == (9 : Int)) (
      .leaf 0 [(Value.bool Bool.true)]) (
      .ite (b == (10 : Int)) (
        .leaf 0 [(Value.bool Bool.true)]) (
        .leaf 0 [(Value.bool (b == (13 : Int)))])))
def jsonparser_isJSONWhitespace.h : Hints := ⟨[], [], [], []⟩
noncomputable def jsonparser_isJSONWhitespace.c : Code := (Tryd.f59.body).getD .skip
theorem jsonparser_isJSONWhitespace.e (b : Int) : fnT Tryd.prog jsonparser_isJSONWhitespace.h Tryd.f59 jsonparser_isJSONWhitespace.c [.v (Value.int IntKind.u8 b)] = jsonparser_isJSONWhitespace.t b := by kernel_rfl
theorem jsonparser_isJSONWhitespace.calls (b : Int) {w : World} {R : Ending → World → Prop} (hs : sat Tryd.prog (jsonparser_isJSONWhitespace.t b) (fun l vs w' => l = 0 ∧ R (.returned (retVal vs)) w') w) : Calls Tryd.prog 59 #[(Value.int IntKind.u8 b)] w R :=
  have h := calls_of_tree (w := w) (R := R) (args := [.v (Value.int IntKind.u8 b)]) (c := jsonparser_isJSONWhitespace.c) Tryd.func59 (show Tryd.f59.body = some jsonparser_isJSONWhitespace.c by kernel_rfl) (of_decide_eq_true (by kernel_rfl)) (jsonparser_isJSONWhitespace.e b) hs
  h

/-! ### (*pub-tetrapla/pub/jsonparser.ReaderParser).discardConsumed : function 60 -/
def jsonparser_ReaderParser_discardConsumed.t (rp : (Option Addr)) : T :=
  .ptr rp fun (z0 : Addr) =>
  .load (Addr.add z0 3) (.int .i64) fun (i1 : Int) =>
  .ite (i1 == (0 : Int)) (
    .leaf 0 []) (
    .drew <|
    .ptr rp fun (z2 : Addr) =>
    .load (Addr.add z2 2) (.int .i64) fun (i3 : Int) =>
    .ptr rp fun (z4 : Addr) =>
    .load (Addr.add z4 3) (.int .i64) fun (i5 : Int) =>
    .ptr rp fun (z6 : Addr) =>
    .store (Addr.add z6 2) (Value.int IntKind.i64 (IntKind.wrap IntKind.i64 (i3 + i5))) <|
    .drew <|
    .ptr rp fun (z7 : Addr) =>
    .load (Addr.add z7 1) .slice fun (z8 : ((Option Addr) × (Nat × Nat))) =>
    .ptr rp fun (z9 : Addr) =>
    .load (Addr.add z9 3) (.int .i64) fun (i10 : Int) =>
    .chk (((0 : Int) ≤ i10) ∧ ((i10 ≤ ((((z8).2).1 : Nat) : Int)) ∧ (((((z8).2).1 : Nat) : Int) ≤ ((((z8).2).2 : Nat) : Int)))) <|
    .ptr rp fun (z11 : Addr) =>
    .store (Addr.add z11 1) (Value.slice (if (((z8).2).2 = (Int.toNat i10)) then (z8).1 else (Option.map (fun (y12 : Addr) => (Addr.add y12 ((Int.toNat i10) * 1))) (z8).1)) ((Int.toNat ((((z8).2).1 : Nat) : Int)) - (Int.toNat i10)) (((z8).2).2 - (Int.toNat i10))) <|
    .ptr rp fun (z13 : Addr) =>
    .store (Addr.add z13 3) (Value.int IntKind.i64 (0 : Int)) <|
    .leaf 0 [])
def jsonparser_ReaderParser_discardConsumed.h : Hints := ⟨[], [], [], []⟩
noncomputable def jsonparser_ReaderParser_discardConsumed.c : Code := (Tryd.f60.body).getD .skip
theorem jsonparser_ReaderParser_discardConsumed.e (rp : (Option Addr)) : fnT Tryd.prog jsonparser_ReaderParser_discardConsumed.h Tryd.f60 jsonparser_ReaderParser_discardConsumed.c [.v (Value.pointer rp)] = jsonparser_ReaderParser_discardConsumed.t rp := by kernel_rfl
theorem jsonparser_ReaderParser_discardConsumed.calls (rp : (Option Addr)) {w : World} {R : Ending → World → Prop} (hs : sat Tryd.prog (jsonparser_ReaderParser_discardConsumed.t rp) (fun l vs w' => l = 0 ∧ R (.returned (retVal vs)) w') w) : Calls Tryd.prog 60 #[(Value.pointer rp)] w R :=
  have h := calls_of_tree (w := w) (R := R) (args := [.v (Value.pointer rp)]) (c := jsonparser_ReaderParser_discardConsumed.c) Tryd.func60 (show Tryd.f60.body = some jsonparser_ReaderParser_discardConsumed.c by kernel_rfl) (of_decide_eq_true (by kernel_rfl)) (jsonparser_ReaderParser_discardConsumed.e rp) hs
  h

/-! ### (*pub-tetrapla/pub/jsonparser.ReaderParser).readMore : function 61 -/
def jsonparser_ReaderParser_readMore.t5 : T :=
  .leaf 0 [Value.nilIface]
def jsonparser_ReaderParser_readMore.t4 (q0 : (Option Addr)) (i14 : Int) (z16 : ((Option Addr) × (Nat × Nat))) : T :=
  .ptr q0 fun (z24 : Addr) =>
  .load (Addr.add z24 1) .slice fun (z25 : ((Option Addr) × (Nat × Nat))) =>
  .chk (((0 : Int) ≤ (0 : Int)) ∧ (((0 : Int) ≤ (IntKind.wrap IntKind.i64 (((((z16).2).1 : Nat) : Int) + i14))) ∧ ((IntKind.wrap IntKind.i64 (((((z16).2).1 : Nat) : Int) + i14)) ≤ ((((z25).2).2 : Nat) : Int)))) <|
  .ptr q0 fun (z26 : Addr) =>
  .store (Addr.add z26 1) (Value.slice (if (((z25).2).2 = 0) then (z25).1 else (Option.map (fun (y27 : Addr) => (Addr.add y27 0)) (z25).1)) ((Int.toNat (IntKind.wrap IntKind.i64 (((((z16).2).1 : Nat) : Int) + i14))) - 0) (((z25).2).2 - 0)) <|
  .drew <|
  .ptr q0 fun (z28 : Addr) =>
  .load (Addr.add z28 0) .any fun (v29 : Value) =>
  .ptr q0 fun (z30 : Addr) =>
  .load (Addr.add z30 1) .slice fun (z31 : ((Option Addr) × (Nat × Nat))) =>
  .chk (((0 : Int) ≤ ((((z16).2).1 : Nat) : Int)) ∧ ((((((z16).2).1 : Nat) : Int) ≤ ((((z31).2).1 : Nat) : Int)) ∧ (((((z31).2).1 : Nat) : Int) ≤ ((((z31).2).2 : Nat) : Int)))) <|
  .effQ (nilV v29) .any fun (v32 : Value) =>
  .callM v29 "Read" #[(Value.slice (if (((z31).2).2 = (Int.toNat ((((z16).2).1 : Nat) : Int))) then (z31).1 else (Option.map (fun (y33 : Addr) => (Addr.add y33 ((Int.toNat ((((z16).2).1 : Nat) : Int)) * 1))) (z31).1)) ((Int.toNat ((((z31).2).1 : Nat) : Int)) - (Int.toNat ((((z16).2).1 : Nat) : Int))) (((z31).2).2 - (Int.toNat ((((z16).2).1 : Nat) : Int))))] (.tuple (.cons (.int .i64) (.cons .any .nil))) fun (z34 : (Int × (Value × PUnit))) =>
  .ptr q0 fun (z35 : Addr) =>
  .load (Addr.add z35 1) .slice fun (z36 : ((Option Addr) × (Nat × Nat))) =>
  .chk (((0 : Int) ≤ (0 : Int)) ∧ (((0 : Int) ≤ (IntKind.wrap IntKind.i64 (((((z16).2).1 : Nat) : Int) + (z34).1))) ∧ ((IntKind.wrap IntKind.i64 (((((z16).2).1 : Nat) : Int) + (z34).1)) ≤ ((((z36).2).2 : Nat) : Int)))) <|
  .ptr q0 fun (z37 : Addr) =>
  .store (Addr.add z37 1) (Value.slice (if (((z36).2).2 = 0) then (z36).1 else (Option.map (fun (y38 : Addr) => (Addr.add y38 0)) (z36).1)) ((Int.toNat (IntKind.wrap IntKind.i64 (((((z16).2).1 : Nat) : Int) + (z34).1))) - 0) (((z36).2).2 - 0)) <|
  .ite (decide ((z34).1 > (0 : Int))) (
    .ptr q0 fun (z39 : Addr) =>
    .store (Addr.add z39 8) (Value.int IntKind.i64 (0 : Int)) <|
    .chk ((isIface ((z34).2).1) = Bool.true) <|
    .cut 1 .nil (
      .ite (!(isNil ((z34).2).1)) (
        .ptr q0 fun (z40 : Addr) =>
        .effU (Instr.storeAt 51 (Value.pointer (some (Addr.add z40 7))) ((z34).2).1) <|
        .leaf 1 []) (
        .leaf 1 []))
      (fun _ => jsonparser_ReaderParser_readMore.t5)) (
    .chk ((isIface ((z34).2).1) = Bool.true) <|
    .ite (!(isNil ((z34).2).1)) (
      .ptr q0 fun (z41 : Addr) =>
      .effU (Instr.storeAt 51 (Value.pointer (some (Addr.add z41 7))) ((z34).2).1) <|
      .leaf 0 [((z34).2).1]) (
      .ptr q0 fun (z42 : Addr) =>
      .load (Addr.add z42 8) (.int .i64) fun (i43 : Int) =>
      .ptr q0 fun (z44 : Addr) =>
      .store (Addr.add z44 8) (Value.int IntKind.i64 (IntKind.wrap IntKind.i64 (i43 + (1 : Int)))) <|
      .ptr q0 fun (z45 : Addr) =>
      .load (Addr.add z45 8) (.int .i64) fun (i46 : Int) =>
      .ite (decide (i46 ≥ (100 : Int))) (
        .load (Addr.mk 6 0 Option.none) .any fun (v47 : Value) =>
        .ptr q0 fun (z48 : Addr) =>
        .effU (Instr.storeAt 51 (Value.pointer (some (Addr.add z48 7))) v47) <|
        .ptr q0 fun (z49 : Addr) =>
        .load (Addr.add z49 7) .any fun (v50 : Value) =>
        .leaf 0 [v50]) (
        .leaf 0 [Value.nilIface])))
def jsonparser_ReaderParser_readMore.t3 (q0 : (Option Addr)) (i14 : Int) : T :=
  .ptr q0 fun (z15 : Addr) =>
  .load (Addr.add z15 1) .slice fun (z16 : ((Option Addr) × (Nat × Nat))) =>
  .ptr q0 fun (z17 : Addr) =>
  .load (Addr.add z17 1) .slice fun (z18 : ((Option Addr) × (Nat × Nat))) =>
  .cut 1 .nil (
    .ite (decide ((IntKind.wrap IntKind.i64 (((((z18).2).2 : Nat) : Int) - ((((z16).2).1 : Nat) : Int))) < i14)) (
      .eff (Instr.makeSlice 36 (Value.int IntKind.i64 ((((z16).2).1 : Nat) : Int)) (Value.int IntKind.i64 (IntKind.wrap IntKind.i64 (((((z16).2).1 : Nat) : Int) + i14)))) .slice fun (z19 : ((Option Addr) × (Nat × Nat))) =>
      .ptr q0 fun (z20 : Addr) =>
      .load (Addr.add z20 1) .slice fun (z21 : ((Option Addr) × (Nat × Nat))) =>
      .eff (Builtin.copy_ (Call.argTypes (Call.mk (Callee.builtin Builtin.copy) #[(Operand.tmp 63), (Operand.tmp 67)] #[36, 36])) 3 #[(Value.slice (z19).1 ((z19).2).1 ((z19).2).2), (Value.slice (z21).1 ((z21).2).1 ((z21).2).2)]) (.int .i64) fun (i22 : Int) =>
      .ptr q0 fun (z23 : Addr) =>
      .store (Addr.add z23 1) (Value.slice (z19).1 ((z19).2).1 ((z19).2).2) <|
      .leaf 1 []) (
      .leaf 1 []))
    (fun _ => jsonparser_ReaderParser_readMore.t4 q0 i14 z16)
def jsonparser_ReaderParser_readMore.t2 (q0 : (Option Addr)) (i13 : Int) : T :=
  .cut 1 (.cons (.int .i64) .nil) (
    .ite (decide (i13 < (1 : Int))) (
      .leaf 1 [(Value.int IntKind.i64 (1 : Int))]) (
      .leaf 1 [(Value.int IntKind.i64 i13)]))
    (fun z => jsonparser_ReaderParser_readMore.t3 q0 z.1)
def jsonparser_ReaderParser_readMore.t1 (q0 : (Option Addr)) (i12 : Int) : T :=
  .cut 1 (.cons (.int .i64) .nil) (
    .ite (decide ((65536 : Int) > i12)) (
      .leaf 1 [(Value.int IntKind.i64 i12)]) (
      .leaf 1 [(Value.int IntKind.i64 (65536 : Int))]))
    (fun z => jsonparser_ReaderParser_readMore.t2 q0 z.1)
def jsonparser_ReaderParser_readMore.t (q0 : (Option Addr)) : T :=
  .ptr q0 fun (z0 : Addr) =>
  .load (Addr.add z0 7) .any fun (v1 : Value) =>
  .chk ((isIface v1) = Bool.true) <|
  .ite (!(isNil v1)) (
    .ptr q0 fun (z2 : Addr) =>
    .load (Addr.add z2 7) .any fun (v3 : Value) =>
    .leaf 0 [v3]) (
    .ptr q0 fun (z4 : Addr) =>
    .load (Addr.add z4 0) .any fun (v5 : Value) =>
    .chk ((isIface v5) = Bool.true) <|
    .ite (isNil v5) (
      .load (Addr.mk 1 0 Option.none) .any fun (v6 : Value) =>
      .ptr q0 fun (z7 : Addr) =>
      .effU (Instr.storeAt 51 (Value.pointer (some (Addr.add z7 7))) v6) <|
      .ptr q0 fun (z8 : Addr) =>
      .load (Addr.add z8 7) .any fun (v9 : Value) =>
      .leaf 0 [v9]) (
      .ptr q0 fun (z10 : Addr) =>
      .load (Addr.add (Addr.add z10 4) 2) (.int .i64) fun (i11 : Int) =>
      .cut 1 (.cons (.int .i64) .nil) (
        .ite (decide (i11 ≤ (0 : Int))) (
          .leaf 1 [(Value.int IntKind.i64 (67108864 : Int))]) (
          .leaf 1 [(Value.int IntKind.i64 i11)]))
        (fun z => jsonparser_ReaderParser_readMore.t1 q0 z.1)))
def jsonparser_ReaderParser_readMore.h : Hints := ⟨[(37, [(4, (.int .i64))]), (40, [(3, (.int .i64))]), (43, [(3, (.int .i64))]), (57, []), (117, [])], [], [], []⟩
noncomputable def jsonparser_ReaderParser_readMore.c : Code := (Tryd.f61.body).getD .skip
theorem jsonparser_ReaderParser_readMore.e (q0 : (Option Addr)) : fnT Tryd.prog jsonparser_ReaderParser_readMore.h Tryd.f61 jsonparser_ReaderParser_readMore.c [.v (Value.pointer q0)] = jsonparser_ReaderParser_readMore.t q0 := by kernel_rfl
theorem jsonparser_ReaderParser_readMore.calls (q0 : (Option Addr)) {w : World} {R : Ending → World → Prop} (hs : sat Tryd.prog (jsonparser_ReaderParser_readMore.t q0) (fun l vs w' => l = 0 ∧ R (.returned (retVal vs)) w') w) : Calls Tryd.prog 61 #[(Value.pointer q0)] w R :=
  have h := calls_of_tree (w := w) (R := R) (args := [.v (Value.pointer q0)]) (c := jsonparser_ReaderParser_readMore.c) Tryd.func61 (show Tryd.f61.body = some jsonparser_ReaderParser_readMore.c by kernel_rfl) (of_decide_eq_true (by kernel_rfl)) (jsonparser_ReaderParser_readMore.e q0) hs
  h

/-! ### (*pub-tetrapla/pub/jsonparser.ReaderParser).scanValue : function 62 -/
def jsonparser_ReaderParser_scanValue.t1 (rp : (Option Addr)) (retain : Bool) (z0 : (Int × (Value × PUnit))) (b7 : Bool) : T :=
  .ite b7 (
    .call 69 #[(Value.pointer rp), (Value.bool retain)] .any fun (v8 : Value) =>
    .leaf 0 [v8]) (
    .ite ((z0).1 == (91 : Int)) (
      .call 70 #[(Value.pointer rp), (Value.bool retain), (Value.int IntKind.u8 (z0).1)] .any fun (v9 : Value) =>
      .leaf 0 [v9]) (
      .ite ((z0).1 == (123 : Int)) (
        .call 70 #[(Value.pointer rp), (Value.bool retain), (Value.int IntKind.u8 (z0).1)] .any fun (v10 : Value) =>
        .leaf 0 [v10]) (
        .call 71 #[(Value.pointer rp), (Value.bool retain)] .any fun (v11 : Value) =>
        .leaf 0 [v11])))
def jsonparser_ReaderParser_scanValue.t (rp : (Option Addr)) (retain : Bool) : T :=
  .call 42 #[(Value.pointer rp), (Value.bool retain)] (.tuple (.cons (.int .u8) (.cons .any .nil))) fun (z0 : (Int × (Value × PUnit))) =>
  .chk ((isIface ((z0).2).1) = Bool.true) <|
  .ite (!(isNil ((z0).2).1)) (
    .load (Addr.mk 1 0 Option.none) .any fun (v1 : Value) =>
    .eff (Bind.bind (eqGuard BinOp.eql 51 (Operand.tmp 15) (Operand.tmp 16) ((z0).2).1 v1) (fun (y2 : Unit) => (binOp BinOp.eql 51 ((z0).2).1 v1))) .bool fun (b3 : Bool) =>
    .ite b3 (
      .load (Addr.mk 5 0 Option.none) .any fun (v4 : Value) =>
      .leaf 0 [v4]) (
      .leaf 0 [((z0).2).1])) (
    .cut 1 (.cons .bool .nil) (
      .ite ((z0).1 == (34 : Int)) (
        .leaf 1 [(Value.bool Bool.true)]) (
        .ite ((z0).1 == (39 : Int)) (
          .ptr rp fun (z5 : Addr) =>
          .load (Addr.add (Addr.add z5 4) 0) .bool fun (b6 : Bool) =>
          .leaf 1 [(Value.bool b6)]) (
          .leaf 1 [(Value.bool Bool.false)])))
      (fun z => jsonparser_ReaderParser_scanValue.t1 rp retain z0 z.1))
def jsonparser_ReaderParser_scanValue.h : Hints := ⟨[], [], [(7, [(23, .bool)])], []⟩
noncomputable def jsonparser_ReaderParser_scanValue.c : Code := (Tryd.f62.body).getD .skip
theorem jsonparser_ReaderParser_scanValue.e (rp : (Option Addr)) (retain : Bool) : fnT Tryd.prog jsonparser_ReaderParser_scanValue.h Tryd.f62 jsonparser_ReaderParser_scanValue.c [.v (Value.pointer rp), .v (Value.bool retain)] = jsonparser_ReaderParser_scanValue.t rp retain := by kernel_rfl
theorem jsonparser_ReaderParser_scanValue.calls (rp : (Option Addr)) (retain : Bool) {w : World} {R : Ending → World → Prop} (hs : sat Tryd.prog (jsonparser_ReaderParser_scanValue.t rp retain) (fun l vs w' => l = 0 ∧ R (.returned (retVal vs)) w') w) : Calls Tryd.prog 62 #[(Value.pointer rp), (Value.bool retain)] w R :=
  have h := calls_of_tree (w := w) (R := R) (args := [.v (Value.pointer rp), .v (Value.bool retain)]) (c := jsonparser_ReaderParser_scanValue.c) Tryd.func62 (show Tryd.f62.body = some jsonparser_ReaderParser_scanValue.c by kernel_rfl) (of_decide_eq_true (by kernel_rfl)) (jsonparser_ReaderParser_scanValue.e rp retain) hs
  h

/-! ### (*pub-tetrapla/pub/jsonparser.ReaderParser).scanString : function 69 -/
def jsonparser_ReaderParser_scanString.t1 (rp : (Option Addr)) (retain : Bool) (z0 : (Int × (Value × PUnit))) (b4 : Bool) : T :=
  .call 42 #[(Value.pointer rp), (Value.bool retain)] (.tuple (.cons (.int .u8) (.cons .any .nil))) fun (z5 : (Int × (Value × PUnit))) =>
  .chk ((isIface ((z5).2).1) = Bool.true) <|
  .ite (!(isNil ((z5).2).1)) (
    .load (Addr.mk 1 0 Option.none) .any fun (v6 : Value) =>
    .eff (Bind.bind (eqGuard BinOp.eql 51 (Operand.tmp 34) (Operand.tmp 35) ((z5).2).1 v6) (fun (y7 : Unit) => (binOp BinOp.eql 51 ((z5).2).1 v6))) .bool fun (b8 : Bool) =>
    .ite b8 (
      .load (Addr.mk 7 0 Option.none) .any fun (v9 : Value) =>
      .leaf 0 [v9]) (
      .leaf 0 [((z5).2).1])) (
    .ptr rp fun (z10 : Addr) =>
    .load (Addr.add z10 3) (.int .i64) fun (i11 : Int) =>
    .ptr rp fun (z12 : Addr) =>
    .store (Addr.add z12 3) (Value.int IntKind.i64 (IntKind.wrap IntKind.i64 (i11 + (1 : Int)))) <|
    .ite b4 (
      .leaf 1 [(Value.bool Bool.false)]) (
      .ite ((z5).1 == (92 : Int)) (
        .leaf 1 [(Value.bool Bool.true)]) (
        .ite ((z5).1 == (z0).1) (
          .leaf 0 [Value.nilIface]) (
          .leaf 1 [(Value.bool b4)]))))
def jsonparser_ReaderParser_scanString.t (rp : (Option Addr)) (retain : Bool) : T :=
  .call 42 #[(Value.pointer rp), (Value.bool retain)] (.tuple (.cons (.int .u8) (.cons .any .nil))) fun (z0 : (Int × (Value × PUnit))) =>
  .chk ((isIface ((z0).2).1) = Bool.true) <|
  .ite (!(isNil ((z0).2).1)) (
    .leaf 0 [((z0).2).1]) (
    .ptr rp fun (z1 : Addr) =>
    .load (Addr.add z1 3) (.int .i64) fun (i2 : Int) =>
    .ptr rp fun (z3 : Addr) =>
    .store (Addr.add z3 3) (Value.int IntKind.i64 (IntKind.wrap IntKind.i64 (i2 + (1 : Int)))) <|
    .loop 1 (.cons .bool .nil) [(Value.bool Bool.false)]
      (fun z => jsonparser_ReaderParser_scanString.t1 rp retain z0 z.1))
def jsonparser_ReaderParser_scanString.h : Hints := ⟨[], [], [], [(6, [(7, .bool)])]⟩
noncomputable def jsonparser_ReaderParser_scanString.c : Code := (Tryd.f69.body).getD .skip
theorem jsonparser_ReaderParser_scanString.e (rp : (Option Addr)) (retain : Bool) : fnT Tryd.prog jsonparser_ReaderParser_scanString.h Tryd.f69 jsonparser_ReaderParser_scanString.c [.v (Value.pointer rp), .v (Value.bool retain)] = jsonparser_ReaderParser_scanString.t rp retain := by kernel_rfl
theorem jsonparser_ReaderParser_scanString.calls (rp : (Option Addr)) (retain : Bool) {w : World} {R : Ending → World → Prop} (hs : sat Tryd.prog (jsonparser_ReaderParser_scanString.t rp retain) (fun l vs w' => l = 0 ∧ R (.returned (retVal vs)) w') w) : Calls Tryd.prog 69 #[(Value.pointer rp), (Value.bool retain)] w R :=
  have h := calls_of_tree (w := w) (R := R) (args := [.v (Value.pointer rp), .v (Value.bool retain)]) (c := jsonparser_ReaderParser_scanString.c) Tryd.func69 (show Tryd.f69.body = some jsonparser_ReaderParser_scanString.c by kernel_rfl) (of_decide_eq_true (by kernel_rfl)) (jsonparser_ReaderParser_scanString.e rp retain) hs
  h

/-! ### (*pub-tetrapla/pub/jsonparser.ReaderParser).scanComposite : function 70 -/
def jsonparser_ReaderParser_scanComposite.t4 (q0 : (Option Addr)) (z33 : ((Option Addr) × (Nat × Nat))) : T :=
  .ptr q0 fun (z34 : Addr) =>
  .load (Addr.add z34 3) (.int .i64) fun (i35 : Int) =>
  .ptr q0 fun (z36 : Addr) =>
  .store (Addr.add z36 3) (Value.int IntKind.i64 (IntKind.wrap IntKind.i64 (i35 + (1 : Int)))) <|
  .leaf 1 [(Value.slice (z33).1 ((z33).2).1 ((z33).2).2)]
def jsonparser_ReaderParser_scanComposite.t3 (q0 : (Option Addr)) (z6 : (Int × (Value × PUnit))) (b26 : Bool) (z27 : ((Option Addr) × (Nat × Nat))) : T :=
  .cut 2 (.cons .bool (.cons .slice .nil)) (
    .ite b26 (
      .chk (((0 : Int) ≤ (IntKind.wrap IntKind.i64 (((((z27).2).1 : Nat) : Int) - (1 : Int)))) ∧ ((IntKind.wrap IntKind.i64 (((((z27).2).1 : Nat) : Int) - (1 : Int))) < ((((z27).2).1 : Nat) : Int))) <|
      .ptr (z27).1 fun (z28 : Addr) =>
      .load (Addr.add z28 ((Int.toNat (IntKind.wrap IntKind.i64 (((((z27).2).1 : Nat) : Int) - (1 : Int)))) * 1)) (.int .u8) fun (i29 : Int) =>
      .ite ((z6).1 != i29) (
        .load (Addr.mk 5 0 Option.none) .any fun (v30 : Value) =>
        .leaf 0 [v30]) (
        .chk (((0 : Int) ≤ (0 : Int)) ∧ (((0 : Int) ≤ (IntKind.wrap IntKind.i64 (((((z27).2).1 : Nat) : Int) - (1 : Int)))) ∧ ((IntKind.wrap IntKind.i64 (((((z27).2).1 : Nat) : Int) - (1 : Int))) ≤ ((((z27).2).2 : Nat) : Int)))) <|
        .leaf 2 [(Value.bool b26), (Value.slice (if (((z27).2).2 = 0) then (z27).1 else (Option.map (fun (y31 : Addr) => (Addr.add y31 0)) (z27).1)) ((Int.toNat (IntKind.wrap IntKind.i64 (((((z27).2).1 : Nat) : Int) - (1 : Int)))) - 0) (((z27).2).2 - 0))])) (
      .leaf 2 [(Value.bool b26), (Value.slice (z27).1 ((z27).2).1 ((z27).2).2)]))
    (fun z => jsonparser_ReaderParser_scanComposite.t4 q0 z.2.1)
def jsonparser_ReaderParser_scanComposite.t2 (q0 : (Option Addr)) (q1 : Bool) (z5 : ((Option Addr) × (Nat × Nat))) (z6 : (Int × (Value × PUnit))) (b14 : Bool) : T :=
  .ite b14 (
    .call 69 #[(Value.pointer q0), (Value.bool q1)] .any fun (v15 : Value) =>
    .chk ((isIface v15) = Bool.true) <|
    .ite (!(isNil v15)) (
      .leaf 0 [v15]) (
      .leaf 1 [(Value.slice (z5).1 ((z5).2).1 ((z5).2).2)])) (
    .ite ((z6).1 == (123 : Int)) (
      .eff (Instr.buildSlice 36 1 #[(0, (Value.int IntKind.u8 (125 : Int)))]) .slice fun (z16 : ((Option Addr) × (Nat × Nat))) =>
      .eff (Builtin.append_ (Call.argTypes (Call.mk (Callee.builtin Builtin.append) #[(Operand.tmp 62), (Operand.tmp 63)] #[36, 36])) 36 #[(Value.slice (z5).1 ((z5).2).1 ((z5).2).2), (Value.slice (z16).1 ((z16).2).1 ((z16).2).2)]) .slice fun (z17 : ((Option Addr) × (Nat × Nat))) =>
      .ptr q0 fun (z18 : Addr) =>
      .load (Addr.add z18 3) (.int .i64) fun (i19 : Int) =>
      .ptr q0 fun (z20 : Addr) =>
      .store (Addr.add z20 3) (Value.int IntKind.i64 (IntKind.wrap IntKind.i64 (i19 + (1 : Int)))) <|
      .leaf 1 [(Value.slice (z17).1 ((z17).2).1 ((z17).2).2)]) (
      .ite ((z6).1 == (91 : Int)) (
        .eff (Instr.buildSlice 36 1 #[(0, (Value.int IntKind.u8 (93 : Int)))]) .slice fun (z21 : ((Option Addr) × (Nat × Nat))) =>
        .eff (Builtin.append_ (Call.argTypes (Call.mk (Callee.builtin Builtin.append) #[(Operand.tmp 67), (Operand.tmp 68)] #[36, 36])) 36 #[(Value.slice (z5).1 ((z5).2).1 ((z5).2).2), (Value.slice (z21).1 ((z21).2).1 ((z21).2).2)]) .slice fun (z22 : ((Option Addr) × (Nat × Nat))) =>
        .ptr q0 fun (z23 : Addr) =>
        .load (Addr.add z23 3) (.int .i64) fun (i24 : Int) =>
        .ptr q0 fun (z25 : Addr) =>
        .store (Addr.add z25 3) (Value.int IntKind.i64 (IntKind.wrap IntKind.i64 (i24 + (1 : Int)))) <|
        .leaf 1 [(Value.slice (z22).1 ((z22).2).1 ((z22).2).2)]) (
        .cut 2 (.cons .bool (.cons .slice .nil)) (
          .ite ((z6).1 == (125 : Int)) (
            .leaf 2 [(Value.bool ((z6).1 == (125 : Int))), (Value.slice (z5).1 ((z5).2).1 ((z5).2).2)]) (
            .leaf 2 [(Value.bool ((z6).1 == (93 : Int))), (Value.slice (z5).1 ((z5).2).1 ((z5).2).2)]))
          (fun z => jsonparser_ReaderParser_scanComposite.t3 q0 z6 z.1 z.2.1))))
def jsonparser_ReaderParser_scanComposite.t1 (q0 : (Option Addr)) (q1 : Bool) (q2 : Int) (z5 : ((Option Addr) × (Nat × Nat))) : T :=
  .ite (decide (((((z5).2).1 : Nat) : Int) > (0 : Int))) (
    .call 42 #[(Value.pointer q0), (Value.bool q1)] (.tuple (.cons (.int .u8) (.cons .any .nil))) fun (z6 : (Int × (Value × PUnit))) =>
    .chk ((isIface ((z6).2).1) = Bool.true) <|
    .ite (!(isNil ((z6).2).1)) (
      .load (Addr.mk 1 0 Option.none) .any fun (v7 : Value) =>
      .eff (Bind.bind (eqGuard BinOp.eql 51 (Operand.tmp 32) (Operand.tmp 33) ((z6).2).1 v7) (fun (y8 : Unit) => (binOp BinOp.eql 51 ((z6).2).1 v7))) .bool fun (b9 : Bool) =>
      .ite b9 (
        .ite (q2 == (91 : Int)) (
          .load (Addr.mk 3 0 Option.none) .any fun (v10 : Value) =>
          .leaf 0 [v10]) (
          .load (Addr.mk 2 0 Option.none) .any fun (v11 : Value) =>
          .leaf 0 [v11])) (
        .leaf 0 [((z6).2).1])) (
      .cut 2 (.cons .bool .nil) (
        .ite ((z6).1 == (34 : Int)) (
          .leaf 2 [(Value.bool Bool.true)]) (
          .ite ((z6).1 == (39 : Int)) (
            .ptr q0 fun (z12 : Addr) =>
            .load (Addr.add (Addr.add z12 4) 0) .bool fun (b13 : Bool) =>
            .leaf 2 [(Value.bool b13)]) (
            .leaf 2 [(Value.bool Bool.false)])))
        (fun z => jsonparser_ReaderParser_scanComposite.t2 q0 q1 z5 z6 z.1))) (
    .leaf 0 [Value.nilIface])
def jsonparser_ReaderParser_scanComposite.t (q0 : (Option Addr)) (q1 : Bool) (q2 : Int) : T :=
  .call 79 #[(Value.int IntKind.u8 q2)] (.int .u8) fun (i0 : Int) =>
  .eff (Instr.buildSlice 36 1 #[(0, (Value.int IntKind.u8 i0))]) .slice fun (z1 : ((Option Addr) × (Nat × Nat))) =>
  .ptr q0 fun (z2 : Addr) =>
  .load (Addr.add z2 3) (.int .i64) fun (i3 : Int) =>
  .ptr q0 fun (z4 : Addr) =>
  .store (Addr.add z4 3) (Value.int IntKind.i64 (IntKind.wrap IntKind.i64 (i3 + (1 : Int)))) <|
  .loop 1 (.cons .slice .nil) [(Value.slice (z1).1 ((z1).2).1 ((z1).2).2)]
    (fun z => jsonparser_ReaderParser_scanComposite.t1 q0 q1 q2 z.1)
def jsonparser_ReaderParser_scanComposite.h : Hints := ⟨[(70, [(70, .bool), (7, .slice)])], [], [(11, [(52, .bool)])], [(3, [(7, .slice)])]⟩
noncomputable def jsonparser_ReaderParser_scanComposite.c : Code := (Tryd.f70.body).getD .skip
theorem jsonparser_ReaderParser_scanComposite.e (q0 : (Option Addr)) (q1 : Bool) (q2 : Int) : fnT Tryd.prog jsonparser_ReaderParser_scanComposite.h Tryd.f70 jsonparser_ReaderParser_scanComposite.c [.v (Value.pointer q0), .v (Value.bool q1), .v (Value.int IntKind.u8 q2)] = jsonparser_ReaderParser_scanComposite.t q0 q1 q2 := by kernel_rfl
theorem jsonparser_ReaderParser_scanComposite.calls (q0 : (Option Addr)) (q1 : Bool) (q2 : Int) {w : World} {R : Ending → World → Prop} (hs : sat Tryd.prog (jsonparser_ReaderParser_scanComposite.t q0 q1 q2) (fun l vs w' => l = 0 ∧ R (.returned (retVal vs)) w') w) : Calls Tryd.prog 70 #[(Value.pointer q0), (Value.bool q1), (Value.int IntKind.u8 q2)] w R :=
  have h := calls_of_tree (w := w) (R := R) (args := [.v (Value.pointer q0), .v (Value.bool q1), .v (Value.int IntKind.u8 q2)]) (c := jsonparser_ReaderParser_scanComposite.c) Tryd.func70 (show Tryd.f70.body = some jsonparser_ReaderParser_scanComposite.c by kernel_rfl) (of_decide_eq_true (by kernel_rfl)) (jsonparser_ReaderParser_scanComposite.e q0 q1 q2) hs
  h

/-! ### (*pub-tetrapla/pub/jsonparser.ReaderParser).scanScalar : function 71 -/
def jsonparser_ReaderParser_scanScalar.t2 (z1 : (Int × (Value × PUnit))) (b5 : Bool) : T :=
  .ite b5 (
    .leaf 0 [Value.nilIface]) (
    .load (Addr.mk 1 0 Option.none) .any fun (v6 : Value) =>
    .eff (Bind.bind (eqGuard BinOp.eql 51 (Operand.tmp 22) (Operand.tmp 23) ((z1).2).1 v6) (fun (y7 : Unit) => (binOp BinOp.eql 51 ((z1).2).1 v6))) .bool fun (b8 : Bool) =>
    .ite b8 (
      .load (Addr.mk 5 0 Option.none) .any fun (v9 : Value) =>
      .leaf 0 [v9]) (
      .leaf 0 [((z1).2).1]))
def jsonparser_ReaderParser_scanScalar.t1 (rp : (Option Addr)) (retain : Bool) (b0 : Bool) : T :=
  .call 42 #[(Value.pointer rp), (Value.bool retain)] (.tuple (.cons (.int .u8) (.cons .any .nil))) fun (z1 : (Int × (Value × PUnit))) =>
  .chk ((isIface ((z1).2).1) = Bool.true) <|
  .ite (!(isNil ((z1).2).1)) (
    .cut 2 (.cons .bool .nil) (
      .load (Addr.mk 1 0 Option.none) .any fun (v2 : Value) =>
      .eff (Bind.bind (eqGuard BinOp.eql 51 (Operand.tmp 16) (Operand.tmp 17) ((z1).2).1 v2) (fun (y3 : Unit) => (binOp BinOp.eql 51 ((z1).2).1 v2))) .bool fun (b4 : Bool) =>
      .ite b4 (
        .leaf 2 [(Value.bool b0)]) (
        .leaf 2 [(Value.bool Bool.false)]))
      (fun z => jsonparser_ReaderParser_scanScalar.t2 z1 z.1)) (
    .call 80 #[(Value.int IntKind.u8 (z1).1)] .bool fun (b10 : Bool) =>
    .ite b10 (
      .ite (!b0) (
        .load (Addr.mk 5 0 Option.none) .any fun (v11 : Value) =>
        .leaf 0 [v11]) (
        .leaf 0 [Value.nilIface])) (
      .ptr rp fun (z12 : Addr) =>
      .load (Addr.add z12 3) (.int .i64) fun (i13 : Int) =>
      .ptr rp fun (z14 : Addr) =>
      .store (Addr.add z14 3) (Value.int IntKind.i64 (IntKind.wrap IntKind.i64 (i13 + (1 : Int)))) <|
      .leaf 1 [(Value.bool Bool.true)]))
def jsonparser_ReaderParser_scanScalar.t (rp : (Option Addr)) (retain : Bool) : T :=
  .loop 1 (.cons .bool .nil) [(Value.bool Bool.false)]
    (fun z => jsonparser_ReaderParser_scanScalar.t1 rp retain z.1)
def jsonparser_ReaderParser_scanScalar.h : Hints := ⟨[], [], [(4, [(21, .bool)])], [(2, [(5, .bool)])]⟩
noncomputable def jsonparser_ReaderParser_scanScalar.c : Code := (Tryd.f71.body).getD .skip
theorem jsonparser_ReaderParser_scanScalar.e (rp : (Option Addr)) (retain : Bool) : fnT Tryd.prog jsonparser_ReaderParser_scanScalar.h Tryd.f71 jsonparser_ReaderParser_scanScalar.c [.v (Value.pointer rp), .v (Value.bool retain)] = jsonparser_ReaderParser_scanScalar.t rp retain := by kernel_rfl
theorem jsonparser_ReaderParser_scanScalar.calls (rp : (Option Addr)) (retain : Bool) {w : World} {R : Ending → World → Prop} (hs : sat Tryd.prog (jsonparser_ReaderParser_scanScalar.t rp retain) (fun l vs w' => l = 0 ∧ R (.returned (retVal vs)) w') w) : Calls Tryd.prog 71 #[(Value.pointer rp), (Value.bool retain)] w R :=
  have h := calls_of_tree (w := w) (R := R) (args := [.v (Value.pointer rp), .v (Value.bool retain)]) (c := jsonparser_ReaderParser_scanScalar.c) Tryd.func71 (show Tryd.f71.body = some jsonparser_ReaderParser_scanScalar.c by kernel_rfl) (of_decide_eq_true (by kernel_rfl)) (jsonparser_ReaderParser_scanScalar.e rp retain) hs
  h

/-! ### pub-tetrapla/pub/jsonparser.closingDelimiter : function 79 -/
def jsonparser_closingDelimiter.t (opening : Int) : T :=
  .ite (opening == (91 : Int)) (
    .leaf 0 [(Value.int IntKind.u8 (93 : Int))]) (
    .leaf 0 [(Value.int IntKind.u8 (125 : Int))])
def jsonparser_closingDelimiter.h : Hints := ⟨[], [], [], []⟩
noncomputable def jsonparser_closingDelimiter.c : Code := (Tryd.f79.body).getD .skip
theorem jsonparser_closingDelimiter.e (opening : Int) : fnT Tryd.prog jsonparser_closingDelimiter.h Tryd.f79 jsonparser_closingDelimiter.c [.v (Value.int IntKind.u8 opening)] = jsonparser_closingDelimiter.t opening := by kernel_rfl
theorem jsonparser_closingDelimiter.calls (opening : Int) {w : World} {R : Ending → World → Prop} (hs : sat Tryd.prog (jsonparser_closingDelimiter.t opening) (fun l vs w' => l = 0 ∧ R (.returned (retVal vs)) w') w) : Calls Tryd.prog 79 #[(Value.int IntKind.u8 opening)] w R :=
  have h := calls_of_tree (w := w) (R := R) (args := [.v (Value.int IntKind.u8 opening)]) (c := jsonparser_closingDelimiter.c) Tryd.func79 (show Tryd.f79.body = some jsonparser_closingDelimiter.c by kernel_rfl) (of_decide_eq_true (by kernel_rfl)) (jsonparser_closingDelimiter.e opening) hs
  h

/-! ### pub-tetrapla/pub/jsonparser.isReaderValueDelimiter : function 80 -/
def jsonparser_isReaderValueDelimiter.t (b : Int) : T :=
  .call 59 #[(Value.int IntKind.u8 b)] .bool fun (b0 : Bool) =>
  .ite b0 (
    .leaf 0 [(Value.bool Bool.true)]) (
    .ite (b == (44 : Int)) (
      .leaf 0 [(Value.bool Bool.true)]) (
      .ite (b == (125 : Int)) (
        .leaf 0 [(Value.bool Bool.true)]) (
        .leaf 0 [(Value.bool (b == (93 : Int)))])))
def jsonparser_isReaderValueDelimiter.h : Hints := ⟨[], [], [], []⟩
noncomputable def jsonparser_isReaderValueDelimiter.c : Code := (Tryd.f80.body).getD .skip
theorem jsonparser_isReaderValueDelimiter.e (b : Int) : fnT Tryd.prog jsonparser_isReaderValueDelimiter.h Tryd.f80 jsonparser_isReaderValueDelimiter.c [.v (Value.int IntKind.u8 b)] = jsonparser_isReaderValueDelimiter.t b := by kernel_rfl
theorem jsonparser_isReaderValueDelimiter.calls (b : Int) {w : World} {R : Ending → World → Prop} (hs : sat Tryd.prog (jsonparser_isReaderValueDelimiter.t b) (fun l vs w' => l = 0 ∧ R (.returned (retVal vs)) w') w) : Calls Tryd.prog 80 #[(Value.int IntKind.u8 b)] w R :=
  have h := calls_of_tree (w := w) (R := R) (args := [.v (Value.int IntKind.u8 b)]) (c := jsonparser_isReaderValueDelimiter.c) Tryd.func80 (show Tryd.f80.body = some jsonparser_isReaderValueDelimiter.c by kernel_rfl) (of_decide_eq_true (by kernel_rfl)) (jsonparser_isReaderValueDelimiter.e b) hs
  h

/-! ### (*pub-tetrapla/impl.pieceReader).Read : function 134 -/
def impl_pieceReader_Read.t (r : (Option Addr)) (b : (Option Addr)) (b_len : Nat) (b_cap : Nat) : T :=
  .ptr r fun (z0 : Addr) =>
  .load (Addr.add z0 0) .slice fun (z1 : ((Option Addr) × (Nat × Nat))) =>
  .ite (((((z1).2).1 : Nat) : Int) == (0 : Int)) (
    .drew <|
    .load (Addr.mk 1 0 Option.none) .any fun (v2 : Value) =>
    .leaf 0 [(Value.int IntKind.i64 (0 : Int)), v2]) (
    .ptr r fun (z3 : Addr) =>
    .load (Addr.add z3 0) .slice fun (z4 : ((Option Addr) × (Nat × Nat))) =>
    .chk (((0 : Int) ≤ (0 : Int)) ∧ ((0 : Int) < ((((z4).2).1 : Nat) : Int))) <|
    .ptr (z4).1 fun (z5 : Addr) =>
    .load (Addr.add z5 0) .str fun (s6 : ByteArray) =>
    .eff (Builtin.copy_ (Call.argTypes (Call.mk (Callee.builtin Builtin.copy) #[(Operand.tmp 14), (Operand.tmp 20)] #[36, 9])) 3 #[(Value.slice b b_len b_cap), (Value.string s6)]) (.int .i64) fun (i7 : Int) =>
    .drew <|
    .ptr r fun (z8 : Addr) =>
    .load (Addr.add z8 0) .slice fun (z9 : ((Option Addr) × (Nat × Nat))) =>
    .ptr r fun (z10 : Addr) =>
    .load (Addr.add z10 0) .slice fun (z11 : ((Option Addr) × (Nat × Nat))) =>
    .chk (((0 : Int) ≤ (0 : Int)) ∧ ((0 : Int) < ((((z11).2).1 : Nat) : Int))) <|
    .ptr (z11).1 fun (z12 : Addr) =>
    .load (Addr.add z12 0) .str fun (s13 : ByteArray) =>
    .chk (((0 : Int) ≤ i7) ∧ ((i7 ≤ (((ByteArray.size s13) : Nat) : Int)) ∧ ((((ByteArray.size s13) : Nat) : Int) ≤ (((ByteArray.size s13) : Nat) : Int)))) <|
    .chk (((0 : Int) ≤ (0 : Int)) ∧ ((0 : Int) < ((((z9).2).1 : Nat) : Int))) <|
    .ptr (z9).1 fun (z14 : Addr) =>
    .store (Addr.add z14 0) (Value.string (ByteArray.extract s13 (Int.toNat i7) (Int.toNat (((ByteArray.size s13) : Nat) : Int)))) <|
    .ptr r fun (z15 : Addr) =>
    .load (Addr.add z15 0) .slice fun (z16 : ((Option Addr) × (Nat × Nat))) =>
    .chk (((0 : Int) ≤ (0 : Int)) ∧ ((0 : Int) < ((((z16).2).1 : Nat) : Int))) <|
    .ptr (z16).1 fun (z17 : Addr) =>
    .load (Addr.add z17 0) .str fun (s18 : ByteArray) =>
    .ite (strEq s18 (ByteArray.mk #[])) (
      .ptr r fun (z19 : Addr) =>
      .load (Addr.add z19 0) .slice fun (z20 : ((Option Addr) × (Nat × Nat))) =>
      .chk (((0 : Int) ≤ (1 : Int)) ∧ (((1 : Int) ≤ ((((z20).2).1 : Nat) : Int)) ∧ (((((z20).2).1 : Nat) : Int) ≤ ((((z20).2).2 : Nat) : Int)))) <|
      .ptr r fun (z21 : Addr) =>
      .store (Addr.add z21 0) (Value.slice (if (((z20).2).2 = 1) then (z20).1 else (Option.map (fun (y22 : Addr) => (Addr.add y22 1)) (z20).1)) ((Int.toNat ((((z20).2).1 : Nat) : Int)) - 1) (((z20).2).2 - 1)) <|
      .leaf 0 [(Value.int IntKind.i64 i7), Value.nilIface]) (
      .leaf 0 [(Value.int IntKind.i64 i7), Value.nilIface]))
def impl_pieceReader_Read.h : Hints := ⟨[], [], [], []⟩
noncomputable def impl_pieceReader_Read.c : Code := (Tryd.f134.body).getD .skip
theorem impl_pieceReader_Read.e (r : (Option Addr)) (b : (Option Addr)) (b_len : Nat) (b_cap : Nat) : fnT Tryd.prog impl_pieceReader_Read.h Tryd.f134 impl_pieceReader_Read.c [.v (Value.pointer r), .v (Value.slice b b_len b_cap)] = impl_pieceReader_Read.t r b b_len b_cap := by kernel_rfl
theorem impl_pieceReader_Read.calls (r : (Option Addr)) (b : (Option Addr)) (b_len : Nat) (b_cap : Nat) {w : World} {R : Ending → World → Prop} (hs : sat Tryd.prog (impl_pieceReader_Read.t r b b_len b_cap) (fun l vs w' => l = 0 ∧ R (.returned (retVal vs)) w') w) : Calls Tryd.prog 134 #[(Value.pointer r), (Value.slice b b_len b_cap)] w R :=
  have h := calls_of_tree (w := w) (R := R) (args := [.v (Value.pointer r), .v (Value.slice b b_len b_cap)]) (c := impl_pieceReader_Read.c) Tryd.func134 (show Tryd.f134.body = some impl_pieceReader_Read.c by kernel_rfl) (of_decide_eq_true (by kernel_rfl)) (impl_pieceReader_Read.e r b b_len b_cap) hs
  h

end Go.Proofs.YtlfebfkphgelfaaDoor.Tr
