/- Trees of loaded functions, printed by wip/tools/rxprint (a program of this repo): each is what 'exec' comes to, held by the kernel. No statement of the set is proved here. -/
import Derived.Test.YtdjilnhalpmabaaRz
import Derived.Test.YtdjilnhalpmabaaProg
import Derived.KernelRfl
namespace Go.Proofs.Ytdjilnhalpmabaa.Tr
open Go Go.Proofs Go.Proofs.Ytdjilnhalpmabaa.Rx
set_option linter.unusedVariables false
set_option maxRecDepth 100000
/-! ### pub-tetrapla/laws.FnPrSpecComma : function 6 -/
def laws_FnPrSpecComma.t2 (q0 : ByteArray) (q1 : Int) (q2 : Int) (i3 : Int) (s4 : ByteArray) : T :=
  .ite (decide (i3 < q2)) (
    .eff (Instr.buildSlice 38 4 #[(0, (Value.string (ByteArray.mk #[(32 : UInt8)]))), (1, (Value.string (ByteArray.mk #[(9 : UInt8)]))), (2, (Value.string (ByteArray.mk #[(10 : UInt8)]))), (3, (Value.string (ByteArray.mk #[(13 : UInt8)])))]) .slice fun (z5 : ((Option Addr) × (Nat × Nat))) =>
    .chk ((0 : Int) ≤ (IntKind.wrap IntKind.u64 ((2 : Int) * (IntKind.wrap IntKind.u64 i3)))) <|
    .chk (((0 : Int) ≤ (IntKind.wrap IntKind.u64 (((BitVec.toNat ((BitVec.ofInt 64 (Int.fdiv q1 ((2 : Int) ^ (Min.min (Int.toNat (IntKind.wrap IntKind.u64 ((2 : Int) * (IntKind.wrap IntKind.u64 i3)))) 64)))) &&& (BitVec.ofInt 64 (3 : Int)))) : Nat) : Int))) ∧ ((IntKind.wrap IntKind.u64 (((BitVec.toNat ((BitVec.ofInt 64 (Int.fdiv q1 ((2 : Int) ^ (Min.min (Int.toNat (IntKind.wrap IntKind.u64 ((2 : Int) * (IntKind.wrap IntKind.u64 i3)))) 64)))) &&& (BitVec.ofInt 64 (3 : Int)))) : Nat) : Int)) < ((((z5).2).1 : Nat) : Int))) <|
    .ptr (z5).1 fun (z6 : Addr) =>
    .load (Addr.add z6 ((Int.toNat (IntKind.wrap IntKind.u64 (((BitVec.toNat ((BitVec.ofInt 64 (Int.fdiv q1 ((2 : Int) ^ (Min.min (Int.toNat (IntKind.wrap IntKind.u64 ((2 : Int) * (IntKind.wrap IntKind.u64 i3)))) 64)))) &&& (BitVec.ofInt 64 (3 : Int)))) : Nat) : Int))) * 1)) .str fun (s7 : ByteArray) =>
    .chk (((ByteArray.size s4) + (ByteArray.size s7)) ≤ 9223372036854775807) <|
    .leaf 1 [(Value.int IntKind.i64 (IntKind.wrap IntKind.i64 (i3 + (1 : Int)))), (Value.string (s4 ++ s7))]) (
    .chk ((1 + (ByteArray.size q0)) ≤ 9223372036854775807) <|
    .chk (((ByteArray.size ((ByteArray.mk #[(91 : UInt8)]) ++ q0)) + 1) ≤ 9223372036854775807) <|
    .chk (((ByteArray.size (((ByteArray.mk #[(91 : UInt8)]) ++ q0) ++ (ByteArray.mk #[(44 : UInt8)]))) + (ByteArray.size s4)) ≤ 9223372036854775807) <|
    .chk (((ByteArray.size ((((ByteArray.mk #[(91 : UInt8)]) ++ q0) ++ (ByteArray.mk #[(44 : UInt8)])) ++ s4)) + 1) ≤ 9223372036854775807) <|
    .call 16 #[(Value.string (((((ByteArray.mk #[(91 : UInt8)]) ++ q0) ++ (ByteArray.mk #[(44 : UInt8)])) ++ s4) ++ (ByteArray.mk #[(93 : UInt8)])))] .str fun (s8 : ByteArray) =>
    .chk ((1 + (ByteArray.size q0)) ≤ 9223372036854775807) <|
    .chk (((ByteArray.size ((ByteArray.mk #[(91 : UInt8)]) ++ q0)) + 1) ≤ 9223372036854775807) <|
    .chk (((ByteArray.size (((ByteArray.mk #[(91 : UInt8)]) ++ q0) ++ (ByteArray.mk #[(32 : UInt8)]))) + (ByteArray.size s4)) ≤ 9223372036854775807) <|
    .chk (((ByteArray.size ((((ByteArray.mk #[(91 : UInt8)]) ++ q0) ++ (ByteArray.mk #[(32 : UInt8)])) ++ s4)) + 1) ≤ 9223372036854775807) <|
    .ite (strEq s8 (((((ByteArray.mk #[(91 : UInt8)]) ++ q0) ++ (ByteArray.mk #[(32 : UInt8)])) ++ s4) ++ (ByteArray.mk #[(93 : UInt8)]))) (
      .chk ((5 + (ByteArray.size q0)) ≤ 9223372036854775807) <|
      .chk (((ByteArray.size ((ByteArray.mk #[(123 : UInt8), (34 : UInt8), (97 : UInt8), (34 : UInt8), (58 : UInt8)]) ++ q0)) + (ByteArray.size s4)) ≤ 9223372036854775807) <|
      .chk (((ByteArray.size (((ByteArray.mk #[(123 : UInt8), (34 : UInt8), (97 : UInt8), (34 : UInt8), (58 : UInt8)]) ++ q0) ++ s4)) + 1) ≤ 9223372036854775807) <|
      .chk (((ByteArray.size ((((ByteArray.mk #[(123 : UInt8), (34 : UInt8), (97 : UInt8), (34 : UInt8), (58 : UInt8)]) ++ q0) ++ s4) ++ (ByteArray.mk #[(44 : UInt8)]))) + (ByteArray.size s4)) ≤ 9223372036854775807) <|
      .chk (((ByteArray.size (((((ByteArray.mk #[(123 : UInt8), (34 : UInt8), (97 : UInt8), (34 : UInt8), (58 : UInt8)]) ++ q0) ++ s4) ++ (ByteArray.mk #[(44 : UInt8)])) ++ s4)) + 1) ≤ 9223372036854775807) <|
      .call 16 #[(Value.string ((((((ByteArray.mk #[(123 : UInt8), (34 : UInt8), (97 : UInt8), (34 : UInt8), (58 : UInt8)]) ++ q0) ++ s4) ++ (ByteArray.mk #[(44 : UInt8)])) ++ s4) ++ (ByteArray.mk #[(125 : UInt8)])))] .str fun (s9 : ByteArray) =>
      .chk ((5 + (ByteArray.size q0)) ≤ 9223372036854775807) <|
      .chk (((ByteArray.size ((ByteArray.mk #[(123 : UInt8), (34 : UInt8), (97 : UInt8), (34 : UInt8), (58 : UInt8)]) ++ q0)) + (ByteArray.size s4)) ≤ 9223372036854775807) <|
      .chk (((ByteArray.size (((ByteArray.mk #[(123 : UInt8), (34 : UInt8), (97 : UInt8), (34 : UInt8), (58 : UInt8)]) ++ q0) ++ s4)) + 1) ≤ 9223372036854775807) <|
      .chk (((ByteArray.size ((((ByteArray.mk #[(123 : UInt8), (34 : UInt8), (97 : UInt8), (34 : UInt8), (58 : UInt8)]) ++ q0) ++ s4) ++ (ByteArray.mk #[(32 : UInt8)]))) + (ByteArray.size s4)) ≤ 9223372036854775807) <|
      .chk (((ByteArray.size (((((ByteArray.mk #[(123 : UInt8), (34 : UInt8), (97 : UInt8), (34 : UInt8), (58 : UInt8)]) ++ q0) ++ s4) ++ (ByteArray.mk #[(32 : UInt8)])) ++ s4)) + 1) ≤ 9223372036854775807) <|
      .leaf 0 [(Value.bool (strEq s9 ((((((ByteArray.mk #[(123 : UInt8), (34 : UInt8), (97 : UInt8), (34 : UInt8), (58 : UInt8)]) ++ q0) ++ s4) ++ (ByteArray.mk #[(32 : UInt8)])) ++ s4) ++ (ByteArray.mk #[(125 : UInt8)]))))]) (
      .leaf 0 [(Value.bool Bool.false)]))
def laws_FnPrSpecComma.t1 (q0 : ByteArray) (q1 : Int) (q2 : Int) (b2 : Bool) : T :=
  .ite b2 (
    .leaf 0 [(Value.bool Bool.true)]) (
    .loop 1 (.cons (.int .i64) (.cons .str .nil)) [(Value.int IntKind.i64 (0 : Int)), (Value.string (ByteArray.mk #[]))]
      (fun z => laws_FnPrSpecComma.t2 q0 q1 q2 z.1 z.2.1))
def laws_FnPrSpecComma.t (q0 : ByteArray) (q1 : Int) (q2 : Int) : T :=
  .ite (decide ((((ByteArray.size q0) : Nat) : Int) > (2147483647 : Int))) (
    .leaf 0 [(Value.bool Bool.true)]) (
    .call 15 #[(Value.string q0)] (.tuple (.cons (.agg (.cons (.int .i64) (.cons (.int .i64) (.cons (.int .i64) (.cons .slice (.cons .slice .nil)))))) (.cons .bool .nil))) fun (z0 : ((Int × (Int × (Int × (((Option Addr) × (Nat × Nat)) × (((Option Addr) × (Nat × Nat)) × PUnit))))) × (Bool × PUnit))) =>
    .alloc (Obj.cells #[(Value.int IntKind.i64 (0 : Int)), (Value.int IntKind.i64 (0 : Int)), (Value.int IntKind.i64 (0 : Int)), (Value.slice none 0 0), (Value.slice none 0 0)] 35 (0, 0)) fun (z1 : Addr) =>
    .effU (Instr.storeAt 35 (Value.pointer (some z1)) (Value.agg #[(Value.int IntKind.i64 ((z0).1).1), (Value.int IntKind.i64 (((z0).1).2).1), (Value.int IntKind.i64 ((((z0).1).2).2).1), (Value.slice ((((((z0).1).2).2).2).1).1 (((((((z0).1).2).2).2).1).2).1 (((((((z0).1).2).2).2).1).2).2), (Value.slice (((((((z0).1).2).2).2).2).1).1 ((((((((z0).1).2).2).2).2).1).2).1 ((((((((z0).1).2).2).2).2).1).2).2)])) <|
    .cut 1 (.cons .bool .nil) (
      .ite (!((z0).2).1) (
        .leaf 1 [(Value.bool Bool.true)]) (
        .ite (decide ((((ByteArray.size q0) : Nat) : Int) > (4056 : Int))) (
          .leaf 1 [(Value.bool Bool.true)]) (
          .ite (decide (q2 < (0 : Int))) (
            .leaf 1 [(Value.bool Bool.true)]) (
            .leaf 1 [(Value.bool (decide (q2 > (32 : Int))))]))))
      (fun z => laws_FnPrSpecComma.t1 q0 q1 q2 z.1))
def laws_FnPrSpecComma.h : Hints := ⟨[], [], [(4, [(33, .bool)])], [(8, [(10, (.int .i64)), (9, .str)])]⟩
noncomputable def laws_FnPrSpecComma.c : Code := (Try.f6.body).getD .skip
theorem laws_FnPrSpecComma.e (q0 : ByteArray) (q1 : Int) (q2 : Int) : fnT Try.prog laws_FnPrSpecComma.h Try.f6 laws_FnPrSpecComma.c [.v (Value.string q0), .v (Value.int IntKind.u64 q1), .v (Value.int IntKind.i64 q2)] = laws_FnPrSpecComma.t q0 q1 q2 := by kernel_rfl
theorem laws_FnPrSpecComma.calls (q0 : ByteArray) (q1 : Int) (q2 : Int) {w : World} {R : Ending → World → Prop} (hs : sat Try.prog (laws_FnPrSpecComma.t q0 q1 q2) (fun l vs w' => l = 0 ∧ R (.returned (retVal vs)) w') w) : Calls Try.prog 6 #[(Value.string q0), (Value.int IntKind.u64 q1), (Value.int IntKind.i64 q2)] w R :=
  have h := calls_of_tree (w := w) (R := R) (args := [.v (Value.string q0), .v (Value.int IntKind.u64 q1), .v (Value.int IntKind.i64 q2)]) (c := laws_FnPrSpecComma.c) Try.func6 (show Try.f6.body = some laws_FnPrSpecComma.c by kernel_rfl) (of_decide_eq_true (by kernel_rfl)) (laws_FnPrSpecComma.e q0 q1 q2) hs
  h

/-! ### pub-tetrapla/impl.PrSpec : function 16 -/
def impl_PrSpec.t (text : ByteArray) : T :=
  .eff (convert 9 55 (Value.string text)) .slice fun (z0 : ((Option Addr) × (Nat × Nat))) =>
  .call 27 #[(Value.slice (z0).1 ((z0).2).1 ((z0).2).2)] .slice fun (z1 : ((Option Addr) × (Nat × Nat))) =>
  .eff (convert 55 9 (Value.slice (z1).1 ((z1).2).1 ((z1).2).2)) .str fun (s2 : ByteArray) =>
  .leaf 0 [(Value.string s2)]
def impl_PrSpec.h : Hints := ⟨[], [], [], []⟩
noncomputable def impl_PrSpec.c : Code := (Try.f16.body).getD .skip
theorem impl_PrSpec.e (text : ByteArray) : fnT Try.prog impl_PrSpec.h Try.f16 impl_PrSpec.c [.v (Value.string text)] = impl_PrSpec.t text := by kernel_rfl
theorem impl_PrSpec.calls (text : ByteArray) {w : World} {R : Ending → World → Prop} (hs : sat Try.prog (impl_PrSpec.t text) (fun l vs w' => l = 0 ∧ R (.returned (retVal vs)) w') w) : Calls Try.prog 16 #[(Value.string text)] w R :=
  have h := calls_of_tree (w := w) (R := R) (args := [.v (Value.string text)]) (c := impl_PrSpec.c) Try.func16 (show Try.f16.body = some impl_PrSpec.c by kernel_rfl) (of_decide_eq_true (by kernel_rfl)) (impl_PrSpec.e text) hs
  h

/-! ### pub-tetrapla/pub/pretty.Spec : function 27 -/
def pretty_Spec.t (src : (Option Addr)) (src_len : Nat) (src_cap : Nat) : T :=
  .call 36 #[(Value.slice src src_len src_cap), (Value.slice none 0 0)] .slice fun (z0 : ((Option Addr) × (Nat × Nat))) =>
  .leaf 0 [(Value.slice (z0).1 ((z0).2).1 ((z0).2).2)]
def pretty_Spec.h : Hints := ⟨[], [], [], []⟩
noncomputable def pretty_Spec.c : Code := (Try.f27.body).getD .skip
theorem pretty_Spec.e (src : (Option Addr)) (src_len : Nat) (src_cap : Nat) : fnT Try.prog pretty_Spec.h Try.f27 pretty_Spec.c [.v (Value.slice src src_len src_cap)] = pretty_Spec.t src src_len src_cap := by kernel_rfl
theorem pretty_Spec.calls (src : (Option Addr)) (src_len : Nat) (src_cap : Nat) {w : World} {R : Ending → World → Prop} (hs : sat Try.prog (pretty_Spec.t src src_len src_cap) (fun l vs w' => l = 0 ∧ R (.returned (retVal vs)) w') w) : Calls Try.prog 27 #[(Value.slice src src_len src_cap)] w R :=
  have h := calls_of_tree (w := w) (R := R) (args := [.v (Value.slice src src_len src_cap)]) (c := pretty_Spec.c) Try.func27 (show Try.f27.body = some pretty_Spec.c by kernel_rfl) (of_decide_eq_true (by kernel_rfl)) (pretty_Spec.e src src_len src_cap) hs
  h

/-! ### pub-tetrapla/pub/pretty.spec : function 36 -/
def pretty_spec.t3 (q0 : (Option Addr)) (q0_len : Nat) (i9 : Int) (z10 : ((Option Addr) × (Nat × Nat))) (b19 : Bool) : T :=
  .ite b19 (
    .chk (((0 : Int) ≤ i9) ∧ (i9 < ((q0_len : Nat) : Int))) <|
    .ptr q0 fun (z20 : Addr) =>
    .load (Addr.add z20 ((Int.toNat i9) * 1)) (.int .u8) fun (i21 : Int) =>
    .eff (Instr.buildSlice 55 1 #[(0, (Value.int IntKind.u8 i21))]) .slice fun (z22 : ((Option Addr) × (Nat × Nat))) =>
    .eff (Builtin.append_ (Call.argTypes (Call.mk (Callee.builtin Builtin.append) #[(Operand.tmp 63), (Operand.tmp 68)] #[55, 55])) 55 #[(Value.slice (z10).1 ((z10).2).1 ((z10).2).2), (Value.slice (z22).1 ((z22).2).1 ((z22).2).2)]) .slice fun (z23 : ((Option Addr) × (Nat × Nat))) =>
    .leaf 5 [(Value.int IntKind.i64 (IntKind.wrap IntKind.i64 (i9 + (1 : Int)))), (Value.slice (z23).1 ((z23).2).1 ((z23).2).2)]) (
    .eff (Instr.buildSlice 55 1 #[(0, (Value.int IntKind.u8 (32 : Int)))]) .slice fun (z24 : ((Option Addr) × (Nat × Nat))) =>
    .eff (Builtin.append_ (Call.argTypes (Call.mk (Callee.builtin Builtin.append) #[(Operand.tmp 70), (Operand.tmp 71)] #[55, 55])) 55 #[(Value.slice (z10).1 ((z10).2).1 ((z10).2).2), (Value.slice (z24).1 ((z24).2).1 ((z24).2).2)]) .slice fun (z25 : ((Option Addr) × (Nat × Nat))) =>
    .leaf 5 [(Value.int IntKind.i64 (IntKind.wrap IntKind.i64 (i9 + (1 : Int)))), (Value.slice (z25).1 ((z25).2).1 ((z25).2).2)])
def pretty_spec.t2 (q0 : (Option Addr)) (q0_len : Nat) (i9 : Int) (z10 : ((Option Addr) × (Nat × Nat))) : T :=
  .ite (decide (i9 < ((q0_len : Nat) : Int))) (
    .chk (((0 : Int) ≤ i9) ∧ (i9 < ((q0_len : Nat) : Int))) <|
    .ptr q0 fun (z11 : Addr) =>
    .load (Addr.add z11 ((Int.toNat i9) * 1)) (.int .u8) fun (i12 : Int) =>
    .ite (i12 == (10 : Int)) (
      .eff (Instr.buildSlice 55 1 #[(0, (Value.int IntKind.u8 (10 : Int)))]) .slice fun (z13 : ((Option Addr) × (Nat × Nat))) =>
      .eff (Builtin.append_ (Call.argTypes (Call.mk (Callee.builtin Builtin.append) #[(Operand.tmp 48), (Operand.tmp 49)] #[55, 55])) 55 #[(Value.slice (z10).1 ((z10).2).1 ((z10).2).2), (Value.slice (z13).1 ((z13).2).1 ((z13).2).2)]) .slice fun (z14 : ((Option Addr) × (Nat × Nat))) =>
      .leaf 4 [(Value.slice (z14).1 ((z14).2).1 ((z14).2).2), (Value.int IntKind.i64 i9)]) (
      .cut 6 (.cons .bool .nil) (
        .chk (((0 : Int) ≤ i9) ∧ (i9 < ((q0_len : Nat) : Int))) <|
        .ptr q0 fun (z15 : Addr) =>
        .load (Addr.add z15 ((Int.toNat i9) * 1)) (.int .u8) fun (i16 : Int) =>
        .ite (i16 == (9 : Int)) (
          .leaf 6 [(Value.bool Bool.true)]) (
          .chk (((0 : Int) ≤ i9) ∧ (i9 < ((q0_len : Nat) : Int))) <|
          .ptr q0 fun (z17 : Addr) =>
          .load (Addr.add z17 ((Int.toNat i9) * 1)) (.int .u8) fun (i18 : Int) =>
          .leaf 6 [(Value.bool (i18 == (13 : Int)))]))
        (fun z => pretty_spec.t3 q0 q0_len i9 z10 z.1))) (
    .leaf 4 [(Value.slice (z10).1 ((z10).2).1 ((z10).2).2), (Value.int IntKind.i64 i9)])
def pretty_spec.t4 (z26 : ((Option Addr) × (Nat × Nat))) (i27 : Int) : T :=
  .leaf 1 [(Value.int IntKind.i64 (IntKind.wrap IntKind.i64 (i27 + (1 : Int)))), (Value.slice (z26).1 ((z26).2).1 ((z26).2).2)]
def pretty_spec.t7 (q0 : (Option Addr)) (q0_len : Nat) (i32 : Int) (z33 : ((Option Addr) × (Nat × Nat))) (b47 : Bool) : T :=
  .ite b47 (
    .chk (((0 : Int) ≤ i32) ∧ (i32 < ((q0_len : Nat) : Int))) <|
    .ptr q0 fun (z48 : Addr) =>
    .load (Addr.add z48 ((Int.toNat i32) * 1)) (.int .u8) fun (i49 : Int) =>
    .eff (Instr.buildSlice 55 1 #[(0, (Value.int IntKind.u8 i49))]) .slice fun (z50 : ((Option Addr) × (Nat × Nat))) =>
    .eff (Builtin.append_ (Call.argTypes (Call.mk (Callee.builtin Builtin.append) #[(Operand.tmp 128), (Operand.tmp 133)] #[55, 55])) 55 #[(Value.slice (z33).1 ((z33).2).1 ((z33).2).2), (Value.slice (z50).1 ((z50).2).1 ((z50).2).2)]) .slice fun (z51 : ((Option Addr) × (Nat × Nat))) =>
    .leaf 5 [(Value.int IntKind.i64 (IntKind.wrap IntKind.i64 (i32 + (1 : Int)))), (Value.slice (z51).1 ((z51).2).1 ((z51).2).2)]) (
    .eff (Instr.buildSlice 55 1 #[(0, (Value.int IntKind.u8 (32 : Int)))]) .slice fun (z52 : ((Option Addr) × (Nat × Nat))) =>
    .eff (Builtin.append_ (Call.argTypes (Call.mk (Callee.builtin Builtin.append) #[(Operand.tmp 135), (Operand.tmp 136)] #[55, 55])) 55 #[(Value.slice (z33).1 ((z33).2).1 ((z33).2).2), (Value.slice (z52).1 ((z52).2).1 ((z52).2).2)]) .slice fun (z53 : ((Option Addr) × (Nat × Nat))) =>
    .leaf 5 [(Value.int IntKind.i64 (IntKind.wrap IntKind.i64 (i32 + (1 : Int)))), (Value.slice (z53).1 ((z53).2).1 ((z53).2).2)])
def pretty_spec.t6 (q0 : (Option Addr)) (q0_len : Nat) (i32 : Int) (z33 : ((Option Addr) × (Nat × Nat))) (b38 : Bool) : T :=
  .ite b38 (
    .eff (Instr.buildSlice 55 2 #[(0, (Value.int IntKind.u8 (32 : Int))), (1, (Value.int IntKind.u8 (32 : Int)))]) .slice fun (z39 : ((Option Addr) × (Nat × Nat))) =>
    .eff (Builtin.append_ (Call.argTypes (Call.mk (Callee.builtin Builtin.append) #[(Operand.tmp 104), (Operand.tmp 105)] #[55, 55])) 55 #[(Value.slice (z33).1 ((z33).2).1 ((z33).2).2), (Value.slice (z39).1 ((z39).2).1 ((z39).2).2)]) .slice fun (z40 : ((Option Addr) × (Nat × Nat))) =>
    .leaf 4 [(Value.slice (z40).1 ((z40).2).1 ((z40).2).2), (Value.int IntKind.i64 (IntKind.wrap IntKind.i64 (i32 + (1 : Int))))]) (
    .cut 6 (.cons .bool .nil) (
      .chk (((0 : Int) ≤ i32) ∧ (i32 < ((q0_len : Nat) : Int))) <|
      .ptr q0 fun (z41 : Addr) =>
      .load (Addr.add z41 ((Int.toNat i32) * 1)) (.int .u8) fun (i42 : Int) =>
      .ite (i42 == (10 : Int)) (
        .leaf 6 [(Value.bool Bool.true)]) (
        .chk (((0 : Int) ≤ i32) ∧ (i32 < ((q0_len : Nat) : Int))) <|
        .ptr q0 fun (z43 : Addr) =>
        .load (Addr.add z43 ((Int.toNat i32) * 1)) (.int .u8) fun (i44 : Int) =>
        .ite (i44 == (9 : Int)) (
          .leaf 6 [(Value.bool Bool.true)]) (
          .chk (((0 : Int) ≤ i32) ∧ (i32 < ((q0_len : Nat) : Int))) <|
          .ptr q0 fun (z45 : Addr) =>
          .load (Addr.add z45 ((Int.toNat i32) * 1)) (.int .u8) fun (i46 : Int) =>
          .leaf 6 [(Value.bool (i46 == (13 : Int)))])))
      (fun z => pretty_spec.t7 q0 q0_len i32 z33 z.1))
def pretty_spec.t5 (q0 : (Option Addr)) (q0_len : Nat) (i32 : Int) (z33 : ((Option Addr) × (Nat × Nat))) : T :=
  .ite (decide (i32 < (IntKind.wrap IntKind.i64 (((q0_len : Nat) : Int) - (1 : Int))))) (
    .cut 6 (.cons .bool .nil) (
      .chk (((0 : Int) ≤ i32) ∧ (i32 < ((q0_len : Nat) : Int))) <|
      .ptr q0 fun (z34 : Addr) =>
      .load (Addr.add z34 ((Int.toNat i32) * 1)) (.int .u8) fun (i35 : Int) =>
      .ite (i35 == (42 : Int)) (
        .chk (((0 : Int) ≤ (IntKind.wrap IntKind.i64 (i32 + (1 : Int)))) ∧ ((IntKind.wrap IntKind.i64 (i32 + (1 : Int))) < ((q0_len : Nat) : Int))) <|
        .ptr q0 fun (z36 : Addr) =>
        .load (Addr.add z36 ((Int.toNat (IntKind.wrap IntKind.i64 (i32 + (1 : Int)))) * 1)) (.int .u8) fun (i37 : Int) =>
        .leaf 6 [(Value.bool (i37 == (47 : Int)))]) (
        .leaf 6 [(Value.bool Bool.false)]))
      (fun z => pretty_spec.t6 q0 q0_len i32 z33 z.1)) (
    .leaf 4 [(Value.slice (z33).1 ((z33).2).1 ((z33).2).2), (Value.int IntKind.i64 i32)])
def pretty_spec.t8 (z54 : ((Option Addr) × (Nat × Nat))) (i55 : Int) : T :=
  .leaf 1 [(Value.int IntKind.i64 (IntKind.wrap IntKind.i64 (i55 + (1 : Int)))), (Value.slice (z54).1 ((z54).2).1 ((z54).2).2)]
def pretty_spec.t9 (i56 : Int) (z57 : ((Option Addr) × (Nat × Nat))) : T :=
  .leaf 2 [(Value.int IntKind.i64 i56), (Value.slice (z57).1 ((z57).2).1 ((z57).2).2)]
def pretty_spec.t12 (q0 : (Option Addr)) (q0_len : Nat) (i66 : Int) (z71 : ((Option Addr) × (Nat × Nat))) (i74 : Int) : T :=
  .chk (((0 : Int) ≤ i74) ∧ (i74 < ((q0_len : Nat) : Int))) <|
  .ptr q0 fun (z75 : Addr) =>
  .load (Addr.add z75 ((Int.toNat i74) * 1)) (.int .u8) fun (i76 : Int) =>
  .ite (i76 != (92 : Int)) (
    .chk ((2 : Int) ≠ (0 : Int)) <|
    .ite ((Int.tmod (IntKind.wrap IntKind.i64 (i74 - i66)) (2 : Int)) != (0 : Int)) (
      .leaf 1 [(Value.int IntKind.i64 (IntKind.wrap IntKind.i64 (i66 + (1 : Int)))), (Value.slice (z71).1 ((z71).2).1 ((z71).2).2)]) (
      .leaf 2 [(Value.int IntKind.i64 (IntKind.wrap IntKind.i64 (i66 + (1 : Int)))), (Value.slice (z71).1 ((z71).2).1 ((z71).2).2)])) (
    .leaf 3 [(Value.int IntKind.i64 (IntKind.wrap IntKind.i64 (i74 - (1 : Int))))])
def pretty_spec.t11 (q0 : (Option Addr)) (q0_len : Nat) (i66 : Int) (z67 : ((Option Addr) × (Nat × Nat))) : T :=
  .ite (decide (i66 < ((q0_len : Nat) : Int))) (
    .chk (((0 : Int) ≤ i66) ∧ (i66 < ((q0_len : Nat) : Int))) <|
    .ptr q0 fun (z68 : Addr) =>
    .load (Addr.add z68 ((Int.toNat i66) * 1)) (.int .u8) fun (i69 : Int) =>
    .eff (Instr.buildSlice 55 1 #[(0, (Value.int IntKind.u8 i69))]) .slice fun (z70 : ((Option Addr) × (Nat × Nat))) =>
    .eff (Builtin.append_ (Call.argTypes (Call.mk (Callee.builtin Builtin.append) #[(Operand.tmp 158), (Operand.tmp 163)] #[55, 55])) 55 #[(Value.slice (z67).1 ((z67).2).1 ((z67).2).2), (Value.slice (z70).1 ((z70).2).1 ((z70).2).2)]) .slice fun (z71 : ((Option Addr) × (Nat × Nat))) =>
    .chk (((0 : Int) ≤ i66) ∧ (i66 < ((q0_len : Nat) : Int))) <|
    .ptr q0 fun (z72 : Addr) =>
    .load (Addr.add z72 ((Int.toNat i66) * 1)) (.int .u8) fun (i73 : Int) =>
    .ite (i73 == (34 : Int)) (
      .loop 3 (.cons (.int .i64) .nil) [(Value.int IntKind.i64 (IntKind.wrap IntKind.i64 (i66 - (1 : Int))))]
        (fun z => pretty_spec.t12 q0 q0_len i66 z71 z.1)) (
      .leaf 2 [(Value.int IntKind.i64 (IntKind.wrap IntKind.i64 (i66 + (1 : Int)))), (Value.slice (z71).1 ((z71).2).1 ((z71).2).2)])) (
    .leaf 1 [(Value.int IntKind.i64 (IntKind.wrap IntKind.i64 (i66 + (1 : Int)))), (Value.slice (z67).1 ((z67).2).1 ((z67).2).2)])
def pretty_spec.t14 (i58 : Int) (z63 : ((Option Addr) × (Nat × Nat))) (i82 : Int) : T :=
  .ite (decide (i82 ≥ (0 : Int))) (
    .chk (((0 : Int) ≤ i82) ∧ (i82 < ((((z63).2).1 : Nat) : Int))) <|
    .ptr (z63).1 fun (z83 : Addr) =>
    .load (Addr.add z83 ((Int.toNat i82) * 1)) (.int .u8) fun (i84 : Int) =>
    .ite (decide (i84 ≤ (32 : Int))) (
      .leaf 2 [(Value.int IntKind.i64 (IntKind.wrap IntKind.i64 (i82 - (1 : Int))))]) (
      .chk (((0 : Int) ≤ i82) ∧ (i82 < ((((z63).2).1 : Nat) : Int))) <|
      .ptr (z63).1 fun (z85 : Addr) =>
      .load (Addr.add z85 ((Int.toNat i82) * 1)) (.int .u8) fun (i86 : Int) =>
      .ite (i86 == (44 : Int)) (
        .chk (((0 : Int) ≤ i82) ∧ (i82 < ((((z63).2).1 : Nat) : Int))) <|
        .ptr (z63).1 fun (z87 : Addr) =>
        .store (Addr.add z87 ((Int.toNat i82) * 1)) (Value.int IntKind.u8 (32 : Int)) <|
        .leaf 1 [(Value.int IntKind.i64 (IntKind.wrap IntKind.i64 (i58 + (1 : Int)))), (Value.slice (z63).1 ((z63).2).1 ((z63).2).2)]) (
        .leaf 1 [(Value.int IntKind.i64 (IntKind.wrap IntKind.i64 (i58 + (1 : Int)))), (Value.slice (z63).1 ((z63).2).1 ((z63).2).2)]))) (
    .leaf 1 [(Value.int IntKind.i64 (IntKind.wrap IntKind.i64 (i58 + (1 : Int)))), (Value.slice (z63).1 ((z63).2).1 ((z63).2).2)])
def pretty_spec.t13 (i58 : Int) (z63 : ((Option Addr) × (Nat × Nat))) (b81 : Bool) : T :=
  .ite b81 (
    .loop 2 (.cons (.int .i64) .nil) [(Value.int IntKind.i64 (IntKind.wrap IntKind.i64 (((((z63).2).1 : Nat) : Int) - (2 : Int))))]
      (fun z => pretty_spec.t14 i58 z63 z.1)) (
    .leaf 1 [(Value.int IntKind.i64 (IntKind.wrap IntKind.i64 (i58 + (1 : Int)))), (Value.slice (z63).1 ((z63).2).1 ((z63).2).2)])
def pretty_spec.t10 (q0 : (Option Addr)) (q0_len : Nat) (i58 : Int) (z59 : ((Option Addr) × (Nat × Nat))) : T :=
  .chk (((0 : Int) ≤ i58) ∧ (i58 < ((q0_len : Nat) : Int))) <|
  .ptr q0 fun (z60 : Addr) =>
  .load (Addr.add z60 ((Int.toNat i58) * 1)) (.int .u8) fun (i61 : Int) =>
  .eff (Instr.buildSlice 55 1 #[(0, (Value.int IntKind.u8 i61))]) .slice fun (z62 : ((Option Addr) × (Nat × Nat))) =>
  .eff (Builtin.append_ (Call.argTypes (Call.mk (Callee.builtin Builtin.append) #[(Operand.tmp 138), (Operand.tmp 143)] #[55, 55])) 55 #[(Value.slice (z59).1 ((z59).2).1 ((z59).2).2), (Value.slice (z62).1 ((z62).2).1 ((z62).2).2)]) .slice fun (z63 : ((Option Addr) × (Nat × Nat))) =>
  .chk (((0 : Int) ≤ i58) ∧ (i58 < ((q0_len : Nat) : Int))) <|
  .ptr q0 fun (z64 : Addr) =>
  .load (Addr.add z64 ((Int.toNat i58) * 1)) (.int .u8) fun (i65 : Int) =>
  .ite (i65 == (34 : Int)) (
    .loop 2 (.cons (.int .i64) (.cons .slice .nil)) [(Value.int IntKind.i64 (IntKind.wrap IntKind.i64 (i58 + (1 : Int)))), (Value.slice (z63).1 ((z63).2).1 ((z63).2).2)]
      (fun z => pretty_spec.t11 q0 q0_len z.1 z.2.1)) (
    .cut 2 (.cons .bool .nil) (
      .chk (((0 : Int) ≤ i58) ∧ (i58 < ((q0_len : Nat) : Int))) <|
      .ptr q0 fun (z77 : Addr) =>
      .load (Addr.add z77 ((Int.toNat i58) * 1)) (.int .u8) fun (i78 : Int) =>
      .ite (i78 == (125 : Int)) (
        .leaf 2 [(Value.bool Bool.true)]) (
        .chk (((0 : Int) ≤ i58) ∧ (i58 < ((q0_len : Nat) : Int))) <|
        .ptr q0 fun (z79 : Addr) =>
        .load (Addr.add z79 ((Int.toNat i58) * 1)) (.int .u8) fun (i80 : Int) =>
        .leaf 2 [(Value.bool (i80 == (93 : Int)))]))
      (fun z => pretty_spec.t13 i58 z63 z.1))
def pretty_spec.t1 (q0 : (Option Addr)) (q0_len : Nat) (i1 : Int) (z2 : ((Option Addr) × (Nat × Nat))) : T :=
  .ite (decide (i1 < ((q0_len : Nat) : Int))) (
    .chk (((0 : Int) ≤ i1) ∧ (i1 < ((q0_len : Nat) : Int))) <|
    .ptr q0 fun (z3 : Addr) =>
    .load (Addr.add z3 ((Int.toNat i1) * 1)) (.int .u8) fun (i4 : Int) =>
    .cut 2 (.cons (.int .i64) (.cons .slice .nil)) (
      .ite (i4 == (47 : Int)) (
        .cut 3 (.cons (.int .i64) (.cons .slice .nil)) (
          .ite (decide (i1 < (IntKind.wrap IntKind.i64 (((q0_len : Nat) : Int) - (1 : Int))))) (
            .chk (((0 : Int) ≤ (IntKind.wrap IntKind.i64 (i1 + (1 : Int)))) ∧ ((IntKind.wrap IntKind.i64 (i1 + (1 : Int))) < ((q0_len : Nat) : Int))) <|
            .ptr q0 fun (z5 : Addr) =>
            .load (Addr.add z5 ((Int.toNat (IntKind.wrap IntKind.i64 (i1 + (1 : Int)))) * 1)) (.int .u8) fun (i6 : Int) =>
            .ite (i6 == (47 : Int)) (
              .eff (Instr.buildSlice 55 2 #[(0, (Value.int IntKind.u8 (32 : Int))), (1, (Value.int IntKind.u8 (32 : Int)))]) .slice fun (z7 : ((Option Addr) × (Nat × Nat))) =>
              .eff (Builtin.append_ (Call.argTypes (Call.mk (Callee.builtin Builtin.append) #[(Operand.tmp 32), (Operand.tmp 33)] #[55, 55])) 55 #[(Value.slice (z2).1 ((z2).2).1 ((z2).2).2), (Value.slice (z7).1 ((z7).2).1 ((z7).2).2)]) .slice fun (z8 : ((Option Addr) × (Nat × Nat))) =>
              .cut 4 (.cons .slice (.cons (.int .i64) .nil)) (
                .loop 5 (.cons (.int .i64) (.cons .slice .nil)) [(Value.int IntKind.i64 (IntKind.wrap IntKind.i64 (i1 + (2 : Int)))), (Value.slice (z8).1 ((z8).2).1 ((z8).2).2)]
                  (fun z => pretty_spec.t2 q0 q0_len z.1 z.2.1))
                (fun z => pretty_spec.t4 z.1 z.2.1)) (
              .chk (((0 : Int) ≤ (IntKind.wrap IntKind.i64 (i1 + (1 : Int)))) ∧ ((IntKind.wrap IntKind.i64 (i1 + (1 : Int))) < ((q0_len : Nat) : Int))) <|
              .ptr q0 fun (z28 : Addr) =>
              .load (Addr.add z28 ((Int.toNat (IntKind.wrap IntKind.i64 (i1 + (1 : Int)))) * 1)) (.int .u8) fun (i29 : Int) =>
              .ite (i29 == (42 : Int)) (
                .eff (Instr.buildSlice 55 2 #[(0, (Value.int IntKind.u8 (32 : Int))), (1, (Value.int IntKind.u8 (32 : Int)))]) .slice fun (z30 : ((Option Addr) × (Nat × Nat))) =>
                .eff (Builtin.append_ (Call.argTypes (Call.mk (Callee.builtin Builtin.append) #[(Operand.tmp 79), (Operand.tmp 80)] #[55, 55])) 55 #[(Value.slice (z2).1 ((z2).2).1 ((z2).2).2), (Value.slice (z30).1 ((z30).2).1 ((z30).2).2)]) .slice fun (z31 : ((Option Addr) × (Nat × Nat))) =>
                .cut 4 (.cons .slice (.cons (.int .i64) .nil)) (
                  .loop 5 (.cons (.int .i64) (.cons .slice .nil)) [(Value.int IntKind.i64 (IntKind.wrap IntKind.i64 (i1 + (2 : Int)))), (Value.slice (z31).1 ((z31).2).1 ((z31).2).2)]
                    (fun z => pretty_spec.t5 q0 q0_len z.1 z.2.1))
                  (fun z => pretty_spec.t8 z.1 z.2.1)) (
                .leaf 3 [(Value.int IntKind.i64 i1), (Value.slice (z2).1 ((z2).2).1 ((z2).2).2)]))) (
            .leaf 3 [(Value.int IntKind.i64 i1), (Value.slice (z2).1 ((z2).2).1 ((z2).2).2)]))
          (fun z => pretty_spec.t9 z.1 z.2.1)) (
        .leaf 2 [(Value.int IntKind.i64 i1), (Value.slice (z2).1 ((z2).2).1 ((z2).2).2)]))
      (fun z => pretty_spec.t10 q0 q0_len z.1 z.2.1)) (
    .leaf 0 [(Value.slice (z2).1 ((z2).2).1 ((z2).2).2)])
def pretty_spec.t (q0 : (Option Addr)) (q0_len : Nat) (q0_cap : Nat) (q1 : (Option Addr)) (q1_len : Nat) (q1_cap : Nat) : T :=
  .chk (((0 : Int) ≤ (0 : Int)) ∧ (((0 : Int) ≤ (0 : Int)) ∧ ((0 : Int) ≤ ((q1_cap : Nat) : Int)))) <|
  .loop 1 (.cons (.int .i64) (.cons .slice .nil)) [(Value.int IntKind.i64 (0 : Int)), (Value.slice (if (q1_cap = 0) then q1 else (Option.map (fun (y0 : Addr) => (Addr.add y0 0)) q1)) 0 (q1_cap - 0))]
    (fun z => pretty_spec.t1 q0 q0_len z.1 z.2.1)
def pretty_spec.h : Hints := ⟨[(20, [(5, (.int .i64)), (1, .slice)]), (25, [(5, (.int .i64)), (1, .slice)])], [(2, [(1, .slice), (5, (.int .i64))]), (4, [(1, .slice), (5, (.int .i64))])], [(14, [(62, .bool)]), (22, [(103, .bool)]), (25, [(127, .bool)]), (39, [(195, .bool)])], [(3, [(5, (.int .i64)), (1, .slice)]), (10, [(5, (.int .i64)), (1, .slice)]), (20, [(5, (.int .i64)), (1, .slice)]), (31, [(5, (.int .i64)), (1, .slice)]), (37, [(6, (.int .i64))]), (41, [(7, (.int .i64))])]⟩
noncomputable def pretty_spec.c : Code := (Try.f36.body).getD .skip
theorem pretty_spec.e (q0 : (Option Addr)) (q0_len : Nat) (q0_cap : Nat) (q1 : (Option Addr)) (q1_len : Nat) (q1_cap : Nat) : fnT Try.prog pretty_spec.h Try.f36 pretty_spec.c [.v (Value.slice q0 q0_len q0_cap), .v (Value.slice q1 q1_len q1_cap)] = pretty_spec.t q0 q0_len q0_cap q1 q1_len q1_cap := by kernel_rfl
theorem pretty_spec.calls (q0 : (Option Addr)) (q0_len : Nat) (q0_cap : Nat) (q1 : (Option Addr)) (q1_len : Nat) (q1_cap : Nat) {w : World} {R : Ending → World → Prop} (hs : sat Try.prog (pretty_spec.t q0 q0_len q0_cap q1 q1_len q1_cap) (fun l vs w' => l = 0 ∧ R (.returned (retVal vs)) w') w) : Calls Try.prog 36 #[(Value.slice q0 q0_len q0_cap), (Value.slice q1 q1_len q1_cap)] w R :=
  have h := calls_of_tree (w := w) (R := R) (args := [.v (Value.slice q0 q0_len q0_cap), .v (Value.slice q1 q1_len q1_cap)]) (c := pretty_spec.c) Try.func36 (show Try.f36.body = some pretty_spec.c by kernel_rfl) (of_decide_eq_true (by kernel_rfl)) (pretty_spec.e q0 q0_len q0_cap q1 q1_len q1_cap) hs
  h

end Go.Proofs.Ytdjilnhalpmabaa.Tr
