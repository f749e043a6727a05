/- Trees of loaded functions, printed by wip/tools/rxprint (a program of this repo): each is what 'exec' comes to, held by the kernel. No statement of the set is proved here. -/
import Derived.Test.YtbmmpnjpejamaaaDoorRz
import Derived.Test.YtbmmpnjpejamaaaDoorProg
import Derived.KernelRfl
namespace Go.Proofs.YtbmmpnjpejamaaaDoor.Tr
open Go Go.Proofs Go.Proofs.YtbmmpnjpejamaaaDoor.Rx
set_option linter.unusedVariables false
set_option maxRecDepth 100000
/-! ### pub-tetrapla/laws.FnFjBuildBytes : function 3 -/
def laws_FnFjBuildBytes.t (s : ByteArray) : T :=
  .ite (decide ((((ByteArray.size s) : Nat) : Int) > (2147483647 : Int))) (
    .leaf 0 [(Value.bool Bool.true)]) (
    .ite (decide ((((ByteArray.size s) : Nat) : Int) > (1000 : Int))) (
      .leaf 0 [(Value.bool Bool.true)]) (
      .call 9 #[(Value.string s)] .str fun (s0 : ByteArray) =>
      .call 10 #[(Value.string s)] .str fun (s1 : ByteArray) =>
      .ite (strEq s0 s1) (
        .call 9 #[(Value.string s)] .str fun (s2 : ByteArray) =>
        .leaf 0 [(Value.bool (!(strEq s2 (ByteArray.mk #[]))))]) (
        .leaf 0 [(Value.bool Bool.false)])))
def laws_FnFjBuildBytes.h : Hints := ⟨[], [], [], []⟩
noncomputable def laws_FnFjBuildBytes.c : Code := (Tryd.f3.body).getD .skip
theorem laws_FnFjBuildBytes.e (s : ByteArray) : fnT Tryd.prog laws_FnFjBuildBytes.h Tryd.f3 laws_FnFjBuildBytes.c [.v (Value.string s)] = laws_FnFjBuildBytes.t s := by kernel_rfl
theorem laws_FnFjBuildBytes.calls (s : ByteArray) {w : World} {R : Ending → World → Prop} (hs : sat Tryd.prog (laws_FnFjBuildBytes.t s) (fun l vs w' => l = 0 ∧ R (.returned (retVal vs)) w') w) : Calls Tryd.prog 3 #[(Value.string s)] w R :=
  have h := calls_of_tree (w := w) (R := R) (args := [.v (Value.string s)]) (c := laws_FnFjBuildBytes.c) Tryd.func3 (show Tryd.f3.body = some laws_FnFjBuildBytes.c by kernel_rfl) (of_decide_eq_true (by kernel_rfl)) (laws_FnFjBuildBytes.e s) hs
  h

/-! ### pub-tetrapla/impl.FjBuildBytes : function 9 -/
def impl_FjBuildBytes.t (s : ByteArray) : T :=
  .alloc (Obj.cells #[(Value.slice none 0 0), (Value.slice none 0 0)] 53 (0, 0)) fun (z0 : Addr) =>
  .eff (convert 9 48 (Value.string s)) .slice fun (z1 : ((Option Addr) × (Nat × Nat))) =>
  .call 26 #[(Value.pointer (some z0)), (Value.slice (z1).1 ((z1).2).1 ((z1).2).2)] .ptr fun (p2 : (Option Addr)) =>
  .call 27 #[(Value.pointer p2), (Value.slice none 0 0)] .slice fun (z3 : ((Option Addr) × (Nat × Nat))) =>
  .eff (convert 48 9 (Value.slice (z3).1 ((z3).2).1 ((z3).2).2)) .str fun (s4 : ByteArray) =>
  .leaf 0 [(Value.string s4)]
def impl_FjBuildBytes.h : Hints := ⟨[], [], [], []⟩
noncomputable def impl_FjBuildBytes.c : Code := (Tryd.f9.body).getD .skip
theorem impl_FjBuildBytes.e (s : ByteArray) : fnT Tryd.prog impl_FjBuildBytes.h Tryd.f9 impl_FjBuildBytes.c [.v (Value.string s)] = impl_FjBuildBytes.t s := by kernel_rfl
theorem impl_FjBuildBytes.calls (s : ByteArray) {w : World} {R : Ending → World → Prop} (hs : sat Tryd.prog (impl_FjBuildBytes.t s) (fun l vs w' => l = 0 ∧ R (.returned (retVal vs)) w') w) : Calls Tryd.prog 9 #[(Value.string s)] w R :=
  have h := calls_of_tree (w := w) (R := R) (args := [.v (Value.string s)]) (c := impl_FjBuildBytes.c) Tryd.func9 (show Tryd.f9.body = some impl_FjBuildBytes.c by kernel_rfl) (of_decide_eq_true (by kernel_rfl)) (impl_FjBuildBytes.e s) hs
  h

/-! ### pub-tetrapla/impl.FjQuote : function 10 -/
def impl_FjQuote.t (s : ByteArray) : T :=
  .alloc (Obj.cells #[(Value.slice none 0 0), (Value.slice none 0 0)] 53 (0, 0)) fun (z0 : Addr) =>
  .call 28 #[(Value.pointer (some z0)), (Value.string s)] .ptr fun (p1 : (Option Addr)) =>
  .call 27 #[(Value.pointer p1), (Value.slice none 0 0)] .slice fun (z2 : ((Option Addr) × (Nat × Nat))) =>
  .eff (convert 48 9 (Value.slice (z2).1 ((z2).2).1 ((z2).2).2)) .str fun (s3 : ByteArray) =>
  .leaf 0 [(Value.string s3)]
def impl_FjQuote.h : Hints := ⟨[], [], [], []⟩
noncomputable def impl_FjQuote.c : Code := (Tryd.f10.body).getD .skip
theorem impl_FjQuote.e (s : ByteArray) : fnT Tryd.prog impl_FjQuote.h Tryd.f10 impl_FjQuote.c [.v (Value.string s)] = impl_FjQuote.t s := by kernel_rfl
theorem impl_FjQuote.calls (s : ByteArray) {w : World} {R : Ending → World → Prop} (hs : sat Tryd.prog (impl_FjQuote.t s) (fun l vs w' => l = 0 ∧ R (.returned (retVal vs)) w') w) : Calls Tryd.prog 10 #[(Value.string s)] w R :=
  have h := calls_of_tree (w := w) (R := R) (args := [.v (Value.string s)]) (c := impl_FjQuote.c) Tryd.func10 (show Tryd.f10.body = some impl_FjQuote.c by kernel_rfl) (of_decide_eq_true (by kernel_rfl)) (impl_FjQuote.e s) hs
  h

/-! ### (*pub-tetrapla/pub/fastjson.Arena).NewStringBytes : function 26 -/
def fastjson_Arena_NewStringBytes.t (a : (Option Addr)) (b : (Option Addr)) (b_len : Nat) (b_cap : Nat) : T :=
  .ptr a fun (z0 : Addr) =>
  .call 48 #[(Value.pointer (some (Addr.add z0 1)))] .ptr fun (p1 : (Option Addr)) =>
  .ptr p1 fun (z2 : Addr) =>
  .store (Addr.add z2 4) (Value.int IntKind.i64 (7 : Int)) <|
  .ptr a fun (z3 : Addr) =>
  .load (Addr.add z3 0) .slice fun (z4 : ((Option Addr) × (Nat × Nat))) =>
  .drew <|
  .ptr a fun (z5 : Addr) =>
  .load (Addr.add z5 0) .slice fun (z6 : ((Option Addr) × (Nat × Nat))) =>
  .here fun (z7 : World) =>
  .call 50 #[(Value.slice b b_len b_cap)] .str fun (s8 : ByteArray) =>
  .grew z7 <|
  .here fun (z9 : World) =>
  .call 49 #[(Value.slice (z6).1 ((z6).2).1 ((z6).2).2), (Value.string s8)] .slice fun (z10 : ((Option Addr) × (Nat × Nat))) =>
  .grew z9 <|
  .ptr a fun (z11 : Addr) =>
  .store (Addr.add z11 0) (Value.slice (z10).1 ((z10).2).1 ((z10).2).2) <|
  .drew <|
  .ptr a fun (z12 : Addr) =>
  .load (Addr.add z12 0) .slice fun (z13 : ((Option Addr) × (Nat × Nat))) =>
  .ptr a fun (z14 : Addr) =>
  .load (Addr.add z14 0) .slice fun (z15 : ((Option Addr) × (Nat × Nat))) =>
  .chk (((0 : Int) ≤ (IntKind.wrap IntKind.i64 (((((z4).2).1 : Nat) : Int) + (1 : Int)))) ∧ (((IntKind.wrap IntKind.i64 (((((z4).2).1 : Nat) : Int) + (1 : Int))) ≤ (IntKind.wrap IntKind.i64 (((((z15).2).1 : Nat) : Int) - (1 : Int)))) ∧ ((IntKind.wrap IntKind.i64 (((((z15).2).1 : Nat) : Int) - (1 : Int))) ≤ ((((z13).2).2 : Nat) : Int)))) <|
  .here fun (z16 : World) =>
  .call 50 #[(Value.slice (if (((z13).2).2 = (Int.toNat (IntKind.wrap IntKind.i64 (((((z4).2).1 : Nat) : Int) + (1 : Int))))) then (z13).1 else (Option.map (fun (y17 : Addr) => (Addr.add y17 ((Int.toNat (IntKind.wrap IntKind.i64 (((((z4).2).1 : Nat) : Int) + (1 : Int)))) * 1))) (z13).1)) ((Int.toNat (IntKind.wrap IntKind.i64 (((((z15).2).1 : Nat) : Int) - (1 : Int)))) - (Int.toNat (IntKind.wrap IntKind.i64 (((((z4).2).1 : Nat) : Int) + (1 : Int))))) (((z13).2).2 - (Int.toNat (IntKind.wrap IntKind.i64 (((((z4).2).1 : Nat) : Int) + (1 : Int))))))] .str fun (s18 : ByteArray) =>
  .grew z16 <|
  .ptr p1 fun (z19 : Addr) =>
  .store (Addr.add z19 3) (Value.string s18) <|
  .leaf 0 [(Value.pointer p1)]
def fastjson_Arena_NewStringBytes.h : Hints := ⟨[], [], [], []⟩
noncomputable def fastjson_Arena_NewStringBytes.c : Code := (Tryd.f26.body).getD .skip
theorem fastjson_Arena_NewStringBytes.e (a : (Option Addr)) (b : (Option Addr)) (b_len : Nat) (b_cap : Nat) : fnT Tryd.prog fastjson_Arena_NewStringBytes.h Tryd.f26 fastjson_Arena_NewStringBytes.c [.v (Value.pointer a), .v (Value.slice b b_len b_cap)] = fastjson_Arena_NewStringBytes.t a b b_len b_cap := by kernel_rfl
theorem fastjson_Arena_NewStringBytes.calls (a : (Option Addr)) (b : (Option Addr)) (b_len : Nat) (b_cap : Nat) {w : World} {R : Ending → World → Prop} (hs : sat Tryd.prog (fastjson_Arena_NewStringBytes.t a b b_len b_cap) (fun l vs w' => l = 0 ∧ R (.returned (retVal vs)) w') w) : Calls Tryd.prog 26 #[(Value.pointer a), (Value.slice b b_len b_cap)] w R :=
  have h := calls_of_tree (w := w) (R := R) (args := [.v (Value.pointer a), .v (Value.slice b b_len b_cap)]) (c := fastjson_Arena_NewStringBytes.c) Tryd.func26 (show Tryd.f26.body = some fastjson_Arena_NewStringBytes.c by kernel_rfl) (of_decide_eq_true (by kernel_rfl)) (fastjson_Arena_NewStringBytes.e a b b_len b_cap) hs
  h

/-! ### (*pub-tetrapla/pub/fastjson.Arena).NewString : function 28 -/
def fastjson_Arena_NewString.t (a : (Option Addr)) (s : ByteArray) : T :=
  .ptr a fun (z0 : Addr) =>
  .call 48 #[(Value.pointer (some (Addr.add z0 1)))] .ptr fun (p1 : (Option Addr)) =>
  .ptr p1 fun (z2 : Addr) =>
  .store (Addr.add z2 4) (Value.int IntKind.i64 (7 : Int)) <|
  .ptr a fun (z3 : Addr) =>
  .load (Addr.add z3 0) .slice fun (z4 : ((Option Addr) × (Nat × Nat))) =>
  .ptr a fun (z5 : Addr) =>
  .load (Addr.add z5 0) .slice fun (z6 : ((Option Addr) × (Nat × Nat))) =>
  .call 49 #[(Value.slice (z6).1 ((z6).2).1 ((z6).2).2), (Value.string s)] .slice fun (z7 : ((Option Addr) × (Nat × Nat))) =>
  .ptr a fun (z8 : Addr) =>
  .store (Addr.add z8 0) (Value.slice (z7).1 ((z7).2).1 ((z7).2).2) <|
  .drew <|
  .ptr a fun (z9 : Addr) =>
  .load (Addr.add z9 0) .slice fun (z10 : ((Option Addr) × (Nat × Nat))) =>
  .ptr a fun (z11 : Addr) =>
  .load (Addr.add z11 0) .slice fun (z12 : ((Option Addr) × (Nat × Nat))) =>
  .chk (((0 : Int) ≤ (IntKind.wrap IntKind.i64 (((((z4).2).1 : Nat) : Int) + (1 : Int)))) ∧ (((IntKind.wrap IntKind.i64 (((((z4).2).1 : Nat) : Int) + (1 : Int))) ≤ (IntKind.wrap IntKind.i64 (((((z12).2).1 : Nat) : Int) - (1 : Int)))) ∧ ((IntKind.wrap IntKind.i64 (((((z12).2).1 : Nat) : Int) - (1 : Int))) ≤ ((((z10).2).2 : Nat) : Int)))) <|
  .here fun (z13 : World) =>
  .call 50 #[(Value.slice (if (((z10).2).2 = (Int.toNat (IntKind.wrap IntKind.i64 (((((z4).2).1 : Nat) : Int) + (1 : Int))))) then (z10).1 else (Option.map (fun (y14 : Addr) => (Addr.add y14 ((Int.toNat (IntKind.wrap IntKind.i64 (((((z4).2).1 : Nat) : Int) + (1 : Int)))) * 1))) (z10).1)) ((Int.toNat (IntKind.wrap IntKind.i64 (((((z12).2).1 : Nat) : Int) - (1 : Int)))) - (Int.toNat (IntKind.wrap IntKind.i64 (((((z4).2).1 : Nat) : Int) + (1 : Int))))) (((z10).2).2 - (Int.toNat (IntKind.wrap IntKind.i64 (((((z4).2).1 : Nat) : Int) + (1 : Int))))))] .str fun (s15 : ByteArray) =>
  .grew z13 <|
  .ptr p1 fun (z16 : Addr) =>
  .store (Addr.add z16 3) (Value.string s15) <|
  .leaf 0 [(Value.pointer p1)]
def fastjson_Arena_NewString.h : Hints := ⟨[], [], [], []⟩
noncomputable def fastjson_Arena_NewString.c : Code := (Tryd.f28.body).getD .skip
theorem fastjson_Arena_NewString.e (a : (Option Addr)) (s : ByteArray) : fnT Tryd.prog fastjson_Arena_NewString.h Tryd.f28 fastjson_Arena_NewString.c [.v (Value.pointer a), .v (Value.string s)] = fastjson_Arena_NewString.t a s := by kernel_rfl
theorem fastjson_Arena_NewString.calls (a : (Option Addr)) (s : ByteArray) {w : World} {R : Ending → World → Prop} (hs : sat Tryd.prog (fastjson_Arena_NewString.t a s) (fun l vs w' => l = 0 ∧ R (.returned (retVal vs)) w') w) : Calls Tryd.prog 28 #[(Value.pointer a), (Value.string s)] w R :=
  have h := calls_of_tree (w := w) (R := R) (args := [.v (Value.pointer a), .v (Value.string s)]) (c := fastjson_Arena_NewString.c) Tryd.func28 (show Tryd.f28.body = some fastjson_Arena_NewString.c by kernel_rfl) (of_decide_eq_true (by kernel_rfl)) (fastjson_Arena_NewString.e a s) hs
  h

/-! ### pub-tetrapla/pub/fastjson.escapeString : function 49 -/
def fastjson_escapeString.t (dst : (Option Addr)) (dst_len : Nat) (dst_cap : Nat) (s : ByteArray) : T :=
  .call 68 #[(Value.string s)] .bool fun (b0 : Bool) =>
  .ite (!b0) (
    .eff (Instr.buildSlice 48 1 #[(0, (Value.int IntKind.u8 (34 : Int)))]) .slice fun (z1 : ((Option Addr) × (Nat × Nat))) =>
    .eff (Builtin.append_ (Call.argTypes (Call.mk (Callee.builtin Builtin.append) #[(Operand.tmp 8), (Operand.tmp 9)] #[48, 48])) 48 #[(Value.slice dst dst_len dst_cap), (Value.slice (z1).1 ((z1).2).1 ((z1).2).2)]) .slice fun (z2 : ((Option Addr) × (Nat × Nat))) =>
    .eff (Builtin.append_ (Call.argTypes (Call.mk (Callee.builtin Builtin.append) #[(Operand.tmp 11), (Operand.tmp 12)] #[48, 9])) 48 #[(Value.slice (z2).1 ((z2).2).1 ((z2).2).2), (Value.string s)]) .slice fun (z3 : ((Option Addr) × (Nat × Nat))) =>
    .eff (Instr.buildSlice 48 1 #[(0, (Value.int IntKind.u8 (34 : Int)))]) .slice fun (z4 : ((Option Addr) × (Nat × Nat))) =>
    .eff (Builtin.append_ (Call.argTypes (Call.mk (Callee.builtin Builtin.append) #[(Operand.tmp 14), (Operand.tmp 15)] #[48, 48])) 48 #[(Value.slice (z3).1 ((z3).2).1 ((z3).2).2), (Value.slice (z4).1 ((z4).2).1 ((z4).2).2)]) .slice fun (z5 : ((Option Addr) × (Nat × Nat))) =>
    .leaf 0 [(Value.slice (z5).1 ((z5).2).1 ((z5).2).2)]) (
    .call 69 #[(Value.slice dst dst_len dst_cap), (Value.string s)] .slice fun (z6 : ((Option Addr) × (Nat × Nat))) =>
    .leaf 0 [(Value.slice (z6).1 ((z6).2).1 ((z6).2).2)])
def fastjson_escapeString.h : Hints := ⟨[], [], [], []⟩
noncomputable def fastjson_escapeString.c : Code := (Tryd.f49.body).getD .skip
theorem fastjson_escapeString.e (dst : (Option Addr)) (dst_len : Nat) (dst_cap : Nat) (s : ByteArray) : fnT Tryd.prog fastjson_escapeString.h Tryd.f49 fastjson_escapeString.c [.v (Value.slice dst dst_len dst_cap), .v (Value.string s)] = fastjson_escapeString.t dst dst_len dst_cap s := by kernel_rfl
theorem fastjson_escapeString.calls (dst : (Option Addr)) (dst_len : Nat) (dst_cap : Nat) (s : ByteArray) {w : World} {R : Ending → World → Prop} (hs : sat Tryd.prog (fastjson_escapeString.t dst dst_len dst_cap s) (fun l vs w' => l = 0 ∧ R (.returned (retVal vs)) w') w) : Calls Tryd.prog 49 #[(Value.slice dst dst_len dst_cap), (Value.string s)] w R :=
  have h := calls_of_tree (w := w) (R := R) (args := [.v (Value.slice dst dst_len dst_cap), .v (Value.string s)]) (c := fastjson_escapeString.c) Tryd.func49 (show Tryd.f49.body = some fastjson_escapeString.c by kernel_rfl) (of_decide_eq_true (by kernel_rfl)) (fastjson_escapeString.e dst dst_len dst_cap s) hs
  h

/-! ### strconv.AppendQuote : function 69 -/
def strconv_AppendQuote.t (dst : (Option Addr)) (dst_len : Nat) (dst_cap : Nat) (s : ByteArray) : T :=
  .call 88 #[(Value.slice dst dst_len dst_cap), (Value.string s), (Value.int IntKind.u8 (34 : Int)), (Value.bool Bool.false), (Value.bool Bool.false)] .slice fun (z0 : ((Option Addr) × (Nat × Nat))) =>
  .leaf 0 [(Value.slice (z0).1 ((z0).2).1 ((z0).2).2)]
def strconv_AppendQuote.h : Hints := ⟨[], [], [], []⟩
noncomputable def strconv_AppendQuote.c : Code := (Tryd.f69.body).getD .skip
theorem strconv_AppendQuote.e (dst : (Option Addr)) (dst_len : Nat) (dst_cap : Nat) (s : ByteArray) : fnT Tryd.prog strconv_AppendQuote.h Tryd.f69 strconv_AppendQuote.c [.v (Value.slice dst dst_len dst_cap), .v (Value.string s)] = strconv_AppendQuote.t dst dst_len dst_cap s := by kernel_rfl
theorem strconv_AppendQuote.calls (dst : (Option Addr)) (dst_len : Nat) (dst_cap : Nat) (s : ByteArray) {w : World} {R : Ending → World → Prop} (hs : sat Tryd.prog (strconv_AppendQuote.t dst dst_len dst_cap s) (fun l vs w' => l = 0 ∧ R (.returned (retVal vs)) w') w) : Calls Tryd.prog 69 #[(Value.slice dst dst_len dst_cap), (Value.string s)] w R :=
  have h := calls_of_tree (w := w) (R := R) (args := [.v (Value.slice dst dst_len dst_cap), .v (Value.string s)]) (c := strconv_AppendQuote.c) Tryd.func69 (show Tryd.f69.body = some strconv_AppendQuote.c by kernel_rfl) (of_decide_eq_true (by kernel_rfl)) (strconv_AppendQuote.e dst dst_len dst_cap s) hs
  h

/-! ### strconv.appendQuotedWith : function 88 -/
def strconv_appendQuotedWith.t3 (q2 : Int) (q3 : Bool) (q4 : Bool) (s5 : ByteArray) (z6 : ((Option Addr) × (Nat × Nat))) (z7 : (Int × (Int × PUnit))) (b8 : Bool) : T :=
  .ite b8 (
    .eff (Builtin.append_ (Call.argTypes (Call.mk (Callee.builtin Builtin.append) #[(Operand.tmp 57), (Operand.const (Value.string (ByteArray.mk #[(92 : UInt8), (120 : UInt8)])))] #[48, 9])) 48 #[(Value.slice (z6).1 ((z6).2).1 ((z6).2).2), (Value.string (ByteArray.mk #[(92 : UInt8), (120 : UInt8)]))]) .slice fun (z9 : ((Option Addr) × (Nat × Nat))) =>
    .chk (((0 : Int) ≤ (0 : Int)) ∧ ((0 : Int) < (((ByteArray.size s5) : Nat) : Int))) <|
    .chk ((0 : Int) ≤ (4 : Int)) <|
    .chk (((0 : Int) ≤ (Int.fdiv (bt s5 (0 : Int)) (16 : Int))) ∧ ((Int.fdiv (bt s5 (0 : Int)) (16 : Int)) < (16 : Int))) <|
    .eff (Instr.buildSlice 48 1 #[(0, (Value.int IntKind.u8 (bt (ByteArray.mk #[(48 : UInt8), (49 : UInt8), (50 : UInt8), (51 : UInt8), (52 : UInt8), (53 : UInt8), (54 : UInt8), (55 : UInt8), (56 : UInt8), (57 : UInt8), (97 : UInt8), (98 : UInt8), (99 : UInt8), (100 : UInt8), (101 : UInt8), (102 : UInt8)]) (Int.fdiv (bt s5 (0 : Int)) (16 : Int)))))]) .slice fun (z10 : ((Option Addr) × (Nat × Nat))) =>
    .eff (Builtin.append_ (Call.argTypes (Call.mk (Callee.builtin Builtin.append) #[(Operand.tmp 59), (Operand.tmp 64)] #[48, 48])) 48 #[(Value.slice (z9).1 ((z9).2).1 ((z9).2).2), (Value.slice (z10).1 ((z10).2).1 ((z10).2).2)]) .slice fun (z11 : ((Option Addr) × (Nat × Nat))) =>
    .chk (((0 : Int) ≤ (0 : Int)) ∧ ((0 : Int) < (((ByteArray.size s5) : Nat) : Int))) <|
    .chk (((0 : Int) ≤ (IntKind.wrap IntKind.u8 (((BitVec.toNat ((BitVec.ofInt 8 (bt s5 (0 : Int))) &&& (BitVec.ofInt 8 (15 : Int)))) : Nat) : Int))) ∧ ((IntKind.wrap IntKind.u8 (((BitVec.toNat ((BitVec.ofInt 8 (bt s5 (0 : Int))) &&& (BitVec.ofInt 8 (15 : Int)))) : Nat) : Int)) < (16 : Int))) <|
    .eff (Instr.buildSlice 48 1 #[(0, (Value.int IntKind.u8 (bt (ByteArray.mk #[(48 : UInt8), (49 : UInt8), (50 : UInt8), (51 : UInt8), (52 : UInt8), (53 : UInt8), (54 : UInt8), (55 : UInt8), (56 : UInt8), (57 : UInt8), (97 : UInt8), (98 : UInt8), (99 : UInt8), (100 : UInt8), (101 : UInt8), (102 : UInt8)]) (IntKind.wrap IntKind.u8 (((BitVec.toNat ((BitVec.ofInt 8 (bt s5 (0 : Int))) &&& (BitVec.ofInt 8 (15 : Int)))) : Nat) : Int)))))]) .slice fun (z12 : ((Option Addr) × (Nat × Nat))) =>
    .eff (Builtin.append_ (Call.argTypes (Call.mk (Callee.builtin Builtin.append) #[(Operand.tmp 66), (Operand.tmp 71)] #[48, 48])) 48 #[(Value.slice (z11).1 ((z11).2).1 ((z11).2).2), (Value.slice (z12).1 ((z12).2).1 ((z12).2).2)]) .slice fun (z13 : ((Option Addr) × (Nat × Nat))) =>
    .chk (((0 : Int) ≤ ((z7).2).1) ∧ ((((z7).2).1 ≤ (((ByteArray.size s5) : Nat) : Int)) ∧ ((((ByteArray.size s5) : Nat) : Int) ≤ (((ByteArray.size s5) : Nat) : Int)))) <|
    .leaf 1 [(Value.string (ByteArray.extract s5 (Int.toNat ((z7).2).1) (Int.toNat (((ByteArray.size s5) : Nat) : Int)))), (Value.slice (z13).1 ((z13).2).1 ((z13).2).2)]) (
    .call 99 #[(Value.slice (z6).1 ((z6).2).1 ((z6).2).2), (Value.int IntKind.i32 (z7).1), (Value.int IntKind.u8 q2), (Value.bool q3), (Value.bool q4)] .slice fun (z14 : ((Option Addr) × (Nat × Nat))) =>
    .chk (((0 : Int) ≤ ((z7).2).1) ∧ ((((z7).2).1 ≤ (((ByteArray.size s5) : Nat) : Int)) ∧ ((((ByteArray.size s5) : Nat) : Int) ≤ (((ByteArray.size s5) : Nat) : Int)))) <|
    .leaf 1 [(Value.string (ByteArray.extract s5 (Int.toNat ((z7).2).1) (Int.toNat (((ByteArray.size s5) : Nat) : Int)))), (Value.slice (z14).1 ((z14).2).1 ((z14).2).2)])
def strconv_appendQuotedWith.t2 (q2 : Int) (q3 : Bool) (q4 : Bool) (s5 : ByteArray) (z6 : ((Option Addr) × (Nat × Nat))) : T :=
  .ite (decide ((((ByteArray.size s5) : Nat) : Int) > (0 : Int))) (
    .call 65 #[(Value.string s5)] (.tuple (.cons (.int .i32) (.cons (.int .i64) .nil))) fun (z7 : (Int × (Int × PUnit))) =>
    .cut 2 (.cons .bool .nil) (
      .ite (((z7).2).1 == (1 : Int)) (
        .leaf 2 [(Value.bool ((z7).1 == (65533 : Int)))]) (
        .leaf 2 [(Value.bool Bool.false)]))
      (fun z => strconv_appendQuotedWith.t3 q2 q3 q4 s5 z6 z7 z.1)) (
    .eff (Instr.buildSlice 48 1 #[(0, (Value.int IntKind.u8 q2))]) .slice fun (z15 : ((Option Addr) × (Nat × Nat))) =>
    .eff (Builtin.append_ (Call.argTypes (Call.mk (Callee.builtin Builtin.append) #[(Operand.tmp 79), (Operand.tmp 81)] #[48, 48])) 48 #[(Value.slice (z6).1 ((z6).2).1 ((z6).2).2), (Value.slice (z15).1 ((z15).2).1 ((z15).2).2)]) .slice fun (z16 : ((Option Addr) × (Nat × Nat))) =>
    .leaf 0 [(Value.slice (z16).1 ((z16).2).1 ((z16).2).2)])
def strconv_appendQuotedWith.t1 (q1 : ByteArray) (q2 : Int) (q3 : Bool) (q4 : Bool) (z2 : ((Option Addr) × (Nat × Nat))) : T :=
  .eff (Instr.buildSlice 48 1 #[(0, (Value.int IntKind.u8 q2))]) .slice fun (z3 : ((Option Addr) × (Nat × Nat))) =>
  .eff (Builtin.append_ (Call.argTypes (Call.mk (Callee.builtin Builtin.append) #[(Operand.tmp 36), (Operand.tmp 38)] #[48, 48])) 48 #[(Value.slice (z2).1 ((z2).2).1 ((z2).2).2), (Value.slice (z3).1 ((z3).2).1 ((z3).2).2)]) .slice fun (z4 : ((Option Addr) × (Nat × Nat))) =>
  .loop 1 (.cons .str (.cons .slice .nil)) [(Value.string q1), (Value.slice (z4).1 ((z4).2).1 ((z4).2).2)]
    (fun z => strconv_appendQuotedWith.t2 q2 q3 q4 z.1 z.2.1)
def strconv_appendQuotedWith.t (q0 : (Option Addr)) (q0_len : Nat) (q0_cap : Nat) (q1 : ByteArray) (q2 : Int) (q3 : Bool) (q4 : Bool) : T :=
  .cut 1 (.cons .slice .nil) (
    .ite (decide ((IntKind.wrap IntKind.i64 (((q0_cap : Nat) : Int) - ((q0_len : Nat) : Int))) < (((ByteArray.size q1) : Nat) : Int))) (
      .eff (Instr.makeSlice 48 (Value.int IntKind.i64 ((q0_len : Nat) : Int)) (Value.int IntKind.i64 (IntKind.wrap IntKind.i64 ((IntKind.wrap IntKind.i64 ((IntKind.wrap IntKind.i64 (((q0_len : Nat) : Int) + (1 : Int))) + (((ByteArray.size q1) : Nat) : Int))) + (1 : Int))))) .slice fun (z0 : ((Option Addr) × (Nat × Nat))) =>
      .eff (Builtin.copy_ (Call.argTypes (Call.mk (Callee.builtin Builtin.copy) #[(Operand.tmp 32), (Operand.tmp 33)] #[48, 48])) 3 #[(Value.slice (z0).1 ((z0).2).1 ((z0).2).2), (Value.slice q0 q0_len q0_cap)]) (.int .i64) fun (i1 : Int) =>
      .leaf 1 [(Value.slice (z0).1 ((z0).2).1 ((z0).2).2)]) (
      .leaf 1 [(Value.slice q0 q0_len q0_cap)]))
    (fun z => strconv_appendQuotedWith.t1 q1 q2 q3 q4 z.1)
def strconv_appendQuotedWith.h : Hints := ⟨[(21, [(0, .slice)])], [], [(10, [(56, .bool)])], [(7, [(1, .str), (0, .slice)])]⟩
noncomputable def strconv_appendQuotedWith.c : Code := (Tryd.f88.body).getD .skip
theorem strconv_appendQuotedWith.e (q0 : (Option Addr)) (q0_len : Nat) (q0_cap : Nat) (q1 : ByteArray) (q2 : Int) (q3 : Bool) (q4 : Bool) : fnT Tryd.prog strconv_appendQuotedWith.h Tryd.f88 strconv_appendQuotedWith.c [.v (Value.slice q0 q0_len q0_cap), .v (Value.string q1), .v (Value.int IntKind.u8 q2), .v (Value.bool q3), .v (Value.bool q4)] = strconv_appendQuotedWith.t q0 q0_len q0_cap q1 q2 q3 q4 := by kernel_rfl
theorem strconv_appendQuotedWith.calls (q0 : (Option Addr)) (q0_len : Nat) (q0_cap : Nat) (q1 : ByteArray) (q2 : Int) (q3 : Bool) (q4 : Bool) {w : World} {R : Ending → World → Prop} (hs : sat Tryd.prog (strconv_appendQuotedWith.t q0 q0_len q0_cap q1 q2 q3 q4) (fun l vs w' => l = 0 ∧ R (.returned (retVal vs)) w') w) : Calls Tryd.prog 88 #[(Value.slice q0 q0_len q0_cap), (Value.string q1), (Value.int IntKind.u8 q2), (Value.bool q3), (Value.bool q4)] w R :=
  have h := calls_of_tree (w := w) (R := R) (args := [.v (Value.slice q0 q0_len q0_cap), .v (Value.string q1), .v (Value.int IntKind.u8 q2), .v (Value.bool q3), .v (Value.bool q4)]) (c := strconv_appendQuotedWith.c) Tryd.func88 (show Tryd.f88.body = some strconv_appendQuotedWith.c by kernel_rfl) (of_decide_eq_true (by kernel_rfl)) (strconv_appendQuotedWith.e q0 q0_len q0_cap q1 q2 q3 q4) hs
  h

end Go.Proofs.YtbmmpnjpejamaaaDoor.Tr
