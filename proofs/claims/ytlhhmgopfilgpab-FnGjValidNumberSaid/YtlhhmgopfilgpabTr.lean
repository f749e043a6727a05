/- Trees of loaded functions, printed by wip/tools/rxprint (a program of this repo): each is what 'exec' comes to, held by the kernel. No statement of the set is proved here. -/
import Derived.Test.YtlhhmgopfilgpabRz
import Derived.Test.YtlhhmgopfilgpabProg
import Derived.KernelRfl
namespace Go.Proofs.Ytlhhmgopfilgpab.Tr
open Go Go.Proofs Go.Proofs.Ytlhhmgopfilgpab.Rx
set_option linter.unusedVariables false
set_option maxRecDepth 100000
/-! ### pub-tetrapla/laws.FnGjValidNumber : function 3 -/
def laws_FnGjValidNumber.t2 (s : ByteArray) (i0 : Int) (b1 : Bool) : T :=
  .ite b1 (
    .ite b1 (
      .leaf 1 [(Value.int IntKind.i64 (IntKind.wrap IntKind.i64 (i0 + (1 : Int))))]) (
      .leaf 0 [(Value.bool Bool.true)])) (
    .ite ((bt s i0) == (45 : Int)) (
      .ite ((bt s i0) == (45 : Int)) (
        .leaf 1 [(Value.int IntKind.i64 (IntKind.wrap IntKind.i64 (i0 + (1 : Int))))]) (
        .leaf 0 [(Value.bool Bool.true)])) (
      .ite ((bt s i0) == (43 : Int)) (
        .ite ((bt s i0) == (43 : Int)) (
          .leaf 1 [(Value.int IntKind.i64 (IntKind.wrap IntKind.i64 (i0 + (1 : Int))))]) (
          .leaf 0 [(Value.bool Bool.true)])) (
        .ite ((bt s i0) == (46 : Int)) (
          .ite ((bt s i0) == (46 : Int)) (
            .leaf 1 [(Value.int IntKind.i64 (IntKind.wrap IntKind.i64 (i0 + (1 : Int))))]) (
            .leaf 0 [(Value.bool Bool.true)])) (
          .ite ((bt s i0) == (101 : Int)) (
            .ite ((bt s i0) == (101 : Int)) (
              .leaf 1 [(Value.int IntKind.i64 (IntKind.wrap IntKind.i64 (i0 + (1 : Int))))]) (
              .leaf 0 [(Value.bool Bool.true)])) (
            .ite ((bt s i0) == (69 : Int)) (
              .leaf 1 [(Value.int IntKind.i64 (IntKind.wrap IntKind.i64 (i0 + (1 : Int))))]) (
              .leaf 0 [(Value.bool Bool.true)]))))))
def laws_FnGjValidNumber.t1 (s : ByteArray) (i0 : Int) : T :=
  .ite (decide (i0 < (((ByteArray.size s) : Nat) : Int))) (
    .chk (((0 : Int) ≤ i0) ∧ (i0 < (((ByteArray.size s) : Nat) : Int))) <|
    .cut 2 (.cons .bool .nil) (
      .ite (decide ((48 : Int) ≤ (bt s i0))) (
        .leaf 2 [(Value.bool (decide ((bt s i0) ≤ (57 : Int))))]) (
        .leaf 2 [(Value.bool Bool.false)]))
      (fun z => laws_FnGjValidNumber.t2 s i0 z.1)) (
    .ite (decide ((((ByteArray.size s) : Nat) : Int) > (4096 : Int))) (
      .leaf 0 [(Value.bool Bool.true)]) (
      .ite (strEq s (ByteArray.mk #[])) (
        .leaf 0 [(Value.bool Bool.true)]) (
        .call 4 #[(Value.string s)] .bool fun (b2 : Bool) =>
        .call 5 #[(Value.string s)] .bool fun (b3 : Bool) =>
        .ite (b2 == b3) (
          .chk ((1 + (ByteArray.size s)) ≤ 9223372036854775807) <|
          .chk (((ByteArray.size ((ByteArray.mk #[(91 : UInt8)]) ++ s)) + 1) ≤ 9223372036854775807) <|
          .call 4 #[(Value.string (((ByteArray.mk #[(91 : UInt8)]) ++ s) ++ (ByteArray.mk #[(93 : UInt8)])))] .bool fun (b4 : Bool) =>
          .call 5 #[(Value.string s)] .bool fun (b5 : Bool) =>
          .leaf 0 [(Value.bool (b4 == b5))]) (
          .leaf 0 [(Value.bool Bool.false)]))))
def laws_FnGjValidNumber.t (s : ByteArray) : T :=
  .ite (decide ((((ByteArray.size s) : Nat) : Int) > (2147483647 : Int))) (
    .leaf 0 [(Value.bool Bool.true)]) (
    .loop 1 (.cons (.int .i64) .nil) [(Value.int IntKind.i64 (0 : Int))]
      (fun z => laws_FnGjValidNumber.t1 s z.1))
def laws_FnGjValidNumber.h : Hints := ⟨[], [], [(8, [(17, .bool)])], [(4, [(3, (.int .i64))])]⟩
noncomputable def laws_FnGjValidNumber.c : Code := (Try.f3.body).getD .skip
theorem laws_FnGjValidNumber.e (s : ByteArray) : fnT Try.prog laws_FnGjValidNumber.h Try.f3 laws_FnGjValidNumber.c [.v (Value.string s)] = laws_FnGjValidNumber.t s := by kernel_rfl
theorem laws_FnGjValidNumber.calls (s : ByteArray) {w : World} {R : Ending → World → Prop} (hs : sat Try.prog (laws_FnGjValidNumber.t s) (fun l vs w' => l = 0 ∧ R (.returned (retVal vs)) w') w) : Calls Try.prog 3 #[(Value.string s)] w R :=
  have h := calls_of_tree (w := w) (R := R) (args := [.v (Value.string s)]) (c := laws_FnGjValidNumber.c) Try.func3 (show Try.f3.body = some laws_FnGjValidNumber.c by kernel_rfl) (of_decide_eq_true (by kernel_rfl)) (laws_FnGjValidNumber.e s) hs
  h

/-! ### pub-tetrapla/impl.GjValid : function 4 -/
def impl_GjValid.t (text : ByteArray) : T :=
  .call 6 #[(Value.string text)] .bool fun (b0 : Bool) =>
  .leaf 0 [(Value.bool b0)]
def impl_GjValid.h : Hints := ⟨[], [], [], []⟩
noncomputable def impl_GjValid.c : Code := (Try.f4.body).getD .skip
theorem impl_GjValid.e (text : ByteArray) : fnT Try.prog impl_GjValid.h Try.f4 impl_GjValid.c [.v (Value.string text)] = impl_GjValid.t text := by kernel_rfl
theorem impl_GjValid.calls (text : ByteArray) {w : World} {R : Ending → World → Prop} (hs : sat Try.prog (impl_GjValid.t text) (fun l vs w' => l = 0 ∧ R (.returned (retVal vs)) w') w) : Calls Try.prog 4 #[(Value.string text)] w R :=
  have h := calls_of_tree (w := w) (R := R) (args := [.v (Value.string text)]) (c := impl_GjValid.c) Try.func4 (show Try.f4.body = some impl_GjValid.c by kernel_rfl) (of_decide_eq_true (by kernel_rfl)) (impl_GjValid.e text) hs
  h

/-! ### pub-tetrapla/spec.IsNumber : function 5 -/
def spec_IsNumber.t (s : ByteArray) : T :=
  .alloc (Obj.cells #[(Value.string (ByteArray.mk #[])), (Value.int IntKind.i64 (0 : Int))] 24 (0, 0)) fun (z0 : Addr) =>
  .effU (Instr.storeAt 24 (Value.pointer (some z0)) (Value.agg #[(Value.string s), (Value.int IntKind.i64 (0 : Int))])) <|
  .call 7 #[(Value.pointer (some z0))] .bool fun (b1 : Bool) =>
  .ite b1 (
    .load (Addr.add z0 1) (.int .i64) fun (i2 : Int) =>
    .leaf 0 [(Value.bool (i2 == (((ByteArray.size s) : Nat) : Int)))]) (
    .leaf 0 [(Value.bool Bool.false)])
def spec_IsNumber.h : Hints := ⟨[], [], [], []⟩
noncomputable def spec_IsNumber.c : Code := (Try.f5.body).getD .skip
theorem spec_IsNumber.e (s : ByteArray) : fnT Try.prog spec_IsNumber.h Try.f5 spec_IsNumber.c [.v (Value.string s)] = spec_IsNumber.t s := by kernel_rfl
theorem spec_IsNumber.calls (s : ByteArray) {w : World} {R : Ending → World → Prop} (hs : sat Try.prog (spec_IsNumber.t s) (fun l vs w' => l = 0 ∧ R (.returned (retVal vs)) w') w) : Calls Try.prog 5 #[(Value.string s)] w R :=
  have h := calls_of_tree (w := w) (R := R) (args := [.v (Value.string s)]) (c := spec_IsNumber.c) Try.func5 (show Try.f5.body = some spec_IsNumber.c by kernel_rfl) (of_decide_eq_true (by kernel_rfl)) (spec_IsNumber.e s) hs
  h

/-! ### pub-tetrapla/pub/gjson.Valid : function 6 -/
def gjson_Valid.t (json : ByteArray) : T :=
  .call 9 #[(Value.string json)] .slice fun (z0 : ((Option Addr) × (Nat × Nat))) =>
  .call 8 #[(Value.slice (z0).1 ((z0).2).1 ((z0).2).2), (Value.int IntKind.i64 (0 : Int))] (.tuple (.cons (.int .i64) (.cons .bool .nil))) fun (z1 : (Int × (Bool × PUnit))) =>
  .leaf 0 [(Value.bool ((z1).2).1)]
def gjson_Valid.h : Hints := ⟨[], [], [], []⟩
noncomputable def gjson_Valid.c : Code := (Try.f6.body).getD .skip
theorem gjson_Valid.e (json : ByteArray) : fnT Try.prog gjson_Valid.h Try.f6 gjson_Valid.c [.v (Value.string json)] = gjson_Valid.t json := by kernel_rfl
theorem gjson_Valid.calls (json : ByteArray) {w : World} {R : Ending → World → Prop} (hs : sat Try.prog (gjson_Valid.t json) (fun l vs w' => l = 0 ∧ R (.returned (retVal vs)) w') w) : Calls Try.prog 6 #[(Value.string json)] w R :=
  have h := calls_of_tree (w := w) (R := R) (args := [.v (Value.string json)]) (c := gjson_Valid.c) Try.func6 (show Try.f6.body = some gjson_Valid.c by kernel_rfl) (of_decide_eq_true (by kernel_rfl)) (gjson_Valid.e json) hs
  h

/-! ### (*pub-tetrapla/spec.reader).number : function 7 -/
def spec_reader_number.t2 (r : (Option Addr)) (b6 : Bool) : T :=
  .ite b6 (
    .leaf 0 [(Value.bool Bool.false)]) (
    .call 10 #[(Value.pointer r), (Value.int IntKind.u8 (101 : Int))] .bool fun (b7 : Bool) =>
    .ite b7 (
      .call 10 #[(Value.pointer r), (Value.int IntKind.u8 (43 : Int))] .bool fun (b8 : Bool) =>
      .ite (!b8) (
        .call 10 #[(Value.pointer r), (Value.int IntKind.u8 (45 : Int))] .bool fun (b9 : Bool) =>
        .call 11 #[(Value.pointer r)] .bool fun (b10 : Bool) =>
        .leaf 0 [(Value.bool b10)]) (
        .call 11 #[(Value.pointer r)] .bool fun (b11 : Bool) =>
        .leaf 0 [(Value.bool b11)])) (
      .call 10 #[(Value.pointer r), (Value.int IntKind.u8 (69 : Int))] .bool fun (b12 : Bool) =>
      .ite b12 (
        .call 10 #[(Value.pointer r), (Value.int IntKind.u8 (43 : Int))] .bool fun (b13 : Bool) =>
        .ite (!b13) (
          .call 10 #[(Value.pointer r), (Value.int IntKind.u8 (45 : Int))] .bool fun (b14 : Bool) =>
          .call 11 #[(Value.pointer r)] .bool fun (b15 : Bool) =>
          .leaf 0 [(Value.bool b15)]) (
          .call 11 #[(Value.pointer r)] .bool fun (b16 : Bool) =>
          .leaf 0 [(Value.bool b16)])) (
        .leaf 0 [(Value.bool Bool.true)])))
def spec_reader_number.t1 (r : (Option Addr)) (b3 : Bool) : T :=
  .ite b3 (
    .leaf 0 [(Value.bool Bool.false)]) (
    .cut 1 (.cons .bool .nil) (
      .call 10 #[(Value.pointer r), (Value.int IntKind.u8 (46 : Int))] .bool fun (b4 : Bool) =>
      .ite b4 (
        .call 11 #[(Value.pointer r)] .bool fun (b5 : Bool) =>
        .leaf 1 [(Value.bool (!b5))]) (
        .leaf 1 [(Value.bool Bool.false)]))
      (fun z => spec_reader_number.t2 r z.1))
def spec_reader_number.t (r : (Option Addr)) : T :=
  .call 10 #[(Value.pointer r), (Value.int IntKind.u8 (45 : Int))] .bool fun (b0 : Bool) =>
  .cut 1 (.cons .bool .nil) (
    .call 10 #[(Value.pointer r), (Value.int IntKind.u8 (48 : Int))] .bool fun (b1 : Bool) =>
    .ite (!b1) (
      .call 11 #[(Value.pointer r)] .bool fun (b2 : Bool) =>
      .leaf 1 [(Value.bool (!b2))]) (
      .leaf 1 [(Value.bool Bool.false)]))
    (fun z => spec_reader_number.t1 r z.1)
def spec_reader_number.h : Hints := ⟨[], [], [(2, [(12, .bool)]), (4, [(19, .bool)])], []⟩
noncomputable def spec_reader_number.c : Code := (Try.f7.body).getD .skip
theorem spec_reader_number.e (r : (Option Addr)) : fnT Try.prog spec_reader_number.h Try.f7 spec_reader_number.c [.v (Value.pointer r)] = spec_reader_number.t r := by kernel_rfl
theorem spec_reader_number.calls (r : (Option Addr)) {w : World} {R : Ending → World → Prop} (hs : sat Try.prog (spec_reader_number.t r) (fun l vs w' => l = 0 ∧ R (.returned (retVal vs)) w') w) : Calls Try.prog 7 #[(Value.pointer r)] w R :=
  have h := calls_of_tree (w := w) (R := R) (args := [.v (Value.pointer r)]) (c := spec_reader_number.c) Try.func7 (show Try.f7.body = some spec_reader_number.c by kernel_rfl) (of_decide_eq_true (by kernel_rfl)) (spec_reader_number.e r) hs
  h

/-! ### pub-tetrapla/pub/gjson.validpayload : function 8 -/
def gjson_validpayload.t2 (b3 : Bool) : T :=
  .leaf 3 [(Value.bool b3)]
def gjson_validpayload.t3 (b4 : Bool) : T :=
  .leaf 2 [(Value.bool b4)]
def gjson_validpayload.t5 (data : (Option Addr)) (data_len : Nat) (i7 : Int) : T :=
  .ite (decide (i7 < ((data_len : Nat) : Int))) (
    .chk (((0 : Int) ≤ i7) ∧ (i7 < ((data_len : Nat) : Int))) <|
    .ptr data fun (z8 : Addr) =>
    .load (Addr.add z8 ((Int.toNat i7) * 1)) (.int .u8) fun (i9 : Int) =>
    .ite (i9 == (32 : Int)) (
      .ite (i9 == (32 : Int)) (
        .leaf 3 [(Value.int IntKind.i64 (IntKind.wrap IntKind.i64 (i7 + (1 : Int))))]) (
        .leaf 0 [(Value.int IntKind.i64 i7), (Value.bool Bool.false)])) (
      .ite (i9 == (9 : Int)) (
        .ite (i9 == (9 : Int)) (
          .leaf 3 [(Value.int IntKind.i64 (IntKind.wrap IntKind.i64 (i7 + (1 : Int))))]) (
          .leaf 0 [(Value.int IntKind.i64 i7), (Value.bool Bool.false)])) (
        .ite (i9 == (10 : Int)) (
          .ite (i9 == (10 : Int)) (
            .leaf 3 [(Value.int IntKind.i64 (IntKind.wrap IntKind.i64 (i7 + (1 : Int))))]) (
            .leaf 0 [(Value.int IntKind.i64 i7), (Value.bool Bool.false)])) (
          .ite (i9 == (13 : Int)) (
            .leaf 3 [(Value.int IntKind.i64 (IntKind.wrap IntKind.i64 (i7 + (1 : Int))))]) (
            .leaf 0 [(Value.int IntKind.i64 i7), (Value.bool Bool.false)]))))) (
    .leaf 0 [(Value.int IntKind.i64 i7), (Value.bool Bool.true)])
def gjson_validpayload.t6 : T :=
  .fail 1
def gjson_validpayload.t4 (data : (Option Addr)) (data_len : Nat) (data_cap : Nat) (i0 : Int) (b5 : Bool) : T :=
  .cut 2 (.cons .bool .nil) (
    .ite b5 (
      .leaf 1 [(Value.int IntKind.i64 (IntKind.wrap IntKind.i64 (i0 + (1 : Int))))]) (
      .call 12 #[(Value.slice data data_len data_cap), (Value.int IntKind.i64 i0)] (.tuple (.cons (.int .i64) (.cons .bool .nil))) fun (z6 : (Int × (Bool × PUnit))) =>
      .ite (!((z6).2).1) (
        .leaf 0 [(Value.int IntKind.i64 (z6).1), (Value.bool Bool.false)]) (
        .loop 3 (.cons (.int .i64) .nil) [(Value.int IntKind.i64 (z6).1)]
          (fun z => gjson_validpayload.t5 data data_len z.1))))
    (fun z => gjson_validpayload.t6)
def gjson_validpayload.t1 (data : (Option Addr)) (data_len : Nat) (data_cap : Nat) (i0 : Int) : T :=
  .ite (decide (i0 < ((data_len : Nat) : Int))) (
    .chk (((0 : Int) ≤ i0) ∧ (i0 < ((data_len : Nat) : Int))) <|
    .ptr data fun (z1 : Addr) =>
    .load (Addr.add z1 ((Int.toNat i0) * 1)) (.int .u8) fun (i2 : Int) =>
    .cut 2 (.cons .bool .nil) (
      .ite (i2 == (32 : Int)) (
        .leaf 2 [(Value.bool (i2 == (32 : Int)))]) (
        .cut 3 (.cons .bool .nil) (
          .ite (i2 == (9 : Int)) (
            .leaf 3 [(Value.bool (i2 == (9 : Int)))]) (
            .cut 4 (.cons .bool .nil) (
              .ite (i2 == (10 : Int)) (
                .leaf 4 [(Value.bool (i2 == (10 : Int)))]) (
                .leaf 4 [(Value.bool (i2 == (13 : Int)))]))
              (fun z => gjson_validpayload.t2 z.1)))
          (fun z => gjson_validpayload.t3 z.1)))
      (fun z => gjson_validpayload.t4 data data_len data_cap i0 z.1)) (
    .leaf 0 [(Value.int IntKind.i64 i0), (Value.bool Bool.false)])
def gjson_validpayload.t (data : (Option Addr)) (data_len : Nat) (data_cap : Nat) (i : Int) : T :=
  .loop 1 (.cons (.int .i64) .nil) [(Value.int IntKind.i64 i)]
    (fun z => gjson_validpayload.t1 data data_len data_cap z.1)
def gjson_validpayload.h : Hints := ⟨[(42, [(42, .bool)]), (42, [(42, .bool)]), (42, [(42, .bool)])], [], [], [(1, [(1, (.int .i64))]), (7, [(1, (.int .i64))])]⟩
noncomputable def gjson_validpayload.c : Code := (Try.f8.body).getD .skip
theorem gjson_validpayload.e (data : (Option Addr)) (data_len : Nat) (data_cap : Nat) (i : Int) : fnT Try.prog gjson_validpayload.h Try.f8 gjson_validpayload.c [.v (Value.slice data data_len data_cap), .v (Value.int IntKind.i64 i)] = gjson_validpayload.t data data_len data_cap i := by kernel_rfl
theorem gjson_validpayload.calls (data : (Option Addr)) (data_len : Nat) (data_cap : Nat) (i : Int) {w : World} {R : Ending → World → Prop} (hs : sat Try.prog (gjson_validpayload.t data data_len data_cap i) (fun l vs w' => l = 0 ∧ R (.returned (retVal vs)) w') w) : Calls Try.prog 8 #[(Value.slice data data_len data_cap), (Value.int IntKind.i64 i)] w R :=
  have h := calls_of_tree (w := w) (R := R) (args := [.v (Value.slice data data_len data_cap), .v (Value.int IntKind.i64 i)]) (c := gjson_validpayload.c) Try.func8 (show Try.f8.body = some gjson_validpayload.c by kernel_rfl) (of_decide_eq_true (by kernel_rfl)) (gjson_validpayload.e data data_len data_cap i) hs
  h

/-! ### pub-tetrapla/pub/gjson.stringBytes : function 9 -/
def gjson_stringBytes.t (s : ByteArray) : T :=
  .eff (convert 9 28 (Value.string s)) .slice fun (z0 : ((Option Addr) × (Nat × Nat))) =>
  .leaf 0 [(Value.slice (z0).1 ((z0).2).1 ((z0).2).2)]
def gjson_stringBytes.h : Hints := ⟨[], [], [], []⟩
noncomputable def gjson_stringBytes.c : Code := (Try.f9.body).getD .skip
theorem gjson_stringBytes.e (s : ByteArray) : fnT Try.prog gjson_stringBytes.h Try.f9 gjson_stringBytes.c [.v (Value.string s)] = gjson_stringBytes.t s := by kernel_rfl
theorem gjson_stringBytes.calls (s : ByteArray) {w : World} {R : Ending → World → Prop} (hs : sat Try.prog (gjson_stringBytes.t s) (fun l vs w' => l = 0 ∧ R (.returned (retVal vs)) w') w) : Calls Try.prog 9 #[(Value.string s)] w R :=
  have h := calls_of_tree (w := w) (R := R) (args := [.v (Value.string s)]) (c := gjson_stringBytes.c) Try.func9 (show Try.f9.body = some gjson_stringBytes.c by kernel_rfl) (of_decide_eq_true (by kernel_rfl)) (gjson_stringBytes.e s) hs
  h

/-! ### (*pub-tetrapla/spec.reader).take : function 10 -/
def spec_reader_take.t (r : (Option Addr)) (c1 : Int) : T :=
  .drew <|
  .ptr r fun (z0 : Addr) =>
  .load (Addr.add z0 1) (.int .i64) fun (i1 : Int) =>
  .ptr r fun (z2 : Addr) =>
  .load (Addr.add z2 0) .str fun (s3 : ByteArray) =>
  .ite (decide (i1 < (((ByteArray.size s3) : Nat) : Int))) (
    .ptr r fun (z4 : Addr) =>
    .load (Addr.add z4 0) .str fun (s5 : ByteArray) =>
    .ptr r fun (z6 : Addr) =>
    .load (Addr.add z6 1) (.int .i64) fun (i7 : Int) =>
    .chk (((0 : Int) ≤ i7) ∧ (i7 < (((ByteArray.size s5) : Nat) : Int))) <|
    .ite ((bt s5 i7) == c1) (
      .ptr r fun (z8 : Addr) =>
      .load (Addr.add z8 1) (.int .i64) fun (i9 : Int) =>
      .ptr r fun (z10 : Addr) =>
      .store (Addr.add z10 1) (Value.int IntKind.i64 (IntKind.wrap IntKind.i64 (i9 + (1 : Int)))) <|
      .leaf 0 [(Value.bool Bool.true)]) (
      .leaf 0 [(Value.bool Bool.false)])) (
    .leaf 0 [(Value.bool Bool.false)])
def spec_reader_take.h : Hints := ⟨[], [], [], []⟩
noncomputable def spec_reader_take.c : Code := (Try.f10.body).getD .skip
theorem spec_reader_take.e (r : (Option Addr)) (c1 : Int) : fnT Try.prog spec_reader_take.h Try.f10 spec_reader_take.c [.v (Value.pointer r), .v (Value.int IntKind.u8 c1)] = spec_reader_take.t r c1 := by kernel_rfl
theorem spec_reader_take.calls (r : (Option Addr)) (c1 : Int) {w : World} {R : Ending → World → Prop} (hs : sat Try.prog (spec_reader_take.t r c1) (fun l vs w' => l = 0 ∧ R (.returned (retVal vs)) w') w) : Calls Try.prog 10 #[(Value.pointer r), (Value.int IntKind.u8 c1)] w R :=
  have h := calls_of_tree (w := w) (R := R) (args := [.v (Value.pointer r), .v (Value.int IntKind.u8 c1)]) (c := spec_reader_take.c) Try.func10 (show Try.f10.body = some spec_reader_take.c by kernel_rfl) (of_decide_eq_true (by kernel_rfl)) (spec_reader_take.e r c1) hs
  h

/-! ### (*pub-tetrapla/spec.reader).digits : function 11 -/
def spec_reader_digits.t1 (r : (Option Addr)) (i1 : Int) (i3 : Int) : T :=
  .ite (decide ((48 : Int) ≤ i3)) (
    .ite (decide (i3 ≤ (57 : Int))) (
      .ptr r fun (z4 : Addr) =>
      .load (Addr.add z4 1) (.int .i64) fun (i5 : Int) =>
      .ptr r fun (z6 : Addr) =>
      .store (Addr.add z6 1) (Value.int IntKind.i64 (IntKind.wrap IntKind.i64 (i5 + (1 : Int)))) <|
      .call 13 #[(Value.pointer r)] (.int .u8) fun (i7 : Int) =>
      .leaf 1 [(Value.int IntKind.u8 i7)]) (
      .ptr r fun (z8 : Addr) =>
      .load (Addr.add z8 1) (.int .i64) fun (i9 : Int) =>
      .leaf 0 [(Value.bool (decide (i9 > i1)))])) (
    .ptr r fun (z10 : Addr) =>
    .load (Addr.add z10 1) (.int .i64) fun (i11 : Int) =>
    .leaf 0 [(Value.bool (decide (i11 > i1)))])
def spec_reader_digits.t (r : (Option Addr)) : T :=
  .ptr r fun (z0 : Addr) =>
  .load (Addr.add z0 1) (.int .i64) fun (i1 : Int) =>
  .call 13 #[(Value.pointer r)] (.int .u8) fun (i2 : Int) =>
  .loop 1 (.cons (.int .u8) .nil) [(Value.int IntKind.u8 i2)]
    (fun z => spec_reader_digits.t1 r i1 z.1)
def spec_reader_digits.h : Hints := ⟨[], [], [], [(3, [(4, (.int .u8))])]⟩
noncomputable def spec_reader_digits.c : Code := (Try.f11.body).getD .skip
theorem spec_reader_digits.e (r : (Option Addr)) : fnT Try.prog spec_reader_digits.h Try.f11 spec_reader_digits.c [.v (Value.pointer r)] = spec_reader_digits.t r := by kernel_rfl
theorem spec_reader_digits.calls (r : (Option Addr)) {w : World} {R : Ending → World → Prop} (hs : sat Try.prog (spec_reader_digits.t r) (fun l vs w' => l = 0 ∧ R (.returned (retVal vs)) w') w) : Calls Try.prog 11 #[(Value.pointer r)] w R :=
  have h := calls_of_tree (w := w) (R := R) (args := [.v (Value.pointer r)]) (c := spec_reader_digits.c) Try.func11 (show Try.f11.body = some spec_reader_digits.c by kernel_rfl) (of_decide_eq_true (by kernel_rfl)) (spec_reader_digits.e r) hs
  h

/-! ### pub-tetrapla/pub/gjson.validany : function 12 -/
def gjson_validany.t2 (b3 : Bool) : T :=
  .leaf 3 [(Value.bool b3)]
def gjson_validany.t3 (b4 : Bool) : T :=
  .leaf 2 [(Value.bool b4)]
def gjson_validany.t5 (b9 : Bool) : T :=
  .leaf 11 [(Value.bool b9)]
def gjson_validany.t6 (b10 : Bool) : T :=
  .leaf 10 [(Value.bool b10)]
def gjson_validany.t7 (b11 : Bool) : T :=
  .leaf 9 [(Value.bool b11)]
def gjson_validany.t8 (b12 : Bool) : T :=
  .leaf 8 [(Value.bool b12)]
def gjson_validany.t9 (b13 : Bool) : T :=
  .leaf 7 [(Value.bool b13)]
def gjson_validany.t10 (b14 : Bool) : T :=
  .leaf 6 [(Value.bool b14)]
def gjson_validany.t11 (b15 : Bool) : T :=
  .leaf 5 [(Value.bool b15)]
def gjson_validany.t12 (b16 : Bool) : T :=
  .leaf 4 [(Value.bool b16)]
def gjson_validany.t13 (b17 : Bool) : T :=
  .leaf 3 [(Value.bool b17)]
def gjson_validany.t15 (b5 : Bool) : T :=
  .leaf 2 [(Value.bool b5)]
def gjson_validany.t14 (q0 : (Option Addr)) (q0_len : Nat) (q0_cap : Nat) (i0 : Int) (i2 : Int) (b5 : Bool) (b18 : Bool) : T :=
  .cut 3 (.cons .bool .nil) (
    .ite b18 (
      .call 17 #[(Value.slice q0 q0_len q0_cap), (Value.int IntKind.i64 (IntKind.wrap IntKind.i64 (i0 + (1 : Int))))] (.tuple (.cons (.int .i64) (.cons .bool .nil))) fun (z19 : (Int × (Bool × PUnit))) =>
      .leaf 0 [(Value.int IntKind.i64 (z19).1), (Value.bool ((z19).2).1)]) (
      .ite (i2 == (116 : Int)) (
        .call 18 #[(Value.slice q0 q0_len q0_cap), (Value.int IntKind.i64 (IntKind.wrap IntKind.i64 (i0 + (1 : Int))))] (.tuple (.cons (.int .i64) (.cons .bool .nil))) fun (z20 : (Int × (Bool × PUnit))) =>
        .leaf 0 [(Value.int IntKind.i64 (z20).1), (Value.bool ((z20).2).1)]) (
        .ite (i2 == (102 : Int)) (
          .call 19 #[(Value.slice q0 q0_len q0_cap), (Value.int IntKind.i64 (IntKind.wrap IntKind.i64 (i0 + (1 : Int))))] (.tuple (.cons (.int .i64) (.cons .bool .nil))) fun (z21 : (Int × (Bool × PUnit))) =>
          .leaf 0 [(Value.int IntKind.i64 (z21).1), (Value.bool ((z21).2).1)]) (
          .ite (i2 == (110 : Int)) (
            .call 20 #[(Value.slice q0 q0_len q0_cap), (Value.int IntKind.i64 (IntKind.wrap IntKind.i64 (i0 + (1 : Int))))] (.tuple (.cons (.int .i64) (.cons .bool .nil))) fun (z22 : (Int × (Bool × PUnit))) =>
            .leaf 0 [(Value.int IntKind.i64 (z22).1), (Value.bool ((z22).2).1)]) (
            .leaf 0 [(Value.int IntKind.i64 i0), (Value.bool Bool.false)])))))
    (fun z => gjson_validany.t15 b5)
def gjson_validany.t16 (i0 : Int) : T :=
  .leaf 1 [(Value.int IntKind.i64 (IntKind.wrap IntKind.i64 (i0 + (1 : Int))))]
def gjson_validany.t4 (q0 : (Option Addr)) (q0_len : Nat) (q0_cap : Nat) (i0 : Int) (i2 : Int) (b5 : Bool) : T :=
  .cut 2 (.cons .bool .nil) (
    .ite b5 (
      .leaf 1 [(Value.int IntKind.i64 (IntKind.wrap IntKind.i64 (i0 + (1 : Int))))]) (
      .ite (i2 == (123 : Int)) (
        .call 14 #[(Value.slice q0 q0_len q0_cap), (Value.int IntKind.i64 (IntKind.wrap IntKind.i64 (i0 + (1 : Int))))] (.tuple (.cons (.int .i64) (.cons .bool .nil))) fun (z6 : (Int × (Bool × PUnit))) =>
        .leaf 0 [(Value.int IntKind.i64 (z6).1), (Value.bool ((z6).2).1)]) (
        .ite (i2 == (91 : Int)) (
          .call 15 #[(Value.slice q0 q0_len q0_cap), (Value.int IntKind.i64 (IntKind.wrap IntKind.i64 (i0 + (1 : Int))))] (.tuple (.cons (.int .i64) (.cons .bool .nil))) fun (z7 : (Int × (Bool × PUnit))) =>
          .leaf 0 [(Value.int IntKind.i64 (z7).1), (Value.bool ((z7).2).1)]) (
          .ite (i2 == (34 : Int)) (
            .call 16 #[(Value.slice q0 q0_len q0_cap), (Value.int IntKind.i64 (IntKind.wrap IntKind.i64 (i0 + (1 : Int))))] (.tuple (.cons (.int .i64) (.cons .bool .nil))) fun (z8 : (Int × (Bool × PUnit))) =>
            .leaf 0 [(Value.int IntKind.i64 (z8).1), (Value.bool ((z8).2).1)]) (
            .cut 3 (.cons .bool .nil) (
              .ite (i2 == (45 : Int)) (
                .leaf 3 [(Value.bool (i2 == (45 : Int)))]) (
                .cut 4 (.cons .bool .nil) (
                  .ite (i2 == (48 : Int)) (
                    .leaf 4 [(Value.bool (i2 == (48 : Int)))]) (
                    .cut 5 (.cons .bool .nil) (
                      .ite (i2 == (49 : Int)) (
                        .leaf 5 [(Value.bool (i2 == (49 : Int)))]) (
                        .cut 6 (.cons .bool .nil) (
                          .ite (i2 == (50 : Int)) (
                            .leaf 6 [(Value.bool (i2 == (50 : Int)))]) (
                            .cut 7 (.cons .bool .nil) (
                              .ite (i2 == (51 : Int)) (
                                .leaf 7 [(Value.bool (i2 == (51 : Int)))]) (
                                .cut 8 (.cons .bool .nil) (
                                  .ite (i2 == (52 : Int)) (
                                    .leaf 8 [(Value.bool (i2 == (52 : Int)))]) (
                                    .cut 9 (.cons .bool .nil) (
                                      .ite (i2 == (53 : Int)) (
                                        .leaf 9 [(Value.bool (i2 == (53 : Int)))]) (
                                        .cut 10 (.cons .bool .nil) (
                                          .ite (i2 == (54 : Int)) (
                                            .leaf 10 [(Value.bool (i2 == (54 : Int)))]) (
                                            .cut 11 (.cons .bool .nil) (
                                              .ite (i2 == (55 : Int)) (
                                                .leaf 11 [(Value.bool (i2 == (55 : Int)))]) (
                                                .cut 12 (.cons .bool .nil) (
                                                  .ite (i2 == (56 : Int)) (
                                                    .leaf 12 [(Value.bool (i2 == (56 : Int)))]) (
                                                    .leaf 12 [(Value.bool (i2 == (57 : Int)))]))
                                                  (fun z => gjson_validany.t5 z.1)))
                                              (fun z => gjson_validany.t6 z.1)))
                                          (fun z => gjson_validany.t7 z.1)))
                                      (fun z => gjson_validany.t8 z.1)))
                                  (fun z => gjson_validany.t9 z.1)))
                              (fun z => gjson_validany.t10 z.1)))
                          (fun z => gjson_validany.t11 z.1)))
                      (fun z => gjson_validany.t12 z.1)))
                  (fun z => gjson_validany.t13 z.1)))
              (fun z => gjson_validany.t14 q0 q0_len q0_cap i0 i2 b5 z.1))))))
    (fun z => gjson_validany.t16 i0)
def gjson_validany.t1 (q0 : (Option Addr)) (q0_len : Nat) (q0_cap : Nat) (i0 : Int) : T :=
  .ite (decide (i0 < ((q0_len : Nat) : Int))) (
    .chk (((0 : Int) ≤ i0) ∧ (i0 < ((q0_len : Nat) : Int))) <|
    .ptr q0 fun (z1 : Addr) =>
    .load (Addr.add z1 ((Int.toNat i0) * 1)) (.int .u8) fun (i2 : Int) =>
    .cut 2 (.cons .bool .nil) (
      .ite (i2 == (32 : Int)) (
        .leaf 2 [(Value.bool (i2 == (32 : Int)))]) (
        .cut 3 (.cons .bool .nil) (
          .ite (i2 == (9 : Int)) (
            .leaf 3 [(Value.bool (i2 == (9 : Int)))]) (
            .cut 4 (.cons .bool .nil) (
              .ite (i2 == (10 : Int)) (
                .leaf 4 [(Value.bool (i2 == (10 : Int)))]) (
                .leaf 4 [(Value.bool (i2 == (13 : Int)))]))
              (fun z => gjson_validany.t2 z.1)))
          (fun z => gjson_validany.t3 z.1)))
      (fun z => gjson_validany.t4 q0 q0_len q0_cap i0 i2 z.1)) (
    .leaf 0 [(Value.int IntKind.i64 i0), (Value.bool Bool.false)])
def gjson_validany.t (q0 : (Option Addr)) (q0_len : Nat) (q0_cap : Nat) (q1 : Int) : T :=
  .loop 1 (.cons (.int .i64) .nil) [(Value.int IntKind.i64 q1)]
    (fun z => gjson_validany.t1 q0 q0_len q0_cap z.1)
def gjson_validany.h : Hints := ⟨[(17, [(17, .bool)]), (17, [(17, .bool)]), (17, [(17, .bool)]), (46, [(46, .bool)]), (46, [(46, .bool)]), (46, [(46, .bool)]), (46, [(46, .bool)]), (46, [(46, .bool)]), (46, [(46, .bool)]), (46, [(46, .bool)]), (46, [(46, .bool)]), (46, [(46, .bool)]), (46, [(46, .bool)])], [], [], [(1, [(1, (.int .i64))])]⟩
noncomputable def gjson_validany.c : Code := (Try.f12.body).getD .skip
theorem gjson_validany.e (q0 : (Option Addr)) (q0_len : Nat) (q0_cap : Nat) (q1 : Int) : fnT Try.prog gjson_validany.h Try.f12 gjson_validany.c [.v (Value.slice q0 q0_len q0_cap), .v (Value.int IntKind.i64 q1)] = gjson_validany.t q0 q0_len q0_cap q1 := by kernel_rfl
theorem gjson_validany.calls (q0 : (Option Addr)) (q0_len : Nat) (q0_cap : Nat) (q1 : Int) {w : World} {R : Ending → World → Prop} (hs : sat Try.prog (gjson_validany.t q0 q0_len q0_cap q1) (fun l vs w' => l = 0 ∧ R (.returned (retVal vs)) w') w) : Calls Try.prog 12 #[(Value.slice q0 q0_len q0_cap), (Value.int IntKind.i64 q1)] w R :=
  have h := calls_of_tree (w := w) (R := R) (args := [.v (Value.slice q0 q0_len q0_cap), .v (Value.int IntKind.i64 q1)]) (c := gjson_validany.c) Try.func12 (show Try.f12.body = some gjson_validany.c by kernel_rfl) (of_decide_eq_true (by kernel_rfl)) (gjson_validany.e q0 q0_len q0_cap q1) hs
  h

/-! ### (*pub-tetrapla/spec.reader).here : function 13 -/
def spec_reader_here.t (r : (Option Addr)) : T :=
  .drew <|
  .ptr r fun (z0 : Addr) =>
  .load (Addr.add z0 1) (.int .i64) fun (i1 : Int) =>
  .ptr r fun (z2 : Addr) =>
  .load (Addr.add z2 0) .str fun (s3 : ByteArray) =>
  .ite (decide (i1 < (((ByteArray.size s3) : Nat) : Int))) (
    .drew <|
    .ptr r fun (z4 : Addr) =>
    .load (Addr.add z4 0) .str fun (s5 : ByteArray) =>
    .ptr r fun (z6 : Addr) =>
    .load (Addr.add z6 1) (.int .i64) fun (i7 : Int) =>
    .chk (((0 : Int) ≤ i7) ∧ (i7 < (((ByteArray.size s5) : Nat) : Int))) <|
    .leaf 0 [(Value.int IntKind.u8 (bt s5 i7))]) (
    .leaf 0 [(Value.int IntKind.u8 (0 : Int))])
def spec_reader_here.h : Hints := ⟨[], [], [], []⟩
noncomputable def spec_reader_here.c : Code := (Try.f13.body).getD .skip
theorem spec_reader_here.e (r : (Option Addr)) : fnT Try.prog spec_reader_here.h Try.f13 spec_reader_here.c [.v (Value.pointer r)] = spec_reader_here.t r := by kernel_rfl
theorem spec_reader_here.calls (r : (Option Addr)) {w : World} {R : Ending → World → Prop} (hs : sat Try.prog (spec_reader_here.t r) (fun l vs w' => l = 0 ∧ R (.returned (retVal vs)) w') w) : Calls Try.prog 13 #[(Value.pointer r)] w R :=
  have h := calls_of_tree (w := w) (R := R) (args := [.v (Value.pointer r)]) (c := spec_reader_here.c) Try.func13 (show Try.f13.body = some spec_reader_here.c by kernel_rfl) (of_decide_eq_true (by kernel_rfl)) (spec_reader_here.e r) hs
  h

/-! ### pub-tetrapla/pub/gjson.validarray : function 15 -/
def gjson_validarray.t2 (b3 : Bool) : T :=
  .leaf 3 [(Value.bool b3)]
def gjson_validarray.t3 (b4 : Bool) : T :=
  .leaf 2 [(Value.bool b4)]
def gjson_validarray.t5 (data : (Option Addr)) (data_len : Nat) (data_cap : Nat) (b5 : Bool) (i6 : Int) : T :=
  .ite (decide (i6 < ((data_len : Nat) : Int))) (
    .call 12 #[(Value.slice data data_len data_cap), (Value.int IntKind.i64 i6)] (.tuple (.cons (.int .i64) (.cons .bool .nil))) fun (z7 : (Int × (Bool × PUnit))) =>
    .ite (!((z7).2).1) (
      .leaf 0 [(Value.int IntKind.i64 (z7).1), (Value.bool Bool.false)]) (
      .call 22 #[(Value.slice data data_len data_cap), (Value.int IntKind.i64 (z7).1), (Value.int IntKind.u8 (93 : Int))] (.tuple (.cons (.int .i64) (.cons .bool .nil))) fun (z8 : (Int × (Bool × PUnit))) =>
      .ite (!((z8).2).1) (
        .leaf 0 [(Value.int IntKind.i64 (z8).1), (Value.bool Bool.false)]) (
        .chk (((0 : Int) ≤ (z8).1) ∧ ((z8).1 < ((data_len : Nat) : Int))) <|
        .ptr data fun (z9 : Addr) =>
        .load (Addr.add z9 ((Int.toNat (z8).1) * 1)) (.int .u8) fun (i10 : Int) =>
        .ite (i10 == (93 : Int)) (
          .leaf 0 [(Value.int IntKind.i64 (IntKind.wrap IntKind.i64 ((z8).1 + (1 : Int)))), (Value.bool Bool.true)]) (
          .leaf 3 [(Value.int IntKind.i64 (IntKind.wrap IntKind.i64 ((z8).1 + (1 : Int))))])))) (
    .leaf 2 [(Value.bool b5)])
def gjson_validarray.t6 : T :=
  .fail 1
def gjson_validarray.t4 (data : (Option Addr)) (data_len : Nat) (data_cap : Nat) (i0 : Int) (i2 : Int) (b5 : Bool) : T :=
  .cut 2 (.cons .bool .nil) (
    .ite b5 (
      .leaf 1 [(Value.int IntKind.i64 (IntKind.wrap IntKind.i64 (i0 + (1 : Int))))]) (
      .ite (i2 == (93 : Int)) (
        .leaf 0 [(Value.int IntKind.i64 (IntKind.wrap IntKind.i64 (i0 + (1 : Int)))), (Value.bool Bool.true)]) (
        .loop 3 (.cons (.int .i64) .nil) [(Value.int IntKind.i64 i0)]
          (fun z => gjson_validarray.t5 data data_len data_cap b5 z.1))))
    (fun z => gjson_validarray.t6)
def gjson_validarray.t1 (data : (Option Addr)) (data_len : Nat) (data_cap : Nat) (i0 : Int) : T :=
  .ite (decide (i0 < ((data_len : Nat) : Int))) (
    .chk (((0 : Int) ≤ i0) ∧ (i0 < ((data_len : Nat) : Int))) <|
    .ptr data fun (z1 : Addr) =>
    .load (Addr.add z1 ((Int.toNat i0) * 1)) (.int .u8) fun (i2 : Int) =>
    .cut 2 (.cons .bool .nil) (
      .ite (i2 == (32 : Int)) (
        .leaf 2 [(Value.bool (i2 == (32 : Int)))]) (
        .cut 3 (.cons .bool .nil) (
          .ite (i2 == (9 : Int)) (
            .leaf 3 [(Value.bool (i2 == (9 : Int)))]) (
            .cut 4 (.cons .bool .nil) (
              .ite (i2 == (10 : Int)) (
                .leaf 4 [(Value.bool (i2 == (10 : Int)))]) (
                .leaf 4 [(Value.bool (i2 == (13 : Int)))]))
              (fun z => gjson_validarray.t2 z.1)))
          (fun z => gjson_validarray.t3 z.1)))
      (fun z => gjson_validarray.t4 data data_len data_cap i0 i2 z.1)) (
    .leaf 0 [(Value.int IntKind.i64 i0), (Value.bool Bool.false)])
def gjson_validarray.t (data : (Option Addr)) (data_len : Nat) (data_cap : Nat) (i : Int) : T :=
  .loop 1 (.cons (.int .i64) .nil) [(Value.int IntKind.i64 i)]
    (fun z => gjson_validarray.t1 data data_len data_cap z.1)
def gjson_validarray.h : Hints := ⟨[(47, [(47, .bool)]), (47, [(47, .bool)]), (47, [(47, .bool)])], [], [], [(1, [(1, (.int .i64))]), (4, [(1, (.int .i64))])]⟩
noncomputable def gjson_validarray.c : Code := (Try.f15.body).getD .skip
theorem gjson_validarray.e (data : (Option Addr)) (data_len : Nat) (data_cap : Nat) (i : Int) : fnT Try.prog gjson_validarray.h Try.f15 gjson_validarray.c [.v (Value.slice data data_len data_cap), .v (Value.int IntKind.i64 i)] = gjson_validarray.t data data_len data_cap i := by kernel_rfl
theorem gjson_validarray.calls (data : (Option Addr)) (data_len : Nat) (data_cap : Nat) (i : Int) {w : World} {R : Ending → World → Prop} (hs : sat Try.prog (gjson_validarray.t data data_len data_cap i) (fun l vs w' => l = 0 ∧ R (.returned (retVal vs)) w') w) : Calls Try.prog 15 #[(Value.slice data data_len data_cap), (Value.int IntKind.i64 i)] w R :=
  have h := calls_of_tree (w := w) (R := R) (args := [.v (Value.slice data data_len data_cap), .v (Value.int IntKind.i64 i)]) (c := gjson_validarray.c) Try.func15 (show Try.f15.body = some gjson_validarray.c by kernel_rfl) (of_decide_eq_true (by kernel_rfl)) (gjson_validarray.e data data_len data_cap i) hs
  h

/-! ### pub-tetrapla/pub/gjson.validnumber : function 17 -/
def gjson_validnumber.t1 (q1 : Int) (b6 : Bool) : T :=
  .ite b6 (
    .leaf 0 [(Value.int IntKind.i64 (IntKind.wrap IntKind.i64 ((IntKind.wrap IntKind.i64 (q1 - (1 : Int))) + (1 : Int)))), (Value.bool Bool.false)]) (
    .leaf 1 [(Value.int IntKind.i64 (IntKind.wrap IntKind.i64 ((IntKind.wrap IntKind.i64 (q1 - (1 : Int))) + (1 : Int))))])
def gjson_validnumber.t3 (q0 : (Option Addr)) (q0_len : Nat) (i10 : Int) : T :=
  .ite (decide (i10 < ((q0_len : Nat) : Int))) (
    .chk (((0 : Int) ≤ i10) ∧ (i10 < ((q0_len : Nat) : Int))) <|
    .ptr q0 fun (z11 : Addr) =>
    .load (Addr.add z11 ((Int.toNat i10) * 1)) (.int .u8) fun (i12 : Int) =>
    .ite (decide (i12 ≥ (48 : Int))) (
      .chk (((0 : Int) ≤ i10) ∧ (i10 < ((q0_len : Nat) : Int))) <|
      .ptr q0 fun (z13 : Addr) =>
      .load (Addr.add z13 ((Int.toNat i10) * 1)) (.int .u8) fun (i14 : Int) =>
      .ite (decide (i14 ≤ (57 : Int))) (
        .leaf 3 [(Value.int IntKind.i64 (IntKind.wrap IntKind.i64 (i10 + (1 : Int))))]) (
        .leaf 2 [(Value.int IntKind.i64 i10)])) (
      .leaf 2 [(Value.int IntKind.i64 i10)])) (
    .leaf 2 [(Value.int IntKind.i64 i10)])
def gjson_validnumber.t4 (i15 : Int) : T :=
  .leaf 1 [(Value.int IntKind.i64 i15)]
def gjson_validnumber.t7 (q0 : (Option Addr)) (q0_len : Nat) (i24 : Int) : T :=
  .ite (decide (i24 < ((q0_len : Nat) : Int))) (
    .chk (((0 : Int) ≤ i24) ∧ (i24 < ((q0_len : Nat) : Int))) <|
    .ptr q0 fun (z25 : Addr) =>
    .load (Addr.add z25 ((Int.toNat i24) * 1)) (.int .u8) fun (i26 : Int) =>
    .ite (decide (i26 ≥ (48 : Int))) (
      .chk (((0 : Int) ≤ i24) ∧ (i24 < ((q0_len : Nat) : Int))) <|
      .ptr q0 fun (z27 : Addr) =>
      .load (Addr.add z27 ((Int.toNat i24) * 1)) (.int .u8) fun (i28 : Int) =>
      .ite (decide (i28 ≤ (57 : Int))) (
        .leaf 3 [(Value.int IntKind.i64 (IntKind.wrap IntKind.i64 (i24 + (1 : Int))))]) (
        .leaf 2 [(Value.int IntKind.i64 i24)])) (
      .leaf 2 [(Value.int IntKind.i64 i24)])) (
    .leaf 2 [(Value.int IntKind.i64 i24)])
def gjson_validnumber.t8 (i29 : Int) : T :=
  .leaf 1 [(Value.int IntKind.i64 i29)]
def gjson_validnumber.t6 (q0 : (Option Addr)) (q0_len : Nat) (i16 : Int) (b23 : Bool) : T :=
  .ite b23 (
    .leaf 0 [(Value.int IntKind.i64 (IntKind.wrap IntKind.i64 (i16 + (1 : Int)))), (Value.bool Bool.false)]) (
    .cut 2 (.cons (.int .i64) .nil) (
      .loop 3 (.cons (.int .i64) .nil) [(Value.int IntKind.i64 (IntKind.wrap IntKind.i64 ((IntKind.wrap IntKind.i64 (i16 + (1 : Int))) + (1 : Int))))]
        (fun z => gjson_validnumber.t7 q0 q0_len z.1))
      (fun z => gjson_validnumber.t8 z.1))
def gjson_validnumber.t14 (q0 : (Option Addr)) (q0_len : Nat) (i47 : Int) : T :=
  .ite (decide (i47 < ((q0_len : Nat) : Int))) (
    .chk (((0 : Int) ≤ i47) ∧ (i47 < ((q0_len : Nat) : Int))) <|
    .ptr q0 fun (z48 : Addr) =>
    .load (Addr.add z48 ((Int.toNat i47) * 1)) (.int .u8) fun (i49 : Int) =>
    .ite (decide (i49 ≥ (48 : Int))) (
      .chk (((0 : Int) ≤ i47) ∧ (i47 < ((q0_len : Nat) : Int))) <|
      .ptr q0 fun (z50 : Addr) =>
      .load (Addr.add z50 ((Int.toNat i47) * 1)) (.int .u8) fun (i51 : Int) =>
      .ite (decide (i51 ≤ (57 : Int))) (
        .leaf 1 [(Value.int IntKind.i64 (IntKind.wrap IntKind.i64 (i47 + (1 : Int))))]) (
        .leaf 0 [(Value.int IntKind.i64 i47), (Value.bool Bool.true)])) (
      .leaf 0 [(Value.int IntKind.i64 i47), (Value.bool Bool.true)])) (
    .leaf 0 [(Value.int IntKind.i64 i47), (Value.bool Bool.true)])
def gjson_validnumber.t13 (q0 : (Option Addr)) (q0_len : Nat) (i41 : Int) (b46 : Bool) : T :=
  .ite b46 (
    .leaf 0 [(Value.int IntKind.i64 i41), (Value.bool Bool.false)]) (
    .loop 1 (.cons (.int .i64) .nil) [(Value.int IntKind.i64 (IntKind.wrap IntKind.i64 (i41 + (1 : Int))))]
      (fun z => gjson_validnumber.t14 q0 q0_len z.1))
def gjson_validnumber.t12 (q0 : (Option Addr)) (q0_len : Nat) (i41 : Int) : T :=
  .ite (i41 == ((q0_len : Nat) : Int)) (
    .leaf 0 [(Value.int IntKind.i64 i41), (Value.bool Bool.false)]) (
    .cut 1 (.cons .bool .nil) (
      .chk (((0 : Int) ≤ i41) ∧ (i41 < ((q0_len : Nat) : Int))) <|
      .ptr q0 fun (z42 : Addr) =>
      .load (Addr.add z42 ((Int.toNat i41) * 1)) (.int .u8) fun (i43 : Int) =>
      .ite (decide (i43 < (48 : Int))) (
        .leaf 1 [(Value.bool Bool.true)]) (
        .chk (((0 : Int) ≤ i41) ∧ (i41 < ((q0_len : Nat) : Int))) <|
        .ptr q0 fun (z44 : Addr) =>
        .load (Addr.add z44 ((Int.toNat i41) * 1)) (.int .u8) fun (i45 : Int) =>
        .leaf 1 [(Value.bool (decide (i45 > (57 : Int))))]))
      (fun z => gjson_validnumber.t13 q0 q0_len i41 z.1))
def gjson_validnumber.t11 (q0 : (Option Addr)) (q0_len : Nat) (i30 : Int) (b40 : Bool) : T :=
  .cut 1 (.cons (.int .i64) .nil) (
    .ite b40 (
      .leaf 1 [(Value.int IntKind.i64 (IntKind.wrap IntKind.i64 ((IntKind.wrap IntKind.i64 (i30 + (1 : Int))) + (1 : Int))))]) (
      .leaf 1 [(Value.int IntKind.i64 (IntKind.wrap IntKind.i64 (i30 + (1 : Int))))]))
    (fun z => gjson_validnumber.t12 q0 q0_len z.1)
def gjson_validnumber.t10 (q0 : (Option Addr)) (q0_len : Nat) (i30 : Int) (b35 : Bool) : T :=
  .ite b35 (
    .ite ((IntKind.wrap IntKind.i64 (i30 + (1 : Int))) == ((q0_len : Nat) : Int)) (
      .leaf 0 [(Value.int IntKind.i64 (IntKind.wrap IntKind.i64 (i30 + (1 : Int)))), (Value.bool Bool.false)]) (
      .cut 1 (.cons .bool .nil) (
        .chk (((0 : Int) ≤ (IntKind.wrap IntKind.i64 (i30 + (1 : Int)))) ∧ ((IntKind.wrap IntKind.i64 (i30 + (1 : Int))) < ((q0_len : Nat) : Int))) <|
        .ptr q0 fun (z36 : Addr) =>
        .load (Addr.add z36 ((Int.toNat (IntKind.wrap IntKind.i64 (i30 + (1 : Int)))) * 1)) (.int .u8) fun (i37 : Int) =>
        .ite (i37 == (43 : Int)) (
          .leaf 1 [(Value.bool Bool.true)]) (
          .chk (((0 : Int) ≤ (IntKind.wrap IntKind.i64 (i30 + (1 : Int)))) ∧ ((IntKind.wrap IntKind.i64 (i30 + (1 : Int))) < ((q0_len : Nat) : Int))) <|
          .ptr q0 fun (z38 : Addr) =>
          .load (Addr.add z38 ((Int.toNat (IntKind.wrap IntKind.i64 (i30 + (1 : Int)))) * 1)) (.int .u8) fun (i39 : Int) =>
          .leaf 1 [(Value.bool (i39 == (45 : Int)))]))
        (fun z => gjson_validnumber.t11 q0 q0_len i30 z.1))) (
    .leaf 0 [(Value.int IntKind.i64 i30), (Value.bool Bool.true)])
def gjson_validnumber.t9 (q0 : (Option Addr)) (q0_len : Nat) (i30 : Int) : T :=
  .ite (i30 == ((q0_len : Nat) : Int)) (
    .leaf 0 [(Value.int IntKind.i64 i30), (Value.bool Bool.true)]) (
    .cut 1 (.cons .bool .nil) (
      .chk (((0 : Int) ≤ i30) ∧ (i30 < ((q0_len : Nat) : Int))) <|
      .ptr q0 fun (z31 : Addr) =>
      .load (Addr.add z31 ((Int.toNat i30) * 1)) (.int .u8) fun (i32 : Int) =>
      .ite (i32 == (101 : Int)) (
        .leaf 1 [(Value.bool Bool.true)]) (
        .chk (((0 : Int) ≤ i30) ∧ (i30 < ((q0_len : Nat) : Int))) <|
        .ptr q0 fun (z33 : Addr) =>
        .load (Addr.add z33 ((Int.toNat i30) * 1)) (.int .u8) fun (i34 : Int) =>
        .leaf 1 [(Value.bool (i34 == (69 : Int)))]))
      (fun z => gjson_validnumber.t10 q0 q0_len i30 z.1))
def gjson_validnumber.t5 (q0 : (Option Addr)) (q0_len : Nat) (i16 : Int) : T :=
  .ite (i16 == ((q0_len : Nat) : Int)) (
    .leaf 0 [(Value.int IntKind.i64 i16), (Value.bool Bool.true)]) (
    .chk (((0 : Int) ≤ i16) ∧ (i16 < ((q0_len : Nat) : Int))) <|
    .ptr q0 fun (z17 : Addr) =>
    .load (Addr.add z17 ((Int.toNat i16) * 1)) (.int .u8) fun (i18 : Int) =>
    .cut 1 (.cons (.int .i64) .nil) (
      .ite (i18 == (46 : Int)) (
        .ite ((IntKind.wrap IntKind.i64 (i16 + (1 : Int))) == ((q0_len : Nat) : Int)) (
          .leaf 0 [(Value.int IntKind.i64 (IntKind.wrap IntKind.i64 (i16 + (1 : Int)))), (Value.bool Bool.false)]) (
          .cut 2 (.cons .bool .nil) (
            .chk (((0 : Int) ≤ (IntKind.wrap IntKind.i64 (i16 + (1 : Int)))) ∧ ((IntKind.wrap IntKind.i64 (i16 + (1 : Int))) < ((q0_len : Nat) : Int))) <|
            .ptr q0 fun (z19 : Addr) =>
            .load (Addr.add z19 ((Int.toNat (IntKind.wrap IntKind.i64 (i16 + (1 : Int)))) * 1)) (.int .u8) fun (i20 : Int) =>
            .ite (decide (i20 < (48 : Int))) (
              .leaf 2 [(Value.bool Bool.true)]) (
              .chk (((0 : Int) ≤ (IntKind.wrap IntKind.i64 (i16 + (1 : Int)))) ∧ ((IntKind.wrap IntKind.i64 (i16 + (1 : Int))) < ((q0_len : Nat) : Int))) <|
              .ptr q0 fun (z21 : Addr) =>
              .load (Addr.add z21 ((Int.toNat (IntKind.wrap IntKind.i64 (i16 + (1 : Int)))) * 1)) (.int .u8) fun (i22 : Int) =>
              .leaf 2 [(Value.bool (decide (i22 > (57 : Int))))]))
            (fun z => gjson_validnumber.t6 q0 q0_len i16 z.1))) (
        .leaf 1 [(Value.int IntKind.i64 i16)]))
      (fun z => gjson_validnumber.t9 q0 q0_len z.1))
def gjson_validnumber.t2 (q0 : (Option Addr)) (q0_len : Nat) (i7 : Int) : T :=
  .ite (i7 == ((q0_len : Nat) : Int)) (
    .leaf 0 [(Value.int IntKind.i64 i7), (Value.bool Bool.false)]) (
    .chk (((0 : Int) ≤ i7) ∧ (i7 < ((q0_len : Nat) : Int))) <|
    .ptr q0 fun (z8 : Addr) =>
    .load (Addr.add z8 ((Int.toNat i7) * 1)) (.int .u8) fun (i9 : Int) =>
    .cut 1 (.cons (.int .i64) .nil) (
      .ite (i9 == (48 : Int)) (
        .leaf 1 [(Value.int IntKind.i64 (IntKind.wrap IntKind.i64 (i7 + (1 : Int))))]) (
        .cut 2 (.cons (.int .i64) .nil) (
          .loop 3 (.cons (.int .i64) .nil) [(Value.int IntKind.i64 i7)]
            (fun z => gjson_validnumber.t3 q0 q0_len z.1))
          (fun z => gjson_validnumber.t4 z.1)))
      (fun z => gjson_validnumber.t5 q0 q0_len z.1))
def gjson_validnumber.t (q0 : (Option Addr)) (q0_len : Nat) (q0_cap : Nat) (q1 : Int) : T :=
  .chk (((0 : Int) ≤ (IntKind.wrap IntKind.i64 (q1 - (1 : Int)))) ∧ ((IntKind.wrap IntKind.i64 (q1 - (1 : Int))) < ((q0_len : Nat) : Int))) <|
  .ptr q0 fun (z0 : Addr) =>
  .load (Addr.add z0 ((Int.toNat (IntKind.wrap IntKind.i64 (q1 - (1 : Int)))) * 1)) (.int .u8) fun (i1 : Int) =>
  .cut 1 (.cons (.int .i64) .nil) (
    .ite (i1 == (45 : Int)) (
      .ite ((IntKind.wrap IntKind.i64 ((IntKind.wrap IntKind.i64 (q1 - (1 : Int))) + (1 : Int))) == ((q0_len : Nat) : Int)) (
        .leaf 0 [(Value.int IntKind.i64 (IntKind.wrap IntKind.i64 ((IntKind.wrap IntKind.i64 (q1 - (1 : Int))) + (1 : Int)))), (Value.bool Bool.false)]) (
        .cut 2 (.cons .bool .nil) (
          .chk (((0 : Int) ≤ (IntKind.wrap IntKind.i64 ((IntKind.wrap IntKind.i64 (q1 - (1 : Int))) + (1 : Int)))) ∧ ((IntKind.wrap IntKind.i64 ((IntKind.wrap IntKind.i64 (q1 - (1 : Int))) + (1 : Int))) < ((q0_len : Nat) : Int))) <|
          .ptr q0 fun (z2 : Addr) =>
          .load (Addr.add z2 ((Int.toNat (IntKind.wrap IntKind.i64 ((IntKind.wrap IntKind.i64 (q1 - (1 : Int))) + (1 : Int)))) * 1)) (.int .u8) fun (i3 : Int) =>
          .ite (decide (i3 < (48 : Int))) (
            .leaf 2 [(Value.bool Bool.true)]) (
            .chk (((0 : Int) ≤ (IntKind.wrap IntKind.i64 ((IntKind.wrap IntKind.i64 (q1 - (1 : Int))) + (1 : Int)))) ∧ ((IntKind.wrap IntKind.i64 ((IntKind.wrap IntKind.i64 (q1 - (1 : Int))) + (1 : Int))) < ((q0_len : Nat) : Int))) <|
            .ptr q0 fun (z4 : Addr) =>
            .load (Addr.add z4 ((Int.toNat (IntKind.wrap IntKind.i64 ((IntKind.wrap IntKind.i64 (q1 - (1 : Int))) + (1 : Int)))) * 1)) (.int .u8) fun (i5 : Int) =>
            .leaf 2 [(Value.bool (decide (i5 > (57 : Int))))]))
          (fun z => gjson_validnumber.t1 q1 z.1))) (
      .leaf 1 [(Value.int IntKind.i64 (IntKind.wrap IntKind.i64 (q1 - (1 : Int))))]))
    (fun z => gjson_validnumber.t2 q0 q0_len z.1)
def gjson_validnumber.h : Hints := ⟨[(12, [(1, (.int .i64))]), (42, [(1, (.int .i64))]), (72, [(1, (.int .i64))]), (148, [(1, (.int .i64))])], [(0, [(1, (.int .i64))]), (2, [(1, (.int .i64))])], [(6, [(31, .bool)]), (21, [(91, .bool)]), (29, [(129, .bool)]), (33, [(148, .bool)]), (37, [(167, .bool)])], [(12, [(1, (.int .i64))]), (24, [(1, (.int .i64))]), (40, [(1, (.int .i64))])]⟩
noncomputable def gjson_validnumber.c : Code := (Try.f17.body).getD .skip
theorem gjson_validnumber.e (q0 : (Option Addr)) (q0_len : Nat) (q0_cap : Nat) (q1 : Int) : fnT Try.prog gjson_validnumber.h Try.f17 gjson_validnumber.c [.v (Value.slice q0 q0_len q0_cap), .v (Value.int IntKind.i64 q1)] = gjson_validnumber.t q0 q0_len q0_cap q1 := by kernel_rfl
theorem gjson_validnumber.calls (q0 : (Option Addr)) (q0_len : Nat) (q0_cap : Nat) (q1 : Int) {w : World} {R : Ending → World → Prop} (hs : sat Try.prog (gjson_validnumber.t q0 q0_len q0_cap q1) (fun l vs w' => l = 0 ∧ R (.returned (retVal vs)) w') w) : Calls Try.prog 17 #[(Value.slice q0 q0_len q0_cap), (Value.int IntKind.i64 q1)] w R :=
  have h := calls_of_tree (w := w) (R := R) (args := [.v (Value.slice q0 q0_len q0_cap), .v (Value.int IntKind.i64 q1)]) (c := gjson_validnumber.c) Try.func17 (show Try.f17.body = some gjson_validnumber.c by kernel_rfl) (of_decide_eq_true (by kernel_rfl)) (gjson_validnumber.e q0 q0_len q0_cap q1) hs
  h

/-! ### pub-tetrapla/pub/gjson.validcomma : function 22 -/
def gjson_validcomma.t2 (b3 : Bool) : T :=
  .leaf 3 [(Value.bool b3)]
def gjson_validcomma.t3 (b4 : Bool) : T :=
  .leaf 2 [(Value.bool b4)]
def gjson_validcomma.t5 (i0 : Int) : T :=
  .leaf 1 [(Value.int IntKind.i64 (IntKind.wrap IntKind.i64 (i0 + (1 : Int))))]
def gjson_validcomma.t4 (end2 : Int) (i0 : Int) (i2 : Int) (b5 : Bool) : T :=
  .cut 2 (.cons .bool .nil) (
    .ite b5 (
      .leaf 1 [(Value.int IntKind.i64 (IntKind.wrap IntKind.i64 (i0 + (1 : Int))))]) (
      .ite (i2 == (44 : Int)) (
        .leaf 0 [(Value.int IntKind.i64 i0), (Value.bool Bool.true)]) (
        .ite (i2 == end2) (
          .leaf 0 [(Value.int IntKind.i64 i0), (Value.bool Bool.true)]) (
          .leaf 0 [(Value.int IntKind.i64 i0), (Value.bool Bool.false)]))))
    (fun z => gjson_validcomma.t5 i0)
def gjson_validcomma.t1 (data : (Option Addr)) (data_len : Nat) (end2 : Int) (i0 : Int) : T :=
  .ite (decide (i0 < ((data_len : Nat) : Int))) (
    .chk (((0 : Int) ≤ i0) ∧ (i0 < ((data_len : Nat) : Int))) <|
    .ptr data fun (z1 : Addr) =>
    .load (Addr.add z1 ((Int.toNat i0) * 1)) (.int .u8) fun (i2 : Int) =>
    .cut 2 (.cons .bool .nil) (
      .ite (i2 == (32 : Int)) (
        .leaf 2 [(Value.bool (i2 == (32 : Int)))]) (
        .cut 3 (.cons .bool .nil) (
          .ite (i2 == (9 : Int)) (
            .leaf 3 [(Value.bool (i2 == (9 : Int)))]) (
            .cut 4 (.cons .bool .nil) (
              .ite (i2 == (10 : Int)) (
                .leaf 4 [(Value.bool (i2 == (10 : Int)))]) (
                .leaf 4 [(Value.bool (i2 == (13 : Int)))]))
              (fun z => gjson_validcomma.t2 z.1)))
          (fun z => gjson_validcomma.t3 z.1)))
      (fun z => gjson_validcomma.t4 end2 i0 i2 z.1)) (
    .leaf 0 [(Value.int IntKind.i64 i0), (Value.bool Bool.false)])
def gjson_validcomma.t (data : (Option Addr)) (data_len : Nat) (data_cap : Nat) (i : Int) (end2 : Int) : T :=
  .loop 1 (.cons (.int .i64) .nil) [(Value.int IntKind.i64 i)]
    (fun z => gjson_validcomma.t1 data data_len end2 z.1)
def gjson_validcomma.h : Hints := ⟨[(19, [(19, .bool)]), (19, [(19, .bool)]), (19, [(19, .bool)])], [], [], [(1, [(1, (.int .i64))])]⟩
noncomputable def gjson_validcomma.c : Code := (Try.f22.body).getD .skip
theorem gjson_validcomma.e (data : (Option Addr)) (data_len : Nat) (data_cap : Nat) (i : Int) (end2 : Int) : fnT Try.prog gjson_validcomma.h Try.f22 gjson_validcomma.c [.v (Value.slice data data_len data_cap), .v (Value.int IntKind.i64 i), .v (Value.int IntKind.u8 end2)] = gjson_validcomma.t data data_len data_cap i end2 := by kernel_rfl
theorem gjson_validcomma.calls (data : (Option Addr)) (data_len : Nat) (data_cap : Nat) (i : Int) (end2 : Int) {w : World} {R : Ending → World → Prop} (hs : sat Try.prog (gjson_validcomma.t data data_len data_cap i end2) (fun l vs w' => l = 0 ∧ R (.returned (retVal vs)) w') w) : Calls Try.prog 22 #[(Value.slice data data_len data_cap), (Value.int IntKind.i64 i), (Value.int IntKind.u8 end2)] w R :=
  have h := calls_of_tree (w := w) (R := R) (args := [.v (Value.slice data data_len data_cap), .v (Value.int IntKind.i64 i), .v (Value.int IntKind.u8 end2)]) (c := gjson_validcomma.c) Try.func22 (show Try.f22.body = some gjson_validcomma.c by kernel_rfl) (of_decide_eq_true (by kernel_rfl)) (gjson_validcomma.e data data_len data_cap i end2) hs
  h

end Go.Proofs.Ytlhhmgopfilgpab.Tr
