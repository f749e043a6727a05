/- Trees of loaded functions, printed by wip/tools/rxprint (a program of this repo): each is what 'exec' comes to, held by the kernel. No statement of the set is proved here. -/
import Derived.Test.YtbmmpnjpejamaaaDoorRz
import Derived.Test.YtbmmpnjpejamaaaDoorProg
import Derived.KernelRfl
namespace Go.Proofs.YtbmmpnjpejamaaaDoor.Tr
open Go Go.Proofs Go.Proofs.YtbmmpnjpejamaaaDoor.Rx
set_option linter.unusedVariables false
set_option maxRecDepth 100000
/-! ### pub-tetrapla/laws.FnGjUnescapeAny : function 4 -/
def laws_FnGjUnescapeAny.t1 (raw : ByteArray) (i0 : Int) : T :=
  .ite (decide (i0 < (((ByteArray.size raw) : Nat) : Int))) (
    .chk (((0 : Int) ≤ i0) ∧ (i0 < (((ByteArray.size raw) : Nat) : Int))) <|
    .ite (decide ((bt raw i0) < (32 : Int))) (
      .leaf 0 [(Value.bool Bool.true)]) (
      .chk (((0 : Int) ≤ i0) ∧ (i0 < (((ByteArray.size raw) : Nat) : Int))) <|
      .ite ((bt raw i0) == (92 : Int)) (
        .leaf 0 [(Value.bool Bool.true)]) (
        .leaf 1 [(Value.int IntKind.i64 (IntKind.wrap IntKind.i64 (i0 + (1 : Int))))]))) (
    .ite (decide ((((ByteArray.size raw) : Nat) : Int) > (4096 : Int))) (
      .leaf 0 [(Value.bool Bool.true)]) (
      .call 11 #[(Value.string raw)] .str fun (s1 : ByteArray) =>
      .leaf 0 [(Value.bool (strEq s1 raw))]))
def laws_FnGjUnescapeAny.t (raw : ByteArray) : T :=
  .ite (decide ((((ByteArray.size raw) : Nat) : Int) > (2147483647 : Int))) (
    .leaf 0 [(Value.bool Bool.true)]) (
    .loop 1 (.cons (.int .i64) .nil) [(Value.int IntKind.i64 (0 : Int))]
      (fun z => laws_FnGjUnescapeAny.t1 raw z.1))
def laws_FnGjUnescapeAny.h : Hints := ⟨[], [], [], [(4, [(3, (.int .i64))])]⟩
noncomputable def laws_FnGjUnescapeAny.c : Code := (Tryd.f4.body).getD .skip
theorem laws_FnGjUnescapeAny.e (raw : ByteArray) : fnT Tryd.prog laws_FnGjUnescapeAny.h Tryd.f4 laws_FnGjUnescapeAny.c [.v (Value.string raw)] = laws_FnGjUnescapeAny.t raw := by kernel_rfl
theorem laws_FnGjUnescapeAny.calls (raw : ByteArray) {w : World} {R : Ending → World → Prop} (hs : sat Tryd.prog (laws_FnGjUnescapeAny.t raw) (fun l vs w' => l = 0 ∧ R (.returned (retVal vs)) w') w) : Calls Tryd.prog 4 #[(Value.string raw)] w R :=
  have h := calls_of_tree (w := w) (R := R) (args := [.v (Value.string raw)]) (c := laws_FnGjUnescapeAny.c) Tryd.func4 (show Tryd.f4.body = some laws_FnGjUnescapeAny.c by kernel_rfl) (of_decide_eq_true (by kernel_rfl)) (laws_FnGjUnescapeAny.e raw) hs
  h

/-! ### pub-tetrapla/laws.FnFjBuildInt : function 5 -/
def laws_FnFjBuildInt.t (x : Int) : T :=
  .call 12 #[(Value.int IntKind.i64 x)] .str fun (s0 : ByteArray) =>
  .call 13 #[(Value.int IntKind.i64 x)] .str fun (s1 : ByteArray) =>
  .leaf 0 [(Value.bool (strEq s0 s1))]
def laws_FnFjBuildInt.h : Hints := ⟨[], [], [], []⟩
noncomputable def laws_FnFjBuildInt.c : Code := (Tryd.f5.body).getD .skip
theorem laws_FnFjBuildInt.e (x : Int) : fnT Tryd.prog laws_FnFjBuildInt.h Tryd.f5 laws_FnFjBuildInt.c [.v (Value.int IntKind.i64 x)] = laws_FnFjBuildInt.t x := by kernel_rfl
theorem laws_FnFjBuildInt.calls (x : Int) {w : World} {R : Ending → World → Prop} (hs : sat Tryd.prog (laws_FnFjBuildInt.t x) (fun l vs w' => l = 0 ∧ R (.returned (retVal vs)) w') w) : Calls Tryd.prog 5 #[(Value.int IntKind.i64 x)] w R :=
  have h := calls_of_tree (w := w) (R := R) (args := [.v (Value.int IntKind.i64 x)]) (c := laws_FnFjBuildInt.c) Tryd.func5 (show Tryd.f5.body = some laws_FnFjBuildInt.c by kernel_rfl) (of_decide_eq_true (by kernel_rfl)) (laws_FnFjBuildInt.e x) hs
  h

/-! ### pub-tetrapla/laws.FnFjNumberUint : function 6 -/
def laws_FnFjNumberUint.t (s : ByteArray) : T :=
  .ite (decide ((((ByteArray.size s) : Nat) : Int) > (2147483647 : Int))) (
    .leaf 0 [(Value.bool Bool.true)]) (
    .ite (decide ((((ByteArray.size s) : Nat) : Int) > (1000 : Int))) (
      .leaf 0 [(Value.bool Bool.true)]) (
      .call 14 #[(Value.string s)] (.tuple (.cons (.int .u64) (.cons .bool .nil))) fun (z0 : (Int × (Bool × PUnit))) =>
      .call 15 #[(Value.string s)] (.tuple (.cons (.int .u64) (.cons .bool .nil))) fun (z1 : (Int × (Bool × PUnit))) =>
      .call 16 #[(Value.string s)] (.tuple (.cons (.int .u64) (.cons .bool .nil))) fun (z2 : (Int × (Bool × PUnit))) =>
      .call 14 #[(Value.string (ByteArray.mk #[(55 : UInt8)]))] (.tuple (.cons (.int .u64) (.cons .bool .nil))) fun (z3 : (Int × (Bool × PUnit))) =>
      .ite (((z0).2).1 == ((z2).2).1) (
        .ite (((z1).2).1 == ((z2).2).1) (
          .ite (!((z2).2).1) (
            .leaf 0 [(Value.bool ((z3).2).1)]) (
            .ite ((z0).1 == (z2).1) (
              .ite ((z1).1 == (z2).1) (
                .leaf 0 [(Value.bool ((z3).2).1)]) (
                .leaf 0 [(Value.bool Bool.false)])) (
              .leaf 0 [(Value.bool Bool.false)]))) (
          .leaf 0 [(Value.bool Bool.false)])) (
        .leaf 0 [(Value.bool Bool.false)])))
def laws_FnFjNumberUint.h : Hints := ⟨[], [], [], []⟩
noncomputable def laws_FnFjNumberUint.c : Code := (Tryd.f6.body).getD .skip
theorem laws_FnFjNumberUint.e (s : ByteArray) : fnT Tryd.prog laws_FnFjNumberUint.h Tryd.f6 laws_FnFjNumberUint.c [.v (Value.string s)] = laws_FnFjNumberUint.t s := by kernel_rfl
theorem laws_FnFjNumberUint.calls (s : ByteArray) {w : World} {R : Ending → World → Prop} (hs : sat Tryd.prog (laws_FnFjNumberUint.t s) (fun l vs w' => l = 0 ∧ R (.returned (retVal vs)) w') w) : Calls Tryd.prog 6 #[(Value.string s)] w R :=
  have h := calls_of_tree (w := w) (R := R) (args := [.v (Value.string s)]) (c := laws_FnFjNumberUint.c) Tryd.func6 (show Tryd.f6.body = some laws_FnFjNumberUint.c by kernel_rfl) (of_decide_eq_true (by kernel_rfl)) (laws_FnFjNumberUint.e s) hs
  h

/-! ### pub-tetrapla/laws.FnGjQuoteUnescape : function 8 -/
def laws_FnGjQuoteUnescape.t3 (q0 : ByteArray) (q1 : ByteArray) (s3 : ByteArray) (b6 : Bool) : T :=
  .ite b6 (
    .leaf 0 [(Value.bool Bool.false)]) (
    .chk (((ByteArray.size s3) + (ByteArray.size q1)) ≤ 9223372036854775807) <|
    .call 25 #[(Value.string (s3 ++ q1))] (.tuple (.cons .str (.cons .str .nil))) fun (z7 : (ByteArray × (ByteArray × PUnit))) =>
    .ite (strEq (z7).1 s3) (
      .leaf 0 [(Value.bool (strEq ((z7).2).1 q0))]) (
      .leaf 0 [(Value.bool Bool.false)]))
def laws_FnGjQuoteUnescape.t2 (q0 : ByteArray) (q1 : ByteArray) (b2 : Bool) : T :=
  .ite b2 (
    .leaf 0 [(Value.bool Bool.true)]) (
    .call 23 #[(Value.string q0)] .str fun (s3 : ByteArray) =>
    .cut 1 (.cons .bool .nil) (
      .ite (decide ((((ByteArray.size s3) : Nat) : Int) < (2 : Int))) (
        .leaf 1 [(Value.bool Bool.true)]) (
        .chk (((0 : Int) ≤ (1 : Int)) ∧ (((1 : Int) ≤ (IntKind.wrap IntKind.i64 ((((ByteArray.size s3) : Nat) : Int) - (1 : Int)))) ∧ ((IntKind.wrap IntKind.i64 ((((ByteArray.size s3) : Nat) : Int) - (1 : Int))) ≤ (((ByteArray.size s3) : Nat) : Int)))) <|
        .call 11 #[(Value.string (ByteArray.extract s3 1 (Int.toNat (IntKind.wrap IntKind.i64 ((((ByteArray.size s3) : Nat) : Int) - (1 : Int))))))] .str fun (s4 : ByteArray) =>
        .ite (!(strEq s4 q0)) (
          .leaf 1 [(Value.bool Bool.true)]) (
          .chk (((ByteArray.size s3) + (ByteArray.size q1)) ≤ 9223372036854775807) <|
          .call 24 #[(Value.string (s3 ++ q1))] .str fun (s5 : ByteArray) =>
          .leaf 1 [(Value.bool (!(strEq s5 s3)))])))
      (fun z => laws_FnGjQuoteUnescape.t3 q0 q1 s3 z.1))
def laws_FnGjQuoteUnescape.t1 (q0 : ByteArray) (q1 : ByteArray) (b0 : Bool) : T :=
  .ite b0 (
    .leaf 0 [(Value.bool Bool.true)]) (
    .cut 1 (.cons .bool .nil) (
      .ite (decide ((((ByteArray.size q0) : Nat) : Int) > (4096 : Int))) (
        .leaf 1 [(Value.bool Bool.true)]) (
        .ite (decide ((((ByteArray.size q1) : Nat) : Int) > (4096 : Int))) (
          .leaf 1 [(Value.bool Bool.true)]) (
          .call 22 #[(Value.string q0)] .bool fun (b1 : Bool) =>
          .leaf 1 [(Value.bool (!b1))])))
      (fun z => laws_FnGjQuoteUnescape.t2 q0 q1 z.1))
def laws_FnGjQuoteUnescape.t (q0 : ByteArray) (q1 : ByteArray) : T :=
  .cut 1 (.cons .bool .nil) (
    .ite (decide ((((ByteArray.size q0) : Nat) : Int) > (2147483647 : Int))) (
      .leaf 1 [(Value.bool Bool.true)]) (
      .leaf 1 [(Value.bool (decide ((((ByteArray.size q1) : Nat) : Int) > (2147483647 : Int))))]))
    (fun z => laws_FnGjQuoteUnescape.t1 q0 q1 z.1)
def laws_FnGjQuoteUnescape.h : Hints := ⟨[], [], [(1, [(15, .bool)]), (3, [(28, .bool)]), (6, [(51, .bool)])], []⟩
noncomputable def laws_FnGjQuoteUnescape.c : Code := (Tryd.f8.body).getD .skip
theorem laws_FnGjQuoteUnescape.e (q0 : ByteArray) (q1 : ByteArray) : fnT Tryd.prog laws_FnGjQuoteUnescape.h Tryd.f8 laws_FnGjQuoteUnescape.c [.v (Value.string q0), .v (Value.string q1)] = laws_FnGjQuoteUnescape.t q0 q1 := by kernel_rfl
theorem laws_FnGjQuoteUnescape.calls (q0 : ByteArray) (q1 : ByteArray) {w : World} {R : Ending → World → Prop} (hs : sat Tryd.prog (laws_FnGjQuoteUnescape.t q0 q1) (fun l vs w' => l = 0 ∧ R (.returned (retVal vs)) w') w) : Calls Tryd.prog 8 #[(Value.string q0), (Value.string q1)] w R :=
  have h := calls_of_tree (w := w) (R := R) (args := [.v (Value.string q0), .v (Value.string q1)]) (c := laws_FnGjQuoteUnescape.c) Tryd.func8 (show Tryd.f8.body = some laws_FnGjQuoteUnescape.c by kernel_rfl) (of_decide_eq_true (by kernel_rfl)) (laws_FnGjQuoteUnescape.e q0 q1) hs
  h

/-! ### pub-tetrapla/impl.GjUnescape : function 11 -/
def impl_GjUnescape.t (raw : ByteArray) : T :=
  .call 29 #[(Value.string raw)] .str fun (s0 : ByteArray) =>
  .leaf 0 [(Value.string s0)]
def impl_GjUnescape.h : Hints := ⟨[], [], [], []⟩
noncomputable def impl_GjUnescape.c : Code := (Tryd.f11.body).getD .skip
theorem impl_GjUnescape.e (raw : ByteArray) : fnT Tryd.prog impl_GjUnescape.h Tryd.f11 impl_GjUnescape.c [.v (Value.string raw)] = impl_GjUnescape.t raw := by kernel_rfl
theorem impl_GjUnescape.calls (raw : ByteArray) {w : World} {R : Ending → World → Prop} (hs : sat Tryd.prog (impl_GjUnescape.t raw) (fun l vs w' => l = 0 ∧ R (.returned (retVal vs)) w') w) : Calls Tryd.prog 11 #[(Value.string raw)] w R :=
  have h := calls_of_tree (w := w) (R := R) (args := [.v (Value.string raw)]) (c := impl_GjUnescape.c) Tryd.func11 (show Tryd.f11.body = some impl_GjUnescape.c by kernel_rfl) (of_decide_eq_true (by kernel_rfl)) (impl_GjUnescape.e raw) hs
  h

/-! ### pub-tetrapla/impl.FjBuildInt : function 12 -/
def impl_FjBuildInt.t (x : Int) : T :=
  .alloc (Obj.cells #[(Value.slice none 0 0), (Value.slice none 0 0)] 53 (0, 0)) fun (z0 : Addr) =>
  .call 30 #[(Value.pointer (some z0)), (Value.int IntKind.i64 x)] .ptr fun (p1 : (Option Addr)) =>
  .call 27 #[(Value.pointer p1), (Value.slice none 0 0)] .slice fun (z2 : ((Option Addr) × (Nat × Nat))) =>
  .eff (convert 48 9 (Value.slice (z2).1 ((z2).2).1 ((z2).2).2)) .str fun (s3 : ByteArray) =>
  .leaf 0 [(Value.string s3)]
def impl_FjBuildInt.h : Hints := ⟨[], [], [], []⟩
noncomputable def impl_FjBuildInt.c : Code := (Tryd.f12.body).getD .skip
theorem impl_FjBuildInt.e (x : Int) : fnT Tryd.prog impl_FjBuildInt.h Tryd.f12 impl_FjBuildInt.c [.v (Value.int IntKind.i64 x)] = impl_FjBuildInt.t x := by kernel_rfl
theorem impl_FjBuildInt.calls (x : Int) {w : World} {R : Ending → World → Prop} (hs : sat Tryd.prog (impl_FjBuildInt.t x) (fun l vs w' => l = 0 ∧ R (.returned (retVal vs)) w') w) : Calls Tryd.prog 12 #[(Value.int IntKind.i64 x)] w R :=
  have h := calls_of_tree (w := w) (R := R) (args := [.v (Value.int IntKind.i64 x)]) (c := impl_FjBuildInt.c) Tryd.func12 (show Tryd.f12.body = some impl_FjBuildInt.c by kernel_rfl) (of_decide_eq_true (by kernel_rfl)) (impl_FjBuildInt.e x) hs
  h

/-! ### pub-tetrapla/spec.Digits : function 13 -/
def spec_Digits.t (n : Int) : T :=
  .ite (decide (n < (0 : Int))) (
    .call 31 #[(Value.int IntKind.u64 (IntKind.wrap IntKind.u64 ((0 : Int) - (IntKind.wrap IntKind.u64 n))))] .str fun (s0 : ByteArray) =>
    .chk ((1 + (ByteArray.size s0)) ≤ 9223372036854775807) <|
    .leaf 0 [(Value.string ((ByteArray.mk #[(45 : UInt8)]) ++ s0))]) (
    .call 31 #[(Value.int IntKind.u64 (IntKind.wrap IntKind.u64 n))] .str fun (s1 : ByteArray) =>
    .leaf 0 [(Value.string s1)])
def spec_Digits.h : Hints := ⟨[], [], [], []⟩
noncomputable def spec_Digits.c : Code := (Tryd.f13.body).getD .skip
theorem spec_Digits.e (n : Int) : fnT Tryd.prog spec_Digits.h Tryd.f13 spec_Digits.c [.v (Value.int IntKind.i64 n)] = spec_Digits.t n := by kernel_rfl
theorem spec_Digits.calls (n : Int) {w : World} {R : Ending → World → Prop} (hs : sat Tryd.prog (spec_Digits.t n) (fun l vs w' => l = 0 ∧ R (.returned (retVal vs)) w') w) : Calls Tryd.prog 13 #[(Value.int IntKind.i64 n)] w R :=
  have h := calls_of_tree (w := w) (R := R) (args := [.v (Value.int IntKind.i64 n)]) (c := spec_Digits.c) Tryd.func13 (show Tryd.f13.body = some spec_Digits.c by kernel_rfl) (of_decide_eq_true (by kernel_rfl)) (spec_Digits.e n) hs
  h

/-! ### pub-tetrapla/impl.FjNumberUint64 : function 14 -/
def impl_FjNumberUint64.t (s : ByteArray) : T :=
  .alloc (Obj.cells #[(Value.slice none 0 0), (Value.slice none 0 0)] 53 (0, 0)) fun (z0 : Addr) =>
  .call 32 #[(Value.pointer (some z0)), (Value.string s)] .ptr fun (p1 : (Option Addr)) =>
  .call 33 #[(Value.pointer p1)] (.tuple (.cons (.int .u64) (.cons .any .nil))) fun (z2 : (Int × (Value × PUnit))) =>
  .drew <|
  .chk ((isIface ((z2).2).1) = Bool.true) <|
  .leaf 0 [(Value.int IntKind.u64 (z2).1), (Value.bool (isNil ((z2).2).1))]
def impl_FjNumberUint64.h : Hints := ⟨[], [], [], []⟩
noncomputable def impl_FjNumberUint64.c : Code := (Tryd.f14.body).getD .skip
theorem impl_FjNumberUint64.e (s : ByteArray) : fnT Tryd.prog impl_FjNumberUint64.h Tryd.f14 impl_FjNumberUint64.c [.v (Value.string s)] = impl_FjNumberUint64.t s := by kernel_rfl
theorem impl_FjNumberUint64.calls (s : ByteArray) {w : World} {R : Ending → World → Prop} (hs : sat Tryd.prog (impl_FjNumberUint64.t s) (fun l vs w' => l = 0 ∧ R (.returned (retVal vs)) w') w) : Calls Tryd.prog 14 #[(Value.string s)] w R :=
  have h := calls_of_tree (w := w) (R := R) (args := [.v (Value.string s)]) (c := impl_FjNumberUint64.c) Tryd.func14 (show Tryd.f14.body = some impl_FjNumberUint64.c by kernel_rfl) (of_decide_eq_true (by kernel_rfl)) (impl_FjNumberUint64.e s) hs
  h

/-! ### pub-tetrapla/impl.FjNumberUint : function 15 -/
def impl_FjNumberUint.t (s : ByteArray) : T :=
  .alloc (Obj.cells #[(Value.slice none 0 0), (Value.slice none 0 0)] 53 (0, 0)) fun (z0 : Addr) =>
  .call 32 #[(Value.pointer (some z0)), (Value.string s)] .ptr fun (p1 : (Option Addr)) =>
  .call 34 #[(Value.pointer p1)] (.tuple (.cons (.int .u64) (.cons .any .nil))) fun (z2 : (Int × (Value × PUnit))) =>
  .drew <|
  .chk ((isIface ((z2).2).1) = Bool.true) <|
  .leaf 0 [(Value.int IntKind.u64 (z2).1), (Value.bool (isNil ((z2).2).1))]
def impl_FjNumberUint.h : Hints := ⟨[], [], [], []⟩
noncomputable def impl_FjNumberUint.c : Code := (Tryd.f15.body).getD .skip
theorem impl_FjNumberUint.e (s : ByteArray) : fnT Tryd.prog impl_FjNumberUint.h Tryd.f15 impl_FjNumberUint.c [.v (Value.string s)] = impl_FjNumberUint.t s := by kernel_rfl
theorem impl_FjNumberUint.calls (s : ByteArray) {w : World} {R : Ending → World → Prop} (hs : sat Tryd.prog (impl_FjNumberUint.t s) (fun l vs w' => l = 0 ∧ R (.returned (retVal vs)) w') w) : Calls Tryd.prog 15 #[(Value.string s)] w R :=
  have h := calls_of_tree (w := w) (R := R) (args := [.v (Value.string s)]) (c := impl_FjNumberUint.c) Tryd.func15 (show Tryd.f15.body = some impl_FjNumberUint.c by kernel_rfl) (of_decide_eq_true (by kernel_rfl)) (impl_FjNumberUint.e s) hs
  h

/-! ### pub-tetrapla/spec.Uint64 : function 16 -/
def spec_Uint64.t2 (s : ByteArray) (i0 : Int) (i1 : Int) (b2 : Bool) : T :=
  .ite b2 (
    .leaf 0 [(Value.int IntKind.u64 (0 : Int)), (Value.bool Bool.false)]) (
    .chk (((0 : Int) ≤ i0) ∧ (i0 < (((ByteArray.size s) : Nat) : Int))) <|
    .chk ((10 : Int) ≠ (0 : Int)) <|
    .ite (decide (i1 > (IntKind.wrap IntKind.u64 (Int.tdiv (IntKind.wrap IntKind.u64 ((18446744073709551615 : Int) - (IntKind.wrap IntKind.u64 (IntKind.wrap IntKind.u8 ((bt s i0) - (48 : Int)))))) (10 : Int))))) (
      .leaf 0 [(Value.int IntKind.u64 (0 : Int)), (Value.bool Bool.false)]) (
      .leaf 1 [(Value.int IntKind.i64 (IntKind.wrap IntKind.i64 (i0 + (1 : Int)))), (Value.int IntKind.u64 (IntKind.wrap IntKind.u64 ((IntKind.wrap IntKind.u64 (i1 * (10 : Int))) + (IntKind.wrap IntKind.u64 (IntKind.wrap IntKind.u8 ((bt s i0) - (48 : Int)))))))]))
def spec_Uint64.t1 (s : ByteArray) (i0 : Int) (i1 : Int) : T :=
  .ite (decide (i0 < (((ByteArray.size s) : Nat) : Int))) (
    .cut 2 (.cons .bool .nil) (
      .chk (((0 : Int) ≤ i0) ∧ (i0 < (((ByteArray.size s) : Nat) : Int))) <|
      .ite (decide ((bt s i0) < (48 : Int))) (
        .leaf 2 [(Value.bool Bool.true)]) (
        .chk (((0 : Int) ≤ i0) ∧ (i0 < (((ByteArray.size s) : Nat) : Int))) <|
        .leaf 2 [(Value.bool (decide ((bt s i0) > (57 : Int))))]))
      (fun z => spec_Uint64.t2 s i0 i1 z.1)) (
    .leaf 0 [(Value.int IntKind.u64 i1), (Value.bool Bool.true)])
def spec_Uint64.t (s : ByteArray) : T :=
  .ite (strEq s (ByteArray.mk #[])) (
    .leaf 0 [(Value.int IntKind.u64 (0 : Int)), (Value.bool Bool.false)]) (
    .loop 1 (.cons (.int .i64) (.cons (.int .u64) .nil)) [(Value.int IntKind.i64 (0 : Int)), (Value.int IntKind.u64 (0 : Int))]
      (fun z => spec_Uint64.t1 s z.1 z.2.1))
def spec_Uint64.h : Hints := ⟨[], [], [(7, [(24, .bool)])], [(5, [(5, (.int .i64)), (4, (.int .u64))])]⟩
noncomputable def spec_Uint64.c : Code := (Tryd.f16.body).getD .skip
theorem spec_Uint64.e (s : ByteArray) : fnT Tryd.prog spec_Uint64.h Tryd.f16 spec_Uint64.c [.v (Value.string s)] = spec_Uint64.t s := by kernel_rfl
theorem spec_Uint64.calls (s : ByteArray) {w : World} {R : Ending → World → Prop} (hs : sat Tryd.prog (spec_Uint64.t s) (fun l vs w' => l = 0 ∧ R (.returned (retVal vs)) w') w) : Calls Tryd.prog 16 #[(Value.string s)] w R :=
  have h := calls_of_tree (w := w) (R := R) (args := [.v (Value.string s)]) (c := spec_Uint64.c) Tryd.func16 (show Tryd.f16.body = some spec_Uint64.c by kernel_rfl) (of_decide_eq_true (by kernel_rfl)) (spec_Uint64.e s) hs
  h

/-! ### pub-tetrapla/spec.UTF8 : function 22 -/
def spec_UTF8.t1 (s : ByteArray) (i0 : Int) : T :=
  .ite (decide (i0 < (((ByteArray.size s) : Nat) : Int))) (
    .call 44 #[(Value.string s), (Value.int IntKind.i64 i0)] (.tuple (.cons (.int .i64) (.cons (.int .i64) (.cons .bool .nil)))) fun (z1 : (Int × (Int × (Bool × PUnit)))) =>
    .ite (!(((z1).2).2).1) (
      .leaf 0 [(Value.bool Bool.false)]) (
      .leaf 1 [(Value.int IntKind.i64 (IntKind.wrap IntKind.i64 (i0 + ((z1).2).1)))])) (
    .leaf 0 [(Value.bool Bool.true)])
def spec_UTF8.t (s : ByteArray) : T :=
  .loop 1 (.cons (.int .i64) .nil) [(Value.int IntKind.i64 (0 : Int))]
    (fun z => spec_UTF8.t1 s z.1)
def spec_UTF8.h : Hints := ⟨[], [], [], [(2, [(3, (.int .i64))])]⟩
noncomputable def spec_UTF8.c : Code := (Tryd.f22.body).getD .skip
theorem spec_UTF8.e (s : ByteArray) : fnT Tryd.prog spec_UTF8.h Tryd.f22 spec_UTF8.c [.v (Value.string s)] = spec_UTF8.t s := by kernel_rfl
theorem spec_UTF8.calls (s : ByteArray) {w : World} {R : Ending → World → Prop} (hs : sat Tryd.prog (spec_UTF8.t s) (fun l vs w' => l = 0 ∧ R (.returned (retVal vs)) w') w) : Calls Tryd.prog 22 #[(Value.string s)] w R :=
  have h := calls_of_tree (w := w) (R := R) (args := [.v (Value.string s)]) (c := spec_UTF8.c) Tryd.func22 (show Tryd.f22.body = some spec_UTF8.c by kernel_rfl) (of_decide_eq_true (by kernel_rfl)) (spec_UTF8.e s) hs
  h

/-! ### pub-tetrapla/impl.GjQuote : function 23 -/
def impl_GjQuote.t (s : ByteArray) : T :=
  .call 45 #[(Value.slice none 0 0), (Value.string s)] .slice fun (z0 : ((Option Addr) × (Nat × Nat))) =>
  .eff (convert 48 9 (Value.slice (z0).1 ((z0).2).1 ((z0).2).2)) .str fun (s1 : ByteArray) =>
  .leaf 0 [(Value.string s1)]
def impl_GjQuote.h : Hints := ⟨[], [], [], []⟩
noncomputable def impl_GjQuote.c : Code := (Tryd.f23.body).getD .skip
theorem impl_GjQuote.e (s : ByteArray) : fnT Tryd.prog impl_GjQuote.h Tryd.f23 impl_GjQuote.c [.v (Value.string s)] = impl_GjQuote.t s := by kernel_rfl
theorem impl_GjQuote.calls (s : ByteArray) {w : World} {R : Ending → World → Prop} (hs : sat Tryd.prog (impl_GjQuote.t s) (fun l vs w' => l = 0 ∧ R (.returned (retVal vs)) w') w) : Calls Tryd.prog 23 #[(Value.string s)] w R :=
  have h := calls_of_tree (w := w) (R := R) (args := [.v (Value.string s)]) (c := impl_GjQuote.c) Tryd.func23 (show Tryd.f23.body = some impl_GjQuote.c by kernel_rfl) (of_decide_eq_true (by kernel_rfl)) (impl_GjQuote.e s) hs
  h

/-! ### pub-tetrapla/impl.GjSquash : function 24 -/
def impl_GjSquash.t (text : ByteArray) : T :=
  .call 46 #[(Value.string text)] .str fun (s0 : ByteArray) =>
  .leaf 0 [(Value.string s0)]
def impl_GjSquash.h : Hints := ⟨[], [], [], []⟩
noncomputable def impl_GjSquash.c : Code := (Tryd.f24.body).getD .skip
theorem impl_GjSquash.e (text : ByteArray) : fnT Tryd.prog impl_GjSquash.h Tryd.f24 impl_GjSquash.c [.v (Value.string text)] = impl_GjSquash.t text := by kernel_rfl
theorem impl_GjSquash.calls (text : ByteArray) {w : World} {R : Ending → World → Prop} (hs : sat Tryd.prog (impl_GjSquash.t text) (fun l vs w' => l = 0 ∧ R (.returned (retVal vs)) w') w) : Calls Tryd.prog 24 #[(Value.string text)] w R :=
  have h := calls_of_tree (w := w) (R := R) (args := [.v (Value.string text)]) (c := impl_GjSquash.c) Tryd.func24 (show Tryd.f24.body = some impl_GjSquash.c by kernel_rfl) (of_decide_eq_true (by kernel_rfl)) (impl_GjSquash.e text) hs
  h

/-! ### pub-tetrapla/impl.GjStringText : function 25 -/
def impl_GjStringText.t (text : ByteArray) : T :=
  .call 47 #[(Value.string text)] (.tuple (.cons .str (.cons .str .nil))) fun (z0 : (ByteArray × (ByteArray × PUnit))) =>
  .leaf 0 [(Value.string (z0).1), (Value.string ((z0).2).1)]
def impl_GjStringText.h : Hints := ⟨[], [], [], []⟩
noncomputable def impl_GjStringText.c : Code := (Tryd.f25.body).getD .skip
theorem impl_GjStringText.e (text : ByteArray) : fnT Tryd.prog impl_GjStringText.h Tryd.f25 impl_GjStringText.c [.v (Value.string text)] = impl_GjStringText.t text := by kernel_rfl
theorem impl_GjStringText.calls (text : ByteArray) {w : World} {R : Ending → World → Prop} (hs : sat Tryd.prog (impl_GjStringText.t text) (fun l vs w' => l = 0 ∧ R (.returned (retVal vs)) w') w) : Calls Tryd.prog 25 #[(Value.string text)] w R :=
  have h := calls_of_tree (w := w) (R := R) (args := [.v (Value.string text)]) (c := impl_GjStringText.c) Tryd.func25 (show Tryd.f25.body = some impl_GjStringText.c by kernel_rfl) (of_decide_eq_true (by kernel_rfl)) (impl_GjStringText.e text) hs
  h

/-! ### pub-tetrapla/pub/gjson.DoorUnescape : function 29 -/
def gjson_DoorUnescape.t (s : ByteArray) : T :=
  .call 53 #[(Value.string s)] .str fun (s0 : ByteArray) =>
  .leaf 0 [(Value.string s0)]
def gjson_DoorUnescape.h : Hints := ⟨[], [], [], []⟩
noncomputable def gjson_DoorUnescape.c : Code := (Tryd.f29.body).getD .skip
theorem gjson_DoorUnescape.e (s : ByteArray) : fnT Tryd.prog gjson_DoorUnescape.h Tryd.f29 gjson_DoorUnescape.c [.v (Value.string s)] = gjson_DoorUnescape.t s := by kernel_rfl
theorem gjson_DoorUnescape.calls (s : ByteArray) {w : World} {R : Ending → World → Prop} (hs : sat Tryd.prog (gjson_DoorUnescape.t s) (fun l vs w' => l = 0 ∧ R (.returned (retVal vs)) w') w) : Calls Tryd.prog 29 #[(Value.string s)] w R :=
  have h := calls_of_tree (w := w) (R := R) (args := [.v (Value.string s)]) (c := gjson_DoorUnescape.c) Tryd.func29 (show Tryd.f29.body = some gjson_DoorUnescape.c by kernel_rfl) (of_decide_eq_true (by kernel_rfl)) (gjson_DoorUnescape.e s) hs
  h

/-! ### (*pub-tetrapla/pub/fastjson.Arena).NewNumberInt : function 30 -/
def fastjson_Arena_NewNumberInt.t (a : (Option Addr)) (n : Int) : T :=
  .ptr a fun (z0 : Addr) =>
  .call 48 #[(Value.pointer (some (Addr.add z0 1)))] .ptr fun (p1 : (Option Addr)) =>
  .ptr p1 fun (z2 : Addr) =>
  .store (Addr.add z2 4) (Value.int IntKind.i64 (4 : Int)) <|
  .ptr a fun (z3 : Addr) =>
  .load (Addr.add z3 0) .slice fun (z4 : ((Option Addr) × (Nat × Nat))) =>
  .ptr a fun (z5 : Addr) =>
  .load (Addr.add z5 0) .slice fun (z6 : ((Option Addr) × (Nat × Nat))) =>
  .call 54 #[(Value.slice (z6).1 ((z6).2).1 ((z6).2).2), (Value.int IntKind.i64 n), (Value.int IntKind.i64 (10 : Int))] .slice fun (z7 : ((Option Addr) × (Nat × Nat))) =>
  .ptr a fun (z8 : Addr) =>
  .store (Addr.add z8 0) (Value.slice (z7).1 ((z7).2).1 ((z7).2).2) <|
  .ptr a fun (z9 : Addr) =>
  .load (Addr.add z9 0) .slice fun (z10 : ((Option Addr) × (Nat × Nat))) =>
  .chk (((0 : Int) ≤ ((((z4).2).1 : Nat) : Int)) ∧ ((((((z4).2).1 : Nat) : Int) ≤ ((((z10).2).1 : Nat) : Int)) ∧ (((((z10).2).1 : Nat) : Int) ≤ ((((z10).2).2 : Nat) : Int)))) <|
  .call 50 #[(Value.slice (if (((z10).2).2 = (Int.toNat ((((z4).2).1 : Nat) : Int))) then (z10).1 else (Option.map (fun (y11 : Addr) => (Addr.add y11 ((Int.toNat ((((z4).2).1 : Nat) : Int)) * 1))) (z10).1)) ((Int.toNat ((((z10).2).1 : Nat) : Int)) - (Int.toNat ((((z4).2).1 : Nat) : Int))) (((z10).2).2 - (Int.toNat ((((z4).2).1 : Nat) : Int))))] .str fun (s12 : ByteArray) =>
  .ptr p1 fun (z13 : Addr) =>
  .store (Addr.add z13 3) (Value.string s12) <|
  .leaf 0 [(Value.pointer p1)]
def fastjson_Arena_NewNumberInt.h : Hints := ⟨[], [], [], []⟩
noncomputable def fastjson_Arena_NewNumberInt.c : Code := (Tryd.f30.body).getD .skip
theorem fastjson_Arena_NewNumberInt.e (a : (Option Addr)) (n : Int) : fnT Tryd.prog fastjson_Arena_NewNumberInt.h Tryd.f30 fastjson_Arena_NewNumberInt.c [.v (Value.pointer a), .v (Value.int IntKind.i64 n)] = fastjson_Arena_NewNumberInt.t a n := by kernel_rfl
theorem fastjson_Arena_NewNumberInt.calls (a : (Option Addr)) (n : Int) {w : World} {R : Ending → World → Prop} (hs : sat Tryd.prog (fastjson_Arena_NewNumberInt.t a n) (fun l vs w' => l = 0 ∧ R (.returned (retVal vs)) w') w) : Calls Tryd.prog 30 #[(Value.pointer a), (Value.int IntKind.i64 n)] w R :=
  have h := calls_of_tree (w := w) (R := R) (args := [.v (Value.pointer a), .v (Value.int IntKind.i64 n)]) (c := fastjson_Arena_NewNumberInt.c) Tryd.func30 (show Tryd.f30.body = some fastjson_Arena_NewNumberInt.c by kernel_rfl) (of_decide_eq_true (by kernel_rfl)) (fastjson_Arena_NewNumberInt.e a n) hs
  h

/-! ### pub-tetrapla/spec.DigitsOf : function 31 -/
def spec_DigitsOf.t1 (i0 : Int) (z1 : ((Option Addr) × (Nat × Nat))) : T :=
  .chk ((10 : Int) ≠ (0 : Int)) <|
  .eff (Instr.buildSlice 48 1 #[(0, (Value.int IntKind.u8 (IntKind.wrap IntKind.u8 (IntKind.wrap IntKind.u64 ((48 : Int) + (Int.tmod i0 (10 : Int)))))))]) .slice fun (z2 : ((Option Addr) × (Nat × Nat))) =>
  .eff (Builtin.append_ (Call.argTypes (Call.mk (Callee.builtin Builtin.append) #[(Operand.tmp 8), (Operand.tmp 9)] #[48, 48])) 48 #[(Value.slice (z2).1 ((z2).2).1 ((z2).2).2), (Value.slice (z1).1 ((z1).2).1 ((z1).2).2)]) .slice fun (z3 : ((Option Addr) × (Nat × Nat))) =>
  .chk ((10 : Int) ≠ (0 : Int)) <|
  .ite ((IntKind.wrap IntKind.u64 (Int.tdiv i0 (10 : Int))) == (0 : Int)) (
    .eff (convert 48 9 (Value.slice (z3).1 ((z3).2).1 ((z3).2).2)) .str fun (s4 : ByteArray) =>
    .leaf 0 [(Value.string s4)]) (
    .leaf 1 [(Value.int IntKind.u64 (IntKind.wrap IntKind.u64 (Int.tdiv i0 (10 : Int)))), (Value.slice (z3).1 ((z3).2).1 ((z3).2).2)])
def spec_DigitsOf.t (n : Int) : T :=
  .loop 1 (.cons (.int .u64) (.cons .slice .nil)) [(Value.int IntKind.u64 n), (Value.slice none 0 0)]
    (fun z => spec_DigitsOf.t1 z.1 z.2.1)
def spec_DigitsOf.h : Hints := ⟨[], [], [], [(2, [(0, (.int .u64)), (3, .slice)])]⟩
noncomputable def spec_DigitsOf.c : Code := (Tryd.f31.body).getD .skip
theorem spec_DigitsOf.e (n : Int) : fnT Tryd.prog spec_DigitsOf.h Tryd.f31 spec_DigitsOf.c [.v (Value.int IntKind.u64 n)] = spec_DigitsOf.t n := by kernel_rfl
theorem spec_DigitsOf.calls (n : Int) {w : World} {R : Ending → World → Prop} (hs : sat Tryd.prog (spec_DigitsOf.t n) (fun l vs w' => l = 0 ∧ R (.returned (retVal vs)) w') w) : Calls Tryd.prog 31 #[(Value.int IntKind.u64 n)] w R :=
  have h := calls_of_tree (w := w) (R := R) (args := [.v (Value.int IntKind.u64 n)]) (c := spec_DigitsOf.c) Tryd.func31 (show Tryd.f31.body = some spec_DigitsOf.c by kernel_rfl) (of_decide_eq_true (by kernel_rfl)) (spec_DigitsOf.e n) hs
  h

/-! ### (*pub-tetrapla/pub/fastjson.Arena).NewNumberString : function 32 -/
def fastjson_Arena_NewNumberString.t (a : (Option Addr)) (s : ByteArray) : T :=
  .ptr a fun (z0 : Addr) =>
  .call 48 #[(Value.pointer (some (Addr.add z0 1)))] .ptr fun (p1 : (Option Addr)) =>
  .ptr p1 fun (z2 : Addr) =>
  .store (Addr.add z2 4) (Value.int IntKind.i64 (4 : Int)) <|
  .ptr p1 fun (z3 : Addr) =>
  .store (Addr.add z3 3) (Value.string s) <|
  .leaf 0 [(Value.pointer p1)]
def fastjson_Arena_NewNumberString.h : Hints := ⟨[], [], [], []⟩
noncomputable def fastjson_Arena_NewNumberString.c : Code := (Tryd.f32.body).getD .skip
theorem fastjson_Arena_NewNumberString.e (a : (Option Addr)) (s : ByteArray) : fnT Tryd.prog fastjson_Arena_NewNumberString.h Tryd.f32 fastjson_Arena_NewNumberString.c [.v (Value.pointer a), .v (Value.string s)] = fastjson_Arena_NewNumberString.t a s := by kernel_rfl
theorem fastjson_Arena_NewNumberString.calls (a : (Option Addr)) (s : ByteArray) {w : World} {R : Ending → World → Prop} (hs : sat Tryd.prog (fastjson_Arena_NewNumberString.t a s) (fun l vs w' => l = 0 ∧ R (.returned (retVal vs)) w') w) : Calls Tryd.prog 32 #[(Value.pointer a), (Value.string s)] w R :=
  have h := calls_of_tree (w := w) (R := R) (args := [.v (Value.pointer a), .v (Value.string s)]) (c := fastjson_Arena_NewNumberString.c) Tryd.func32 (show Tryd.f32.body = some fastjson_Arena_NewNumberString.c by kernel_rfl) (of_decide_eq_true (by kernel_rfl)) (fastjson_Arena_NewNumberString.e a s) hs
  h

/-! ### (*pub-tetrapla/pub/fastjson.Value).Uint64 : function 33 -/
def fastjson_Value_Uint64.t (v : (Option Addr)) : T :=
  .call 55 #[(Value.pointer v)] (.int .i64) fun (i0 : Int) =>
  .ite (i0 != (4 : Int)) (
    .call 52 #[(Value.string (ByteArray.mk #[(118 : UInt8), (97 : UInt8), (108 : UInt8), (117 : UInt8), (101 : UInt8), (32 : UInt8), (100 : UInt8), (111 : UInt8), (101 : UInt8), (115 : UInt8), (110 : UInt8), (39 : UInt8), (116 : UInt8), (32 : UInt8), (99 : UInt8), (111 : UInt8), (110 : UInt8), (116 : UInt8), (97 : UInt8), (105 : UInt8), (110 : UInt8), (32 : UInt8), (110 : UInt8), (117 : UInt8), (109 : UInt8), (98 : UInt8), (101 : UInt8), (114 : UInt8), (59 : UInt8), (32 : UInt8), (105 : UInt8), (116 : UInt8), (32 : UInt8), (99 : UInt8), (111 : UInt8), (110 : UInt8), (116 : UInt8), (97 : UInt8), (105 : UInt8), (110 : UInt8), (115 : UInt8)]))] .any fun (v1 : Value) =>
    .leaf 0 [(Value.int IntKind.u64 (0 : Int)), v1]) (
    .ptr v fun (z2 : Addr) =>
    .load (Addr.add z2 3) .str fun (s3 : ByteArray) =>
    .call 56 #[(Value.string s3)] (.tuple (.cons (.int .u64) (.cons .any .nil))) fun (z4 : (Int × (Value × PUnit))) =>
    .leaf 0 [(Value.int IntKind.u64 (z4).1), ((z4).2).1])
def fastjson_Value_Uint64.h : Hints := ⟨[], [], [], []⟩
noncomputable def fastjson_Value_Uint64.c : Code := (Tryd.f33.body).getD .skip
theorem fastjson_Value_Uint64.e (v : (Option Addr)) : fnT Tryd.prog fastjson_Value_Uint64.h Tryd.f33 fastjson_Value_Uint64.c [.v (Value.pointer v)] = fastjson_Value_Uint64.t v := by kernel_rfl
theorem fastjson_Value_Uint64.calls (v : (Option Addr)) {w : World} {R : Ending → World → Prop} (hs : sat Tryd.prog (fastjson_Value_Uint64.t v) (fun l vs w' => l = 0 ∧ R (.returned (retVal vs)) w') w) : Calls Tryd.prog 33 #[(Value.pointer v)] w R :=
  have h := calls_of_tree (w := w) (R := R) (args := [.v (Value.pointer v)]) (c := fastjson_Value_Uint64.c) Tryd.func33 (show Tryd.f33.body = some fastjson_Value_Uint64.c by kernel_rfl) (of_decide_eq_true (by kernel_rfl)) (fastjson_Value_Uint64.e v) hs
  h

/-! ### (*pub-tetrapla/pub/fastjson.Value).Uint : function 34 -/
def fastjson_Value_Uint.t (v : (Option Addr)) : T :=
  .call 55 #[(Value.pointer v)] (.int .i64) fun (i0 : Int) =>
  .ite (i0 != (4 : Int)) (
    .call 52 #[(Value.string (ByteArray.mk #[(118 : UInt8), (97 : UInt8), (108 : UInt8), (117 : UInt8), (101 : UInt8), (32 : UInt8), (100 : UInt8), (111 : UInt8), (101 : UInt8), (115 : UInt8), (110 : UInt8), (39 : UInt8), (116 : UInt8), (32 : UInt8), (99 : UInt8), (111 : UInt8), (110 : UInt8), (116 : UInt8), (97 : UInt8), (105 : UInt8), (110 : UInt8), (32 : UInt8), (110 : UInt8), (117 : UInt8), (109 : UInt8), (98 : UInt8), (101 : UInt8), (114 : UInt8), (59 : UInt8), (32 : UInt8), (105 : UInt8), (116 : UInt8), (32 : UInt8), (99 : UInt8), (111 : UInt8), (110 : UInt8), (116 : UInt8), (97 : UInt8), (105 : UInt8), (110 : UInt8), (115 : UInt8)]))] .any fun (v1 : Value) =>
    .leaf 0 [(Value.int IntKind.u64 (0 : Int)), v1]) (
    .ptr v fun (z2 : Addr) =>
    .load (Addr.add z2 3) .str fun (s3 : ByteArray) =>
    .call 56 #[(Value.string s3)] (.tuple (.cons (.int .u64) (.cons .any .nil))) fun (z4 : (Int × (Value × PUnit))) =>
    .chk ((isIface ((z4).2).1) = Bool.true) <|
    .ite (!(isNil ((z4).2).1)) (
      .leaf 0 [(Value.int IntKind.u64 (0 : Int)), ((z4).2).1]) (
      .ite ((z4).1 != (z4).1) (
        .call 52 #[(Value.string (ByteArray.mk #[(110 : UInt8), (117 : UInt8), (109 : UInt8), (98 : UInt8), (101 : UInt8), (114 : UInt8)]))] .any fun (v5 : Value) =>
        .leaf 0 [(Value.int IntKind.u64 (0 : Int)), v5]) (
        .leaf 0 [(Value.int IntKind.u64 (z4).1), Value.nilIface])))
def fastjson_Value_Uint.h : Hints := ⟨[], [], [], []⟩
noncomputable def fastjson_Value_Uint.c : Code := (Tryd.f34.body).getD .skip
theorem fastjson_Value_Uint.e (v : (Option Addr)) : fnT Tryd.prog fastjson_Value_Uint.h Tryd.f34 fastjson_Value_Uint.c [.v (Value.pointer v)] = fastjson_Value_Uint.t v := by kernel_rfl
theorem fastjson_Value_Uint.calls (v : (Option Addr)) {w : World} {R : Ending → World → Prop} (hs : sat Tryd.prog (fastjson_Value_Uint.t v) (fun l vs w' => l = 0 ∧ R (.returned (retVal vs)) w') w) : Calls Tryd.prog 34 #[(Value.pointer v)] w R :=
  have h := calls_of_tree (w := w) (R := R) (args := [.v (Value.pointer v)]) (c := fastjson_Value_Uint.c) Tryd.func34 (show Tryd.f34.body = some fastjson_Value_Uint.c by kernel_rfl) (of_decide_eq_true (by kernel_rfl)) (fastjson_Value_Uint.e v) hs
  h

/-! ### pub-tetrapla/spec.Character : function 44 -/
def spec_Character.t3 (q0 : ByteArray) (q1 : Int) (b2 : Bool) : T :=
  .ite b2 (
    .leaf 3 [(Value.int IntKind.i64 (IntKind.wrap IntKind.i64 ((IntKind.wrap IntKind.i64 (bt q0 q1)) - (240 : Int)))), (Value.int IntKind.i64 (3 : Int)), (Value.int IntKind.i64 (65536 : Int))]) (
    .leaf 0 [(Value.int IntKind.i64 (65533 : Int)), (Value.int IntKind.i64 (1 : Int)), (Value.bool Bool.false)])
def spec_Character.t4 (i3 : Int) (i4 : Int) (i5 : Int) : T :=
  .leaf 2 [(Value.int IntKind.i64 i3), (Value.int IntKind.i64 i4), (Value.int IntKind.i64 i5)]
def spec_Character.t2 (q0 : ByteArray) (q1 : Int) (b1 : Bool) : T :=
  .cut 3 (.cons (.int .i64) (.cons (.int .i64) (.cons (.int .i64) .nil))) (
    .ite b1 (
      .leaf 3 [(Value.int IntKind.i64 (IntKind.wrap IntKind.i64 ((IntKind.wrap IntKind.i64 (bt q0 q1)) - (224 : Int)))), (Value.int IntKind.i64 (2 : Int)), (Value.int IntKind.i64 (2048 : Int))]) (
      .cut 4 (.cons .bool .nil) (
        .ite (decide ((240 : Int) ≤ (IntKind.wrap IntKind.i64 (bt q0 q1)))) (
          .leaf 4 [(Value.bool (decide ((IntKind.wrap IntKind.i64 (bt q0 q1)) ≤ (244 : Int))))]) (
          .leaf 4 [(Value.bool Bool.false)]))
        (fun z => spec_Character.t3 q0 q1 z.1)))
    (fun z => spec_Character.t4 z.1 z.2.1 z.2.2.1)
def spec_Character.t5 (i6 : Int) (i7 : Int) (i8 : Int) : T :=
  .leaf 1 [(Value.int IntKind.i64 i6), (Value.int IntKind.i64 i7), (Value.int IntKind.i64 i8)]
def spec_Character.t1 (q0 : ByteArray) (q1 : Int) (b0 : Bool) : T :=
  .cut 2 (.cons (.int .i64) (.cons (.int .i64) (.cons (.int .i64) .nil))) (
    .ite b0 (
      .leaf 2 [(Value.int IntKind.i64 (IntKind.wrap IntKind.i64 ((IntKind.wrap IntKind.i64 (bt q0 q1)) - (192 : Int)))), (Value.int IntKind.i64 (1 : Int)), (Value.int IntKind.i64 (128 : Int))]) (
      .cut 3 (.cons .bool .nil) (
        .ite (decide ((224 : Int) ≤ (IntKind.wrap IntKind.i64 (bt q0 q1)))) (
          .leaf 3 [(Value.bool (decide ((IntKind.wrap IntKind.i64 (bt q0 q1)) ≤ (239 : Int))))]) (
          .leaf 3 [(Value.bool Bool.false)]))
        (fun z => spec_Character.t2 q0 q1 z.1)))
    (fun z => spec_Character.t5 z.1 z.2.1 z.2.2.1)
def spec_Character.t8 (q0 : ByteArray) (q1 : Int) (i12 : Int) (i13 : Int) (b14 : Bool) : T :=
  .ite b14 (
    .leaf 0 [(Value.int IntKind.i64 (65533 : Int)), (Value.int IntKind.i64 (1 : Int)), (Value.bool Bool.false)]) (
    .leaf 1 [(Value.int IntKind.i64 (IntKind.wrap IntKind.i64 (i12 + (1 : Int)))), (Value.int IntKind.i64 (IntKind.wrap IntKind.i64 ((IntKind.wrap IntKind.i64 ((IntKind.wrap IntKind.i64 (i13 * (64 : Int))) + (IntKind.wrap IntKind.i64 (bt q0 (IntKind.wrap IntKind.i64 (q1 + i12)))))) - (128 : Int))))])
def spec_Character.t7 (q0 : ByteArray) (q1 : Int) (i10 : Int) (i11 : Int) (i12 : Int) (i13 : Int) : T :=
  .ite (decide (i12 ≤ i10)) (
    .chk (((0 : Int) ≤ (IntKind.wrap IntKind.i64 (q1 + i12))) ∧ ((IntKind.wrap IntKind.i64 (q1 + i12)) < (((ByteArray.size q0) : Nat) : Int))) <|
    .cut 2 (.cons .bool .nil) (
      .ite (decide ((IntKind.wrap IntKind.i64 (bt q0 (IntKind.wrap IntKind.i64 (q1 + i12)))) < (128 : Int))) (
        .leaf 2 [(Value.bool Bool.true)]) (
        .leaf 2 [(Value.bool (decide ((IntKind.wrap IntKind.i64 (bt q0 (IntKind.wrap IntKind.i64 (q1 + i12)))) > (191 : Int))))]))
      (fun z => spec_Character.t8 q0 q1 i12 i13 z.1)) (
    .ite (decide (i13 < i11)) (
      .leaf 0 [(Value.int IntKind.i64 (65533 : Int)), (Value.int IntKind.i64 (1 : Int)), (Value.bool Bool.false)]) (
      .ite (decide (i13 > (1114111 : Int))) (
        .leaf 0 [(Value.int IntKind.i64 (65533 : Int)), (Value.int IntKind.i64 (1 : Int)), (Value.bool Bool.false)]) (
        .call 61 #[(Value.int IntKind.i64 i13)] .bool fun (b15 : Bool) =>
        .ite b15 (
          .leaf 0 [(Value.int IntKind.i64 (65533 : Int)), (Value.int IntKind.i64 (1 : Int)), (Value.bool Bool.false)]) (
          .call 62 #[(Value.int IntKind.i64 i13)] .bool fun (b16 : Bool) =>
          .ite b16 (
            .leaf 0 [(Value.int IntKind.i64 (65533 : Int)), (Value.int IntKind.i64 (1 : Int)), (Value.bool Bool.false)]) (
            .leaf 0 [(Value.int IntKind.i64 i13), (Value.int IntKind.i64 (IntKind.wrap IntKind.i64 (i10 + (1 : Int)))), (Value.bool Bool.true)])))))
def spec_Character.t6 (q0 : ByteArray) (q1 : Int) (i9 : Int) (i10 : Int) (i11 : Int) : T :=
  .ite (decide ((IntKind.wrap IntKind.i64 ((((ByteArray.size q0) : Nat) : Int) - q1)) ≤ i10)) (
    .leaf 0 [(Value.int IntKind.i64 (65533 : Int)), (Value.int IntKind.i64 (1 : Int)), (Value.bool Bool.false)]) (
    .loop 1 (.cons (.int .i64) (.cons (.int .i64) .nil)) [(Value.int IntKind.i64 (1 : Int)), (Value.int IntKind.i64 i9)]
      (fun z => spec_Character.t7 q0 q1 i10 i11 z.1 z.2.1))
def spec_Character.t (q0 : ByteArray) (q1 : Int) : T :=
  .chk (((0 : Int) ≤ q1) ∧ (q1 < (((ByteArray.size q0) : Nat) : Int))) <|
  .cut 1 (.cons (.int .i64) (.cons (.int .i64) (.cons (.int .i64) .nil))) (
    .ite (decide ((IntKind.wrap IntKind.i64 (bt q0 q1)) < (128 : Int))) (
      .leaf 0 [(Value.int IntKind.i64 (IntKind.wrap IntKind.i64 (bt q0 q1))), (Value.int IntKind.i64 (1 : Int)), (Value.bool Bool.true)]) (
      .cut 2 (.cons .bool .nil) (
        .ite (decide ((194 : Int) ≤ (IntKind.wrap IntKind.i64 (bt q0 q1)))) (
          .leaf 2 [(Value.bool (decide ((IntKind.wrap IntKind.i64 (bt q0 q1)) ≤ (223 : Int))))]) (
          .leaf 2 [(Value.bool Bool.false)]))
        (fun z => spec_Character.t1 q0 q1 z.1)))
    (fun z => spec_Character.t6 q0 q1 z.1 z.2.1 z.2.2.1)
def spec_Character.h : Hints := ⟨[(20, [(7, (.int .i64)), (8, (.int .i64)), (9, (.int .i64))]), (29, [(7, (.int .i64)), (8, (.int .i64)), (9, (.int .i64))])], [(0, [(7, (.int .i64)), (8, (.int .i64)), (9, (.int .i64))])], [(6, [(20, .bool)]), (8, [(29, .bool)]), (10, [(38, .bool)]), (18, [(69, .bool)])], [(15, [(10, (.int .i64)), (7, (.int .i64))])]⟩
noncomputable def spec_Character.c : Code := (Tryd.f44.body).getD .skip
theorem spec_Character.e (q0 : ByteArray) (q1 : Int) : fnT Tryd.prog spec_Character.h Tryd.f44 spec_Character.c [.v (Value.string q0), .v (Value.int IntKind.i64 q1)] = spec_Character.t q0 q1 := by kernel_rfl
theorem spec_Character.calls (q0 : ByteArray) (q1 : Int) {w : World} {R : Ending → World → Prop} (hs : sat Tryd.prog (spec_Character.t q0 q1) (fun l vs w' => l = 0 ∧ R (.returned (retVal vs)) w') w) : Calls Tryd.prog 44 #[(Value.string q0), (Value.int IntKind.i64 q1)] w R :=
  have h := calls_of_tree (w := w) (R := R) (args := [.v (Value.string q0), .v (Value.int IntKind.i64 q1)]) (c := spec_Character.c) Tryd.func44 (show Tryd.f44.body = some spec_Character.c by kernel_rfl) (of_decide_eq_true (by kernel_rfl)) (spec_Character.e q0 q1) hs
  h

/-! ### pub-tetrapla/pub/gjson.AppendJSONString : function 45 -/
def gjson_AppendJSONString.t4 (q1 : ByteArray) (i4 : Int) (z5 : ((Option Addr) × (Nat × Nat))) (z32 : (Int × (Int × PUnit))) (b37 : Bool) : T :=
  .ite b37 (
    .eff (Builtin.append_ (Call.argTypes (Call.mk (Callee.builtin Builtin.append) #[(Operand.tmp 146), (Operand.const (Value.string (ByteArray.mk #[(92 : UInt8), (117 : UInt8), (50 : UInt8), (48 : UInt8), (50 : UInt8)])))] #[48, 9])) 48 #[(Value.slice (z5).1 ((z5).2).1 ((z5).2).2), (Value.string (ByteArray.mk #[(92 : UInt8), (117 : UInt8), (50 : UInt8), (48 : UInt8), (50 : UInt8)]))]) .slice fun (z38 : ((Option Addr) × (Nat × Nat))) =>
    .chk (((0 : Int) ≤ (IntKind.wrap IntKind.i32 (((BitVec.toNat ((BitVec.ofInt 32 (z32).1) &&& (BitVec.ofInt 32 (15 : Int)))) : Nat) : Int))) ∧ ((IntKind.wrap IntKind.i32 (((BitVec.toNat ((BitVec.ofInt 32 (z32).1) &&& (BitVec.ofInt 32 (15 : Int)))) : Nat) : Int)) < (16 : Int))) <|
    .load (Addr.add (Addr.mk 0 0 Option.none) ((Int.toNat (IntKind.wrap IntKind.i32 (((BitVec.toNat ((BitVec.ofInt 32 (z32).1) &&& (BitVec.ofInt 32 (15 : Int)))) : Nat) : Int))) * 1)) (.int .u8) fun (i39 : Int) =>
    .eff (Instr.buildSlice 48 1 #[(0, (Value.int IntKind.u8 i39))]) .slice fun (z40 : ((Option Addr) × (Nat × Nat))) =>
    .eff (Builtin.append_ (Call.argTypes (Call.mk (Callee.builtin Builtin.append) #[(Operand.tmp 148), (Operand.tmp 153)] #[48, 48])) 48 #[(Value.slice (z38).1 ((z38).2).1 ((z38).2).2), (Value.slice (z40).1 ((z40).2).1 ((z40).2).2)]) .slice fun (z41 : ((Option Addr) × (Nat × Nat))) =>
    .leaf 1 [(Value.int IntKind.i64 (IntKind.wrap IntKind.i64 ((IntKind.wrap IntKind.i64 ((IntKind.wrap IntKind.i64 (i4 + ((z32).2).1)) - (1 : Int))) + (1 : Int)))), (Value.slice (z41).1 ((z41).2).1 ((z41).2).2)]) (
    .chk (((0 : Int) ≤ i4) ∧ ((i4 ≤ (IntKind.wrap IntKind.i64 (i4 + ((z32).2).1))) ∧ ((IntKind.wrap IntKind.i64 (i4 + ((z32).2).1)) ≤ (((ByteArray.size q1) : Nat) : Int)))) <|
    .eff (Builtin.append_ (Call.argTypes (Call.mk (Callee.builtin Builtin.append) #[(Operand.tmp 155), (Operand.tmp 161)] #[48, 9])) 48 #[(Value.slice (z5).1 ((z5).2).1 ((z5).2).2), (Value.string (ByteArray.extract q1 (Int.toNat i4) (Int.toNat (IntKind.wrap IntKind.i64 (i4 + ((z32).2).1)))))]) .slice fun (z42 : ((Option Addr) × (Nat × Nat))) =>
    .leaf 1 [(Value.int IntKind.i64 (IntKind.wrap IntKind.i64 ((IntKind.wrap IntKind.i64 ((IntKind.wrap IntKind.i64 (i4 + ((z32).2).1)) - (1 : Int))) + (1 : Int)))), (Value.slice (z42).1 ((z42).2).1 ((z42).2).2)])
def gjson_AppendJSONString.t3 (q1 : ByteArray) (i4 : Int) (z5 : ((Option Addr) × (Nat × Nat))) (z32 : (Int × (Int × PUnit))) (b35 : Bool) : T :=
  .ite b35 (
    .eff (Builtin.append_ (Call.argTypes (Call.mk (Callee.builtin Builtin.append) #[(Operand.tmp 138), (Operand.const (Value.string (ByteArray.mk #[(239 : UInt8), (191 : UInt8), (189 : UInt8)])))] #[48, 9])) 48 #[(Value.slice (z5).1 ((z5).2).1 ((z5).2).2), (Value.string (ByteArray.mk #[(239 : UInt8), (191 : UInt8), (189 : UInt8)]))]) .slice fun (z36 : ((Option Addr) × (Nat × Nat))) =>
    .leaf 1 [(Value.int IntKind.i64 (IntKind.wrap IntKind.i64 ((IntKind.wrap IntKind.i64 ((IntKind.wrap IntKind.i64 (i4 + ((z32).2).1)) - (1 : Int))) + (1 : Int)))), (Value.slice (z36).1 ((z36).2).1 ((z36).2).2)]) (
    .cut 2 (.cons .bool .nil) (
      .ite ((z32).1 == (8232 : Int)) (
        .leaf 2 [(Value.bool Bool.true)]) (
        .leaf 2 [(Value.bool ((z32).1 == (8233 : Int)))]))
      (fun z => gjson_AppendJSONString.t4 q1 i4 z5 z32 z.1))
def gjson_AppendJSONString.t2 (q1 : ByteArray) (i4 : Int) (z5 : ((Option Addr) × (Nat × Nat))) (b21 : Bool) : T :=
  .ite b21 (
    .call 64 #[] .bool fun (b22 : Bool) =>
    .ite b22 (
      .eff (Instr.buildSlice 48 2 #[(0, (Value.int IntKind.u8 (92 : Int))), (1, (Value.int IntKind.u8 (117 : Int)))]) .slice fun (z23 : ((Option Addr) × (Nat × Nat))) =>
      .eff (Builtin.append_ (Call.argTypes (Call.mk (Callee.builtin Builtin.append) #[(Operand.tmp 90), (Operand.tmp 91)] #[48, 48])) 48 #[(Value.slice (z5).1 ((z5).2).1 ((z5).2).2), (Value.slice (z23).1 ((z23).2).1 ((z23).2).2)]) .slice fun (z24 : ((Option Addr) × (Nat × Nat))) =>
      .chk (((0 : Int) ≤ i4) ∧ (i4 < (((ByteArray.size q1) : Nat) : Int))) <|
      .call 63 #[(Value.slice (z24).1 ((z24).2).1 ((z24).2).2), (Value.int IntKind.u16 (IntKind.wrap IntKind.u16 (bt q1 i4)))] .slice fun (z25 : ((Option Addr) × (Nat × Nat))) =>
      .leaf 1 [(Value.int IntKind.i64 (IntKind.wrap IntKind.i64 (i4 + (1 : Int)))), (Value.slice (z25).1 ((z25).2).1 ((z25).2).2)]) (
      .chk (((0 : Int) ≤ i4) ∧ (i4 < (((ByteArray.size q1) : Nat) : Int))) <|
      .eff (Instr.buildSlice 48 1 #[(0, (Value.int IntKind.u8 (bt q1 i4)))]) .slice fun (z26 : ((Option Addr) × (Nat × Nat))) =>
      .eff (Builtin.append_ (Call.argTypes (Call.mk (Callee.builtin Builtin.append) #[(Operand.tmp 99), (Operand.tmp 103)] #[48, 48])) 48 #[(Value.slice (z5).1 ((z5).2).1 ((z5).2).2), (Value.slice (z26).1 ((z26).2).1 ((z26).2).2)]) .slice fun (z27 : ((Option Addr) × (Nat × Nat))) =>
      .leaf 1 [(Value.int IntKind.i64 (IntKind.wrap IntKind.i64 (i4 + (1 : Int)))), (Value.slice (z27).1 ((z27).2).1 ((z27).2).2)])) (
    .chk (((0 : Int) ≤ i4) ∧ (i4 < (((ByteArray.size q1) : Nat) : Int))) <|
    .ite ((bt q1 i4) == (92 : Int)) (
      .eff (Instr.buildSlice 48 2 #[(0, (Value.int IntKind.u8 (92 : Int))), (1, (Value.int IntKind.u8 (92 : Int)))]) .slice fun (z28 : ((Option Addr) × (Nat × Nat))) =>
      .eff (Builtin.append_ (Call.argTypes (Call.mk (Callee.builtin Builtin.append) #[(Operand.tmp 109), (Operand.tmp 110)] #[48, 48])) 48 #[(Value.slice (z5).1 ((z5).2).1 ((z5).2).2), (Value.slice (z28).1 ((z28).2).1 ((z28).2).2)]) .slice fun (z29 : ((Option Addr) × (Nat × Nat))) =>
      .leaf 1 [(Value.int IntKind.i64 (IntKind.wrap IntKind.i64 (i4 + (1 : Int)))), (Value.slice (z29).1 ((z29).2).1 ((z29).2).2)]) (
      .chk (((0 : Int) ≤ i4) ∧ (i4 < (((ByteArray.size q1) : Nat) : Int))) <|
      .ite ((bt q1 i4) == (34 : Int)) (
        .eff (Instr.buildSlice 48 2 #[(0, (Value.int IntKind.u8 (92 : Int))), (1, (Value.int IntKind.u8 (34 : Int)))]) .slice fun (z30 : ((Option Addr) × (Nat × Nat))) =>
        .eff (Builtin.append_ (Call.argTypes (Call.mk (Callee.builtin Builtin.append) #[(Operand.tmp 116), (Operand.tmp 117)] #[48, 48])) 48 #[(Value.slice (z5).1 ((z5).2).1 ((z5).2).2), (Value.slice (z30).1 ((z30).2).1 ((z30).2).2)]) .slice fun (z31 : ((Option Addr) × (Nat × Nat))) =>
        .leaf 1 [(Value.int IntKind.i64 (IntKind.wrap IntKind.i64 (i4 + (1 : Int)))), (Value.slice (z31).1 ((z31).2).1 ((z31).2).2)]) (
        .chk (((0 : Int) ≤ i4) ∧ (i4 < (((ByteArray.size q1) : Nat) : Int))) <|
        .ite (decide ((bt q1 i4) > (127 : Int))) (
          .chk (((0 : Int) ≤ i4) ∧ ((i4 ≤ (((ByteArray.size q1) : Nat) : Int)) ∧ ((((ByteArray.size q1) : Nat) : Int) ≤ (((ByteArray.size q1) : Nat) : Int)))) <|
          .call 65 #[(Value.string (ByteArray.extract q1 (Int.toNat i4) (Int.toNat (((ByteArray.size q1) : Nat) : Int))))] (.tuple (.cons (.int .i32) (.cons (.int .i64) .nil))) fun (z32 : (Int × (Int × PUnit))) =>
          .ite (((z32).2).1 == (0 : Int)) (
            .eff (Instr.buildSlice 48 1 #[(0, (Value.int IntKind.u8 (34 : Int)))]) .slice fun (z33 : ((Option Addr) × (Nat × Nat))) =>
            .eff (Builtin.append_ (Call.argTypes (Call.mk (Callee.builtin Builtin.append) #[(Operand.tmp 173), (Operand.tmp 174)] #[48, 48])) 48 #[(Value.slice (z5).1 ((z5).2).1 ((z5).2).2), (Value.slice (z33).1 ((z33).2).1 ((z33).2).2)]) .slice fun (z34 : ((Option Addr) × (Nat × Nat))) =>
            .leaf 0 [(Value.slice (z34).1 ((z34).2).1 ((z34).2).2)]) (
            .cut 2 (.cons .bool .nil) (
              .ite ((z32).1 == (65533 : Int)) (
                .leaf 2 [(Value.bool (((z32).2).1 == (1 : Int)))]) (
                .leaf 2 [(Value.bool Bool.false)]))
              (fun z => gjson_AppendJSONString.t3 q1 i4 z5 z32 z.1))) (
          .chk (((0 : Int) ≤ i4) ∧ (i4 < (((ByteArray.size q1) : Nat) : Int))) <|
          .eff (Instr.buildSlice 48 1 #[(0, (Value.int IntKind.u8 (bt q1 i4)))]) .slice fun (z43 : ((Option Addr) × (Nat × Nat))) =>
          .eff (Builtin.append_ (Call.argTypes (Call.mk (Callee.builtin Builtin.append) #[(Operand.tmp 167), (Operand.tmp 171)] #[48, 48])) 48 #[(Value.slice (z5).1 ((z5).2).1 ((z5).2).2), (Value.slice (z43).1 ((z43).2).1 ((z43).2).2)]) .slice fun (z44 : ((Option Addr) × (Nat × Nat))) =>
          .leaf 1 [(Value.int IntKind.i64 (IntKind.wrap IntKind.i64 (i4 + (1 : Int)))), (Value.slice (z44).1 ((z44).2).1 ((z44).2).2)]))))
def gjson_AppendJSONString.t1 (q1 : ByteArray) (i4 : Int) (z5 : ((Option Addr) × (Nat × Nat))) : T :=
  .ite (decide (i4 < (((ByteArray.size q1) : Nat) : Int))) (
    .chk (((0 : Int) ≤ i4) ∧ (i4 < (((ByteArray.size q1) : Nat) : Int))) <|
    .ite (decide ((bt q1 i4) < (32 : Int))) (
      .eff (Instr.buildSlice 48 1 #[(0, (Value.int IntKind.u8 (92 : Int)))]) .slice fun (z6 : ((Option Addr) × (Nat × Nat))) =>
      .eff (Builtin.append_ (Call.argTypes (Call.mk (Callee.builtin Builtin.append) #[(Operand.tmp 33), (Operand.tmp 34)] #[48, 48])) 48 #[(Value.slice (z5).1 ((z5).2).1 ((z5).2).2), (Value.slice (z6).1 ((z6).2).1 ((z6).2).2)]) .slice fun (z7 : ((Option Addr) × (Nat × Nat))) =>
      .chk (((0 : Int) ≤ i4) ∧ (i4 < (((ByteArray.size q1) : Nat) : Int))) <|
      .ite ((bt q1 i4) == (8 : Int)) (
        .eff (Instr.buildSlice 48 1 #[(0, (Value.int IntKind.u8 (98 : Int)))]) .slice fun (z8 : ((Option Addr) × (Nat × Nat))) =>
        .eff (Builtin.append_ (Call.argTypes (Call.mk (Callee.builtin Builtin.append) #[(Operand.tmp 50), (Operand.tmp 51)] #[48, 48])) 48 #[(Value.slice (z7).1 ((z7).2).1 ((z7).2).2), (Value.slice (z8).1 ((z8).2).1 ((z8).2).2)]) .slice fun (z9 : ((Option Addr) × (Nat × Nat))) =>
        .leaf 1 [(Value.int IntKind.i64 (IntKind.wrap IntKind.i64 (i4 + (1 : Int)))), (Value.slice (z9).1 ((z9).2).1 ((z9).2).2)]) (
        .ite ((bt q1 i4) == (12 : Int)) (
          .eff (Instr.buildSlice 48 1 #[(0, (Value.int IntKind.u8 (102 : Int)))]) .slice fun (z10 : ((Option Addr) × (Nat × Nat))) =>
          .eff (Builtin.append_ (Call.argTypes (Call.mk (Callee.builtin Builtin.append) #[(Operand.tmp 55), (Operand.tmp 56)] #[48, 48])) 48 #[(Value.slice (z7).1 ((z7).2).1 ((z7).2).2), (Value.slice (z10).1 ((z10).2).1 ((z10).2).2)]) .slice fun (z11 : ((Option Addr) × (Nat × Nat))) =>
          .leaf 1 [(Value.int IntKind.i64 (IntKind.wrap IntKind.i64 (i4 + (1 : Int)))), (Value.slice (z11).1 ((z11).2).1 ((z11).2).2)]) (
          .ite ((bt q1 i4) == (10 : Int)) (
            .eff (Instr.buildSlice 48 1 #[(0, (Value.int IntKind.u8 (110 : Int)))]) .slice fun (z12 : ((Option Addr) × (Nat × Nat))) =>
            .eff (Builtin.append_ (Call.argTypes (Call.mk (Callee.builtin Builtin.append) #[(Operand.tmp 60), (Operand.tmp 61)] #[48, 48])) 48 #[(Value.slice (z7).1 ((z7).2).1 ((z7).2).2), (Value.slice (z12).1 ((z12).2).1 ((z12).2).2)]) .slice fun (z13 : ((Option Addr) × (Nat × Nat))) =>
            .leaf 1 [(Value.int IntKind.i64 (IntKind.wrap IntKind.i64 (i4 + (1 : Int)))), (Value.slice (z13).1 ((z13).2).1 ((z13).2).2)]) (
            .ite ((bt q1 i4) == (13 : Int)) (
              .eff (Instr.buildSlice 48 1 #[(0, (Value.int IntKind.u8 (114 : Int)))]) .slice fun (z14 : ((Option Addr) × (Nat × Nat))) =>
              .eff (Builtin.append_ (Call.argTypes (Call.mk (Callee.builtin Builtin.append) #[(Operand.tmp 65), (Operand.tmp 66)] #[48, 48])) 48 #[(Value.slice (z7).1 ((z7).2).1 ((z7).2).2), (Value.slice (z14).1 ((z14).2).1 ((z14).2).2)]) .slice fun (z15 : ((Option Addr) × (Nat × Nat))) =>
              .leaf 1 [(Value.int IntKind.i64 (IntKind.wrap IntKind.i64 (i4 + (1 : Int)))), (Value.slice (z15).1 ((z15).2).1 ((z15).2).2)]) (
              .ite ((bt q1 i4) == (9 : Int)) (
                .eff (Instr.buildSlice 48 1 #[(0, (Value.int IntKind.u8 (116 : Int)))]) .slice fun (z16 : ((Option Addr) × (Nat × Nat))) =>
                .eff (Builtin.append_ (Call.argTypes (Call.mk (Callee.builtin Builtin.append) #[(Operand.tmp 70), (Operand.tmp 71)] #[48, 48])) 48 #[(Value.slice (z7).1 ((z7).2).1 ((z7).2).2), (Value.slice (z16).1 ((z16).2).1 ((z16).2).2)]) .slice fun (z17 : ((Option Addr) × (Nat × Nat))) =>
                .leaf 1 [(Value.int IntKind.i64 (IntKind.wrap IntKind.i64 (i4 + (1 : Int)))), (Value.slice (z17).1 ((z17).2).1 ((z17).2).2)]) (
                .eff (Instr.buildSlice 48 1 #[(0, (Value.int IntKind.u8 (117 : Int)))]) .slice fun (z18 : ((Option Addr) × (Nat × Nat))) =>
                .eff (Builtin.append_ (Call.argTypes (Call.mk (Callee.builtin Builtin.append) #[(Operand.tmp 39), (Operand.tmp 40)] #[48, 48])) 48 #[(Value.slice (z7).1 ((z7).2).1 ((z7).2).2), (Value.slice (z18).1 ((z18).2).1 ((z18).2).2)]) .slice fun (z19 : ((Option Addr) × (Nat × Nat))) =>
                .chk (((0 : Int) ≤ i4) ∧ (i4 < (((ByteArray.size q1) : Nat) : Int))) <|
                .call 63 #[(Value.slice (z19).1 ((z19).2).1 ((z19).2).2), (Value.int IntKind.u16 (IntKind.wrap IntKind.u16 (bt q1 i4)))] .slice fun (z20 : ((Option Addr) × (Nat × Nat))) =>
                .leaf 1 [(Value.int IntKind.i64 (IntKind.wrap IntKind.i64 (i4 + (1 : Int)))), (Value.slice (z20).1 ((z20).2).1 ((z20).2).2)])))))) (
      .cut 2 (.cons .bool .nil) (
        .chk (((0 : Int) ≤ i4) ∧ (i4 < (((ByteArray.size q1) : Nat) : Int))) <|
        .ite ((bt q1 i4) == (62 : Int)) (
          .leaf 2 [(Value.bool Bool.true)]) (
          .chk (((0 : Int) ≤ i4) ∧ (i4 < (((ByteArray.size q1) : Nat) : Int))) <|
          .ite ((bt q1 i4) == (60 : Int)) (
            .leaf 2 [(Value.bool Bool.true)]) (
            .chk (((0 : Int) ≤ i4) ∧ (i4 < (((ByteArray.size q1) : Nat) : Int))) <|
            .leaf 2 [(Value.bool ((bt q1 i4) == (38 : Int)))])))
        (fun z => gjson_AppendJSONString.t2 q1 i4 z5 z.1))) (
    .eff (Instr.buildSlice 48 1 #[(0, (Value.int IntKind.u8 (34 : Int)))]) .slice fun (z45 : ((Option Addr) × (Nat × Nat))) =>
    .eff (Builtin.append_ (Call.argTypes (Call.mk (Callee.builtin Builtin.append) #[(Operand.tmp 173), (Operand.tmp 174)] #[48, 48])) 48 #[(Value.slice (z5).1 ((z5).2).1 ((z5).2).2), (Value.slice (z45).1 ((z45).2).1 ((z45).2).2)]) .slice fun (z46 : ((Option Addr) × (Nat × Nat))) =>
    .leaf 0 [(Value.slice (z46).1 ((z46).2).1 ((z46).2).2)])
def gjson_AppendJSONString.t (q0 : (Option Addr)) (q0_len : Nat) (q0_cap : Nat) (q1 : ByteArray) : T :=
  .eff (Builtin.append_ (Call.argTypes (Call.mk (Callee.builtin Builtin.append) #[(Operand.tmp 8), (Operand.tmp 11)] #[48, 3])) 48 #[(Value.slice q0 q0_len q0_cap), (Value.int IntKind.i64 (IntKind.wrap IntKind.i64 ((((ByteArray.size q1) : Nat) : Int) + (2 : Int))))]) .slice fun (z0 : ((Option Addr) × (Nat × Nat))) =>
  .chk (((0 : Int) ≤ (0 : Int)) ∧ (((0 : Int) ≤ (IntKind.wrap IntKind.i64 ((IntKind.wrap IntKind.i64 (((((z0).2).1 : Nat) : Int) - (((ByteArray.size q1) : Nat) : Int))) - (2 : Int)))) ∧ ((IntKind.wrap IntKind.i64 ((IntKind.wrap IntKind.i64 (((((z0).2).1 : Nat) : Int) - (((ByteArray.size q1) : Nat) : Int))) - (2 : Int))) ≤ ((((z0).2).2 : Nat) : Int)))) <|
  .eff (Instr.buildSlice 48 1 #[(0, (Value.int IntKind.u8 (34 : Int)))]) .slice fun (z1 : ((Option Addr) × (Nat × Nat))) =>
  .eff (Builtin.append_ (Call.argTypes (Call.mk (Callee.builtin Builtin.append) #[(Operand.tmp 20), (Operand.tmp 21)] #[48, 48])) 48 #[(Value.slice (if (((z0).2).2 = 0) then (z0).1 else (Option.map (fun (y2 : Addr) => (Addr.add y2 0)) (z0).1)) ((Int.toNat (IntKind.wrap IntKind.i64 ((IntKind.wrap IntKind.i64 (((((z0).2).1 : Nat) : Int) - (((ByteArray.size q1) : Nat) : Int))) - (2 : Int)))) - 0) (((z0).2).2 - 0)), (Value.slice (z1).1 ((z1).2).1 ((z1).2).2)]) .slice fun (z3 : ((Option Addr) × (Nat × Nat))) =>
  .loop 1 (.cons (.int .i64) (.cons .slice .nil)) [(Value.int IntKind.i64 (0 : Int)), (Value.slice (z3).1 ((z3).2).1 ((z3).2).2)]
    (fun z => gjson_AppendJSONString.t1 q1 z.1 z.2.1)
def gjson_AppendJSONString.h : Hints := ⟨[], [], [(21, [(88, .bool)]), (33, [(137, .bool)]), (35, [(145, .bool)])], [(4, [(5, (.int .i64)), (0, .slice)])]⟩
noncomputable def gjson_AppendJSONString.c : Code := (Tryd.f45.body).getD .skip
theorem gjson_AppendJSONString.e (q0 : (Option Addr)) (q0_len : Nat) (q0_cap : Nat) (q1 : ByteArray) : fnT Tryd.prog gjson_AppendJSONString.h Tryd.f45 gjson_AppendJSONString.c [.v (Value.slice q0 q0_len q0_cap), .v (Value.string q1)] = gjson_AppendJSONString.t q0 q0_len q0_cap q1 := by kernel_rfl
theorem gjson_AppendJSONString.calls (q0 : (Option Addr)) (q0_len : Nat) (q0_cap : Nat) (q1 : ByteArray) {w : World} {R : Ending → World → Prop} (hs : sat Tryd.prog (gjson_AppendJSONString.t q0 q0_len q0_cap q1) (fun l vs w' => l = 0 ∧ R (.returned (retVal vs)) w') w) : Calls Tryd.prog 45 #[(Value.slice q0 q0_len q0_cap), (Value.string q1)] w R :=
  have h := calls_of_tree (w := w) (R := R) (args := [.v (Value.slice q0 q0_len q0_cap), .v (Value.string q1)]) (c := gjson_AppendJSONString.c) Tryd.func45 (show Tryd.f45.body = some gjson_AppendJSONString.c by kernel_rfl) (of_decide_eq_true (by kernel_rfl)) (gjson_AppendJSONString.e q0 q0_len q0_cap q1) hs
  h

/-! ### pub-tetrapla/pub/gjson.DoorSquash : function 46 -/
def gjson_DoorSquash.t (s : ByteArray) : T :=
  .call 66 #[(Value.string s)] .str fun (s0 : ByteArray) =>
  .leaf 0 [(Value.string s0)]
def gjson_DoorSquash.h : Hints := ⟨[], [], [], []⟩
noncomputable def gjson_DoorSquash.c : Code := (Tryd.f46.body).getD .skip
theorem gjson_DoorSquash.e (s : ByteArray) : fnT Tryd.prog gjson_DoorSquash.h Tryd.f46 gjson_DoorSquash.c [.v (Value.string s)] = gjson_DoorSquash.t s := by kernel_rfl
theorem gjson_DoorSquash.calls (s : ByteArray) {w : World} {R : Ending → World → Prop} (hs : sat Tryd.prog (gjson_DoorSquash.t s) (fun l vs w' => l = 0 ∧ R (.returned (retVal vs)) w') w) : Calls Tryd.prog 46 #[(Value.string s)] w R :=
  have h := calls_of_tree (w := w) (R := R) (args := [.v (Value.string s)]) (c := gjson_DoorSquash.c) Tryd.func46 (show Tryd.f46.body = some gjson_DoorSquash.c by kernel_rfl) (of_decide_eq_true (by kernel_rfl)) (gjson_DoorSquash.e s) hs
  h

/-! ### pub-tetrapla/pub/gjson.DoorTostr : function 47 -/
def gjson_DoorTostr.t (s : ByteArray) : T :=
  .call 67 #[(Value.string s)] (.tuple (.cons .str (.cons .str .nil))) fun (z0 : (ByteArray × (ByteArray × PUnit))) =>
  .leaf 0 [(Value.string (z0).1), (Value.string ((z0).2).1)]
def gjson_DoorTostr.h : Hints := ⟨[], [], [], []⟩
noncomputable def gjson_DoorTostr.c : Code := (Tryd.f47.body).getD .skip
theorem gjson_DoorTostr.e (s : ByteArray) : fnT Tryd.prog gjson_DoorTostr.h Tryd.f47 gjson_DoorTostr.c [.v (Value.string s)] = gjson_DoorTostr.t s := by kernel_rfl
theorem gjson_DoorTostr.calls (s : ByteArray) {w : World} {R : Ending → World → Prop} (hs : sat Tryd.prog (gjson_DoorTostr.t s) (fun l vs w' => l = 0 ∧ R (.returned (retVal vs)) w') w) : Calls Tryd.prog 47 #[(Value.string s)] w R :=
  have h := calls_of_tree (w := w) (R := R) (args := [.v (Value.string s)]) (c := gjson_DoorTostr.c) Tryd.func47 (show Tryd.f47.body = some gjson_DoorTostr.c by kernel_rfl) (of_decide_eq_true (by kernel_rfl)) (gjson_DoorTostr.e s) hs
  h

/-! ### (*pub-tetrapla/pub/fastjson.cache).getValue : function 48 -/
def fastjson_cache_getValue.t (c0 : (Option Addr)) : T :=
  .drew <|
  .ptr c0 fun (z0 : Addr) =>
  .load (Addr.add z0 0) .slice fun (z1 : ((Option Addr) × (Nat × Nat))) =>
  .ptr c0 fun (z2 : Addr) =>
  .load (Addr.add z2 0) .slice fun (z3 : ((Option Addr) × (Nat × Nat))) =>
  .ite (decide (((((z1).2).2 : Nat) : Int) > ((((z3).2).1 : Nat) : Int))) (
    .drew <|
    .ptr c0 fun (z4 : Addr) =>
    .load (Addr.add z4 0) .slice fun (z5 : ((Option Addr) × (Nat × Nat))) =>
    .ptr c0 fun (z6 : Addr) =>
    .load (Addr.add z6 0) .slice fun (z7 : ((Option Addr) × (Nat × Nat))) =>
    .chk (((0 : Int) ≤ (0 : Int)) ∧ (((0 : Int) ≤ (IntKind.wrap IntKind.i64 (((((z7).2).1 : Nat) : Int) + (1 : Int)))) ∧ ((IntKind.wrap IntKind.i64 (((((z7).2).1 : Nat) : Int) + (1 : Int))) ≤ ((((z5).2).2 : Nat) : Int)))) <|
    .ptr c0 fun (z8 : Addr) =>
    .store (Addr.add z8 0) (Value.slice (if (((z5).2).2 = 0) then (z5).1 else (Option.map (fun (y9 : Addr) => (Addr.add y9 0)) (z5).1)) ((Int.toNat (IntKind.wrap IntKind.i64 (((((z7).2).1 : Nat) : Int) + (1 : Int)))) - 0) (((z5).2).2 - 0)) <|
    .drew <|
    .ptr c0 fun (z10 : Addr) =>
    .load (Addr.add z10 0) .slice fun (z11 : ((Option Addr) × (Nat × Nat))) =>
    .ptr c0 fun (z12 : Addr) =>
    .load (Addr.add z12 0) .slice fun (z13 : ((Option Addr) × (Nat × Nat))) =>
    .chk (((0 : Int) ≤ (IntKind.wrap IntKind.i64 (((((z13).2).1 : Nat) : Int) - (1 : Int)))) ∧ ((IntKind.wrap IntKind.i64 (((((z13).2).1 : Nat) : Int) - (1 : Int))) < ((((z11).2).1 : Nat) : Int))) <|
    .ptr (z11).1 fun (z14 : Addr) =>
    .leaf 0 [(Value.pointer (some (Addr.add z14 ((Int.toNat (IntKind.wrap IntKind.i64 (((((z13).2).1 : Nat) : Int) - (1 : Int)))) * 5))))]) (
    .ptr c0 fun (z15 : Addr) =>
    .load (Addr.add z15 0) .slice fun (z16 : ((Option Addr) × (Nat × Nat))) =>
    .eff (Instr.buildSlice 49 1 #[(0, (Value.agg #[(Value.slice none 0 0), (Value.bool Bool.false), (Value.slice none 0 0), (Value.string (ByteArray.mk #[])), (Value.int IntKind.i64 (0 : Int))]))]) .slice fun (z17 : ((Option Addr) × (Nat × Nat))) =>
    .eff (Builtin.append_ (Call.argTypes (Call.mk (Callee.builtin Builtin.append) #[(Operand.tmp 32), (Operand.tmp 34)] #[49, 49])) 49 #[(Value.slice (z16).1 ((z16).2).1 ((z16).2).2), (Value.slice (z17).1 ((z17).2).1 ((z17).2).2)]) .slice fun (z18 : ((Option Addr) × (Nat × Nat))) =>
    .ptr c0 fun (z19 : Addr) =>
    .store (Addr.add z19 0) (Value.slice (z18).1 ((z18).2).1 ((z18).2).2) <|
    .drew <|
    .ptr c0 fun (z20 : Addr) =>
    .load (Addr.add z20 0) .slice fun (z21 : ((Option Addr) × (Nat × Nat))) =>
    .ptr c0 fun (z22 : Addr) =>
    .load (Addr.add z22 0) .slice fun (z23 : ((Option Addr) × (Nat × Nat))) =>
    .chk (((0 : Int) ≤ (IntKind.wrap IntKind.i64 (((((z23).2).1 : Nat) : Int) - (1 : Int)))) ∧ ((IntKind.wrap IntKind.i64 (((((z23).2).1 : Nat) : Int) - (1 : Int))) < ((((z21).2).1 : Nat) : Int))) <|
    .ptr (z21).1 fun (z24 : Addr) =>
    .leaf 0 [(Value.pointer (some (Addr.add z24 ((Int.toNat (IntKind.wrap IntKind.i64 (((((z23).2).1 : Nat) : Int) - (1 : Int)))) * 5))))])
def fastjson_cache_getValue.h : Hints := ⟨[], [], [], []⟩
noncomputable def fastjson_cache_getValue.c : Code := (Tryd.f48.body).getD .skip
theorem fastjson_cache_getValue.e (c0 : (Option Addr)) : fnT Tryd.prog fastjson_cache_getValue.h Tryd.f48 fastjson_cache_getValue.c [.v (Value.pointer c0)] = fastjson_cache_getValue.t c0 := by kernel_rfl
theorem fastjson_cache_getValue.calls (c0 : (Option Addr)) {w : World} {R : Ending → World → Prop} (hs : sat Tryd.prog (fastjson_cache_getValue.t c0) (fun l vs w' => l = 0 ∧ R (.returned (retVal vs)) w') w) : Calls Tryd.prog 48 #[(Value.pointer c0)] w R :=
  have h := calls_of_tree (w := w) (R := R) (args := [.v (Value.pointer c0)]) (c := fastjson_cache_getValue.c) Tryd.func48 (show Tryd.f48.body = some fastjson_cache_getValue.c by kernel_rfl) (of_decide_eq_true (by kernel_rfl)) (fastjson_cache_getValue.e c0) hs
  h

/-! ### pub-tetrapla/pub/fastjson.b2s : function 50 -/
def fastjson_b2s.t (b : (Option Addr)) (b_len : Nat) (b_cap : Nat) : T :=
  .eff (convert 48 9 (Value.slice b b_len b_cap)) .str fun (s0 : ByteArray) =>
  .leaf 0 [(Value.string s0)]
def fastjson_b2s.h : Hints := ⟨[], [], [], []⟩
noncomputable def fastjson_b2s.c : Code := (Tryd.f50.body).getD .skip
theorem fastjson_b2s.e (b : (Option Addr)) (b_len : Nat) (b_cap : Nat) : fnT Tryd.prog fastjson_b2s.h Tryd.f50 fastjson_b2s.c [.v (Value.slice b b_len b_cap)] = fastjson_b2s.t b b_len b_cap := by kernel_rfl
theorem fastjson_b2s.calls (b : (Option Addr)) (b_len : Nat) (b_cap : Nat) {w : World} {R : Ending → World → Prop} (hs : sat Tryd.prog (fastjson_b2s.t b b_len b_cap) (fun l vs w' => l = 0 ∧ R (.returned (retVal vs)) w') w) : Calls Tryd.prog 50 #[(Value.slice b b_len b_cap)] w R :=
  have h := calls_of_tree (w := w) (R := R) (args := [.v (Value.slice b b_len b_cap)]) (c := fastjson_b2s.c) Tryd.func50 (show Tryd.f50.body = some fastjson_b2s.c by kernel_rfl) (of_decide_eq_true (by kernel_rfl)) (fastjson_b2s.e b b_len b_cap) hs
  h

/-! ### (*pub-tetrapla/pub/fastjson.Value).MarshalTo : function 27 -/
def fastjson_Value_MarshalTo.t1 (q0 : (Option Addr)) (z14 : ((Option Addr) × (Nat × Nat))) (i15 : Int) (z16 : ((Option Addr) × (Nat × Nat))) : T :=
  .ite (decide (i15 < ((((z14).2).1 : Nat) : Int))) (
    .chk (((0 : Int) ≤ i15) ∧ (i15 < ((((z14).2).1 : Nat) : Int))) <|
    .ptr (z14).1 fun (z17 : Addr) =>
    .load (Addr.add z17 ((Int.toNat i15) * 1)) .ptr fun (p18 : (Option Addr)) =>
    .call 27 #[(Value.pointer p18), (Value.slice (z16).1 ((z16).2).1 ((z16).2).2)] .slice fun (z19 : ((Option Addr) × (Nat × Nat))) =>
    .ptr q0 fun (z20 : Addr) =>
    .load (Addr.add z20 2) .slice fun (z21 : ((Option Addr) × (Nat × Nat))) =>
    .ite (i15 != (IntKind.wrap IntKind.i64 (((((z21).2).1 : Nat) : Int) - (1 : Int)))) (
      .eff (Instr.buildSlice 48 1 #[(0, (Value.int IntKind.u8 (44 : Int)))]) .slice fun (z22 : ((Option Addr) × (Nat × Nat))) =>
      .eff (Builtin.append_ (Call.argTypes (Call.mk (Callee.builtin Builtin.append) #[(Operand.tmp 60), (Operand.tmp 61)] #[48, 48])) 48 #[(Value.slice (z19).1 ((z19).2).1 ((z19).2).2), (Value.slice (z22).1 ((z22).2).1 ((z22).2).2)]) .slice fun (z23 : ((Option Addr) × (Nat × Nat))) =>
      .leaf 1 [(Value.int IntKind.i64 (IntKind.wrap IntKind.i64 (i15 + (1 : Int)))), (Value.slice (z23).1 ((z23).2).1 ((z23).2).2)]) (
      .leaf 1 [(Value.int IntKind.i64 (IntKind.wrap IntKind.i64 (i15 + (1 : Int)))), (Value.slice (z19).1 ((z19).2).1 ((z19).2).2)])) (
    .eff (Instr.buildSlice 48 1 #[(0, (Value.int IntKind.u8 (93 : Int)))]) .slice fun (z24 : ((Option Addr) × (Nat × Nat))) =>
    .eff (Builtin.append_ (Call.argTypes (Call.mk (Callee.builtin Builtin.append) #[(Operand.tmp 64), (Operand.tmp 65)] #[48, 48])) 48 #[(Value.slice (z16).1 ((z16).2).1 ((z16).2).2), (Value.slice (z24).1 ((z24).2).1 ((z24).2).2)]) .slice fun (z25 : ((Option Addr) × (Nat × Nat))) =>
    .leaf 0 [(Value.slice (z25).1 ((z25).2).1 ((z25).2).2)])
def fastjson_Value_MarshalTo.t (q0 : (Option Addr)) (q1 : (Option Addr)) (q1_len : Nat) (q1_cap : Nat) : T :=
  .ptr q0 fun (z0 : Addr) =>
  .load (Addr.add z0 4) (.int .i64) fun (i1 : Int) =>
  .ite (i1 == (7 : Int)) (
    .eff (Instr.buildSlice 48 1 #[(0, (Value.int IntKind.u8 (34 : Int)))]) .slice fun (z2 : ((Option Addr) × (Nat × Nat))) =>
    .eff (Builtin.append_ (Call.argTypes (Call.mk (Callee.builtin Builtin.append) #[(Operand.tmp 14), (Operand.tmp 15)] #[48, 48])) 48 #[(Value.slice q1 q1_len q1_cap), (Value.slice (z2).1 ((z2).2).1 ((z2).2).2)]) .slice fun (z3 : ((Option Addr) × (Nat × Nat))) =>
    .ptr q0 fun (z4 : Addr) =>
    .load (Addr.add z4 3) .str fun (s5 : ByteArray) =>
    .eff (Builtin.append_ (Call.argTypes (Call.mk (Callee.builtin Builtin.append) #[(Operand.tmp 17), (Operand.tmp 21)] #[48, 9])) 48 #[(Value.slice (z3).1 ((z3).2).1 ((z3).2).2), (Value.string s5)]) .slice fun (z6 : ((Option Addr) × (Nat × Nat))) =>
    .eff (Instr.buildSlice 48 1 #[(0, (Value.int IntKind.u8 (34 : Int)))]) .slice fun (z7 : ((Option Addr) × (Nat × Nat))) =>
    .eff (Builtin.append_ (Call.argTypes (Call.mk (Callee.builtin Builtin.append) #[(Operand.tmp 23), (Operand.tmp 24)] #[48, 48])) 48 #[(Value.slice (z6).1 ((z6).2).1 ((z6).2).2), (Value.slice (z7).1 ((z7).2).1 ((z7).2).2)]) .slice fun (z8 : ((Option Addr) × (Nat × Nat))) =>
    .leaf 0 [(Value.slice (z8).1 ((z8).2).1 ((z8).2).2)]) (
    .ite (i1 == (1 : Int)) (
      .ptr q0 fun (z9 : Addr) =>
      .call 51 #[(Value.pointer (some (Addr.add z9 0))), (Value.slice q1 q1_len q1_cap)] .slice fun (z10 : ((Option Addr) × (Nat × Nat))) =>
      .leaf 0 [(Value.slice (z10).1 ((z10).2).1 ((z10).2).2)]) (
      .ite (i1 == (2 : Int)) (
        .eff (Instr.buildSlice 48 1 #[(0, (Value.int IntKind.u8 (91 : Int)))]) .slice fun (z11 : ((Option Addr) × (Nat × Nat))) =>
        .eff (Builtin.append_ (Call.argTypes (Call.mk (Callee.builtin Builtin.append) #[(Operand.tmp 36), (Operand.tmp 37)] #[48, 48])) 48 #[(Value.slice q1 q1_len q1_cap), (Value.slice (z11).1 ((z11).2).1 ((z11).2).2)]) .slice fun (z12 : ((Option Addr) × (Nat × Nat))) =>
        .ptr q0 fun (z13 : Addr) =>
        .load (Addr.add z13 2) .slice fun (z14 : ((Option Addr) × (Nat × Nat))) =>
        .loop 1 (.cons (.int .i64) (.cons .slice .nil)) [(Value.int IntKind.i64 (0 : Int)), (Value.slice (z12).1 ((z12).2).1 ((z12).2).2)]
          (fun z => fastjson_Value_MarshalTo.t1 q0 z14 z.1 z.2.1)) (
        .ite (i1 == (3 : Int)) (
          .ptr q0 fun (z26 : Addr) =>
          .load (Addr.add z26 3) .str fun (s27 : ByteArray) =>
          .call 49 #[(Value.slice q1 q1_len q1_cap), (Value.string s27)] .slice fun (z28 : ((Option Addr) × (Nat × Nat))) =>
          .leaf 0 [(Value.slice (z28).1 ((z28).2).1 ((z28).2).2)]) (
          .ite (i1 == (4 : Int)) (
            .ptr q0 fun (z29 : Addr) =>
            .load (Addr.add z29 3) .str fun (s30 : ByteArray) =>
            .eff (Builtin.append_ (Call.argTypes (Call.mk (Callee.builtin Builtin.append) #[(Operand.tmp 78), (Operand.tmp 82)] #[48, 9])) 48 #[(Value.slice q1 q1_len q1_cap), (Value.string s30)]) .slice fun (z31 : ((Option Addr) × (Nat × Nat))) =>
            .leaf 0 [(Value.slice (z31).1 ((z31).2).1 ((z31).2).2)]) (
            .ite (i1 == (5 : Int)) (
              .eff (Builtin.append_ (Call.argTypes (Call.mk (Callee.builtin Builtin.append) #[(Operand.tmp 86), (Operand.const (Value.string (ByteArray.mk #[(116 : UInt8), (114 : UInt8), (117 : UInt8), (101 : UInt8)])))] #[48, 9])) 48 #[(Value.slice q1 q1_len q1_cap), (Value.string (ByteArray.mk #[(116 : UInt8), (114 : UInt8), (117 : UInt8), (101 : UInt8)]))]) .slice fun (z32 : ((Option Addr) × (Nat × Nat))) =>
              .leaf 0 [(Value.slice (z32).1 ((z32).2).1 ((z32).2).2)]) (
              .ite (i1 == (6 : Int)) (
                .eff (Builtin.append_ (Call.argTypes (Call.mk (Callee.builtin Builtin.append) #[(Operand.tmp 90), (Operand.const (Value.string (ByteArray.mk #[(102 : UInt8), (97 : UInt8), (108 : UInt8), (115 : UInt8), (101 : UInt8)])))] #[48, 9])) 48 #[(Value.slice q1 q1_len q1_cap), (Value.string (ByteArray.mk #[(102 : UInt8), (97 : UInt8), (108 : UInt8), (115 : UInt8), (101 : UInt8)]))]) .slice fun (z33 : ((Option Addr) × (Nat × Nat))) =>
                .leaf 0 [(Value.slice (z33).1 ((z33).2).1 ((z33).2).2)]) (
                .ite (i1 == (0 : Int)) (
                  .eff (Builtin.append_ (Call.argTypes (Call.mk (Callee.builtin Builtin.append) #[(Operand.tmp 94), (Operand.const (Value.string (ByteArray.mk #[(110 : UInt8), (117 : UInt8), (108 : UInt8), (108 : UInt8)])))] #[48, 9])) 48 #[(Value.slice q1 q1_len q1_cap), (Value.string (ByteArray.mk #[(110 : UInt8), (117 : UInt8), (108 : UInt8), (108 : UInt8)]))]) .slice fun (z34 : ((Option Addr) × (Nat × Nat))) =>
                  .leaf 0 [(Value.slice (z34).1 ((z34).2).1 ((z34).2).2)]) (
                  .call 52 #[(Value.string (ByteArray.mk #[(66 : UInt8), (85 : UInt8), (71 : UInt8), (58 : UInt8), (32 : UInt8), (117 : UInt8), (110 : UInt8), (101 : UInt8), (120 : UInt8), (112 : UInt8), (101 : UInt8), (99 : UInt8), (116 : UInt8), (101 : UInt8), (100 : UInt8), (32 : UInt8), (86 : UInt8), (97 : UInt8), (108 : UInt8), (117 : UInt8), (101 : UInt8), (32 : UInt8), (116 : UInt8), (121 : UInt8), (112 : UInt8), (101 : UInt8)]))] .any fun (v35 : Value) =>
                  .fail 29))))))))
def fastjson_Value_MarshalTo.h : Hints := ⟨[], [], [], [(13, [(44, (.int .i64)), (1, .slice)])]⟩
noncomputable def fastjson_Value_MarshalTo.c : Code := (Tryd.f27.body).getD .skip
theorem fastjson_Value_MarshalTo.e (q0 : (Option Addr)) (q1 : (Option Addr)) (q1_len : Nat) (q1_cap : Nat) : fnT Tryd.prog fastjson_Value_MarshalTo.h Tryd.f27 fastjson_Value_MarshalTo.c [.v (Value.pointer q0), .v (Value.slice q1 q1_len q1_cap)] = fastjson_Value_MarshalTo.t q0 q1 q1_len q1_cap := by kernel_rfl
theorem fastjson_Value_MarshalTo.calls (q0 : (Option Addr)) (q1 : (Option Addr)) (q1_len : Nat) (q1_cap : Nat) {w : World} {R : Ending → World → Prop} (hs : sat Tryd.prog (fastjson_Value_MarshalTo.t q0 q1 q1_len q1_cap) (fun l vs w' => l = 0 ∧ R (.returned (retVal vs)) w') w) : Calls Tryd.prog 27 #[(Value.pointer q0), (Value.slice q1 q1_len q1_cap)] w R :=
  have h := calls_of_tree (w := w) (R := R) (args := [.v (Value.pointer q0), .v (Value.slice q1 q1_len q1_cap)]) (c := fastjson_Value_MarshalTo.c) Tryd.func27 (show Tryd.f27.body = some fastjson_Value_MarshalTo.c by kernel_rfl) (of_decide_eq_true (by kernel_rfl)) (fastjson_Value_MarshalTo.e q0 q1 q1_len q1_cap) hs
  h

/-! ### (*pub-tetrapla/pub/fastjson.Object).MarshalTo : function 51 -/
def fastjson_Object_MarshalTo.t2 (q0 : (Option Addr)) (i4 : Int) (z6 : Addr) (z17 : ((Option Addr) × (Nat × Nat))) : T :=
  .eff (Instr.buildSlice 48 1 #[(0, (Value.int IntKind.u8 (58 : Int)))]) .slice fun (z18 : ((Option Addr) × (Nat × Nat))) =>
  .eff (Builtin.append_ (Call.argTypes (Call.mk (Callee.builtin Builtin.append) #[(Operand.tmp 45), (Operand.tmp 46)] #[48, 48])) 48 #[(Value.slice (z17).1 ((z17).2).1 ((z17).2).2), (Value.slice (z18).1 ((z18).2).1 ((z18).2).2)]) .slice fun (z19 : ((Option Addr) × (Nat × Nat))) =>
  .load (Addr.add (Addr.add z6 ((Int.toNat i4) * 2)) 1) .ptr fun (p20 : (Option Addr)) =>
  .call 27 #[(Value.pointer p20), (Value.slice (z19).1 ((z19).2).1 ((z19).2).2)] .slice fun (z21 : ((Option Addr) × (Nat × Nat))) =>
  .ptr q0 fun (z22 : Addr) =>
  .load (Addr.add z22 0) .slice fun (z23 : ((Option Addr) × (Nat × Nat))) =>
  .ite (i4 != (IntKind.wrap IntKind.i64 (((((z23).2).1 : Nat) : Int) - (1 : Int)))) (
    .eff (Instr.buildSlice 48 1 #[(0, (Value.int IntKind.u8 (44 : Int)))]) .slice fun (z24 : ((Option Addr) × (Nat × Nat))) =>
    .eff (Builtin.append_ (Call.argTypes (Call.mk (Callee.builtin Builtin.append) #[(Operand.tmp 62), (Operand.tmp 63)] #[48, 48])) 48 #[(Value.slice (z21).1 ((z21).2).1 ((z21).2).2), (Value.slice (z24).1 ((z24).2).1 ((z24).2).2)]) .slice fun (z25 : ((Option Addr) × (Nat × Nat))) =>
    .leaf 1 [(Value.int IntKind.i64 (IntKind.wrap IntKind.i64 (i4 + (1 : Int)))), (Value.slice (z25).1 ((z25).2).1 ((z25).2).2)]) (
    .leaf 1 [(Value.int IntKind.i64 (IntKind.wrap IntKind.i64 (i4 + (1 : Int)))), (Value.slice (z21).1 ((z21).2).1 ((z21).2).2)])
def fastjson_Object_MarshalTo.t1 (q0 : (Option Addr)) (z3 : ((Option Addr) × (Nat × Nat))) (i4 : Int) (z5 : ((Option Addr) × (Nat × Nat))) : T :=
  .ite (decide (i4 < ((((z3).2).1 : Nat) : Int))) (
    .chk (((0 : Int) ≤ i4) ∧ (i4 < ((((z3).2).1 : Nat) : Int))) <|
    .ptr (z3).1 fun (z6 : Addr) =>
    .ptr q0 fun (z7 : Addr) =>
    .load (Addr.add z7 1) .bool fun (b8 : Bool) =>
    .cut 2 (.cons .slice .nil) (
      .ite b8 (
        .load (Addr.add (Addr.add z6 ((Int.toNat i4) * 2)) 0) .str fun (s9 : ByteArray) =>
        .call 49 #[(Value.slice (z5).1 ((z5).2).1 ((z5).2).2), (Value.string s9)] .slice fun (z10 : ((Option Addr) × (Nat × Nat))) =>
        .leaf 2 [(Value.slice (z10).1 ((z10).2).1 ((z10).2).2)]) (
        .eff (Instr.buildSlice 48 1 #[(0, (Value.int IntKind.u8 (34 : Int)))]) .slice fun (z11 : ((Option Addr) × (Nat × Nat))) =>
        .eff (Builtin.append_ (Call.argTypes (Call.mk (Callee.builtin Builtin.append) #[(Operand.tmp 33), (Operand.tmp 34)] #[48, 48])) 48 #[(Value.slice (z5).1 ((z5).2).1 ((z5).2).2), (Value.slice (z11).1 ((z11).2).1 ((z11).2).2)]) .slice fun (z12 : ((Option Addr) × (Nat × Nat))) =>
        .load (Addr.add (Addr.add z6 ((Int.toNat i4) * 2)) 0) .str fun (s13 : ByteArray) =>
        .eff (Builtin.append_ (Call.argTypes (Call.mk (Callee.builtin Builtin.append) #[(Operand.tmp 36), (Operand.tmp 40)] #[48, 9])) 48 #[(Value.slice (z12).1 ((z12).2).1 ((z12).2).2), (Value.string s13)]) .slice fun (z14 : ((Option Addr) × (Nat × Nat))) =>
        .eff (Instr.buildSlice 48 1 #[(0, (Value.int IntKind.u8 (34 : Int)))]) .slice fun (z15 : ((Option Addr) × (Nat × Nat))) =>
        .eff (Builtin.append_ (Call.argTypes (Call.mk (Callee.builtin Builtin.append) #[(Operand.tmp 42), (Operand.tmp 43)] #[48, 48])) 48 #[(Value.slice (z14).1 ((z14).2).1 ((z14).2).2), (Value.slice (z15).1 ((z15).2).1 ((z15).2).2)]) .slice fun (z16 : ((Option Addr) × (Nat × Nat))) =>
        .leaf 2 [(Value.slice (z16).1 ((z16).2).1 ((z16).2).2)]))
      (fun z => fastjson_Object_MarshalTo.t2 q0 i4 z6 z.1)) (
    .eff (Instr.buildSlice 48 1 #[(0, (Value.int IntKind.u8 (125 : Int)))]) .slice fun (z26 : ((Option Addr) × (Nat × Nat))) =>
    .eff (Builtin.append_ (Call.argTypes (Call.mk (Callee.builtin Builtin.append) #[(Operand.tmp 66), (Operand.tmp 67)] #[48, 48])) 48 #[(Value.slice (z5).1 ((z5).2).1 ((z5).2).2), (Value.slice (z26).1 ((z26).2).1 ((z26).2).2)]) .slice fun (z27 : ((Option Addr) × (Nat × Nat))) =>
    .leaf 0 [(Value.slice (z27).1 ((z27).2).1 ((z27).2).2)])
def fastjson_Object_MarshalTo.t (q0 : (Option Addr)) (q1 : (Option Addr)) (q1_len : Nat) (q1_cap : Nat) : T :=
  .eff (Instr.buildSlice 48 1 #[(0, (Value.int IntKind.u8 (123 : Int)))]) .slice fun (z0 : ((Option Addr) × (Nat × Nat))) =>
  .eff (Builtin.append_ (Call.argTypes (Call.mk (Callee.builtin Builtin.append) #[(Operand.tmp 8), (Operand.tmp 9)] #[48, 48])) 48 #[(Value.slice q1 q1_len q1_cap), (Value.slice (z0).1 ((z0).2).1 ((z0).2).2)]) .slice fun (z1 : ((Option Addr) × (Nat × Nat))) =>
  .ptr q0 fun (z2 : Addr) =>
  .load (Addr.add z2 0) .slice fun (z3 : ((Option Addr) × (Nat × Nat))) =>
  .loop 1 (.cons (.int .i64) (.cons .slice .nil)) [(Value.int IntKind.i64 (0 : Int)), (Value.slice (z1).1 ((z1).2).1 ((z1).2).2)]
    (fun z => fastjson_Object_MarshalTo.t1 q0 z3 z.1 z.2.1)
def fastjson_Object_MarshalTo.h : Hints := ⟨[(26, [(1, .slice)])], [], [], [(4, [(17, (.int .i64)), (1, .slice)])]⟩
noncomputable def fastjson_Object_MarshalTo.c : Code := (Tryd.f51.body).getD .skip
theorem fastjson_Object_MarshalTo.e (q0 : (Option Addr)) (q1 : (Option Addr)) (q1_len : Nat) (q1_cap : Nat) : fnT Tryd.prog fastjson_Object_MarshalTo.h Tryd.f51 fastjson_Object_MarshalTo.c [.v (Value.pointer q0), .v (Value.slice q1 q1_len q1_cap)] = fastjson_Object_MarshalTo.t q0 q1 q1_len q1_cap := by kernel_rfl
theorem fastjson_Object_MarshalTo.calls (q0 : (Option Addr)) (q1 : (Option Addr)) (q1_len : Nat) (q1_cap : Nat) {w : World} {R : Ending → World → Prop} (hs : sat Tryd.prog (fastjson_Object_MarshalTo.t q0 q1 q1_len q1_cap) (fun l vs w' => l = 0 ∧ R (.returned (retVal vs)) w') w) : Calls Tryd.prog 51 #[(Value.pointer q0), (Value.slice q1 q1_len q1_cap)] w R :=
  have h := calls_of_tree (w := w) (R := R) (args := [.v (Value.pointer q0), .v (Value.slice q1 q1_len q1_cap)]) (c := fastjson_Object_MarshalTo.c) Tryd.func51 (show Tryd.f51.body = some fastjson_Object_MarshalTo.c by kernel_rfl) (of_decide_eq_true (by kernel_rfl)) (fastjson_Object_MarshalTo.e q0 q1 q1_len q1_cap) hs
  h

/-! ### errors.New : function 52 -/
def errors_New.t (text : ByteArray) : T :=
  .alloc (Obj.cells #[(Value.string text)] 120 (0, 0)) fun (z0 : Addr) =>
  .leaf 0 [(Value.iface 118 (Value.pointer (some z0)))]
def errors_New.h : Hints := ⟨[], [], [], []⟩
noncomputable def errors_New.c : Code := (Tryd.f52.body).getD .skip
theorem errors_New.e (text : ByteArray) : fnT Tryd.prog errors_New.h Tryd.f52 errors_New.c [.v (Value.string text)] = errors_New.t text := by kernel_rfl
theorem errors_New.calls (text : ByteArray) {w : World} {R : Ending → World → Prop} (hs : sat Tryd.prog (errors_New.t text) (fun l vs w' => l = 0 ∧ R (.returned (retVal vs)) w') w) : Calls Tryd.prog 52 #[(Value.string text)] w R :=
  have h := calls_of_tree (w := w) (R := R) (args := [.v (Value.string text)]) (c := errors_New.c) Tryd.func52 (show Tryd.f52.body = some errors_New.c by kernel_rfl) (of_decide_eq_true (by kernel_rfl)) (errors_New.e text) hs
  h

/-! ### pub-tetrapla/pub/gjson.unescape : function 53 -/
def gjson_unescape.t3 (i27 : Int) (i28 : Int) : T :=
  .leaf 2 [(Value.int IntKind.i64 i27), (Value.int IntKind.i32 i28)]
def gjson_unescape.t2 (q0 : ByteArray) (i2 : Int) (i22 : Int) (b24 : Bool) : T :=
  .cut 3 (.cons (.int .i64) (.cons (.int .i32) .nil)) (
    .ite b24 (
      .chk (((0 : Int) ≤ (IntKind.wrap IntKind.i64 ((IntKind.wrap IntKind.i64 ((IntKind.wrap IntKind.i64 (i2 + (1 : Int))) + (5 : Int))) + (2 : Int)))) ∧ (((IntKind.wrap IntKind.i64 ((IntKind.wrap IntKind.i64 ((IntKind.wrap IntKind.i64 (i2 + (1 : Int))) + (5 : Int))) + (2 : Int))) ≤ (((ByteArray.size q0) : Nat) : Int)) ∧ ((((ByteArray.size q0) : Nat) : Int) ≤ (((ByteArray.size q0) : Nat) : Int)))) <|
      .call 70 #[(Value.string (ByteArray.extract q0 (Int.toNat (IntKind.wrap IntKind.i64 ((IntKind.wrap IntKind.i64 ((IntKind.wrap IntKind.i64 (i2 + (1 : Int))) + (5 : Int))) + (2 : Int)))) (Int.toNat (((ByteArray.size q0) : Nat) : Int))))] (.int .i32) fun (i25 : Int) =>
      .call 72 #[(Value.int IntKind.i32 i22), (Value.int IntKind.i32 i25)] (.int .i32) fun (i26 : Int) =>
      .leaf 3 [(Value.int IntKind.i64 (IntKind.wrap IntKind.i64 ((IntKind.wrap IntKind.i64 ((IntKind.wrap IntKind.i64 (i2 + (1 : Int))) + (5 : Int))) + (6 : Int)))), (Value.int IntKind.i32 i26)]) (
      .leaf 3 [(Value.int IntKind.i64 (IntKind.wrap IntKind.i64 ((IntKind.wrap IntKind.i64 (i2 + (1 : Int))) + (5 : Int)))), (Value.int IntKind.i32 i22)]))
    (fun z => gjson_unescape.t3 z.1 z.2.1)
def gjson_unescape.t4 (z1 : ((Option Addr) × (Nat × Nat))) (i29 : Int) (i30 : Int) : T :=
  .eff (Instr.buildSlice 48 8 #[(0, (Value.int IntKind.u8 (0 : Int))), (1, (Value.int IntKind.u8 (0 : Int))), (2, (Value.int IntKind.u8 (0 : Int))), (3, (Value.int IntKind.u8 (0 : Int))), (4, (Value.int IntKind.u8 (0 : Int))), (5, (Value.int IntKind.u8 (0 : Int))), (6, (Value.int IntKind.u8 (0 : Int))), (7, (Value.int IntKind.u8 (0 : Int)))]) .slice fun (z31 : ((Option Addr) × (Nat × Nat))) =>
  .eff (Builtin.append_ (Call.argTypes (Call.mk (Callee.builtin Builtin.append) #[(Operand.tmp 132), (Operand.tmp 133)] #[48, 48])) 48 #[(Value.slice (z1).1 ((z1).2).1 ((z1).2).2), (Value.slice (z31).1 ((z31).2).1 ((z31).2).2)]) .slice fun (z32 : ((Option Addr) × (Nat × Nat))) =>
  .chk (((0 : Int) ≤ (IntKind.wrap IntKind.i64 (((((z32).2).1 : Nat) : Int) - (8 : Int)))) ∧ (((IntKind.wrap IntKind.i64 (((((z32).2).1 : Nat) : Int) - (8 : Int))) ≤ ((((z32).2).1 : Nat) : Int)) ∧ (((((z32).2).1 : Nat) : Int) ≤ ((((z32).2).2 : Nat) : Int)))) <|
  .call 73 #[(Value.slice (if (((z32).2).2 = (Int.toNat (IntKind.wrap IntKind.i64 (((((z32).2).1 : Nat) : Int) - (8 : Int))))) then (z32).1 else (Option.map (fun (y33 : Addr) => (Addr.add y33 ((Int.toNat (IntKind.wrap IntKind.i64 (((((z32).2).1 : Nat) : Int) - (8 : Int)))) * 1))) (z32).1)) ((Int.toNat ((((z32).2).1 : Nat) : Int)) - (Int.toNat (IntKind.wrap IntKind.i64 (((((z32).2).1 : Nat) : Int) - (8 : Int))))) (((z32).2).2 - (Int.toNat (IntKind.wrap IntKind.i64 (((((z32).2).1 : Nat) : Int) - (8 : Int)))))), (Value.int IntKind.i32 i30)] (.int .i64) fun (i34 : Int) =>
  .chk (((0 : Int) ≤ (0 : Int)) ∧ (((0 : Int) ≤ (IntKind.wrap IntKind.i64 ((IntKind.wrap IntKind.i64 (((((z32).2).1 : Nat) : Int) - (8 : Int))) + i34))) ∧ ((IntKind.wrap IntKind.i64 ((IntKind.wrap IntKind.i64 (((((z32).2).1 : Nat) : Int) - (8 : Int))) + i34)) ≤ ((((z32).2).2 : Nat) : Int)))) <|
  .leaf 1 [(Value.slice (if (((z32).2).2 = 0) then (z32).1 else (Option.map (fun (y35 : Addr) => (Addr.add y35 0)) (z32).1)) ((Int.toNat (IntKind.wrap IntKind.i64 ((IntKind.wrap IntKind.i64 (((((z32).2).1 : Nat) : Int) - (8 : Int))) + i34))) - 0) (((z32).2).2 - 0)), (Value.int IntKind.i64 (IntKind.wrap IntKind.i64 ((IntKind.wrap IntKind.i64 (i29 - (1 : Int))) + (1 : Int))))]
def gjson_unescape.t1 (q0 : ByteArray) (z1 : ((Option Addr) × (Nat × Nat))) (i2 : Int) : T :=
  .ite (decide (i2 < (((ByteArray.size q0) : Nat) : Int))) (
    .chk (((0 : Int) ≤ i2) ∧ (i2 < (((ByteArray.size q0) : Nat) : Int))) <|
    .ite (decide ((bt q0 i2) < (32 : Int))) (
      .eff (convert 48 9 (Value.slice (z1).1 ((z1).2).1 ((z1).2).2)) .str fun (s3 : ByteArray) =>
      .leaf 0 [(Value.string s3)]) (
      .chk (((0 : Int) ≤ i2) ∧ (i2 < (((ByteArray.size q0) : Nat) : Int))) <|
      .ite ((bt q0 i2) == (92 : Int)) (
        .ite (decide ((IntKind.wrap IntKind.i64 (i2 + (1 : Int))) ≥ (((ByteArray.size q0) : Nat) : Int))) (
          .eff (convert 48 9 (Value.slice (z1).1 ((z1).2).1 ((z1).2).2)) .str fun (s4 : ByteArray) =>
          .leaf 0 [(Value.string s4)]) (
          .chk (((0 : Int) ≤ (IntKind.wrap IntKind.i64 (i2 + (1 : Int)))) ∧ ((IntKind.wrap IntKind.i64 (i2 + (1 : Int))) < (((ByteArray.size q0) : Nat) : Int))) <|
          .ite ((bt q0 (IntKind.wrap IntKind.i64 (i2 + (1 : Int)))) == (92 : Int)) (
            .eff (Instr.buildSlice 48 1 #[(0, (Value.int IntKind.u8 (92 : Int)))]) .slice fun (z5 : ((Option Addr) × (Nat × Nat))) =>
            .eff (Builtin.append_ (Call.argTypes (Call.mk (Callee.builtin Builtin.append) #[(Operand.tmp 49), (Operand.tmp 50)] #[48, 48])) 48 #[(Value.slice (z1).1 ((z1).2).1 ((z1).2).2), (Value.slice (z5).1 ((z5).2).1 ((z5).2).2)]) .slice fun (z6 : ((Option Addr) × (Nat × Nat))) =>
            .leaf 1 [(Value.slice (z6).1 ((z6).2).1 ((z6).2).2), (Value.int IntKind.i64 (IntKind.wrap IntKind.i64 ((IntKind.wrap IntKind.i64 (i2 + (1 : Int))) + (1 : Int))))]) (
            .ite ((bt q0 (IntKind.wrap IntKind.i64 (i2 + (1 : Int)))) == (47 : Int)) (
              .eff (Instr.buildSlice 48 1 #[(0, (Value.int IntKind.u8 (47 : Int)))]) .slice fun (z7 : ((Option Addr) × (Nat × Nat))) =>
              .eff (Builtin.append_ (Call.argTypes (Call.mk (Callee.builtin Builtin.append) #[(Operand.tmp 54), (Operand.tmp 55)] #[48, 48])) 48 #[(Value.slice (z1).1 ((z1).2).1 ((z1).2).2), (Value.slice (z7).1 ((z7).2).1 ((z7).2).2)]) .slice fun (z8 : ((Option Addr) × (Nat × Nat))) =>
              .leaf 1 [(Value.slice (z8).1 ((z8).2).1 ((z8).2).2), (Value.int IntKind.i64 (IntKind.wrap IntKind.i64 ((IntKind.wrap IntKind.i64 (i2 + (1 : Int))) + (1 : Int))))]) (
              .ite ((bt q0 (IntKind.wrap IntKind.i64 (i2 + (1 : Int)))) == (98 : Int)) (
                .eff (Instr.buildSlice 48 1 #[(0, (Value.int IntKind.u8 (8 : Int)))]) .slice fun (z9 : ((Option Addr) × (Nat × Nat))) =>
                .eff (Builtin.append_ (Call.argTypes (Call.mk (Callee.builtin Builtin.append) #[(Operand.tmp 59), (Operand.tmp 60)] #[48, 48])) 48 #[(Value.slice (z1).1 ((z1).2).1 ((z1).2).2), (Value.slice (z9).1 ((z9).2).1 ((z9).2).2)]) .slice fun (z10 : ((Option Addr) × (Nat × Nat))) =>
                .leaf 1 [(Value.slice (z10).1 ((z10).2).1 ((z10).2).2), (Value.int IntKind.i64 (IntKind.wrap IntKind.i64 ((IntKind.wrap IntKind.i64 (i2 + (1 : Int))) + (1 : Int))))]) (
                .ite ((bt q0 (IntKind.wrap IntKind.i64 (i2 + (1 : Int)))) == (102 : Int)) (
                  .eff (Instr.buildSlice 48 1 #[(0, (Value.int IntKind.u8 (12 : Int)))]) .slice fun (z11 : ((Option Addr) × (Nat × Nat))) =>
                  .eff (Builtin.append_ (Call.argTypes (Call.mk (Callee.builtin Builtin.append) #[(Operand.tmp 64), (Operand.tmp 65)] #[48, 48])) 48 #[(Value.slice (z1).1 ((z1).2).1 ((z1).2).2), (Value.slice (z11).1 ((z11).2).1 ((z11).2).2)]) .slice fun (z12 : ((Option Addr) × (Nat × Nat))) =>
                  .leaf 1 [(Value.slice (z12).1 ((z12).2).1 ((z12).2).2), (Value.int IntKind.i64 (IntKind.wrap IntKind.i64 ((IntKind.wrap IntKind.i64 (i2 + (1 : Int))) + (1 : Int))))]) (
                  .ite ((bt q0 (IntKind.wrap IntKind.i64 (i2 + (1 : Int)))) == (110 : Int)) (
                    .eff (Instr.buildSlice 48 1 #[(0, (Value.int IntKind.u8 (10 : Int)))]) .slice fun (z13 : ((Option Addr) × (Nat × Nat))) =>
                    .eff (Builtin.append_ (Call.argTypes (Call.mk (Callee.builtin Builtin.append) #[(Operand.tmp 69), (Operand.tmp 70)] #[48, 48])) 48 #[(Value.slice (z1).1 ((z1).2).1 ((z1).2).2), (Value.slice (z13).1 ((z13).2).1 ((z13).2).2)]) .slice fun (z14 : ((Option Addr) × (Nat × Nat))) =>
                    .leaf 1 [(Value.slice (z14).1 ((z14).2).1 ((z14).2).2), (Value.int IntKind.i64 (IntKind.wrap IntKind.i64 ((IntKind.wrap IntKind.i64 (i2 + (1 : Int))) + (1 : Int))))]) (
                    .ite ((bt q0 (IntKind.wrap IntKind.i64 (i2 + (1 : Int)))) == (114 : Int)) (
                      .eff (Instr.buildSlice 48 1 #[(0, (Value.int IntKind.u8 (13 : Int)))]) .slice fun (z15 : ((Option Addr) × (Nat × Nat))) =>
                      .eff (Builtin.append_ (Call.argTypes (Call.mk (Callee.builtin Builtin.append) #[(Operand.tmp 74), (Operand.tmp 75)] #[48, 48])) 48 #[(Value.slice (z1).1 ((z1).2).1 ((z1).2).2), (Value.slice (z15).1 ((z15).2).1 ((z15).2).2)]) .slice fun (z16 : ((Option Addr) × (Nat × Nat))) =>
                      .leaf 1 [(Value.slice (z16).1 ((z16).2).1 ((z16).2).2), (Value.int IntKind.i64 (IntKind.wrap IntKind.i64 ((IntKind.wrap IntKind.i64 (i2 + (1 : Int))) + (1 : Int))))]) (
                      .ite ((bt q0 (IntKind.wrap IntKind.i64 (i2 + (1 : Int)))) == (116 : Int)) (
                        .eff (Instr.buildSlice 48 1 #[(0, (Value.int IntKind.u8 (9 : Int)))]) .slice fun (z17 : ((Option Addr) × (Nat × Nat))) =>
                        .eff (Builtin.append_ (Call.argTypes (Call.mk (Callee.builtin Builtin.append) #[(Operand.tmp 79), (Operand.tmp 80)] #[48, 48])) 48 #[(Value.slice (z1).1 ((z1).2).1 ((z1).2).2), (Value.slice (z17).1 ((z17).2).1 ((z17).2).2)]) .slice fun (z18 : ((Option Addr) × (Nat × Nat))) =>
                        .leaf 1 [(Value.slice (z18).1 ((z18).2).1 ((z18).2).2), (Value.int IntKind.i64 (IntKind.wrap IntKind.i64 ((IntKind.wrap IntKind.i64 (i2 + (1 : Int))) + (1 : Int))))]) (
                        .ite ((bt q0 (IntKind.wrap IntKind.i64 (i2 + (1 : Int)))) == (34 : Int)) (
                          .eff (Instr.buildSlice 48 1 #[(0, (Value.int IntKind.u8 (34 : Int)))]) .slice fun (z19 : ((Option Addr) × (Nat × Nat))) =>
                          .eff (Builtin.append_ (Call.argTypes (Call.mk (Callee.builtin Builtin.append) #[(Operand.tmp 84), (Operand.tmp 85)] #[48, 48])) 48 #[(Value.slice (z1).1 ((z1).2).1 ((z1).2).2), (Value.slice (z19).1 ((z19).2).1 ((z19).2).2)]) .slice fun (z20 : ((Option Addr) × (Nat × Nat))) =>
                          .leaf 1 [(Value.slice (z20).1 ((z20).2).1 ((z20).2).2), (Value.int IntKind.i64 (IntKind.wrap IntKind.i64 ((IntKind.wrap IntKind.i64 (i2 + (1 : Int))) + (1 : Int))))]) (
                          .ite ((bt q0 (IntKind.wrap IntKind.i64 (i2 + (1 : Int)))) == (117 : Int)) (
                            .ite (decide ((IntKind.wrap IntKind.i64 ((IntKind.wrap IntKind.i64 (i2 + (1 : Int))) + (5 : Int))) > (((ByteArray.size q0) : Nat) : Int))) (
                              .eff (convert 48 9 (Value.slice (z1).1 ((z1).2).1 ((z1).2).2)) .str fun (s21 : ByteArray) =>
                              .leaf 0 [(Value.string s21)]) (
                              .chk (((0 : Int) ≤ (IntKind.wrap IntKind.i64 ((IntKind.wrap IntKind.i64 (i2 + (1 : Int))) + (1 : Int)))) ∧ (((IntKind.wrap IntKind.i64 ((IntKind.wrap IntKind.i64 (i2 + (1 : Int))) + (1 : Int))) ≤ (((ByteArray.size q0) : Nat) : Int)) ∧ ((((ByteArray.size q0) : Nat) : Int) ≤ (((ByteArray.size q0) : Nat) : Int)))) <|
                              .call 70 #[(Value.string (ByteArray.extract q0 (Int.toNat (IntKind.wrap IntKind.i64 ((IntKind.wrap IntKind.i64 (i2 + (1 : Int))) + (1 : Int)))) (Int.toNat (((ByteArray.size q0) : Nat) : Int))))] (.int .i32) fun (i22 : Int) =>
                              .call 71 #[(Value.int IntKind.i32 i22)] .bool fun (b23 : Bool) =>
                              .cut 2 (.cons (.int .i64) (.cons (.int .i32) .nil)) (
                                .ite b23 (
                                  .cut 3 (.cons .bool .nil) (
                                    .chk (((0 : Int) ≤ (IntKind.wrap IntKind.i64 ((IntKind.wrap IntKind.i64 (i2 + (1 : Int))) + (5 : Int)))) ∧ (((IntKind.wrap IntKind.i64 ((IntKind.wrap IntKind.i64 (i2 + (1 : Int))) + (5 : Int))) ≤ (((ByteArray.size q0) : Nat) : Int)) ∧ ((((ByteArray.size q0) : Nat) : Int) ≤ (((ByteArray.size q0) : Nat) : Int)))) <|
                                    .ite (decide ((((ByteArray.size (ByteArray.extract q0 (Int.toNat (IntKind.wrap IntKind.i64 ((IntKind.wrap IntKind.i64 (i2 + (1 : Int))) + (5 : Int)))) (Int.toNat (((ByteArray.size q0) : Nat) : Int)))) : Nat) : Int) ≥ (6 : Int))) (
                                      .chk (((0 : Int) ≤ (IntKind.wrap IntKind.i64 ((IntKind.wrap IntKind.i64 (i2 + (1 : Int))) + (5 : Int)))) ∧ ((IntKind.wrap IntKind.i64 ((IntKind.wrap IntKind.i64 (i2 + (1 : Int))) + (5 : Int))) < (((ByteArray.size q0) : Nat) : Int))) <|
                                      .ite ((bt q0 (IntKind.wrap IntKind.i64 ((IntKind.wrap IntKind.i64 (i2 + (1 : Int))) + (5 : Int)))) == (92 : Int)) (
                                        .chk (((0 : Int) ≤ (IntKind.wrap IntKind.i64 ((IntKind.wrap IntKind.i64 ((IntKind.wrap IntKind.i64 (i2 + (1 : Int))) + (5 : Int))) + (1 : Int)))) ∧ ((IntKind.wrap IntKind.i64 ((IntKind.wrap IntKind.i64 ((IntKind.wrap IntKind.i64 (i2 + (1 : Int))) + (5 : Int))) + (1 : Int))) < (((ByteArray.size q0) : Nat) : Int))) <|
                                        .leaf 3 [(Value.bool ((bt q0 (IntKind.wrap IntKind.i64 ((IntKind.wrap IntKind.i64 ((IntKind.wrap IntKind.i64 (i2 + (1 : Int))) + (5 : Int))) + (1 : Int)))) == (117 : Int)))]) (
                                        .leaf 3 [(Value.bool Bool.false)])) (
                                      .leaf 3 [(Value.bool Bool.false)]))
                                    (fun z => gjson_unescape.t2 q0 i2 i22 z.1)) (
                                  .leaf 2 [(Value.int IntKind.i64 (IntKind.wrap IntKind.i64 ((IntKind.wrap IntKind.i64 (i2 + (1 : Int))) + (5 : Int)))), (Value.int IntKind.i32 i22)]))
                                (fun z => gjson_unescape.t4 z1 z.1 z.2.1))) (
                            .eff (convert 48 9 (Value.slice (z1).1 ((z1).2).1 ((z1).2).2)) .str fun (s36 : ByteArray) =>
                            .leaf 0 [(Value.string s36)]))))))))))) (
        .chk (((0 : Int) ≤ i2) ∧ (i2 < (((ByteArray.size q0) : Nat) : Int))) <|
        .eff (Instr.buildSlice 48 1 #[(0, (Value.int IntKind.u8 (bt q0 i2)))]) .slice fun (z37 : ((Option Addr) × (Nat × Nat))) =>
        .eff (Builtin.append_ (Call.argTypes (Call.mk (Callee.builtin Builtin.append) #[(Operand.tmp 16), (Operand.tmp 20)] #[48, 48])) 48 #[(Value.slice (z1).1 ((z1).2).1 ((z1).2).2), (Value.slice (z37).1 ((z37).2).1 ((z37).2).2)]) .slice fun (z38 : ((Option Addr) × (Nat × Nat))) =>
        .leaf 1 [(Value.slice (z38).1 ((z38).2).1 ((z38).2).2), (Value.int IntKind.i64 (IntKind.wrap IntKind.i64 (i2 + (1 : Int))))]))) (
    .eff (convert 48 9 (Value.slice (z1).1 ((z1).2).1 ((z1).2).2)) .str fun (s39 : ByteArray) =>
    .leaf 0 [(Value.string s39)])
def gjson_unescape.t (q0 : ByteArray) : T :=
  .eff (Instr.makeSlice 48 (Value.int IntKind.i64 (0 : Int)) (Value.int IntKind.i64 (((ByteArray.size q0) : Nat) : Int))) .slice fun (z0 : ((Option Addr) × (Nat × Nat))) =>
  .loop 1 (.cons .slice (.cons (.int .i64) .nil)) [(Value.slice (z0).1 ((z0).2).1 ((z0).2).2), (Value.int IntKind.i64 (0 : Int))]
    (fun z => gjson_unescape.t1 q0 z.1 z.2.1)
def gjson_unescape.h : Hints := ⟨[(104, [(4, (.int .i64)), (5, (.int .i32))]), (122, [(4, (.int .i64)), (5, (.int .i32))])], [], [(36, [(122, .bool)])], [(3, [(3, .slice), (4, (.int .i64))])]⟩
noncomputable def gjson_unescape.c : Code := (Tryd.f53.body).getD .skip
theorem gjson_unescape.e (q0 : ByteArray) : fnT Tryd.prog gjson_unescape.h Tryd.f53 gjson_unescape.c [.v (Value.string q0)] = gjson_unescape.t q0 := by kernel_rfl
theorem gjson_unescape.calls (q0 : ByteArray) {w : World} {R : Ending → World → Prop} (hs : sat Tryd.prog (gjson_unescape.t q0) (fun l vs w' => l = 0 ∧ R (.returned (retVal vs)) w') w) : Calls Tryd.prog 53 #[(Value.string q0)] w R :=
  have h := calls_of_tree (w := w) (R := R) (args := [.v (Value.string q0)]) (c := gjson_unescape.c) Tryd.func53 (show Tryd.f53.body = some gjson_unescape.c by kernel_rfl) (of_decide_eq_true (by kernel_rfl)) (gjson_unescape.e q0) hs
  h

/-! ### (*pub-tetrapla/pub/fastjson.Value).Type : function 55 -/
def fastjson_Value_Type.t (v : (Option Addr)) : T :=
  .ptr v fun (z0 : Addr) =>
  .load (Addr.add z0 4) (.int .i64) fun (i1 : Int) =>
  .ite (i1 == (7 : Int)) (
    .ptr v fun (z2 : Addr) =>
    .load (Addr.add z2 3) .str fun (s3 : ByteArray) =>
    .call 75 #[(Value.string s3)] .str fun (s4 : ByteArray) =>
    .ptr v fun (z5 : Addr) =>
    .store (Addr.add z5 3) (Value.string s4) <|
    .ptr v fun (z6 : Addr) =>
    .store (Addr.add z6 4) (Value.int IntKind.i64 (3 : Int)) <|
    .ptr v fun (z7 : Addr) =>
    .load (Addr.add z7 4) (.int .i64) fun (i8 : Int) =>
    .leaf 0 [(Value.int IntKind.i64 i8)]) (
    .ptr v fun (z9 : Addr) =>
    .load (Addr.add z9 4) (.int .i64) fun (i10 : Int) =>
    .leaf 0 [(Value.int IntKind.i64 i10)])
def fastjson_Value_Type.h : Hints := ⟨[], [], [], []⟩
noncomputable def fastjson_Value_Type.c : Code := (Tryd.f55.body).getD .skip
theorem fastjson_Value_Type.e (v : (Option Addr)) : fnT Tryd.prog fastjson_Value_Type.h Tryd.f55 fastjson_Value_Type.c [.v (Value.pointer v)] = fastjson_Value_Type.t v := by kernel_rfl
theorem fastjson_Value_Type.calls (v : (Option Addr)) {w : World} {R : Ending → World → Prop} (hs : sat Tryd.prog (fastjson_Value_Type.t v) (fun l vs w' => l = 0 ∧ R (.returned (retVal vs)) w') w) : Calls Tryd.prog 55 #[(Value.pointer v)] w R :=
  have h := calls_of_tree (w := w) (R := R) (args := [.v (Value.pointer v)]) (c := fastjson_Value_Type.c) Tryd.func55 (show Tryd.f55.body = some fastjson_Value_Type.c by kernel_rfl) (of_decide_eq_true (by kernel_rfl)) (fastjson_Value_Type.e v) hs
  h

/-! ### pub-tetrapla/pub/fastjson/fastfloat.ParseUint64 : function 56 -/
def fastfloat_ParseUint64.t2 (s : ByteArray) (i1 : Int) (i2 : Int) (b3 : Bool) : T :=
  .ite b3 (
    .chk (((0 : Int) ≤ i1) ∧ (i1 < (((ByteArray.size s) : Nat) : Int))) <|
    .ite (decide ((IntKind.wrap IntKind.u64 (i1 + (1 : Int))) > (18 : Int))) (
      .call 76 #[(Value.string s), (Value.int IntKind.i64 (10 : Int)), (Value.int IntKind.i64 (64 : Int))] (.tuple (.cons (.int .u64) (.cons .any .nil))) fun (z4 : (Int × (Value × PUnit))) =>
      .chk ((isIface ((z4).2).1) = Bool.true) <|
      .ite (!(isNil ((z4).2).1)) (
        .leaf 0 [(Value.int IntKind.u64 (0 : Int)), ((z4).2).1]) (
        .leaf 0 [(Value.int IntKind.u64 (z4).1), Value.nilIface])) (
      .leaf 2 [(Value.int IntKind.u64 (IntKind.wrap IntKind.u64 (i1 + (1 : Int)))), (Value.int IntKind.u64 (IntKind.wrap IntKind.u64 ((IntKind.wrap IntKind.u64 (i2 * (10 : Int))) + (IntKind.wrap IntKind.u64 (IntKind.wrap IntKind.u8 ((bt s i1) - (48 : Int)))))))])) (
    .leaf 1 [(Value.int IntKind.u64 i2), (Value.int IntKind.u64 i1)])
def fastfloat_ParseUint64.t1 (s : ByteArray) (i1 : Int) (i2 : Int) : T :=
  .ite (decide (i1 < (IntKind.wrap IntKind.u64 (((ByteArray.size s) : Nat) : Int)))) (
    .cut 3 (.cons .bool .nil) (
      .chk (((0 : Int) ≤ i1) ∧ (i1 < (((ByteArray.size s) : Nat) : Int))) <|
      .ite (decide ((bt s i1) ≥ (48 : Int))) (
        .chk (((0 : Int) ≤ i1) ∧ (i1 < (((ByteArray.size s) : Nat) : Int))) <|
        .leaf 3 [(Value.bool (decide ((bt s i1) ≤ (57 : Int))))]) (
        .leaf 3 [(Value.bool Bool.false)]))
      (fun z => fastfloat_ParseUint64.t2 s i1 i2 z.1)) (
    .leaf 1 [(Value.int IntKind.u64 i2), (Value.int IntKind.u64 i1)])
def fastfloat_ParseUint64.t3 (s : ByteArray) (i5 : Int) (i6 : Int) : T :=
  .ite (decide (i6 ≤ (0 : Int))) (
    .call 52 #[(Value.string (ByteArray.mk #[(99 : UInt8), (97 : UInt8), (110 : UInt8), (110 : UInt8), (111 : UInt8), (116 : UInt8), (32 : UInt8), (112 : UInt8), (97 : UInt8), (114 : UInt8), (115 : UInt8), (101 : UInt8), (32 : UInt8), (117 : UInt8), (105 : UInt8), (110 : UInt8), (116 : UInt8), (54 : UInt8), (52 : UInt8), (32 : UInt8), (102 : UInt8), (114 : UInt8), (111 : UInt8), (109 : UInt8)]))] .any fun (v7 : Value) =>
    .leaf 0 [(Value.int IntKind.u64 (0 : Int)), v7]) (
    .ite (decide (i6 < (IntKind.wrap IntKind.u64 (((ByteArray.size s) : Nat) : Int)))) (
      .call 52 #[(Value.string (ByteArray.mk #[(117 : UInt8), (110 : UInt8), (112 : UInt8), (97 : UInt8), (114 : UInt8), (115 : UInt8), (101 : UInt8), (100 : UInt8), (32 : UInt8), (116 : UInt8), (97 : UInt8), (105 : UInt8), (108 : UInt8), (32 : UInt8), (108 : UInt8), (101 : UInt8), (102 : UInt8), (116 : UInt8), (32 : UInt8), (97 : UInt8), (102 : UInt8), (116 : UInt8), (101 : UInt8), (114 : UInt8), (32 : UInt8), (112 : UInt8), (97 : UInt8), (114 : UInt8), (115 : UInt8), (105 : UInt8), (110 : UInt8), (103 : UInt8), (32 : UInt8), (117 : UInt8), (105 : UInt8), (110 : UInt8), (116 : UInt8), (54 : UInt8), (52 : UInt8), (32 : UInt8), (102 : UInt8), (114 : UInt8), (111 : UInt8), (109 : UInt8)]))] .any fun (v8 : Value) =>
      .leaf 0 [(Value.int IntKind.u64 (0 : Int)), v8]) (
      .leaf 0 [(Value.int IntKind.u64 i5), Value.nilIface]))
def fastfloat_ParseUint64.t (s : ByteArray) : T :=
  .ite ((((ByteArray.size s) : Nat) : Int) == (0 : Int)) (
    .call 52 #[(Value.string (ByteArray.mk #[(99 : UInt8), (97 : UInt8), (110 : UInt8), (110 : UInt8), (111 : UInt8), (116 : UInt8), (32 : UInt8), (112 : UInt8), (97 : UInt8), (114 : UInt8), (115 : UInt8), (101 : UInt8), (32 : UInt8), (117 : UInt8), (105 : UInt8), (110 : UInt8), (116 : UInt8), (54 : UInt8), (52 : UInt8), (32 : UInt8), (102 : UInt8), (114 : UInt8), (111 : UInt8), (109 : UInt8), (32 : UInt8), (101 : UInt8), (109 : UInt8), (112 : UInt8), (116 : UInt8), (121 : UInt8), (32 : UInt8), (115 : UInt8), (116 : UInt8), (114 : UInt8), (105 : UInt8), (110 : UInt8), (103 : UInt8)]))] .any fun (v0 : Value) =>
    .leaf 0 [(Value.int IntKind.u64 (0 : Int)), v0]) (
    .cut 1 (.cons (.int .u64) (.cons (.int .u64) .nil)) (
      .loop 2 (.cons (.int .u64) (.cons (.int .u64) .nil)) [(Value.int IntKind.u64 (0 : Int)), (Value.int IntKind.u64 (0 : Int))]
        (fun z => fastfloat_ParseUint64.t1 s z.1 z.2.1))
      (fun z => fastfloat_ParseUint64.t3 s z.1 z.2.1))
def fastfloat_ParseUint64.h : Hints := ⟨[], [(0, [(5, (.int .u64)), (4, (.int .u64))])], [(7, [(28, .bool)])], [(6, [(4, (.int .u64)), (5, (.int .u64))])]⟩
noncomputable def fastfloat_ParseUint64.c : Code := (Tryd.f56.body).getD .skip
theorem fastfloat_ParseUint64.e (s : ByteArray) : fnT Tryd.prog fastfloat_ParseUint64.h Tryd.f56 fastfloat_ParseUint64.c [.v (Value.string s)] = fastfloat_ParseUint64.t s := by kernel_rfl
theorem fastfloat_ParseUint64.calls (s : ByteArray) {w : World} {R : Ending → World → Prop} (hs : sat Tryd.prog (fastfloat_ParseUint64.t s) (fun l vs w' => l = 0 ∧ R (.returned (retVal vs)) w') w) : Calls Tryd.prog 56 #[(Value.string s)] w R :=
  have h := calls_of_tree (w := w) (R := R) (args := [.v (Value.string s)]) (c := fastfloat_ParseUint64.c) Tryd.func56 (show Tryd.f56.body = some fastfloat_ParseUint64.c by kernel_rfl) (of_decide_eq_true (by kernel_rfl)) (fastfloat_ParseUint64.e s) hs
  h

/-! ### pub-tetrapla/spec.high : function 61 -/
def spec_high.t (n : Int) : T :=
  .ite (decide ((55296 : Int) ≤ n)) (
    .leaf 0 [(Value.bool (decide (n ≤ (56319 : Int))))]) (
    .leaf 0 [(Value.bool Bool.false)])
def spec_high.h : Hints := ⟨[], [], [], []⟩
noncomputable def spec_high.c : Code := (Tryd.f61.body).getD .skip
theorem spec_high.e (n : Int) : fnT Tryd.prog spec_high.h Tryd.f61 spec_high.c [.v (Value.int IntKind.i64 n)] = spec_high.t n := by kernel_rfl
theorem spec_high.calls (n : Int) {w : World} {R : Ending → World → Prop} (hs : sat Tryd.prog (spec_high.t n) (fun l vs w' => l = 0 ∧ R (.returned (retVal vs)) w') w) : Calls Tryd.prog 61 #[(Value.int IntKind.i64 n)] w R :=
  have h := calls_of_tree (w := w) (R := R) (args := [.v (Value.int IntKind.i64 n)]) (c := spec_high.c) Tryd.func61 (show Tryd.f61.body = some spec_high.c by kernel_rfl) (of_decide_eq_true (by kernel_rfl)) (spec_high.e n) hs
  h

/-! ### pub-tetrapla/spec.low : function 62 -/
def spec_low.t (n : Int) : T :=
  .ite (decide ((56320 : Int) ≤ n)) (
    .leaf 0 [(Value.bool (decide (n ≤ (57343 : Int))))]) (
    .leaf 0 [(Value.bool Bool.false)])
def spec_low.h : Hints := ⟨[], [], [], []⟩
noncomputable def spec_low.c : Code := (Tryd.f62.body).getD .skip
theorem spec_low.e (n : Int) : fnT Tryd.prog spec_low.h Tryd.f62 spec_low.c [.v (Value.int IntKind.i64 n)] = spec_low.t n := by kernel_rfl
theorem spec_low.calls (n : Int) {w : World} {R : Ending → World → Prop} (hs : sat Tryd.prog (spec_low.t n) (fun l vs w' => l = 0 ∧ R (.returned (retVal vs)) w') w) : Calls Tryd.prog 62 #[(Value.int IntKind.i64 n)] w R :=
  have h := calls_of_tree (w := w) (R := R) (args := [.v (Value.int IntKind.i64 n)]) (c := spec_low.c) Tryd.func62 (show Tryd.f62.body = some spec_low.c by kernel_rfl) (of_decide_eq_true (by kernel_rfl)) (spec_low.e n) hs
  h

/-! ### pub-tetrapla/pub/gjson.appendHex16 : function 63 -/
def gjson_appendHex16.t (dst : (Option Addr)) (dst_len : Nat) (dst_cap : Nat) (x : Int) : T :=
  .drew <|
  .chk ((0 : Int) ≤ (12 : Int)) <|
  .chk (((0 : Int) ≤ (IntKind.wrap IntKind.u16 (((BitVec.toNat ((BitVec.ofInt 16 (Int.fdiv x (4096 : Int))) &&& (BitVec.ofInt 16 (15 : Int)))) : Nat) : Int))) ∧ ((IntKind.wrap IntKind.u16 (((BitVec.toNat ((BitVec.ofInt 16 (Int.fdiv x (4096 : Int))) &&& (BitVec.ofInt 16 (15 : Int)))) : Nat) : Int)) < (16 : Int))) <|
  .load (Addr.add (Addr.mk 0 0 Option.none) ((Int.toNat (IntKind.wrap IntKind.u16 (((BitVec.toNat ((BitVec.ofInt 16 (Int.fdiv x (4096 : Int))) &&& (BitVec.ofInt 16 (15 : Int)))) : Nat) : Int))) * 1)) (.int .u8) fun (i0 : Int) =>
  .chk ((0 : Int) ≤ (8 : Int)) <|
  .chk (((0 : Int) ≤ (IntKind.wrap IntKind.u16 (((BitVec.toNat ((BitVec.ofInt 16 (Int.fdiv x (256 : Int))) &&& (BitVec.ofInt 16 (15 : Int)))) : Nat) : Int))) ∧ ((IntKind.wrap IntKind.u16 (((BitVec.toNat ((BitVec.ofInt 16 (Int.fdiv x (256 : Int))) &&& (BitVec.ofInt 16 (15 : Int)))) : Nat) : Int)) < (16 : Int))) <|
  .load (Addr.add (Addr.mk 0 0 Option.none) ((Int.toNat (IntKind.wrap IntKind.u16 (((BitVec.toNat ((BitVec.ofInt 16 (Int.fdiv x (256 : Int))) &&& (BitVec.ofInt 16 (15 : Int)))) : Nat) : Int))) * 1)) (.int .u8) fun (i1 : Int) =>
  .chk ((0 : Int) ≤ (4 : Int)) <|
  .chk (((0 : Int) ≤ (IntKind.wrap IntKind.u16 (((BitVec.toNat ((BitVec.ofInt 16 (Int.fdiv x (16 : Int))) &&& (BitVec.ofInt 16 (15 : Int)))) : Nat) : Int))) ∧ ((IntKind.wrap IntKind.u16 (((BitVec.toNat ((BitVec.ofInt 16 (Int.fdiv x (16 : Int))) &&& (BitVec.ofInt 16 (15 : Int)))) : Nat) : Int)) < (16 : Int))) <|
  .load (Addr.add (Addr.mk 0 0 Option.none) ((Int.toNat (IntKind.wrap IntKind.u16 (((BitVec.toNat ((BitVec.ofInt 16 (Int.fdiv x (16 : Int))) &&& (BitVec.ofInt 16 (15 : Int)))) : Nat) : Int))) * 1)) (.int .u8) fun (i2 : Int) =>
  .chk ((0 : Int) ≤ (0 : Int)) <|
  .chk (((0 : Int) ≤ (IntKind.wrap IntKind.u16 (((BitVec.toNat ((BitVec.ofInt 16 (Int.fdiv x (1 : Int))) &&& (BitVec.ofInt 16 (15 : Int)))) : Nat) : Int))) ∧ ((IntKind.wrap IntKind.u16 (((BitVec.toNat ((BitVec.ofInt 16 (Int.fdiv x (1 : Int))) &&& (BitVec.ofInt 16 (15 : Int)))) : Nat) : Int)) < (16 : Int))) <|
  .load (Addr.add (Addr.mk 0 0 Option.none) ((Int.toNat (IntKind.wrap IntKind.u16 (((BitVec.toNat ((BitVec.ofInt 16 (Int.fdiv x (1 : Int))) &&& (BitVec.ofInt 16 (15 : Int)))) : Nat) : Int))) * 1)) (.int .u8) fun (i3 : Int) =>
  .here fun (z4 : World) =>
  .eff (Instr.buildSlice 48 4 #[(0, (Value.int IntKind.u8 i0)), (1, (Value.int IntKind.u8 i1)), (2, (Value.int IntKind.u8 i2)), (3, (Value.int IntKind.u8 i3))]) .slice fun (z5 : ((Option Addr) × (Nat × Nat))) =>
  .grew z4 <|
  .eff (Builtin.append_ (Call.argTypes (Call.mk (Callee.builtin Builtin.append) #[(Operand.tmp 5), (Operand.tmp 26)] #[48, 48])) 48 #[(Value.slice dst dst_len dst_cap), (Value.slice (z5).1 ((z5).2).1 ((z5).2).2)]) .slice fun (z6 : ((Option Addr) × (Nat × Nat))) =>
  .leaf 0 [(Value.slice (z6).1 ((z6).2).1 ((z6).2).2)]
def gjson_appendHex16.h : Hints := ⟨[], [], [], []⟩
noncomputable def gjson_appendHex16.c : Code := (Tryd.f63.body).getD .skip
theorem gjson_appendHex16.e (dst : (Option Addr)) (dst_len : Nat) (dst_cap : Nat) (x : Int) : fnT Tryd.prog gjson_appendHex16.h Tryd.f63 gjson_appendHex16.c [.v (Value.slice dst dst_len dst_cap), .v (Value.int IntKind.u16 x)] = gjson_appendHex16.t dst dst_len dst_cap x := by kernel_rfl
theorem gjson_appendHex16.calls (dst : (Option Addr)) (dst_len : Nat) (dst_cap : Nat) (x : Int) {w : World} {R : Ending → World → Prop} (hs : sat Tryd.prog (gjson_appendHex16.t dst dst_len dst_cap x) (fun l vs w' => l = 0 ∧ R (.returned (retVal vs)) w') w) : Calls Tryd.prog 63 #[(Value.slice dst dst_len dst_cap), (Value.int IntKind.u16 x)] w R :=
  have h := calls_of_tree (w := w) (R := R) (args := [.v (Value.slice dst dst_len dst_cap), .v (Value.int IntKind.u16 x)]) (c := gjson_appendHex16.c) Tryd.func63 (show Tryd.f63.body = some gjson_appendHex16.c by kernel_rfl) (of_decide_eq_true (by kernel_rfl)) (gjson_appendHex16.e dst dst_len dst_cap x) hs
  h

/-! ### pub-tetrapla/pub/gjson.escapeHTML : function 64 -/
def gjson_escapeHTML.t : T :=
  .leaf 0 [(Value.bool Bool.true)]
def gjson_escapeHTML.h : Hints := ⟨[], [], [], []⟩
noncomputable def gjson_escapeHTML.c : Code := (Tryd.f64.body).getD .skip
theorem gjson_escapeHTML.e : fnT Tryd.prog gjson_escapeHTML.h Tryd.f64 gjson_escapeHTML.c [] = gjson_escapeHTML.t := by kernel_rfl
theorem gjson_escapeHTML.calls {w : World} {R : Ending → World → Prop} (hs : sat Tryd.prog (gjson_escapeHTML.t) (fun l vs w' => l = 0 ∧ R (.returned (retVal vs)) w') w) : Calls Tryd.prog 64 #[] w R :=
  have h := calls_of_tree (w := w) (R := R) (args := []) (c := gjson_escapeHTML.c) Tryd.func64 (show Tryd.f64.body = some gjson_escapeHTML.c by kernel_rfl) (of_decide_eq_true (by kernel_rfl)) (gjson_escapeHTML.e) hs
  h

/-! ### pub-tetrapla/pub/gjson.squash : function 66 -/
def gjson_squash.t5 (q0 : ByteArray) (i3 : Int) (i5 : Int) (i6 : Int) (i7 : Int) : T :=
  .ite (decide (i7 > (IntKind.wrap IntKind.i64 ((IntKind.wrap IntKind.i64 (i3 + (1 : Int))) - (1 : Int))))) (
    .chk (((0 : Int) ≤ i7) ∧ (i7 < (((ByteArray.size q0) : Nat) : Int))) <|
    .ite ((bt q0 i7) != (92 : Int)) (
      .chk ((2 : Int) ≠ (0 : Int)) <|
      .ite ((Int.tmod i6 (2 : Int)) == (0 : Int)) (
        .leaf 3 [(Value.int IntKind.i64 (IntKind.wrap IntKind.i64 (i5 + (1 : Int))))]) (
        .leaf 2 [(Value.int IntKind.i64 i5)])) (
      .leaf 4 [(Value.int IntKind.i64 (IntKind.wrap IntKind.i64 (i6 + (1 : Int)))), (Value.int IntKind.i64 (IntKind.wrap IntKind.i64 (i7 - (1 : Int))))])) (
    .chk ((2 : Int) ≠ (0 : Int)) <|
    .ite ((Int.tmod i6 (2 : Int)) == (0 : Int)) (
      .leaf 3 [(Value.int IntKind.i64 (IntKind.wrap IntKind.i64 (i5 + (1 : Int))))]) (
      .leaf 2 [(Value.int IntKind.i64 i5)]))
def gjson_squash.t4 (q0 : ByteArray) (i3 : Int) (i5 : Int) : T :=
  .ite (decide (i5 < (((ByteArray.size q0) : Nat) : Int))) (
    .chk (((0 : Int) ≤ i5) ∧ (i5 < (((ByteArray.size q0) : Nat) : Int))) <|
    .ite (decide ((bt q0 i5) > (92 : Int))) (
      .leaf 3 [(Value.int IntKind.i64 (IntKind.wrap IntKind.i64 (i5 + (1 : Int))))]) (
      .chk (((0 : Int) ≤ i5) ∧ (i5 < (((ByteArray.size q0) : Nat) : Int))) <|
      .ite ((bt q0 i5) == (34 : Int)) (
        .chk (((0 : Int) ≤ (IntKind.wrap IntKind.i64 (i5 - (1 : Int)))) ∧ ((IntKind.wrap IntKind.i64 (i5 - (1 : Int))) < (((ByteArray.size q0) : Nat) : Int))) <|
        .ite ((bt q0 (IntKind.wrap IntKind.i64 (i5 - (1 : Int)))) == (92 : Int)) (
          .loop 4 (.cons (.int .i64) (.cons (.int .i64) .nil)) [(Value.int IntKind.i64 (0 : Int)), (Value.int IntKind.i64 (IntKind.wrap IntKind.i64 (i5 - (2 : Int))))]
            (fun z => gjson_squash.t5 q0 i3 i5 z.1 z.2.1)) (
          .leaf 2 [(Value.int IntKind.i64 i5)])) (
        .leaf 3 [(Value.int IntKind.i64 (IntKind.wrap IntKind.i64 (i5 + (1 : Int))))]))) (
    .leaf 2 [(Value.int IntKind.i64 i5)])
def gjson_squash.t6 (q0 : ByteArray) (i2 : Int) (i8 : Int) : T :=
  .ite (i2 == (0 : Int)) (
    .ite (decide (i8 ≥ (((ByteArray.size q0) : Nat) : Int))) (
      .leaf 0 [(Value.string q0)]) (
      .chk (((0 : Int) ≤ (0 : Int)) ∧ (((0 : Int) ≤ (IntKind.wrap IntKind.i64 (i8 + (1 : Int)))) ∧ ((IntKind.wrap IntKind.i64 (i8 + (1 : Int))) ≤ (((ByteArray.size q0) : Nat) : Int)))) <|
      .leaf 0 [(Value.string (ByteArray.extract q0 0 (Int.toNat (IntKind.wrap IntKind.i64 (i8 + (1 : Int))))))])) (
    .leaf 1 [(Value.int IntKind.i64 i2), (Value.int IntKind.i64 (IntKind.wrap IntKind.i64 (i8 + (1 : Int))))])
def gjson_squash.t7 (b9 : Bool) (i10 : Int) : T :=
  .leaf 2 [(Value.bool b9), (Value.int IntKind.i64 i10)]
def gjson_squash.t9 (b13 : Bool) (i14 : Int) : T :=
  .leaf 3 [(Value.bool b13), (Value.int IntKind.i64 i14)]
def gjson_squash.t11 (b11 : Bool) (i18 : Int) : T :=
  .leaf 2 [(Value.bool b11), (Value.int IntKind.i64 i18)]
def gjson_squash.t10 (q0 : ByteArray) (i3 : Int) (b11 : Bool) (b15 : Bool) (i16 : Int) : T :=
  .cut 3 (.cons .bool (.cons (.int .i64) .nil)) (
    .ite b15 (
      .ite ((IntKind.wrap IntKind.i64 (i16 - (1 : Int))) == (0 : Int)) (
        .chk (((0 : Int) ≤ (0 : Int)) ∧ (((0 : Int) ≤ (IntKind.wrap IntKind.i64 (i3 + (1 : Int)))) ∧ ((IntKind.wrap IntKind.i64 (i3 + (1 : Int))) ≤ (((ByteArray.size q0) : Nat) : Int)))) <|
        .leaf 0 [(Value.string (ByteArray.extract q0 0 (Int.toNat (IntKind.wrap IntKind.i64 (i3 + (1 : Int))))))]) (
        .leaf 3 [(Value.bool b15), (Value.int IntKind.i64 (IntKind.wrap IntKind.i64 (i16 - (1 : Int))))])) (
      .leaf 3 [(Value.bool b15), (Value.int IntKind.i64 i16)]))
    (fun z => gjson_squash.t11 b11 z.2.1)
def gjson_squash.t12 (i3 : Int) (i20 : Int) : T :=
  .leaf 1 [(Value.int IntKind.i64 i20), (Value.int IntKind.i64 (IntKind.wrap IntKind.i64 (i3 + (1 : Int))))]
def gjson_squash.t8 (q0 : ByteArray) (i3 : Int) (b11 : Bool) (i12 : Int) : T :=
  .cut 2 (.cons .bool (.cons (.int .i64) .nil)) (
    .ite b11 (
      .leaf 2 [(Value.bool b11), (Value.int IntKind.i64 (IntKind.wrap IntKind.i64 (i12 + (1 : Int))))]) (
      .cut 3 (.cons .bool (.cons (.int .i64) .nil)) (
        .ite ((bt q0 i3) == (125 : Int)) (
          .leaf 3 [(Value.bool ((bt q0 i3) == (125 : Int))), (Value.int IntKind.i64 i12)]) (
          .cut 4 (.cons .bool (.cons (.int .i64) .nil)) (
            .ite ((bt q0 i3) == (93 : Int)) (
              .leaf 4 [(Value.bool ((bt q0 i3) == (93 : Int))), (Value.int IntKind.i64 i12)]) (
              .leaf 4 [(Value.bool ((bt q0 i3) == (41 : Int))), (Value.int IntKind.i64 i12)]))
            (fun z => gjson_squash.t9 z.1 z.2.1)))
        (fun z => gjson_squash.t10 q0 i3 b11 z.1 z.2.1)))
    (fun z => gjson_squash.t12 i3 z.2.1)
def gjson_squash.t3 (q0 : ByteArray) (i2 : Int) (i3 : Int) (b4 : Bool) : T :=
  .ite b4 (
    .chk (((0 : Int) ≤ i3) ∧ (i3 < (((ByteArray.size q0) : Nat) : Int))) <|
    .ite ((bt q0 i3) == (34 : Int)) (
      .cut 2 (.cons (.int .i64) .nil) (
        .loop 3 (.cons (.int .i64) .nil) [(Value.int IntKind.i64 (IntKind.wrap IntKind.i64 (i3 + (1 : Int))))]
          (fun z => gjson_squash.t4 q0 i3 z.1))
        (fun z => gjson_squash.t6 q0 i2 z.1)) (
      .cut 2 (.cons .bool (.cons (.int .i64) .nil)) (
        .ite ((bt q0 i3) == (123 : Int)) (
          .leaf 2 [(Value.bool ((bt q0 i3) == (123 : Int))), (Value.int IntKind.i64 i2)]) (
          .cut 3 (.cons .bool (.cons (.int .i64) .nil)) (
            .ite ((bt q0 i3) == (91 : Int)) (
              .leaf 3 [(Value.bool ((bt q0 i3) == (91 : Int))), (Value.int IntKind.i64 i2)]) (
              .leaf 3 [(Value.bool ((bt q0 i3) == (40 : Int))), (Value.int IntKind.i64 i2)]))
            (fun z => gjson_squash.t7 z.1 z.2.1)))
        (fun z => gjson_squash.t8 q0 i3 z.1 z.2.1))) (
    .leaf 1 [(Value.int IntKind.i64 i2), (Value.int IntKind.i64 (IntKind.wrap IntKind.i64 (i3 + (1 : Int))))])
def gjson_squash.t2 (q0 : ByteArray) (i2 : Int) (i3 : Int) : T :=
  .ite (decide (i3 < (((ByteArray.size q0) : Nat) : Int))) (
    .cut 2 (.cons .bool .nil) (
      .chk (((0 : Int) ≤ i3) ∧ (i3 < (((ByteArray.size q0) : Nat) : Int))) <|
      .ite (decide ((bt q0 i3) ≥ (34 : Int))) (
        .chk (((0 : Int) ≤ i3) ∧ (i3 < (((ByteArray.size q0) : Nat) : Int))) <|
        .leaf 2 [(Value.bool (decide ((bt q0 i3) ≤ (125 : Int))))]) (
        .leaf 2 [(Value.bool Bool.false)]))
      (fun z => gjson_squash.t3 q0 i2 i3 z.1)) (
    .leaf 0 [(Value.string q0)])
def gjson_squash.t1 (q0 : ByteArray) (i0 : Int) (i1 : Int) : T :=
  .loop 1 (.cons (.int .i64) (.cons (.int .i64) .nil)) [(Value.int IntKind.i64 i0), (Value.int IntKind.i64 i1)]
    (fun z => gjson_squash.t2 q0 z.1 z.2.1)
def gjson_squash.t (q0 : ByteArray) : T :=
  .chk (((0 : Int) ≤ (0 : Int)) ∧ ((0 : Int) < (((ByteArray.size q0) : Nat) : Int))) <|
  .cut 1 (.cons (.int .i64) (.cons (.int .i64) .nil)) (
    .ite ((bt q0 (0 : Int)) != (34 : Int)) (
      .leaf 1 [(Value.int IntKind.i64 (1 : Int)), (Value.int IntKind.i64 (1 : Int))]) (
      .leaf 1 [(Value.int IntKind.i64 (0 : Int)), (Value.int IntKind.i64 (0 : Int))]))
    (fun z => gjson_squash.t1 q0 z.1 z.2.1)
def gjson_squash.h : Hints := ⟨[(10, [(4, (.int .i64)), (3, (.int .i64))]), (82, [(82, .bool), (4, (.int .i64))]), (88, [(88, .bool), (4, (.int .i64))])], [(3, [(3, (.int .i64))])], [(6, [(26, .bool)])], [(4, [(4, (.int .i64)), (3, (.int .i64))]), (11, [(3, (.int .i64))]), (18, [(6, (.int .i64)), (7, (.int .i64))])]⟩
noncomputable def gjson_squash.c : Code := (Tryd.f66.body).getD .skip
theorem gjson_squash.e (q0 : ByteArray) : fnT Tryd.prog gjson_squash.h Tryd.f66 gjson_squash.c [.v (Value.string q0)] = gjson_squash.t q0 := by kernel_rfl
theorem gjson_squash.calls (q0 : ByteArray) {w : World} {R : Ending → World → Prop} (hs : sat Tryd.prog (gjson_squash.t q0) (fun l vs w' => l = 0 ∧ R (.returned (retVal vs)) w') w) : Calls Tryd.prog 66 #[(Value.string q0)] w R :=
  have h := calls_of_tree (w := w) (R := R) (args := [.v (Value.string q0)]) (c := gjson_squash.c) Tryd.func66 (show Tryd.f66.body = some gjson_squash.c by kernel_rfl) (of_decide_eq_true (by kernel_rfl)) (gjson_squash.e q0) hs
  h

/-! ### pub-tetrapla/pub/gjson.tostr : function 67 -/
def gjson_tostr.t3 (q0 : ByteArray) (i2 : Int) (i3 : Int) : T :=
  .ite (decide (i3 > (0 : Int))) (
    .chk (((0 : Int) ≤ i3) ∧ (i3 < (((ByteArray.size q0) : Nat) : Int))) <|
    .ite ((bt q0 i3) != (92 : Int)) (
      .leaf 4 [(Value.int IntKind.i64 i2)]) (
      .leaf 5 [(Value.int IntKind.i64 (IntKind.wrap IntKind.i64 (i2 + (1 : Int)))), (Value.int IntKind.i64 (IntKind.wrap IntKind.i64 (i3 - (1 : Int))))])) (
    .leaf 4 [(Value.int IntKind.i64 i2)])
def gjson_tostr.t4 (i1 : Int) (i4 : Int) : T :=
  .chk ((2 : Int) ≠ (0 : Int)) <|
  .ite ((Int.tmod i4 (2 : Int)) == (0 : Int)) (
    .leaf 2 [(Value.int IntKind.i64 (IntKind.wrap IntKind.i64 (i1 + (1 : Int))))]) (
    .leaf 3 [])
def gjson_tostr.t5 (q0 : ByteArray) (i1 : Int) : T :=
  .drew <|
  .chk (((0 : Int) ≤ (0 : Int)) ∧ (((0 : Int) ≤ (IntKind.wrap IntKind.i64 (i1 + (1 : Int)))) ∧ ((IntKind.wrap IntKind.i64 (i1 + (1 : Int))) ≤ (((ByteArray.size q0) : Nat) : Int)))) <|
  .chk (((0 : Int) ≤ (1 : Int)) ∧ (((1 : Int) ≤ i1) ∧ (i1 ≤ (((ByteArray.size q0) : Nat) : Int)))) <|
  .here fun (z5 : World) =>
  .call 53 #[(Value.string (ByteArray.extract q0 1 (Int.toNat i1)))] .str fun (s6 : ByteArray) =>
  .grew z5 <|
  .leaf 0 [(Value.string (ByteArray.extract q0 0 (Int.toNat (IntKind.wrap IntKind.i64 (i1 + (1 : Int)))))), (Value.string s6)]
def gjson_tostr.t2 (q0 : ByteArray) (i1 : Int) : T :=
  .ite (decide (i1 < (((ByteArray.size q0) : Nat) : Int))) (
    .chk (((0 : Int) ≤ i1) ∧ (i1 < (((ByteArray.size q0) : Nat) : Int))) <|
    .ite (decide ((bt q0 i1) > (92 : Int))) (
      .leaf 2 [(Value.int IntKind.i64 (IntKind.wrap IntKind.i64 (i1 + (1 : Int))))]) (
      .chk (((0 : Int) ≤ i1) ∧ (i1 < (((ByteArray.size q0) : Nat) : Int))) <|
      .ite ((bt q0 i1) == (34 : Int)) (
        .chk (((0 : Int) ≤ (IntKind.wrap IntKind.i64 (i1 - (1 : Int)))) ∧ ((IntKind.wrap IntKind.i64 (i1 - (1 : Int))) < (((ByteArray.size q0) : Nat) : Int))) <|
        .cut 3 .nil (
          .ite ((bt q0 (IntKind.wrap IntKind.i64 (i1 - (1 : Int)))) == (92 : Int)) (
            .cut 4 (.cons (.int .i64) .nil) (
              .loop 5 (.cons (.int .i64) (.cons (.int .i64) .nil)) [(Value.int IntKind.i64 (0 : Int)), (Value.int IntKind.i64 (IntKind.wrap IntKind.i64 (i1 - (2 : Int))))]
                (fun z => gjson_tostr.t3 q0 z.1 z.2.1))
              (fun z => gjson_tostr.t4 i1 z.1)) (
            .leaf 3 []))
          (fun _ => gjson_tostr.t5 q0 i1)) (
        .leaf 2 [(Value.int IntKind.i64 (IntKind.wrap IntKind.i64 (i1 + (1 : Int))))]))) (
    .ite (decide ((IntKind.wrap IntKind.i64 (i1 + (1 : Int))) < (((ByteArray.size q0) : Nat) : Int))) (
      .chk (((0 : Int) ≤ (0 : Int)) ∧ (((0 : Int) ≤ (IntKind.wrap IntKind.i64 (i1 + (1 : Int)))) ∧ ((IntKind.wrap IntKind.i64 (i1 + (1 : Int))) ≤ (((ByteArray.size q0) : Nat) : Int)))) <|
      .chk (((0 : Int) ≤ (1 : Int)) ∧ (((1 : Int) ≤ i1) ∧ (i1 ≤ (((ByteArray.size q0) : Nat) : Int)))) <|
      .call 53 #[(Value.string (ByteArray.extract q0 1 (Int.toNat i1)))] .str fun (s7 : ByteArray) =>
      .leaf 0 [(Value.string (ByteArray.extract q0 0 (Int.toNat (IntKind.wrap IntKind.i64 (i1 + (1 : Int)))))), (Value.string s7)]) (
      .chk (((0 : Int) ≤ (0 : Int)) ∧ (((0 : Int) ≤ i1) ∧ (i1 ≤ (((ByteArray.size q0) : Nat) : Int)))) <|
      .chk (((0 : Int) ≤ (1 : Int)) ∧ (((1 : Int) ≤ i1) ∧ (i1 ≤ (((ByteArray.size q0) : Nat) : Int)))) <|
      .call 53 #[(Value.string (ByteArray.extract q0 1 (Int.toNat i1)))] .str fun (s8 : ByteArray) =>
      .leaf 0 [(Value.string (ByteArray.extract q0 0 (Int.toNat i1))), (Value.string s8)]))
def gjson_tostr.t1 (q0 : ByteArray) (i0 : Int) : T :=
  .ite (decide (i0 < (((ByteArray.size q0) : Nat) : Int))) (
    .chk (((0 : Int) ≤ i0) ∧ (i0 < (((ByteArray.size q0) : Nat) : Int))) <|
    .ite (decide ((bt q0 i0) > (92 : Int))) (
      .leaf 1 [(Value.int IntKind.i64 (IntKind.wrap IntKind.i64 (i0 + (1 : Int))))]) (
      .chk (((0 : Int) ≤ i0) ∧ (i0 < (((ByteArray.size q0) : Nat) : Int))) <|
      .ite ((bt q0 i0) == (34 : Int)) (
        .drew <|
        .chk (((0 : Int) ≤ (0 : Int)) ∧ (((0 : Int) ≤ (IntKind.wrap IntKind.i64 (i0 + (1 : Int)))) ∧ ((IntKind.wrap IntKind.i64 (i0 + (1 : Int))) ≤ (((ByteArray.size q0) : Nat) : Int)))) <|
        .chk (((0 : Int) ≤ (1 : Int)) ∧ (((1 : Int) ≤ i0) ∧ (i0 ≤ (((ByteArray.size q0) : Nat) : Int)))) <|
        .leaf 0 [(Value.string (ByteArray.extract q0 0 (Int.toNat (IntKind.wrap IntKind.i64 (i0 + (1 : Int)))))), (Value.string (ByteArray.extract q0 1 (Int.toNat i0)))]) (
        .chk (((0 : Int) ≤ i0) ∧ (i0 < (((ByteArray.size q0) : Nat) : Int))) <|
        .ite ((bt q0 i0) == (92 : Int)) (
          .loop 2 (.cons (.int .i64) .nil) [(Value.int IntKind.i64 (IntKind.wrap IntKind.i64 (i0 + (1 : Int))))]
            (fun z => gjson_tostr.t2 q0 z.1)) (
          .leaf 1 [(Value.int IntKind.i64 (IntKind.wrap IntKind.i64 (i0 + (1 : Int))))])))) (
    .drew <|
    .chk (((0 : Int) ≤ (1 : Int)) ∧ (((1 : Int) ≤ (((ByteArray.size q0) : Nat) : Int)) ∧ ((((ByteArray.size q0) : Nat) : Int) ≤ (((ByteArray.size q0) : Nat) : Int)))) <|
    .leaf 0 [(Value.string q0), (Value.string (ByteArray.extract q0 1 (Int.toNat (((ByteArray.size q0) : Nat) : Int))))])
def gjson_tostr.t (q0 : ByteArray) : T :=
  .loop 1 (.cons (.int .i64) .nil) [(Value.int IntKind.i64 (1 : Int))]
    (fun z => gjson_tostr.t1 q0 z.1)
def gjson_tostr.h : Hints := ⟨[(53, [])], [(4, [(5, (.int .i64))])], [], [(2, [(4, (.int .i64))]), (9, [(4, (.int .i64))]), (16, [(5, (.int .i64)), (6, (.int .i64))])]⟩
noncomputable def gjson_tostr.c : Code := (Tryd.f67.body).getD .skip
theorem gjson_tostr.e (q0 : ByteArray) : fnT Tryd.prog gjson_tostr.h Tryd.f67 gjson_tostr.c [.v (Value.string q0)] = gjson_tostr.t q0 := by kernel_rfl
theorem gjson_tostr.calls (q0 : ByteArray) {w : World} {R : Ending → World → Prop} (hs : sat Tryd.prog (gjson_tostr.t q0) (fun l vs w' => l = 0 ∧ R (.returned (retVal vs)) w') w) : Calls Tryd.prog 67 #[(Value.string q0)] w R :=
  have h := calls_of_tree (w := w) (R := R) (args := [.v (Value.string q0)]) (c := gjson_tostr.c) Tryd.func67 (show Tryd.f67.body = some gjson_tostr.c by kernel_rfl) (of_decide_eq_true (by kernel_rfl)) (gjson_tostr.e q0) hs
  h

/-! ### pub-tetrapla/pub/fastjson.hasSpecialChars : function 68 -/
def fastjson_hasSpecialChars.t2 (s : ByteArray) (i3 : Int) : T :=
  .ite (decide (i3 < (((ByteArray.size s) : Nat) : Int))) (
    .chk (((0 : Int) ≤ i3) ∧ (i3 < (((ByteArray.size s) : Nat) : Int))) <|
    .ite (decide ((bt s i3) < (32 : Int))) (
      .leaf 0 [(Value.bool Bool.true)]) (
      .leaf 1 [(Value.int IntKind.i64 (IntKind.wrap IntKind.i64 (i3 + (1 : Int))))])) (
    .leaf 0 [(Value.bool Bool.false)])
def fastjson_hasSpecialChars.t1 (s : ByteArray) (b2 : Bool) : T :=
  .ite b2 (
    .leaf 0 [(Value.bool Bool.true)]) (
    .loop 1 (.cons (.int .i64) .nil) [(Value.int IntKind.i64 (0 : Int))]
      (fun z => fastjson_hasSpecialChars.t2 s z.1))
def fastjson_hasSpecialChars.t (s : ByteArray) : T :=
  .cut 1 (.cons .bool .nil) (
    .call 87 #[(Value.string s), (Value.int IntKind.u8 (34 : Int))] (.int .i64) fun (i0 : Int) =>
    .ite (decide (i0 ≥ (0 : Int))) (
      .leaf 1 [(Value.bool Bool.true)]) (
      .call 87 #[(Value.string s), (Value.int IntKind.u8 (92 : Int))] (.int .i64) fun (i1 : Int) =>
      .leaf 1 [(Value.bool (decide (i1 ≥ (0 : Int))))]))
    (fun z => fastjson_hasSpecialChars.t1 s z.1)
def fastjson_hasSpecialChars.h : Hints := ⟨[], [], [(1, [(11, .bool)])], [(4, [(14, (.int .i64))])]⟩
noncomputable def fastjson_hasSpecialChars.c : Code := (Tryd.f68.body).getD .skip
theorem fastjson_hasSpecialChars.e (s : ByteArray) : fnT Tryd.prog fastjson_hasSpecialChars.h Tryd.f68 fastjson_hasSpecialChars.c [.v (Value.string s)] = fastjson_hasSpecialChars.t s := by kernel_rfl
theorem fastjson_hasSpecialChars.calls (s : ByteArray) {w : World} {R : Ending → World → Prop} (hs : sat Tryd.prog (fastjson_hasSpecialChars.t s) (fun l vs w' => l = 0 ∧ R (.returned (retVal vs)) w') w) : Calls Tryd.prog 68 #[(Value.string s)] w R :=
  have h := calls_of_tree (w := w) (R := R) (args := [.v (Value.string s)]) (c := fastjson_hasSpecialChars.c) Tryd.func68 (show Tryd.f68.body = some fastjson_hasSpecialChars.c by kernel_rfl) (of_decide_eq_true (by kernel_rfl)) (fastjson_hasSpecialChars.e s) hs
  h

/-! ### pub-tetrapla/pub/gjson.runeit : function 70 -/
def gjson_runeit.t (json : ByteArray) : T :=
  .chk (((0 : Int) ≤ (0 : Int)) ∧ (((0 : Int) ≤ (4 : Int)) ∧ ((4 : Int) ≤ (((ByteArray.size json) : Nat) : Int)))) <|
  .call 76 #[(Value.string (ByteArray.extract json 0 4)), (Value.int IntKind.i64 (16 : Int)), (Value.int IntKind.i64 (64 : Int))] (.tuple (.cons (.int .u64) (.cons .any .nil))) fun (z0 : (Int × (Value × PUnit))) =>
  .leaf 0 [(Value.int IntKind.i32 (IntKind.wrap IntKind.i32 (z0).1))]
def gjson_runeit.h : Hints := ⟨[], [], [], []⟩
noncomputable def gjson_runeit.c : Code := (Tryd.f70.body).getD .skip
theorem gjson_runeit.e (json : ByteArray) : fnT Tryd.prog gjson_runeit.h Tryd.f70 gjson_runeit.c [.v (Value.string json)] = gjson_runeit.t json := by kernel_rfl
theorem gjson_runeit.calls (json : ByteArray) {w : World} {R : Ending → World → Prop} (hs : sat Tryd.prog (gjson_runeit.t json) (fun l vs w' => l = 0 ∧ R (.returned (retVal vs)) w') w) : Calls Tryd.prog 70 #[(Value.string json)] w R :=
  have h := calls_of_tree (w := w) (R := R) (args := [.v (Value.string json)]) (c := gjson_runeit.c) Tryd.func70 (show Tryd.f70.body = some gjson_runeit.c by kernel_rfl) (of_decide_eq_true (by kernel_rfl)) (gjson_runeit.e json) hs
  h

/-! ### unicode/utf16.IsSurrogate : function 71 -/
def utf16_IsSurrogate.t (r : Int) : T :=
  .ite (decide ((55296 : Int) ≤ r)) (
    .leaf 0 [(Value.bool (decide (r < (57344 : Int))))]) (
    .leaf 0 [(Value.bool Bool.false)])
def utf16_IsSurrogate.h : Hints := ⟨[], [], [], []⟩
noncomputable def utf16_IsSurrogate.c : Code := (Tryd.f71.body).getD .skip
theorem utf16_IsSurrogate.e (r : Int) : fnT Tryd.prog utf16_IsSurrogate.h Tryd.f71 utf16_IsSurrogate.c [.v (Value.int IntKind.i32 r)] = utf16_IsSurrogate.t r := by kernel_rfl
theorem utf16_IsSurrogate.calls (r : Int) {w : World} {R : Ending → World → Prop} (hs : sat Tryd.prog (utf16_IsSurrogate.t r) (fun l vs w' => l = 0 ∧ R (.returned (retVal vs)) w') w) : Calls Tryd.prog 71 #[(Value.int IntKind.i32 r)] w R :=
  have h := calls_of_tree (w := w) (R := R) (args := [.v (Value.int IntKind.i32 r)]) (c := utf16_IsSurrogate.c) Tryd.func71 (show Tryd.f71.body = some utf16_IsSurrogate.c by kernel_rfl) (of_decide_eq_true (by kernel_rfl)) (utf16_IsSurrogate.e r) hs
  h

/-! ### unicode/utf16.DecodeRune : function 72 -/
def utf16_DecodeRune.t (r1 : Int) (r2 : Int) : T :=
  .ite (decide ((55296 : Int) ≤ r1)) (
    .ite (decide (r1 < (56320 : Int))) (
      .ite (decide ((56320 : Int) ≤ r2)) (
        .ite (decide (r2 < (57344 : Int))) (
          .chk ((0 : Int) ≤ (10 : Int)) <|
          .leaf 0 [(Value.int IntKind.i32 (IntKind.wrap IntKind.i32 ((IntKind.wrap IntKind.i32 (((BitVec.toNat ((BitVec.ofInt 32 (IntKind.wrap IntKind.i32 ((IntKind.wrap IntKind.i32 (r1 - (55296 : Int))) * (1024 : Int)))) ||| (BitVec.ofInt 32 (IntKind.wrap IntKind.i32 (r2 - (56320 : Int)))))) : Nat) : Int)) + (65536 : Int))))]) (
          .leaf 0 [(Value.int IntKind.i32 (65533 : Int))])) (
        .leaf 0 [(Value.int IntKind.i32 (65533 : Int))])) (
      .leaf 0 [(Value.int IntKind.i32 (65533 : Int))])) (
    .leaf 0 [(Value.int IntKind.i32 (65533 : Int))])
def utf16_DecodeRune.h : Hints := ⟨[], [], [], []⟩
noncomputable def utf16_DecodeRune.c : Code := (Tryd.f72.body).getD .skip
theorem utf16_DecodeRune.e (r1 : Int) (r2 : Int) : fnT Tryd.prog utf16_DecodeRune.h Tryd.f72 utf16_DecodeRune.c [.v (Value.int IntKind.i32 r1), .v (Value.int IntKind.i32 r2)] = utf16_DecodeRune.t r1 r2 := by kernel_rfl
theorem utf16_DecodeRune.calls (r1 : Int) (r2 : Int) {w : World} {R : Ending → World → Prop} (hs : sat Tryd.prog (utf16_DecodeRune.t r1 r2) (fun l vs w' => l = 0 ∧ R (.returned (retVal vs)) w') w) : Calls Tryd.prog 72 #[(Value.int IntKind.i32 r1), (Value.int IntKind.i32 r2)] w R :=
  have h := calls_of_tree (w := w) (R := R) (args := [.v (Value.int IntKind.i32 r1), .v (Value.int IntKind.i32 r2)]) (c := utf16_DecodeRune.c) Tryd.func72 (show Tryd.f72.body = some utf16_DecodeRune.c by kernel_rfl) (of_decide_eq_true (by kernel_rfl)) (utf16_DecodeRune.e r1 r2) hs
  h

/-! ### unicode/utf8.EncodeRune : function 73 -/
def utf8_EncodeRune.t (p : (Option Addr)) (p_len : Nat) (p_cap : Nat) (r : Int) : T :=
  .ite (decide ((IntKind.wrap IntKind.u32 r) ≤ (127 : Int))) (
    .chk (((0 : Int) ≤ (0 : Int)) ∧ ((0 : Int) < ((p_len : Nat) : Int))) <|
    .ptr p fun (z0 : Addr) =>
    .store (Addr.add z0 0) (Value.int IntKind.u8 (IntKind.wrap IntKind.u8 r)) <|
    .leaf 0 [(Value.int IntKind.i64 (1 : Int))]) (
    .call 89 #[(Value.slice p p_len p_cap), (Value.int IntKind.i32 r)] (.int .i64) fun (i1 : Int) =>
    .leaf 0 [(Value.int IntKind.i64 i1)])
def utf8_EncodeRune.h : Hints := ⟨[], [], [], []⟩
noncomputable def utf8_EncodeRune.c : Code := (Tryd.f73.body).getD .skip
theorem utf8_EncodeRune.e (p : (Option Addr)) (p_len : Nat) (p_cap : Nat) (r : Int) : fnT Tryd.prog utf8_EncodeRune.h Tryd.f73 utf8_EncodeRune.c [.v (Value.slice p p_len p_cap), .v (Value.int IntKind.i32 r)] = utf8_EncodeRune.t p p_len p_cap r := by kernel_rfl
theorem utf8_EncodeRune.calls (p : (Option Addr)) (p_len : Nat) (p_cap : Nat) (r : Int) {w : World} {R : Ending → World → Prop} (hs : sat Tryd.prog (utf8_EncodeRune.t p p_len p_cap r) (fun l vs w' => l = 0 ∧ R (.returned (retVal vs)) w') w) : Calls Tryd.prog 73 #[(Value.slice p p_len p_cap), (Value.int IntKind.i32 r)] w R :=
  have h := calls_of_tree (w := w) (R := R) (args := [.v (Value.slice p p_len p_cap), .v (Value.int IntKind.i32 r)]) (c := utf8_EncodeRune.c) Tryd.func73 (show Tryd.f73.body = some utf8_EncodeRune.c by kernel_rfl) (of_decide_eq_true (by kernel_rfl)) (utf8_EncodeRune.e p p_len p_cap r) hs
  h

/-! ### unicode/utf8.encodeRuneNonASCII : function 89 -/
def utf8_encodeRuneNonASCII.t1 (b4 : Bool) : T :=
  .leaf 1 [(Value.bool b4), (Value.int IntKind.i64 (0 : Int))]
def utf8_encodeRuneNonASCII.t3 (q0 : (Option Addr)) (q0_len : Nat) (q1 : Int) (b12 : Bool) : T :=
  .ite b12 (
    .chk (((0 : Int) ≤ (3 : Int)) ∧ ((3 : Int) < ((q0_len : Nat) : Int))) <|
    .ptr q0 fun (z13 : Addr) =>
    .load (Addr.add z13 3) (.int .u8) fun (i14 : Int) =>
    .chk ((0 : Int) ≤ (18 : Int)) <|
    .chk (((0 : Int) ≤ (0 : Int)) ∧ ((0 : Int) < ((q0_len : Nat) : Int))) <|
    .ptr q0 fun (z15 : Addr) =>
    .store (Addr.add z15 0) (Value.int IntKind.u8 (IntKind.wrap IntKind.u8 (((BitVec.toNat ((BitVec.ofInt 8 (240 : Int)) ||| (BitVec.ofInt 8 (IntKind.wrap IntKind.u8 (Int.fdiv q1 (262144 : Int)))))) : Nat) : Int))) <|
    .chk ((0 : Int) ≤ (12 : Int)) <|
    .chk (((0 : Int) ≤ (1 : Int)) ∧ ((1 : Int) < ((q0_len : Nat) : Int))) <|
    .ptr q0 fun (z16 : Addr) =>
    .store (Addr.add z16 1) (Value.int IntKind.u8 (IntKind.wrap IntKind.u8 (((BitVec.toNat ((BitVec.ofInt 8 (128 : Int)) ||| (BitVec.ofInt 8 (IntKind.wrap IntKind.u8 (((BitVec.toNat ((BitVec.ofInt 8 (IntKind.wrap IntKind.u8 (Int.fdiv q1 (4096 : Int)))) &&& (BitVec.ofInt 8 (63 : Int)))) : Nat) : Int))))) : Nat) : Int))) <|
    .chk ((0 : Int) ≤ (6 : Int)) <|
    .chk (((0 : Int) ≤ (2 : Int)) ∧ ((2 : Int) < ((q0_len : Nat) : Int))) <|
    .ptr q0 fun (z17 : Addr) =>
    .store (Addr.add z17 2) (Value.int IntKind.u8 (IntKind.wrap IntKind.u8 (((BitVec.toNat ((BitVec.ofInt 8 (128 : Int)) ||| (BitVec.ofInt 8 (IntKind.wrap IntKind.u8 (((BitVec.toNat ((BitVec.ofInt 8 (IntKind.wrap IntKind.u8 (Int.fdiv q1 (64 : Int)))) &&& (BitVec.ofInt 8 (63 : Int)))) : Nat) : Int))))) : Nat) : Int))) <|
    .chk (((0 : Int) ≤ (3 : Int)) ∧ ((3 : Int) < ((q0_len : Nat) : Int))) <|
    .ptr q0 fun (z18 : Addr) =>
    .store (Addr.add z18 3) (Value.int IntKind.u8 (IntKind.wrap IntKind.u8 (((BitVec.toNat ((BitVec.ofInt 8 (128 : Int)) ||| (BitVec.ofInt 8 (IntKind.wrap IntKind.u8 (((BitVec.toNat ((BitVec.ofInt 8 (IntKind.wrap IntKind.u8 q1)) &&& (BitVec.ofInt 8 (63 : Int)))) : Nat) : Int))))) : Nat) : Int))) <|
    .leaf 0 [(Value.int IntKind.i64 (4 : Int))]) (
    .chk (((0 : Int) ≤ (2 : Int)) ∧ ((2 : Int) < ((q0_len : Nat) : Int))) <|
    .ptr q0 fun (z19 : Addr) =>
    .load (Addr.add z19 2) (.int .u8) fun (i20 : Int) =>
    .chk (((0 : Int) ≤ (0 : Int)) ∧ ((0 : Int) < ((q0_len : Nat) : Int))) <|
    .ptr q0 fun (z21 : Addr) =>
    .store (Addr.add z21 0) (Value.int IntKind.u8 (239 : Int)) <|
    .chk (((0 : Int) ≤ (1 : Int)) ∧ ((1 : Int) < ((q0_len : Nat) : Int))) <|
    .ptr q0 fun (z22 : Addr) =>
    .store (Addr.add z22 1) (Value.int IntKind.u8 (191 : Int)) <|
    .chk (((0 : Int) ≤ (2 : Int)) ∧ ((2 : Int) < ((q0_len : Nat) : Int))) <|
    .ptr q0 fun (z23 : Addr) =>
    .store (Addr.add z23 2) (Value.int IntKind.u8 (189 : Int)) <|
    .leaf 0 [(Value.int IntKind.i64 (3 : Int))])
def utf8_encodeRuneNonASCII.t4 (i25 : Int) : T :=
  .leaf 0 [(Value.int IntKind.i64 i25)]
def utf8_encodeRuneNonASCII.t2 (q0 : (Option Addr)) (q0_len : Nat) (q1 : Int) (b5 : Bool) : T :=
  .cut 1 (.cons .bool (.cons (.int .i64) .nil)) (
    .ite b5 (
      .chk (((0 : Int) ≤ (2 : Int)) ∧ ((2 : Int) < ((q0_len : Nat) : Int))) <|
      .ptr q0 fun (z7 : Addr) =>
      .load (Addr.add z7 2) (.int .u8) fun (i8 : Int) =>
      .chk ((0 : Int) ≤ (12 : Int)) <|
      .chk (((0 : Int) ≤ (0 : Int)) ∧ ((0 : Int) < ((q0_len : Nat) : Int))) <|
      .ptr q0 fun (z9 : Addr) =>
      .store (Addr.add z9 0) (Value.int IntKind.u8 (IntKind.wrap IntKind.u8 (((BitVec.toNat ((BitVec.ofInt 8 (224 : Int)) ||| (BitVec.ofInt 8 (IntKind.wrap IntKind.u8 (Int.fdiv q1 (4096 : Int)))))) : Nat) : Int))) <|
      .chk ((0 : Int) ≤ (6 : Int)) <|
      .chk (((0 : Int) ≤ (1 : Int)) ∧ ((1 : Int) < ((q0_len : Nat) : Int))) <|
      .ptr q0 fun (z10 : Addr) =>
      .store (Addr.add z10 1) (Value.int IntKind.u8 (IntKind.wrap IntKind.u8 (((BitVec.toNat ((BitVec.ofInt 8 (128 : Int)) ||| (BitVec.ofInt 8 (IntKind.wrap IntKind.u8 (((BitVec.toNat ((BitVec.ofInt 8 (IntKind.wrap IntKind.u8 (Int.fdiv q1 (64 : Int)))) &&& (BitVec.ofInt 8 (63 : Int)))) : Nat) : Int))))) : Nat) : Int))) <|
      .chk (((0 : Int) ≤ (2 : Int)) ∧ ((2 : Int) < ((q0_len : Nat) : Int))) <|
      .ptr q0 fun (z11 : Addr) =>
      .store (Addr.add z11 2) (Value.int IntKind.u8 (IntKind.wrap IntKind.u8 (((BitVec.toNat ((BitVec.ofInt 8 (128 : Int)) ||| (BitVec.ofInt 8 (IntKind.wrap IntKind.u8 (((BitVec.toNat ((BitVec.ofInt 8 (IntKind.wrap IntKind.u8 q1)) &&& (BitVec.ofInt 8 (63 : Int)))) : Nat) : Int))))) : Nat) : Int))) <|
      .leaf 0 [(Value.int IntKind.i64 (3 : Int))]) (
      .cut 2 (.cons .bool .nil) (
        .ite (decide ((IntKind.wrap IntKind.u32 q1) > (65535 : Int))) (
          .leaf 2 [(Value.bool (decide ((IntKind.wrap IntKind.u32 q1) ≤ (1114111 : Int))))]) (
          .leaf 2 [(Value.bool Bool.false)]))
        (fun z => utf8_encodeRuneNonASCII.t3 q0 q0_len q1 z.1)))
    (fun z => utf8_encodeRuneNonASCII.t4 z.2.1)
def utf8_encodeRuneNonASCII.t (q0 : (Option Addr)) (q0_len : Nat) (q0_cap : Nat) (q1 : Int) : T :=
  .ite (decide ((IntKind.wrap IntKind.u32 q1) ≤ (2047 : Int))) (
    .chk (((0 : Int) ≤ (1 : Int)) ∧ ((1 : Int) < ((q0_len : Nat) : Int))) <|
    .ptr q0 fun (z0 : Addr) =>
    .load (Addr.add z0 1) (.int .u8) fun (i1 : Int) =>
    .chk ((0 : Int) ≤ (6 : Int)) <|
    .chk (((0 : Int) ≤ (0 : Int)) ∧ ((0 : Int) < ((q0_len : Nat) : Int))) <|
    .ptr q0 fun (z2 : Addr) =>
    .store (Addr.add z2 0) (Value.int IntKind.u8 (IntKind.wrap IntKind.u8 (((BitVec.toNat ((BitVec.ofInt 8 (192 : Int)) ||| (BitVec.ofInt 8 (IntKind.wrap IntKind.u8 (Int.fdiv q1 (64 : Int)))))) : Nat) : Int))) <|
    .chk (((0 : Int) ≤ (1 : Int)) ∧ ((1 : Int) < ((q0_len : Nat) : Int))) <|
    .ptr q0 fun (z3 : Addr) =>
    .store (Addr.add z3 1) (Value.int IntKind.u8 (IntKind.wrap IntKind.u8 (((BitVec.toNat ((BitVec.ofInt 8 (128 : Int)) ||| (BitVec.ofInt 8 (IntKind.wrap IntKind.u8 (((BitVec.toNat ((BitVec.ofInt 8 (IntKind.wrap IntKind.u8 q1)) &&& (BitVec.ofInt 8 (63 : Int)))) : Nat) : Int))))) : Nat) : Int))) <|
    .leaf 0 [(Value.int IntKind.i64 (2 : Int))]) (
    .cut 1 (.cons .bool (.cons (.int .i64) .nil)) (
      .ite (decide ((IntKind.wrap IntKind.u32 q1) < (55296 : Int))) (
        .leaf 1 [(Value.bool (decide ((IntKind.wrap IntKind.u32 q1) < (55296 : Int)))), (Value.int IntKind.i64 (0 : Int))]) (
        .cut 2 (.cons .bool .nil) (
          .ite (decide ((57343 : Int) < (IntKind.wrap IntKind.u32 q1))) (
            .leaf 2 [(Value.bool (decide ((IntKind.wrap IntKind.u32 q1) ≤ (65535 : Int))))]) (
            .leaf 2 [(Value.bool Bool.false)]))
          (fun z => utf8_encodeRuneNonASCII.t1 z.1)))
      (fun z => utf8_encodeRuneNonASCII.t2 q0 q0_len q1 z.1))
def utf8_encodeRuneNonASCII.h : Hints := ⟨[(35, [(35, .bool), (4, (.int .i64))])], [], [(13, [(35, .bool)]), (19, [(66, .bool)])], []⟩
noncomputable def utf8_encodeRuneNonASCII.c : Code := (Tryd.f89.body).getD .skip
theorem utf8_encodeRuneNonASCII.e (q0 : (Option Addr)) (q0_len : Nat) (q0_cap : Nat) (q1 : Int) : fnT Tryd.prog utf8_encodeRuneNonASCII.h Tryd.f89 utf8_encodeRuneNonASCII.c [.v (Value.slice q0 q0_len q0_cap), .v (Value.int IntKind.i32 q1)] = utf8_encodeRuneNonASCII.t q0 q0_len q0_cap q1 := by kernel_rfl
theorem utf8_encodeRuneNonASCII.calls (q0 : (Option Addr)) (q0_len : Nat) (q0_cap : Nat) (q1 : Int) {w : World} {R : Ending → World → Prop} (hs : sat Tryd.prog (utf8_encodeRuneNonASCII.t q0 q0_len q0_cap q1) (fun l vs w' => l = 0 ∧ R (.returned (retVal vs)) w') w) : Calls Tryd.prog 89 #[(Value.slice q0 q0_len q0_cap), (Value.int IntKind.i32 q1)] w R :=
  have h := calls_of_tree (w := w) (R := R) (args := [.v (Value.slice q0 q0_len q0_cap), .v (Value.int IntKind.i32 q1)]) (c := utf8_encodeRuneNonASCII.c) Tryd.func89 (show Tryd.f89.body = some utf8_encodeRuneNonASCII.c by kernel_rfl) (of_decide_eq_true (by kernel_rfl)) (utf8_encodeRuneNonASCII.e q0 q0_len q0_cap q1) hs
  h

/-! ### pub-tetrapla/pub/fastjson.unescapeStringBestEffort : function 75 -/
def fastjson_unescapeStringBestEffort.t2 (z3 : ((Option Addr) × (Nat × Nat))) (s4 : ByteArray) (z22 : (Int × (Value × PUnit))) (b27 : Bool) : T :=
  .ite b27 (
    .eff (Builtin.append_ (Call.argTypes (Call.mk (Callee.builtin Builtin.append) #[(Operand.tmp 119), (Operand.const (Value.string (ByteArray.mk #[(92 : UInt8), (117 : UInt8)])))] #[48, 9])) 48 #[(Value.slice (z3).1 ((z3).2).1 ((z3).2).2), (Value.string (ByteArray.mk #[(92 : UInt8), (117 : UInt8)]))]) .slice fun (z28 : ((Option Addr) × (Nat × Nat))) =>
    .eff (Builtin.append_ (Call.argTypes (Call.mk (Callee.builtin Builtin.append) #[(Operand.tmp 121), (Operand.tmp 122)] #[48, 9])) 48 #[(Value.slice (z28).1 ((z28).2).1 ((z28).2).2), (Value.string (ByteArray.extract (ByteArray.extract s4 1 (Int.toNat (((ByteArray.size s4) : Nat) : Int))) 0 4))]) .slice fun (z29 : ((Option Addr) × (Nat × Nat))) =>
    .leaf 2 [(Value.string (ByteArray.extract (ByteArray.extract s4 1 (Int.toNat (((ByteArray.size s4) : Nat) : Int))) 4 (Int.toNat (((ByteArray.size (ByteArray.extract s4 1 (Int.toNat (((ByteArray.size s4) : Nat) : Int)))) : Nat) : Int)))), (Value.slice (z29).1 ((z29).2).1 ((z29).2).2)]) (
    .chk (((0 : Int) ≤ (2 : Int)) ∧ (((2 : Int) ≤ (6 : Int)) ∧ ((6 : Int) ≤ (((ByteArray.size (ByteArray.extract (ByteArray.extract s4 1 (Int.toNat (((ByteArray.size s4) : Nat) : Int))) 4 (Int.toNat (((ByteArray.size (ByteArray.extract s4 1 (Int.toNat (((ByteArray.size s4) : Nat) : Int)))) : Nat) : Int)))) : Nat) : Int)))) <|
    .call 76 #[(Value.string (ByteArray.extract (ByteArray.extract (ByteArray.extract s4 1 (Int.toNat (((ByteArray.size s4) : Nat) : Int))) 4 (Int.toNat (((ByteArray.size (ByteArray.extract s4 1 (Int.toNat (((ByteArray.size s4) : Nat) : Int)))) : Nat) : Int))) 2 6)), (Value.int IntKind.i64 (16 : Int)), (Value.int IntKind.i64 (16 : Int))] (.tuple (.cons (.int .u64) (.cons .any .nil))) fun (z30 : (Int × (Value × PUnit))) =>
    .chk ((isIface ((z30).2).1) = Bool.true) <|
    .ite (!(isNil ((z30).2).1)) (
      .eff (Builtin.append_ (Call.argTypes (Call.mk (Callee.builtin Builtin.append) #[(Operand.tmp 132), (Operand.const (Value.string (ByteArray.mk #[(92 : UInt8), (117 : UInt8)])))] #[48, 9])) 48 #[(Value.slice (z3).1 ((z3).2).1 ((z3).2).2), (Value.string (ByteArray.mk #[(92 : UInt8), (117 : UInt8)]))]) .slice fun (z31 : ((Option Addr) × (Nat × Nat))) =>
      .eff (Builtin.append_ (Call.argTypes (Call.mk (Callee.builtin Builtin.append) #[(Operand.tmp 134), (Operand.tmp 135)] #[48, 9])) 48 #[(Value.slice (z31).1 ((z31).2).1 ((z31).2).2), (Value.string (ByteArray.extract (ByteArray.extract s4 1 (Int.toNat (((ByteArray.size s4) : Nat) : Int))) 0 4))]) .slice fun (z32 : ((Option Addr) × (Nat × Nat))) =>
      .leaf 2 [(Value.string (ByteArray.extract (ByteArray.extract s4 1 (Int.toNat (((ByteArray.size s4) : Nat) : Int))) 4 (Int.toNat (((ByteArray.size (ByteArray.extract s4 1 (Int.toNat (((ByteArray.size s4) : Nat) : Int)))) : Nat) : Int)))), (Value.slice (z32).1 ((z32).2).1 ((z32).2).2)]) (
      .call 72 #[(Value.int IntKind.i32 (IntKind.wrap IntKind.i32 (z22).1)), (Value.int IntKind.i32 (IntKind.wrap IntKind.i32 (z30).1))] (.int .i32) fun (i33 : Int) =>
      .eff (convert 21 9 (Value.int IntKind.i32 i33)) .str fun (s34 : ByteArray) =>
      .eff (Builtin.append_ (Call.argTypes (Call.mk (Callee.builtin Builtin.append) #[(Operand.tmp 142), (Operand.tmp 144)] #[48, 9])) 48 #[(Value.slice (z3).1 ((z3).2).1 ((z3).2).2), (Value.string s34)]) .slice fun (z35 : ((Option Addr) × (Nat × Nat))) =>
      .chk (((0 : Int) ≤ (6 : Int)) ∧ (((6 : Int) ≤ (((ByteArray.size (ByteArray.extract (ByteArray.extract s4 1 (Int.toNat (((ByteArray.size s4) : Nat) : Int))) 4 (Int.toNat (((ByteArray.size (ByteArray.extract s4 1 (Int.toNat (((ByteArray.size s4) : Nat) : Int)))) : Nat) : Int)))) : Nat) : Int)) ∧ ((((ByteArray.size (ByteArray.extract (ByteArray.extract s4 1 (Int.toNat (((ByteArray.size s4) : Nat) : Int))) 4 (Int.toNat (((ByteArray.size (ByteArray.extract s4 1 (Int.toNat (((ByteArray.size s4) : Nat) : Int)))) : Nat) : Int)))) : Nat) : Int) ≤ (((ByteArray.size (ByteArray.extract (ByteArray.extract s4 1 (Int.toNat (((ByteArray.size s4) : Nat) : Int))) 4 (Int.toNat (((ByteArray.size (ByteArray.extract s4 1 (Int.toNat (((ByteArray.size s4) : Nat) : Int)))) : Nat) : Int)))) : Nat) : Int)))) <|
      .leaf 11 [(Value.string (ByteArray.extract (ByteArray.extract (ByteArray.extract s4 1 (Int.toNat (((ByteArray.size s4) : Nat) : Int))) 4 (Int.toNat (((ByteArray.size (ByteArray.extract s4 1 (Int.toNat (((ByteArray.size s4) : Nat) : Int)))) : Nat) : Int))) 6 (Int.toNat (((ByteArray.size (ByteArray.extract (ByteArray.extract s4 1 (Int.toNat (((ByteArray.size s4) : Nat) : Int))) 4 (Int.toNat (((ByteArray.size (ByteArray.extract s4 1 (Int.toNat (((ByteArray.size s4) : Nat) : Int)))) : Nat) : Int)))) : Nat) : Int)))), (Value.slice (z35).1 ((z35).2).1 ((z35).2).2)]))
def fastjson_unescapeStringBestEffort.t3 (s38 : ByteArray) (z39 : ((Option Addr) × (Nat × Nat))) : T :=
  .leaf 10 [(Value.string s38), (Value.slice (z39).1 ((z39).2).1 ((z39).2).2)]
def fastjson_unescapeStringBestEffort.t4 (s40 : ByteArray) (z41 : ((Option Addr) × (Nat × Nat))) : T :=
  .leaf 9 [(Value.string s40), (Value.slice (z41).1 ((z41).2).1 ((z41).2).2)]
def fastjson_unescapeStringBestEffort.t5 (s42 : ByteArray) (z43 : ((Option Addr) × (Nat × Nat))) : T :=
  .leaf 8 [(Value.string s42), (Value.slice (z43).1 ((z43).2).1 ((z43).2).2)]
def fastjson_unescapeStringBestEffort.t6 (s44 : ByteArray) (z45 : ((Option Addr) × (Nat × Nat))) : T :=
  .leaf 7 [(Value.string s44), (Value.slice (z45).1 ((z45).2).1 ((z45).2).2)]
def fastjson_unescapeStringBestEffort.t7 (s46 : ByteArray) (z47 : ((Option Addr) × (Nat × Nat))) : T :=
  .leaf 6 [(Value.string s46), (Value.slice (z47).1 ((z47).2).1 ((z47).2).2)]
def fastjson_unescapeStringBestEffort.t8 (s48 : ByteArray) (z49 : ((Option Addr) × (Nat × Nat))) : T :=
  .leaf 5 [(Value.string s48), (Value.slice (z49).1 ((z49).2).1 ((z49).2).2)]
def fastjson_unescapeStringBestEffort.t9 (s50 : ByteArray) (z51 : ((Option Addr) × (Nat × Nat))) : T :=
  .leaf 4 [(Value.string s50), (Value.slice (z51).1 ((z51).2).1 ((z51).2).2)]
def fastjson_unescapeStringBestEffort.t10 (s52 : ByteArray) (z53 : ((Option Addr) × (Nat × Nat))) : T :=
  .leaf 3 [(Value.string s52), (Value.slice (z53).1 ((z53).2).1 ((z53).2).2)]
def fastjson_unescapeStringBestEffort.t11 (s54 : ByteArray) (z55 : ((Option Addr) × (Nat × Nat))) : T :=
  .leaf 2 [(Value.string s54), (Value.slice (z55).1 ((z55).2).1 ((z55).2).2)]
def fastjson_unescapeStringBestEffort.t12 (s56 : ByteArray) (z57 : ((Option Addr) × (Nat × Nat))) : T :=
  .call 87 #[(Value.string s56), (Value.int IntKind.u8 (92 : Int))] (.int .i64) fun (i58 : Int) =>
  .ite (decide (i58 < (0 : Int))) (
    .eff (Builtin.append_ (Call.argTypes (Call.mk (Callee.builtin Builtin.append) #[(Operand.tmp 152), (Operand.tmp 153)] #[48, 9])) 48 #[(Value.slice (z57).1 ((z57).2).1 ((z57).2).2), (Value.string s56)]) .slice fun (z59 : ((Option Addr) × (Nat × Nat))) =>
    .call 50 #[(Value.slice (z59).1 ((z59).2).1 ((z59).2).2)] .str fun (s60 : ByteArray) =>
    .leaf 0 [(Value.string s60)]) (
    .chk (((0 : Int) ≤ (0 : Int)) ∧ (((0 : Int) ≤ i58) ∧ (i58 ≤ (((ByteArray.size s56) : Nat) : Int)))) <|
    .eff (Builtin.append_ (Call.argTypes (Call.mk (Callee.builtin Builtin.append) #[(Operand.tmp 155), (Operand.tmp 158)] #[48, 9])) 48 #[(Value.slice (z57).1 ((z57).2).1 ((z57).2).2), (Value.string (ByteArray.extract s56 0 (Int.toNat i58)))]) .slice fun (z61 : ((Option Addr) × (Nat × Nat))) =>
    .chk (((0 : Int) ≤ (IntKind.wrap IntKind.i64 (i58 + (1 : Int)))) ∧ (((IntKind.wrap IntKind.i64 (i58 + (1 : Int))) ≤ (((ByteArray.size s56) : Nat) : Int)) ∧ ((((ByteArray.size s56) : Nat) : Int) ≤ (((ByteArray.size s56) : Nat) : Int)))) <|
    .leaf 1 [(Value.slice (z61).1 ((z61).2).1 ((z61).2).2), (Value.string (ByteArray.extract s56 (Int.toNat (IntKind.wrap IntKind.i64 (i58 + (1 : Int)))) (Int.toNat (((ByteArray.size s56) : Nat) : Int))))])
def fastjson_unescapeStringBestEffort.t1 (z3 : ((Option Addr) × (Nat × Nat))) (s4 : ByteArray) : T :=
  .ite (decide ((((ByteArray.size s4) : Nat) : Int) > (0 : Int))) (
    .chk (((0 : Int) ≤ (0 : Int)) ∧ ((0 : Int) < (((ByteArray.size s4) : Nat) : Int))) <|
    .chk (((0 : Int) ≤ (1 : Int)) ∧ (((1 : Int) ≤ (((ByteArray.size s4) : Nat) : Int)) ∧ ((((ByteArray.size s4) : Nat) : Int) ≤ (((ByteArray.size s4) : Nat) : Int)))) <|
    .cut 2 (.cons .str (.cons .slice .nil)) (
      .cut 3 (.cons .str (.cons .slice .nil)) (
        .ite ((bt s4 (0 : Int)) == (34 : Int)) (
          .eff (Instr.buildSlice 48 1 #[(0, (Value.int IntKind.u8 (34 : Int)))]) .slice fun (z5 : ((Option Addr) × (Nat × Nat))) =>
          .eff (Builtin.append_ (Call.argTypes (Call.mk (Callee.builtin Builtin.append) #[(Operand.tmp 39), (Operand.tmp 40)] #[48, 48])) 48 #[(Value.slice (z3).1 ((z3).2).1 ((z3).2).2), (Value.slice (z5).1 ((z5).2).1 ((z5).2).2)]) .slice fun (z6 : ((Option Addr) × (Nat × Nat))) =>
          .leaf 3 [(Value.string (ByteArray.extract s4 1 (Int.toNat (((ByteArray.size s4) : Nat) : Int)))), (Value.slice (z6).1 ((z6).2).1 ((z6).2).2)]) (
          .cut 4 (.cons .str (.cons .slice .nil)) (
            .ite ((bt s4 (0 : Int)) == (92 : Int)) (
              .eff (Instr.buildSlice 48 1 #[(0, (Value.int IntKind.u8 (92 : Int)))]) .slice fun (z7 : ((Option Addr) × (Nat × Nat))) =>
              .eff (Builtin.append_ (Call.argTypes (Call.mk (Callee.builtin Builtin.append) #[(Operand.tmp 44), (Operand.tmp 45)] #[48, 48])) 48 #[(Value.slice (z3).1 ((z3).2).1 ((z3).2).2), (Value.slice (z7).1 ((z7).2).1 ((z7).2).2)]) .slice fun (z8 : ((Option Addr) × (Nat × Nat))) =>
              .leaf 4 [(Value.string (ByteArray.extract s4 1 (Int.toNat (((ByteArray.size s4) : Nat) : Int)))), (Value.slice (z8).1 ((z8).2).1 ((z8).2).2)]) (
              .cut 5 (.cons .str (.cons .slice .nil)) (
                .ite ((bt s4 (0 : Int)) == (47 : Int)) (
                  .eff (Instr.buildSlice 48 1 #[(0, (Value.int IntKind.u8 (47 : Int)))]) .slice fun (z9 : ((Option Addr) × (Nat × Nat))) =>
                  .eff (Builtin.append_ (Call.argTypes (Call.mk (Callee.builtin Builtin.append) #[(Operand.tmp 49), (Operand.tmp 50)] #[48, 48])) 48 #[(Value.slice (z3).1 ((z3).2).1 ((z3).2).2), (Value.slice (z9).1 ((z9).2).1 ((z9).2).2)]) .slice fun (z10 : ((Option Addr) × (Nat × Nat))) =>
                  .leaf 5 [(Value.string (ByteArray.extract s4 1 (Int.toNat (((ByteArray.size s4) : Nat) : Int)))), (Value.slice (z10).1 ((z10).2).1 ((z10).2).2)]) (
                  .cut 6 (.cons .str (.cons .slice .nil)) (
                    .ite ((bt s4 (0 : Int)) == (98 : Int)) (
                      .eff (Instr.buildSlice 48 1 #[(0, (Value.int IntKind.u8 (8 : Int)))]) .slice fun (z11 : ((Option Addr) × (Nat × Nat))) =>
                      .eff (Builtin.append_ (Call.argTypes (Call.mk (Callee.builtin Builtin.append) #[(Operand.tmp 54), (Operand.tmp 55)] #[48, 48])) 48 #[(Value.slice (z3).1 ((z3).2).1 ((z3).2).2), (Value.slice (z11).1 ((z11).2).1 ((z11).2).2)]) .slice fun (z12 : ((Option Addr) × (Nat × Nat))) =>
                      .leaf 6 [(Value.string (ByteArray.extract s4 1 (Int.toNat (((ByteArray.size s4) : Nat) : Int)))), (Value.slice (z12).1 ((z12).2).1 ((z12).2).2)]) (
                      .cut 7 (.cons .str (.cons .slice .nil)) (
                        .ite ((bt s4 (0 : Int)) == (102 : Int)) (
                          .eff (Instr.buildSlice 48 1 #[(0, (Value.int IntKind.u8 (12 : Int)))]) .slice fun (z13 : ((Option Addr) × (Nat × Nat))) =>
                          .eff (Builtin.append_ (Call.argTypes (Call.mk (Callee.builtin Builtin.append) #[(Operand.tmp 59), (Operand.tmp 60)] #[48, 48])) 48 #[(Value.slice (z3).1 ((z3).2).1 ((z3).2).2), (Value.slice (z13).1 ((z13).2).1 ((z13).2).2)]) .slice fun (z14 : ((Option Addr) × (Nat × Nat))) =>
                          .leaf 7 [(Value.string (ByteArray.extract s4 1 (Int.toNat (((ByteArray.size s4) : Nat) : Int)))), (Value.slice (z14).1 ((z14).2).1 ((z14).2).2)]) (
                          .cut 8 (.cons .str (.cons .slice .nil)) (
                            .ite ((bt s4 (0 : Int)) == (110 : Int)) (
                              .eff (Instr.buildSlice 48 1 #[(0, (Value.int IntKind.u8 (10 : Int)))]) .slice fun (z15 : ((Option Addr) × (Nat × Nat))) =>
                              .eff (Builtin.append_ (Call.argTypes (Call.mk (Callee.builtin Builtin.append) #[(Operand.tmp 64), (Operand.tmp 65)] #[48, 48])) 48 #[(Value.slice (z3).1 ((z3).2).1 ((z3).2).2), (Value.slice (z15).1 ((z15).2).1 ((z15).2).2)]) .slice fun (z16 : ((Option Addr) × (Nat × Nat))) =>
                              .leaf 8 [(Value.string (ByteArray.extract s4 1 (Int.toNat (((ByteArray.size s4) : Nat) : Int)))), (Value.slice (z16).1 ((z16).2).1 ((z16).2).2)]) (
                              .cut 9 (.cons .str (.cons .slice .nil)) (
                                .ite ((bt s4 (0 : Int)) == (114 : Int)) (
                                  .eff (Instr.buildSlice 48 1 #[(0, (Value.int IntKind.u8 (13 : Int)))]) .slice fun (z17 : ((Option Addr) × (Nat × Nat))) =>
                                  .eff (Builtin.append_ (Call.argTypes (Call.mk (Callee.builtin Builtin.append) #[(Operand.tmp 69), (Operand.tmp 70)] #[48, 48])) 48 #[(Value.slice (z3).1 ((z3).2).1 ((z3).2).2), (Value.slice (z17).1 ((z17).2).1 ((z17).2).2)]) .slice fun (z18 : ((Option Addr) × (Nat × Nat))) =>
                                  .leaf 9 [(Value.string (ByteArray.extract s4 1 (Int.toNat (((ByteArray.size s4) : Nat) : Int)))), (Value.slice (z18).1 ((z18).2).1 ((z18).2).2)]) (
                                  .cut 10 (.cons .str (.cons .slice .nil)) (
                                    .ite ((bt s4 (0 : Int)) == (116 : Int)) (
                                      .eff (Instr.buildSlice 48 1 #[(0, (Value.int IntKind.u8 (9 : Int)))]) .slice fun (z19 : ((Option Addr) × (Nat × Nat))) =>
                                      .eff (Builtin.append_ (Call.argTypes (Call.mk (Callee.builtin Builtin.append) #[(Operand.tmp 74), (Operand.tmp 75)] #[48, 48])) 48 #[(Value.slice (z3).1 ((z3).2).1 ((z3).2).2), (Value.slice (z19).1 ((z19).2).1 ((z19).2).2)]) .slice fun (z20 : ((Option Addr) × (Nat × Nat))) =>
                                      .leaf 10 [(Value.string (ByteArray.extract s4 1 (Int.toNat (((ByteArray.size s4) : Nat) : Int)))), (Value.slice (z20).1 ((z20).2).1 ((z20).2).2)]) (
                                      .cut 11 (.cons .str (.cons .slice .nil)) (
                                        .ite ((bt s4 (0 : Int)) == (117 : Int)) (
                                          .ite (decide ((((ByteArray.size (ByteArray.extract s4 1 (Int.toNat (((ByteArray.size s4) : Nat) : Int)))) : Nat) : Int) < (4 : Int))) (
                                            .eff (Builtin.append_ (Call.argTypes (Call.mk (Callee.builtin Builtin.append) #[(Operand.tmp 82), (Operand.const (Value.string (ByteArray.mk #[(92 : UInt8), (117 : UInt8)])))] #[48, 9])) 48 #[(Value.slice (z3).1 ((z3).2).1 ((z3).2).2), (Value.string (ByteArray.mk #[(92 : UInt8), (117 : UInt8)]))]) .slice fun (z21 : ((Option Addr) × (Nat × Nat))) =>
                                            .leaf 2 [(Value.string (ByteArray.extract s4 1 (Int.toNat (((ByteArray.size s4) : Nat) : Int)))), (Value.slice (z21).1 ((z21).2).1 ((z21).2).2)]) (
                                            .chk (((0 : Int) ≤ (0 : Int)) ∧ (((0 : Int) ≤ (4 : Int)) ∧ ((4 : Int) ≤ (((ByteArray.size (ByteArray.extract s4 1 (Int.toNat (((ByteArray.size s4) : Nat) : Int)))) : Nat) : Int)))) <|
                                            .call 76 #[(Value.string (ByteArray.extract (ByteArray.extract s4 1 (Int.toNat (((ByteArray.size s4) : Nat) : Int))) 0 4)), (Value.int IntKind.i64 (16 : Int)), (Value.int IntKind.i64 (16 : Int))] (.tuple (.cons (.int .u64) (.cons .any .nil))) fun (z22 : (Int × (Value × PUnit))) =>
                                            .chk ((isIface ((z22).2).1) = Bool.true) <|
                                            .ite (!(isNil ((z22).2).1)) (
                                              .eff (Builtin.append_ (Call.argTypes (Call.mk (Callee.builtin Builtin.append) #[(Operand.tmp 93), (Operand.const (Value.string (ByteArray.mk #[(92 : UInt8), (117 : UInt8)])))] #[48, 9])) 48 #[(Value.slice (z3).1 ((z3).2).1 ((z3).2).2), (Value.string (ByteArray.mk #[(92 : UInt8), (117 : UInt8)]))]) .slice fun (z23 : ((Option Addr) × (Nat × Nat))) =>
                                              .leaf 2 [(Value.string (ByteArray.extract s4 1 (Int.toNat (((ByteArray.size s4) : Nat) : Int)))), (Value.slice (z23).1 ((z23).2).1 ((z23).2).2)]) (
                                              .chk (((0 : Int) ≤ (4 : Int)) ∧ (((4 : Int) ≤ (((ByteArray.size (ByteArray.extract s4 1 (Int.toNat (((ByteArray.size s4) : Nat) : Int)))) : Nat) : Int)) ∧ ((((ByteArray.size (ByteArray.extract s4 1 (Int.toNat (((ByteArray.size s4) : Nat) : Int)))) : Nat) : Int) ≤ (((ByteArray.size (ByteArray.extract s4 1 (Int.toNat (((ByteArray.size s4) : Nat) : Int)))) : Nat) : Int)))) <|
                                              .call 71 #[(Value.int IntKind.i32 (IntKind.wrap IntKind.i32 (z22).1))] .bool fun (b24 : Bool) =>
                                              .ite (!b24) (
                                                .eff (convert 21 9 (Value.int IntKind.i32 (IntKind.wrap IntKind.i32 (z22).1))) .str fun (s25 : ByteArray) =>
                                                .eff (Builtin.append_ (Call.argTypes (Call.mk (Callee.builtin Builtin.append) #[(Operand.tmp 101), (Operand.tmp 104)] #[48, 9])) 48 #[(Value.slice (z3).1 ((z3).2).1 ((z3).2).2), (Value.string s25)]) .slice fun (z26 : ((Option Addr) × (Nat × Nat))) =>
                                                .leaf 2 [(Value.string (ByteArray.extract (ByteArray.extract s4 1 (Int.toNat (((ByteArray.size s4) : Nat) : Int))) 4 (Int.toNat (((ByteArray.size (ByteArray.extract s4 1 (Int.toNat (((ByteArray.size s4) : Nat) : Int)))) : Nat) : Int)))), (Value.slice (z26).1 ((z26).2).1 ((z26).2).2)]) (
                                                .cut 12 (.cons .bool .nil) (
                                                  .ite (decide ((((ByteArray.size (ByteArray.extract (ByteArray.extract s4 1 (Int.toNat (((ByteArray.size s4) : Nat) : Int))) 4 (Int.toNat (((ByteArray.size (ByteArray.extract s4 1 (Int.toNat (((ByteArray.size s4) : Nat) : Int)))) : Nat) : Int)))) : Nat) : Int) < (6 : Int))) (
                                                    .leaf 12 [(Value.bool Bool.true)]) (
                                                    .chk (((0 : Int) ≤ (0 : Int)) ∧ ((0 : Int) < (((ByteArray.size (ByteArray.extract (ByteArray.extract s4 1 (Int.toNat (((ByteArray.size s4) : Nat) : Int))) 4 (Int.toNat (((ByteArray.size (ByteArray.extract s4 1 (Int.toNat (((ByteArray.size s4) : Nat) : Int)))) : Nat) : Int)))) : Nat) : Int))) <|
                                                    .ite ((bt (ByteArray.extract (ByteArray.extract s4 1 (Int.toNat (((ByteArray.size s4) : Nat) : Int))) 4 (Int.toNat (((ByteArray.size (ByteArray.extract s4 1 (Int.toNat (((ByteArray.size s4) : Nat) : Int)))) : Nat) : Int))) (0 : Int)) != (92 : Int)) (
                                                      .leaf 12 [(Value.bool Bool.true)]) (
                                                      .chk (((0 : Int) ≤ (1 : Int)) ∧ ((1 : Int) < (((ByteArray.size (ByteArray.extract (ByteArray.extract s4 1 (Int.toNat (((ByteArray.size s4) : Nat) : Int))) 4 (Int.toNat (((ByteArray.size (ByteArray.extract s4 1 (Int.toNat (((ByteArray.size s4) : Nat) : Int)))) : Nat) : Int)))) : Nat) : Int))) <|
                                                      .leaf 12 [(Value.bool ((bt (ByteArray.extract (ByteArray.extract s4 1 (Int.toNat (((ByteArray.size s4) : Nat) : Int))) 4 (Int.toNat (((ByteArray.size (ByteArray.extract s4 1 (Int.toNat (((ByteArray.size s4) : Nat) : Int)))) : Nat) : Int))) (1 : Int)) != (117 : Int)))])))
                                                  (fun z => fastjson_unescapeStringBestEffort.t2 z3 s4 z22 z.1))))) (
                                          .eff (Instr.buildSlice 48 2 #[(0, (Value.int IntKind.u8 (92 : Int))), (1, (Value.int IntKind.u8 (bt s4 (0 : Int))))]) .slice fun (z36 : ((Option Addr) × (Nat × Nat))) =>
                                          .eff (Builtin.append_ (Call.argTypes (Call.mk (Callee.builtin Builtin.append) #[(Operand.tmp 33), (Operand.tmp 35)] #[48, 48])) 48 #[(Value.slice (z3).1 ((z3).2).1 ((z3).2).2), (Value.slice (z36).1 ((z36).2).1 ((z36).2).2)]) .slice fun (z37 : ((Option Addr) × (Nat × Nat))) =>
                                          .leaf 11 [(Value.string (ByteArray.extract s4 1 (Int.toNat (((ByteArray.size s4) : Nat) : Int)))), (Value.slice (z37).1 ((z37).2).1 ((z37).2).2)]))
                                        (fun z => fastjson_unescapeStringBestEffort.t3 z.1 z.2.1)))
                                    (fun z => fastjson_unescapeStringBestEffort.t4 z.1 z.2.1)))
                                (fun z => fastjson_unescapeStringBestEffort.t5 z.1 z.2.1)))
                            (fun z => fastjson_unescapeStringBestEffort.t6 z.1 z.2.1)))
                        (fun z => fastjson_unescapeStringBestEffort.t7 z.1 z.2.1)))
                    (fun z => fastjson_unescapeStringBestEffort.t8 z.1 z.2.1)))
                (fun z => fastjson_unescapeStringBestEffort.t9 z.1 z.2.1)))
            (fun z => fastjson_unescapeStringBestEffort.t10 z.1 z.2.1)))
        (fun z => fastjson_unescapeStringBestEffort.t11 z.1 z.2.1))
      (fun z => fastjson_unescapeStringBestEffort.t12 z.1 z.2.1)) (
    .call 50 #[(Value.slice (z3).1 ((z3).2).1 ((z3).2).2)] .str fun (s62 : ByteArray) =>
    .leaf 0 [(Value.string s62)])
def fastjson_unescapeStringBestEffort.t (q0 : ByteArray) : T :=
  .call 87 #[(Value.string q0), (Value.int IntKind.u8 (92 : Int))] (.int .i64) fun (i0 : Int) =>
  .ite (decide (i0 < (0 : Int))) (
    .leaf 0 [(Value.string q0)]) (
    .call 91 #[(Value.string q0)] .slice fun (z1 : ((Option Addr) × (Nat × Nat))) =>
    .chk (((0 : Int) ≤ (0 : Int)) ∧ (((0 : Int) ≤ i0) ∧ (i0 ≤ ((((z1).2).2 : Nat) : Int)))) <|
    .chk (((0 : Int) ≤ (IntKind.wrap IntKind.i64 (i0 + (1 : Int)))) ∧ (((IntKind.wrap IntKind.i64 (i0 + (1 : Int))) ≤ (((ByteArray.size q0) : Nat) : Int)) ∧ ((((ByteArray.size q0) : Nat) : Int) ≤ (((ByteArray.size q0) : Nat) : Int)))) <|
    .loop 1 (.cons .slice (.cons .str .nil)) [(Value.slice (if (((z1).2).2 = 0) then (z1).1 else (Option.map (fun (y2 : Addr) => (Addr.add y2 0)) (z1).1)) ((Int.toNat i0) - 0) (((z1).2).2 - 0)), (Value.string (ByteArray.extract q0 (Int.toNat (IntKind.wrap IntKind.i64 (i0 + (1 : Int)))) (Int.toNat (((ByteArray.size q0) : Nat) : Int))))]
      (fun z => fastjson_unescapeStringBestEffort.t1 z.1 z.2.1))
def fastjson_unescapeStringBestEffort.h : Hints := ⟨[(37, [(0, .str), (4, .slice)]), (42, [(0, .str), (4, .slice)]), (47, [(0, .str), (4, .slice)]), (52, [(0, .str), (4, .slice)]), (57, [(0, .str), (4, .slice)]), (62, [(0, .str), (4, .slice)]), (67, [(0, .str), (4, .slice)]), (72, [(0, .str), (4, .slice)]), (77, [(0, .str), (4, .slice)])], [(2, [(0, .str), (4, .slice)])], [(38, [(118, .bool)])], [(7, [(4, .slice), (0, .str)])]⟩
noncomputable def fastjson_unescapeStringBestEffort.c : Code := (Tryd.f75.body).getD .skip
theorem fastjson_unescapeStringBestEffort.e (q0 : ByteArray) : fnT Tryd.prog fastjson_unescapeStringBestEffort.h Tryd.f75 fastjson_unescapeStringBestEffort.c [.v (Value.string q0)] = fastjson_unescapeStringBestEffort.t q0 := by kernel_rfl
theorem fastjson_unescapeStringBestEffort.calls (q0 : ByteArray) {w : World} {R : Ending → World → Prop} (hs : sat Tryd.prog (fastjson_unescapeStringBestEffort.t q0) (fun l vs w' => l = 0 ∧ R (.returned (retVal vs)) w') w) : Calls Tryd.prog 75 #[(Value.string q0)] w R :=
  have h := calls_of_tree (w := w) (R := R) (args := [.v (Value.string q0)]) (c := fastjson_unescapeStringBestEffort.c) Tryd.func75 (show Tryd.f75.body = some fastjson_unescapeStringBestEffort.c by kernel_rfl) (of_decide_eq_true (by kernel_rfl)) (fastjson_unescapeStringBestEffort.e q0) hs
  h

end Go.Proofs.YtbmmpnjpejamaaaDoor.Tr
