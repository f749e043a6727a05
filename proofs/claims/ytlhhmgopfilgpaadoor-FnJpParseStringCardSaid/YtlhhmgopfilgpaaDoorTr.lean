/- Trees of loaded functions, printed by wip/tools/rxprint (a program of this repo): each is what 'exec' comes to, held by the kernel. No statement of the set is proved here. -/
import Derived.Test.YtlhhmgopfilgpaaDoorRz
import Derived.Test.YtlhhmgopfilgpaaDoorProg
import Derived.KernelRfl
namespace Go.Proofs.YtlhhmgopfilgpaaDoor.Tr
open Go Go.Proofs Go.Proofs.YtlhhmgopfilgpaaDoor.Rx
set_option linter.unusedVariables false
set_option maxRecDepth 100000
/-! ### pub-tetrapla/laws.FnJrParseInt : function 3 -/
def laws_FnJrParseInt.t3 (raw : ByteArray) (i2 : Int) : T :=
  .ite (decide (i2 < (((ByteArray.size raw) : Nat) : Int))) (
    .chk (((0 : Int) ≤ i2) ∧ (i2 < (((ByteArray.size raw) : Nat) : Int))) <|
    .ite (decide ((bt raw i2) ≥ (48 : Int))) (
      .chk (((0 : Int) ≤ i2) ∧ (i2 < (((ByteArray.size raw) : Nat) : Int))) <|
      .ite (decide ((bt raw i2) ≤ (57 : Int))) (
        .leaf 1 [(Value.int IntKind.i64 (IntKind.wrap IntKind.i64 (i2 + (1 : Int))))]) (
        .ite (decide (i2 < (((ByteArray.size raw) : Nat) : Int))) (
          .chk (((0 : Int) ≤ (0 : Int)) ∧ (((0 : Int) ≤ i2) ∧ (i2 ≤ (((ByteArray.size raw) : Nat) : Int)))) <|
          .call 8 #[(Value.string (ByteArray.extract raw 0 (Int.toNat i2)))] (.int .i64) fun (i3 : Int) =>
          .ite (i3 == (8 : Int)) (
            .leaf 0 [(Value.bool Bool.true)]) (
            .call 9 #[(Value.string raw)] (.int .i64) fun (i4 : Int) =>
            .call 8 #[(Value.string raw)] (.int .i64) fun (i5 : Int) =>
            .ite (i4 == i5) (
              .call 9 #[(Value.string (ByteArray.mk #[(57 : UInt8), (50 : UInt8), (50 : UInt8), (51 : UInt8), (51 : UInt8), (55 : UInt8), (50 : UInt8), (48 : UInt8), (51 : UInt8), (54 : UInt8), (56 : UInt8), (53 : UInt8), (52 : UInt8), (55 : UInt8), (55 : UInt8), (53 : UInt8), (56 : UInt8), (48 : UInt8), (56 : UInt8)]))] (.int .i64) fun (i6 : Int) =>
              .leaf 0 [(Value.bool (i6 == (8 : Int)))]) (
              .leaf 0 [(Value.bool Bool.false)]))) (
          .call 9 #[(Value.string raw)] (.int .i64) fun (i7 : Int) =>
          .call 8 #[(Value.string raw)] (.int .i64) fun (i8 : Int) =>
          .ite (i7 == i8) (
            .call 9 #[(Value.string (ByteArray.mk #[(57 : UInt8), (50 : UInt8), (50 : UInt8), (51 : UInt8), (51 : UInt8), (55 : UInt8), (50 : UInt8), (48 : UInt8), (51 : UInt8), (54 : UInt8), (56 : UInt8), (53 : UInt8), (52 : UInt8), (55 : UInt8), (55 : UInt8), (53 : UInt8), (56 : UInt8), (48 : UInt8), (56 : UInt8)]))] (.int .i64) fun (i9 : Int) =>
            .leaf 0 [(Value.bool (i9 == (8 : Int)))]) (
            .leaf 0 [(Value.bool Bool.false)])))) (
      .ite (decide (i2 < (((ByteArray.size raw) : Nat) : Int))) (
        .chk (((0 : Int) ≤ (0 : Int)) ∧ (((0 : Int) ≤ i2) ∧ (i2 ≤ (((ByteArray.size raw) : Nat) : Int)))) <|
        .call 8 #[(Value.string (ByteArray.extract raw 0 (Int.toNat i2)))] (.int .i64) fun (i10 : Int) =>
        .ite (i10 == (8 : Int)) (
          .leaf 0 [(Value.bool Bool.true)]) (
          .call 9 #[(Value.string raw)] (.int .i64) fun (i11 : Int) =>
          .call 8 #[(Value.string raw)] (.int .i64) fun (i12 : Int) =>
          .ite (i11 == i12) (
            .call 9 #[(Value.string (ByteArray.mk #[(57 : UInt8), (50 : UInt8), (50 : UInt8), (51 : UInt8), (51 : UInt8), (55 : UInt8), (50 : UInt8), (48 : UInt8), (51 : UInt8), (54 : UInt8), (56 : UInt8), (53 : UInt8), (52 : UInt8), (55 : UInt8), (55 : UInt8), (53 : UInt8), (56 : UInt8), (48 : UInt8), (56 : UInt8)]))] (.int .i64) fun (i13 : Int) =>
            .leaf 0 [(Value.bool (i13 == (8 : Int)))]) (
            .leaf 0 [(Value.bool Bool.false)]))) (
        .call 9 #[(Value.string raw)] (.int .i64) fun (i14 : Int) =>
        .call 8 #[(Value.string raw)] (.int .i64) fun (i15 : Int) =>
        .ite (i14 == i15) (
          .call 9 #[(Value.string (ByteArray.mk #[(57 : UInt8), (50 : UInt8), (50 : UInt8), (51 : UInt8), (51 : UInt8), (55 : UInt8), (50 : UInt8), (48 : UInt8), (51 : UInt8), (54 : UInt8), (56 : UInt8), (53 : UInt8), (52 : UInt8), (55 : UInt8), (55 : UInt8), (53 : UInt8), (56 : UInt8), (48 : UInt8), (56 : UInt8)]))] (.int .i64) fun (i16 : Int) =>
          .leaf 0 [(Value.bool (i16 == (8 : Int)))]) (
          .leaf 0 [(Value.bool Bool.false)])))) (
    .ite (decide (i2 < (((ByteArray.size raw) : Nat) : Int))) (
      .chk (((0 : Int) ≤ (0 : Int)) ∧ (((0 : Int) ≤ i2) ∧ (i2 ≤ (((ByteArray.size raw) : Nat) : Int)))) <|
      .call 8 #[(Value.string (ByteArray.extract raw 0 (Int.toNat i2)))] (.int .i64) fun (i17 : Int) =>
      .ite (i17 == (8 : Int)) (
        .leaf 0 [(Value.bool Bool.true)]) (
        .call 9 #[(Value.string raw)] (.int .i64) fun (i18 : Int) =>
        .call 8 #[(Value.string raw)] (.int .i64) fun (i19 : Int) =>
        .ite (i18 == i19) (
          .call 9 #[(Value.string (ByteArray.mk #[(57 : UInt8), (50 : UInt8), (50 : UInt8), (51 : UInt8), (51 : UInt8), (55 : UInt8), (50 : UInt8), (48 : UInt8), (51 : UInt8), (54 : UInt8), (56 : UInt8), (53 : UInt8), (52 : UInt8), (55 : UInt8), (55 : UInt8), (53 : UInt8), (56 : UInt8), (48 : UInt8), (56 : UInt8)]))] (.int .i64) fun (i20 : Int) =>
          .leaf 0 [(Value.bool (i20 == (8 : Int)))]) (
          .leaf 0 [(Value.bool Bool.false)]))) (
      .call 9 #[(Value.string raw)] (.int .i64) fun (i21 : Int) =>
      .call 8 #[(Value.string raw)] (.int .i64) fun (i22 : Int) =>
      .ite (i21 == i22) (
        .call 9 #[(Value.string (ByteArray.mk #[(57 : UInt8), (50 : UInt8), (50 : UInt8), (51 : UInt8), (51 : UInt8), (55 : UInt8), (50 : UInt8), (48 : UInt8), (51 : UInt8), (54 : UInt8), (56 : UInt8), (53 : UInt8), (52 : UInt8), (55 : UInt8), (55 : UInt8), (53 : UInt8), (56 : UInt8), (48 : UInt8), (56 : UInt8)]))] (.int .i64) fun (i23 : Int) =>
        .leaf 0 [(Value.bool (i23 == (8 : Int)))]) (
        .leaf 0 [(Value.bool Bool.false)])))
def laws_FnJrParseInt.t2 (raw : ByteArray) (i1 : Int) : T :=
  .loop 1 (.cons (.int .i64) .nil) [(Value.int IntKind.i64 i1)]
    (fun z => laws_FnJrParseInt.t3 raw z.1)
def laws_FnJrParseInt.t1 (raw : ByteArray) (b0 : Bool) : T :=
  .cut 1 (.cons (.int .i64) .nil) (
    .ite b0 (
      .leaf 1 [(Value.int IntKind.i64 (1 : Int))]) (
      .leaf 1 [(Value.int IntKind.i64 (0 : Int))]))
    (fun z => laws_FnJrParseInt.t2 raw z.1)
def laws_FnJrParseInt.t (raw : ByteArray) : T :=
  .ite (decide ((((ByteArray.size raw) : Nat) : Int) > (2147483647 : Int))) (
    .leaf 0 [(Value.bool Bool.true)]) (
    .ite (decide ((((ByteArray.size raw) : Nat) : Int) > (65536 : Int))) (
      .leaf 0 [(Value.bool Bool.true)]) (
      .cut 1 (.cons .bool .nil) (
        .ite (!(strEq raw (ByteArray.mk #[]))) (
          .chk (((0 : Int) ≤ (0 : Int)) ∧ ((0 : Int) < (((ByteArray.size raw) : Nat) : Int))) <|
          .leaf 1 [(Value.bool ((bt raw (0 : Int)) == (45 : Int)))]) (
          .leaf 1 [(Value.bool Bool.false)]))
        (fun z => laws_FnJrParseInt.t1 raw z.1)))
def laws_FnJrParseInt.h : Hints := ⟨[(16, [(3, (.int .i64))])], [], [(6, [(16, .bool)])], [(8, [(3, (.int .i64))])]⟩
noncomputable def laws_FnJrParseInt.c : Code := (Tryd.f3.body).getD .skip
theorem laws_FnJrParseInt.e (raw : ByteArray) : fnT Tryd.prog laws_FnJrParseInt.h Tryd.f3 laws_FnJrParseInt.c [.v (Value.string raw)] = laws_FnJrParseInt.t raw := by kernel_rfl
theorem laws_FnJrParseInt.calls (raw : ByteArray) {w : World} {R : Ending → World → Prop} (hs : sat Tryd.prog (laws_FnJrParseInt.t raw) (fun l vs w' => l = 0 ∧ R (.returned (retVal vs)) w') w) : Calls Tryd.prog 3 #[(Value.string raw)] w R :=
  have h := calls_of_tree (w := w) (R := R) (args := [.v (Value.string raw)]) (c := laws_FnJrParseInt.c) Tryd.func3 (show Tryd.f3.body = some laws_FnJrParseInt.c by kernel_rfl) (of_decide_eq_true (by kernel_rfl)) (laws_FnJrParseInt.e raw) hs
  h

/-! ### pub-tetrapla/laws.FnGjQuote : function 4 -/
def laws_FnGjQuote.t1 (s : ByteArray) (b1 : Bool) : T :=
  .ite b1 (
    .leaf 0 [(Value.bool Bool.true)]) (
    .call 12 #[(Value.string s)] .str fun (s2 : ByteArray) =>
    .call 11 #[(Value.string s2)] (.tuple (.cons (.agg (.cons (.int .i64) (.cons .str (.cons .slice (.cons .slice .nil))))) (.cons .bool .nil))) fun (z3 : ((Int × (ByteArray × (((Option Addr) × (Nat × Nat)) × (((Option Addr) × (Nat × Nat)) × PUnit)))) × (Bool × PUnit))) =>
    .alloc (Obj.cells #[(Value.int IntKind.i64 (0 : Int)), (Value.string (ByteArray.mk #[])), (Value.slice none 0 0), (Value.slice none 0 0)] 27 (0, 0)) fun (z4 : Addr) =>
    .effU (Instr.storeAt 27 (Value.pointer (some z4)) (Value.agg #[(Value.int IntKind.i64 ((z3).1).1), (Value.string (((z3).1).2).1), (Value.slice (((((z3).1).2).2).1).1 ((((((z3).1).2).2).1).2).1 ((((((z3).1).2).2).1).2).2), (Value.slice ((((((z3).1).2).2).2).1).1 (((((((z3).1).2).2).2).1).2).1 (((((((z3).1).2).2).2).1).2).2)])) <|
    .ite ((z3).2).1 (
      .load (Addr.add z4 0) (.int .i64) fun (i5 : Int) =>
      .ite (i5 == (4 : Int)) (
        .load (Addr.add z4 1) .str fun (s6 : ByteArray) =>
        .leaf 0 [(Value.bool (strEq s6 s))]) (
        .leaf 0 [(Value.bool Bool.false)])) (
      .leaf 0 [(Value.bool Bool.false)]))
def laws_FnGjQuote.t (s : ByteArray) : T :=
  .ite (decide ((((ByteArray.size s) : Nat) : Int) > (2147483647 : Int))) (
    .leaf 0 [(Value.bool Bool.true)]) (
    .cut 1 (.cons .bool .nil) (
      .ite (decide ((((ByteArray.size s) : Nat) : Int) > (4096 : Int))) (
        .leaf 1 [(Value.bool Bool.true)]) (
        .call 10 #[(Value.string s)] .bool fun (b0 : Bool) =>
        .leaf 1 [(Value.bool (!b0))]))
      (fun z => laws_FnGjQuote.t1 s z.1))
def laws_FnGjQuote.h : Hints := ⟨[], [], [(3, [(15, .bool)])], []⟩
noncomputable def laws_FnGjQuote.c : Code := (Tryd.f4.body).getD .skip
theorem laws_FnGjQuote.e (s : ByteArray) : fnT Tryd.prog laws_FnGjQuote.h Tryd.f4 laws_FnGjQuote.c [.v (Value.string s)] = laws_FnGjQuote.t s := by kernel_rfl
theorem laws_FnGjQuote.calls (s : ByteArray) {w : World} {R : Ending → World → Prop} (hs : sat Tryd.prog (laws_FnGjQuote.t s) (fun l vs w' => l = 0 ∧ R (.returned (retVal vs)) w') w) : Calls Tryd.prog 4 #[(Value.string s)] w R :=
  have h := calls_of_tree (w := w) (R := R) (args := [.v (Value.string s)]) (c := laws_FnGjQuote.c) Tryd.func4 (show Tryd.f4.body = some laws_FnGjQuote.c by kernel_rfl) (of_decide_eq_true (by kernel_rfl)) (laws_FnGjQuote.e s) hs
  h

/-! ### pub-tetrapla/laws.FnMtBehind : function 5 -/
def laws_FnMtBehind.t2 (s : ByteArray) (tail : ByteArray) (b3 : Bool) : T :=
  .ite b3 (
    .leaf 0 [(Value.bool Bool.true)]) (
    .call 14 #[(Value.string tail)] .str fun (s4 : ByteArray) =>
    .chk ((1 + (ByteArray.size s4)) ≤ 9223372036854775807) <|
    .call 13 #[(Value.string s), (Value.string ((ByteArray.mk #[(42 : UInt8)]) ++ s4))] .bool fun (b5 : Bool) =>
    .ite (decide ((((ByteArray.size s) : Nat) : Int) ≥ (((ByteArray.size tail) : Nat) : Int))) (
      .chk (((0 : Int) ≤ (IntKind.wrap IntKind.i64 ((((ByteArray.size s) : Nat) : Int) - (((ByteArray.size tail) : Nat) : Int)))) ∧ (((IntKind.wrap IntKind.i64 ((((ByteArray.size s) : Nat) : Int) - (((ByteArray.size tail) : Nat) : Int))) ≤ (((ByteArray.size s) : Nat) : Int)) ∧ ((((ByteArray.size s) : Nat) : Int) ≤ (((ByteArray.size s) : Nat) : Int)))) <|
      .leaf 0 [(Value.bool (b5 == (strEq (ByteArray.extract s (Int.toNat (IntKind.wrap IntKind.i64 ((((ByteArray.size s) : Nat) : Int) - (((ByteArray.size tail) : Nat) : Int)))) (Int.toNat (((ByteArray.size s) : Nat) : Int))) tail)))]) (
      .leaf 0 [(Value.bool (!b5))]))
def laws_FnMtBehind.t1 (s : ByteArray) (tail : ByteArray) (b0 : Bool) : T :=
  .ite b0 (
    .leaf 0 [(Value.bool Bool.true)]) (
    .cut 1 (.cons .bool .nil) (
      .ite (decide ((((ByteArray.size s) : Nat) : Int) > (4096 : Int))) (
        .leaf 1 [(Value.bool Bool.true)]) (
        .ite (decide ((((ByteArray.size tail) : Nat) : Int) > (4096 : Int))) (
          .leaf 1 [(Value.bool Bool.true)]) (
          .call 10 #[(Value.string s)] .bool fun (b1 : Bool) =>
          .ite (!b1) (
            .leaf 1 [(Value.bool Bool.true)]) (
            .call 10 #[(Value.string tail)] .bool fun (b2 : Bool) =>
            .leaf 1 [(Value.bool (!b2))]))))
      (fun z => laws_FnMtBehind.t2 s tail z.1))
def laws_FnMtBehind.t (s : ByteArray) (tail : ByteArray) : T :=
  .cut 1 (.cons .bool .nil) (
    .ite (decide ((((ByteArray.size s) : Nat) : Int) > (2147483647 : Int))) (
      .leaf 1 [(Value.bool Bool.true)]) (
      .leaf 1 [(Value.bool (decide ((((ByteArray.size tail) : Nat) : Int) > (2147483647 : Int))))]))
    (fun z => laws_FnMtBehind.t1 s tail z.1)
def laws_FnMtBehind.h : Hints := ⟨[], [], [(1, [(12, .bool)]), (3, [(30, .bool)])], []⟩
noncomputable def laws_FnMtBehind.c : Code := (Tryd.f5.body).getD .skip
theorem laws_FnMtBehind.e (s : ByteArray) (tail : ByteArray) : fnT Tryd.prog laws_FnMtBehind.h Tryd.f5 laws_FnMtBehind.c [.v (Value.string s), .v (Value.string tail)] = laws_FnMtBehind.t s tail := by kernel_rfl
theorem laws_FnMtBehind.calls (s : ByteArray) (tail : ByteArray) {w : World} {R : Ending → World → Prop} (hs : sat Tryd.prog (laws_FnMtBehind.t s tail) (fun l vs w' => l = 0 ∧ R (.returned (retVal vs)) w') w) : Calls Tryd.prog 5 #[(Value.string s), (Value.string tail)] w R :=
  have h := calls_of_tree (w := w) (R := R) (args := [.v (Value.string s), .v (Value.string tail)]) (c := laws_FnMtBehind.c) Tryd.func5 (show Tryd.f5.body = some laws_FnMtBehind.c by kernel_rfl) (of_decide_eq_true (by kernel_rfl)) (laws_FnMtBehind.e s tail) hs
  h

/-! ### pub-tetrapla/laws.FnJpParseString : function 6 -/
def laws_FnJpParseString.t (raw : ByteArray) : T :=
  .ite (decide ((((ByteArray.size raw) : Nat) : Int) > (2147483647 : Int))) (
    .leaf 0 [(Value.bool Bool.true)]) (
    .ite (decide ((((ByteArray.size raw) : Nat) : Int) > (65536 : Int))) (
      .leaf 0 [(Value.bool Bool.true)]) (
      .call 15 #[(Value.string raw)] (.tuple (.cons .str (.cons .bool .nil))) fun (z0 : (ByteArray × (Bool × PUnit))) =>
      .call 16 #[(Value.string raw)] (.tuple (.cons .str (.cons .bool .nil))) fun (z1 : (ByteArray × (Bool × PUnit))) =>
      .ite (((z0).2).1 == ((z1).2).1) (
        .ite (!((z0).2).1) (
          .leaf 0 [(Value.bool Bool.true)]) (
          .leaf 0 [(Value.bool (strEq (z0).1 (z1).1))])) (
        .leaf 0 [(Value.bool Bool.false)])))
def laws_FnJpParseString.h : Hints := ⟨[], [], [], []⟩
noncomputable def laws_FnJpParseString.c : Code := (Tryd.f6.body).getD .skip
theorem laws_FnJpParseString.e (raw : ByteArray) : fnT Tryd.prog laws_FnJpParseString.h Tryd.f6 laws_FnJpParseString.c [.v (Value.string raw)] = laws_FnJpParseString.t raw := by kernel_rfl
theorem laws_FnJpParseString.calls (raw : ByteArray) {w : World} {R : Ending → World → Prop} (hs : sat Tryd.prog (laws_FnJpParseString.t raw) (fun l vs w' => l = 0 ∧ R (.returned (retVal vs)) w') w) : Calls Tryd.prog 6 #[(Value.string raw)] w R :=
  have h := calls_of_tree (w := w) (R := R) (args := [.v (Value.string raw)]) (c := laws_FnJpParseString.c) Tryd.func6 (show Tryd.f6.body = some laws_FnJpParseString.c by kernel_rfl) (of_decide_eq_true (by kernel_rfl)) (laws_FnJpParseString.e raw) hs
  h

/-! ### pub-tetrapla/laws.FnMtLimit : function 7 -/
def laws_FnMtLimit.t3 (s : ByteArray) (pattern : ByteArray) (z2 : (Bool × (Bool × PUnit))) (b4 : Bool) : T :=
  .ite b4 (
    .leaf 0 [(Value.bool Bool.false)]) (
    .ite ((z2).2).1 (
      .leaf 0 [(Value.bool (!(z2).1))]) (
      .call 13 #[(Value.string s), (Value.string pattern)] .bool fun (b5 : Bool) =>
      .leaf 0 [(Value.bool ((z2).1 == b5))]))
def laws_FnMtLimit.t2 (s : ByteArray) (pattern : ByteArray) (limit : Int) (b1 : Bool) : T :=
  .ite b1 (
    .leaf 0 [(Value.bool Bool.true)]) (
    .call 17 #[(Value.string s), (Value.string pattern), (Value.int IntKind.i64 limit)] (.tuple (.cons .bool (.cons .bool .nil))) fun (z2 : (Bool × (Bool × PUnit))) =>
    .call 17 #[(Value.string s), (Value.string (ByteArray.mk #[(42 : UInt8)])), (Value.int IntKind.i64 limit)] (.tuple (.cons .bool (.cons .bool .nil))) fun (z3 : (Bool × (Bool × PUnit))) =>
    .cut 1 (.cons .bool .nil) (
      .ite (!(z3).1) (
        .leaf 1 [(Value.bool Bool.true)]) (
        .leaf 1 [(Value.bool ((z3).2).1)]))
      (fun z => laws_FnMtLimit.t3 s pattern z2 z.1))
def laws_FnMtLimit.t1 (s : ByteArray) (pattern : ByteArray) (limit : Int) (b0 : Bool) : T :=
  .ite b0 (
    .leaf 0 [(Value.bool Bool.true)]) (
    .cut 1 (.cons .bool .nil) (
      .ite (decide ((((ByteArray.size s) : Nat) : Int) > (4096 : Int))) (
        .leaf 1 [(Value.bool Bool.true)]) (
        .leaf 1 [(Value.bool (decide ((((ByteArray.size pattern) : Nat) : Int) > (4096 : Int))))]))
      (fun z => laws_FnMtLimit.t2 s pattern limit z.1))
def laws_FnMtLimit.t (s : ByteArray) (pattern : ByteArray) (limit : Int) : T :=
  .cut 1 (.cons .bool .nil) (
    .ite (decide ((((ByteArray.size s) : Nat) : Int) > (2147483647 : Int))) (
      .leaf 1 [(Value.bool Bool.true)]) (
      .leaf 1 [(Value.bool (decide ((((ByteArray.size pattern) : Nat) : Int) > (2147483647 : Int))))]))
    (fun z => laws_FnMtLimit.t1 s pattern limit z.1)
def laws_FnMtLimit.h : Hints := ⟨[], [], [(1, [(18, .bool)]), (3, [(26, .bool)]), (7, [(44, .bool)])], []⟩
noncomputable def laws_FnMtLimit.c : Code := (Tryd.f7.body).getD .skip
theorem laws_FnMtLimit.e (s : ByteArray) (pattern : ByteArray) (limit : Int) : fnT Tryd.prog laws_FnMtLimit.h Tryd.f7 laws_FnMtLimit.c [.v (Value.string s), .v (Value.string pattern), .v (Value.int IntKind.i64 limit)] = laws_FnMtLimit.t s pattern limit := by kernel_rfl
theorem laws_FnMtLimit.calls (s : ByteArray) (pattern : ByteArray) (limit : Int) {w : World} {R : Ending → World → Prop} (hs : sat Tryd.prog (laws_FnMtLimit.t s pattern limit) (fun l vs w' => l = 0 ∧ R (.returned (retVal vs)) w') w) : Calls Tryd.prog 7 #[(Value.string s), (Value.string pattern), (Value.int IntKind.i64 limit)] w R :=
  have h := calls_of_tree (w := w) (R := R) (args := [.v (Value.string s), .v (Value.string pattern), .v (Value.int IntKind.i64 limit)]) (c := laws_FnMtLimit.c) Tryd.func7 (show Tryd.f7.body = some laws_FnMtLimit.c by kernel_rfl) (of_decide_eq_true (by kernel_rfl)) (laws_FnMtLimit.e s pattern limit) hs
  h

/-! ### pub-tetrapla/laws.jrInt : function 8 -/
def laws_jrInt.t (raw : ByteArray) : T :=
  .call 18 #[(Value.string raw)] (.tuple (.cons (.int .i64) (.cons .bool .nil))) fun (z0 : (Int × (Bool × PUnit))) =>
  .ite ((z0).2).1 (
    .leaf 0 [(Value.int IntKind.i64 (0 : Int))]) (
    .call 19 #[(Value.string raw)] .bool fun (b1 : Bool) =>
    .ite b1 (
      .leaf 0 [(Value.int IntKind.i64 (8 : Int))]) (
      .leaf 0 [(Value.int IntKind.i64 (7 : Int))]))
def laws_jrInt.h : Hints := ⟨[], [], [], []⟩
noncomputable def laws_jrInt.c : Code := (Tryd.f8.body).getD .skip
theorem laws_jrInt.e (raw : ByteArray) : fnT Tryd.prog laws_jrInt.h Tryd.f8 laws_jrInt.c [.v (Value.string raw)] = laws_jrInt.t raw := by kernel_rfl
theorem laws_jrInt.calls (raw : ByteArray) {w : World} {R : Ending → World → Prop} (hs : sat Tryd.prog (laws_jrInt.t raw) (fun l vs w' => l = 0 ∧ R (.returned (retVal vs)) w') w) : Calls Tryd.prog 8 #[(Value.string raw)] w R :=
  have h := calls_of_tree (w := w) (R := R) (args := [.v (Value.string raw)]) (c := laws_jrInt.c) Tryd.func8 (show Tryd.f8.body = some laws_jrInt.c by kernel_rfl) (of_decide_eq_true (by kernel_rfl)) (laws_jrInt.e raw) hs
  h

/-! ### pub-tetrapla/impl.JrParseInt : function 9 -/
def impl_JrParseInt.t (raw : ByteArray) : T :=
  .eff (convert 9 43 (Value.string raw)) .slice fun (z0 : ((Option Addr) × (Nat × Nat))) =>
  .call 20 #[(Value.slice (z0).1 ((z0).2).1 ((z0).2).2)] (.tuple (.cons (.int .i64) (.cons .any .nil))) fun (z1 : (Int × (Value × PUnit))) =>
  .call 21 #[((z1).2).1] (.int .i64) fun (i2 : Int) =>
  .leaf 0 [(Value.int IntKind.i64 i2)]
def impl_JrParseInt.h : Hints := ⟨[], [], [], []⟩
noncomputable def impl_JrParseInt.c : Code := (Tryd.f9.body).getD .skip
theorem impl_JrParseInt.e (raw : ByteArray) : fnT Tryd.prog impl_JrParseInt.h Tryd.f9 impl_JrParseInt.c [.v (Value.string raw)] = impl_JrParseInt.t raw := by kernel_rfl
theorem impl_JrParseInt.calls (raw : ByteArray) {w : World} {R : Ending → World → Prop} (hs : sat Tryd.prog (impl_JrParseInt.t raw) (fun l vs w' => l = 0 ∧ R (.returned (retVal vs)) w') w) : Calls Tryd.prog 9 #[(Value.string raw)] w R :=
  have h := calls_of_tree (w := w) (R := R) (args := [.v (Value.string raw)]) (c := impl_JrParseInt.c) Tryd.func9 (show Tryd.f9.body = some impl_JrParseInt.c by kernel_rfl) (of_decide_eq_true (by kernel_rfl)) (impl_JrParseInt.e raw) hs
  h

/-! ### pub-tetrapla/spec.UTF8 : function 10 -/
def spec_UTF8.t1 (s : ByteArray) (i0 : Int) : T :=
  .ite (decide (i0 < (((ByteArray.size s) : Nat) : Int))) (
    .call 22 #[(Value.string s), (Value.int IntKind.i64 i0)] (.tuple (.cons (.int .i64) (.cons (.int .i64) (.cons .bool .nil)))) fun (z1 : (Int × (Int × (Bool × PUnit)))) =>
    .ite (!(((z1).2).2).1) (
      .leaf 0 [(Value.bool Bool.false)]) (
      .leaf 1 [(Value.int IntKind.i64 (IntKind.wrap IntKind.i64 (i0 + ((z1).2).1)))])) (
    .leaf 0 [(Value.bool Bool.true)])
def spec_UTF8.t (s : ByteArray) : T :=
  .loop 1 (.cons (.int .i64) .nil) [(Value.int IntKind.i64 (0 : Int))]
    (fun z => spec_UTF8.t1 s z.1)
def spec_UTF8.h : Hints := ⟨[], [], [], [(2, [(3, (.int .i64))])]⟩
noncomputable def spec_UTF8.c : Code := (Tryd.f10.body).getD .skip
theorem spec_UTF8.e (s : ByteArray) : fnT Tryd.prog spec_UTF8.h Tryd.f10 spec_UTF8.c [.v (Value.string s)] = spec_UTF8.t s := by kernel_rfl
theorem spec_UTF8.calls (s : ByteArray) {w : World} {R : Ending → World → Prop} (hs : sat Tryd.prog (spec_UTF8.t s) (fun l vs w' => l = 0 ∧ R (.returned (retVal vs)) w') w) : Calls Tryd.prog 10 #[(Value.string s)] w R :=
  have h := calls_of_tree (w := w) (R := R) (args := [.v (Value.string s)]) (c := spec_UTF8.c) Tryd.func10 (show Tryd.f10.body = some spec_UTF8.c by kernel_rfl) (of_decide_eq_true (by kernel_rfl)) (spec_UTF8.e s) hs
  h

/-! ### pub-tetrapla/spec.Read : function 11 -/
def spec_Read.t (text : ByteArray) : T :=
  .alloc (Obj.cells #[(Value.int IntKind.i64 (0 : Int)), (Value.string (ByteArray.mk #[])), (Value.slice none 0 0), (Value.slice none 0 0)] 27 (0, 0)) fun (z0 : Addr) =>
  .call 23 #[(Value.string text)] (.tuple (.cons (.agg (.cons (.int .i64) (.cons (.int .i64) (.cons (.int .i64) (.cons .slice (.cons .slice .nil)))))) (.cons .bool .nil))) fun (z1 : ((Int × (Int × (Int × (((Option Addr) × (Nat × Nat)) × (((Option Addr) × (Nat × Nat)) × PUnit))))) × (Bool × PUnit))) =>
  .alloc (Obj.cells #[(Value.int IntKind.i64 (0 : Int)), (Value.int IntKind.i64 (0 : Int)), (Value.int IntKind.i64 (0 : Int)), (Value.slice none 0 0), (Value.slice none 0 0)] 50 (0, 0)) fun (z2 : Addr) =>
  .effU (Instr.storeAt 50 (Value.pointer (some z2)) (Value.agg #[(Value.int IntKind.i64 ((z1).1).1), (Value.int IntKind.i64 (((z1).1).2).1), (Value.int IntKind.i64 ((((z1).1).2).2).1), (Value.slice ((((((z1).1).2).2).2).1).1 (((((((z1).1).2).2).2).1).2).1 (((((((z1).1).2).2).2).1).2).2), (Value.slice (((((((z1).1).2).2).2).2).1).1 ((((((((z1).1).2).2).2).2).1).2).1 ((((((((z1).1).2).2).2).2).1).2).2)])) <|
  .ite (!((z1).2).1) (
    .effU (Instr.storeAt 27 (Value.pointer (some z0)) (Value.agg #[(Value.int IntKind.i64 (0 : Int)), (Value.string (ByteArray.mk #[])), (Value.slice none 0 0), (Value.slice none 0 0)])) <|
    .effS (Instr.loadAt 27 (Value.pointer (some z0))) (.agg (.cons (.int .i64) (.cons .str (.cons .slice (.cons .slice .nil))))) fun (z3 : (Int × (ByteArray × (((Option Addr) × (Nat × Nat)) × (((Option Addr) × (Nat × Nat)) × PUnit))))) =>
    .leaf 0 [(Value.agg #[(Value.int IntKind.i64 (z3).1), (Value.string ((z3).2).1), (Value.slice ((((z3).2).2).1).1 (((((z3).2).2).1).2).1 (((((z3).2).2).1).2).2), (Value.slice (((((z3).2).2).2).1).1 ((((((z3).2).2).2).1).2).1 ((((((z3).2).2).2).1).2).2)]), (Value.bool Bool.false)]) (
    .eff (Instr.loadAt 50 (Value.pointer (some z2))) (.agg (.cons (.int .i64) (.cons (.int .i64) (.cons (.int .i64) (.cons .slice (.cons .slice .nil)))))) fun (z4 : (Int × (Int × (Int × (((Option Addr) × (Nat × Nat)) × (((Option Addr) × (Nat × Nat)) × PUnit)))))) =>
    .call 24 #[(Value.string text), (Value.agg #[(Value.int IntKind.i64 (z4).1), (Value.int IntKind.i64 ((z4).2).1), (Value.int IntKind.i64 (((z4).2).2).1), (Value.slice (((((z4).2).2).2).1).1 ((((((z4).2).2).2).1).2).1 ((((((z4).2).2).2).1).2).2), (Value.slice ((((((z4).2).2).2).2).1).1 (((((((z4).2).2).2).2).1).2).1 (((((((z4).2).2).2).2).1).2).2)])] (.agg (.cons (.int .i64) (.cons .str (.cons .slice (.cons .slice .nil))))) fun (z5 : (Int × (ByteArray × (((Option Addr) × (Nat × Nat)) × (((Option Addr) × (Nat × Nat)) × PUnit))))) =>
    .effU (Instr.storeAt 27 (Value.pointer (some z0)) (Value.agg #[(Value.int IntKind.i64 (z5).1), (Value.string ((z5).2).1), (Value.slice ((((z5).2).2).1).1 (((((z5).2).2).1).2).1 (((((z5).2).2).1).2).2), (Value.slice (((((z5).2).2).2).1).1 ((((((z5).2).2).2).1).2).1 ((((((z5).2).2).2).1).2).2)])) <|
    .effS (Instr.loadAt 27 (Value.pointer (some z0))) (.agg (.cons (.int .i64) (.cons .str (.cons .slice (.cons .slice .nil))))) fun (z6 : (Int × (ByteArray × (((Option Addr) × (Nat × Nat)) × (((Option Addr) × (Nat × Nat)) × PUnit))))) =>
    .leaf 0 [(Value.agg #[(Value.int IntKind.i64 (z6).1), (Value.string ((z6).2).1), (Value.slice ((((z6).2).2).1).1 (((((z6).2).2).1).2).1 (((((z6).2).2).1).2).2), (Value.slice (((((z6).2).2).2).1).1 ((((((z6).2).2).2).1).2).1 ((((((z6).2).2).2).1).2).2)]), (Value.bool Bool.true)])
def spec_Read.h : Hints := ⟨[], [], [], []⟩
noncomputable def spec_Read.c : Code := (Tryd.f11.body).getD .skip
theorem spec_Read.e (text : ByteArray) : fnT Tryd.prog spec_Read.h Tryd.f11 spec_Read.c [.v (Value.string text)] = spec_Read.t text := by kernel_rfl
theorem spec_Read.calls (text : ByteArray) {w : World} {R : Ending → World → Prop} (hs : sat Tryd.prog (spec_Read.t text) (fun l vs w' => l = 0 ∧ R (.returned (retVal vs)) w') w) : Calls Tryd.prog 11 #[(Value.string text)] w R :=
  have h := calls_of_tree (w := w) (R := R) (args := [.v (Value.string text)]) (c := spec_Read.c) Tryd.func11 (show Tryd.f11.body = some spec_Read.c by kernel_rfl) (of_decide_eq_true (by kernel_rfl)) (spec_Read.e text) hs
  h

/-! ### pub-tetrapla/impl.GjQuote : function 12 -/
def impl_GjQuote.t (s : ByteArray) : T :=
  .call 25 #[(Value.slice none 0 0), (Value.string s)] .slice fun (z0 : ((Option Addr) × (Nat × Nat))) =>
  .eff (convert 43 9 (Value.slice (z0).1 ((z0).2).1 ((z0).2).2)) .str fun (s1 : ByteArray) =>
  .leaf 0 [(Value.string s1)]
def impl_GjQuote.h : Hints := ⟨[], [], [], []⟩
noncomputable def impl_GjQuote.c : Code := (Tryd.f12.body).getD .skip
theorem impl_GjQuote.e (s : ByteArray) : fnT Tryd.prog impl_GjQuote.h Tryd.f12 impl_GjQuote.c [.v (Value.string s)] = impl_GjQuote.t s := by kernel_rfl
theorem impl_GjQuote.calls (s : ByteArray) {w : World} {R : Ending → World → Prop} (hs : sat Tryd.prog (impl_GjQuote.t s) (fun l vs w' => l = 0 ∧ R (.returned (retVal vs)) w') w) : Calls Tryd.prog 12 #[(Value.string s)] w R :=
  have h := calls_of_tree (w := w) (R := R) (args := [.v (Value.string s)]) (c := impl_GjQuote.c) Tryd.func12 (show Tryd.f12.body = some impl_GjQuote.c by kernel_rfl) (of_decide_eq_true (by kernel_rfl)) (impl_GjQuote.e s) hs
  h

/-! ### pub-tetrapla/impl.MtMatch : function 13 -/
def impl_MtMatch.t (s : ByteArray) (pattern : ByteArray) : T :=
  .call 26 #[(Value.string s), (Value.string pattern)] .bool fun (b0 : Bool) =>
  .leaf 0 [(Value.bool b0)]
def impl_MtMatch.h : Hints := ⟨[], [], [], []⟩
noncomputable def impl_MtMatch.c : Code := (Tryd.f13.body).getD .skip
theorem impl_MtMatch.e (s : ByteArray) (pattern : ByteArray) : fnT Tryd.prog impl_MtMatch.h Tryd.f13 impl_MtMatch.c [.v (Value.string s), .v (Value.string pattern)] = impl_MtMatch.t s pattern := by kernel_rfl
theorem impl_MtMatch.calls (s : ByteArray) (pattern : ByteArray) {w : World} {R : Ending → World → Prop} (hs : sat Tryd.prog (impl_MtMatch.t s pattern) (fun l vs w' => l = 0 ∧ R (.returned (retVal vs)) w') w) : Calls Tryd.prog 13 #[(Value.string s), (Value.string pattern)] w R :=
  have h := calls_of_tree (w := w) (R := R) (args := [.v (Value.string s), .v (Value.string pattern)]) (c := impl_MtMatch.c) Tryd.func13 (show Tryd.f13.body = some impl_MtMatch.c by kernel_rfl) (of_decide_eq_true (by kernel_rfl)) (impl_MtMatch.e s pattern) hs
  h

/-! ### pub-tetrapla/laws.mtGuard : function 14 -/
def laws_mtGuard.t2 (s : ByteArray) (i0 : Int) (z1 : ((Option Addr) × (Nat × Nat))) (b2 : Bool) : T :=
  .ite b2 (
    .eff (Instr.buildSlice 43 1 #[(0, (Value.int IntKind.u8 (92 : Int)))]) .slice fun (z3 : ((Option Addr) × (Nat × Nat))) =>
    .eff (Builtin.append_ (Call.argTypes (Call.mk (Callee.builtin Builtin.append) #[(Operand.tmp 21), (Operand.tmp 22)] #[43, 43])) 43 #[(Value.slice (z1).1 ((z1).2).1 ((z1).2).2), (Value.slice (z3).1 ((z3).2).1 ((z3).2).2)]) .slice fun (z4 : ((Option Addr) × (Nat × Nat))) =>
    .chk (((0 : Int) ≤ i0) ∧ (i0 < (((ByteArray.size s) : Nat) : Int))) <|
    .eff (Instr.buildSlice 43 1 #[(0, (Value.int IntKind.u8 (bt s i0)))]) .slice fun (z5 : ((Option Addr) × (Nat × Nat))) =>
    .eff (Builtin.append_ (Call.argTypes (Call.mk (Callee.builtin Builtin.append) #[(Operand.tmp 24), (Operand.tmp 28)] #[43, 43])) 43 #[(Value.slice (z4).1 ((z4).2).1 ((z4).2).2), (Value.slice (z5).1 ((z5).2).1 ((z5).2).2)]) .slice fun (z6 : ((Option Addr) × (Nat × Nat))) =>
    .leaf 1 [(Value.int IntKind.i64 (IntKind.wrap IntKind.i64 (i0 + (1 : Int)))), (Value.slice (z6).1 ((z6).2).1 ((z6).2).2)]) (
    .chk (((0 : Int) ≤ i0) ∧ (i0 < (((ByteArray.size s) : Nat) : Int))) <|
    .eff (Instr.buildSlice 43 1 #[(0, (Value.int IntKind.u8 (bt s i0)))]) .slice fun (z7 : ((Option Addr) × (Nat × Nat))) =>
    .eff (Builtin.append_ (Call.argTypes (Call.mk (Callee.builtin Builtin.append) #[(Operand.tmp 24), (Operand.tmp 28)] #[43, 43])) 43 #[(Value.slice (z1).1 ((z1).2).1 ((z1).2).2), (Value.slice (z7).1 ((z7).2).1 ((z7).2).2)]) .slice fun (z8 : ((Option Addr) × (Nat × Nat))) =>
    .leaf 1 [(Value.int IntKind.i64 (IntKind.wrap IntKind.i64 (i0 + (1 : Int)))), (Value.slice (z8).1 ((z8).2).1 ((z8).2).2)])
def laws_mtGuard.t1 (s : ByteArray) (i0 : Int) (z1 : ((Option Addr) × (Nat × Nat))) : T :=
  .ite (decide (i0 < (((ByteArray.size s) : Nat) : Int))) (
    .cut 2 (.cons .bool .nil) (
      .chk (((0 : Int) ≤ i0) ∧ (i0 < (((ByteArray.size s) : Nat) : Int))) <|
      .ite (decide ((bt s i0) < (128 : Int))) (
        .leaf 2 [(Value.bool Bool.true)]) (
        .chk (((0 : Int) ≤ i0) ∧ (i0 < (((ByteArray.size s) : Nat) : Int))) <|
        .leaf 2 [(Value.bool (decide ((bt s i0) > (191 : Int))))]))
      (fun z => laws_mtGuard.t2 s i0 z1 z.1)) (
    .eff (convert 43 9 (Value.slice (z1).1 ((z1).2).1 ((z1).2).2)) .str fun (s9 : ByteArray) =>
    .leaf 0 [(Value.string s9)])
def laws_mtGuard.t (s : ByteArray) : T :=
  .loop 1 (.cons (.int .i64) (.cons .slice .nil)) [(Value.int IntKind.i64 (0 : Int)), (Value.slice none 0 0)]
    (fun z => laws_mtGuard.t1 s z.1 z.2.1)
def laws_mtGuard.h : Hints := ⟨[], [], [(5, [(20, .bool)])], [(3, [(4, (.int .i64)), (3, .slice)])]⟩
noncomputable def laws_mtGuard.c : Code := (Tryd.f14.body).getD .skip
theorem laws_mtGuard.e (s : ByteArray) : fnT Tryd.prog laws_mtGuard.h Tryd.f14 laws_mtGuard.c [.v (Value.string s)] = laws_mtGuard.t s := by kernel_rfl
theorem laws_mtGuard.calls (s : ByteArray) {w : World} {R : Ending → World → Prop} (hs : sat Tryd.prog (laws_mtGuard.t s) (fun l vs w' => l = 0 ∧ R (.returned (retVal vs)) w') w) : Calls Tryd.prog 14 #[(Value.string s)] w R :=
  have h := calls_of_tree (w := w) (R := R) (args := [.v (Value.string s)]) (c := laws_mtGuard.c) Tryd.func14 (show Tryd.f14.body = some laws_mtGuard.c by kernel_rfl) (of_decide_eq_true (by kernel_rfl)) (laws_mtGuard.e s) hs
  h

/-! ### pub-tetrapla/impl.JpParseString : function 15 -/
def impl_JpParseString.t (raw : ByteArray) : T :=
  .eff (convert 9 43 (Value.string raw)) .slice fun (z0 : ((Option Addr) × (Nat × Nat))) =>
  .call 27 #[(Value.slice (z0).1 ((z0).2).1 ((z0).2).2)] (.tuple (.cons .str (.cons .any .nil))) fun (z1 : (ByteArray × (Value × PUnit))) =>
  .chk ((isIface ((z1).2).1) = Bool.true) <|
  .ite (!(isNil ((z1).2).1)) (
    .leaf 0 [(Value.string (ByteArray.mk #[])), (Value.bool Bool.false)]) (
    .leaf 0 [(Value.string (z1).1), (Value.bool Bool.true)])
def impl_JpParseString.h : Hints := ⟨[], [], [], []⟩
noncomputable def impl_JpParseString.c : Code := (Tryd.f15.body).getD .skip
theorem impl_JpParseString.e (raw : ByteArray) : fnT Tryd.prog impl_JpParseString.h Tryd.f15 impl_JpParseString.c [.v (Value.string raw)] = impl_JpParseString.t raw := by kernel_rfl
theorem impl_JpParseString.calls (raw : ByteArray) {w : World} {R : Ending → World → Prop} (hs : sat Tryd.prog (impl_JpParseString.t raw) (fun l vs w' => l = 0 ∧ R (.returned (retVal vs)) w') w) : Calls Tryd.prog 15 #[(Value.string raw)] w R :=
  have h := calls_of_tree (w := w) (R := R) (args := [.v (Value.string raw)]) (c := impl_JpParseString.c) Tryd.func15 (show Tryd.f15.body = some impl_JpParseString.c by kernel_rfl) (of_decide_eq_true (by kernel_rfl)) (impl_JpParseString.e raw) hs
  h

/-! ### pub-tetrapla/spec.Unescape : function 16 -/
def spec_Unescape.t1 (raw : ByteArray) (i0 : Int) : T :=
  .ite (decide (i0 < (((ByteArray.size raw) : Nat) : Int))) (
    .chk (((0 : Int) ≤ i0) ∧ (i0 < (((ByteArray.size raw) : Nat) : Int))) <|
    .ite ((bt raw i0) != (92 : Int)) (
      .leaf 1 [(Value.int IntKind.i64 (IntKind.wrap IntKind.i64 (i0 + (1 : Int))))]) (
      .alloc (Obj.cells #[(Value.string (ByteArray.mk #[])), (Value.int IntKind.i64 (0 : Int))] 58 (0, 0)) fun (z1 : Addr) =>
      .effU (Instr.storeAt 58 (Value.pointer (some z1)) (Value.agg #[(Value.string raw), (Value.int IntKind.i64 (IntKind.wrap IntKind.i64 (i0 + (1 : Int))))])) <|
      .call 28 #[(Value.pointer (some z1))] .bool fun (b2 : Bool) =>
      .ite (!b2) (
        .leaf 0 [(Value.string (ByteArray.mk #[])), (Value.bool Bool.false)]) (
        .load (Addr.add z1 1) (.int .i64) fun (i3 : Int) =>
        .leaf 1 [(Value.int IntKind.i64 (IntKind.wrap IntKind.i64 ((IntKind.wrap IntKind.i64 (i3 - (1 : Int))) + (1 : Int))))]))) (
    .chk ((1 + (ByteArray.size raw)) ≤ 9223372036854775807) <|
    .chk (((ByteArray.size ((ByteArray.mk #[(34 : UInt8)]) ++ raw)) + 1) ≤ 9223372036854775807) <|
    .call 29 #[(Value.string (((ByteArray.mk #[(34 : UInt8)]) ++ raw) ++ (ByteArray.mk #[(34 : UInt8)])))] .str fun (s4 : ByteArray) =>
    .leaf 0 [(Value.string s4), (Value.bool Bool.true)])
def spec_Unescape.t (raw : ByteArray) : T :=
  .loop 1 (.cons (.int .i64) .nil) [(Value.int IntKind.i64 (0 : Int))]
    (fun z => spec_Unescape.t1 raw z.1)
def spec_Unescape.h : Hints := ⟨[], [], [], [(2, [(4, (.int .i64))])]⟩
noncomputable def spec_Unescape.c : Code := (Tryd.f16.body).getD .skip
theorem spec_Unescape.e (raw : ByteArray) : fnT Tryd.prog spec_Unescape.h Tryd.f16 spec_Unescape.c [.v (Value.string raw)] = spec_Unescape.t raw := by kernel_rfl
theorem spec_Unescape.calls (raw : ByteArray) {w : World} {R : Ending → World → Prop} (hs : sat Tryd.prog (spec_Unescape.t raw) (fun l vs w' => l = 0 ∧ R (.returned (retVal vs)) w') w) : Calls Tryd.prog 16 #[(Value.string raw)] w R :=
  have h := calls_of_tree (w := w) (R := R) (args := [.v (Value.string raw)]) (c := spec_Unescape.c) Tryd.func16 (show Tryd.f16.body = some spec_Unescape.c by kernel_rfl) (of_decide_eq_true (by kernel_rfl)) (spec_Unescape.e raw) hs
  h

/-! ### pub-tetrapla/impl.MtLimit : function 17 -/
def impl_MtLimit.t (s : ByteArray) (pattern : ByteArray) (limit : Int) : T :=
  .call 30 #[(Value.string s), (Value.string pattern), (Value.int IntKind.i64 limit)] (.tuple (.cons .bool (.cons .bool .nil))) fun (z0 : (Bool × (Bool × PUnit))) =>
  .leaf 0 [(Value.bool (z0).1), (Value.bool ((z0).2).1)]
def impl_MtLimit.h : Hints := ⟨[], [], [], []⟩
noncomputable def impl_MtLimit.c : Code := (Tryd.f17.body).getD .skip
theorem impl_MtLimit.e (s : ByteArray) (pattern : ByteArray) (limit : Int) : fnT Tryd.prog impl_MtLimit.h Tryd.f17 impl_MtLimit.c [.v (Value.string s), .v (Value.string pattern), .v (Value.int IntKind.i64 limit)] = impl_MtLimit.t s pattern limit := by kernel_rfl
theorem impl_MtLimit.calls (s : ByteArray) (pattern : ByteArray) (limit : Int) {w : World} {R : Ending → World → Prop} (hs : sat Tryd.prog (impl_MtLimit.t s pattern limit) (fun l vs w' => l = 0 ∧ R (.returned (retVal vs)) w') w) : Calls Tryd.prog 17 #[(Value.string s), (Value.string pattern), (Value.int IntKind.i64 limit)] w R :=
  have h := calls_of_tree (w := w) (R := R) (args := [.v (Value.string s), .v (Value.string pattern), .v (Value.int IntKind.i64 limit)]) (c := impl_MtLimit.c) Tryd.func17 (show Tryd.f17.body = some impl_MtLimit.c by kernel_rfl) (of_decide_eq_true (by kernel_rfl)) (impl_MtLimit.e s pattern limit) hs
  h

/-! ### pub-tetrapla/spec.Int64 : function 18 -/
def spec_Int64.t3 (b0 : Bool) (z2 : (Int × (Bool × PUnit))) (b3 : Bool) : T :=
  .ite b3 (
    .leaf 0 [(Value.int IntKind.i64 (IntKind.wrap IntKind.i64 (IntKind.wrap IntKind.u64 ((0 : Int) - (z2).1)))), (Value.bool Bool.true)]) (
    .ite (!b0) (
      .ite (decide ((z2).1 < (9223372036854775808 : Int))) (
        .leaf 0 [(Value.int IntKind.i64 (IntKind.wrap IntKind.i64 (z2).1)), (Value.bool Bool.true)]) (
        .leaf 0 [(Value.int IntKind.i64 (0 : Int)), (Value.bool Bool.false)])) (
      .leaf 0 [(Value.int IntKind.i64 (0 : Int)), (Value.bool Bool.false)]))
def spec_Int64.t2 (b0 : Bool) (s1 : ByteArray) : T :=
  .call 31 #[(Value.string s1)] (.tuple (.cons (.int .u64) (.cons .bool .nil))) fun (z2 : (Int × (Bool × PUnit))) =>
  .ite (!((z2).2).1) (
    .leaf 0 [(Value.int IntKind.i64 (0 : Int)), (Value.bool Bool.false)]) (
    .cut 1 (.cons .bool .nil) (
      .ite b0 (
        .leaf 1 [(Value.bool (decide ((z2).1 ≤ (9223372036854775808 : Int))))]) (
        .leaf 1 [(Value.bool Bool.false)]))
      (fun z => spec_Int64.t3 b0 z2 z.1))
def spec_Int64.t1 (s : ByteArray) (b0 : Bool) : T :=
  .cut 1 (.cons .str .nil) (
    .ite b0 (
      .chk (((0 : Int) ≤ (1 : Int)) ∧ (((1 : Int) ≤ (((ByteArray.size s) : Nat) : Int)) ∧ ((((ByteArray.size s) : Nat) : Int) ≤ (((ByteArray.size s) : Nat) : Int)))) <|
      .leaf 1 [(Value.string (ByteArray.extract s 1 (Int.toNat (((ByteArray.size s) : Nat) : Int))))]) (
      .leaf 1 [(Value.string s)]))
    (fun z => spec_Int64.t2 b0 z.1)
def spec_Int64.t (s : ByteArray) : T :=
  .cut 1 (.cons .bool .nil) (
    .ite (!(strEq s (ByteArray.mk #[]))) (
      .chk (((0 : Int) ≤ (0 : Int)) ∧ ((0 : Int) < (((ByteArray.size s) : Nat) : Int))) <|
      .leaf 1 [(Value.bool ((bt s (0 : Int)) == (45 : Int)))]) (
      .leaf 1 [(Value.bool Bool.false)]))
    (fun z => spec_Int64.t1 s z.1)
def spec_Int64.h : Hints := ⟨[(14, [(0, .str)])], [], [(1, [(4, .bool)]), (7, [(25, .bool)])], []⟩
noncomputable def spec_Int64.c : Code := (Tryd.f18.body).getD .skip
theorem spec_Int64.e (s : ByteArray) : fnT Tryd.prog spec_Int64.h Tryd.f18 spec_Int64.c [.v (Value.string s)] = spec_Int64.t s := by kernel_rfl
theorem spec_Int64.calls (s : ByteArray) {w : World} {R : Ending → World → Prop} (hs : sat Tryd.prog (spec_Int64.t s) (fun l vs w' => l = 0 ∧ R (.returned (retVal vs)) w') w) : Calls Tryd.prog 18 #[(Value.string s)] w R :=
  have h := calls_of_tree (w := w) (R := R) (args := [.v (Value.string s)]) (c := spec_Int64.c) Tryd.func18 (show Tryd.f18.body = some spec_Int64.c by kernel_rfl) (of_decide_eq_true (by kernel_rfl)) (spec_Int64.e s) hs
  h

/-! ### pub-tetrapla/laws.jpDecimal : function 19 -/
def laws_jpDecimal.t3 (s1 : ByteArray) (i2 : Int) : T :=
  .ite (decide (i2 < (((ByteArray.size s1) : Nat) : Int))) (
    .chk (((0 : Int) ≤ i2) ∧ (i2 < (((ByteArray.size s1) : Nat) : Int))) <|
    .ite (decide ((bt s1 i2) < (48 : Int))) (
      .leaf 0 [(Value.bool Bool.false)]) (
      .chk (((0 : Int) ≤ i2) ∧ (i2 < (((ByteArray.size s1) : Nat) : Int))) <|
      .ite (decide ((bt s1 i2) > (57 : Int))) (
        .leaf 0 [(Value.bool Bool.false)]) (
        .leaf 1 [(Value.int IntKind.i64 (IntKind.wrap IntKind.i64 (i2 + (1 : Int))))]))) (
    .leaf 0 [(Value.bool (!(strEq s1 (ByteArray.mk #[]))))])
def laws_jpDecimal.t2 (s1 : ByteArray) : T :=
  .loop 1 (.cons (.int .i64) .nil) [(Value.int IntKind.i64 (0 : Int))]
    (fun z => laws_jpDecimal.t3 s1 z.1)
def laws_jpDecimal.t1 (s : ByteArray) (b0 : Bool) : T :=
  .cut 1 (.cons .str .nil) (
    .ite b0 (
      .chk (((0 : Int) ≤ (1 : Int)) ∧ (((1 : Int) ≤ (((ByteArray.size s) : Nat) : Int)) ∧ ((((ByteArray.size s) : Nat) : Int) ≤ (((ByteArray.size s) : Nat) : Int)))) <|
      .leaf 1 [(Value.string (ByteArray.extract s 1 (Int.toNat (((ByteArray.size s) : Nat) : Int))))]) (
      .leaf 1 [(Value.string s)]))
    (fun z => laws_jpDecimal.t2 z.1)
def laws_jpDecimal.t (s : ByteArray) : T :=
  .cut 1 (.cons .bool .nil) (
    .ite (!(strEq s (ByteArray.mk #[]))) (
      .chk (((0 : Int) ≤ (0 : Int)) ∧ ((0 : Int) < (((ByteArray.size s) : Nat) : Int))) <|
      .leaf 1 [(Value.bool ((bt s (0 : Int)) == (45 : Int)))]) (
      .leaf 1 [(Value.bool Bool.false)]))
    (fun z => laws_jpDecimal.t1 s z.1)
def laws_jpDecimal.h : Hints := ⟨[(10, [(0, .str)])], [], [(1, [(10, .bool)])], [(4, [(3, (.int .i64))])]⟩
noncomputable def laws_jpDecimal.c : Code := (Tryd.f19.body).getD .skip
theorem laws_jpDecimal.e (s : ByteArray) : fnT Tryd.prog laws_jpDecimal.h Tryd.f19 laws_jpDecimal.c [.v (Value.string s)] = laws_jpDecimal.t s := by kernel_rfl
theorem laws_jpDecimal.calls (s : ByteArray) {w : World} {R : Ending → World → Prop} (hs : sat Tryd.prog (laws_jpDecimal.t s) (fun l vs w' => l = 0 ∧ R (.returned (retVal vs)) w') w) : Calls Tryd.prog 19 #[(Value.string s)] w R :=
  have h := calls_of_tree (w := w) (R := R) (args := [.v (Value.string s)]) (c := laws_jpDecimal.c) Tryd.func19 (show Tryd.f19.body = some laws_jpDecimal.c by kernel_rfl) (of_decide_eq_true (by kernel_rfl)) (laws_jpDecimal.e s) hs
  h

/-! ### pub-tetrapla/pub/jsonparser.ParseInt : function 20 -/
def jsonparser_ParseInt.t (b : (Option Addr)) (b_len : Nat) (b_cap : Nat) : T :=
  .call 32 #[(Value.slice b b_len b_cap)] (.tuple (.cons (.int .i64) (.cons .bool (.cons .bool .nil)))) fun (z0 : (Int × (Bool × (Bool × PUnit)))) =>
  .ite (!((z0).2).1) (
    .ite (((z0).2).2).1 (
      .drew <|
      .load (Addr.mk 0 0 Option.none) .any fun (v1 : Value) =>
      .leaf 0 [(Value.int IntKind.i64 (0 : Int)), v1]) (
      .drew <|
      .load (Addr.mk 1 0 Option.none) .any fun (v2 : Value) =>
      .leaf 0 [(Value.int IntKind.i64 (0 : Int)), v2])) (
    .leaf 0 [(Value.int IntKind.i64 (z0).1), Value.nilIface])
def jsonparser_ParseInt.h : Hints := ⟨[], [], [], []⟩
noncomputable def jsonparser_ParseInt.c : Code := (Tryd.f20.body).getD .skip
theorem jsonparser_ParseInt.e (b : (Option Addr)) (b_len : Nat) (b_cap : Nat) : fnT Tryd.prog jsonparser_ParseInt.h Tryd.f20 jsonparser_ParseInt.c [.v (Value.slice b b_len b_cap)] = jsonparser_ParseInt.t b b_len b_cap := by kernel_rfl
theorem jsonparser_ParseInt.calls (b : (Option Addr)) (b_len : Nat) (b_cap : Nat) {w : World} {R : Ending → World → Prop} (hs : sat Tryd.prog (jsonparser_ParseInt.t b b_len b_cap) (fun l vs w' => l = 0 ∧ R (.returned (retVal vs)) w') w) : Calls Tryd.prog 20 #[(Value.slice b b_len b_cap)] w R :=
  have h := calls_of_tree (w := w) (R := R) (args := [.v (Value.slice b b_len b_cap)]) (c := jsonparser_ParseInt.c) Tryd.func20 (show Tryd.f20.body = some jsonparser_ParseInt.c by kernel_rfl) (of_decide_eq_true (by kernel_rfl)) (jsonparser_ParseInt.e b b_len b_cap) hs
  h

/-! ### pub-tetrapla/impl.jrKind : function 21 -/
def impl_jrKind.t (err : Value) : T :=
  .chk ((isIface err) = Bool.true) <|
  .ite (isNil err) (
    .leaf 0 [(Value.int IntKind.i64 (0 : Int))]) (
    .load (Addr.mk 2 0 Option.none) .any fun (v0 : Value) =>
    .eff (Bind.bind (eqGuard BinOp.eql 40 (Operand.tmp 7) (Operand.tmp 8) err v0) (fun (y1 : Unit) => (binOp BinOp.eql 40 err v0))) .bool fun (b2 : Bool) =>
    .ite b2 (
      .leaf 0 [(Value.int IntKind.i64 (1 : Int))]) (
      .load (Addr.mk 3 0 Option.none) .any fun (v3 : Value) =>
      .eff (Bind.bind (eqGuard BinOp.eql 40 (Operand.tmp 11) (Operand.tmp 12) err v3) (fun (y4 : Unit) => (binOp BinOp.eql 40 err v3))) .bool fun (b5 : Bool) =>
      .ite b5 (
        .leaf 0 [(Value.int IntKind.i64 (2 : Int))]) (
        .load (Addr.mk 4 0 Option.none) .any fun (v6 : Value) =>
        .eff (Bind.bind (eqGuard BinOp.eql 40 (Operand.tmp 15) (Operand.tmp 16) err v6) (fun (y7 : Unit) => (binOp BinOp.eql 40 err v6))) .bool fun (b8 : Bool) =>
        .ite b8 (
          .leaf 0 [(Value.int IntKind.i64 (3 : Int))]) (
          .load (Addr.mk 5 0 Option.none) .any fun (v9 : Value) =>
          .eff (Bind.bind (eqGuard BinOp.eql 40 (Operand.tmp 19) (Operand.tmp 20) err v9) (fun (y10 : Unit) => (binOp BinOp.eql 40 err v9))) .bool fun (b11 : Bool) =>
          .ite b11 (
            .leaf 0 [(Value.int IntKind.i64 (4 : Int))]) (
            .load (Addr.mk 6 0 Option.none) .any fun (v12 : Value) =>
            .eff (Bind.bind (eqGuard BinOp.eql 40 (Operand.tmp 23) (Operand.tmp 24) err v12) (fun (y13 : Unit) => (binOp BinOp.eql 40 err v12))) .bool fun (b14 : Bool) =>
            .ite b14 (
              .leaf 0 [(Value.int IntKind.i64 (5 : Int))]) (
              .load (Addr.mk 7 0 Option.none) .any fun (v15 : Value) =>
              .eff (Bind.bind (eqGuard BinOp.eql 40 (Operand.tmp 27) (Operand.tmp 28) err v15) (fun (y16 : Unit) => (binOp BinOp.eql 40 err v15))) .bool fun (b17 : Bool) =>
              .ite b17 (
                .leaf 0 [(Value.int IntKind.i64 (6 : Int))]) (
                .load (Addr.mk 1 0 Option.none) .any fun (v18 : Value) =>
                .eff (Bind.bind (eqGuard BinOp.eql 40 (Operand.tmp 31) (Operand.tmp 32) err v18) (fun (y19 : Unit) => (binOp BinOp.eql 40 err v18))) .bool fun (b20 : Bool) =>
                .ite b20 (
                  .leaf 0 [(Value.int IntKind.i64 (7 : Int))]) (
                  .load (Addr.mk 0 0 Option.none) .any fun (v21 : Value) =>
                  .eff (Bind.bind (eqGuard BinOp.eql 40 (Operand.tmp 35) (Operand.tmp 36) err v21) (fun (y22 : Unit) => (binOp BinOp.eql 40 err v21))) .bool fun (b23 : Bool) =>
                  .ite b23 (
                    .leaf 0 [(Value.int IntKind.i64 (8 : Int))]) (
                    .load (Addr.mk 8 0 Option.none) .any fun (v24 : Value) =>
                    .eff (Bind.bind (eqGuard BinOp.eql 40 (Operand.tmp 39) (Operand.tmp 40) err v24) (fun (y25 : Unit) => (binOp BinOp.eql 40 err v24))) .bool fun (b26 : Bool) =>
                    .ite b26 (
                      .leaf 0 [(Value.int IntKind.i64 (9 : Int))]) (
                      .load (Addr.mk 9 0 Option.none) .any fun (v27 : Value) =>
                      .eff (Bind.bind (eqGuard BinOp.eql 40 (Operand.tmp 43) (Operand.tmp 44) err v27) (fun (y28 : Unit) => (binOp BinOp.eql 40 err v27))) .bool fun (b29 : Bool) =>
                      .ite b29 (
                        .leaf 0 [(Value.int IntKind.i64 (10 : Int))]) (
                        .leaf 0 [(Value.int IntKind.i64 (11 : Int))])))))))))))
def impl_jrKind.h : Hints := ⟨[], [], [], []⟩
noncomputable def impl_jrKind.c : Code := (Tryd.f21.body).getD .skip
theorem impl_jrKind.e (err : Value) : fnT Tryd.prog impl_jrKind.h Tryd.f21 impl_jrKind.c [.o err] = impl_jrKind.t err := by kernel_rfl
theorem impl_jrKind.calls (err : Value) {w : World} {R : Ending → World → Prop} (hs : sat Tryd.prog (impl_jrKind.t err) (fun l vs w' => l = 0 ∧ R (.returned (retVal vs)) w') w) : Calls Tryd.prog 21 #[err] w R :=
  have h := calls_of_tree (w := w) (R := R) (args := [.o err]) (c := impl_jrKind.c) Tryd.func21 (show Tryd.f21.body = some impl_jrKind.c by kernel_rfl) (of_decide_eq_true (by kernel_rfl)) (impl_jrKind.e err) hs
  h

/-! ### pub-tetrapla/spec.Character : function 22 -/
def spec_Character.t3 (q0 : ByteArray) (q1 : Int) (b2 : Bool) : T :=
  .ite b2 (
    .leaf 3 [(Value.int IntKind.i64 (IntKind.wrap IntKind.i64 ((IntKind.wrap IntKind.i64 (bt q0 q1)) - (240 : Int)))), (Value.int IntKind.i64 (3 : Int)), (Value.int IntKind.i64 (65536 : Int))]) (
    .leaf 0 [(Value.int IntKind.i64 (65533 : Int)), (Value.int IntKind.i64 (1 : Int)), (Value.bool Bool.false)])
def spec_Character.t4 (i3 : Int) (i4 : Int) (i5 : Int) : T :=
  .leaf 2 [(Value.int IntKind.i64 i3), (Value.int IntKind.i64 i4), (Value.int IntKind.i64 i5)]
def spec_Character.t2 (q0 : ByteArray) (q1 : Int) (b1 : Bool) : T :=
  .cut 3 (.cons (.int .i64) (.cons (.int .i64) (.cons (.int .i64) .nil))) (
    .ite b1 (
      .leaf 3 [(Value.int IntKind.i64 (IntKind.wrap IntKind.i64 ((IntKind.wrap IntKind.i64 (bt q0 q1)) - (224 : Int)))), (Value.int IntKind.i64 (2 : Int)), (Value.int IntKind.i64 (2048 : Int))]) (
      .cut 4 (.cons .bool .nil) (
        .ite (decide ((240 : Int) ≤ (IntKind.wrap IntKind.i64 (bt q0 q1)))) (
          .leaf 4 [(Value.bool (decide ((IntKind.wrap IntKind.i64 (bt q0 q1)) ≤ (244 : Int))))]) (
          .leaf 4 [(Value.bool Bool.false)]))
        (fun z => spec_Character.t3 q0 q1 z.1)))
    (fun z => spec_Character.t4 z.1 z.2.1 z.2.2.1)
def spec_Character.t5 (i6 : Int) (i7 : Int) (i8 : Int) : T :=
  .leaf 1 [(Value.int IntKind.i64 i6), (Value.int IntKind.i64 i7), (Value.int IntKind.i64 i8)]
def spec_Character.t1 (q0 : ByteArray) (q1 : Int) (b0 : Bool) : T :=
  .cut 2 (.cons (.int .i64) (.cons (.int .i64) (.cons (.int .i64) .nil))) (
    .ite b0 (
      .leaf 2 [(Value.int IntKind.i64 (IntKind.wrap IntKind.i64 ((IntKind.wrap IntKind.i64 (bt q0 q1)) - (192 : Int)))), (Value.int IntKind.i64 (1 : Int)), (Value.int IntKind.i64 (128 : Int))]) (
      .cut 3 (.cons .bool .nil) (
        .ite (decide ((224 : Int) ≤ (IntKind.wrap IntKind.i64 (bt q0 q1)))) (
          .leaf 3 [(Value.bool (decide ((IntKind.wrap IntKind.i64 (bt q0 q1)) ≤ (239 : Int))))]) (
          .leaf 3 [(Value.bool Bool.false)]))
        (fun z => spec_Character.t2 q0 q1 z.1)))
    (fun z => spec_Character.t5 z.1 z.2.1 z.2.2.1)
def spec_Character.t8 (q0 : ByteArray) (q1 : Int) (i12 : Int) (i13 : Int) (b14 : Bool) : T :=
  .ite b14 (
    .leaf 0 [(Value.int IntKind.i64 (65533 : Int)), (Value.int IntKind.i64 (1 : Int)), (Value.bool Bool.false)]) (
    .leaf 1 [(Value.int IntKind.i64 (IntKind.wrap IntKind.i64 (i12 + (1 : Int)))), (Value.int IntKind.i64 (IntKind.wrap IntKind.i64 ((IntKind.wrap IntKind.i64 ((IntKind.wrap IntKind.i64 (i13 * (64 : Int))) + (IntKind.wrap IntKind.i64 (bt q0 (IntKind.wrap IntKind.i64 (q1 + i12)))))) - (128 : Int))))])
def spec_Character.t7 (q0 : ByteArray) (q1 : Int) (i10 : Int) (i11 : Int) (i12 : Int) (i13 : Int) : T :=
  .ite (decide (i12 ≤ i10)) (
    .chk (((0 : Int) ≤ (IntKind.wrap IntKind.i64 (q1 + i12))) ∧ ((IntKind.wrap IntKind.i64 (q1 + i12)) < (((ByteArray.size q0) : Nat) : Int))) <|
    .cut 2 (.cons .bool .nil) (
      .ite (decide ((IntKind.wrap IntKind.i64 (bt q0 (IntKind.wrap IntKind.i64 (q1 + i12)))) < (128 : Int))) (
        .leaf 2 [(Value.bool Bool.true)]) (
        .leaf 2 [(Value.bool (decide ((IntKind.wrap IntKind.i64 (bt q0 (IntKind.wrap IntKind.i64 (q1 + i12)))) > (191 : Int))))]))
      (fun z => spec_Character.t8 q0 q1 i12 i13 z.1)) (
    .ite (decide (i13 < i11)) (
      .leaf 0 [(Value.int IntKind.i64 (65533 : Int)), (Value.int IntKind.i64 (1 : Int)), (Value.bool Bool.false)]) (
      .ite (decide (i13 > (1114111 : Int))) (
        .leaf 0 [(Value.int IntKind.i64 (65533 : Int)), (Value.int IntKind.i64 (1 : Int)), (Value.bool Bool.false)]) (
        .call 33 #[(Value.int IntKind.i64 i13)] .bool fun (b15 : Bool) =>
        .ite b15 (
          .leaf 0 [(Value.int IntKind.i64 (65533 : Int)), (Value.int IntKind.i64 (1 : Int)), (Value.bool Bool.false)]) (
          .call 34 #[(Value.int IntKind.i64 i13)] .bool fun (b16 : Bool) =>
          .ite b16 (
            .leaf 0 [(Value.int IntKind.i64 (65533 : Int)), (Value.int IntKind.i64 (1 : Int)), (Value.bool Bool.false)]) (
            .leaf 0 [(Value.int IntKind.i64 i13), (Value.int IntKind.i64 (IntKind.wrap IntKind.i64 (i10 + (1 : Int)))), (Value.bool Bool.true)])))))
def spec_Character.t6 (q0 : ByteArray) (q1 : Int) (i9 : Int) (i10 : Int) (i11 : Int) : T :=
  .ite (decide ((IntKind.wrap IntKind.i64 ((((ByteArray.size q0) : Nat) : Int) - q1)) ≤ i10)) (
    .leaf 0 [(Value.int IntKind.i64 (65533 : Int)), (Value.int IntKind.i64 (1 : Int)), (Value.bool Bool.false)]) (
    .loop 1 (.cons (.int .i64) (.cons (.int .i64) .nil)) [(Value.int IntKind.i64 (1 : Int)), (Value.int IntKind.i64 i9)]
      (fun z => spec_Character.t7 q0 q1 i10 i11 z.1 z.2.1))
def spec_Character.t (q0 : ByteArray) (q1 : Int) : T :=
  .chk (((0 : Int) ≤ q1) ∧ (q1 < (((ByteArray.size q0) : Nat) : Int))) <|
  .cut 1 (.cons (.int .i64) (.cons (.int .i64) (.cons (.int .i64) .nil))) (
    .ite (decide ((IntKind.wrap IntKind.i64 (bt q0 q1)) < (128 : Int))) (
      .leaf 0 [(Value.int IntKind.i64 (IntKind.wrap IntKind.i64 (bt q0 q1))), (Value.int IntKind.i64 (1 : Int)), (Value.bool Bool.true)]) (
      .cut 2 (.cons .bool .nil) (
        .ite (decide ((194 : Int) ≤ (IntKind.wrap IntKind.i64 (bt q0 q1)))) (
          .leaf 2 [(Value.bool (decide ((IntKind.wrap IntKind.i64 (bt q0 q1)) ≤ (223 : Int))))]) (
          .leaf 2 [(Value.bool Bool.false)]))
        (fun z => spec_Character.t1 q0 q1 z.1)))
    (fun z => spec_Character.t6 q0 q1 z.1 z.2.1 z.2.2.1)
def spec_Character.h : Hints := ⟨[(20, [(7, (.int .i64)), (8, (.int .i64)), (9, (.int .i64))]), (29, [(7, (.int .i64)), (8, (.int .i64)), (9, (.int .i64))])], [(0, [(7, (.int .i64)), (8, (.int .i64)), (9, (.int .i64))])], [(6, [(20, .bool)]), (8, [(29, .bool)]), (10, [(38, .bool)]), (18, [(69, .bool)])], [(15, [(10, (.int .i64)), (7, (.int .i64))])]⟩
noncomputable def spec_Character.c : Code := (Tryd.f22.body).getD .skip
theorem spec_Character.e (q0 : ByteArray) (q1 : Int) : fnT Tryd.prog spec_Character.h Tryd.f22 spec_Character.c [.v (Value.string q0), .v (Value.int IntKind.i64 q1)] = spec_Character.t q0 q1 := by kernel_rfl
theorem spec_Character.calls (q0 : ByteArray) (q1 : Int) {w : World} {R : Ending → World → Prop} (hs : sat Tryd.prog (spec_Character.t q0 q1) (fun l vs w' => l = 0 ∧ R (.returned (retVal vs)) w') w) : Calls Tryd.prog 22 #[(Value.string q0), (Value.int IntKind.i64 q1)] w R :=
  have h := calls_of_tree (w := w) (R := R) (args := [.v (Value.string q0), .v (Value.int IntKind.i64 q1)]) (c := spec_Character.c) Tryd.func22 (show Tryd.f22.body = some spec_Character.c by kernel_rfl) (of_decide_eq_true (by kernel_rfl)) (spec_Character.e q0 q1) hs
  h

/-! ### pub-tetrapla/spec.Places : function 23 -/
def spec_Places.t (text : ByteArray) : T :=
  .alloc (Obj.cells #[(Value.int IntKind.i64 (0 : Int)), (Value.int IntKind.i64 (0 : Int)), (Value.int IntKind.i64 (0 : Int)), (Value.slice none 0 0), (Value.slice none 0 0)] 50 (0, 0)) fun (z0 : Addr) =>
  .alloc (Obj.cells #[(Value.string (ByteArray.mk #[])), (Value.int IntKind.i64 (0 : Int))] 58 (0, 0)) fun (z1 : Addr) =>
  .effU (Instr.storeAt 58 (Value.pointer (some z1)) (Value.agg #[(Value.string text), (Value.int IntKind.i64 (0 : Int))])) <|
  .call 35 #[(Value.pointer (some z1))] (.tuple .nil) fun _ =>
  .call 36 #[(Value.pointer (some z1))] (.tuple (.cons (.agg (.cons (.int .i64) (.cons (.int .i64) (.cons (.int .i64) (.cons .slice (.cons .slice .nil)))))) (.cons .bool .nil))) fun (z2 : ((Int × (Int × (Int × (((Option Addr) × (Nat × Nat)) × (((Option Addr) × (Nat × Nat)) × PUnit))))) × (Bool × PUnit))) =>
  .alloc (Obj.cells #[(Value.int IntKind.i64 (0 : Int)), (Value.int IntKind.i64 (0 : Int)), (Value.int IntKind.i64 (0 : Int)), (Value.slice none 0 0), (Value.slice none 0 0)] 50 (0, 0)) fun (z3 : Addr) =>
  .effU (Instr.storeAt 50 (Value.pointer (some z3)) (Value.agg #[(Value.int IntKind.i64 ((z2).1).1), (Value.int IntKind.i64 (((z2).1).2).1), (Value.int IntKind.i64 ((((z2).1).2).2).1), (Value.slice ((((((z2).1).2).2).2).1).1 (((((((z2).1).2).2).2).1).2).1 (((((((z2).1).2).2).2).1).2).2), (Value.slice (((((((z2).1).2).2).2).2).1).1 ((((((((z2).1).2).2).2).2).1).2).1 ((((((((z2).1).2).2).2).2).1).2).2)])) <|
  .ite (!((z2).2).1) (
    .effU (Instr.storeAt 50 (Value.pointer (some z0)) (Value.agg #[(Value.int IntKind.i64 (0 : Int)), (Value.int IntKind.i64 (0 : Int)), (Value.int IntKind.i64 (0 : Int)), (Value.slice none 0 0), (Value.slice none 0 0)])) <|
    .effS (Instr.loadAt 50 (Value.pointer (some z0))) (.agg (.cons (.int .i64) (.cons (.int .i64) (.cons (.int .i64) (.cons .slice (.cons .slice .nil)))))) fun (z4 : (Int × (Int × (Int × (((Option Addr) × (Nat × Nat)) × (((Option Addr) × (Nat × Nat)) × PUnit)))))) =>
    .leaf 0 [(Value.agg #[(Value.int IntKind.i64 (z4).1), (Value.int IntKind.i64 ((z4).2).1), (Value.int IntKind.i64 (((z4).2).2).1), (Value.slice (((((z4).2).2).2).1).1 ((((((z4).2).2).2).1).2).1 ((((((z4).2).2).2).1).2).2), (Value.slice ((((((z4).2).2).2).2).1).1 (((((((z4).2).2).2).2).1).2).1 (((((((z4).2).2).2).2).1).2).2)]), (Value.bool Bool.false)]) (
    .call 35 #[(Value.pointer (some z1))] (.tuple .nil) fun _ =>
    .load (Addr.add z1 1) (.int .i64) fun (i5 : Int) =>
    .ite (i5 != (((ByteArray.size text) : Nat) : Int)) (
      .effU (Instr.storeAt 50 (Value.pointer (some z0)) (Value.agg #[(Value.int IntKind.i64 (0 : Int)), (Value.int IntKind.i64 (0 : Int)), (Value.int IntKind.i64 (0 : Int)), (Value.slice none 0 0), (Value.slice none 0 0)])) <|
      .effS (Instr.loadAt 50 (Value.pointer (some z0))) (.agg (.cons (.int .i64) (.cons (.int .i64) (.cons (.int .i64) (.cons .slice (.cons .slice .nil)))))) fun (z6 : (Int × (Int × (Int × (((Option Addr) × (Nat × Nat)) × (((Option Addr) × (Nat × Nat)) × PUnit)))))) =>
      .leaf 0 [(Value.agg #[(Value.int IntKind.i64 (z6).1), (Value.int IntKind.i64 ((z6).2).1), (Value.int IntKind.i64 (((z6).2).2).1), (Value.slice (((((z6).2).2).2).1).1 ((((((z6).2).2).2).1).2).1 ((((((z6).2).2).2).1).2).2), (Value.slice ((((((z6).2).2).2).2).1).1 (((((((z6).2).2).2).2).1).2).1 (((((((z6).2).2).2).2).1).2).2)]), (Value.bool Bool.false)]) (
      .eff (Instr.loadAt 50 (Value.pointer (some z3))) (.agg (.cons (.int .i64) (.cons (.int .i64) (.cons (.int .i64) (.cons .slice (.cons .slice .nil)))))) fun (z7 : (Int × (Int × (Int × (((Option Addr) × (Nat × Nat)) × (((Option Addr) × (Nat × Nat)) × PUnit)))))) =>
      .effU (Instr.storeAt 50 (Value.pointer (some z0)) (Value.agg #[(Value.int IntKind.i64 (z7).1), (Value.int IntKind.i64 ((z7).2).1), (Value.int IntKind.i64 (((z7).2).2).1), (Value.slice (((((z7).2).2).2).1).1 ((((((z7).2).2).2).1).2).1 ((((((z7).2).2).2).1).2).2), (Value.slice ((((((z7).2).2).2).2).1).1 (((((((z7).2).2).2).2).1).2).1 (((((((z7).2).2).2).2).1).2).2)])) <|
      .effS (Instr.loadAt 50 (Value.pointer (some z0))) (.agg (.cons (.int .i64) (.cons (.int .i64) (.cons (.int .i64) (.cons .slice (.cons .slice .nil)))))) fun (z8 : (Int × (Int × (Int × (((Option Addr) × (Nat × Nat)) × (((Option Addr) × (Nat × Nat)) × PUnit)))))) =>
      .leaf 0 [(Value.agg #[(Value.int IntKind.i64 (z8).1), (Value.int IntKind.i64 ((z8).2).1), (Value.int IntKind.i64 (((z8).2).2).1), (Value.slice (((((z8).2).2).2).1).1 ((((((z8).2).2).2).1).2).1 ((((((z8).2).2).2).1).2).2), (Value.slice ((((((z8).2).2).2).2).1).1 (((((((z8).2).2).2).2).1).2).1 (((((((z8).2).2).2).2).1).2).2)]), (Value.bool Bool.true)]))
def spec_Places.h : Hints := ⟨[], [], [], []⟩
noncomputable def spec_Places.c : Code := (Tryd.f23.body).getD .skip
theorem spec_Places.e (text : ByteArray) : fnT Tryd.prog spec_Places.h Tryd.f23 spec_Places.c [.v (Value.string text)] = spec_Places.t text := by kernel_rfl
theorem spec_Places.calls (text : ByteArray) {w : World} {R : Ending → World → Prop} (hs : sat Tryd.prog (spec_Places.t text) (fun l vs w' => l = 0 ∧ R (.returned (retVal vs)) w') w) : Calls Tryd.prog 23 #[(Value.string text)] w R :=
  have h := calls_of_tree (w := w) (R := R) (args := [.v (Value.string text)]) (c := spec_Places.c) Tryd.func23 (show Tryd.f23.body = some spec_Places.c by kernel_rfl) (of_decide_eq_true (by kernel_rfl)) (spec_Places.e text) hs
  h

/-! ### pub-tetrapla/spec.Tree : function 24 -/
def spec_Tree.t1 : T :=
  .leaf 2 []
def spec_Tree.t2 : T :=
  .leaf 1 []
def spec_Tree.t5 (q0 : ByteArray) (z0 : Addr) (z1 : Addr) (z3 : Addr) (i24 : Int) : T :=
  .load (Addr.add z0 4) .slice fun (z25 : ((Option Addr) × (Nat × Nat))) =>
  .ite (decide (i24 < ((((z25).2).1 : Nat) : Int))) (
    .drew <|
    .load (Addr.add z3 3) .slice fun (z26 : ((Option Addr) × (Nat × Nat))) =>
    .load (Addr.add z0 4) .slice fun (z27 : ((Option Addr) × (Nat × Nat))) =>
    .chk (((0 : Int) ≤ i24) ∧ (i24 < ((((z27).2).1 : Nat) : Int))) <|
    .ptr (z27).1 fun (z28 : Addr) =>
    .effQ (Instr.loadAt 50 (Value.pointer (some (Addr.add z28 ((Int.toNat i24) * 5))))) (.agg (.cons (.int .i64) (.cons (.int .i64) (.cons (.int .i64) (.cons .slice (.cons .slice .nil)))))) fun (z29 : (Int × (Int × (Int × (((Option Addr) × (Nat × Nat)) × (((Option Addr) × (Nat × Nat)) × PUnit)))))) =>
    .here fun (z30 : World) =>
    .call 24 #[(Value.string q0), (Value.agg #[(Value.int IntKind.i64 (z29).1), (Value.int IntKind.i64 ((z29).2).1), (Value.int IntKind.i64 (((z29).2).2).1), (Value.slice (((((z29).2).2).2).1).1 ((((((z29).2).2).2).1).2).1 ((((((z29).2).2).2).1).2).2), (Value.slice ((((((z29).2).2).2).2).1).1 (((((((z29).2).2).2).2).1).2).1 (((((((z29).2).2).2).2).1).2).2)])] (.agg (.cons (.int .i64) (.cons .str (.cons .slice (.cons .slice .nil))))) fun (z31 : (Int × (ByteArray × (((Option Addr) × (Nat × Nat)) × (((Option Addr) × (Nat × Nat)) × PUnit))))) =>
    .grew z30 <|
    .here fun (z32 : World) =>
    .eff (Instr.buildSlice 25 1 #[(0, (Value.agg #[(Value.int IntKind.i64 (z31).1), (Value.string ((z31).2).1), (Value.slice ((((z31).2).2).1).1 (((((z31).2).2).1).2).1 (((((z31).2).2).1).2).2), (Value.slice (((((z31).2).2).2).1).1 ((((((z31).2).2).2).1).2).1 ((((((z31).2).2).2).1).2).2)]))]) .slice fun (z33 : ((Option Addr) × (Nat × Nat))) =>
    .grew z32 <|
    .eff (Builtin.append_ (Call.argTypes (Call.mk (Callee.builtin Builtin.append) #[(Operand.tmp 67), (Operand.tmp 75)] #[25, 25])) 25 #[(Value.slice (z26).1 ((z26).2).1 ((z26).2).2), (Value.slice (z33).1 ((z33).2).1 ((z33).2).2)]) .slice fun (z34 : ((Option Addr) × (Nat × Nat))) =>
    .store (Addr.add z3 3) (Value.slice (z34).1 ((z34).2).1 ((z34).2).2) <|
    .leaf 1 [(Value.int IntKind.i64 (IntKind.wrap IntKind.i64 (i24 + (1 : Int))))]) (
    .eff (Instr.loadAt 27 (Value.pointer (some z3))) (.agg (.cons (.int .i64) (.cons .str (.cons .slice (.cons .slice .nil))))) fun (z35 : (Int × (ByteArray × (((Option Addr) × (Nat × Nat)) × (((Option Addr) × (Nat × Nat)) × PUnit))))) =>
    .effU (Instr.storeAt 27 (Value.pointer (some z1)) (Value.agg #[(Value.int IntKind.i64 (z35).1), (Value.string ((z35).2).1), (Value.slice ((((z35).2).2).1).1 (((((z35).2).2).1).2).1 (((((z35).2).2).1).2).2), (Value.slice (((((z35).2).2).2).1).1 ((((((z35).2).2).2).1).2).1 ((((((z35).2).2).2).1).2).2)])) <|
    .effS (Instr.loadAt 27 (Value.pointer (some z1))) (.agg (.cons (.int .i64) (.cons .str (.cons .slice (.cons .slice .nil))))) fun (z36 : (Int × (ByteArray × (((Option Addr) × (Nat × Nat)) × (((Option Addr) × (Nat × Nat)) × PUnit))))) =>
    .leaf 0 [(Value.agg #[(Value.int IntKind.i64 (z36).1), (Value.string ((z36).2).1), (Value.slice ((((z36).2).2).1).1 (((((z36).2).2).1).2).1 (((((z36).2).2).1).2).2), (Value.slice (((((z36).2).2).2).1).1 ((((((z36).2).2).2).1).2).1 ((((((z36).2).2).2).1).2).2)])])
def spec_Tree.t4 (q0 : ByteArray) (z0 : Addr) (z1 : Addr) (z3 : Addr) (i10 : Int) : T :=
  .load (Addr.add z0 3) .slice fun (z11 : ((Option Addr) × (Nat × Nat))) =>
  .ite (decide (i10 < ((((z11).2).1 : Nat) : Int))) (
    .drew <|
    .load (Addr.add z3 2) .slice fun (z12 : ((Option Addr) × (Nat × Nat))) =>
    .load (Addr.add z0 3) .slice fun (z13 : ((Option Addr) × (Nat × Nat))) =>
    .chk (((0 : Int) ≤ i10) ∧ (i10 < ((((z13).2).1 : Nat) : Int))) <|
    .ptr (z13).1 fun (z14 : Addr) =>
    .load (Addr.add (Addr.add z14 ((Int.toNat i10) * 2)) 0) (.int .i64) fun (i15 : Int) =>
    .load (Addr.add z0 3) .slice fun (z16 : ((Option Addr) × (Nat × Nat))) =>
    .chk (((0 : Int) ≤ i10) ∧ (i10 < ((((z16).2).1 : Nat) : Int))) <|
    .ptr (z16).1 fun (z17 : Addr) =>
    .load (Addr.add (Addr.add z17 ((Int.toNat i10) * 2)) 1) (.int .i64) fun (i18 : Int) =>
    .chk (((0 : Int) ≤ i15) ∧ ((i15 ≤ i18) ∧ (i18 ≤ (((ByteArray.size q0) : Nat) : Int)))) <|
    .here fun (z19 : World) =>
    .call 29 #[(Value.string (ByteArray.extract q0 (Int.toNat i15) (Int.toNat i18)))] .str fun (s20 : ByteArray) =>
    .grew z19 <|
    .here fun (z21 : World) =>
    .eff (Instr.buildSlice 24 1 #[(0, (Value.string s20))]) .slice fun (z22 : ((Option Addr) × (Nat × Nat))) =>
    .grew z21 <|
    .eff (Builtin.append_ (Call.argTypes (Call.mk (Callee.builtin Builtin.append) #[(Operand.tmp 40), (Operand.tmp 56)] #[24, 24])) 24 #[(Value.slice (z12).1 ((z12).2).1 ((z12).2).2), (Value.slice (z22).1 ((z22).2).1 ((z22).2).2)]) .slice fun (z23 : ((Option Addr) × (Nat × Nat))) =>
    .store (Addr.add z3 2) (Value.slice (z23).1 ((z23).2).1 ((z23).2).2) <|
    .leaf 1 [(Value.int IntKind.i64 (IntKind.wrap IntKind.i64 (i10 + (1 : Int))))]) (
    .loop 1 (.cons (.int .i64) .nil) [(Value.int IntKind.i64 (0 : Int))]
      (fun z => spec_Tree.t5 q0 z0 z1 z3 z.1))
def spec_Tree.t3 (q0 : ByteArray) (z0 : Addr) (z1 : Addr) (z3 : Addr) : T :=
  .loop 1 (.cons (.int .i64) .nil) [(Value.int IntKind.i64 (0 : Int))]
    (fun z => spec_Tree.t4 q0 z0 z1 z3 z.1)
def spec_Tree.t (q0 : ByteArray) (q1_0 : Int) (q1_1 : Int) (q1_2 : Int) (q1_3 : (Option Addr)) (q1_3_len : Nat) (q1_3_cap : Nat) (q1_4 : (Option Addr)) (q1_4_len : Nat) (q1_4_cap : Nat) : T :=
  .alloc (Obj.cells #[(Value.int IntKind.i64 q1_0), (Value.int IntKind.i64 q1_1), (Value.int IntKind.i64 q1_2), (Value.slice q1_3 q1_3_len q1_3_cap), (Value.slice q1_4 q1_4_len q1_4_cap)] 50 (0, 0)) fun (z0 : Addr) =>
  .alloc (Obj.cells #[(Value.int IntKind.i64 (0 : Int)), (Value.string (ByteArray.mk #[])), (Value.slice none 0 0), (Value.slice none 0 0)] 27 (0, 0)) fun (z1 : Addr) =>
  .load (Addr.add z0 0) (.int .i64) fun (i2 : Int) =>
  .alloc (Obj.cells #[(Value.int IntKind.i64 (0 : Int)), (Value.string (ByteArray.mk #[])), (Value.slice none 0 0), (Value.slice none 0 0)] 27 (0, 0)) fun (z3 : Addr) =>
  .effU (Instr.storeAt 27 (Value.pointer (some z3)) (Value.agg #[(Value.int IntKind.i64 i2), (Value.string (ByteArray.mk #[])), (Value.slice none 0 0), (Value.slice none 0 0)])) <|
  .load (Addr.add z0 0) (.int .i64) fun (i4 : Int) =>
  .cut 1 .nil (
    .cut 2 .nil (
      .ite (i4 == (3 : Int)) (
        .load (Addr.add z0 1) (.int .i64) fun (i5 : Int) =>
        .load (Addr.add z0 2) (.int .i64) fun (i6 : Int) =>
        .chk (((0 : Int) ≤ i5) ∧ ((i5 ≤ i6) ∧ (i6 ≤ (((ByteArray.size q0) : Nat) : Int)))) <|
        .store (Addr.add z3 1) (Value.string (ByteArray.extract q0 (Int.toNat i5) (Int.toNat i6))) <|
        .leaf 2 []) (
        .cut 3 .nil (
          .ite (i4 == (4 : Int)) (
            .load (Addr.add z0 1) (.int .i64) fun (i7 : Int) =>
            .load (Addr.add z0 2) (.int .i64) fun (i8 : Int) =>
            .chk (((0 : Int) ≤ i7) ∧ ((i7 ≤ i8) ∧ (i8 ≤ (((ByteArray.size q0) : Nat) : Int)))) <|
            .call 29 #[(Value.string (ByteArray.extract q0 (Int.toNat i7) (Int.toNat i8)))] .str fun (s9 : ByteArray) =>
            .store (Addr.add z3 1) (Value.string s9) <|
            .leaf 3 []) (
            .leaf 3 []))
          (fun _ => spec_Tree.t1)))
      (fun _ => spec_Tree.t2))
    (fun _ => spec_Tree.t3 q0 z0 z1 z3)
def spec_Tree.h : Hints := ⟨[(13, []), (22, [])], [(0, [])], [], [(8, [(6, (.int .i64))]), (12, [(7, (.int .i64))])]⟩
noncomputable def spec_Tree.c : Code := (Tryd.f24.body).getD .skip
theorem spec_Tree.e (q0 : ByteArray) (q1_0 : Int) (q1_1 : Int) (q1_2 : Int) (q1_3 : (Option Addr)) (q1_3_len : Nat) (q1_3_cap : Nat) (q1_4 : (Option Addr)) (q1_4_len : Nat) (q1_4_cap : Nat) : fnT Tryd.prog spec_Tree.h Tryd.f24 spec_Tree.c [.v (Value.string q0), .v (Value.agg #[(Value.int IntKind.i64 q1_0), (Value.int IntKind.i64 q1_1), (Value.int IntKind.i64 q1_2), (Value.slice q1_3 q1_3_len q1_3_cap), (Value.slice q1_4 q1_4_len q1_4_cap)])] = spec_Tree.t q0 q1_0 q1_1 q1_2 q1_3 q1_3_len q1_3_cap q1_4 q1_4_len q1_4_cap := by kernel_rfl
theorem spec_Tree.calls (q0 : ByteArray) (q1_0 : Int) (q1_1 : Int) (q1_2 : Int) (q1_3 : (Option Addr)) (q1_3_len : Nat) (q1_3_cap : Nat) (q1_4 : (Option Addr)) (q1_4_len : Nat) (q1_4_cap : Nat) {w : World} {R : Ending → World → Prop} (hs : sat Tryd.prog (spec_Tree.t q0 q1_0 q1_1 q1_2 q1_3 q1_3_len q1_3_cap q1_4 q1_4_len q1_4_cap) (fun l vs w' => l = 0 ∧ R (.returned (retVal vs)) w') w) : Calls Tryd.prog 24 #[(Value.string q0), (Value.agg #[(Value.int IntKind.i64 q1_0), (Value.int IntKind.i64 q1_1), (Value.int IntKind.i64 q1_2), (Value.slice q1_3 q1_3_len q1_3_cap), (Value.slice q1_4 q1_4_len q1_4_cap)])] w R :=
  have h := calls_of_tree (w := w) (R := R) (args := [.v (Value.string q0), .v (Value.agg #[(Value.int IntKind.i64 q1_0), (Value.int IntKind.i64 q1_1), (Value.int IntKind.i64 q1_2), (Value.slice q1_3 q1_3_len q1_3_cap), (Value.slice q1_4 q1_4_len q1_4_cap)])]) (c := spec_Tree.c) Tryd.func24 (show Tryd.f24.body = some spec_Tree.c by kernel_rfl) (of_decide_eq_true (by kernel_rfl)) (spec_Tree.e q0 q1_0 q1_1 q1_2 q1_3 q1_3_len q1_3_cap q1_4 q1_4_len q1_4_cap) hs
  h

/-! ### pub-tetrapla/pub/gjson.AppendJSONString : function 25 -/
def gjson_AppendJSONString.t4 (q1 : ByteArray) (i4 : Int) (z5 : ((Option Addr) × (Nat × Nat))) (z32 : (Int × (Int × PUnit))) (b37 : Bool) : T :=
  .ite b37 (
    .eff (Builtin.append_ (Call.argTypes (Call.mk (Callee.builtin Builtin.append) #[(Operand.tmp 146), (Operand.const (Value.string (ByteArray.mk #[(92 : UInt8), (117 : UInt8), (50 : UInt8), (48 : UInt8), (50 : UInt8)])))] #[43, 9])) 43 #[(Value.slice (z5).1 ((z5).2).1 ((z5).2).2), (Value.string (ByteArray.mk #[(92 : UInt8), (117 : UInt8), (50 : UInt8), (48 : UInt8), (50 : UInt8)]))]) .slice fun (z38 : ((Option Addr) × (Nat × Nat))) =>
    .chk (((0 : Int) ≤ (IntKind.wrap IntKind.i32 (((BitVec.toNat ((BitVec.ofInt 32 (z32).1) &&& (BitVec.ofInt 32 (15 : Int)))) : Nat) : Int))) ∧ ((IntKind.wrap IntKind.i32 (((BitVec.toNat ((BitVec.ofInt 32 (z32).1) &&& (BitVec.ofInt 32 (15 : Int)))) : Nat) : Int)) < (16 : Int))) <|
    .load (Addr.add (Addr.mk 10 0 Option.none) ((Int.toNat (IntKind.wrap IntKind.i32 (((BitVec.toNat ((BitVec.ofInt 32 (z32).1) &&& (BitVec.ofInt 32 (15 : Int)))) : Nat) : Int))) * 1)) (.int .u8) fun (i39 : Int) =>
    .eff (Instr.buildSlice 43 1 #[(0, (Value.int IntKind.u8 i39))]) .slice fun (z40 : ((Option Addr) × (Nat × Nat))) =>
    .eff (Builtin.append_ (Call.argTypes (Call.mk (Callee.builtin Builtin.append) #[(Operand.tmp 148), (Operand.tmp 153)] #[43, 43])) 43 #[(Value.slice (z38).1 ((z38).2).1 ((z38).2).2), (Value.slice (z40).1 ((z40).2).1 ((z40).2).2)]) .slice fun (z41 : ((Option Addr) × (Nat × Nat))) =>
    .leaf 1 [(Value.int IntKind.i64 (IntKind.wrap IntKind.i64 ((IntKind.wrap IntKind.i64 ((IntKind.wrap IntKind.i64 (i4 + ((z32).2).1)) - (1 : Int))) + (1 : Int)))), (Value.slice (z41).1 ((z41).2).1 ((z41).2).2)]) (
    .chk (((0 : Int) ≤ i4) ∧ ((i4 ≤ (IntKind.wrap IntKind.i64 (i4 + ((z32).2).1))) ∧ ((IntKind.wrap IntKind.i64 (i4 + ((z32).2).1)) ≤ (((ByteArray.size q1) : Nat) : Int)))) <|
    .eff (Builtin.append_ (Call.argTypes (Call.mk (Callee.builtin Builtin.append) #[(Operand.tmp 155), (Operand.tmp 161)] #[43, 9])) 43 #[(Value.slice (z5).1 ((z5).2).1 ((z5).2).2), (Value.string (ByteArray.extract q1 (Int.toNat i4) (Int.toNat (IntKind.wrap IntKind.i64 (i4 + ((z32).2).1)))))]) .slice fun (z42 : ((Option Addr) × (Nat × Nat))) =>
    .leaf 1 [(Value.int IntKind.i64 (IntKind.wrap IntKind.i64 ((IntKind.wrap IntKind.i64 ((IntKind.wrap IntKind.i64 (i4 + ((z32).2).1)) - (1 : Int))) + (1 : Int)))), (Value.slice (z42).1 ((z42).2).1 ((z42).2).2)])
def gjson_AppendJSONString.t3 (q1 : ByteArray) (i4 : Int) (z5 : ((Option Addr) × (Nat × Nat))) (z32 : (Int × (Int × PUnit))) (b35 : Bool) : T :=
  .ite b35 (
    .eff (Builtin.append_ (Call.argTypes (Call.mk (Callee.builtin Builtin.append) #[(Operand.tmp 138), (Operand.const (Value.string (ByteArray.mk #[(239 : UInt8), (191 : UInt8), (189 : UInt8)])))] #[43, 9])) 43 #[(Value.slice (z5).1 ((z5).2).1 ((z5).2).2), (Value.string (ByteArray.mk #[(239 : UInt8), (191 : UInt8), (189 : UInt8)]))]) .slice fun (z36 : ((Option Addr) × (Nat × Nat))) =>
    .leaf 1 [(Value.int IntKind.i64 (IntKind.wrap IntKind.i64 ((IntKind.wrap IntKind.i64 ((IntKind.wrap IntKind.i64 (i4 + ((z32).2).1)) - (1 : Int))) + (1 : Int)))), (Value.slice (z36).1 ((z36).2).1 ((z36).2).2)]) (
    .cut 2 (.cons .bool .nil) (
      .ite ((z32).1 == (8232 : Int)) (
        .leaf 2 [(Value.bool Bool.true)]) (
        .leaf 2 [(Value.bool ((z32).1 == (8233 : Int)))]))
      (fun z => gjson_AppendJSONString.t4 q1 i4 z5 z32 z.1))
def gjson_AppendJSONString.t2 (q1 : ByteArray) (i4 : Int) (z5 : ((Option Addr) × (Nat × Nat))) (b21 : Bool) : T :=
  .ite b21 (
    .call 38 #[] .bool fun (b22 : Bool) =>
    .ite b22 (
      .eff (Instr.buildSlice 43 2 #[(0, (Value.int IntKind.u8 (92 : Int))), (1, (Value.int IntKind.u8 (117 : Int)))]) .slice fun (z23 : ((Option Addr) × (Nat × Nat))) =>
      .eff (Builtin.append_ (Call.argTypes (Call.mk (Callee.builtin Builtin.append) #[(Operand.tmp 90), (Operand.tmp 91)] #[43, 43])) 43 #[(Value.slice (z5).1 ((z5).2).1 ((z5).2).2), (Value.slice (z23).1 ((z23).2).1 ((z23).2).2)]) .slice fun (z24 : ((Option Addr) × (Nat × Nat))) =>
      .chk (((0 : Int) ≤ i4) ∧ (i4 < (((ByteArray.size q1) : Nat) : Int))) <|
      .call 37 #[(Value.slice (z24).1 ((z24).2).1 ((z24).2).2), (Value.int IntKind.u16 (IntKind.wrap IntKind.u16 (bt q1 i4)))] .slice fun (z25 : ((Option Addr) × (Nat × Nat))) =>
      .leaf 1 [(Value.int IntKind.i64 (IntKind.wrap IntKind.i64 (i4 + (1 : Int)))), (Value.slice (z25).1 ((z25).2).1 ((z25).2).2)]) (
      .chk (((0 : Int) ≤ i4) ∧ (i4 < (((ByteArray.size q1) : Nat) : Int))) <|
      .eff (Instr.buildSlice 43 1 #[(0, (Value.int IntKind.u8 (bt q1 i4)))]) .slice fun (z26 : ((Option Addr) × (Nat × Nat))) =>
      .eff (Builtin.append_ (Call.argTypes (Call.mk (Callee.builtin Builtin.append) #[(Operand.tmp 99), (Operand.tmp 103)] #[43, 43])) 43 #[(Value.slice (z5).1 ((z5).2).1 ((z5).2).2), (Value.slice (z26).1 ((z26).2).1 ((z26).2).2)]) .slice fun (z27 : ((Option Addr) × (Nat × Nat))) =>
      .leaf 1 [(Value.int IntKind.i64 (IntKind.wrap IntKind.i64 (i4 + (1 : Int)))), (Value.slice (z27).1 ((z27).2).1 ((z27).2).2)])) (
    .chk (((0 : Int) ≤ i4) ∧ (i4 < (((ByteArray.size q1) : Nat) : Int))) <|
    .ite ((bt q1 i4) == (92 : Int)) (
      .eff (Instr.buildSlice 43 2 #[(0, (Value.int IntKind.u8 (92 : Int))), (1, (Value.int IntKind.u8 (92 : Int)))]) .slice fun (z28 : ((Option Addr) × (Nat × Nat))) =>
      .eff (Builtin.append_ (Call.argTypes (Call.mk (Callee.builtin Builtin.append) #[(Operand.tmp 109), (Operand.tmp 110)] #[43, 43])) 43 #[(Value.slice (z5).1 ((z5).2).1 ((z5).2).2), (Value.slice (z28).1 ((z28).2).1 ((z28).2).2)]) .slice fun (z29 : ((Option Addr) × (Nat × Nat))) =>
      .leaf 1 [(Value.int IntKind.i64 (IntKind.wrap IntKind.i64 (i4 + (1 : Int)))), (Value.slice (z29).1 ((z29).2).1 ((z29).2).2)]) (
      .chk (((0 : Int) ≤ i4) ∧ (i4 < (((ByteArray.size q1) : Nat) : Int))) <|
      .ite ((bt q1 i4) == (34 : Int)) (
        .eff (Instr.buildSlice 43 2 #[(0, (Value.int IntKind.u8 (92 : Int))), (1, (Value.int IntKind.u8 (34 : Int)))]) .slice fun (z30 : ((Option Addr) × (Nat × Nat))) =>
        .eff (Builtin.append_ (Call.argTypes (Call.mk (Callee.builtin Builtin.append) #[(Operand.tmp 116), (Operand.tmp 117)] #[43, 43])) 43 #[(Value.slice (z5).1 ((z5).2).1 ((z5).2).2), (Value.slice (z30).1 ((z30).2).1 ((z30).2).2)]) .slice fun (z31 : ((Option Addr) × (Nat × Nat))) =>
        .leaf 1 [(Value.int IntKind.i64 (IntKind.wrap IntKind.i64 (i4 + (1 : Int)))), (Value.slice (z31).1 ((z31).2).1 ((z31).2).2)]) (
        .chk (((0 : Int) ≤ i4) ∧ (i4 < (((ByteArray.size q1) : Nat) : Int))) <|
        .ite (decide ((bt q1 i4) > (127 : Int))) (
          .chk (((0 : Int) ≤ i4) ∧ ((i4 ≤ (((ByteArray.size q1) : Nat) : Int)) ∧ ((((ByteArray.size q1) : Nat) : Int) ≤ (((ByteArray.size q1) : Nat) : Int)))) <|
          .call 39 #[(Value.string (ByteArray.extract q1 (Int.toNat i4) (Int.toNat (((ByteArray.size q1) : Nat) : Int))))] (.tuple (.cons (.int .i32) (.cons (.int .i64) .nil))) fun (z32 : (Int × (Int × PUnit))) =>
          .ite (((z32).2).1 == (0 : Int)) (
            .eff (Instr.buildSlice 43 1 #[(0, (Value.int IntKind.u8 (34 : Int)))]) .slice fun (z33 : ((Option Addr) × (Nat × Nat))) =>
            .eff (Builtin.append_ (Call.argTypes (Call.mk (Callee.builtin Builtin.append) #[(Operand.tmp 173), (Operand.tmp 174)] #[43, 43])) 43 #[(Value.slice (z5).1 ((z5).2).1 ((z5).2).2), (Value.slice (z33).1 ((z33).2).1 ((z33).2).2)]) .slice fun (z34 : ((Option Addr) × (Nat × Nat))) =>
            .leaf 0 [(Value.slice (z34).1 ((z34).2).1 ((z34).2).2)]) (
            .cut 2 (.cons .bool .nil) (
              .ite ((z32).1 == (65533 : Int)) (
                .leaf 2 [(Value.bool (((z32).2).1 == (1 : Int)))]) (
                .leaf 2 [(Value.bool Bool.false)]))
              (fun z => gjson_AppendJSONString.t3 q1 i4 z5 z32 z.1))) (
          .chk (((0 : Int) ≤ i4) ∧ (i4 < (((ByteArray.size q1) : Nat) : Int))) <|
          .eff (Instr.buildSlice 43 1 #[(0, (Value.int IntKind.u8 (bt q1 i4)))]) .slice fun (z43 : ((Option Addr) × (Nat × Nat))) =>
          .eff (Builtin.append_ (Call.argTypes (Call.mk (Callee.builtin Builtin.append) #[(Operand.tmp 167), (Operand.tmp 171)] #[43, 43])) 43 #[(Value.slice (z5).1 ((z5).2).1 ((z5).2).2), (Value.slice (z43).1 ((z43).2).1 ((z43).2).2)]) .slice fun (z44 : ((Option Addr) × (Nat × Nat))) =>
          .leaf 1 [(Value.int IntKind.i64 (IntKind.wrap IntKind.i64 (i4 + (1 : Int)))), (Value.slice (z44).1 ((z44).2).1 ((z44).2).2)]))))
def gjson_AppendJSONString.t1 (q1 : ByteArray) (i4 : Int) (z5 : ((Option Addr) × (Nat × Nat))) : T :=
  .ite (decide (i4 < (((ByteArray.size q1) : Nat) : Int))) (
    .chk (((0 : Int) ≤ i4) ∧ (i4 < (((ByteArray.size q1) : Nat) : Int))) <|
    .ite (decide ((bt q1 i4) < (32 : Int))) (
      .eff (Instr.buildSlice 43 1 #[(0, (Value.int IntKind.u8 (92 : Int)))]) .slice fun (z6 : ((Option Addr) × (Nat × Nat))) =>
      .eff (Builtin.append_ (Call.argTypes (Call.mk (Callee.builtin Builtin.append) #[(Operand.tmp 33), (Operand.tmp 34)] #[43, 43])) 43 #[(Value.slice (z5).1 ((z5).2).1 ((z5).2).2), (Value.slice (z6).1 ((z6).2).1 ((z6).2).2)]) .slice fun (z7 : ((Option Addr) × (Nat × Nat))) =>
      .chk (((0 : Int) ≤ i4) ∧ (i4 < (((ByteArray.size q1) : Nat) : Int))) <|
      .ite ((bt q1 i4) == (8 : Int)) (
        .eff (Instr.buildSlice 43 1 #[(0, (Value.int IntKind.u8 (98 : Int)))]) .slice fun (z8 : ((Option Addr) × (Nat × Nat))) =>
        .eff (Builtin.append_ (Call.argTypes (Call.mk (Callee.builtin Builtin.append) #[(Operand.tmp 50), (Operand.tmp 51)] #[43, 43])) 43 #[(Value.slice (z7).1 ((z7).2).1 ((z7).2).2), (Value.slice (z8).1 ((z8).2).1 ((z8).2).2)]) .slice fun (z9 : ((Option Addr) × (Nat × Nat))) =>
        .leaf 1 [(Value.int IntKind.i64 (IntKind.wrap IntKind.i64 (i4 + (1 : Int)))), (Value.slice (z9).1 ((z9).2).1 ((z9).2).2)]) (
        .ite ((bt q1 i4) == (12 : Int)) (
          .eff (Instr.buildSlice 43 1 #[(0, (Value.int IntKind.u8 (102 : Int)))]) .slice fun (z10 : ((Option Addr) × (Nat × Nat))) =>
          .eff (Builtin.append_ (Call.argTypes (Call.mk (Callee.builtin Builtin.append) #[(Operand.tmp 55), (Operand.tmp 56)] #[43, 43])) 43 #[(Value.slice (z7).1 ((z7).2).1 ((z7).2).2), (Value.slice (z10).1 ((z10).2).1 ((z10).2).2)]) .slice fun (z11 : ((Option Addr) × (Nat × Nat))) =>
          .leaf 1 [(Value.int IntKind.i64 (IntKind.wrap IntKind.i64 (i4 + (1 : Int)))), (Value.slice (z11).1 ((z11).2).1 ((z11).2).2)]) (
          .ite ((bt q1 i4) == (10 : Int)) (
            .eff (Instr.buildSlice 43 1 #[(0, (Value.int IntKind.u8 (110 : Int)))]) .slice fun (z12 : ((Option Addr) × (Nat × Nat))) =>
            .eff (Builtin.append_ (Call.argTypes (Call.mk (Callee.builtin Builtin.append) #[(Operand.tmp 60), (Operand.tmp 61)] #[43, 43])) 43 #[(Value.slice (z7).1 ((z7).2).1 ((z7).2).2), (Value.slice (z12).1 ((z12).2).1 ((z12).2).2)]) .slice fun (z13 : ((Option Addr) × (Nat × Nat))) =>
            .leaf 1 [(Value.int IntKind.i64 (IntKind.wrap IntKind.i64 (i4 + (1 : Int)))), (Value.slice (z13).1 ((z13).2).1 ((z13).2).2)]) (
            .ite ((bt q1 i4) == (13 : Int)) (
              .eff (Instr.buildSlice 43 1 #[(0, (Value.int IntKind.u8 (114 : Int)))]) .slice fun (z14 : ((Option Addr) × (Nat × Nat))) =>
              .eff (Builtin.append_ (Call.argTypes (Call.mk (Callee.builtin Builtin.append) #[(Operand.tmp 65), (Operand.tmp 66)] #[43, 43])) 43 #[(Value.slice (z7).1 ((z7).2).1 ((z7).2).2), (Value.slice (z14).1 ((z14).2).1 ((z14).2).2)]) .slice fun (z15 : ((Option Addr) × (Nat × Nat))) =>
              .leaf 1 [(Value.int IntKind.i64 (IntKind.wrap IntKind.i64 (i4 + (1 : Int)))), (Value.slice (z15).1 ((z15).2).1 ((z15).2).2)]) (
              .ite ((bt q1 i4) == (9 : Int)) (
                .eff (Instr.buildSlice 43 1 #[(0, (Value.int IntKind.u8 (116 : Int)))]) .slice fun (z16 : ((Option Addr) × (Nat × Nat))) =>
                .eff (Builtin.append_ (Call.argTypes (Call.mk (Callee.builtin Builtin.append) #[(Operand.tmp 70), (Operand.tmp 71)] #[43, 43])) 43 #[(Value.slice (z7).1 ((z7).2).1 ((z7).2).2), (Value.slice (z16).1 ((z16).2).1 ((z16).2).2)]) .slice fun (z17 : ((Option Addr) × (Nat × Nat))) =>
                .leaf 1 [(Value.int IntKind.i64 (IntKind.wrap IntKind.i64 (i4 + (1 : Int)))), (Value.slice (z17).1 ((z17).2).1 ((z17).2).2)]) (
                .eff (Instr.buildSlice 43 1 #[(0, (Value.int IntKind.u8 (117 : Int)))]) .slice fun (z18 : ((Option Addr) × (Nat × Nat))) =>
                .eff (Builtin.append_ (Call.argTypes (Call.mk (Callee.builtin Builtin.append) #[(Operand.tmp 39), (Operand.tmp 40)] #[43, 43])) 43 #[(Value.slice (z7).1 ((z7).2).1 ((z7).2).2), (Value.slice (z18).1 ((z18).2).1 ((z18).2).2)]) .slice fun (z19 : ((Option Addr) × (Nat × Nat))) =>
                .chk (((0 : Int) ≤ i4) ∧ (i4 < (((ByteArray.size q1) : Nat) : Int))) <|
                .call 37 #[(Value.slice (z19).1 ((z19).2).1 ((z19).2).2), (Value.int IntKind.u16 (IntKind.wrap IntKind.u16 (bt q1 i4)))] .slice fun (z20 : ((Option Addr) × (Nat × Nat))) =>
                .leaf 1 [(Value.int IntKind.i64 (IntKind.wrap IntKind.i64 (i4 + (1 : Int)))), (Value.slice (z20).1 ((z20).2).1 ((z20).2).2)])))))) (
      .cut 2 (.cons .bool .nil) (
        .chk (((0 : Int) ≤ i4) ∧ (i4 < (((ByteArray.size q1) : Nat) : Int))) <|
        .ite ((bt q1 i4) == (62 : Int)) (
          .leaf 2 [(Value.bool Bool.true)]) (
          .chk (((0 : Int) ≤ i4) ∧ (i4 < (((ByteArray.size q1) : Nat) : Int))) <|
          .ite ((bt q1 i4) == (60 : Int)) (
            .leaf 2 [(Value.bool Bool.true)]) (
            .chk (((0 : Int) ≤ i4) ∧ (i4 < (((ByteArray.size q1) : Nat) : Int))) <|
            .leaf 2 [(Value.bool ((bt q1 i4) == (38 : Int)))])))
        (fun z => gjson_AppendJSONString.t2 q1 i4 z5 z.1))) (
    .eff (Instr.buildSlice 43 1 #[(0, (Value.int IntKind.u8 (34 : Int)))]) .slice fun (z45 : ((Option Addr) × (Nat × Nat))) =>
    .eff (Builtin.append_ (Call.argTypes (Call.mk (Callee.builtin Builtin.append) #[(Operand.tmp 173), (Operand.tmp 174)] #[43, 43])) 43 #[(Value.slice (z5).1 ((z5).2).1 ((z5).2).2), (Value.slice (z45).1 ((z45).2).1 ((z45).2).2)]) .slice fun (z46 : ((Option Addr) × (Nat × Nat))) =>
    .leaf 0 [(Value.slice (z46).1 ((z46).2).1 ((z46).2).2)])
def gjson_AppendJSONString.t (q0 : (Option Addr)) (q0_len : Nat) (q0_cap : Nat) (q1 : ByteArray) : T :=
  .eff (Builtin.append_ (Call.argTypes (Call.mk (Callee.builtin Builtin.append) #[(Operand.tmp 8), (Operand.tmp 11)] #[43, 3])) 43 #[(Value.slice q0 q0_len q0_cap), (Value.int IntKind.i64 (IntKind.wrap IntKind.i64 ((((ByteArray.size q1) : Nat) : Int) + (2 : Int))))]) .slice fun (z0 : ((Option Addr) × (Nat × Nat))) =>
  .chk (((0 : Int) ≤ (0 : Int)) ∧ (((0 : Int) ≤ (IntKind.wrap IntKind.i64 ((IntKind.wrap IntKind.i64 (((((z0).2).1 : Nat) : Int) - (((ByteArray.size q1) : Nat) : Int))) - (2 : Int)))) ∧ ((IntKind.wrap IntKind.i64 ((IntKind.wrap IntKind.i64 (((((z0).2).1 : Nat) : Int) - (((ByteArray.size q1) : Nat) : Int))) - (2 : Int))) ≤ ((((z0).2).2 : Nat) : Int)))) <|
  .eff (Instr.buildSlice 43 1 #[(0, (Value.int IntKind.u8 (34 : Int)))]) .slice fun (z1 : ((Option Addr) × (Nat × Nat))) =>
  .eff (Builtin.append_ (Call.argTypes (Call.mk (Callee.builtin Builtin.append) #[(Operand.tmp 20), (Operand.tmp 21)] #[43, 43])) 43 #[(Value.slice (if (((z0).2).2 = 0) then (z0).1 else (Option.map (fun (y2 : Addr) => (Addr.add y2 0)) (z0).1)) ((Int.toNat (IntKind.wrap IntKind.i64 ((IntKind.wrap IntKind.i64 (((((z0).2).1 : Nat) : Int) - (((ByteArray.size q1) : Nat) : Int))) - (2 : Int)))) - 0) (((z0).2).2 - 0)), (Value.slice (z1).1 ((z1).2).1 ((z1).2).2)]) .slice fun (z3 : ((Option Addr) × (Nat × Nat))) =>
  .loop 1 (.cons (.int .i64) (.cons .slice .nil)) [(Value.int IntKind.i64 (0 : Int)), (Value.slice (z3).1 ((z3).2).1 ((z3).2).2)]
    (fun z => gjson_AppendJSONString.t1 q1 z.1 z.2.1)
def gjson_AppendJSONString.h : Hints := ⟨[], [], [(21, [(88, .bool)]), (33, [(137, .bool)]), (35, [(145, .bool)])], [(4, [(5, (.int .i64)), (0, .slice)])]⟩
noncomputable def gjson_AppendJSONString.c : Code := (Tryd.f25.body).getD .skip
theorem gjson_AppendJSONString.e (q0 : (Option Addr)) (q0_len : Nat) (q0_cap : Nat) (q1 : ByteArray) : fnT Tryd.prog gjson_AppendJSONString.h Tryd.f25 gjson_AppendJSONString.c [.v (Value.slice q0 q0_len q0_cap), .v (Value.string q1)] = gjson_AppendJSONString.t q0 q0_len q0_cap q1 := by kernel_rfl
theorem gjson_AppendJSONString.calls (q0 : (Option Addr)) (q0_len : Nat) (q0_cap : Nat) (q1 : ByteArray) {w : World} {R : Ending → World → Prop} (hs : sat Tryd.prog (gjson_AppendJSONString.t q0 q0_len q0_cap q1) (fun l vs w' => l = 0 ∧ R (.returned (retVal vs)) w') w) : Calls Tryd.prog 25 #[(Value.slice q0 q0_len q0_cap), (Value.string q1)] w R :=
  have h := calls_of_tree (w := w) (R := R) (args := [.v (Value.slice q0 q0_len q0_cap), .v (Value.string q1)]) (c := gjson_AppendJSONString.c) Tryd.func25 (show Tryd.f25.body = some gjson_AppendJSONString.c by kernel_rfl) (of_decide_eq_true (by kernel_rfl)) (gjson_AppendJSONString.e q0 q0_len q0_cap q1) hs
  h

/-! ### pub-tetrapla/pub/match.Match : function 26 -/
def match_Match.t (str : ByteArray) (pattern : ByteArray) : T :=
  .call 40 #[(Value.string str), (Value.string pattern), (Value.bool Bool.false)] .bool fun (b0 : Bool) =>
  .leaf 0 [(Value.bool b0)]
def match_Match.h : Hints := ⟨[], [], [], []⟩
noncomputable def match_Match.c : Code := (Tryd.f26.body).getD .skip
theorem match_Match.e (str : ByteArray) (pattern : ByteArray) : fnT Tryd.prog match_Match.h Tryd.f26 match_Match.c [.v (Value.string str), .v (Value.string pattern)] = match_Match.t str pattern := by kernel_rfl
theorem match_Match.calls (str : ByteArray) (pattern : ByteArray) {w : World} {R : Ending → World → Prop} (hs : sat Tryd.prog (match_Match.t str pattern) (fun l vs w' => l = 0 ∧ R (.returned (retVal vs)) w') w) : Calls Tryd.prog 26 #[(Value.string str), (Value.string pattern)] w R :=
  have h := calls_of_tree (w := w) (R := R) (args := [.v (Value.string str), .v (Value.string pattern)]) (c := match_Match.c) Tryd.func26 (show Tryd.f26.body = some match_Match.c by kernel_rfl) (of_decide_eq_true (by kernel_rfl)) (match_Match.e str pattern) hs
  h

/-! ### pub-tetrapla/pub/jsonparser.ParseString : function 27 -/
def jsonparser_ParseString.t (b : (Option Addr)) (b_len : Nat) (b_cap : Nat) : T :=
  .alloc (Obj.cells #[(Value.int IntKind.u8 (0 : Int)), (Value.int IntKind.u8 (0 : Int)), (Value.int IntKind.u8 (0 : Int)), (Value.int IntKind.u8 (0 : Int)), (Value.int IntKind.u8 (0 : Int)), (Value.int IntKind.u8 (0 : Int)), (Value.int IntKind.u8 (0 : Int)), (Value.int IntKind.u8 (0 : Int)), (Value.int IntKind.u8 (0 : Int)), (Value.int IntKind.u8 (0 : Int)), (Value.int IntKind.u8 (0 : Int)), (Value.int IntKind.u8 (0 : Int)), (Value.int IntKind.u8 (0 : Int)), (Value.int IntKind.u8 (0 : Int)), (Value.int IntKind.u8 (0 : Int)), (Value.int IntKind.u8 (0 : Int)), (Value.int IntKind.u8 (0 : Int)), (Value.int IntKind.u8 (0 : Int)), (Value.int IntKind.u8 (0 : Int)), (Value.int IntKind.u8 (0 : Int)), (Value.int IntKind.u8 (0 : Int)), (Value.int IntKind.u8 (0 : Int)), (Value.int IntKind.u8 (0 : Int)), (Value.int IntKind.u8 (0 : Int)), (Value.int IntKind.u8 (0 : Int)), (Value.int IntKind.u8 (0 : Int)), (Value.int IntKind.u8 (0 : Int)), (Value.int IntKind.u8 (0 : Int)), (Value.int IntKind.u8 (0 : Int)), (Value.int IntKind.u8 (0 : Int)), (Value.int IntKind.u8 (0 : Int)), (Value.int IntKind.u8 (0 : Int)), (Value.int IntKind.u8 (0 : Int)), (Value.int IntKind.u8 (0 : Int)), (Value.int IntKind.u8 (0 : Int)), (Value.int IntKind.u8 (0 : Int)), (Value.int IntKind.u8 (0 : Int)), (Value.int IntKind.u8 (0 : Int)), (Value.int IntKind.u8 (0 : Int)), (Value.int IntKind.u8 (0 : Int)), (Value.int IntKind.u8 (0 : Int)), (Value.int IntKind.u8 (0 : Int)), (Value.int IntKind.u8 (0 : Int)), (Value.int IntKind.u8 (0 : Int)), (Value.int IntKind.u8 (0 : Int)), (Value.int IntKind.u8 (0 : Int)), (Value.int IntKind.u8 (0 : Int)), (Value.int IntKind.u8 (0 : Int)), (Value.int IntKind.u8 (0 : Int)), (Value.int IntKind.u8 (0 : Int)), (Value.int IntKind.u8 (0 : Int)), (Value.int IntKind.u8 (0 : Int)), (Value.int IntKind.u8 (0 : Int)), (Value.int IntKind.u8 (0 : Int)), (Value.int IntKind.u8 (0 : Int)), (Value.int IntKind.u8 (0 : Int)), (Value.int IntKind.u8 (0 : Int)), (Value.int IntKind.u8 (0 : Int)), (Value.int IntKind.u8 (0 : Int)), (Value.int IntKind.u8 (0 : Int)), (Value.int IntKind.u8 (0 : Int)), (Value.int IntKind.u8 (0 : Int)), (Value.int IntKind.u8 (0 : Int)), (Value.int IntKind.u8 (0 : Int))] 75 (0, 0)) fun (z0 : Addr) =>
  .eff (Instr.sliceAt 75 (Value.pointer (some z0)) none none none) .slice fun (z1 : ((Option Addr) × (Nat × Nat))) =>
  .call 41 #[(Value.slice b b_len b_cap), (Value.slice (z1).1 ((z1).2).1 ((z1).2).2)] (.tuple (.cons .slice (.cons .any .nil))) fun (z2 : (((Option Addr) × (Nat × Nat)) × (Value × PUnit))) =>
  .chk ((isIface ((z2).2).1) = Bool.true) <|
  .ite (!(isNil ((z2).2).1)) (
    .drew <|
    .load (Addr.mk 1 0 Option.none) .any fun (v3 : Value) =>
    .leaf 0 [(Value.string (ByteArray.mk #[])), v3]) (
    .eff (convert 43 9 (Value.slice ((z2).1).1 (((z2).1).2).1 (((z2).1).2).2)) .str fun (s4 : ByteArray) =>
    .leaf 0 [(Value.string s4), Value.nilIface])
def jsonparser_ParseString.h : Hints := ⟨[], [], [], []⟩
noncomputable def jsonparser_ParseString.c : Code := (Tryd.f27.body).getD .skip
theorem jsonparser_ParseString.e (b : (Option Addr)) (b_len : Nat) (b_cap : Nat) : fnT Tryd.prog jsonparser_ParseString.h Tryd.f27 jsonparser_ParseString.c [.v (Value.slice b b_len b_cap)] = jsonparser_ParseString.t b b_len b_cap := by kernel_rfl
theorem jsonparser_ParseString.calls (b : (Option Addr)) (b_len : Nat) (b_cap : Nat) {w : World} {R : Ending → World → Prop} (hs : sat Tryd.prog (jsonparser_ParseString.t b b_len b_cap) (fun l vs w' => l = 0 ∧ R (.returned (retVal vs)) w') w) : Calls Tryd.prog 27 #[(Value.slice b b_len b_cap)] w R :=
  have h := calls_of_tree (w := w) (R := R) (args := [.v (Value.slice b b_len b_cap)]) (c := jsonparser_ParseString.c) Tryd.func27 (show Tryd.f27.body = some jsonparser_ParseString.c by kernel_rfl) (of_decide_eq_true (by kernel_rfl)) (jsonparser_ParseString.e b b_len b_cap) hs
  h

/-! ### (*pub-tetrapla/spec.reader).escape : function 28 -/
def spec_reader_escape.t1 (b1 : Bool) : T :=
  .leaf 6 [(Value.bool b1)]
def spec_reader_escape.t2 (b2 : Bool) : T :=
  .leaf 5 [(Value.bool b2)]
def spec_reader_escape.t3 (b3 : Bool) : T :=
  .leaf 4 [(Value.bool b3)]
def spec_reader_escape.t4 (b4 : Bool) : T :=
  .leaf 3 [(Value.bool b4)]
def spec_reader_escape.t5 (b5 : Bool) : T :=
  .leaf 2 [(Value.bool b5)]
def spec_reader_escape.t6 (b6 : Bool) : T :=
  .leaf 1 [(Value.bool b6)]
def spec_reader_escape.t8 (r : (Option Addr)) (i14 : Int) : T :=
  .ite (decide (i14 < (4 : Int))) (
    .call 42 #[(Value.pointer r)] (.int .u8) fun (i15 : Int) =>
    .call 43 #[(Value.int IntKind.u8 i15)] (.tuple (.cons (.int .i64) (.cons .bool .nil))) fun (z16 : (Int × (Bool × PUnit))) =>
    .ite (!((z16).2).1) (
      .leaf 0 [(Value.bool Bool.false)]) (
      .ptr r fun (z17 : Addr) =>
      .load (Addr.add z17 1) (.int .i64) fun (i18 : Int) =>
      .ptr r fun (z19 : Addr) =>
      .store (Addr.add z19 1) (Value.int IntKind.i64 (IntKind.wrap IntKind.i64 (i18 + (1 : Int)))) <|
      .leaf 2 [(Value.int IntKind.i64 (IntKind.wrap IntKind.i64 (i14 + (1 : Int))))])) (
    .leaf 0 [(Value.bool Bool.true)])
def spec_reader_escape.t9 : T :=
  .leaf 0 [(Value.bool Bool.false)]
def spec_reader_escape.t7 (r : (Option Addr)) (i0 : Int) (b7 : Bool) : T :=
  .cut 1 (.cons .bool .nil) (
    .ite b7 (
      .ptr r fun (z8 : Addr) =>
      .load (Addr.add z8 1) (.int .i64) fun (i9 : Int) =>
      .ptr r fun (z10 : Addr) =>
      .store (Addr.add z10 1) (Value.int IntKind.i64 (IntKind.wrap IntKind.i64 (i9 + (1 : Int)))) <|
      .leaf 0 [(Value.bool Bool.true)]) (
      .ite (i0 == (117 : Int)) (
        .ptr r fun (z11 : Addr) =>
        .load (Addr.add z11 1) (.int .i64) fun (i12 : Int) =>
        .ptr r fun (z13 : Addr) =>
        .store (Addr.add z13 1) (Value.int IntKind.i64 (IntKind.wrap IntKind.i64 (i12 + (1 : Int)))) <|
        .loop 2 (.cons (.int .i64) .nil) [(Value.int IntKind.i64 (0 : Int))]
          (fun z => spec_reader_escape.t8 r z.1)) (
        .leaf 1 [(Value.bool b7)])))
    (fun z => spec_reader_escape.t9)
def spec_reader_escape.t (r : (Option Addr)) : T :=
  .call 42 #[(Value.pointer r)] (.int .u8) fun (i0 : Int) =>
  .cut 1 (.cons .bool .nil) (
    .ite (i0 == (34 : Int)) (
      .leaf 1 [(Value.bool (i0 == (34 : Int)))]) (
      .cut 2 (.cons .bool .nil) (
        .ite (i0 == (92 : Int)) (
          .leaf 2 [(Value.bool (i0 == (92 : Int)))]) (
          .cut 3 (.cons .bool .nil) (
            .ite (i0 == (47 : Int)) (
              .leaf 3 [(Value.bool (i0 == (47 : Int)))]) (
              .cut 4 (.cons .bool .nil) (
                .ite (i0 == (98 : Int)) (
                  .leaf 4 [(Value.bool (i0 == (98 : Int)))]) (
                  .cut 5 (.cons .bool .nil) (
                    .ite (i0 == (102 : Int)) (
                      .leaf 5 [(Value.bool (i0 == (102 : Int)))]) (
                      .cut 6 (.cons .bool .nil) (
                        .ite (i0 == (110 : Int)) (
                          .leaf 6 [(Value.bool (i0 == (110 : Int)))]) (
                          .cut 7 (.cons .bool .nil) (
                            .ite (i0 == (114 : Int)) (
                              .leaf 7 [(Value.bool (i0 == (114 : Int)))]) (
                              .leaf 7 [(Value.bool (i0 == (116 : Int)))]))
                            (fun z => spec_reader_escape.t1 z.1)))
                        (fun z => spec_reader_escape.t2 z.1)))
                    (fun z => spec_reader_escape.t3 z.1)))
                (fun z => spec_reader_escape.t4 z.1)))
            (fun z => spec_reader_escape.t5 z.1)))
        (fun z => spec_reader_escape.t6 z.1)))
    (fun z => spec_reader_escape.t7 r i0 z.1)
def spec_reader_escape.h : Hints := ⟨[(8, [(8, .bool)])], [], [], [(15, [(3, (.int .i64))])]⟩
noncomputable def spec_reader_escape.c : Code := (Tryd.f28.body).getD .skip
theorem spec_reader_escape.e (r : (Option Addr)) : fnT Tryd.prog spec_reader_escape.h Tryd.f28 spec_reader_escape.c [.v (Value.pointer r)] = spec_reader_escape.t r := by kernel_rfl
theorem spec_reader_escape.calls (r : (Option Addr)) {w : World} {R : Ending → World → Prop} (hs : sat Tryd.prog (spec_reader_escape.t r) (fun l vs w' => l = 0 ∧ R (.returned (retVal vs)) w') w) : Calls Tryd.prog 28 #[(Value.pointer r)] w R :=
  have h := calls_of_tree (w := w) (R := R) (args := [.v (Value.pointer r)]) (c := spec_reader_escape.c) Tryd.func28 (show Tryd.f28.body = some spec_reader_escape.c by kernel_rfl) (of_decide_eq_true (by kernel_rfl)) (spec_reader_escape.e r) hs
  h

/-! ### pub-tetrapla/spec.Unquote : function 29 -/
def spec_Unquote.t2 (i0 : Int) (z1 : ((Option Addr) × (Nat × Nat))) (z4 : (Int × (Bool × PUnit))) (z8 : (Int × (Bool × PUnit))) (b11 : Bool) : T :=
  .ite b11 (
    .call 46 #[(Value.slice (z1).1 ((z1).2).1 ((z1).2).2), (Value.int IntKind.i64 (IntKind.wrap IntKind.i64 ((IntKind.wrap IntKind.i64 ((65536 : Int) + (IntKind.wrap IntKind.i64 ((IntKind.wrap IntKind.i64 ((z4).1 - (55296 : Int))) * (1024 : Int))))) + (IntKind.wrap IntKind.i64 ((z8).1 - (56320 : Int))))))] .slice fun (z12 : ((Option Addr) × (Nat × Nat))) =>
    .leaf 1 [(Value.int IntKind.i64 (IntKind.wrap IntKind.i64 ((IntKind.wrap IntKind.i64 (i0 + (6 : Int))) + (6 : Int)))), (Value.slice (z12).1 ((z12).2).1 ((z12).2).2)]) (
    .call 46 #[(Value.slice (z1).1 ((z1).2).1 ((z1).2).2), (Value.int IntKind.i64 (z4).1)] .slice fun (z13 : ((Option Addr) × (Nat × Nat))) =>
    .leaf 1 [(Value.int IntKind.i64 (IntKind.wrap IntKind.i64 (i0 + (6 : Int)))), (Value.slice (z13).1 ((z13).2).1 ((z13).2).2)])
def spec_Unquote.t1 (q0 : ByteArray) (i0 : Int) (z1 : ((Option Addr) × (Nat × Nat))) : T :=
  .ite (decide (i0 < (((ByteArray.size (ByteArray.extract q0 1 (Int.toNat (IntKind.wrap IntKind.i64 ((((ByteArray.size q0) : Nat) : Int) - (1 : Int)))))) : Nat) : Int))) (
    .chk (((0 : Int) ≤ i0) ∧ (i0 < (((ByteArray.size (ByteArray.extract q0 1 (Int.toNat (IntKind.wrap IntKind.i64 ((((ByteArray.size q0) : Nat) : Int) - (1 : Int)))))) : Nat) : Int))) <|
    .ite ((bt (ByteArray.extract q0 1 (Int.toNat (IntKind.wrap IntKind.i64 ((((ByteArray.size q0) : Nat) : Int) - (1 : Int))))) i0) != (92 : Int)) (
      .chk (((0 : Int) ≤ i0) ∧ (i0 < (((ByteArray.size (ByteArray.extract q0 1 (Int.toNat (IntKind.wrap IntKind.i64 ((((ByteArray.size q0) : Nat) : Int) - (1 : Int)))))) : Nat) : Int))) <|
      .eff (Instr.buildSlice 43 1 #[(0, (Value.int IntKind.u8 (bt (ByteArray.extract q0 1 (Int.toNat (IntKind.wrap IntKind.i64 ((((ByteArray.size q0) : Nat) : Int) - (1 : Int))))) i0)))]) .slice fun (z2 : ((Option Addr) × (Nat × Nat))) =>
      .eff (Builtin.append_ (Call.argTypes (Call.mk (Callee.builtin Builtin.append) #[(Operand.tmp 23), (Operand.tmp 27)] #[43, 43])) 43 #[(Value.slice (z1).1 ((z1).2).1 ((z1).2).2), (Value.slice (z2).1 ((z2).2).1 ((z2).2).2)]) .slice fun (z3 : ((Option Addr) × (Nat × Nat))) =>
      .leaf 1 [(Value.int IntKind.i64 (IntKind.wrap IntKind.i64 (i0 + (1 : Int)))), (Value.slice (z3).1 ((z3).2).1 ((z3).2).2)]) (
      .call 44 #[(Value.string (ByteArray.extract q0 1 (Int.toNat (IntKind.wrap IntKind.i64 ((((ByteArray.size q0) : Nat) : Int) - (1 : Int)))))), (Value.int IntKind.i64 i0)] (.tuple (.cons (.int .i64) (.cons .bool .nil))) fun (z4 : (Int × (Bool × PUnit))) =>
      .ite (!((z4).2).1) (
        .chk (((0 : Int) ≤ (IntKind.wrap IntKind.i64 (i0 + (1 : Int)))) ∧ ((IntKind.wrap IntKind.i64 (i0 + (1 : Int))) < (((ByteArray.size (ByteArray.extract q0 1 (Int.toNat (IntKind.wrap IntKind.i64 ((((ByteArray.size q0) : Nat) : Int) - (1 : Int)))))) : Nat) : Int))) <|
        .call 45 #[(Value.int IntKind.u8 (bt (ByteArray.extract q0 1 (Int.toNat (IntKind.wrap IntKind.i64 ((((ByteArray.size q0) : Nat) : Int) - (1 : Int))))) (IntKind.wrap IntKind.i64 (i0 + (1 : Int)))))] (.int .u8) fun (i5 : Int) =>
        .eff (Instr.buildSlice 43 1 #[(0, (Value.int IntKind.u8 i5))]) .slice fun (z6 : ((Option Addr) × (Nat × Nat))) =>
        .eff (Builtin.append_ (Call.argTypes (Call.mk (Callee.builtin Builtin.append) #[(Operand.tmp 39), (Operand.tmp 45)] #[43, 43])) 43 #[(Value.slice (z1).1 ((z1).2).1 ((z1).2).2), (Value.slice (z6).1 ((z6).2).1 ((z6).2).2)]) .slice fun (z7 : ((Option Addr) × (Nat × Nat))) =>
        .leaf 1 [(Value.int IntKind.i64 (IntKind.wrap IntKind.i64 (i0 + (2 : Int)))), (Value.slice (z7).1 ((z7).2).1 ((z7).2).2)]) (
        .call 44 #[(Value.string (ByteArray.extract q0 1 (Int.toNat (IntKind.wrap IntKind.i64 ((((ByteArray.size q0) : Nat) : Int) - (1 : Int)))))), (Value.int IntKind.i64 (IntKind.wrap IntKind.i64 (i0 + (6 : Int))))] (.tuple (.cons (.int .i64) (.cons .bool .nil))) fun (z8 : (Int × (Bool × PUnit))) =>
        .cut 2 (.cons .bool .nil) (
          .ite ((z8).2).1 (
            .call 33 #[(Value.int IntKind.i64 (z4).1)] .bool fun (b9 : Bool) =>
            .ite b9 (
              .call 34 #[(Value.int IntKind.i64 (z8).1)] .bool fun (b10 : Bool) =>
              .leaf 2 [(Value.bool b10)]) (
              .leaf 2 [(Value.bool Bool.false)])) (
            .leaf 2 [(Value.bool Bool.false)]))
          (fun z => spec_Unquote.t2 i0 z1 z4 z8 z.1)))) (
    .eff (convert 43 9 (Value.slice (z1).1 ((z1).2).1 ((z1).2).2)) .str fun (s14 : ByteArray) =>
    .leaf 0 [(Value.string s14)])
def spec_Unquote.t (q0 : ByteArray) : T :=
  .chk (((0 : Int) ≤ (1 : Int)) ∧ (((1 : Int) ≤ (IntKind.wrap IntKind.i64 ((((ByteArray.size q0) : Nat) : Int) - (1 : Int)))) ∧ ((IntKind.wrap IntKind.i64 ((((ByteArray.size q0) : Nat) : Int) - (1 : Int))) ≤ (((ByteArray.size q0) : Nat) : Int)))) <|
  .loop 1 (.cons (.int .i64) (.cons .slice .nil)) [(Value.int IntKind.i64 (0 : Int)), (Value.slice none 0 0)]
    (fun z => spec_Unquote.t1 q0 z.1 z.2.1)
def spec_Unquote.h : Hints := ⟨[], [], [(14, [(65, .bool)])], [(4, [(5, (.int .i64)), (3, .slice)])]⟩
noncomputable def spec_Unquote.c : Code := (Tryd.f29.body).getD .skip
theorem spec_Unquote.e (q0 : ByteArray) : fnT Tryd.prog spec_Unquote.h Tryd.f29 spec_Unquote.c [.v (Value.string q0)] = spec_Unquote.t q0 := by kernel_rfl
theorem spec_Unquote.calls (q0 : ByteArray) {w : World} {R : Ending → World → Prop} (hs : sat Tryd.prog (spec_Unquote.t q0) (fun l vs w' => l = 0 ∧ R (.returned (retVal vs)) w') w) : Calls Tryd.prog 29 #[(Value.string q0)] w R :=
  have h := calls_of_tree (w := w) (R := R) (args := [.v (Value.string q0)]) (c := spec_Unquote.c) Tryd.func29 (show Tryd.f29.body = some spec_Unquote.c by kernel_rfl) (of_decide_eq_true (by kernel_rfl)) (spec_Unquote.e q0) hs
  h

/-! ### pub-tetrapla/pub/match.MatchLimit : function 30 -/
def match_MatchLimit.t (str : ByteArray) (pattern : ByteArray) (maxcomp : Int) : T :=
  .call 47 #[(Value.string str), (Value.string pattern), (Value.int IntKind.i64 maxcomp), (Value.bool Bool.false)] (.tuple (.cons .bool (.cons .bool .nil))) fun (z0 : (Bool × (Bool × PUnit))) =>
  .leaf 0 [(Value.bool (z0).1), (Value.bool ((z0).2).1)]
def match_MatchLimit.h : Hints := ⟨[], [], [], []⟩
noncomputable def match_MatchLimit.c : Code := (Tryd.f30.body).getD .skip
theorem match_MatchLimit.e (str : ByteArray) (pattern : ByteArray) (maxcomp : Int) : fnT Tryd.prog match_MatchLimit.h Tryd.f30 match_MatchLimit.c [.v (Value.string str), .v (Value.string pattern), .v (Value.int IntKind.i64 maxcomp)] = match_MatchLimit.t str pattern maxcomp := by kernel_rfl
theorem match_MatchLimit.calls (str : ByteArray) (pattern : ByteArray) (maxcomp : Int) {w : World} {R : Ending → World → Prop} (hs : sat Tryd.prog (match_MatchLimit.t str pattern maxcomp) (fun l vs w' => l = 0 ∧ R (.returned (retVal vs)) w') w) : Calls Tryd.prog 30 #[(Value.string str), (Value.string pattern), (Value.int IntKind.i64 maxcomp)] w R :=
  have h := calls_of_tree (w := w) (R := R) (args := [.v (Value.string str), .v (Value.string pattern), .v (Value.int IntKind.i64 maxcomp)]) (c := match_MatchLimit.c) Tryd.func30 (show Tryd.f30.body = some match_MatchLimit.c by kernel_rfl) (of_decide_eq_true (by kernel_rfl)) (match_MatchLimit.e str pattern maxcomp) hs
  h

/-! ### pub-tetrapla/spec.Uint64 : function 31 -/
def spec_Uint64.t2 (s : ByteArray) (i0 : Int) (i1 : Int) (b2 : Bool) : T :=
  .ite b2 (
    .leaf 0 [(Value.int IntKind.u64 (0 : Int)), (Value.bool Bool.false)]) (
    .chk (((0 : Int) ≤ i0) ∧ (i0 < (((ByteArray.size s) : Nat) : Int))) <|
    .chk ((10 : Int) ≠ (0 : Int)) <|
    .ite (decide (i1 > (IntKind.wrap IntKind.u64 (Int.tdiv (IntKind.wrap IntKind.u64 ((18446744073709551615 : Int) - (IntKind.wrap IntKind.u64 (IntKind.wrap IntKind.u8 ((bt s i0) - (48 : Int)))))) (10 : Int))))) (
      .leaf 0 [(Value.int IntKind.u64 (0 : Int)), (Value.bool Bool.false)]) (
      .leaf 1 [(Value.int IntKind.i64 (IntKind.wrap IntKind.i64 (i0 + (1 : Int)))), (Value.int IntKind.u64 (IntKind.wrap IntKind.u64 ((IntKind.wrap IntKind.u64 (i1 * (10 : Int))) + (IntKind.wrap IntKind.u64 (IntKind.wrap IntKind.u8 ((bt s i0) - (48 : Int)))))))]))
def spec_Uint64.t1 (s : ByteArray) (i0 : Int) (i1 : Int) : T :=
  .ite (decide (i0 < (((ByteArray.size s) : Nat) : Int))) (
    .cut 2 (.cons .bool .nil) (
      .chk (((0 : Int) ≤ i0) ∧ (i0 < (((ByteArray.size s) : Nat) : Int))) <|
      .ite (decide ((bt s i0) < (48 : Int))) (
        .leaf 2 [(Value.bool Bool.true)]) (
        .chk (((0 : Int) ≤ i0) ∧ (i0 < (((ByteArray.size s) : Nat) : Int))) <|
        .leaf 2 [(Value.bool (decide ((bt s i0) > (57 : Int))))]))
      (fun z => spec_Uint64.t2 s i0 i1 z.1)) (
    .leaf 0 [(Value.int IntKind.u64 i1), (Value.bool Bool.true)])
def spec_Uint64.t (s : ByteArray) : T :=
  .ite (strEq s (ByteArray.mk #[])) (
    .leaf 0 [(Value.int IntKind.u64 (0 : Int)), (Value.bool Bool.false)]) (
    .loop 1 (.cons (.int .i64) (.cons (.int .u64) .nil)) [(Value.int IntKind.i64 (0 : Int)), (Value.int IntKind.u64 (0 : Int))]
      (fun z => spec_Uint64.t1 s z.1 z.2.1))
def spec_Uint64.h : Hints := ⟨[], [], [(7, [(24, .bool)])], [(5, [(5, (.int .i64)), (4, (.int .u64))])]⟩
noncomputable def spec_Uint64.c : Code := (Tryd.f31.body).getD .skip
theorem spec_Uint64.e (s : ByteArray) : fnT Tryd.prog spec_Uint64.h Tryd.f31 spec_Uint64.c [.v (Value.string s)] = spec_Uint64.t s := by kernel_rfl
theorem spec_Uint64.calls (s : ByteArray) {w : World} {R : Ending → World → Prop} (hs : sat Tryd.prog (spec_Uint64.t s) (fun l vs w' => l = 0 ∧ R (.returned (retVal vs)) w') w) : Calls Tryd.prog 31 #[(Value.string s)] w R :=
  have h := calls_of_tree (w := w) (R := R) (args := [.v (Value.string s)]) (c := spec_Uint64.c) Tryd.func31 (show Tryd.f31.body = some spec_Uint64.c by kernel_rfl) (of_decide_eq_true (by kernel_rfl)) (spec_Uint64.e s) hs
  h

/-! ### pub-tetrapla/pub/jsonparser.parseInt : function 32 -/
def jsonparser_parseInt.t2 (q0 : (Option Addr)) (q0_len : Nat) (b3 : Bool) (i4 : Int) (i5 : Int) : T :=
  .ite (decide (i4 < ((q0_len : Nat) : Int))) (
    .chk (((0 : Int) ≤ i4) ∧ (i4 < ((q0_len : Nat) : Int))) <|
    .ptr q0 fun (z6 : Addr) =>
    .load (Addr.add z6 ((Int.toNat i4) * 1)) (.int .u8) fun (i7 : Int) =>
    .ite (decide ((IntKind.wrap IntKind.u8 (i7 - (48 : Int))) > (9 : Int))) (
      .leaf 0 [(Value.int IntKind.i64 (0 : Int)), (Value.bool Bool.false), (Value.bool Bool.false)]) (
      .leaf 1 [(Value.int IntKind.i64 (IntKind.wrap IntKind.i64 (i4 + (1 : Int)))), (Value.int IntKind.i64 (IntKind.wrap IntKind.i64 ((IntKind.wrap IntKind.i64 ((10 : Int) * i5)) + (IntKind.wrap IntKind.i64 (IntKind.wrap IntKind.u8 (i7 - (48 : Int)))))))])) (
    .ite b3 (
      .leaf 0 [(Value.int IntKind.i64 (IntKind.wrap IntKind.i64 ((0 : Int) - i5))), (Value.bool Bool.true), (Value.bool Bool.false)]) (
      .leaf 0 [(Value.int IntKind.i64 i5), (Value.bool Bool.true), (Value.bool Bool.false)]))
def jsonparser_parseInt.t5 (i10 : Int) (i11 : Int) (i13 : Int) (b14 : Bool) : T :=
  .ite b14 (
    .leaf 0 [(Value.int IntKind.i64 (0 : Int)), (Value.bool Bool.false), (Value.bool Bool.false)]) (
    .ite (decide (i11 > (1844674407370955161 : Int))) (
      .leaf 0 [(Value.int IntKind.i64 (0 : Int)), (Value.bool Bool.false), (Value.bool Bool.true)]) (
      .ite (decide ((IntKind.wrap IntKind.u64 ((IntKind.wrap IntKind.u64 (i11 * (10 : Int))) + (IntKind.wrap IntKind.u64 (IntKind.wrap IntKind.u8 (i13 - (48 : Int)))))) < (IntKind.wrap IntKind.u64 (i11 * (10 : Int))))) (
        .leaf 0 [(Value.int IntKind.i64 (0 : Int)), (Value.bool Bool.false), (Value.bool Bool.true)]) (
        .leaf 1 [(Value.int IntKind.i64 (IntKind.wrap IntKind.i64 (i10 + (1 : Int)))), (Value.int IntKind.u64 (IntKind.wrap IntKind.u64 ((IntKind.wrap IntKind.u64 (i11 * (10 : Int))) + (IntKind.wrap IntKind.u64 (IntKind.wrap IntKind.u8 (i13 - (48 : Int)))))))])))
def jsonparser_parseInt.t6 (b15 : Bool) : T :=
  .ite b15 (
    .leaf 0 [(Value.int IntKind.i64 (-9223372036854775808 : Int)), (Value.bool Bool.true), (Value.bool Bool.false)]) (
    .leaf 0 [(Value.int IntKind.i64 (0 : Int)), (Value.bool Bool.false), (Value.bool Bool.true)])
def jsonparser_parseInt.t4 (b3 : Bool) (z9 : ((Option Addr) × (Nat × Nat))) (i10 : Int) (i11 : Int) : T :=
  .ite (decide (i10 < ((((z9).2).1 : Nat) : Int))) (
    .chk (((0 : Int) ≤ i10) ∧ (i10 < ((((z9).2).1 : Nat) : Int))) <|
    .ptr (z9).1 fun (z12 : Addr) =>
    .load (Addr.add z12 ((Int.toNat i10) * 1)) (.int .u8) fun (i13 : Int) =>
    .cut 2 (.cons .bool .nil) (
      .ite (decide (i13 < (48 : Int))) (
        .leaf 2 [(Value.bool Bool.true)]) (
        .leaf 2 [(Value.bool (decide (i13 > (57 : Int))))]))
      (fun z => jsonparser_parseInt.t5 i10 i11 i13 z.1)) (
    .ite (decide (i11 > (9223372036854775807 : Int))) (
      .cut 1 (.cons .bool .nil) (
        .ite b3 (
          .leaf 1 [(Value.bool (i11 == (9223372036854775808 : Int)))]) (
          .leaf 1 [(Value.bool Bool.false)]))
        (fun z => jsonparser_parseInt.t6 z.1)) (
      .ite b3 (
        .leaf 0 [(Value.int IntKind.i64 (IntKind.wrap IntKind.i64 ((0 : Int) - (IntKind.wrap IntKind.i64 i11)))), (Value.bool Bool.true), (Value.bool Bool.false)]) (
        .leaf 0 [(Value.int IntKind.i64 (IntKind.wrap IntKind.i64 i11)), (Value.bool Bool.true), (Value.bool Bool.false)])))
def jsonparser_parseInt.t3 (b3 : Bool) (z9 : ((Option Addr) × (Nat × Nat))) : T :=
  .loop 1 (.cons (.int .i64) (.cons (.int .u64) .nil)) [(Value.int IntKind.i64 (0 : Int)), (Value.int IntKind.u64 (0 : Int))]
    (fun z => jsonparser_parseInt.t4 b3 z9 z.1 z.2.1)
def jsonparser_parseInt.t1 (q0 : (Option Addr)) (q0_len : Nat) (q0_cap : Nat) (i2 : Int) (b3 : Bool) : T :=
  .ite (i2 == ((q0_len : Nat) : Int)) (
    .leaf 0 [(Value.int IntKind.i64 (0 : Int)), (Value.bool Bool.false), (Value.bool Bool.false)]) (
    .ite (decide ((IntKind.wrap IntKind.i64 (((q0_len : Nat) : Int) - i2)) < (19 : Int))) (
      .loop 1 (.cons (.int .i64) (.cons (.int .i64) .nil)) [(Value.int IntKind.i64 i2), (Value.int IntKind.i64 (0 : Int))]
        (fun z => jsonparser_parseInt.t2 q0 q0_len b3 z.1 z.2.1)) (
      .cut 1 (.cons .slice .nil) (
        .ite b3 (
          .chk (((0 : Int) ≤ (1 : Int)) ∧ (((1 : Int) ≤ ((q0_len : Nat) : Int)) ∧ (((q0_len : Nat) : Int) ≤ ((q0_cap : Nat) : Int)))) <|
          .leaf 1 [(Value.slice (if (q0_cap = 1) then q0 else (Option.map (fun (y8 : Addr) => (Addr.add y8 1)) q0)) ((Int.toNat ((q0_len : Nat) : Int)) - 1) (q0_cap - 1))]) (
          .leaf 1 [(Value.slice q0 q0_len q0_cap)]))
        (fun z => jsonparser_parseInt.t3 b3 z.1)))
def jsonparser_parseInt.t (q0 : (Option Addr)) (q0_len : Nat) (q0_cap : Nat) : T :=
  .ite (((q0_len : Nat) : Int) == (0 : Int)) (
    .leaf 0 [(Value.int IntKind.i64 (0 : Int)), (Value.bool Bool.false), (Value.bool Bool.false)]) (
    .chk (((0 : Int) ≤ (0 : Int)) ∧ ((0 : Int) < ((q0_len : Nat) : Int))) <|
    .ptr q0 fun (z0 : Addr) =>
    .load (Addr.add z0 0) (.int .u8) fun (i1 : Int) =>
    .cut 1 (.cons (.int .i64) (.cons .bool .nil)) (
      .ite (i1 == (45 : Int)) (
        .leaf 1 [(Value.int IntKind.i64 (1 : Int)), (Value.bool Bool.true)]) (
        .leaf 1 [(Value.int IntKind.i64 (0 : Int)), (Value.bool Bool.false)]))
      (fun z => jsonparser_parseInt.t1 q0 q0_len q0_cap z.1 z.2.1))
def jsonparser_parseInt.h : Hints := ⟨[(20, [(7, (.int .i64)), (6, .bool)]), (49, [(0, .slice)])], [], [(27, [(63, .bool)]), (38, [(84, .bool)])], [(12, [(7, (.int .i64)), (2, (.int .i64))]), (25, [(54, (.int .i64)), (9, (.int .u64))])]⟩
noncomputable def jsonparser_parseInt.c : Code := (Tryd.f32.body).getD .skip
theorem jsonparser_parseInt.e (q0 : (Option Addr)) (q0_len : Nat) (q0_cap : Nat) : fnT Tryd.prog jsonparser_parseInt.h Tryd.f32 jsonparser_parseInt.c [.v (Value.slice q0 q0_len q0_cap)] = jsonparser_parseInt.t q0 q0_len q0_cap := by kernel_rfl
theorem jsonparser_parseInt.calls (q0 : (Option Addr)) (q0_len : Nat) (q0_cap : Nat) {w : World} {R : Ending → World → Prop} (hs : sat Tryd.prog (jsonparser_parseInt.t q0 q0_len q0_cap) (fun l vs w' => l = 0 ∧ R (.returned (retVal vs)) w') w) : Calls Tryd.prog 32 #[(Value.slice q0 q0_len q0_cap)] w R :=
  have h := calls_of_tree (w := w) (R := R) (args := [.v (Value.slice q0 q0_len q0_cap)]) (c := jsonparser_parseInt.c) Tryd.func32 (show Tryd.f32.body = some jsonparser_parseInt.c by kernel_rfl) (of_decide_eq_true (by kernel_rfl)) (jsonparser_parseInt.e q0 q0_len q0_cap) hs
  h

/-! ### pub-tetrapla/spec.high : function 33 -/
def spec_high.t (n : Int) : T :=
  .ite (decide ((55296 : Int) ≤ n)) (
    .leaf 0 [(Value.bool (decide (n ≤ (56319 : Int))))]) (
    .leaf 0 [(Value.bool Bool.false)])
def spec_high.h : Hints := ⟨[], [], [], []⟩
noncomputable def spec_high.c : Code := (Tryd.f33.body).getD .skip
theorem spec_high.e (n : Int) : fnT Tryd.prog spec_high.h Tryd.f33 spec_high.c [.v (Value.int IntKind.i64 n)] = spec_high.t n := by kernel_rfl
theorem spec_high.calls (n : Int) {w : World} {R : Ending → World → Prop} (hs : sat Tryd.prog (spec_high.t n) (fun l vs w' => l = 0 ∧ R (.returned (retVal vs)) w') w) : Calls Tryd.prog 33 #[(Value.int IntKind.i64 n)] w R :=
  have h := calls_of_tree (w := w) (R := R) (args := [.v (Value.int IntKind.i64 n)]) (c := spec_high.c) Tryd.func33 (show Tryd.f33.body = some spec_high.c by kernel_rfl) (of_decide_eq_true (by kernel_rfl)) (spec_high.e n) hs
  h

/-! ### pub-tetrapla/spec.low : function 34 -/
def spec_low.t (n : Int) : T :=
  .ite (decide ((56320 : Int) ≤ n)) (
    .leaf 0 [(Value.bool (decide (n ≤ (57343 : Int))))]) (
    .leaf 0 [(Value.bool Bool.false)])
def spec_low.h : Hints := ⟨[], [], [], []⟩
noncomputable def spec_low.c : Code := (Tryd.f34.body).getD .skip
theorem spec_low.e (n : Int) : fnT Tryd.prog spec_low.h Tryd.f34 spec_low.c [.v (Value.int IntKind.i64 n)] = spec_low.t n := by kernel_rfl
theorem spec_low.calls (n : Int) {w : World} {R : Ending → World → Prop} (hs : sat Tryd.prog (spec_low.t n) (fun l vs w' => l = 0 ∧ R (.returned (retVal vs)) w') w) : Calls Tryd.prog 34 #[(Value.int IntKind.i64 n)] w R :=
  have h := calls_of_tree (w := w) (R := R) (args := [.v (Value.int IntKind.i64 n)]) (c := spec_low.c) Tryd.func34 (show Tryd.f34.body = some spec_low.c by kernel_rfl) (of_decide_eq_true (by kernel_rfl)) (spec_low.e n) hs
  h

/-! ### (*pub-tetrapla/spec.reader).blanks : function 35 -/
def spec_reader_blanks.t1 (r : (Option Addr)) : T :=
  .drew <|
  .ptr r fun (z0 : Addr) =>
  .load (Addr.add z0 1) (.int .i64) fun (i1 : Int) =>
  .ptr r fun (z2 : Addr) =>
  .load (Addr.add z2 0) .str fun (s3 : ByteArray) =>
  .ite (decide (i1 < (((ByteArray.size s3) : Nat) : Int))) (
    .ptr r fun (z4 : Addr) =>
    .load (Addr.add z4 0) .str fun (s5 : ByteArray) =>
    .ptr r fun (z6 : Addr) =>
    .load (Addr.add z6 1) (.int .i64) fun (i7 : Int) =>
    .chk (((0 : Int) ≤ i7) ∧ (i7 < (((ByteArray.size s5) : Nat) : Int))) <|
    .call 48 #[(Value.int IntKind.u8 (bt s5 i7))] .bool fun (b8 : Bool) =>
    .ite b8 (
      .ptr r fun (z9 : Addr) =>
      .load (Addr.add z9 1) (.int .i64) fun (i10 : Int) =>
      .ptr r fun (z11 : Addr) =>
      .store (Addr.add z11 1) (Value.int IntKind.i64 (IntKind.wrap IntKind.i64 (i10 + (1 : Int)))) <|
      .leaf 1 []) (
      .leaf 0 [])) (
    .leaf 0 [])
def spec_reader_blanks.t (r : (Option Addr)) : T :=
  .loop 1 .nil []
    (fun _ => spec_reader_blanks.t1 r)
def spec_reader_blanks.h : Hints := ⟨[], [], [], [(0, [])]⟩
noncomputable def spec_reader_blanks.c : Code := (Tryd.f35.body).getD .skip
theorem spec_reader_blanks.e (r : (Option Addr)) : fnT Tryd.prog spec_reader_blanks.h Tryd.f35 spec_reader_blanks.c [.v (Value.pointer r)] = spec_reader_blanks.t r := by kernel_rfl
theorem spec_reader_blanks.calls (r : (Option Addr)) {w : World} {R : Ending → World → Prop} (hs : sat Tryd.prog (spec_reader_blanks.t r) (fun l vs w' => l = 0 ∧ R (.returned (retVal vs)) w') w) : Calls Tryd.prog 35 #[(Value.pointer r)] w R :=
  have h := calls_of_tree (w := w) (R := R) (args := [.v (Value.pointer r)]) (c := spec_reader_blanks.c) Tryd.func35 (show Tryd.f35.body = some spec_reader_blanks.c by kernel_rfl) (of_decide_eq_true (by kernel_rfl)) (spec_reader_blanks.e r) hs
  h

/-! ### pub-tetrapla/pub/gjson.appendHex16 : function 37 -/
def gjson_appendHex16.t (dst : (Option Addr)) (dst_len : Nat) (dst_cap : Nat) (x : Int) : T :=
  .drew <|
  .chk ((0 : Int) ≤ (12 : Int)) <|
  .chk (((0 : Int) ≤ (IntKind.wrap IntKind.u16 (((BitVec.toNat ((BitVec.ofInt 16 (Int.fdiv x (4096 : Int))) &&& (BitVec.ofInt 16 (15 : Int)))) : Nat) : Int))) ∧ ((IntKind.wrap IntKind.u16 (((BitVec.toNat ((BitVec.ofInt 16 (Int.fdiv x (4096 : Int))) &&& (BitVec.ofInt 16 (15 : Int)))) : Nat) : Int)) < (16 : Int))) <|
  .load (Addr.add (Addr.mk 10 0 Option.none) ((Int.toNat (IntKind.wrap IntKind.u16 (((BitVec.toNat ((BitVec.ofInt 16 (Int.fdiv x (4096 : Int))) &&& (BitVec.ofInt 16 (15 : Int)))) : Nat) : Int))) * 1)) (.int .u8) fun (i0 : Int) =>
  .chk ((0 : Int) ≤ (8 : Int)) <|
  .chk (((0 : Int) ≤ (IntKind.wrap IntKind.u16 (((BitVec.toNat ((BitVec.ofInt 16 (Int.fdiv x (256 : Int))) &&& (BitVec.ofInt 16 (15 : Int)))) : Nat) : Int))) ∧ ((IntKind.wrap IntKind.u16 (((BitVec.toNat ((BitVec.ofInt 16 (Int.fdiv x (256 : Int))) &&& (BitVec.ofInt 16 (15 : Int)))) : Nat) : Int)) < (16 : Int))) <|
  .load (Addr.add (Addr.mk 10 0 Option.none) ((Int.toNat (IntKind.wrap IntKind.u16 (((BitVec.toNat ((BitVec.ofInt 16 (Int.fdiv x (256 : Int))) &&& (BitVec.ofInt 16 (15 : Int)))) : Nat) : Int))) * 1)) (.int .u8) fun (i1 : Int) =>
  .chk ((0 : Int) ≤ (4 : Int)) <|
  .chk (((0 : Int) ≤ (IntKind.wrap IntKind.u16 (((BitVec.toNat ((BitVec.ofInt 16 (Int.fdiv x (16 : Int))) &&& (BitVec.ofInt 16 (15 : Int)))) : Nat) : Int))) ∧ ((IntKind.wrap IntKind.u16 (((BitVec.toNat ((BitVec.ofInt 16 (Int.fdiv x (16 : Int))) &&& (BitVec.ofInt 16 (15 : Int)))) : Nat) : Int)) < (16 : Int))) <|
  .load (Addr.add (Addr.mk 10 0 Option.none) ((Int.toNat (IntKind.wrap IntKind.u16 (((BitVec.toNat ((BitVec.ofInt 16 (Int.fdiv x (16 : Int))) &&& (BitVec.ofInt 16 (15 : Int)))) : Nat) : Int))) * 1)) (.int .u8) fun (i2 : Int) =>
  .chk ((0 : Int) ≤ (0 : Int)) <|
  .chk (((0 : Int) ≤ (IntKind.wrap IntKind.u16 (((BitVec.toNat ((BitVec.ofInt 16 (Int.fdiv x (1 : Int))) &&& (BitVec.ofInt 16 (15 : Int)))) : Nat) : Int))) ∧ ((IntKind.wrap IntKind.u16 (((BitVec.toNat ((BitVec.ofInt 16 (Int.fdiv x (1 : Int))) &&& (BitVec.ofInt 16 (15 : Int)))) : Nat) : Int)) < (16 : Int))) <|
  .load (Addr.add (Addr.mk 10 0 Option.none) ((Int.toNat (IntKind.wrap IntKind.u16 (((BitVec.toNat ((BitVec.ofInt 16 (Int.fdiv x (1 : Int))) &&& (BitVec.ofInt 16 (15 : Int)))) : Nat) : Int))) * 1)) (.int .u8) fun (i3 : Int) =>
  .here fun (z4 : World) =>
  .eff (Instr.buildSlice 43 4 #[(0, (Value.int IntKind.u8 i0)), (1, (Value.int IntKind.u8 i1)), (2, (Value.int IntKind.u8 i2)), (3, (Value.int IntKind.u8 i3))]) .slice fun (z5 : ((Option Addr) × (Nat × Nat))) =>
  .grew z4 <|
  .eff (Builtin.append_ (Call.argTypes (Call.mk (Callee.builtin Builtin.append) #[(Operand.tmp 5), (Operand.tmp 26)] #[43, 43])) 43 #[(Value.slice dst dst_len dst_cap), (Value.slice (z5).1 ((z5).2).1 ((z5).2).2)]) .slice fun (z6 : ((Option Addr) × (Nat × Nat))) =>
  .leaf 0 [(Value.slice (z6).1 ((z6).2).1 ((z6).2).2)]
def gjson_appendHex16.h : Hints := ⟨[], [], [], []⟩
noncomputable def gjson_appendHex16.c : Code := (Tryd.f37.body).getD .skip
theorem gjson_appendHex16.e (dst : (Option Addr)) (dst_len : Nat) (dst_cap : Nat) (x : Int) : fnT Tryd.prog gjson_appendHex16.h Tryd.f37 gjson_appendHex16.c [.v (Value.slice dst dst_len dst_cap), .v (Value.int IntKind.u16 x)] = gjson_appendHex16.t dst dst_len dst_cap x := by kernel_rfl
theorem gjson_appendHex16.calls (dst : (Option Addr)) (dst_len : Nat) (dst_cap : Nat) (x : Int) {w : World} {R : Ending → World → Prop} (hs : sat Tryd.prog (gjson_appendHex16.t dst dst_len dst_cap x) (fun l vs w' => l = 0 ∧ R (.returned (retVal vs)) w') w) : Calls Tryd.prog 37 #[(Value.slice dst dst_len dst_cap), (Value.int IntKind.u16 x)] w R :=
  have h := calls_of_tree (w := w) (R := R) (args := [.v (Value.slice dst dst_len dst_cap), .v (Value.int IntKind.u16 x)]) (c := gjson_appendHex16.c) Tryd.func37 (show Tryd.f37.body = some gjson_appendHex16.c by kernel_rfl) (of_decide_eq_true (by kernel_rfl)) (gjson_appendHex16.e dst dst_len dst_cap x) hs
  h

/-! ### pub-tetrapla/pub/gjson.escapeHTML : function 38 -/
def gjson_escapeHTML.t : T :=
  .leaf 0 [(Value.bool Bool.true)]
def gjson_escapeHTML.h : Hints := ⟨[], [], [], []⟩
noncomputable def gjson_escapeHTML.c : Code := (Tryd.f38.body).getD .skip
theorem gjson_escapeHTML.e : fnT Tryd.prog gjson_escapeHTML.h Tryd.f38 gjson_escapeHTML.c [] = gjson_escapeHTML.t := by kernel_rfl
theorem gjson_escapeHTML.calls {w : World} {R : Ending → World → Prop} (hs : sat Tryd.prog (gjson_escapeHTML.t) (fun l vs w' => l = 0 ∧ R (.returned (retVal vs)) w') w) : Calls Tryd.prog 38 #[] w R :=
  have h := calls_of_tree (w := w) (R := R) (args := []) (c := gjson_escapeHTML.c) Tryd.func38 (show Tryd.f38.body = some gjson_escapeHTML.c by kernel_rfl) (of_decide_eq_true (by kernel_rfl)) (gjson_escapeHTML.e) hs
  h

/-! ### unicode/utf8.DecodeRuneInString : function 39 -/
def utf8_DecodeRuneInString.t1 (s : ByteArray) (b0 : Bool) : T :=
  .ite b0 (
    .chk (((0 : Int) ≤ (0 : Int)) ∧ ((0 : Int) < (((ByteArray.size s) : Nat) : Int))) <|
    .leaf 0 [(Value.int IntKind.i32 (IntKind.wrap IntKind.i32 (bt s (0 : Int)))), (Value.int IntKind.i64 (1 : Int))]) (
    .call 54 #[(Value.string s)] (.tuple (.cons (.int .i32) (.cons (.int .i64) .nil))) fun (z1 : (Int × (Int × PUnit))) =>
    .leaf 0 [(Value.int IntKind.i32 (z1).1), (Value.int IntKind.i64 ((z1).2).1)])
def utf8_DecodeRuneInString.t (s : ByteArray) : T :=
  .cut 1 (.cons .bool .nil) (
    .ite (!(strEq s (ByteArray.mk #[]))) (
      .chk (((0 : Int) ≤ (0 : Int)) ∧ ((0 : Int) < (((ByteArray.size s) : Nat) : Int))) <|
      .leaf 1 [(Value.bool (decide ((bt s (0 : Int)) < (128 : Int))))]) (
      .leaf 1 [(Value.bool Bool.false)]))
    (fun z => utf8_DecodeRuneInString.t1 s z.1)
def utf8_DecodeRuneInString.h : Hints := ⟨[], [], [(1, [(10, .bool)])], []⟩
noncomputable def utf8_DecodeRuneInString.c : Code := (Tryd.f39.body).getD .skip
theorem utf8_DecodeRuneInString.e (s : ByteArray) : fnT Tryd.prog utf8_DecodeRuneInString.h Tryd.f39 utf8_DecodeRuneInString.c [.v (Value.string s)] = utf8_DecodeRuneInString.t s := by kernel_rfl
theorem utf8_DecodeRuneInString.calls (s : ByteArray) {w : World} {R : Ending → World → Prop} (hs : sat Tryd.prog (utf8_DecodeRuneInString.t s) (fun l vs w' => l = 0 ∧ R (.returned (retVal vs)) w') w) : Calls Tryd.prog 39 #[(Value.string s)] w R :=
  have h := calls_of_tree (w := w) (R := R) (args := [.v (Value.string s)]) (c := utf8_DecodeRuneInString.c) Tryd.func39 (show Tryd.f39.body = some utf8_DecodeRuneInString.c by kernel_rfl) (of_decide_eq_true (by kernel_rfl)) (utf8_DecodeRuneInString.e s) hs
  h

/-! ### pub-tetrapla/pub/match.match0 : function 40 -/
def match_match0.t (str : ByteArray) (pattern : ByteArray) (nocase : Bool) : T :=
  .ite (strEq pattern (ByteArray.mk #[(42 : UInt8)])) (
    .leaf 0 [(Value.bool Bool.true)]) (
    .call 55 #[(Value.string str), (Value.string pattern), (Value.int IntKind.i64 (0 : Int)), (Value.pointer none), (Value.int IntKind.i64 (-1 : Int)), (Value.bool nocase)] (.int .i64) fun (i0 : Int) =>
    .leaf 0 [(Value.bool (i0 == (1 : Int)))])
def match_match0.h : Hints := ⟨[], [], [], []⟩
noncomputable def match_match0.c : Code := (Tryd.f40.body).getD .skip
theorem match_match0.e (str : ByteArray) (pattern : ByteArray) (nocase : Bool) : fnT Tryd.prog match_match0.h Tryd.f40 match_match0.c [.v (Value.string str), .v (Value.string pattern), .v (Value.bool nocase)] = match_match0.t str pattern nocase := by kernel_rfl
theorem match_match0.calls (str : ByteArray) (pattern : ByteArray) (nocase : Bool) {w : World} {R : Ending → World → Prop} (hs : sat Tryd.prog (match_match0.t str pattern nocase) (fun l vs w' => l = 0 ∧ R (.returned (retVal vs)) w') w) : Calls Tryd.prog 40 #[(Value.string str), (Value.string pattern), (Value.bool nocase)] w R :=
  have h := calls_of_tree (w := w) (R := R) (args := [.v (Value.string str), .v (Value.string pattern), .v (Value.bool nocase)]) (c := match_match0.c) Tryd.func40 (show Tryd.f40.body = some match_match0.c by kernel_rfl) (of_decide_eq_true (by kernel_rfl)) (match_match0.e str pattern nocase) hs
  h

/-! ### pub-tetrapla/pub/jsonparser.Unescape : function 41 -/
def jsonparser_Unescape.t (in0 : (Option Addr)) (in0_len : Nat) (in0_cap : Nat) (out : (Option Addr)) (out_len : Nat) (out_cap : Nat) : T :=
  .eff (Instr.loadAt 96 (Value.pointer (some (Addr.mk 11 0 Option.none)))) (.agg (.cons .bool (.cons .bool (.cons (.int .i64) .nil)))) fun (z0 : (Bool × (Bool × (Int × PUnit)))) =>
  .call 56 #[(Value.agg #[(Value.bool (z0).1), (Value.bool ((z0).2).1), (Value.int IntKind.i64 (((z0).2).2).1)]), (Value.slice in0 in0_len in0_cap), (Value.slice out out_len out_cap)] (.tuple (.cons .slice (.cons .any .nil))) fun (z1 : (((Option Addr) × (Nat × Nat)) × (Value × PUnit))) =>
  .leaf 0 [(Value.slice ((z1).1).1 (((z1).1).2).1 (((z1).1).2).2), ((z1).2).1]
def jsonparser_Unescape.h : Hints := ⟨[], [], [], []⟩
noncomputable def jsonparser_Unescape.c : Code := (Tryd.f41.body).getD .skip
theorem jsonparser_Unescape.e (in0 : (Option Addr)) (in0_len : Nat) (in0_cap : Nat) (out : (Option Addr)) (out_len : Nat) (out_cap : Nat) : fnT Tryd.prog jsonparser_Unescape.h Tryd.f41 jsonparser_Unescape.c [.v (Value.slice in0 in0_len in0_cap), .v (Value.slice out out_len out_cap)] = jsonparser_Unescape.t in0 in0_len in0_cap out out_len out_cap := by kernel_rfl
theorem jsonparser_Unescape.calls (in0 : (Option Addr)) (in0_len : Nat) (in0_cap : Nat) (out : (Option Addr)) (out_len : Nat) (out_cap : Nat) {w : World} {R : Ending → World → Prop} (hs : sat Tryd.prog (jsonparser_Unescape.t in0 in0_len in0_cap out out_len out_cap) (fun l vs w' => l = 0 ∧ R (.returned (retVal vs)) w') w) : Calls Tryd.prog 41 #[(Value.slice in0 in0_len in0_cap), (Value.slice out out_len out_cap)] w R :=
  have h := calls_of_tree (w := w) (R := R) (args := [.v (Value.slice in0 in0_len in0_cap), .v (Value.slice out out_len out_cap)]) (c := jsonparser_Unescape.c) Tryd.func41 (show Tryd.f41.body = some jsonparser_Unescape.c by kernel_rfl) (of_decide_eq_true (by kernel_rfl)) (jsonparser_Unescape.e in0 in0_len in0_cap out out_len out_cap) hs
  h

/-! ### (*pub-tetrapla/spec.reader).here : function 42 -/
def spec_reader_here.t (r : (Option Addr)) : T :=
  .drew <|
  .ptr r fun (z0 : Addr) =>
  .load (Addr.add z0 1) (.int .i64) fun (i1 : Int) =>
  .ptr r fun (z2 : Addr) =>
  .load (Addr.add z2 0) .str fun (s3 : ByteArray) =>
  .ite (decide (i1 < (((ByteArray.size s3) : Nat) : Int))) (
    .drew <|
    .ptr r fun (z4 : Addr) =>
    .load (Addr.add z4 0) .str fun (s5 : ByteArray) =>
    .ptr r fun (z6 : Addr) =>
    .load (Addr.add z6 1) (.int .i64) fun (i7 : Int) =>
    .chk (((0 : Int) ≤ i7) ∧ (i7 < (((ByteArray.size s5) : Nat) : Int))) <|
    .leaf 0 [(Value.int IntKind.u8 (bt s5 i7))]) (
    .leaf 0 [(Value.int IntKind.u8 (0 : Int))])
def spec_reader_here.h : Hints := ⟨[], [], [], []⟩
noncomputable def spec_reader_here.c : Code := (Tryd.f42.body).getD .skip
theorem spec_reader_here.e (r : (Option Addr)) : fnT Tryd.prog spec_reader_here.h Tryd.f42 spec_reader_here.c [.v (Value.pointer r)] = spec_reader_here.t r := by kernel_rfl
theorem spec_reader_here.calls (r : (Option Addr)) {w : World} {R : Ending → World → Prop} (hs : sat Tryd.prog (spec_reader_here.t r) (fun l vs w' => l = 0 ∧ R (.returned (retVal vs)) w') w) : Calls Tryd.prog 42 #[(Value.pointer r)] w R :=
  have h := calls_of_tree (w := w) (R := R) (args := [.v (Value.pointer r)]) (c := spec_reader_here.c) Tryd.func42 (show Tryd.f42.body = some spec_reader_here.c by kernel_rfl) (of_decide_eq_true (by kernel_rfl)) (spec_reader_here.e r) hs
  h

/-! ### pub-tetrapla/spec.hexDigit : function 43 -/
def spec_hexDigit.t2 (c0 : Int) (b1 : Bool) : T :=
  .ite b1 (
    .leaf 0 [(Value.int IntKind.i64 (IntKind.wrap IntKind.i64 ((IntKind.wrap IntKind.i64 (IntKind.wrap IntKind.u8 (c0 - (97 : Int)))) + (10 : Int)))), (Value.bool Bool.true)]) (
    .ite (decide ((65 : Int) ≤ c0)) (
      .ite (decide (c0 ≤ (70 : Int))) (
        .leaf 0 [(Value.int IntKind.i64 (IntKind.wrap IntKind.i64 ((IntKind.wrap IntKind.i64 (IntKind.wrap IntKind.u8 (c0 - (65 : Int)))) + (10 : Int)))), (Value.bool Bool.true)]) (
        .leaf 0 [(Value.int IntKind.i64 (0 : Int)), (Value.bool Bool.false)])) (
      .leaf 0 [(Value.int IntKind.i64 (0 : Int)), (Value.bool Bool.false)]))
def spec_hexDigit.t1 (c0 : Int) (b0 : Bool) : T :=
  .ite b0 (
    .leaf 0 [(Value.int IntKind.i64 (IntKind.wrap IntKind.i64 (IntKind.wrap IntKind.u8 (c0 - (48 : Int))))), (Value.bool Bool.true)]) (
    .cut 1 (.cons .bool .nil) (
      .ite (decide ((97 : Int) ≤ c0)) (
        .leaf 1 [(Value.bool (decide (c0 ≤ (102 : Int))))]) (
        .leaf 1 [(Value.bool Bool.false)]))
      (fun z => spec_hexDigit.t2 c0 z.1))
def spec_hexDigit.t (c0 : Int) : T :=
  .cut 1 (.cons .bool .nil) (
    .ite (decide ((48 : Int) ≤ c0)) (
      .leaf 1 [(Value.bool (decide (c0 ≤ (57 : Int))))]) (
      .leaf 1 [(Value.bool Bool.false)]))
    (fun z => spec_hexDigit.t1 c0 z.1)
def spec_hexDigit.h : Hints := ⟨[], [], [(1, [(4, .bool)]), (3, [(14, .bool)])], []⟩
noncomputable def spec_hexDigit.c : Code := (Tryd.f43.body).getD .skip
theorem spec_hexDigit.e (c0 : Int) : fnT Tryd.prog spec_hexDigit.h Tryd.f43 spec_hexDigit.c [.v (Value.int IntKind.u8 c0)] = spec_hexDigit.t c0 := by kernel_rfl
theorem spec_hexDigit.calls (c0 : Int) {w : World} {R : Ending → World → Prop} (hs : sat Tryd.prog (spec_hexDigit.t c0) (fun l vs w' => l = 0 ∧ R (.returned (retVal vs)) w') w) : Calls Tryd.prog 43 #[(Value.int IntKind.u8 c0)] w R :=
  have h := calls_of_tree (w := w) (R := R) (args := [.v (Value.int IntKind.u8 c0)]) (c := spec_hexDigit.c) Tryd.func43 (show Tryd.f43.body = some spec_hexDigit.c by kernel_rfl) (of_decide_eq_true (by kernel_rfl)) (spec_hexDigit.e c0) hs
  h

/-! ### pub-tetrapla/spec.unit : function 44 -/
def spec_unit.t2 (s : ByteArray) (at1 : Int) (i1 : Int) (i2 : Int) : T :=
  .ite (decide (i1 < (IntKind.wrap IntKind.i64 (at1 + (6 : Int))))) (
    .chk (((0 : Int) ≤ i1) ∧ (i1 < (((ByteArray.size s) : Nat) : Int))) <|
    .call 43 #[(Value.int IntKind.u8 (bt s i1))] (.tuple (.cons (.int .i64) (.cons .bool .nil))) fun (z3 : (Int × (Bool × PUnit))) =>
    .ite (!((z3).2).1) (
      .leaf 0 [(Value.int IntKind.i64 (0 : Int)), (Value.bool Bool.false)]) (
      .leaf 1 [(Value.int IntKind.i64 (IntKind.wrap IntKind.i64 (i1 + (1 : Int)))), (Value.int IntKind.i64 (IntKind.wrap IntKind.i64 ((IntKind.wrap IntKind.i64 (i2 * (16 : Int))) + (z3).1)))])) (
    .leaf 0 [(Value.int IntKind.i64 i2), (Value.bool Bool.true)])
def spec_unit.t1 (s : ByteArray) (at1 : Int) (b0 : Bool) : T :=
  .ite b0 (
    .leaf 0 [(Value.int IntKind.i64 (0 : Int)), (Value.bool Bool.false)]) (
    .loop 1 (.cons (.int .i64) (.cons (.int .i64) .nil)) [(Value.int IntKind.i64 (IntKind.wrap IntKind.i64 (at1 + (2 : Int)))), (Value.int IntKind.i64 (0 : Int))]
      (fun z => spec_unit.t2 s at1 z.1 z.2.1))
def spec_unit.t (s : ByteArray) (at1 : Int) : T :=
  .cut 1 (.cons .bool .nil) (
    .ite (decide ((IntKind.wrap IntKind.i64 ((((ByteArray.size s) : Nat) : Int) - at1)) < (6 : Int))) (
      .leaf 1 [(Value.bool Bool.true)]) (
      .chk (((0 : Int) ≤ at1) ∧ (at1 < (((ByteArray.size s) : Nat) : Int))) <|
      .ite ((bt s at1) != (92 : Int)) (
        .leaf 1 [(Value.bool Bool.true)]) (
        .chk (((0 : Int) ≤ (IntKind.wrap IntKind.i64 (at1 + (1 : Int)))) ∧ ((IntKind.wrap IntKind.i64 (at1 + (1 : Int))) < (((ByteArray.size s) : Nat) : Int))) <|
        .leaf 1 [(Value.bool ((bt s (IntKind.wrap IntKind.i64 (at1 + (1 : Int)))) != (117 : Int)))])))
    (fun z => spec_unit.t1 s at1 z.1)
def spec_unit.h : Hints := ⟨[], [], [(1, [(27, .bool)])], [(5, [(7, (.int .i64)), (6, (.int .i64))])]⟩
noncomputable def spec_unit.c : Code := (Tryd.f44.body).getD .skip
theorem spec_unit.e (s : ByteArray) (at1 : Int) : fnT Tryd.prog spec_unit.h Tryd.f44 spec_unit.c [.v (Value.string s), .v (Value.int IntKind.i64 at1)] = spec_unit.t s at1 := by kernel_rfl
theorem spec_unit.calls (s : ByteArray) (at1 : Int) {w : World} {R : Ending → World → Prop} (hs : sat Tryd.prog (spec_unit.t s at1) (fun l vs w' => l = 0 ∧ R (.returned (retVal vs)) w') w) : Calls Tryd.prog 44 #[(Value.string s), (Value.int IntKind.i64 at1)] w R :=
  have h := calls_of_tree (w := w) (R := R) (args := [.v (Value.string s), .v (Value.int IntKind.i64 at1)]) (c := spec_unit.c) Tryd.func44 (show Tryd.f44.body = some spec_unit.c by kernel_rfl) (of_decide_eq_true (by kernel_rfl)) (spec_unit.e s at1) hs
  h

/-! ### pub-tetrapla/spec.short : function 45 -/
def spec_short.t (c0 : Int) : T :=
  .ite (c0 == (98 : Int)) (
    .leaf 0 [(Value.int IntKind.u8 (8 : Int))]) (
    .ite (c0 == (102 : Int)) (
      .leaf 0 [(Value.int IntKind.u8 (12 : Int))]) (
      .ite (c0 == (110 : Int)) (
        .leaf 0 [(Value.int IntKind.u8 (10 : Int))]) (
        .ite (c0 == (114 : Int)) (
          .leaf 0 [(Value.int IntKind.u8 (13 : Int))]) (
          .ite (c0 == (116 : Int)) (
            .leaf 0 [(Value.int IntKind.u8 (9 : Int))]) (
            .leaf 0 [(Value.int IntKind.u8 c0)])))))
def spec_short.h : Hints := ⟨[], [], [], []⟩
noncomputable def spec_short.c : Code := (Tryd.f45.body).getD .skip
theorem spec_short.e (c0 : Int) : fnT Tryd.prog spec_short.h Tryd.f45 spec_short.c [.v (Value.int IntKind.u8 c0)] = spec_short.t c0 := by kernel_rfl
theorem spec_short.calls (c0 : Int) {w : World} {R : Ending → World → Prop} (hs : sat Tryd.prog (spec_short.t c0) (fun l vs w' => l = 0 ∧ R (.returned (retVal vs)) w') w) : Calls Tryd.prog 45 #[(Value.int IntKind.u8 c0)] w R :=
  have h := calls_of_tree (w := w) (R := R) (args := [.v (Value.int IntKind.u8 c0)]) (c := spec_short.c) Tryd.func45 (show Tryd.f45.body = some spec_short.c by kernel_rfl) (of_decide_eq_true (by kernel_rfl)) (spec_short.e c0) hs
  h

/-! ### pub-tetrapla/spec.appendUTF8 : function 46 -/
def spec_appendUTF8.t1 (q0 : (Option Addr)) (q0_len : Nat) (q0_cap : Nat) (q1 : Int) (b6 : Bool) : T :=
  .ite b6 (
    .eff (Instr.buildSlice 43 3 #[(0, (Value.int IntKind.u8 (239 : Int))), (1, (Value.int IntKind.u8 (191 : Int))), (2, (Value.int IntKind.u8 (189 : Int)))]) .slice fun (z7 : ((Option Addr) × (Nat × Nat))) =>
    .eff (Builtin.append_ (Call.argTypes (Call.mk (Callee.builtin Builtin.append) #[(Operand.tmp 34), (Operand.tmp 35)] #[43, 43])) 43 #[(Value.slice q0 q0_len q0_cap), (Value.slice (z7).1 ((z7).2).1 ((z7).2).2)]) .slice fun (z8 : ((Option Addr) × (Nat × Nat))) =>
    .leaf 0 [(Value.slice (z8).1 ((z8).2).1 ((z8).2).2)]) (
    .ite (decide (q1 < (65536 : Int))) (
      .chk ((4096 : Int) ≠ (0 : Int)) <|
      .chk ((64 : Int) ≠ (0 : Int)) <|
      .chk ((64 : Int) ≠ (0 : Int)) <|
      .chk ((64 : Int) ≠ (0 : Int)) <|
      .eff (Instr.buildSlice 43 3 #[(0, (Value.int IntKind.u8 (IntKind.wrap IntKind.u8 (IntKind.wrap IntKind.i64 ((224 : Int) + (IntKind.wrap IntKind.i64 (Int.tdiv q1 (4096 : Int)))))))), (1, (Value.int IntKind.u8 (IntKind.wrap IntKind.u8 (IntKind.wrap IntKind.i64 ((128 : Int) + (Int.tmod (IntKind.wrap IntKind.i64 (Int.tdiv q1 (64 : Int))) (64 : Int))))))), (2, (Value.int IntKind.u8 (IntKind.wrap IntKind.u8 (IntKind.wrap IntKind.i64 ((128 : Int) + (Int.tmod q1 (64 : Int)))))))]) .slice fun (z9 : ((Option Addr) × (Nat × Nat))) =>
      .eff (Builtin.append_ (Call.argTypes (Call.mk (Callee.builtin Builtin.append) #[(Operand.tmp 40), (Operand.tmp 54)] #[43, 43])) 43 #[(Value.slice q0 q0_len q0_cap), (Value.slice (z9).1 ((z9).2).1 ((z9).2).2)]) .slice fun (z10 : ((Option Addr) × (Nat × Nat))) =>
      .leaf 0 [(Value.slice (z10).1 ((z10).2).1 ((z10).2).2)]) (
      .chk ((262144 : Int) ≠ (0 : Int)) <|
      .chk ((4096 : Int) ≠ (0 : Int)) <|
      .chk ((64 : Int) ≠ (0 : Int)) <|
      .chk ((64 : Int) ≠ (0 : Int)) <|
      .chk ((64 : Int) ≠ (0 : Int)) <|
      .chk ((64 : Int) ≠ (0 : Int)) <|
      .eff (Instr.buildSlice 43 4 #[(0, (Value.int IntKind.u8 (IntKind.wrap IntKind.u8 (IntKind.wrap IntKind.i64 ((240 : Int) + (IntKind.wrap IntKind.i64 (Int.tdiv q1 (262144 : Int)))))))), (1, (Value.int IntKind.u8 (IntKind.wrap IntKind.u8 (IntKind.wrap IntKind.i64 ((128 : Int) + (Int.tmod (IntKind.wrap IntKind.i64 (Int.tdiv q1 (4096 : Int))) (64 : Int))))))), (2, (Value.int IntKind.u8 (IntKind.wrap IntKind.u8 (IntKind.wrap IntKind.i64 ((128 : Int) + (Int.tmod (IntKind.wrap IntKind.i64 (Int.tdiv q1 (64 : Int))) (64 : Int))))))), (3, (Value.int IntKind.u8 (IntKind.wrap IntKind.u8 (IntKind.wrap IntKind.i64 ((128 : Int) + (Int.tmod q1 (64 : Int)))))))]) .slice fun (z11 : ((Option Addr) × (Nat × Nat))) =>
      .eff (Builtin.append_ (Call.argTypes (Call.mk (Callee.builtin Builtin.append) #[(Operand.tmp 56), (Operand.tmp 75)] #[43, 43])) 43 #[(Value.slice q0 q0_len q0_cap), (Value.slice (z11).1 ((z11).2).1 ((z11).2).2)]) .slice fun (z12 : ((Option Addr) × (Nat × Nat))) =>
      .leaf 0 [(Value.slice (z12).1 ((z12).2).1 ((z12).2).2)]))
def spec_appendUTF8.t (q0 : (Option Addr)) (q0_len : Nat) (q0_cap : Nat) (q1 : Int) : T :=
  .ite (decide (q1 < (128 : Int))) (
    .eff (Instr.buildSlice 43 1 #[(0, (Value.int IntKind.u8 (IntKind.wrap IntKind.u8 q1)))]) .slice fun (z0 : ((Option Addr) × (Nat × Nat))) =>
    .eff (Builtin.append_ (Call.argTypes (Call.mk (Callee.builtin Builtin.append) #[(Operand.tmp 8), (Operand.tmp 11)] #[43, 43])) 43 #[(Value.slice q0 q0_len q0_cap), (Value.slice (z0).1 ((z0).2).1 ((z0).2).2)]) .slice fun (z1 : ((Option Addr) × (Nat × Nat))) =>
    .leaf 0 [(Value.slice (z1).1 ((z1).2).1 ((z1).2).2)]) (
    .ite (decide (q1 < (2048 : Int))) (
      .chk ((64 : Int) ≠ (0 : Int)) <|
      .chk ((64 : Int) ≠ (0 : Int)) <|
      .eff (Instr.buildSlice 43 2 #[(0, (Value.int IntKind.u8 (IntKind.wrap IntKind.u8 (IntKind.wrap IntKind.i64 ((192 : Int) + (IntKind.wrap IntKind.i64 (Int.tdiv q1 (64 : Int)))))))), (1, (Value.int IntKind.u8 (IntKind.wrap IntKind.u8 (IntKind.wrap IntKind.i64 ((128 : Int) + (Int.tmod q1 (64 : Int)))))))]) .slice fun (z2 : ((Option Addr) × (Nat × Nat))) =>
      .eff (Builtin.append_ (Call.argTypes (Call.mk (Callee.builtin Builtin.append) #[(Operand.tmp 16), (Operand.tmp 25)] #[43, 43])) 43 #[(Value.slice q0 q0_len q0_cap), (Value.slice (z2).1 ((z2).2).1 ((z2).2).2)]) .slice fun (z3 : ((Option Addr) × (Nat × Nat))) =>
      .leaf 0 [(Value.slice (z3).1 ((z3).2).1 ((z3).2).2)]) (
      .cut 1 (.cons .bool .nil) (
        .call 33 #[(Value.int IntKind.i64 q1)] .bool fun (b4 : Bool) =>
        .ite b4 (
          .leaf 1 [(Value.bool Bool.true)]) (
          .call 34 #[(Value.int IntKind.i64 q1)] .bool fun (b5 : Bool) =>
          .leaf 1 [(Value.bool b5)]))
        (fun z => spec_appendUTF8.t1 q0 q0_len q0_cap q1 z.1)))
def spec_appendUTF8.h : Hints := ⟨[], [], [(5, [(27, .bool)])], []⟩
noncomputable def spec_appendUTF8.c : Code := (Tryd.f46.body).getD .skip
theorem spec_appendUTF8.e (q0 : (Option Addr)) (q0_len : Nat) (q0_cap : Nat) (q1 : Int) : fnT Tryd.prog spec_appendUTF8.h Tryd.f46 spec_appendUTF8.c [.v (Value.slice q0 q0_len q0_cap), .v (Value.int IntKind.i64 q1)] = spec_appendUTF8.t q0 q0_len q0_cap q1 := by kernel_rfl
theorem spec_appendUTF8.calls (q0 : (Option Addr)) (q0_len : Nat) (q0_cap : Nat) (q1 : Int) {w : World} {R : Ending → World → Prop} (hs : sat Tryd.prog (spec_appendUTF8.t q0 q0_len q0_cap q1) (fun l vs w' => l = 0 ∧ R (.returned (retVal vs)) w') w) : Calls Tryd.prog 46 #[(Value.slice q0 q0_len q0_cap), (Value.int IntKind.i64 q1)] w R :=
  have h := calls_of_tree (w := w) (R := R) (args := [.v (Value.slice q0 q0_len q0_cap), .v (Value.int IntKind.i64 q1)]) (c := spec_appendUTF8.c) Tryd.func46 (show Tryd.f46.body = some spec_appendUTF8.c by kernel_rfl) (of_decide_eq_true (by kernel_rfl)) (spec_appendUTF8.e q0 q0_len q0_cap q1) hs
  h

/-! ### pub-tetrapla/pub/match.matchLimit0 : function 47 -/
def match_matchLimit0.t (str : ByteArray) (pattern : ByteArray) (maxcomp : Int) (nocase : Bool) : T :=
  .ite (strEq pattern (ByteArray.mk #[(42 : UInt8)])) (
    .leaf 0 [(Value.bool Bool.true), (Value.bool Bool.false)]) (
    .alloc (Obj.cells #[(Value.int IntKind.i64 (0 : Int))] 3 (0, 0)) fun (z0 : Addr) =>
    .store z0 (Value.int IntKind.i64 (0 : Int)) <|
    .call 55 #[(Value.string str), (Value.string pattern), (Value.int IntKind.i64 (((ByteArray.size str) : Nat) : Int)), (Value.pointer (some z0)), (Value.int IntKind.i64 maxcomp), (Value.bool nocase)] (.int .i64) fun (i1 : Int) =>
    .ite (i1 == (2 : Int)) (
      .leaf 0 [(Value.bool Bool.false), (Value.bool Bool.true)]) (
      .leaf 0 [(Value.bool (i1 == (1 : Int))), (Value.bool Bool.false)]))
def match_matchLimit0.h : Hints := ⟨[], [], [], []⟩
noncomputable def match_matchLimit0.c : Code := (Tryd.f47.body).getD .skip
theorem match_matchLimit0.e (str : ByteArray) (pattern : ByteArray) (maxcomp : Int) (nocase : Bool) : fnT Tryd.prog match_matchLimit0.h Tryd.f47 match_matchLimit0.c [.v (Value.string str), .v (Value.string pattern), .v (Value.int IntKind.i64 maxcomp), .v (Value.bool nocase)] = match_matchLimit0.t str pattern maxcomp nocase := by kernel_rfl
theorem match_matchLimit0.calls (str : ByteArray) (pattern : ByteArray) (maxcomp : Int) (nocase : Bool) {w : World} {R : Ending → World → Prop} (hs : sat Tryd.prog (match_matchLimit0.t str pattern maxcomp nocase) (fun l vs w' => l = 0 ∧ R (.returned (retVal vs)) w') w) : Calls Tryd.prog 47 #[(Value.string str), (Value.string pattern), (Value.int IntKind.i64 maxcomp), (Value.bool nocase)] w R :=
  have h := calls_of_tree (w := w) (R := R) (args := [.v (Value.string str), .v (Value.string pattern), .v (Value.int IntKind.i64 maxcomp), .v (Value.bool nocase)]) (c := match_matchLimit0.c) Tryd.func47 (show Tryd.f47.body = some match_matchLimit0.c by kernel_rfl) (of_decide_eq_true (by kernel_rfl)) (match_matchLimit0.e str pattern maxcomp nocase) hs
  h

/-! ### pub-tetrapla/spec.Blank : function 48 -/
def spec_Blank.t (c0 : Int) : T :=
  .ite (c0 == (32 : Int)) (
    .leaf 0 [(Value.bool Bool.true)]) (
    .ite (c0 == (9 : Int)) (
      .leaf 0 [(Value.bool Bool.true)]) (
      .ite (c0 == (10 : Int)) (
        .leaf 0 [(Value.bool Bool.true)]) (
        .leaf 0 [(Value.bool (c0 == (13 : Int)))])))
def spec_Blank.h : Hints := ⟨[], [], [], []⟩
noncomputable def spec_Blank.c : Code := (Tryd.f48.body).getD .skip
theorem spec_Blank.e (c0 : Int) : fnT Tryd.prog spec_Blank.h Tryd.f48 spec_Blank.c [.v (Value.int IntKind.u8 c0)] = spec_Blank.t c0 := by kernel_rfl
theorem spec_Blank.calls (c0 : Int) {w : World} {R : Ending → World → Prop} (hs : sat Tryd.prog (spec_Blank.t c0) (fun l vs w' => l = 0 ∧ R (.returned (retVal vs)) w') w) : Calls Tryd.prog 48 #[(Value.int IntKind.u8 c0)] w R :=
  have h := calls_of_tree (w := w) (R := R) (args := [.v (Value.int IntKind.u8 c0)]) (c := spec_Blank.c) Tryd.func48 (show Tryd.f48.body = some spec_Blank.c by kernel_rfl) (of_decide_eq_true (by kernel_rfl)) (spec_Blank.e c0) hs
  h

/-! ### (*pub-tetrapla/spec.reader).quoted : function 51 -/
def spec_reader_quoted.t1 (r : (Option Addr)) : T :=
  .drew <|
  .ptr r fun (z3 : Addr) =>
  .load (Addr.add z3 1) (.int .i64) fun (i4 : Int) =>
  .ptr r fun (z5 : Addr) =>
  .load (Addr.add z5 0) .str fun (s6 : ByteArray) =>
  .ite (decide (i4 < (((ByteArray.size s6) : Nat) : Int))) (
    .drew <|
    .ptr r fun (z7 : Addr) =>
    .load (Addr.add z7 0) .str fun (s8 : ByteArray) =>
    .ptr r fun (z9 : Addr) =>
    .load (Addr.add z9 1) (.int .i64) fun (i10 : Int) =>
    .chk (((0 : Int) ≤ i10) ∧ (i10 < (((ByteArray.size s8) : Nat) : Int))) <|
    .ptr r fun (z11 : Addr) =>
    .load (Addr.add z11 1) (.int .i64) fun (i12 : Int) =>
    .ptr r fun (z13 : Addr) =>
    .store (Addr.add z13 1) (Value.int IntKind.i64 (IntKind.wrap IntKind.i64 (i12 + (1 : Int)))) <|
    .ite ((bt s8 i10) == (34 : Int)) (
      .leaf 0 [(Value.bool Bool.true)]) (
      .ite (decide ((bt s8 i10) < (32 : Int))) (
        .leaf 0 [(Value.bool Bool.false)]) (
        .ite ((bt s8 i10) == (92 : Int)) (
          .call 28 #[(Value.pointer r)] .bool fun (b14 : Bool) =>
          .ite (!b14) (
            .leaf 0 [(Value.bool Bool.false)]) (
            .leaf 1 [])) (
          .leaf 1 [])))) (
    .leaf 0 [(Value.bool Bool.false)])
def spec_reader_quoted.t (r : (Option Addr)) : T :=
  .ptr r fun (z0 : Addr) =>
  .load (Addr.add z0 1) (.int .i64) fun (i1 : Int) =>
  .ptr r fun (z2 : Addr) =>
  .store (Addr.add z2 1) (Value.int IntKind.i64 (IntKind.wrap IntKind.i64 (i1 + (1 : Int)))) <|
  .loop 1 .nil []
    (fun _ => spec_reader_quoted.t1 r)
def spec_reader_quoted.h : Hints := ⟨[], [], [], [(2, [])]⟩
noncomputable def spec_reader_quoted.c : Code := (Tryd.f51.body).getD .skip
theorem spec_reader_quoted.e (r : (Option Addr)) : fnT Tryd.prog spec_reader_quoted.h Tryd.f51 spec_reader_quoted.c [.v (Value.pointer r)] = spec_reader_quoted.t r := by kernel_rfl
theorem spec_reader_quoted.calls (r : (Option Addr)) {w : World} {R : Ending → World → Prop} (hs : sat Tryd.prog (spec_reader_quoted.t r) (fun l vs w' => l = 0 ∧ R (.returned (retVal vs)) w') w) : Calls Tryd.prog 51 #[(Value.pointer r)] w R :=
  have h := calls_of_tree (w := w) (R := R) (args := [.v (Value.pointer r)]) (c := spec_reader_quoted.c) Tryd.func51 (show Tryd.f51.body = some spec_reader_quoted.c by kernel_rfl) (of_decide_eq_true (by kernel_rfl)) (spec_reader_quoted.e r) hs
  h

/-! ### (*pub-tetrapla/spec.reader).number : function 52 -/
def spec_reader_number.t2 (r : (Option Addr)) (b6 : Bool) : T :=
  .ite b6 (
    .leaf 0 [(Value.bool Bool.false)]) (
    .call 57 #[(Value.pointer r), (Value.int IntKind.u8 (101 : Int))] .bool fun (b7 : Bool) =>
    .ite b7 (
      .call 57 #[(Value.pointer r), (Value.int IntKind.u8 (43 : Int))] .bool fun (b8 : Bool) =>
      .ite (!b8) (
        .call 57 #[(Value.pointer r), (Value.int IntKind.u8 (45 : Int))] .bool fun (b9 : Bool) =>
        .call 58 #[(Value.pointer r)] .bool fun (b10 : Bool) =>
        .leaf 0 [(Value.bool b10)]) (
        .call 58 #[(Value.pointer r)] .bool fun (b11 : Bool) =>
        .leaf 0 [(Value.bool b11)])) (
      .call 57 #[(Value.pointer r), (Value.int IntKind.u8 (69 : Int))] .bool fun (b12 : Bool) =>
      .ite b12 (
        .call 57 #[(Value.pointer r), (Value.int IntKind.u8 (43 : Int))] .bool fun (b13 : Bool) =>
        .ite (!b13) (
          .call 57 #[(Value.pointer r), (Value.int IntKind.u8 (45 : Int))] .bool fun (b14 : Bool) =>
          .call 58 #[(Value.pointer r)] .bool fun (b15 : Bool) =>
          .leaf 0 [(Value.bool b15)]) (
          .call 58 #[(Value.pointer r)] .bool fun (b16 : Bool) =>
          .leaf 0 [(Value.bool b16)])) (
        .leaf 0 [(Value.bool Bool.true)])))
def spec_reader_number.t1 (r : (Option Addr)) (b3 : Bool) : T :=
  .ite b3 (
    .leaf 0 [(Value.bool Bool.false)]) (
    .cut 1 (.cons .bool .nil) (
      .call 57 #[(Value.pointer r), (Value.int IntKind.u8 (46 : Int))] .bool fun (b4 : Bool) =>
      .ite b4 (
        .call 58 #[(Value.pointer r)] .bool fun (b5 : Bool) =>
        .leaf 1 [(Value.bool (!b5))]) (
        .leaf 1 [(Value.bool Bool.false)]))
      (fun z => spec_reader_number.t2 r z.1))
def spec_reader_number.t (r : (Option Addr)) : T :=
  .call 57 #[(Value.pointer r), (Value.int IntKind.u8 (45 : Int))] .bool fun (b0 : Bool) =>
  .cut 1 (.cons .bool .nil) (
    .call 57 #[(Value.pointer r), (Value.int IntKind.u8 (48 : Int))] .bool fun (b1 : Bool) =>
    .ite (!b1) (
      .call 58 #[(Value.pointer r)] .bool fun (b2 : Bool) =>
      .leaf 1 [(Value.bool (!b2))]) (
      .leaf 1 [(Value.bool Bool.false)]))
    (fun z => spec_reader_number.t1 r z.1)
def spec_reader_number.h : Hints := ⟨[], [], [(2, [(12, .bool)]), (4, [(19, .bool)])], []⟩
noncomputable def spec_reader_number.c : Code := (Tryd.f52.body).getD .skip
theorem spec_reader_number.e (r : (Option Addr)) : fnT Tryd.prog spec_reader_number.h Tryd.f52 spec_reader_number.c [.v (Value.pointer r)] = spec_reader_number.t r := by kernel_rfl
theorem spec_reader_number.calls (r : (Option Addr)) {w : World} {R : Ending → World → Prop} (hs : sat Tryd.prog (spec_reader_number.t r) (fun l vs w' => l = 0 ∧ R (.returned (retVal vs)) w') w) : Calls Tryd.prog 52 #[(Value.pointer r)] w R :=
  have h := calls_of_tree (w := w) (R := R) (args := [.v (Value.pointer r)]) (c := spec_reader_number.c) Tryd.func52 (show Tryd.f52.body = some spec_reader_number.c by kernel_rfl) (of_decide_eq_true (by kernel_rfl)) (spec_reader_number.e r) hs
  h

/-! ### (*pub-tetrapla/spec.reader).word : function 53 -/
def spec_reader_word.t1 (r : (Option Addr)) (w1 : ByteArray) (b10 : Bool) : T :=
  .ite b10 (
    .leaf 0 [(Value.bool Bool.false)]) (
    .ptr r fun (z11 : Addr) =>
    .load (Addr.add z11 1) (.int .i64) fun (i12 : Int) =>
    .ptr r fun (z13 : Addr) =>
    .store (Addr.add z13 1) (Value.int IntKind.i64 (IntKind.wrap IntKind.i64 (i12 + (((ByteArray.size w1) : Nat) : Int)))) <|
    .leaf 0 [(Value.bool Bool.true)])
def spec_reader_word.t (r : (Option Addr)) (w1 : ByteArray) : T :=
  .cut 1 (.cons .bool .nil) (
    .drew <|
    .ptr r fun (z0 : Addr) =>
    .load (Addr.add z0 0) .str fun (s1 : ByteArray) =>
    .ptr r fun (z2 : Addr) =>
    .load (Addr.add z2 1) (.int .i64) fun (i3 : Int) =>
    .ite (decide ((IntKind.wrap IntKind.i64 ((((ByteArray.size s1) : Nat) : Int) - i3)) < (((ByteArray.size w1) : Nat) : Int))) (
      .leaf 1 [(Value.bool Bool.true)]) (
      .ptr r fun (z4 : Addr) =>
      .load (Addr.add z4 0) .str fun (s5 : ByteArray) =>
      .ptr r fun (z6 : Addr) =>
      .load (Addr.add z6 1) (.int .i64) fun (i7 : Int) =>
      .ptr r fun (z8 : Addr) =>
      .load (Addr.add z8 1) (.int .i64) fun (i9 : Int) =>
      .chk (((0 : Int) ≤ i7) ∧ ((i7 ≤ (IntKind.wrap IntKind.i64 (i9 + (((ByteArray.size w1) : Nat) : Int)))) ∧ ((IntKind.wrap IntKind.i64 (i9 + (((ByteArray.size w1) : Nat) : Int))) ≤ (((ByteArray.size s5) : Nat) : Int)))) <|
      .leaf 1 [(Value.bool (!(strEq (ByteArray.extract s5 (Int.toNat i7) (Int.toNat (IntKind.wrap IntKind.i64 (i9 + (((ByteArray.size w1) : Nat) : Int))))) w1)))]))
    (fun z => spec_reader_word.t1 r w1 z.1)
def spec_reader_word.h : Hints := ⟨[], [], [(1, [(37, .bool)])], []⟩
noncomputable def spec_reader_word.c : Code := (Tryd.f53.body).getD .skip
theorem spec_reader_word.e (r : (Option Addr)) (w1 : ByteArray) : fnT Tryd.prog spec_reader_word.h Tryd.f53 spec_reader_word.c [.v (Value.pointer r), .v (Value.string w1)] = spec_reader_word.t r w1 := by kernel_rfl
theorem spec_reader_word.calls (r : (Option Addr)) (w1 : ByteArray) {w : World} {R : Ending → World → Prop} (hs : sat Tryd.prog (spec_reader_word.t r w1) (fun l vs w' => l = 0 ∧ R (.returned (retVal vs)) w') w) : Calls Tryd.prog 53 #[(Value.pointer r), (Value.string w1)] w R :=
  have h := calls_of_tree (w := w) (R := R) (args := [.v (Value.pointer r), .v (Value.string w1)]) (c := spec_reader_word.c) Tryd.func53 (show Tryd.f53.body = some spec_reader_word.c by kernel_rfl) (of_decide_eq_true (by kernel_rfl)) (spec_reader_word.e r w1) hs
  h

/-! ### unicode/utf8.decodeRuneInStringSlow : function 54 -/
def utf8_decodeRuneInStringSlow.t3 (q0 : ByteArray) (b7 : Bool) : T :=
  .ite b7 (
    .leaf 0 [(Value.int IntKind.i32 (65533 : Int)), (Value.int IntKind.i64 (1 : Int))]) (
    .chk ((0 : Int) ≤ (18 : Int)) <|
    .chk ((0 : Int) ≤ (12 : Int)) <|
    .chk ((0 : Int) ≤ (6 : Int)) <|
    .leaf 0 [(Value.int IntKind.i32 (IntKind.wrap IntKind.i32 (((BitVec.toNat ((BitVec.ofInt 32 (IntKind.wrap IntKind.i32 (((BitVec.toNat ((BitVec.ofInt 32 (IntKind.wrap IntKind.i32 (((BitVec.toNat ((BitVec.ofInt 32 (IntKind.wrap IntKind.i32 ((IntKind.wrap IntKind.i32 (IntKind.wrap IntKind.u8 (((BitVec.toNat ((BitVec.ofInt 8 (bt q0 (0 : Int))) &&& (BitVec.ofInt 8 (7 : Int)))) : Nat) : Int))) * (262144 : Int)))) ||| (BitVec.ofInt 32 (IntKind.wrap IntKind.i32 ((IntKind.wrap IntKind.i32 (IntKind.wrap IntKind.u8 (((BitVec.toNat ((BitVec.ofInt 8 (bt q0 (1 : Int))) &&& (BitVec.ofInt 8 (63 : Int)))) : Nat) : Int))) * (4096 : Int)))))) : Nat) : Int))) ||| (BitVec.ofInt 32 (IntKind.wrap IntKind.i32 ((IntKind.wrap IntKind.i32 (IntKind.wrap IntKind.u8 (((BitVec.toNat ((BitVec.ofInt 8 (bt q0 (2 : Int))) &&& (BitVec.ofInt 8 (63 : Int)))) : Nat) : Int))) * (64 : Int)))))) : Nat) : Int))) ||| (BitVec.ofInt 32 (IntKind.wrap IntKind.i32 (IntKind.wrap IntKind.u8 (((BitVec.toNat ((BitVec.ofInt 8 (bt q0 (3 : Int))) &&& (BitVec.ofInt 8 (63 : Int)))) : Nat) : Int)))))) : Nat) : Int))), (Value.int IntKind.i64 (4 : Int))])
def utf8_decodeRuneInStringSlow.t2 (q0 : ByteArray) (i0 : Int) (b6 : Bool) : T :=
  .ite b6 (
    .leaf 0 [(Value.int IntKind.i32 (65533 : Int)), (Value.int IntKind.i64 (1 : Int))]) (
    .ite (decide ((IntKind.wrap IntKind.i64 (IntKind.wrap IntKind.u8 (((BitVec.toNat ((BitVec.ofInt 8 i0) &&& (BitVec.ofInt 8 (7 : Int)))) : Nat) : Int))) ≤ (3 : Int))) (
      .chk ((0 : Int) ≤ (12 : Int)) <|
      .chk ((0 : Int) ≤ (6 : Int)) <|
      .leaf 0 [(Value.int IntKind.i32 (IntKind.wrap IntKind.i32 (((BitVec.toNat ((BitVec.ofInt 32 (IntKind.wrap IntKind.i32 (((BitVec.toNat ((BitVec.ofInt 32 (IntKind.wrap IntKind.i32 ((IntKind.wrap IntKind.i32 (IntKind.wrap IntKind.u8 (((BitVec.toNat ((BitVec.ofInt 8 (bt q0 (0 : Int))) &&& (BitVec.ofInt 8 (15 : Int)))) : Nat) : Int))) * (4096 : Int)))) ||| (BitVec.ofInt 32 (IntKind.wrap IntKind.i32 ((IntKind.wrap IntKind.i32 (IntKind.wrap IntKind.u8 (((BitVec.toNat ((BitVec.ofInt 8 (bt q0 (1 : Int))) &&& (BitVec.ofInt 8 (63 : Int)))) : Nat) : Int))) * (64 : Int)))))) : Nat) : Int))) ||| (BitVec.ofInt 32 (IntKind.wrap IntKind.i32 (IntKind.wrap IntKind.u8 (((BitVec.toNat ((BitVec.ofInt 8 (bt q0 (2 : Int))) &&& (BitVec.ofInt 8 (63 : Int)))) : Nat) : Int)))))) : Nat) : Int))), (Value.int IntKind.i64 (3 : Int))]) (
      .chk (((0 : Int) ≤ (3 : Int)) ∧ ((3 : Int) < (((ByteArray.size q0) : Nat) : Int))) <|
      .cut 1 (.cons .bool .nil) (
        .ite (decide ((bt q0 (3 : Int)) < (128 : Int))) (
          .leaf 1 [(Value.bool Bool.true)]) (
          .leaf 1 [(Value.bool (decide ((191 : Int) < (bt q0 (3 : Int)))))]))
        (fun z => utf8_decodeRuneInStringSlow.t3 q0 z.1)))
def utf8_decodeRuneInStringSlow.t1 (q0 : ByteArray) (i0 : Int) (b5 : Bool) : T :=
  .ite b5 (
    .leaf 0 [(Value.int IntKind.i32 (65533 : Int)), (Value.int IntKind.i64 (1 : Int))]) (
    .ite (decide ((IntKind.wrap IntKind.i64 (IntKind.wrap IntKind.u8 (((BitVec.toNat ((BitVec.ofInt 8 i0) &&& (BitVec.ofInt 8 (7 : Int)))) : Nat) : Int))) ≤ (2 : Int))) (
      .chk ((0 : Int) ≤ (6 : Int)) <|
      .leaf 0 [(Value.int IntKind.i32 (IntKind.wrap IntKind.i32 (((BitVec.toNat ((BitVec.ofInt 32 (IntKind.wrap IntKind.i32 ((IntKind.wrap IntKind.i32 (IntKind.wrap IntKind.u8 (((BitVec.toNat ((BitVec.ofInt 8 (bt q0 (0 : Int))) &&& (BitVec.ofInt 8 (31 : Int)))) : Nat) : Int))) * (64 : Int)))) ||| (BitVec.ofInt 32 (IntKind.wrap IntKind.i32 (IntKind.wrap IntKind.u8 (((BitVec.toNat ((BitVec.ofInt 8 (bt q0 (1 : Int))) &&& (BitVec.ofInt 8 (63 : Int)))) : Nat) : Int)))))) : Nat) : Int))), (Value.int IntKind.i64 (2 : Int))]) (
      .chk (((0 : Int) ≤ (2 : Int)) ∧ ((2 : Int) < (((ByteArray.size q0) : Nat) : Int))) <|
      .cut 1 (.cons .bool .nil) (
        .ite (decide ((bt q0 (2 : Int)) < (128 : Int))) (
          .leaf 1 [(Value.bool Bool.true)]) (
          .leaf 1 [(Value.bool (decide ((191 : Int) < (bt q0 (2 : Int)))))]))
        (fun z => utf8_decodeRuneInStringSlow.t2 q0 i0 z.1)))
def utf8_decodeRuneInStringSlow.t (q0 : ByteArray) : T :=
  .ite (decide ((((ByteArray.size q0) : Nat) : Int) < (1 : Int))) (
    .leaf 0 [(Value.int IntKind.i32 (65533 : Int)), (Value.int IntKind.i64 (0 : Int))]) (
    .chk (((0 : Int) ≤ (0 : Int)) ∧ ((0 : Int) < (((ByteArray.size q0) : Nat) : Int))) <|
    .chk (((0 : Int) ≤ (bt q0 (0 : Int))) ∧ ((bt q0 (0 : Int)) < (256 : Int))) <|
    .load (Addr.add (Addr.mk 12 0 Option.none) ((Int.toNat (bt q0 (0 : Int))) * 1)) (.int .u8) fun (i0 : Int) =>
    .ite (decide (i0 ≥ (240 : Int))) (
      .chk ((0 : Int) ≤ (31 : Int)) <|
      .chk ((0 : Int) ≤ (31 : Int)) <|
      .chk (((0 : Int) ≤ (0 : Int)) ∧ ((0 : Int) < (((ByteArray.size q0) : Nat) : Int))) <|
      .leaf 0 [(Value.int IntKind.i32 (IntKind.wrap IntKind.i32 (((BitVec.toNat ((BitVec.ofInt 32 (IntKind.wrap IntKind.i32 (((BitVec.toNat ((BitVec.ofInt 32 (IntKind.wrap IntKind.i32 (bt q0 (0 : Int)))) &&& (~~~(BitVec.ofInt 32 (Int.fdiv (IntKind.wrap IntKind.i32 ((IntKind.wrap IntKind.i32 i0) * (2147483648 : Int))) (2147483648 : Int)))))) : Nat) : Int))) ||| (BitVec.ofInt 32 (IntKind.wrap IntKind.i32 (((BitVec.toNat ((BitVec.ofInt 32 (65533 : Int)) &&& (BitVec.ofInt 32 (Int.fdiv (IntKind.wrap IntKind.i32 ((IntKind.wrap IntKind.i32 i0) * (2147483648 : Int))) (2147483648 : Int))))) : Nat) : Int))))) : Nat) : Int))), (Value.int IntKind.i64 (1 : Int))]) (
      .chk ((0 : Int) ≤ (4 : Int)) <|
      .chk (((0 : Int) ≤ (Int.fdiv i0 (16 : Int))) ∧ ((Int.fdiv i0 (16 : Int)) < (16 : Int))) <|
      .eff (Instr.loadAt 100 (Value.pointer (some (Addr.add (Addr.mk 13 0 Option.none) ((Int.toNat (Int.fdiv i0 (16 : Int))) * 2))))) (.agg (.cons (.int .u8) (.cons (.int .u8) .nil))) fun (z1 : (Int × (Int × PUnit))) =>
      .alloc (Obj.cells #[(Value.int IntKind.u8 (0 : Int)), (Value.int IntKind.u8 (0 : Int))] 100 (0, 0)) fun (z2 : Addr) =>
      .effU (Instr.storeAt 100 (Value.pointer (some z2)) (Value.agg #[(Value.int IntKind.u8 (z1).1), (Value.int IntKind.u8 ((z1).2).1)])) <|
      .ite (decide ((((ByteArray.size q0) : Nat) : Int) < (IntKind.wrap IntKind.i64 (IntKind.wrap IntKind.u8 (((BitVec.toNat ((BitVec.ofInt 8 i0) &&& (BitVec.ofInt 8 (7 : Int)))) : Nat) : Int))))) (
        .leaf 0 [(Value.int IntKind.i32 (65533 : Int)), (Value.int IntKind.i64 (1 : Int))]) (
        .chk (((0 : Int) ≤ (1 : Int)) ∧ ((1 : Int) < (((ByteArray.size q0) : Nat) : Int))) <|
        .cut 1 (.cons .bool .nil) (
          .load (Addr.add z2 0) (.int .u8) fun (i3 : Int) =>
          .ite (decide ((bt q0 (1 : Int)) < i3)) (
            .leaf 1 [(Value.bool Bool.true)]) (
            .load (Addr.add z2 1) (.int .u8) fun (i4 : Int) =>
            .leaf 1 [(Value.bool (decide (i4 < (bt q0 (1 : Int)))))]))
          (fun z => utf8_decodeRuneInStringSlow.t1 q0 i0 z.1))))
def utf8_decodeRuneInStringSlow.h : Hints := ⟨[], [], [(14, [(57, .bool)]), (19, [(75, .bool)]), (24, [(98, .bool)])], []⟩
noncomputable def utf8_decodeRuneInStringSlow.c : Code := (Tryd.f54.body).getD .skip
theorem utf8_decodeRuneInStringSlow.e (q0 : ByteArray) : fnT Tryd.prog utf8_decodeRuneInStringSlow.h Tryd.f54 utf8_decodeRuneInStringSlow.c [.v (Value.string q0)] = utf8_decodeRuneInStringSlow.t q0 := by kernel_rfl
theorem utf8_decodeRuneInStringSlow.calls (q0 : ByteArray) {w : World} {R : Ending → World → Prop} (hs : sat Tryd.prog (utf8_decodeRuneInStringSlow.t q0) (fun l vs w' => l = 0 ∧ R (.returned (retVal vs)) w') w) : Calls Tryd.prog 54 #[(Value.string q0)] w R :=
  have h := calls_of_tree (w := w) (R := R) (args := [.v (Value.string q0)]) (c := utf8_decodeRuneInStringSlow.c) Tryd.func54 (show Tryd.f54.body = some utf8_decodeRuneInStringSlow.c by kernel_rfl) (of_decide_eq_true (by kernel_rfl)) (utf8_decodeRuneInStringSlow.e q0) hs
  h

/-! ### pub-tetrapla/pub/match.match : function 55 -/
def match_match.t4 (i11 : Int) (i12 : Int) : T :=
  .leaf 2 [(Value.int IntKind.i64 i11), (Value.int IntKind.i32 i12)]
def match_match.t6 (q2 : Int) (q3 : (Option Addr)) (q4 : Int) (q5 : Bool) (s6 : ByteArray) (i13 : Int) (s15 : ByteArray) : T :=
  .ite (decide ((((ByteArray.size s15) : Nat) : Int) > (1 : Int))) (
    .chk (((0 : Int) ≤ (1 : Int)) ∧ ((1 : Int) < (((ByteArray.size s15) : Nat) : Int))) <|
    .ite ((bt s15 (1 : Int)) == (42 : Int)) (
      .chk (((0 : Int) ≤ (1 : Int)) ∧ (((1 : Int) ≤ (((ByteArray.size s15) : Nat) : Int)) ∧ ((((ByteArray.size s15) : Nat) : Int) ≤ (((ByteArray.size s15) : Nat) : Int)))) <|
      .leaf 2 [(Value.string (ByteArray.extract s15 1 (Int.toNat (((ByteArray.size s15) : Nat) : Int))))]) (
      .ite ((((ByteArray.size s15) : Nat) : Int) == (1 : Int)) (
        .leaf 0 [(Value.int IntKind.i64 (1 : Int))]) (
        .call 59 #[(Value.string s6), (Value.string s15), (Value.bool q5)] (.tuple (.cons .str (.cons .str (.cons .bool .nil)))) fun (z16 : (ByteArray × (ByteArray × (Bool × PUnit)))) =>
        .ite (!(((z16).2).2).1) (
          .leaf 0 [(Value.int IntKind.i64 (0 : Int))]) (
          .ite ((((ByteArray.size ((z16).2).1) : Nat) : Int) == (1 : Int)) (
            .leaf 0 [(Value.int IntKind.i64 (1 : Int))]) (
            .chk (((0 : Int) ≤ (1 : Int)) ∧ (((1 : Int) ≤ (((ByteArray.size ((z16).2).1) : Nat) : Int)) ∧ ((((ByteArray.size ((z16).2).1) : Nat) : Int) ≤ (((ByteArray.size ((z16).2).1) : Nat) : Int)))) <|
            .call 55 #[(Value.string (z16).1), (Value.string (ByteArray.extract ((z16).2).1 1 (Int.toNat (((ByteArray.size ((z16).2).1) : Nat) : Int)))), (Value.int IntKind.i64 q2), (Value.pointer q3), (Value.int IntKind.i64 q4), (Value.bool q5)] (.int .i64) fun (i17 : Int) =>
            .ite (i17 != (0 : Int)) (
              .leaf 0 [(Value.int IntKind.i64 i17)]) (
              .ite ((((ByteArray.size (z16).1) : Nat) : Int) == (0 : Int)) (
                .leaf 0 [(Value.int IntKind.i64 (0 : Int))]) (
                .chk (((0 : Int) ≤ i13) ∧ ((i13 ≤ (((ByteArray.size (z16).1) : Nat) : Int)) ∧ ((((ByteArray.size (z16).1) : Nat) : Int) ≤ (((ByteArray.size (z16).1) : Nat) : Int)))) <|
                .leaf 1 [(Value.string ((z16).2).1), (Value.string (ByteArray.extract (z16).1 (Int.toNat i13) (Int.toNat (((ByteArray.size (z16).1) : Nat) : Int))))]))))))) (
    .ite ((((ByteArray.size s15) : Nat) : Int) == (1 : Int)) (
      .leaf 0 [(Value.int IntKind.i64 (1 : Int))]) (
      .call 59 #[(Value.string s6), (Value.string s15), (Value.bool q5)] (.tuple (.cons .str (.cons .str (.cons .bool .nil)))) fun (z18 : (ByteArray × (ByteArray × (Bool × PUnit)))) =>
      .ite (!(((z18).2).2).1) (
        .leaf 0 [(Value.int IntKind.i64 (0 : Int))]) (
        .ite ((((ByteArray.size ((z18).2).1) : Nat) : Int) == (1 : Int)) (
          .leaf 0 [(Value.int IntKind.i64 (1 : Int))]) (
          .chk (((0 : Int) ≤ (1 : Int)) ∧ (((1 : Int) ≤ (((ByteArray.size ((z18).2).1) : Nat) : Int)) ∧ ((((ByteArray.size ((z18).2).1) : Nat) : Int) ≤ (((ByteArray.size ((z18).2).1) : Nat) : Int)))) <|
          .call 55 #[(Value.string (z18).1), (Value.string (ByteArray.extract ((z18).2).1 1 (Int.toNat (((ByteArray.size ((z18).2).1) : Nat) : Int)))), (Value.int IntKind.i64 q2), (Value.pointer q3), (Value.int IntKind.i64 q4), (Value.bool q5)] (.int .i64) fun (i19 : Int) =>
          .ite (i19 != (0 : Int)) (
            .leaf 0 [(Value.int IntKind.i64 i19)]) (
            .ite ((((ByteArray.size (z18).1) : Nat) : Int) == (0 : Int)) (
              .leaf 0 [(Value.int IntKind.i64 (0 : Int))]) (
              .chk (((0 : Int) ≤ i13) ∧ ((i13 ≤ (((ByteArray.size (z18).1) : Nat) : Int)) ∧ ((((ByteArray.size (z18).1) : Nat) : Int) ≤ (((ByteArray.size (z18).1) : Nat) : Int)))) <|
              .leaf 1 [(Value.string ((z18).2).1), (Value.string (ByteArray.extract (z18).1 (Int.toNat i13) (Int.toNat (((ByteArray.size (z18).1) : Nat) : Int))))]))))))
def match_match.t8 (s6 : ByteArray) (i13 : Int) (i21 : Int) (s22 : ByteArray) (i26 : Int) (i27 : Int) : T :=
  .ite (i27 != i26) (
    .leaf 0 [(Value.int IntKind.i64 (0 : Int))]) (
    .chk (((0 : Int) ≤ i13) ∧ ((i13 ≤ (((ByteArray.size s6) : Nat) : Int)) ∧ ((((ByteArray.size s6) : Nat) : Int) ≤ (((ByteArray.size s6) : Nat) : Int)))) <|
    .chk (((0 : Int) ≤ i21) ∧ ((i21 ≤ (((ByteArray.size s22) : Nat) : Int)) ∧ ((((ByteArray.size s22) : Nat) : Int) ≤ (((ByteArray.size s22) : Nat) : Int)))) <|
    .leaf 1 [(Value.string (ByteArray.extract s22 (Int.toNat i21) (Int.toNat (((ByteArray.size s22) : Nat) : Int)))), (Value.string (ByteArray.extract s6 (Int.toNat i13) (Int.toNat (((ByteArray.size s6) : Nat) : Int))))])
def match_match.t7 (q5 : Bool) (s6 : ByteArray) (i13 : Int) (i14 : Int) (i21 : Int) (s22 : ByteArray) (i23 : Int) : T :=
  .cut 2 (.cons (.int .i32) (.cons (.int .i32) .nil)) (
    .ite q5 (
      .call 60 #[(Value.int IntKind.i32 i14)] (.int .i32) fun (i24 : Int) =>
      .call 60 #[(Value.int IntKind.i32 i23)] (.int .i32) fun (i25 : Int) =>
      .leaf 2 [(Value.int IntKind.i32 i25), (Value.int IntKind.i32 i24)]) (
      .leaf 2 [(Value.int IntKind.i32 i23), (Value.int IntKind.i32 i14)]))
    (fun z => match_match.t8 s6 i13 i21 s22 z.1 z.2.1)
def match_match.t5 (q2 : Int) (q3 : (Option Addr)) (q4 : Int) (q5 : Bool) (s5 : ByteArray) (s6 : ByteArray) (i8 : Int) (i9 : Int) (i13 : Int) (i14 : Int) : T :=
  .ite (i9 == (63 : Int)) (
    .ite (i13 == (0 : Int)) (
      .leaf 0 [(Value.int IntKind.i64 (0 : Int))]) (
      .chk (((0 : Int) ≤ i13) ∧ ((i13 ≤ (((ByteArray.size s6) : Nat) : Int)) ∧ ((((ByteArray.size s6) : Nat) : Int) ≤ (((ByteArray.size s6) : Nat) : Int)))) <|
      .chk (((0 : Int) ≤ i8) ∧ ((i8 ≤ (((ByteArray.size s5) : Nat) : Int)) ∧ ((((ByteArray.size s5) : Nat) : Int) ≤ (((ByteArray.size s5) : Nat) : Int)))) <|
      .leaf 1 [(Value.string (ByteArray.extract s5 (Int.toNat i8) (Int.toNat (((ByteArray.size s5) : Nat) : Int)))), (Value.string (ByteArray.extract s6 (Int.toNat i13) (Int.toNat (((ByteArray.size s6) : Nat) : Int))))])) (
    .ite (i9 == (42 : Int)) (
      .loop 2 (.cons .str .nil) [(Value.string s5)]
        (fun z => match_match.t6 q2 q3 q4 q5 s6 i13 z.1)) (
      .ite (i13 == (0 : Int)) (
        .leaf 0 [(Value.int IntKind.i64 (0 : Int))]) (
        .cut 2 (.cons (.int .i64) (.cons .str (.cons (.int .i32) .nil))) (
          .ite (i9 == (92 : Int)) (
            .chk (((0 : Int) ≤ i8) ∧ ((i8 ≤ (((ByteArray.size s5) : Nat) : Int)) ∧ ((((ByteArray.size s5) : Nat) : Int) ≤ (((ByteArray.size s5) : Nat) : Int)))) <|
            .call 39 #[(Value.string (ByteArray.extract s5 (Int.toNat i8) (Int.toNat (((ByteArray.size s5) : Nat) : Int))))] (.tuple (.cons (.int .i32) (.cons (.int .i64) .nil))) fun (z20 : (Int × (Int × PUnit))) =>
            .ite (((z20).2).1 == (0 : Int)) (
              .leaf 0 [(Value.int IntKind.i64 (0 : Int))]) (
              .leaf 2 [(Value.int IntKind.i64 ((z20).2).1), (Value.string (ByteArray.extract s5 (Int.toNat i8) (Int.toNat (((ByteArray.size s5) : Nat) : Int)))), (Value.int IntKind.i32 (z20).1)])) (
            .leaf 2 [(Value.int IntKind.i64 i8), (Value.string s5), (Value.int IntKind.i32 i9)]))
          (fun z => match_match.t7 q5 s6 i13 i14 z.1 z.2.1 z.2.2.1))))
def match_match.t3 (q2 : Int) (q3 : (Option Addr)) (q4 : Int) (q5 : Bool) (s5 : ByteArray) (s6 : ByteArray) (i8 : Int) (i9 : Int) : T :=
  .cut 2 (.cons (.int .i64) (.cons (.int .i32) .nil)) (
    .ite (decide ((((ByteArray.size s6) : Nat) : Int) > (0 : Int))) (
      .chk (((0 : Int) ≤ (0 : Int)) ∧ ((0 : Int) < (((ByteArray.size s6) : Nat) : Int))) <|
      .cut 3 (.cons (.int .i64) (.cons (.int .i32) .nil)) (
        .ite (decide ((IntKind.wrap IntKind.i32 (bt s6 (0 : Int))) > (127 : Int))) (
          .call 39 #[(Value.string s6)] (.tuple (.cons (.int .i32) (.cons (.int .i64) .nil))) fun (z10 : (Int × (Int × PUnit))) =>
          .leaf 3 [(Value.int IntKind.i64 ((z10).2).1), (Value.int IntKind.i32 (z10).1)]) (
          .leaf 3 [(Value.int IntKind.i64 (1 : Int)), (Value.int IntKind.i32 (IntKind.wrap IntKind.i32 (bt s6 (0 : Int))))]))
        (fun z => match_match.t4 z.1 z.2.1)) (
      .leaf 2 [(Value.int IntKind.i64 (0 : Int)), (Value.int IntKind.i32 (0 : Int))]))
    (fun z => match_match.t5 q2 q3 q4 q5 s5 s6 i8 i9 z.1 z.2.1)
def match_match.t2 (q2 : Int) (q3 : (Option Addr)) (q4 : Int) (q5 : Bool) (s5 : ByteArray) (s6 : ByteArray) : T :=
  .ite (decide ((((ByteArray.size s5) : Nat) : Int) > (0 : Int))) (
    .chk (((0 : Int) ≤ (0 : Int)) ∧ ((0 : Int) < (((ByteArray.size s5) : Nat) : Int))) <|
    .cut 2 (.cons (.int .i64) (.cons (.int .i32) .nil)) (
      .ite (decide ((IntKind.wrap IntKind.i32 (bt s5 (0 : Int))) > (127 : Int))) (
        .call 39 #[(Value.string s5)] (.tuple (.cons (.int .i32) (.cons (.int .i64) .nil))) fun (z7 : (Int × (Int × PUnit))) =>
        .leaf 2 [(Value.int IntKind.i64 ((z7).2).1), (Value.int IntKind.i32 (z7).1)]) (
        .leaf 2 [(Value.int IntKind.i64 (1 : Int)), (Value.int IntKind.i32 (IntKind.wrap IntKind.i32 (bt s5 (0 : Int))))]))
      (fun z => match_match.t3 q2 q3 q4 q5 s5 s6 z.1 z.2.1)) (
    .ite ((((ByteArray.size s6) : Nat) : Int) == (0 : Int)) (
      .leaf 0 [(Value.int IntKind.i64 (1 : Int))]) (
      .leaf 0 [(Value.int IntKind.i64 (0 : Int))]))
def match_match.t1 (q0 : ByteArray) (q1 : ByteArray) (q2 : Int) (q3 : (Option Addr)) (q4 : Int) (q5 : Bool) : T :=
  .loop 1 (.cons .str (.cons .str .nil)) [(Value.string q1), (Value.string q0)]
    (fun z => match_match.t2 q2 q3 q4 q5 z.1 z.2.1)
def match_match.t (q0 : ByteArray) (q1 : ByteArray) (q2 : Int) (q3 : (Option Addr)) (q4 : Int) (q5 : Bool) : T :=
  .cut 1 .nil (
    .ite (decide (q4 > (-1 : Int))) (
      .ptr q3 fun (z0 : Addr) =>
      .load z0 (.int .i64) fun (i1 : Int) =>
      .ite (decide (i1 > (IntKind.wrap IntKind.i64 (q2 * q4)))) (
        .leaf 0 [(Value.int IntKind.i64 (2 : Int))]) (
        .ptr q3 fun (z2 : Addr) =>
        .load z2 (.int .i64) fun (i3 : Int) =>
        .ptr q3 fun (z4 : Addr) =>
        .store z4 (Value.int IntKind.i64 (IntKind.wrap IntKind.i64 (i3 + (1 : Int)))) <|
        .leaf 1 [])) (
      .leaf 1 []))
    (fun _ => match_match.t1 q0 q1 q2 q3 q4 q5)
def match_match.h : Hints := ⟨[(21, []), (41, [(15, (.int .i64)), (14, (.int .i32))]), (49, [(17, (.int .i64)), (16, (.int .i32))]), (54, [(17, (.int .i64)), (16, (.int .i32))]), (64, [(15, (.int .i64)), (1, .str), (14, (.int .i32))]), (75, [(14, (.int .i32)), (16, (.int .i32))])], [], [], [(5, [(1, .str), (0, .str)]), (32, [(1, .str)])]⟩
noncomputable def match_match.c : Code := (Tryd.f55.body).getD .skip
theorem match_match.e (q0 : ByteArray) (q1 : ByteArray) (q2 : Int) (q3 : (Option Addr)) (q4 : Int) (q5 : Bool) : fnT Tryd.prog match_match.h Tryd.f55 match_match.c [.v (Value.string q0), .v (Value.string q1), .v (Value.int IntKind.i64 q2), .v (Value.pointer q3), .v (Value.int IntKind.i64 q4), .v (Value.bool q5)] = match_match.t q0 q1 q2 q3 q4 q5 := by kernel_rfl
theorem match_match.calls (q0 : ByteArray) (q1 : ByteArray) (q2 : Int) (q3 : (Option Addr)) (q4 : Int) (q5 : Bool) {w : World} {R : Ending → World → Prop} (hs : sat Tryd.prog (match_match.t q0 q1 q2 q3 q4 q5) (fun l vs w' => l = 0 ∧ R (.returned (retVal vs)) w') w) : Calls Tryd.prog 55 #[(Value.string q0), (Value.string q1), (Value.int IntKind.i64 q2), (Value.pointer q3), (Value.int IntKind.i64 q4), (Value.bool q5)] w R :=
  have h := calls_of_tree (w := w) (R := R) (args := [.v (Value.string q0), .v (Value.string q1), .v (Value.int IntKind.i64 q2), .v (Value.pointer q3), .v (Value.int IntKind.i64 q4), .v (Value.bool q5)]) (c := match_match.c) Tryd.func55 (show Tryd.f55.body = some match_match.c by kernel_rfl) (of_decide_eq_true (by kernel_rfl)) (match_match.e q0 q1 q2 q3 q4 q5) hs
  h

/-! ### pub-tetrapla/pub/jsonparser.unescapeConfig : function 56 -/
def jsonparser_unescapeConfig.t2 (z0 : Addr) (z4 : ((Option Addr) × (Nat × Nat))) (z9 : ((Option Addr) × (Nat × Nat))) (z10 : ((Option Addr) × (Nat × Nat))) : T :=
  .eff (Instr.loadAt 96 (Value.pointer (some z0))) (.agg (.cons .bool (.cons .bool (.cons (.int .i64) .nil)))) fun (z11 : (Bool × (Bool × (Int × PUnit)))) =>
  .call 62 #[(Value.agg #[(Value.bool (z11).1), (Value.bool ((z11).2).1), (Value.int IntKind.i64 (((z11).2).2).1)]), (Value.slice (z10).1 ((z10).2).1 ((z10).2).2), (Value.slice (z9).1 ((z9).2).1 ((z9).2).2)] (.tuple (.cons (.int .i64) (.cons (.int .i64) .nil))) fun (z12 : (Int × (Int × PUnit))) =>
  .ite ((z12).1 == (-1 : Int)) (
    .drew <|
    .load (Addr.mk 8 0 Option.none) .any fun (v13 : Value) =>
    .leaf 0 [(Value.slice none 0 0), v13]) (
    .chk (((0 : Int) ≤ (z12).1) ∧ (((z12).1 ≤ ((((z10).2).1 : Nat) : Int)) ∧ (((((z10).2).1 : Nat) : Int) ≤ ((((z10).2).2 : Nat) : Int)))) <|
    .chk (((0 : Int) ≤ ((z12).2).1) ∧ ((((z12).2).1 ≤ ((((z9).2).1 : Nat) : Int)) ∧ (((((z9).2).1 : Nat) : Int) ≤ ((((z9).2).2 : Nat) : Int)))) <|
    .call 61 #[(Value.slice (if (((z10).2).2 = (Int.toNat (z12).1)) then (z10).1 else (Option.map (fun (y14 : Addr) => (Addr.add y14 ((Int.toNat (z12).1) * 1))) (z10).1)) ((Int.toNat ((((z10).2).1 : Nat) : Int)) - (Int.toNat (z12).1)) (((z10).2).2 - (Int.toNat (z12).1))), (Value.int IntKind.u8 (92 : Int))] (.int .i64) fun (i15 : Int) =>
    .ite (i15 == (-1 : Int)) (
      .eff (Builtin.copy_ (Call.argTypes (Call.mk (Callee.builtin Builtin.copy) #[(Operand.tmp 61), (Operand.tmp 62)] #[43, 43])) 3 #[(Value.slice (if (((z9).2).2 = (Int.toNat ((z12).2).1)) then (z9).1 else (Option.map (fun (y16 : Addr) => (Addr.add y16 ((Int.toNat ((z12).2).1) * 1))) (z9).1)) ((Int.toNat ((((z9).2).1 : Nat) : Int)) - (Int.toNat ((z12).2).1)) (((z9).2).2 - (Int.toNat ((z12).2).1))), (Value.slice (if (((z10).2).2 = (Int.toNat (z12).1)) then (z10).1 else (Option.map (fun (y17 : Addr) => (Addr.add y17 ((Int.toNat (z12).1) * 1))) (z10).1)) ((Int.toNat ((((z10).2).1 : Nat) : Int)) - (Int.toNat (z12).1)) (((z10).2).2 - (Int.toNat (z12).1)))]) (.int .i64) fun (i18 : Int) =>
      .chk (((0 : Int) ≤ ((((Int.toNat ((((z10).2).1 : Nat) : Int)) - (Int.toNat (z12).1)) : Nat) : Int)) ∧ ((((((Int.toNat ((((z10).2).1 : Nat) : Int)) - (Int.toNat (z12).1)) : Nat) : Int) ≤ ((((Int.toNat ((((z9).2).1 : Nat) : Int)) - (Int.toNat ((z12).2).1)) : Nat) : Int)) ∧ (((((Int.toNat ((((z9).2).1 : Nat) : Int)) - (Int.toNat ((z12).2).1)) : Nat) : Int) ≤ (((((z9).2).2 - (Int.toNat ((z12).2).1)) : Nat) : Int)))) <|
      .chk (((0 : Int) ≤ (0 : Int)) ∧ (((0 : Int) ≤ (IntKind.wrap IntKind.i64 (((((z4).2).1 : Nat) : Int) - ((((Int.toNat ((((Int.toNat ((((z9).2).1 : Nat) : Int)) - (Int.toNat ((z12).2).1)) : Nat) : Int)) - (Int.toNat ((((Int.toNat ((((z10).2).1 : Nat) : Int)) - (Int.toNat (z12).1)) : Nat) : Int))) : Nat) : Int)))) ∧ ((IntKind.wrap IntKind.i64 (((((z4).2).1 : Nat) : Int) - ((((Int.toNat ((((Int.toNat ((((z9).2).1 : Nat) : Int)) - (Int.toNat ((z12).2).1)) : Nat) : Int)) - (Int.toNat ((((Int.toNat ((((z10).2).1 : Nat) : Int)) - (Int.toNat (z12).1)) : Nat) : Int))) : Nat) : Int))) ≤ ((((z4).2).2 : Nat) : Int)))) <|
      .leaf 0 [(Value.slice (if (((z4).2).2 = 0) then (z4).1 else (Option.map (fun (y19 : Addr) => (Addr.add y19 0)) (z4).1)) ((Int.toNat (IntKind.wrap IntKind.i64 (((((z4).2).1 : Nat) : Int) - ((((Int.toNat ((((Int.toNat ((((z9).2).1 : Nat) : Int)) - (Int.toNat ((z12).2).1)) : Nat) : Int)) - (Int.toNat ((((Int.toNat ((((z10).2).1 : Nat) : Int)) - (Int.toNat (z12).1)) : Nat) : Int))) : Nat) : Int)))) - 0) (((z4).2).2 - 0)), Value.nilIface]) (
      .chk (((0 : Int) ≤ (0 : Int)) ∧ (((0 : Int) ≤ i15) ∧ (i15 ≤ (((((z10).2).2 - (Int.toNat (z12).1)) : Nat) : Int)))) <|
      .eff (Builtin.copy_ (Call.argTypes (Call.mk (Callee.builtin Builtin.copy) #[(Operand.tmp 68), (Operand.tmp 71)] #[43, 43])) 3 #[(Value.slice (if (((z9).2).2 = (Int.toNat ((z12).2).1)) then (z9).1 else (Option.map (fun (y20 : Addr) => (Addr.add y20 ((Int.toNat ((z12).2).1) * 1))) (z9).1)) ((Int.toNat ((((z9).2).1 : Nat) : Int)) - (Int.toNat ((z12).2).1)) (((z9).2).2 - (Int.toNat ((z12).2).1))), (Value.slice (if ((((z10).2).2 - (Int.toNat (z12).1)) = 0) then (if (((z10).2).2 = (Int.toNat (z12).1)) then (z10).1 else (Option.map (fun (y21 : Addr) => (Addr.add y21 ((Int.toNat (z12).1) * 1))) (z10).1)) else (Option.map (fun (y22 : Addr) => (Addr.add y22 0)) (if (((z10).2).2 = (Int.toNat (z12).1)) then (z10).1 else (Option.map (fun (y23 : Addr) => (Addr.add y23 ((Int.toNat (z12).1) * 1))) (z10).1)))) ((Int.toNat i15) - 0) ((((z10).2).2 - (Int.toNat (z12).1)) - 0))]) (.int .i64) fun (i24 : Int) =>
      .chk (((0 : Int) ≤ i15) ∧ ((i15 ≤ ((((Int.toNat ((((z9).2).1 : Nat) : Int)) - (Int.toNat ((z12).2).1)) : Nat) : Int)) ∧ (((((Int.toNat ((((z9).2).1 : Nat) : Int)) - (Int.toNat ((z12).2).1)) : Nat) : Int) ≤ (((((z9).2).2 - (Int.toNat ((z12).2).1)) : Nat) : Int)))) <|
      .chk (((0 : Int) ≤ i15) ∧ ((i15 ≤ ((((Int.toNat ((((z10).2).1 : Nat) : Int)) - (Int.toNat (z12).1)) : Nat) : Int)) ∧ (((((Int.toNat ((((z10).2).1 : Nat) : Int)) - (Int.toNat (z12).1)) : Nat) : Int) ≤ (((((z10).2).2 - (Int.toNat (z12).1)) : Nat) : Int)))) <|
      .leaf 1 [(Value.slice (if ((((z9).2).2 - (Int.toNat ((z12).2).1)) = (Int.toNat i15)) then (if (((z9).2).2 = (Int.toNat ((z12).2).1)) then (z9).1 else (Option.map (fun (y25 : Addr) => (Addr.add y25 ((Int.toNat ((z12).2).1) * 1))) (z9).1)) else (Option.map (fun (y26 : Addr) => (Addr.add y26 ((Int.toNat i15) * 1))) (if (((z9).2).2 = (Int.toNat ((z12).2).1)) then (z9).1 else (Option.map (fun (y27 : Addr) => (Addr.add y27 ((Int.toNat ((z12).2).1) * 1))) (z9).1)))) ((Int.toNat ((((Int.toNat ((((z9).2).1 : Nat) : Int)) - (Int.toNat ((z12).2).1)) : Nat) : Int)) - (Int.toNat i15)) ((((z9).2).2 - (Int.toNat ((z12).2).1)) - (Int.toNat i15))), (Value.slice (if ((((z10).2).2 - (Int.toNat (z12).1)) = (Int.toNat i15)) then (if (((z10).2).2 = (Int.toNat (z12).1)) then (z10).1 else (Option.map (fun (y28 : Addr) => (Addr.add y28 ((Int.toNat (z12).1) * 1))) (z10).1)) else (Option.map (fun (y29 : Addr) => (Addr.add y29 ((Int.toNat i15) * 1))) (if (((z10).2).2 = (Int.toNat (z12).1)) then (z10).1 else (Option.map (fun (y30 : Addr) => (Addr.add y30 ((Int.toNat (z12).1) * 1))) (z10).1)))) ((Int.toNat ((((Int.toNat ((((z10).2).1 : Nat) : Int)) - (Int.toNat (z12).1)) : Nat) : Int)) - (Int.toNat i15)) ((((z10).2).2 - (Int.toNat (z12).1)) - (Int.toNat i15)))]))
def jsonparser_unescapeConfig.t1 (q1 : (Option Addr)) (q1_len : Nat) (q1_cap : Nat) (z0 : Addr) (i1 : Int) (z4 : ((Option Addr) × (Nat × Nat))) : T :=
  .chk (((0 : Int) ≤ (0 : Int)) ∧ (((0 : Int) ≤ i1) ∧ (i1 ≤ ((q1_cap : Nat) : Int)))) <|
  .eff (Builtin.copy_ (Call.argTypes (Call.mk (Callee.builtin Builtin.copy) #[(Operand.tmp 30), (Operand.tmp 33)] #[43, 43])) 3 #[(Value.slice (z4).1 ((z4).2).1 ((z4).2).2), (Value.slice (if (q1_cap = 0) then q1 else (Option.map (fun (y5 : Addr) => (Addr.add y5 0)) q1)) ((Int.toNat i1) - 0) (q1_cap - 0))]) (.int .i64) fun (i6 : Int) =>
  .chk (((0 : Int) ≤ i1) ∧ ((i1 ≤ ((q1_len : Nat) : Int)) ∧ (((q1_len : Nat) : Int) ≤ ((q1_cap : Nat) : Int)))) <|
  .chk (((0 : Int) ≤ i1) ∧ ((i1 ≤ ((((z4).2).1 : Nat) : Int)) ∧ (((((z4).2).1 : Nat) : Int) ≤ ((((z4).2).2 : Nat) : Int)))) <|
  .loop 1 (.cons .slice (.cons .slice .nil)) [(Value.slice (if (((z4).2).2 = (Int.toNat i1)) then (z4).1 else (Option.map (fun (y7 : Addr) => (Addr.add y7 ((Int.toNat i1) * 1))) (z4).1)) ((Int.toNat ((((z4).2).1 : Nat) : Int)) - (Int.toNat i1)) (((z4).2).2 - (Int.toNat i1))), (Value.slice (if (q1_cap = (Int.toNat i1)) then q1 else (Option.map (fun (y8 : Addr) => (Addr.add y8 ((Int.toNat i1) * 1))) q1)) ((Int.toNat ((q1_len : Nat) : Int)) - (Int.toNat i1)) (q1_cap - (Int.toNat i1)))]
    (fun z => jsonparser_unescapeConfig.t2 z0 z4 z.1 z.2.1)
def jsonparser_unescapeConfig.t (q0_0 : Bool) (q0_1 : Bool) (q0_2 : Int) (q1 : (Option Addr)) (q1_len : Nat) (q1_cap : Nat) (q2 : (Option Addr)) (q2_len : Nat) (q2_cap : Nat) : T :=
  .alloc (Obj.cells #[(Value.bool q0_0), (Value.bool q0_1), (Value.int IntKind.i64 q0_2)] 96 (0, 0)) fun (z0 : Addr) =>
  .call 61 #[(Value.slice q1 q1_len q1_cap), (Value.int IntKind.u8 (92 : Int))] (.int .i64) fun (i1 : Int) =>
  .ite (i1 == (-1 : Int)) (
    .leaf 0 [(Value.slice q1 q1_len q1_cap), Value.nilIface]) (
    .cut 1 (.cons .slice .nil) (
      .ite (decide (((q2_cap : Nat) : Int) < ((q1_len : Nat) : Int))) (
        .eff (Instr.makeSlice 43 (Value.int IntKind.i64 ((q1_len : Nat) : Int)) (Value.int IntKind.i64 ((q1_len : Nat) : Int))) .slice fun (z2 : ((Option Addr) × (Nat × Nat))) =>
        .leaf 1 [(Value.slice (z2).1 ((z2).2).1 ((z2).2).2)]) (
        .chk (((0 : Int) ≤ (0 : Int)) ∧ (((0 : Int) ≤ ((q1_len : Nat) : Int)) ∧ (((q1_len : Nat) : Int) ≤ ((q2_cap : Nat) : Int)))) <|
        .leaf 1 [(Value.slice (if (q2_cap = 0) then q2 else (Option.map (fun (y3 : Addr) => (Addr.add y3 0)) q2)) ((Int.toNat ((q1_len : Nat) : Int)) - 0) (q2_cap - 0))]))
      (fun z => jsonparser_unescapeConfig.t1 q1 q1_len q1_cap z0 i1 z.1))
def jsonparser_unescapeConfig.h : Hints := ⟨[(22, [(2, .slice)])], [], [], [(10, [(9, .slice), (1, .slice)])]⟩
noncomputable def jsonparser_unescapeConfig.c : Code := (Tryd.f56.body).getD .skip
theorem jsonparser_unescapeConfig.e (q0_0 : Bool) (q0_1 : Bool) (q0_2 : Int) (q1 : (Option Addr)) (q1_len : Nat) (q1_cap : Nat) (q2 : (Option Addr)) (q2_len : Nat) (q2_cap : Nat) : fnT Tryd.prog jsonparser_unescapeConfig.h Tryd.f56 jsonparser_unescapeConfig.c [.v (Value.agg #[(Value.bool q0_0), (Value.bool q0_1), (Value.int IntKind.i64 q0_2)]), .v (Value.slice q1 q1_len q1_cap), .v (Value.slice q2 q2_len q2_cap)] = jsonparser_unescapeConfig.t q0_0 q0_1 q0_2 q1 q1_len q1_cap q2 q2_len q2_cap := by kernel_rfl
theorem jsonparser_unescapeConfig.calls (q0_0 : Bool) (q0_1 : Bool) (q0_2 : Int) (q1 : (Option Addr)) (q1_len : Nat) (q1_cap : Nat) (q2 : (Option Addr)) (q2_len : Nat) (q2_cap : Nat) {w : World} {R : Ending → World → Prop} (hs : sat Tryd.prog (jsonparser_unescapeConfig.t q0_0 q0_1 q0_2 q1 q1_len q1_cap q2 q2_len q2_cap) (fun l vs w' => l = 0 ∧ R (.returned (retVal vs)) w') w) : Calls Tryd.prog 56 #[(Value.agg #[(Value.bool q0_0), (Value.bool q0_1), (Value.int IntKind.i64 q0_2)]), (Value.slice q1 q1_len q1_cap), (Value.slice q2 q2_len q2_cap)] w R :=
  have h := calls_of_tree (w := w) (R := R) (args := [.v (Value.agg #[(Value.bool q0_0), (Value.bool q0_1), (Value.int IntKind.i64 q0_2)]), .v (Value.slice q1 q1_len q1_cap), .v (Value.slice q2 q2_len q2_cap)]) (c := jsonparser_unescapeConfig.c) Tryd.func56 (show Tryd.f56.body = some jsonparser_unescapeConfig.c by kernel_rfl) (of_decide_eq_true (by kernel_rfl)) (jsonparser_unescapeConfig.e q0_0 q0_1 q0_2 q1 q1_len q1_cap q2 q2_len q2_cap) hs
  h

/-! ### (*pub-tetrapla/spec.reader).take : function 57 -/
def spec_reader_take.t (r : (Option Addr)) (c1 : Int) : T :=
  .drew <|
  .ptr r fun (z0 : Addr) =>
  .load (Addr.add z0 1) (.int .i64) fun (i1 : Int) =>
  .ptr r fun (z2 : Addr) =>
  .load (Addr.add z2 0) .str fun (s3 : ByteArray) =>
  .ite (decide (i1 < (((ByteArray.size s3) : Nat) : Int))) (
    .ptr r fun (z4 : Addr) =>
    .load (Addr.add z4 0) .str fun (s5 : ByteArray) =>
    .ptr r fun (z6 : Addr) =>
    .load (Addr.add z6 1) (.int .i64) fun (i7 : Int) =>
    .chk (((0 : Int) ≤ i7) ∧ (i7 < (((ByteArray.size s5) : Nat) : Int))) <|
    .ite ((bt s5 i7) == c1) (
      .ptr r fun (z8 : Addr) =>
      .load (Addr.add z8 1) (.int .i64) fun (i9 : Int) =>
      .ptr r fun (z10 : Addr) =>
      .store (Addr.add z10 1) (Value.int IntKind.i64 (IntKind.wrap IntKind.i64 (i9 + (1 : Int)))) <|
      .leaf 0 [(Value.bool Bool.true)]) (
      .leaf 0 [(Value.bool Bool.false)])) (
    .leaf 0 [(Value.bool Bool.false)])
def spec_reader_take.h : Hints := ⟨[], [], [], []⟩
noncomputable def spec_reader_take.c : Code := (Tryd.f57.body).getD .skip
theorem spec_reader_take.e (r : (Option Addr)) (c1 : Int) : fnT Tryd.prog spec_reader_take.h Tryd.f57 spec_reader_take.c [.v (Value.pointer r), .v (Value.int IntKind.u8 c1)] = spec_reader_take.t r c1 := by kernel_rfl
theorem spec_reader_take.calls (r : (Option Addr)) (c1 : Int) {w : World} {R : Ending → World → Prop} (hs : sat Tryd.prog (spec_reader_take.t r c1) (fun l vs w' => l = 0 ∧ R (.returned (retVal vs)) w') w) : Calls Tryd.prog 57 #[(Value.pointer r), (Value.int IntKind.u8 c1)] w R :=
  have h := calls_of_tree (w := w) (R := R) (args := [.v (Value.pointer r), .v (Value.int IntKind.u8 c1)]) (c := spec_reader_take.c) Tryd.func57 (show Tryd.f57.body = some spec_reader_take.c by kernel_rfl) (of_decide_eq_true (by kernel_rfl)) (spec_reader_take.e r c1) hs
  h

/-! ### (*pub-tetrapla/spec.reader).digits : function 58 -/
def spec_reader_digits.t1 (r : (Option Addr)) (i1 : Int) (i3 : Int) : T :=
  .ite (decide ((48 : Int) ≤ i3)) (
    .ite (decide (i3 ≤ (57 : Int))) (
      .ptr r fun (z4 : Addr) =>
      .load (Addr.add z4 1) (.int .i64) fun (i5 : Int) =>
      .ptr r fun (z6 : Addr) =>
      .store (Addr.add z6 1) (Value.int IntKind.i64 (IntKind.wrap IntKind.i64 (i5 + (1 : Int)))) <|
      .call 42 #[(Value.pointer r)] (.int .u8) fun (i7 : Int) =>
      .leaf 1 [(Value.int IntKind.u8 i7)]) (
      .ptr r fun (z8 : Addr) =>
      .load (Addr.add z8 1) (.int .i64) fun (i9 : Int) =>
      .leaf 0 [(Value.bool (decide (i9 > i1)))])) (
    .ptr r fun (z10 : Addr) =>
    .load (Addr.add z10 1) (.int .i64) fun (i11 : Int) =>
    .leaf 0 [(Value.bool (decide (i11 > i1)))])
def spec_reader_digits.t (r : (Option Addr)) : T :=
  .ptr r fun (z0 : Addr) =>
  .load (Addr.add z0 1) (.int .i64) fun (i1 : Int) =>
  .call 42 #[(Value.pointer r)] (.int .u8) fun (i2 : Int) =>
  .loop 1 (.cons (.int .u8) .nil) [(Value.int IntKind.u8 i2)]
    (fun z => spec_reader_digits.t1 r i1 z.1)
def spec_reader_digits.h : Hints := ⟨[], [], [], [(3, [(4, (.int .u8))])]⟩
noncomputable def spec_reader_digits.c : Code := (Tryd.f58.body).getD .skip
theorem spec_reader_digits.e (r : (Option Addr)) : fnT Tryd.prog spec_reader_digits.h Tryd.f58 spec_reader_digits.c [.v (Value.pointer r)] = spec_reader_digits.t r := by kernel_rfl
theorem spec_reader_digits.calls (r : (Option Addr)) {w : World} {R : Ending → World → Prop} (hs : sat Tryd.prog (spec_reader_digits.t r) (fun l vs w' => l = 0 ∧ R (.returned (retVal vs)) w') w) : Calls Tryd.prog 58 #[(Value.pointer r)] w R :=
  have h := calls_of_tree (w := w) (R := R) (args := [.v (Value.pointer r)]) (c := spec_reader_digits.c) Tryd.func58 (show Tryd.f58.body = some spec_reader_digits.c by kernel_rfl) (of_decide_eq_true (by kernel_rfl)) (spec_reader_digits.e r) hs
  h

/-! ### pub-tetrapla/pub/match.matchTrimSuffix : function 59 -/
def match_matchTrimSuffix.t3 (s0 : ByteArray) (i5 : Int) (b6 : Bool) (i7 : Int) : T :=
  .chk (((0 : Int) ≤ (IntKind.wrap IntKind.i64 ((IntKind.wrap IntKind.i64 ((IntKind.wrap IntKind.i64 ((((ByteArray.size s0) : Nat) : Int) - i5)) - i7)) - (1 : Int)))) ∧ ((IntKind.wrap IntKind.i64 ((IntKind.wrap IntKind.i64 ((IntKind.wrap IntKind.i64 ((((ByteArray.size s0) : Nat) : Int) - i5)) - i7)) - (1 : Int))) < (((ByteArray.size s0) : Nat) : Int))) <|
  .ite ((bt s0 (IntKind.wrap IntKind.i64 ((IntKind.wrap IntKind.i64 ((IntKind.wrap IntKind.i64 ((((ByteArray.size s0) : Nat) : Int) - i5)) - i7)) - (1 : Int)))) != (92 : Int)) (
    .ite ((IntKind.wrap IntKind.i64 (((BitVec.toNat ((BitVec.ofInt 64 i7) &&& (BitVec.ofInt 64 (1 : Int)))) : Nat) : Int)) == (1 : Int)) (
      .leaf 2 [(Value.int IntKind.i64 (IntKind.wrap IntKind.i64 (i5 + (1 : Int)))), (Value.bool Bool.true)]) (
      .leaf 2 [(Value.int IntKind.i64 i5), (Value.bool b6)])) (
    .leaf 3 [(Value.int IntKind.i64 i5), (Value.bool b6), (Value.int IntKind.i64 (IntKind.wrap IntKind.i64 (i7 + (1 : Int))))])
def match_matchTrimSuffix.t7 (s0 : ByteArray) (s1 : ByteArray) (b2 : Bool) (i8 : Int) (z11 : (Int × (Int × PUnit))) (b16 : Bool) : T :=
  .ite b16 (
    .leaf 0 [(Value.string s1), (Value.string s0), (Value.bool Bool.false)]) (
    .chk (((0 : Int) ≤ (0 : Int)) ∧ (((0 : Int) ≤ (IntKind.wrap IntKind.i64 ((((ByteArray.size s1) : Nat) : Int) - ((z11).2).1))) ∧ ((IntKind.wrap IntKind.i64 ((((ByteArray.size s1) : Nat) : Int) - ((z11).2).1)) ≤ (((ByteArray.size s1) : Nat) : Int)))) <|
    .chk (((0 : Int) ≤ (0 : Int)) ∧ (((0 : Int) ≤ (IntKind.wrap IntKind.i64 ((((ByteArray.size s0) : Nat) : Int) - i8))) ∧ ((IntKind.wrap IntKind.i64 ((((ByteArray.size s0) : Nat) : Int) - i8)) ≤ (((ByteArray.size s0) : Nat) : Int)))) <|
    .leaf 1 [(Value.string (ByteArray.extract s0 0 (Int.toNat (IntKind.wrap IntKind.i64 ((((ByteArray.size s0) : Nat) : Int) - i8))))), (Value.string (ByteArray.extract s1 0 (Int.toNat (IntKind.wrap IntKind.i64 ((((ByteArray.size s1) : Nat) : Int) - ((z11).2).1))))), (Value.bool b2)])
def match_matchTrimSuffix.t6 (s0 : ByteArray) (s1 : ByteArray) (b2 : Bool) (i8 : Int) (b9 : Bool) (z11 : (Int × (Int × PUnit))) (i14 : Int) (i15 : Int) : T :=
  .cut 2 (.cons .bool .nil) (
    .ite (i15 == (63 : Int)) (
      .ite (!b9) (
        .leaf 2 [(Value.bool Bool.false)]) (
        .leaf 2 [(Value.bool (!(i15 == i14)))])) (
      .leaf 2 [(Value.bool (!(i15 == i14)))]))
    (fun z => match_matchTrimSuffix.t7 s0 s1 b2 i8 z11 z.1)
def match_matchTrimSuffix.t5 (q2 : Bool) (s0 : ByteArray) (s1 : ByteArray) (b2 : Bool) (z4 : (Int × (Int × PUnit))) (i8 : Int) (b9 : Bool) (b10 : Bool) : T :=
  .ite b10 (
    .leaf 0 [(Value.string s1), (Value.string s0), (Value.bool Bool.true)]) (
    .call 63 #[(Value.string s1)] (.tuple (.cons (.int .i32) (.cons (.int .i64) .nil))) fun (z11 : (Int × (Int × PUnit))) =>
    .cut 2 (.cons (.int .i32) (.cons (.int .i32) .nil)) (
      .ite q2 (
        .call 60 #[(Value.int IntKind.i32 (z4).1)] (.int .i32) fun (i12 : Int) =>
        .call 60 #[(Value.int IntKind.i32 (z11).1)] (.int .i32) fun (i13 : Int) =>
        .leaf 2 [(Value.int IntKind.i32 i13), (Value.int IntKind.i32 i12)]) (
        .leaf 2 [(Value.int IntKind.i32 (z11).1), (Value.int IntKind.i32 (z4).1)]))
      (fun z => match_matchTrimSuffix.t6 s0 s1 b2 i8 b9 z11 z.1 z.2.1))
def match_matchTrimSuffix.t4 (q2 : Bool) (s0 : ByteArray) (s1 : ByteArray) (b2 : Bool) (z4 : (Int × (Int × PUnit))) (i8 : Int) (b9 : Bool) : T :=
  .cut 2 (.cons .bool .nil) (
    .ite ((z4).1 == (42 : Int)) (
      .leaf 2 [(Value.bool (!b9))]) (
      .leaf 2 [(Value.bool Bool.false)]))
    (fun z => match_matchTrimSuffix.t5 q2 s0 s1 b2 z4 i8 b9 z.1)
def match_matchTrimSuffix.t2 (q2 : Bool) (s0 : ByteArray) (s1 : ByteArray) (b2 : Bool) (b3 : Bool) : T :=
  .ite b3 (
    .call 63 #[(Value.string s0)] (.tuple (.cons (.int .i32) (.cons (.int .i64) .nil))) fun (z4 : (Int × (Int × PUnit))) =>
    .cut 2 (.cons (.int .i64) (.cons .bool .nil)) (
      .loop 3 (.cons (.int .i64) (.cons .bool (.cons (.int .i64) .nil))) [(Value.int IntKind.i64 ((z4).2).1), (Value.bool Bool.false), (Value.int IntKind.i64 (0 : Int))]
        (fun z => match_matchTrimSuffix.t3 s0 z.1 z.2.1 z.2.2.1))
      (fun z => match_matchTrimSuffix.t4 q2 s0 s1 b2 z4 z.1 z.2.1)) (
    .leaf 0 [(Value.string s1), (Value.string s0), (Value.bool b2)])
def match_matchTrimSuffix.t1 (q2 : Bool) (s0 : ByteArray) (s1 : ByteArray) (b2 : Bool) : T :=
  .cut 2 (.cons .bool .nil) (
    .ite (decide ((((ByteArray.size s1) : Nat) : Int) > (0 : Int))) (
      .leaf 2 [(Value.bool (decide ((((ByteArray.size s0) : Nat) : Int) > (1 : Int))))]) (
      .leaf 2 [(Value.bool Bool.false)]))
    (fun z => match_matchTrimSuffix.t2 q2 s0 s1 b2 z.1)
def match_matchTrimSuffix.t (q0 : ByteArray) (q1 : ByteArray) (q2 : Bool) : T :=
  .loop 1 (.cons .str (.cons .str (.cons .bool .nil))) [(Value.string q1), (Value.string q0), (Value.bool Bool.true)]
    (fun z => match_matchTrimSuffix.t1 q2 z.1 z.2.1 z.2.2.1)
def match_matchTrimSuffix.h : Hints := ⟨[(57, [(14, (.int .i32)), (10, (.int .i32))])], [(2, [(11, (.int .i64)), (12, .bool)])], [(2, [(23, .bool)]), (11, [(51, .bool)]), (16, [(73, .bool)])], [(2, [(1, .str), (0, .str), (9, .bool)]), (7, [(11, (.int .i64)), (12, .bool), (13, (.int .i64))])]⟩
noncomputable def match_matchTrimSuffix.c : Code := (Tryd.f59.body).getD .skip
theorem match_matchTrimSuffix.e (q0 : ByteArray) (q1 : ByteArray) (q2 : Bool) : fnT Tryd.prog match_matchTrimSuffix.h Tryd.f59 match_matchTrimSuffix.c [.v (Value.string q0), .v (Value.string q1), .v (Value.bool q2)] = match_matchTrimSuffix.t q0 q1 q2 := by kernel_rfl
theorem match_matchTrimSuffix.calls (q0 : ByteArray) (q1 : ByteArray) (q2 : Bool) {w : World} {R : Ending → World → Prop} (hs : sat Tryd.prog (match_matchTrimSuffix.t q0 q1 q2) (fun l vs w' => l = 0 ∧ R (.returned (retVal vs)) w') w) : Calls Tryd.prog 59 #[(Value.string q0), (Value.string q1), (Value.bool q2)] w R :=
  have h := calls_of_tree (w := w) (R := R) (args := [.v (Value.string q0), .v (Value.string q1), .v (Value.bool q2)]) (c := match_matchTrimSuffix.c) Tryd.func59 (show Tryd.f59.body = some match_matchTrimSuffix.c by kernel_rfl) (of_decide_eq_true (by kernel_rfl)) (match_matchTrimSuffix.e q0 q1 q2) hs
  h

/-! ### pub-tetrapla/pub/match.tolower : function 60 -/
def match_tolower.t (r : Int) : T :=
  .ite (decide (r ≥ (65 : Int))) (
    .ite (decide (r ≤ (90 : Int))) (
      .leaf 0 [(Value.int IntKind.i32 (IntKind.wrap IntKind.i32 (r + (32 : Int))))]) (
      .leaf 0 [(Value.int IntKind.i32 r)])) (
    .leaf 0 [(Value.int IntKind.i32 r)])
def match_tolower.h : Hints := ⟨[], [], [], []⟩
noncomputable def match_tolower.c : Code := (Tryd.f60.body).getD .skip
theorem match_tolower.e (r : Int) : fnT Tryd.prog match_tolower.h Tryd.f60 match_tolower.c [.v (Value.int IntKind.i32 r)] = match_tolower.t r := by kernel_rfl
theorem match_tolower.calls (r : Int) {w : World} {R : Ending → World → Prop} (hs : sat Tryd.prog (match_tolower.t r) (fun l vs w' => l = 0 ∧ R (.returned (retVal vs)) w') w) : Calls Tryd.prog 60 #[(Value.int IntKind.i32 r)] w R :=
  have h := calls_of_tree (w := w) (R := R) (args := [.v (Value.int IntKind.i32 r)]) (c := match_tolower.c) Tryd.func60 (show Tryd.f60.body = some match_tolower.c by kernel_rfl) (of_decide_eq_true (by kernel_rfl)) (match_tolower.e r) hs
  h

/-! ### pub-tetrapla/pub/jsonparser.unescapeToUTF8Config : function 62 -/
def jsonparser_unescapeToUTF8Config.t2 (b6 : Bool) : T :=
  .leaf 7 [(Value.bool b6)]
def jsonparser_unescapeToUTF8Config.t3 (b7 : Bool) : T :=
  .leaf 6 [(Value.bool b7)]
def jsonparser_unescapeToUTF8Config.t4 (b8 : Bool) : T :=
  .leaf 5 [(Value.bool b8)]
def jsonparser_unescapeToUTF8Config.t5 (b9 : Bool) : T :=
  .leaf 4 [(Value.bool b9)]
def jsonparser_unescapeToUTF8Config.t6 (b10 : Bool) : T :=
  .leaf 3 [(Value.bool b10)]
def jsonparser_unescapeToUTF8Config.t7 (b11 : Bool) : T :=
  .leaf 2 [(Value.bool b11)]
def jsonparser_unescapeToUTF8Config.t9 (b12 : Bool) : T :=
  .leaf 2 [(Value.bool b12)]
def jsonparser_unescapeToUTF8Config.t10 : T :=
  .leaf 1 []
def jsonparser_unescapeToUTF8Config.t8 (q1 : (Option Addr)) (q1_len : Nat) (q1_cap : Nat) (q2 : (Option Addr)) (q2_len : Nat) (q2_cap : Nat) (z0 : Addr) (i5 : Int) (b12 : Bool) : T :=
  .cut 2 (.cons .bool .nil) (
    .ite b12 (
      .chk (((0 : Int) ≤ i5) ∧ (i5 < (117 : Int))) <|
      .load (Addr.add (Addr.mk 14 0 Option.none) ((Int.toNat i5) * 1)) (.int .u8) fun (i13 : Int) =>
      .chk (((0 : Int) ≤ (0 : Int)) ∧ ((0 : Int) < ((q2_len : Nat) : Int))) <|
      .ptr q2 fun (z14 : Addr) =>
      .store (Addr.add z14 0) (Value.int IntKind.u8 i13) <|
      .leaf 0 [(Value.int IntKind.i64 (2 : Int)), (Value.int IntKind.i64 (1 : Int))]) (
      .cut 3 .nil (
        .ite (i5 == (39 : Int)) (
          .load (Addr.add z0 0) .bool fun (b15 : Bool) =>
          .ite b15 (
            .chk (((0 : Int) ≤ (0 : Int)) ∧ ((0 : Int) < ((q2_len : Nat) : Int))) <|
            .ptr q2 fun (z16 : Addr) =>
            .store (Addr.add z16 0) (Value.int IntKind.u8 i5) <|
            .leaf 0 [(Value.int IntKind.i64 (2 : Int)), (Value.int IntKind.i64 (1 : Int))]) (
            .leaf 3 [])) (
          .ite (i5 == (117 : Int)) (
            .call 65 #[(Value.slice q1 q1_len q1_cap)] (.tuple (.cons (.int .i32) (.cons (.int .i64) .nil))) fun (z17 : (Int × (Int × PUnit))) =>
            .ite (((z17).2).1 == (-1 : Int)) (
              .leaf 0 [(Value.int IntKind.i64 (-1 : Int)), (Value.int IntKind.i64 (-1 : Int))]) (
              .call 66 #[(Value.slice q2 q2_len q2_cap), (Value.int IntKind.i32 (z17).1)] (.int .i64) fun (i18 : Int) =>
              .leaf 0 [(Value.int IntKind.i64 ((z17).2).1), (Value.int IntKind.i64 i18)])) (
            .leaf 3 [])))
        (fun _ => jsonparser_unescapeToUTF8Config.t9 b12)))
    (fun z => jsonparser_unescapeToUTF8Config.t10)
def jsonparser_unescapeToUTF8Config.t11 (q1 : (Option Addr)) (q1_len : Nat) (q2 : (Option Addr)) (q2_len : Nat) (z0 : Addr) : T :=
  .load (Addr.add z0 1) .bool fun (b20 : Bool) =>
  .ite b20 (
    .chk (((0 : Int) ≤ (1 : Int)) ∧ ((1 : Int) < ((q1_len : Nat) : Int))) <|
    .ptr q1 fun (z21 : Addr) =>
    .load (Addr.add z21 1) (.int .u8) fun (i22 : Int) =>
    .chk (((0 : Int) ≤ (0 : Int)) ∧ ((0 : Int) < ((q2_len : Nat) : Int))) <|
    .ptr q2 fun (z23 : Addr) =>
    .store (Addr.add z23 0) (Value.int IntKind.u8 i22) <|
    .leaf 0 [(Value.int IntKind.i64 (2 : Int)), (Value.int IntKind.i64 (1 : Int))]) (
    .leaf 0 [(Value.int IntKind.i64 (-1 : Int)), (Value.int IntKind.i64 (-1 : Int))])
def jsonparser_unescapeToUTF8Config.t1 (q1 : (Option Addr)) (q1_len : Nat) (q1_cap : Nat) (q2 : (Option Addr)) (q2_len : Nat) (q2_cap : Nat) (z0 : Addr) (b3 : Bool) : T :=
  .ite b3 (
    .leaf 0 [(Value.int IntKind.i64 (-1 : Int)), (Value.int IntKind.i64 (-1 : Int))]) (
    .chk (((0 : Int) ≤ (1 : Int)) ∧ ((1 : Int) < ((q1_len : Nat) : Int))) <|
    .ptr q1 fun (z4 : Addr) =>
    .load (Addr.add z4 1) (.int .u8) fun (i5 : Int) =>
    .cut 1 .nil (
      .cut 2 (.cons .bool .nil) (
        .ite (i5 == (34 : Int)) (
          .leaf 2 [(Value.bool (i5 == (34 : Int)))]) (
          .cut 3 (.cons .bool .nil) (
            .ite (i5 == (92 : Int)) (
              .leaf 3 [(Value.bool (i5 == (92 : Int)))]) (
              .cut 4 (.cons .bool .nil) (
                .ite (i5 == (47 : Int)) (
                  .leaf 4 [(Value.bool (i5 == (47 : Int)))]) (
                  .cut 5 (.cons .bool .nil) (
                    .ite (i5 == (98 : Int)) (
                      .leaf 5 [(Value.bool (i5 == (98 : Int)))]) (
                      .cut 6 (.cons .bool .nil) (
                        .ite (i5 == (102 : Int)) (
                          .leaf 6 [(Value.bool (i5 == (102 : Int)))]) (
                          .cut 7 (.cons .bool .nil) (
                            .ite (i5 == (110 : Int)) (
                              .leaf 7 [(Value.bool (i5 == (110 : Int)))]) (
                              .cut 8 (.cons .bool .nil) (
                                .ite (i5 == (114 : Int)) (
                                  .leaf 8 [(Value.bool (i5 == (114 : Int)))]) (
                                  .leaf 8 [(Value.bool (i5 == (116 : Int)))]))
                                (fun z => jsonparser_unescapeToUTF8Config.t2 z.1)))
                            (fun z => jsonparser_unescapeToUTF8Config.t3 z.1)))
                        (fun z => jsonparser_unescapeToUTF8Config.t4 z.1)))
                    (fun z => jsonparser_unescapeToUTF8Config.t5 z.1)))
                (fun z => jsonparser_unescapeToUTF8Config.t6 z.1)))
            (fun z => jsonparser_unescapeToUTF8Config.t7 z.1)))
        (fun z => jsonparser_unescapeToUTF8Config.t8 q1 q1_len q1_cap q2 q2_len q2_cap z0 i5 z.1))
      (fun _ => jsonparser_unescapeToUTF8Config.t11 q1 q1_len q2 q2_len z0))
def jsonparser_unescapeToUTF8Config.t (q0_0 : Bool) (q0_1 : Bool) (q0_2 : Int) (q1 : (Option Addr)) (q1_len : Nat) (q1_cap : Nat) (q2 : (Option Addr)) (q2_len : Nat) (q2_cap : Nat) : T :=
  .alloc (Obj.cells #[(Value.bool q0_0), (Value.bool q0_1), (Value.int IntKind.i64 q0_2)] 96 (0, 0)) fun (z0 : Addr) =>
  .cut 1 (.cons .bool .nil) (
    .ite (decide (((q1_len : Nat) : Int) < (2 : Int))) (
      .leaf 1 [(Value.bool Bool.true)]) (
      .chk (((0 : Int) ≤ (0 : Int)) ∧ ((0 : Int) < ((q1_len : Nat) : Int))) <|
      .ptr q1 fun (z1 : Addr) =>
      .load (Addr.add z1 0) (.int .u8) fun (i2 : Int) =>
      .leaf 1 [(Value.bool (i2 != (92 : Int)))]))
    (fun z => jsonparser_unescapeToUTF8Config.t1 q1 q1_len q1_cap q2 q2_len q2_cap z0 z.1)
def jsonparser_unescapeToUTF8Config.h : Hints := ⟨[(25, [(25, .bool)]), (39, [])], [(0, [])], [(1, [(20, .bool)])], []⟩
noncomputable def jsonparser_unescapeToUTF8Config.c : Code := (Tryd.f62.body).getD .skip
theorem jsonparser_unescapeToUTF8Config.e (q0_0 : Bool) (q0_1 : Bool) (q0_2 : Int) (q1 : (Option Addr)) (q1_len : Nat) (q1_cap : Nat) (q2 : (Option Addr)) (q2_len : Nat) (q2_cap : Nat) : fnT Tryd.prog jsonparser_unescapeToUTF8Config.h Tryd.f62 jsonparser_unescapeToUTF8Config.c [.v (Value.agg #[(Value.bool q0_0), (Value.bool q0_1), (Value.int IntKind.i64 q0_2)]), .v (Value.slice q1 q1_len q1_cap), .v (Value.slice q2 q2_len q2_cap)] = jsonparser_unescapeToUTF8Config.t q0_0 q0_1 q0_2 q1 q1_len q1_cap q2 q2_len q2_cap := by kernel_rfl
theorem jsonparser_unescapeToUTF8Config.calls (q0_0 : Bool) (q0_1 : Bool) (q0_2 : Int) (q1 : (Option Addr)) (q1_len : Nat) (q1_cap : Nat) (q2 : (Option Addr)) (q2_len : Nat) (q2_cap : Nat) {w : World} {R : Ending → World → Prop} (hs : sat Tryd.prog (jsonparser_unescapeToUTF8Config.t q0_0 q0_1 q0_2 q1 q1_len q1_cap q2 q2_len q2_cap) (fun l vs w' => l = 0 ∧ R (.returned (retVal vs)) w') w) : Calls Tryd.prog 62 #[(Value.agg #[(Value.bool q0_0), (Value.bool q0_1), (Value.int IntKind.i64 q0_2)]), (Value.slice q1 q1_len q1_cap), (Value.slice q2 q2_len q2_cap)] w R :=
  have h := calls_of_tree (w := w) (R := R) (args := [.v (Value.agg #[(Value.bool q0_0), (Value.bool q0_1), (Value.int IntKind.i64 q0_2)]), .v (Value.slice q1 q1_len q1_cap), .v (Value.slice q2 q2_len q2_cap)]) (c := jsonparser_unescapeToUTF8Config.c) Tryd.func62 (show Tryd.f62.body = some jsonparser_unescapeToUTF8Config.c by kernel_rfl) (of_decide_eq_true (by kernel_rfl)) (jsonparser_unescapeToUTF8Config.e q0_0 q0_1 q0_2 q1 q1_len q1_cap q2 q2_len q2_cap) hs
  h

/-! ### unicode/utf8.DecodeLastRuneInString : function 63 -/
def utf8_DecodeLastRuneInString.t1 (s : ByteArray) (i0 : Int) (i1 : Int) : T :=
  .ite (decide (i1 ≥ i0)) (
    .chk (((0 : Int) ≤ i1) ∧ (i1 < (((ByteArray.size s) : Nat) : Int))) <|
    .call 67 #[(Value.int IntKind.u8 (bt s i1))] .bool fun (b2 : Bool) =>
    .ite b2 (
      .leaf 1 [(Value.int IntKind.i64 i1)]) (
      .leaf 2 [(Value.int IntKind.i64 (IntKind.wrap IntKind.i64 (i1 - (1 : Int))))])) (
    .leaf 1 [(Value.int IntKind.i64 i1)])
def utf8_DecodeLastRuneInString.t3 (s : ByteArray) (i4 : Int) : T :=
  .chk (((0 : Int) ≤ i4) ∧ ((i4 ≤ (((ByteArray.size s) : Nat) : Int)) ∧ ((((ByteArray.size s) : Nat) : Int) ≤ (((ByteArray.size s) : Nat) : Int)))) <|
  .call 39 #[(Value.string (ByteArray.extract s (Int.toNat i4) (Int.toNat (((ByteArray.size s) : Nat) : Int))))] (.tuple (.cons (.int .i32) (.cons (.int .i64) .nil))) fun (z5 : (Int × (Int × PUnit))) =>
  .ite ((IntKind.wrap IntKind.i64 (i4 + ((z5).2).1)) != (((ByteArray.size s) : Nat) : Int)) (
    .leaf 0 [(Value.int IntKind.i32 (65533 : Int)), (Value.int IntKind.i64 (1 : Int))]) (
    .leaf 0 [(Value.int IntKind.i32 (z5).1), (Value.int IntKind.i64 ((z5).2).1)])
def utf8_DecodeLastRuneInString.t2 (s : ByteArray) (i3 : Int) : T :=
  .cut 1 (.cons (.int .i64) .nil) (
    .ite (decide (i3 < (0 : Int))) (
      .leaf 1 [(Value.int IntKind.i64 (0 : Int))]) (
      .leaf 1 [(Value.int IntKind.i64 i3)]))
    (fun z => utf8_DecodeLastRuneInString.t3 s z.1)
def utf8_DecodeLastRuneInString.t (s : ByteArray) : T :=
  .ite ((((ByteArray.size s) : Nat) : Int) == (0 : Int)) (
    .leaf 0 [(Value.int IntKind.i32 (65533 : Int)), (Value.int IntKind.i64 (0 : Int))]) (
    .chk (((0 : Int) ≤ (IntKind.wrap IntKind.i64 ((((ByteArray.size s) : Nat) : Int) - (1 : Int)))) ∧ ((IntKind.wrap IntKind.i64 ((((ByteArray.size s) : Nat) : Int) - (1 : Int))) < (((ByteArray.size s) : Nat) : Int))) <|
    .ite (decide ((IntKind.wrap IntKind.i32 (bt s (IntKind.wrap IntKind.i64 ((((ByteArray.size s) : Nat) : Int) - (1 : Int))))) < (128 : Int))) (
      .leaf 0 [(Value.int IntKind.i32 (IntKind.wrap IntKind.i32 (bt s (IntKind.wrap IntKind.i64 ((((ByteArray.size s) : Nat) : Int) - (1 : Int)))))), (Value.int IntKind.i64 (1 : Int))]) (
      .eff (Builtin.max_ (Call.argTypes (Call.mk (Callee.builtin Builtin.max) #[(Operand.tmp 21), (Operand.const (Value.int IntKind.i64 (0 : Int)))] #[3, 3])) 3 #[(Value.int IntKind.i64 (IntKind.wrap IntKind.i64 ((((ByteArray.size s) : Nat) : Int) - (4 : Int)))), (Value.int IntKind.i64 (0 : Int))]) (.int .i64) fun (i0 : Int) =>
      .cut 1 (.cons (.int .i64) .nil) (
        .loop 2 (.cons (.int .i64) .nil) [(Value.int IntKind.i64 (IntKind.wrap IntKind.i64 ((IntKind.wrap IntKind.i64 ((((ByteArray.size s) : Nat) : Int) - (1 : Int))) - (1 : Int))))]
          (fun z => utf8_DecodeLastRuneInString.t1 s i0 z.1))
        (fun z => utf8_DecodeLastRuneInString.t2 s z.1)))
def utf8_DecodeLastRuneInString.h : Hints := ⟨[(35, [(5, (.int .i64))])], [(0, [(5, (.int .i64))])], [], [(10, [(5, (.int .i64))])]⟩
noncomputable def utf8_DecodeLastRuneInString.c : Code := (Tryd.f63.body).getD .skip
theorem utf8_DecodeLastRuneInString.e (s : ByteArray) : fnT Tryd.prog utf8_DecodeLastRuneInString.h Tryd.f63 utf8_DecodeLastRuneInString.c [.v (Value.string s)] = utf8_DecodeLastRuneInString.t s := by kernel_rfl
theorem utf8_DecodeLastRuneInString.calls (s : ByteArray) {w : World} {R : Ending → World → Prop} (hs : sat Tryd.prog (utf8_DecodeLastRuneInString.t s) (fun l vs w' => l = 0 ∧ R (.returned (retVal vs)) w') w) : Calls Tryd.prog 63 #[(Value.string s)] w R :=
  have h := calls_of_tree (w := w) (R := R) (args := [.v (Value.string s)]) (c := utf8_DecodeLastRuneInString.c) Tryd.func63 (show Tryd.f63.body = some utf8_DecodeLastRuneInString.c by kernel_rfl) (of_decide_eq_true (by kernel_rfl)) (utf8_DecodeLastRuneInString.e s) hs
  h

/-! ### pub-tetrapla/pub/jsonparser.decodeUnicodeEscape : function 65 -/
def jsonparser_decodeUnicodeEscape.t1 (in0 : (Option Addr)) (in0_len : Nat) (in0_cap : Nat) (z0 : (Int × (Bool × PUnit))) (b6 : Bool) : T :=
  .ite b6 (
    .leaf 0 [(Value.int IntKind.i32 (65533 : Int)), (Value.int IntKind.i64 (6 : Int))]) (
    .chk (((0 : Int) ≤ (6 : Int)) ∧ (((6 : Int) ≤ ((in0_len : Nat) : Int)) ∧ (((in0_len : Nat) : Int) ≤ ((in0_cap : Nat) : Int)))) <|
    .call 68 #[(Value.slice (if (in0_cap = 6) then in0 else (Option.map (fun (y7 : Addr) => (Addr.add y7 6)) in0)) ((Int.toNat ((in0_len : Nat) : Int)) - 6) (in0_cap - 6))] (.tuple (.cons (.int .i32) (.cons .bool .nil))) fun (z8 : (Int × (Bool × PUnit))) =>
    .ite (!((z8).2).1) (
      .leaf 0 [(Value.int IntKind.i32 (65533 : Int)), (Value.int IntKind.i64 (-1 : Int))]) (
      .ite (decide ((z8).1 < (56320 : Int))) (
        .leaf 0 [(Value.int IntKind.i32 (65533 : Int)), (Value.int IntKind.i64 (6 : Int))]) (
        .ite (decide ((z8).1 > (57343 : Int))) (
          .leaf 0 [(Value.int IntKind.i32 (65533 : Int)), (Value.int IntKind.i64 (6 : Int))]) (
          .call 70 #[(Value.int IntKind.i32 (z0).1), (Value.int IntKind.i32 (z8).1)] (.int .i32) fun (i9 : Int) =>
          .leaf 0 [(Value.int IntKind.i32 i9), (Value.int IntKind.i64 (12 : Int))]))))
def jsonparser_decodeUnicodeEscape.t (in0 : (Option Addr)) (in0_len : Nat) (in0_cap : Nat) : T :=
  .call 68 #[(Value.slice in0 in0_len in0_cap)] (.tuple (.cons (.int .i32) (.cons .bool .nil))) fun (z0 : (Int × (Bool × PUnit))) =>
  .ite (!((z0).2).1) (
    .leaf 0 [(Value.int IntKind.i32 (65533 : Int)), (Value.int IntKind.i64 (-1 : Int))]) (
    .call 69 #[(Value.int IntKind.i32 (z0).1)] .bool fun (b1 : Bool) =>
    .ite (!b1) (
      .leaf 0 [(Value.int IntKind.i32 (z0).1), (Value.int IntKind.i64 (6 : Int))]) (
      .ite (decide ((z0).1 ≥ (56320 : Int))) (
        .leaf 0 [(Value.int IntKind.i32 (65533 : Int)), (Value.int IntKind.i64 (6 : Int))]) (
        .cut 1 (.cons .bool .nil) (
          .ite (decide (((in0_len : Nat) : Int) < (8 : Int))) (
            .leaf 1 [(Value.bool Bool.true)]) (
            .chk (((0 : Int) ≤ (6 : Int)) ∧ ((6 : Int) < ((in0_len : Nat) : Int))) <|
            .ptr in0 fun (z2 : Addr) =>
            .load (Addr.add z2 6) (.int .u8) fun (i3 : Int) =>
            .ite (i3 != (92 : Int)) (
              .leaf 1 [(Value.bool Bool.true)]) (
              .chk (((0 : Int) ≤ (7 : Int)) ∧ ((7 : Int) < ((in0_len : Nat) : Int))) <|
              .ptr in0 fun (z4 : Addr) =>
              .load (Addr.add z4 7) (.int .u8) fun (i5 : Int) =>
              .leaf 1 [(Value.bool (i5 != (117 : Int)))])))
          (fun z => jsonparser_decodeUnicodeEscape.t1 in0 in0_len in0_cap z0 z.1))))
def jsonparser_decodeUnicodeEscape.h : Hints := ⟨[], [], [(8, [(35, .bool)])], []⟩
noncomputable def jsonparser_decodeUnicodeEscape.c : Code := (Tryd.f65.body).getD .skip
theorem jsonparser_decodeUnicodeEscape.e (in0 : (Option Addr)) (in0_len : Nat) (in0_cap : Nat) : fnT Tryd.prog jsonparser_decodeUnicodeEscape.h Tryd.f65 jsonparser_decodeUnicodeEscape.c [.v (Value.slice in0 in0_len in0_cap)] = jsonparser_decodeUnicodeEscape.t in0 in0_len in0_cap := by kernel_rfl
theorem jsonparser_decodeUnicodeEscape.calls (in0 : (Option Addr)) (in0_len : Nat) (in0_cap : Nat) {w : World} {R : Ending → World → Prop} (hs : sat Tryd.prog (jsonparser_decodeUnicodeEscape.t in0 in0_len in0_cap) (fun l vs w' => l = 0 ∧ R (.returned (retVal vs)) w') w) : Calls Tryd.prog 65 #[(Value.slice in0 in0_len in0_cap)] w R :=
  have h := calls_of_tree (w := w) (R := R) (args := [.v (Value.slice in0 in0_len in0_cap)]) (c := jsonparser_decodeUnicodeEscape.c) Tryd.func65 (show Tryd.f65.body = some jsonparser_decodeUnicodeEscape.c by kernel_rfl) (of_decide_eq_true (by kernel_rfl)) (jsonparser_decodeUnicodeEscape.e in0 in0_len in0_cap) hs
  h

/-! ### unicode/utf8.EncodeRune : function 66 -/
def utf8_EncodeRune.t (p : (Option Addr)) (p_len : Nat) (p_cap : Nat) (r : Int) : T :=
  .ite (decide ((IntKind.wrap IntKind.u32 r) ≤ (127 : Int))) (
    .chk (((0 : Int) ≤ (0 : Int)) ∧ ((0 : Int) < ((p_len : Nat) : Int))) <|
    .ptr p fun (z0 : Addr) =>
    .store (Addr.add z0 0) (Value.int IntKind.u8 (IntKind.wrap IntKind.u8 r)) <|
    .leaf 0 [(Value.int IntKind.i64 (1 : Int))]) (
    .call 71 #[(Value.slice p p_len p_cap), (Value.int IntKind.i32 r)] (.int .i64) fun (i1 : Int) =>
    .leaf 0 [(Value.int IntKind.i64 i1)])
def utf8_EncodeRune.h : Hints := ⟨[], [], [], []⟩
noncomputable def utf8_EncodeRune.c : Code := (Tryd.f66.body).getD .skip
theorem utf8_EncodeRune.e (p : (Option Addr)) (p_len : Nat) (p_cap : Nat) (r : Int) : fnT Tryd.prog utf8_EncodeRune.h Tryd.f66 utf8_EncodeRune.c [.v (Value.slice p p_len p_cap), .v (Value.int IntKind.i32 r)] = utf8_EncodeRune.t p p_len p_cap r := by kernel_rfl
theorem utf8_EncodeRune.calls (p : (Option Addr)) (p_len : Nat) (p_cap : Nat) (r : Int) {w : World} {R : Ending → World → Prop} (hs : sat Tryd.prog (utf8_EncodeRune.t p p_len p_cap r) (fun l vs w' => l = 0 ∧ R (.returned (retVal vs)) w') w) : Calls Tryd.prog 66 #[(Value.slice p p_len p_cap), (Value.int IntKind.i32 r)] w R :=
  have h := calls_of_tree (w := w) (R := R) (args := [.v (Value.slice p p_len p_cap), .v (Value.int IntKind.i32 r)]) (c := utf8_EncodeRune.c) Tryd.func66 (show Tryd.f66.body = some utf8_EncodeRune.c by kernel_rfl) (of_decide_eq_true (by kernel_rfl)) (utf8_EncodeRune.e p p_len p_cap r) hs
  h

/-! ### unicode/utf8.RuneStart : function 67 -/
def utf8_RuneStart.t (b : Int) : T :=
  .leaf 0 [(Value.bool ((IntKind.wrap IntKind.u8 (((BitVec.toNat ((BitVec.ofInt 8 b) &&& (BitVec.ofInt 8 (192 : Int)))) : Nat) : Int)) != (128 : Int)))]
def utf8_RuneStart.h : Hints := ⟨[], [], [], []⟩
noncomputable def utf8_RuneStart.c : Code := (Tryd.f67.body).getD .skip
theorem utf8_RuneStart.e (b : Int) : fnT Tryd.prog utf8_RuneStart.h Tryd.f67 utf8_RuneStart.c [.v (Value.int IntKind.u8 b)] = utf8_RuneStart.t b := by kernel_rfl
theorem utf8_RuneStart.calls (b : Int) {w : World} {R : Ending → World → Prop} (hs : sat Tryd.prog (utf8_RuneStart.t b) (fun l vs w' => l = 0 ∧ R (.returned (retVal vs)) w') w) : Calls Tryd.prog 67 #[(Value.int IntKind.u8 b)] w R :=
  have h := calls_of_tree (w := w) (R := R) (args := [.v (Value.int IntKind.u8 b)]) (c := utf8_RuneStart.c) Tryd.func67 (show Tryd.f67.body = some utf8_RuneStart.c by kernel_rfl) (of_decide_eq_true (by kernel_rfl)) (utf8_RuneStart.e b) hs
  h

/-! ### pub-tetrapla/pub/jsonparser.decodeSingleUnicodeEscape : function 68 -/
def jsonparser_decodeSingleUnicodeEscape.t1 (i9 : Int) (i11 : Int) (i13 : Int) (i14 : Int) (b15 : Bool) : T :=
  .ite b15 (
    .leaf 0 [(Value.int IntKind.i32 (65533 : Int)), (Value.bool Bool.false)]) (
    .chk ((0 : Int) ≤ (12 : Int)) <|
    .chk ((0 : Int) ≤ (8 : Int)) <|
    .chk ((0 : Int) ≤ (4 : Int)) <|
    .leaf 0 [(Value.int IntKind.i32 (IntKind.wrap IntKind.i32 (IntKind.wrap IntKind.i64 ((IntKind.wrap IntKind.i64 ((IntKind.wrap IntKind.i64 ((IntKind.wrap IntKind.i64 (i9 * (4096 : Int))) + (IntKind.wrap IntKind.i64 (i11 * (256 : Int))))) + (IntKind.wrap IntKind.i64 (i13 * (16 : Int))))) + i14)))), (Value.bool Bool.true)])
def jsonparser_decodeSingleUnicodeEscape.t (in0 : (Option Addr)) (in0_len : Nat) (in0_cap : Nat) : T :=
  .ite (decide (((in0_len : Nat) : Int) < (6 : Int))) (
    .leaf 0 [(Value.int IntKind.i32 (65533 : Int)), (Value.bool Bool.false)]) (
    .drew <|
    .chk (((0 : Int) ≤ (2 : Int)) ∧ ((2 : Int) < ((in0_len : Nat) : Int))) <|
    .ptr in0 fun (z0 : Addr) =>
    .load (Addr.add z0 2) (.int .u8) fun (i1 : Int) =>
    .chk (((0 : Int) ≤ (3 : Int)) ∧ ((3 : Int) < ((in0_len : Nat) : Int))) <|
    .ptr in0 fun (z2 : Addr) =>
    .load (Addr.add z2 3) (.int .u8) fun (i3 : Int) =>
    .chk (((0 : Int) ≤ (4 : Int)) ∧ ((4 : Int) < ((in0_len : Nat) : Int))) <|
    .ptr in0 fun (z4 : Addr) =>
    .load (Addr.add z4 4) (.int .u8) fun (i5 : Int) =>
    .chk (((0 : Int) ≤ (5 : Int)) ∧ ((5 : Int) < ((in0_len : Nat) : Int))) <|
    .ptr in0 fun (z6 : Addr) =>
    .load (Addr.add z6 5) (.int .u8) fun (i7 : Int) =>
    .here fun (z8 : World) =>
    .call 72 #[(Value.int IntKind.u8 i1)] (.int .i64) fun (i9 : Int) =>
    .grew z8 <|
    .here fun (z10 : World) =>
    .call 72 #[(Value.int IntKind.u8 i3)] (.int .i64) fun (i11 : Int) =>
    .grew z10 <|
    .here fun (z12 : World) =>
    .call 72 #[(Value.int IntKind.u8 i5)] (.int .i64) fun (i13 : Int) =>
    .grew z12 <|
    .call 72 #[(Value.int IntKind.u8 i7)] (.int .i64) fun (i14 : Int) =>
    .cut 1 (.cons .bool .nil) (
      .ite (i9 == (-1 : Int)) (
        .leaf 1 [(Value.bool Bool.true)]) (
        .ite (i11 == (-1 : Int)) (
          .leaf 1 [(Value.bool Bool.true)]) (
          .ite (i13 == (-1 : Int)) (
            .leaf 1 [(Value.bool Bool.true)]) (
            .leaf 1 [(Value.bool (i14 == (-1 : Int)))]))))
      (fun z => jsonparser_decodeSingleUnicodeEscape.t1 i9 i11 i13 i14 z.1))
def jsonparser_decodeSingleUnicodeEscape.h : Hints := ⟨[], [], [(4, [(40, .bool)])], []⟩
noncomputable def jsonparser_decodeSingleUnicodeEscape.c : Code := (Tryd.f68.body).getD .skip
theorem jsonparser_decodeSingleUnicodeEscape.e (in0 : (Option Addr)) (in0_len : Nat) (in0_cap : Nat) : fnT Tryd.prog jsonparser_decodeSingleUnicodeEscape.h Tryd.f68 jsonparser_decodeSingleUnicodeEscape.c [.v (Value.slice in0 in0_len in0_cap)] = jsonparser_decodeSingleUnicodeEscape.t in0 in0_len in0_cap := by kernel_rfl
theorem jsonparser_decodeSingleUnicodeEscape.calls (in0 : (Option Addr)) (in0_len : Nat) (in0_cap : Nat) {w : World} {R : Ending → World → Prop} (hs : sat Tryd.prog (jsonparser_decodeSingleUnicodeEscape.t in0 in0_len in0_cap) (fun l vs w' => l = 0 ∧ R (.returned (retVal vs)) w') w) : Calls Tryd.prog 68 #[(Value.slice in0 in0_len in0_cap)] w R :=
  have h := calls_of_tree (w := w) (R := R) (args := [.v (Value.slice in0 in0_len in0_cap)]) (c := jsonparser_decodeSingleUnicodeEscape.c) Tryd.func68 (show Tryd.f68.body = some jsonparser_decodeSingleUnicodeEscape.c by kernel_rfl) (of_decide_eq_true (by kernel_rfl)) (jsonparser_decodeSingleUnicodeEscape.e in0 in0_len in0_cap) hs
  h

/-! ### pub-tetrapla/pub/jsonparser.isUTF16EncodedRune : function 69 -/
def jsonparser_isUTF16EncodedRune.t (r : Int) : T :=
  .ite (decide ((55296 : Int) ≤ r)) (
    .leaf 0 [(Value.bool (decide (r ≤ (57343 : Int))))]) (
    .leaf 0 [(Value.bool Bool.false)])
def jsonparser_isUTF16EncodedRune.h : Hints := ⟨[], [], [], []⟩
noncomputable def jsonparser_isUTF16EncodedRune.c : Code := (Tryd.f69.body).getD .skip
theorem jsonparser_isUTF16EncodedRune.e (r : Int) : fnT Tryd.prog jsonparser_isUTF16EncodedRune.h Tryd.f69 jsonparser_isUTF16EncodedRune.c [.v (Value.int IntKind.i32 r)] = jsonparser_isUTF16EncodedRune.t r := by kernel_rfl
theorem jsonparser_isUTF16EncodedRune.calls (r : Int) {w : World} {R : Ending → World → Prop} (hs : sat Tryd.prog (jsonparser_isUTF16EncodedRune.t r) (fun l vs w' => l = 0 ∧ R (.returned (retVal vs)) w') w) : Calls Tryd.prog 69 #[(Value.int IntKind.i32 r)] w R :=
  have h := calls_of_tree (w := w) (R := R) (args := [.v (Value.int IntKind.i32 r)]) (c := jsonparser_isUTF16EncodedRune.c) Tryd.func69 (show Tryd.f69.body = some jsonparser_isUTF16EncodedRune.c by kernel_rfl) (of_decide_eq_true (by kernel_rfl)) (jsonparser_isUTF16EncodedRune.e r) hs
  h

/-! ### pub-tetrapla/pub/jsonparser.combineUTF16Surrogates : function 70 -/
def jsonparser_combineUTF16Surrogates.t (high : Int) (low : Int) : T :=
  .chk ((0 : Int) ≤ (10 : Int)) <|
  .leaf 0 [(Value.int IntKind.i32 (IntKind.wrap IntKind.i32 ((IntKind.wrap IntKind.i32 ((65536 : Int) + (IntKind.wrap IntKind.i32 ((IntKind.wrap IntKind.i32 (high - (55296 : Int))) * (1024 : Int))))) + (IntKind.wrap IntKind.i32 (low - (56320 : Int))))))]
def jsonparser_combineUTF16Surrogates.h : Hints := ⟨[], [], [], []⟩
noncomputable def jsonparser_combineUTF16Surrogates.c : Code := (Tryd.f70.body).getD .skip
theorem jsonparser_combineUTF16Surrogates.e (high : Int) (low : Int) : fnT Tryd.prog jsonparser_combineUTF16Surrogates.h Tryd.f70 jsonparser_combineUTF16Surrogates.c [.v (Value.int IntKind.i32 high), .v (Value.int IntKind.i32 low)] = jsonparser_combineUTF16Surrogates.t high low := by kernel_rfl
theorem jsonparser_combineUTF16Surrogates.calls (high : Int) (low : Int) {w : World} {R : Ending → World → Prop} (hs : sat Tryd.prog (jsonparser_combineUTF16Surrogates.t high low) (fun l vs w' => l = 0 ∧ R (.returned (retVal vs)) w') w) : Calls Tryd.prog 70 #[(Value.int IntKind.i32 high), (Value.int IntKind.i32 low)] w R :=
  have h := calls_of_tree (w := w) (R := R) (args := [.v (Value.int IntKind.i32 high), .v (Value.int IntKind.i32 low)]) (c := jsonparser_combineUTF16Surrogates.c) Tryd.func70 (show Tryd.f70.body = some jsonparser_combineUTF16Surrogates.c by kernel_rfl) (of_decide_eq_true (by kernel_rfl)) (jsonparser_combineUTF16Surrogates.e high low) hs
  h

/-! ### unicode/utf8.encodeRuneNonASCII : function 71 -/
def utf8_encodeRuneNonASCII.t1 (b4 : Bool) : T :=
  .leaf 1 [(Value.bool b4), (Value.int IntKind.i64 (0 : Int))]
def utf8_encodeRuneNonASCII.t3 (q0 : (Option Addr)) (q0_len : Nat) (q1 : Int) (b12 : Bool) : T :=
  .ite b12 (
    .chk (((0 : Int) ≤ (3 : Int)) ∧ ((3 : Int) < ((q0_len : Nat) : Int))) <|
    .ptr q0 fun (z13 : Addr) =>
    .load (Addr.add z13 3) (.int .u8) fun (i14 : Int) =>
    .chk ((0 : Int) ≤ (18 : Int)) <|
    .chk (((0 : Int) ≤ (0 : Int)) ∧ ((0 : Int) < ((q0_len : Nat) : Int))) <|
    .ptr q0 fun (z15 : Addr) =>
    .store (Addr.add z15 0) (Value.int IntKind.u8 (IntKind.wrap IntKind.u8 (((BitVec.toNat ((BitVec.ofInt 8 (240 : Int)) ||| (BitVec.ofInt 8 (IntKind.wrap IntKind.u8 (Int.fdiv q1 (262144 : Int)))))) : Nat) : Int))) <|
    .chk ((0 : Int) ≤ (12 : Int)) <|
    .chk (((0 : Int) ≤ (1 : Int)) ∧ ((1 : Int) < ((q0_len : Nat) : Int))) <|
    .ptr q0 fun (z16 : Addr) =>
    .store (Addr.add z16 1) (Value.int IntKind.u8 (IntKind.wrap IntKind.u8 (((BitVec.toNat ((BitVec.ofInt 8 (128 : Int)) ||| (BitVec.ofInt 8 (IntKind.wrap IntKind.u8 (((BitVec.toNat ((BitVec.ofInt 8 (IntKind.wrap IntKind.u8 (Int.fdiv q1 (4096 : Int)))) &&& (BitVec.ofInt 8 (63 : Int)))) : Nat) : Int))))) : Nat) : Int))) <|
    .chk ((0 : Int) ≤ (6 : Int)) <|
    .chk (((0 : Int) ≤ (2 : Int)) ∧ ((2 : Int) < ((q0_len : Nat) : Int))) <|
    .ptr q0 fun (z17 : Addr) =>
    .store (Addr.add z17 2) (Value.int IntKind.u8 (IntKind.wrap IntKind.u8 (((BitVec.toNat ((BitVec.ofInt 8 (128 : Int)) ||| (BitVec.ofInt 8 (IntKind.wrap IntKind.u8 (((BitVec.toNat ((BitVec.ofInt 8 (IntKind.wrap IntKind.u8 (Int.fdiv q1 (64 : Int)))) &&& (BitVec.ofInt 8 (63 : Int)))) : Nat) : Int))))) : Nat) : Int))) <|
    .chk (((0 : Int) ≤ (3 : Int)) ∧ ((3 : Int) < ((q0_len : Nat) : Int))) <|
    .ptr q0 fun (z18 : Addr) =>
    .store (Addr.add z18 3) (Value.int IntKind.u8 (IntKind.wrap IntKind.u8 (((BitVec.toNat ((BitVec.ofInt 8 (128 : Int)) ||| (BitVec.ofInt 8 (IntKind.wrap IntKind.u8 (((BitVec.toNat ((BitVec.ofInt 8 (IntKind.wrap IntKind.u8 q1)) &&& (BitVec.ofInt 8 (63 : Int)))) : Nat) : Int))))) : Nat) : Int))) <|
    .leaf 0 [(Value.int IntKind.i64 (4 : Int))]) (
    .chk (((0 : Int) ≤ (2 : Int)) ∧ ((2 : Int) < ((q0_len : Nat) : Int))) <|
    .ptr q0 fun (z19 : Addr) =>
    .load (Addr.add z19 2) (.int .u8) fun (i20 : Int) =>
    .chk (((0 : Int) ≤ (0 : Int)) ∧ ((0 : Int) < ((q0_len : Nat) : Int))) <|
    .ptr q0 fun (z21 : Addr) =>
    .store (Addr.add z21 0) (Value.int IntKind.u8 (239 : Int)) <|
    .chk (((0 : Int) ≤ (1 : Int)) ∧ ((1 : Int) < ((q0_len : Nat) : Int))) <|
    .ptr q0 fun (z22 : Addr) =>
    .store (Addr.add z22 1) (Value.int IntKind.u8 (191 : Int)) <|
    .chk (((0 : Int) ≤ (2 : Int)) ∧ ((2 : Int) < ((q0_len : Nat) : Int))) <|
    .ptr q0 fun (z23 : Addr) =>
    .store (Addr.add z23 2) (Value.int IntKind.u8 (189 : Int)) <|
    .leaf 0 [(Value.int IntKind.i64 (3 : Int))])
def utf8_encodeRuneNonASCII.t4 (i25 : Int) : T :=
  .leaf 0 [(Value.int IntKind.i64 i25)]
def utf8_encodeRuneNonASCII.t2 (q0 : (Option Addr)) (q0_len : Nat) (q1 : Int) (b5 : Bool) : T :=
  .cut 1 (.cons .bool (.cons (.int .i64) .nil)) (
    .ite b5 (
      .chk (((0 : Int) ≤ (2 : Int)) ∧ ((2 : Int) < ((q0_len : Nat) : Int))) <|
      .ptr q0 fun (z7 : Addr) =>
      .load (Addr.add z7 2) (.int .u8) fun (i8 : Int) =>
      .chk ((0 : Int) ≤ (12 : Int)) <|
      .chk (((0 : Int) ≤ (0 : Int)) ∧ ((0 : Int) < ((q0_len : Nat) : Int))) <|
      .ptr q0 fun (z9 : Addr) =>
      .store (Addr.add z9 0) (Value.int IntKind.u8 (IntKind.wrap IntKind.u8 (((BitVec.toNat ((BitVec.ofInt 8 (224 : Int)) ||| (BitVec.ofInt 8 (IntKind.wrap IntKind.u8 (Int.fdiv q1 (4096 : Int)))))) : Nat) : Int))) <|
      .chk ((0 : Int) ≤ (6 : Int)) <|
      .chk (((0 : Int) ≤ (1 : Int)) ∧ ((1 : Int) < ((q0_len : Nat) : Int))) <|
      .ptr q0 fun (z10 : Addr) =>
      .store (Addr.add z10 1) (Value.int IntKind.u8 (IntKind.wrap IntKind.u8 (((BitVec.toNat ((BitVec.ofInt 8 (128 : Int)) ||| (BitVec.ofInt 8 (IntKind.wrap IntKind.u8 (((BitVec.toNat ((BitVec.ofInt 8 (IntKind.wrap IntKind.u8 (Int.fdiv q1 (64 : Int)))) &&& (BitVec.ofInt 8 (63 : Int)))) : Nat) : Int))))) : Nat) : Int))) <|
      .chk (((0 : Int) ≤ (2 : Int)) ∧ ((2 : Int) < ((q0_len : Nat) : Int))) <|
      .ptr q0 fun (z11 : Addr) =>
      .store (Addr.add z11 2) (Value.int IntKind.u8 (IntKind.wrap IntKind.u8 (((BitVec.toNat ((BitVec.ofInt 8 (128 : Int)) ||| (BitVec.ofInt 8 (IntKind.wrap IntKind.u8 (((BitVec.toNat ((BitVec.ofInt 8 (IntKind.wrap IntKind.u8 q1)) &&& (BitVec.ofInt 8 (63 : Int)))) : Nat) : Int))))) : Nat) : Int))) <|
      .leaf 0 [(Value.int IntKind.i64 (3 : Int))]) (
      .cut 2 (.cons .bool .nil) (
        .ite (decide ((IntKind.wrap IntKind.u32 q1) > (65535 : Int))) (
          .leaf 2 [(Value.bool (decide ((IntKind.wrap IntKind.u32 q1) ≤ (1114111 : Int))))]) (
          .leaf 2 [(Value.bool Bool.false)]))
        (fun z => utf8_encodeRuneNonASCII.t3 q0 q0_len q1 z.1)))
    (fun z => utf8_encodeRuneNonASCII.t4 z.2.1)
def utf8_encodeRuneNonASCII.t (q0 : (Option Addr)) (q0_len : Nat) (q0_cap : Nat) (q1 : Int) : T :=
  .ite (decide ((IntKind.wrap IntKind.u32 q1) ≤ (2047 : Int))) (
    .chk (((0 : Int) ≤ (1 : Int)) ∧ ((1 : Int) < ((q0_len : Nat) : Int))) <|
    .ptr q0 fun (z0 : Addr) =>
    .load (Addr.add z0 1) (.int .u8) fun (i1 : Int) =>
    .chk ((0 : Int) ≤ (6 : Int)) <|
    .chk (((0 : Int) ≤ (0 : Int)) ∧ ((0 : Int) < ((q0_len : Nat) : Int))) <|
    .ptr q0 fun (z2 : Addr) =>
    .store (Addr.add z2 0) (Value.int IntKind.u8 (IntKind.wrap IntKind.u8 (((BitVec.toNat ((BitVec.ofInt 8 (192 : Int)) ||| (BitVec.ofInt 8 (IntKind.wrap IntKind.u8 (Int.fdiv q1 (64 : Int)))))) : Nat) : Int))) <|
    .chk (((0 : Int) ≤ (1 : Int)) ∧ ((1 : Int) < ((q0_len : Nat) : Int))) <|
    .ptr q0 fun (z3 : Addr) =>
    .store (Addr.add z3 1) (Value.int IntKind.u8 (IntKind.wrap IntKind.u8 (((BitVec.toNat ((BitVec.ofInt 8 (128 : Int)) ||| (BitVec.ofInt 8 (IntKind.wrap IntKind.u8 (((BitVec.toNat ((BitVec.ofInt 8 (IntKind.wrap IntKind.u8 q1)) &&& (BitVec.ofInt 8 (63 : Int)))) : Nat) : Int))))) : Nat) : Int))) <|
    .leaf 0 [(Value.int IntKind.i64 (2 : Int))]) (
    .cut 1 (.cons .bool (.cons (.int .i64) .nil)) (
      .ite (decide ((IntKind.wrap IntKind.u32 q1) < (55296 : Int))) (
        .leaf 1 [(Value.bool (decide ((IntKind.wrap IntKind.u32 q1) < (55296 : Int)))), (Value.int IntKind.i64 (0 : Int))]) (
        .cut 2 (.cons .bool .nil) (
          .ite (decide ((57343 : Int) < (IntKind.wrap IntKind.u32 q1))) (
            .leaf 2 [(Value.bool (decide ((IntKind.wrap IntKind.u32 q1) ≤ (65535 : Int))))]) (
            .leaf 2 [(Value.bool Bool.false)]))
          (fun z => utf8_encodeRuneNonASCII.t1 z.1)))
      (fun z => utf8_encodeRuneNonASCII.t2 q0 q0_len q1 z.1))
def utf8_encodeRuneNonASCII.h : Hints := ⟨[(35, [(35, .bool), (4, (.int .i64))])], [], [(13, [(35, .bool)]), (19, [(66, .bool)])], []⟩
noncomputable def utf8_encodeRuneNonASCII.c : Code := (Tryd.f71.body).getD .skip
theorem utf8_encodeRuneNonASCII.e (q0 : (Option Addr)) (q0_len : Nat) (q0_cap : Nat) (q1 : Int) : fnT Tryd.prog utf8_encodeRuneNonASCII.h Tryd.f71 utf8_encodeRuneNonASCII.c [.v (Value.slice q0 q0_len q0_cap), .v (Value.int IntKind.i32 q1)] = utf8_encodeRuneNonASCII.t q0 q0_len q0_cap q1 := by kernel_rfl
theorem utf8_encodeRuneNonASCII.calls (q0 : (Option Addr)) (q0_len : Nat) (q0_cap : Nat) (q1 : Int) {w : World} {R : Ending → World → Prop} (hs : sat Tryd.prog (utf8_encodeRuneNonASCII.t q0 q0_len q0_cap q1) (fun l vs w' => l = 0 ∧ R (.returned (retVal vs)) w') w) : Calls Tryd.prog 71 #[(Value.slice q0 q0_len q0_cap), (Value.int IntKind.i32 q1)] w R :=
  have h := calls_of_tree (w := w) (R := R) (args := [.v (Value.slice q0 q0_len q0_cap), .v (Value.int IntKind.i32 q1)]) (c := utf8_encodeRuneNonASCII.c) Tryd.func71 (show Tryd.f71.body = some utf8_encodeRuneNonASCII.c by kernel_rfl) (of_decide_eq_true (by kernel_rfl)) (utf8_encodeRuneNonASCII.e q0 q0_len q0_cap q1) hs
  h

/-! ### pub-tetrapla/pub/jsonparser.h2I : function 72 -/
def jsonparser_h2I.t2 (c0 : Int) (b1 : Bool) : T :=
  .ite b1 (
    .leaf 0 [(Value.int IntKind.i64 (IntKind.wrap IntKind.i64 ((IntKind.wrap IntKind.i64 (IntKind.wrap IntKind.u8 (c0 - (65 : Int)))) + (10 : Int))))]) (
    .ite (decide (c0 ≥ (97 : Int))) (
      .ite (decide (c0 ≤ (102 : Int))) (
        .leaf 0 [(Value.int IntKind.i64 (IntKind.wrap IntKind.i64 ((IntKind.wrap IntKind.i64 (IntKind.wrap IntKind.u8 (c0 - (97 : Int)))) + (10 : Int))))]) (
        .leaf 0 [(Value.int IntKind.i64 (-1 : Int))])) (
      .leaf 0 [(Value.int IntKind.i64 (-1 : Int))]))
def jsonparser_h2I.t1 (c0 : Int) (b0 : Bool) : T :=
  .ite b0 (
    .leaf 0 [(Value.int IntKind.i64 (IntKind.wrap IntKind.i64 (IntKind.wrap IntKind.u8 (c0 - (48 : Int)))))]) (
    .cut 1 (.cons .bool .nil) (
      .ite (decide (c0 ≥ (65 : Int))) (
        .leaf 1 [(Value.bool (decide (c0 ≤ (70 : Int))))]) (
        .leaf 1 [(Value.bool Bool.false)]))
      (fun z => jsonparser_h2I.t2 c0 z.1))
def jsonparser_h2I.t (c0 : Int) : T :=
  .cut 1 (.cons .bool .nil) (
    .ite (decide (c0 ≥ (48 : Int))) (
      .leaf 1 [(Value.bool (decide (c0 ≤ (57 : Int))))]) (
      .leaf 1 [(Value.bool Bool.false)]))
    (fun z => jsonparser_h2I.t1 c0 z.1)
def jsonparser_h2I.h : Hints := ⟨[], [], [(1, [(8, .bool)]), (3, [(17, .bool)])], []⟩
noncomputable def jsonparser_h2I.c : Code := (Tryd.f72.body).getD .skip
theorem jsonparser_h2I.e (c0 : Int) : fnT Tryd.prog jsonparser_h2I.h Tryd.f72 jsonparser_h2I.c [.v (Value.int IntKind.u8 c0)] = jsonparser_h2I.t c0 := by kernel_rfl
theorem jsonparser_h2I.calls (c0 : Int) {w : World} {R : Ending → World → Prop} (hs : sat Tryd.prog (jsonparser_h2I.t c0) (fun l vs w' => l = 0 ∧ R (.returned (retVal vs)) w') w) : Calls Tryd.prog 72 #[(Value.int IntKind.u8 c0)] w R :=
  have h := calls_of_tree (w := w) (R := R) (args := [.v (Value.int IntKind.u8 c0)]) (c := jsonparser_h2I.c) Tryd.func72 (show Tryd.f72.body = some jsonparser_h2I.c by kernel_rfl) (of_decide_eq_true (by kernel_rfl)) (jsonparser_h2I.e c0) hs
  h

end Go.Proofs.YtlhhmgopfilgpaaDoor.Tr
