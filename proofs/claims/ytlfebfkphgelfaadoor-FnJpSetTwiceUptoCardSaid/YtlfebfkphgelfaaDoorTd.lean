/- Trees of loaded functions, printed by wip/tools/rxprint (a program of this repo): each is what 'exec' comes to, held by the kernel. No statement of the set is proved here. -/
import Derived.Test.YtlfebfkphgelfaaDoorRz
import Derived.Test.YtlfebfkphgelfaaDoorProg
import Derived.KernelRfl
namespace Go.Proofs.YtlfebfkphgelfaaDoor.Tr
open Go Go.Proofs Go.Proofs.YtlfebfkphgelfaaDoor.Rx
set_option linter.unusedVariables false
set_option maxRecDepth 100000
/-! ### pub-tetrapla/impl.JpSet : function 9 -/
def impl_JpSet.t (text : ByteArray) (value : ByteArray) (keys : (Option Addr)) (keys_len : Nat) (keys_cap : Nat) : T :=
  .eff (convert 9 36 (Value.string text)) .slice fun (z0 : ((Option Addr) × (Nat × Nat))) =>
  .eff (convert 9 36 (Value.string value)) .slice fun (z1 : ((Option Addr) × (Nat × Nat))) =>
  .call 19 #[(Value.slice (z0).1 ((z0).2).1 ((z0).2).2), (Value.slice (z1).1 ((z1).2).1 ((z1).2).2), (Value.slice keys keys_len keys_cap)] (.tuple (.cons .slice (.cons .any .nil))) fun (z2 : (((Option Addr) × (Nat × Nat)) × (Value × PUnit))) =>
  .chk ((isIface ((z2).2).1) = Bool.true) <|
  .ite (!(isNil ((z2).2).1)) (
    .leaf 0 [(Value.string (ByteArray.mk #[])), (Value.bool Bool.false)]) (
    .eff (convert 36 9 (Value.slice ((z2).1).1 (((z2).1).2).1 (((z2).1).2).2)) .str fun (s3 : ByteArray) =>
    .leaf 0 [(Value.string s3), (Value.bool Bool.true)])
def impl_JpSet.h : Hints := ⟨[], [], [], []⟩
noncomputable def impl_JpSet.c : Code := (Tryd.f9.body).getD .skip
theorem impl_JpSet.e (text : ByteArray) (value : ByteArray) (keys : (Option Addr)) (keys_len : Nat) (keys_cap : Nat) : fnT Tryd.prog impl_JpSet.h Tryd.f9 impl_JpSet.c [.v (Value.string text), .v (Value.string value), .v (Value.slice keys keys_len keys_cap)] = impl_JpSet.t text value keys keys_len keys_cap := by kernel_rfl
theorem impl_JpSet.calls (text : ByteArray) (value : ByteArray) (keys : (Option Addr)) (keys_len : Nat) (keys_cap : Nat) {w : World} {R : Ending → World → Prop} (hs : sat Tryd.prog (impl_JpSet.t text value keys keys_len keys_cap) (fun l vs w' => l = 0 ∧ R (.returned (retVal vs)) w') w) : Calls Tryd.prog 9 #[(Value.string text), (Value.string value), (Value.slice keys keys_len keys_cap)] w R :=
  have h := calls_of_tree (w := w) (R := R) (args := [.v (Value.string text), .v (Value.string value), .v (Value.slice keys keys_len keys_cap)]) (c := impl_JpSet.c) Tryd.func9 (show Tryd.f9.body = some impl_JpSet.c by kernel_rfl) (of_decide_eq_true (by kernel_rfl)) (impl_JpSet.e text value keys keys_len keys_cap) hs
  h

/-! ### pub-tetrapla/laws.jpNew : function 7 -/
def laws_jpNew.t (text : ByteArray) (keys : (Option Addr)) (keys_len : Nat) (keys_cap : Nat) : T :=
  .call 18 #[(Value.string text), (Value.slice keys keys_len keys_cap)] (.tuple (.cons (.agg (.cons (.int .i64) (.cons (.int .i64) (.cons (.int .i64) (.cons .slice (.cons .slice .nil)))))) (.cons (.int .i64) (.cons .bool .nil)))) fun (z0 : ((Int × (Int × (Int × (((Option Addr) × (Nat × Nat)) × (((Option Addr) × (Nat × Nat)) × PUnit))))) × (Int × (Bool × PUnit)))) =>
  .alloc (Obj.cells #[(Value.int IntKind.i64 (0 : Int)), (Value.int IntKind.i64 (0 : Int)), (Value.int IntKind.i64 (0 : Int)), (Value.slice none 0 0), (Value.slice none 0 0)] 27 (0, 0)) fun (z1 : Addr) =>
  .effU (Instr.storeAt 27 (Value.pointer (some z1)) (Value.agg #[(Value.int IntKind.i64 ((z0).1).1), (Value.int IntKind.i64 (((z0).1).2).1), (Value.int IntKind.i64 ((((z0).1).2).2).1), (Value.slice ((((((z0).1).2).2).2).1).1 (((((((z0).1).2).2).2).1).2).1 (((((((z0).1).2).2).2).1).2).2), (Value.slice (((((((z0).1).2).2).2).2).1).1 ((((((((z0).1).2).2).2).2).1).2).1 ((((((((z0).1).2).2).2).2).1).2).2)])) <|
  .drew <|
  .ite (((z0).2).2).1 (
    .load (Addr.add z1 0) (.int .i64) fun (i2 : Int) =>
    .leaf 0 [(Value.int IntKind.i64 ((z0).2).1), (Value.bool (i2 == (6 : Int)))]) (
    .leaf 0 [(Value.int IntKind.i64 ((z0).2).1), (Value.bool Bool.false)])
def laws_jpNew.h : Hints := ⟨[], [], [], []⟩
noncomputable def laws_jpNew.c : Code := (Tryd.f7.body).getD .skip
theorem laws_jpNew.e (text : ByteArray) (keys : (Option Addr)) (keys_len : Nat) (keys_cap : Nat) : fnT Tryd.prog laws_jpNew.h Tryd.f7 laws_jpNew.c [.v (Value.string text), .v (Value.slice keys keys_len keys_cap)] = laws_jpNew.t text keys keys_len keys_cap := by kernel_rfl
theorem laws_jpNew.calls (text : ByteArray) (keys : (Option Addr)) (keys_len : Nat) (keys_cap : Nat) {w : World} {R : Ending → World → Prop} (hs : sat Tryd.prog (laws_jpNew.t text keys keys_len keys_cap) (fun l vs w' => l = 0 ∧ R (.returned (retVal vs)) w') w) : Calls Tryd.prog 7 #[(Value.string text), (Value.slice keys keys_len keys_cap)] w R :=
  have h := calls_of_tree (w := w) (R := R) (args := [.v (Value.string text), .v (Value.slice keys keys_len keys_cap)]) (c := laws_jpNew.c) Tryd.func7 (show Tryd.f7.body = some laws_jpNew.c by kernel_rfl) (of_decide_eq_true (by kernel_rfl)) (laws_jpNew.e text keys keys_len keys_cap) hs
  h

/-! ### pub-tetrapla/laws.jpEnd : function 18 -/
def laws_jpEnd.t3 (q1 : (Option Addr)) (q1_len : Nat) (q1_cap : Nat) (z0 : Addr) (z8 : ((Int × (Int × (Int × (((Option Addr) × (Nat × Nat)) × (((Option Addr) × (Nat × Nat)) × PUnit))))) × (Int × PUnit))) (z9 : Addr) (i15 : Int) : T :=
  .ite (decide (i15 < ((((Int.toNat ((q1_len : Nat) : Int)) - (Int.toNat ((z8).2).1)) : Nat) : Int))) (
    .chk (((0 : Int) ≤ i15) ∧ (i15 < ((((Int.toNat ((q1_len : Nat) : Int)) - (Int.toNat ((z8).2).1)) : Nat) : Int))) <|
    .ptr (if (q1_cap = (Int.toNat ((z8).2).1)) then q1 else (Option.map (fun (y21 : Addr) => (Addr.add y21 ((Int.toNat ((z8).2).1) * 1))) q1)) fun (z16 : Addr) =>
    .load (Addr.add z16 ((Int.toNat i15) * 1)) .str fun (s17 : ByteArray) =>
    .call 31 #[(Value.string s17)] .bool fun (b18 : Bool) =>
    .ite (!b18) (
      .effU (Instr.storeAt 27 (Value.pointer (some z0)) (Value.agg #[(Value.int IntKind.i64 (0 : Int)), (Value.int IntKind.i64 (0 : Int)), (Value.int IntKind.i64 (0 : Int)), (Value.slice none 0 0), (Value.slice none 0 0)])) <|
      .effS (Instr.loadAt 27 (Value.pointer (some z0))) (.agg (.cons (.int .i64) (.cons (.int .i64) (.cons (.int .i64) (.cons .slice (.cons .slice .nil)))))) fun (z19 : (Int × (Int × (Int × (((Option Addr) × (Nat × Nat)) × (((Option Addr) × (Nat × Nat)) × PUnit)))))) =>
      .leaf 0 [(Value.agg #[(Value.int IntKind.i64 (z19).1), (Value.int IntKind.i64 ((z19).2).1), (Value.int IntKind.i64 (((z19).2).2).1), (Value.slice (((((z19).2).2).2).1).1 ((((((z19).2).2).2).1).2).1 ((((((z19).2).2).2).1).2).2), (Value.slice ((((((z19).2).2).2).2).1).1 (((((((z19).2).2).2).2).1).2).1 (((((((z19).2).2).2).2).1).2).2)]), (Value.int IntKind.i64 (0 : Int)), (Value.bool Bool.false)]) (
      .chk (((0 : Int) ≤ (0 : Int)) ∧ ((0 : Int) < (((ByteArray.size s17) : Nat) : Int))) <|
      .ite ((bt s17 (0 : Int)) == (91 : Int)) (
        .effU (Instr.storeAt 27 (Value.pointer (some z0)) (Value.agg #[(Value.int IntKind.i64 (0 : Int)), (Value.int IntKind.i64 (0 : Int)), (Value.int IntKind.i64 (0 : Int)), (Value.slice none 0 0), (Value.slice none 0 0)])) <|
        .effS (Instr.loadAt 27 (Value.pointer (some z0))) (.agg (.cons (.int .i64) (.cons (.int .i64) (.cons (.int .i64) (.cons .slice (.cons .slice .nil)))))) fun (z20 : (Int × (Int × (Int × (((Option Addr) × (Nat × Nat)) × (((Option Addr) × (Nat × Nat)) × PUnit)))))) =>
        .leaf 0 [(Value.agg #[(Value.int IntKind.i64 (z20).1), (Value.int IntKind.i64 ((z20).2).1), (Value.int IntKind.i64 (((z20).2).2).1), (Value.slice (((((z20).2).2).2).1).1 ((((((z20).2).2).2).1).2).1 ((((((z20).2).2).2).1).2).2), (Value.slice ((((((z20).2).2).2).2).1).1 (((((((z20).2).2).2).2).1).2).1 (((((((z20).2).2).2).2).1).2).2)]), (Value.int IntKind.i64 (0 : Int)), (Value.bool Bool.false)]) (
        .leaf 1 [(Value.int IntKind.i64 (IntKind.wrap IntKind.i64 (i15 + (1 : Int))))]))) (
    .eff (Instr.loadAt 27 (Value.pointer (some z9))) (.agg (.cons (.int .i64) (.cons (.int .i64) (.cons (.int .i64) (.cons .slice (.cons .slice .nil)))))) fun (z22 : (Int × (Int × (Int × (((Option Addr) × (Nat × Nat)) × (((Option Addr) × (Nat × Nat)) × PUnit)))))) =>
    .effU (Instr.storeAt 27 (Value.pointer (some z0)) (Value.agg #[(Value.int IntKind.i64 (z22).1), (Value.int IntKind.i64 ((z22).2).1), (Value.int IntKind.i64 (((z22).2).2).1), (Value.slice (((((z22).2).2).2).1).1 ((((((z22).2).2).2).1).2).1 ((((((z22).2).2).2).1).2).2), (Value.slice ((((((z22).2).2).2).2).1).1 (((((((z22).2).2).2).2).1).2).1 (((((((z22).2).2).2).2).1).2).2)])) <|
    .effS (Instr.loadAt 27 (Value.pointer (some z0))) (.agg (.cons (.int .i64) (.cons (.int .i64) (.cons (.int .i64) (.cons .slice (.cons .slice .nil)))))) fun (z23 : (Int × (Int × (Int × (((Option Addr) × (Nat × Nat)) × (((Option Addr) × (Nat × Nat)) × PUnit)))))) =>
    .leaf 0 [(Value.agg #[(Value.int IntKind.i64 (z23).1), (Value.int IntKind.i64 ((z23).2).1), (Value.int IntKind.i64 (((z23).2).2).1), (Value.slice (((((z23).2).2).2).1).1 ((((((z23).2).2).2).1).2).1 ((((((z23).2).2).2).1).2).2), (Value.slice ((((((z23).2).2).2).2).1).1 (((((((z23).2).2).2).2).1).2).1 (((((((z23).2).2).2).2).1).2).2)]), (Value.int IntKind.i64 ((z8).2).1), (Value.bool Bool.true)])
def laws_jpEnd.t2 (q1 : (Option Addr)) (q1_len : Nat) (q1_cap : Nat) (z0 : Addr) (z8 : ((Int × (Int × (Int × (((Option Addr) × (Nat × Nat)) × (((Option Addr) × (Nat × Nat)) × PUnit))))) × (Int × PUnit))) (z9 : Addr) (b13 : Bool) : T :=
  .ite b13 (
    .effU (Instr.storeAt 27 (Value.pointer (some z0)) (Value.agg #[(Value.int IntKind.i64 (0 : Int)), (Value.int IntKind.i64 (0 : Int)), (Value.int IntKind.i64 (0 : Int)), (Value.slice none 0 0), (Value.slice none 0 0)])) <|
    .effS (Instr.loadAt 27 (Value.pointer (some z0))) (.agg (.cons (.int .i64) (.cons (.int .i64) (.cons (.int .i64) (.cons .slice (.cons .slice .nil)))))) fun (z14 : (Int × (Int × (Int × (((Option Addr) × (Nat × Nat)) × (((Option Addr) × (Nat × Nat)) × PUnit)))))) =>
    .leaf 0 [(Value.agg #[(Value.int IntKind.i64 (z14).1), (Value.int IntKind.i64 ((z14).2).1), (Value.int IntKind.i64 (((z14).2).2).1), (Value.slice (((((z14).2).2).2).1).1 ((((((z14).2).2).2).1).2).1 ((((((z14).2).2).2).1).2).2), (Value.slice ((((((z14).2).2).2).2).1).1 (((((((z14).2).2).2).2).1).2).1 (((((((z14).2).2).2).2).1).2).2)]), (Value.int IntKind.i64 (0 : Int)), (Value.bool Bool.false)]) (
    .chk (((0 : Int) ≤ ((z8).2).1) ∧ ((((z8).2).1 ≤ ((q1_len : Nat) : Int)) ∧ (((q1_len : Nat) : Int) ≤ ((q1_cap : Nat) : Int)))) <|
    .loop 1 (.cons (.int .i64) .nil) [(Value.int IntKind.i64 (0 : Int))]
      (fun z => laws_jpEnd.t3 q1 q1_len q1_cap z0 z8 z9 z.1))
def laws_jpEnd.t1 (q0 : ByteArray) (q1 : (Option Addr)) (q1_len : Nat) (q1_cap : Nat) (z0 : Addr) (z2 : Addr) (b5 : Bool) : T :=
  .ite b5 (
    .effU (Instr.storeAt 27 (Value.pointer (some z0)) (Value.agg #[(Value.int IntKind.i64 (0 : Int)), (Value.int IntKind.i64 (0 : Int)), (Value.int IntKind.i64 (0 : Int)), (Value.slice none 0 0), (Value.slice none 0 0)])) <|
    .effS (Instr.loadAt 27 (Value.pointer (some z0))) (.agg (.cons (.int .i64) (.cons (.int .i64) (.cons (.int .i64) (.cons .slice (.cons .slice .nil)))))) fun (z6 : (Int × (Int × (Int × (((Option Addr) × (Nat × Nat)) × (((Option Addr) × (Nat × Nat)) × PUnit)))))) =>
    .leaf 0 [(Value.agg #[(Value.int IntKind.i64 (z6).1), (Value.int IntKind.i64 ((z6).2).1), (Value.int IntKind.i64 (((z6).2).2).1), (Value.slice (((((z6).2).2).2).1).1 ((((((z6).2).2).2).1).2).1 ((((((z6).2).2).2).1).2).2), (Value.slice ((((((z6).2).2).2).2).1).1 (((((((z6).2).2).2).2).1).2).1 (((((((z6).2).2).2).2).1).2).2)]), (Value.int IntKind.i64 (0 : Int)), (Value.bool Bool.false)]) (
    .eff (Instr.loadAt 27 (Value.pointer (some z2))) (.agg (.cons (.int .i64) (.cons (.int .i64) (.cons (.int .i64) (.cons .slice (.cons .slice .nil)))))) fun (z7 : (Int × (Int × (Int × (((Option Addr) × (Nat × Nat)) × (((Option Addr) × (Nat × Nat)) × PUnit)))))) =>
    .call 30 #[(Value.string q0), (Value.agg #[(Value.int IntKind.i64 (z7).1), (Value.int IntKind.i64 ((z7).2).1), (Value.int IntKind.i64 (((z7).2).2).1), (Value.slice (((((z7).2).2).2).1).1 ((((((z7).2).2).2).1).2).1 ((((((z7).2).2).2).1).2).2), (Value.slice ((((((z7).2).2).2).2).1).1 (((((((z7).2).2).2).2).1).2).1 (((((((z7).2).2).2).2).1).2).2)]), (Value.slice q1 q1_len q1_cap)] (.tuple (.cons (.agg (.cons (.int .i64) (.cons (.int .i64) (.cons (.int .i64) (.cons .slice (.cons .slice .nil)))))) (.cons (.int .i64) .nil))) fun (z8 : ((Int × (Int × (Int × (((Option Addr) × (Nat × Nat)) × (((Option Addr) × (Nat × Nat)) × PUnit))))) × (Int × PUnit))) =>
    .alloc (Obj.cells #[(Value.int IntKind.i64 (0 : Int)), (Value.int IntKind.i64 (0 : Int)), (Value.int IntKind.i64 (0 : Int)), (Value.slice none 0 0), (Value.slice none 0 0)] 27 (0, 0)) fun (z9 : Addr) =>
    .effU (Instr.storeAt 27 (Value.pointer (some z9)) (Value.agg #[(Value.int IntKind.i64 ((z8).1).1), (Value.int IntKind.i64 (((z8).1).2).1), (Value.int IntKind.i64 ((((z8).1).2).2).1), (Value.slice ((((((z8).1).2).2).2).1).1 (((((((z8).1).2).2).2).1).2).1 (((((((z8).1).2).2).2).1).2).2), (Value.slice (((((((z8).1).2).2).2).2).1).1 ((((((((z8).1).2).2).2).2).1).2).1 ((((((((z8).1).2).2).2).2).1).2).2)])) <|
    .chk (((0 : Int) ≤ (0 : Int)) ∧ (((0 : Int) ≤ ((z8).2).1) ∧ (((z8).2).1 ≤ ((q1_cap : Nat) : Int)))) <|
    .call 6 #[(Value.string q0), (Value.slice (if (q1_cap = 0) then q1 else (Option.map (fun (y10 : Addr) => (Addr.add y10 0)) q1)) ((Int.toNat ((z8).2).1) - 0) (q1_cap - 0))] (.tuple (.cons (.agg (.cons (.int .i64) (.cons (.int .i64) (.cons (.int .i64) (.cons .slice (.cons .slice .nil)))))) (.cons .bool .nil))) fun (z11 : ((Int × (Int × (Int × (((Option Addr) × (Nat × Nat)) × (((Option Addr) × (Nat × Nat)) × PUnit))))) × (Bool × PUnit))) =>
    .alloc (Obj.cells #[(Value.int IntKind.i64 (0 : Int)), (Value.int IntKind.i64 (0 : Int)), (Value.int IntKind.i64 (0 : Int)), (Value.slice none 0 0), (Value.slice none 0 0)] 27 (0, 0)) fun (z12 : Addr) =>
    .effU (Instr.storeAt 27 (Value.pointer (some z12)) (Value.agg #[(Value.int IntKind.i64 ((z11).1).1), (Value.int IntKind.i64 (((z11).1).2).1), (Value.int IntKind.i64 ((((z11).1).2).2).1), (Value.slice ((((((z11).1).2).2).2).1).1 (((((((z11).1).2).2).2).1).2).1 (((((((z11).1).2).2).2).1).2).2), (Value.slice (((((((z11).1).2).2).2).2).1).1 ((((((((z11).1).2).2).2).2).1).2).1 ((((((((z11).1).2).2).2).2).1).2).2)])) <|
    .cut 1 (.cons .bool .nil) (
      .ite (!((z11).2).1) (
        .leaf 1 [(Value.bool Bool.true)]) (
        .leaf 1 [(Value.bool (((z8).2).1 == ((q1_len : Nat) : Int)))]))
      (fun z => laws_jpEnd.t2 q1 q1_len q1_cap z0 z8 z9 z.1))
def laws_jpEnd.t (q0 : ByteArray) (q1 : (Option Addr)) (q1_len : Nat) (q1_cap : Nat) : T :=
  .alloc (Obj.cells #[(Value.int IntKind.i64 (0 : Int)), (Value.int IntKind.i64 (0 : Int)), (Value.int IntKind.i64 (0 : Int)), (Value.slice none 0 0), (Value.slice none 0 0)] 27 (0, 0)) fun (z0 : Addr) =>
  .call 8 #[(Value.string q0)] (.tuple (.cons (.agg (.cons (.int .i64) (.cons (.int .i64) (.cons (.int .i64) (.cons .slice (.cons .slice .nil)))))) (.cons .bool .nil))) fun (z1 : ((Int × (Int × (Int × (((Option Addr) × (Nat × Nat)) × (((Option Addr) × (Nat × Nat)) × PUnit))))) × (Bool × PUnit))) =>
  .alloc (Obj.cells #[(Value.int IntKind.i64 (0 : Int)), (Value.int IntKind.i64 (0 : Int)), (Value.int IntKind.i64 (0 : Int)), (Value.slice none 0 0), (Value.slice none 0 0)] 27 (0, 0)) fun (z2 : Addr) =>
  .effU (Instr.storeAt 27 (Value.pointer (some z2)) (Value.agg #[(Value.int IntKind.i64 ((z1).1).1), (Value.int IntKind.i64 (((z1).1).2).1), (Value.int IntKind.i64 ((((z1).1).2).2).1), (Value.slice ((((((z1).1).2).2).2).1).1 (((((((z1).1).2).2).2).1).2).1 (((((((z1).1).2).2).2).1).2).2), (Value.slice (((((((z1).1).2).2).2).2).1).1 ((((((((z1).1).2).2).2).2).1).2).1 ((((((((z1).1).2).2).2).2).1).2).2)])) <|
  .cut 1 (.cons .bool .nil) (
    .ite (!((z1).2).1) (
      .leaf 1 [(Value.bool Bool.true)]) (
      .eff (Instr.loadAt 27 (Value.pointer (some z2))) (.agg (.cons (.int .i64) (.cons (.int .i64) (.cons (.int .i64) (.cons .slice (.cons .slice .nil)))))) fun (z3 : (Int × (Int × (Int × (((Option Addr) × (Nat × Nat)) × (((Option Addr) × (Nat × Nat)) × PUnit)))))) =>
      .call 15 #[(Value.string q0), (Value.agg #[(Value.int IntKind.i64 (z3).1), (Value.int IntKind.i64 ((z3).2).1), (Value.int IntKind.i64 (((z3).2).2).1), (Value.slice (((((z3).2).2).2).1).1 ((((((z3).2).2).2).1).2).1 ((((((z3).2).2).2).1).2).2), (Value.slice ((((((z3).2).2).2).2).1).1 (((((((z3).2).2).2).2).1).2).1 (((((((z3).2).2).2).2).1).2).2)]), (Value.slice q1 q1_len q1_cap)] .bool fun (b4 : Bool) =>
      .leaf 1 [(Value.bool (!b4))]))
    (fun z => laws_jpEnd.t1 q0 q1 q1_len q1_cap z0 z2 z.1)
def laws_jpEnd.h : Hints := ⟨[], [], [(2, [(28, .bool)]), (6, [(52, .bool)])], [(9, [(58, (.int .i64))])]⟩
noncomputable def laws_jpEnd.c : Code := (Tryd.f18.body).getD .skip
theorem laws_jpEnd.e (q0 : ByteArray) (q1 : (Option Addr)) (q1_len : Nat) (q1_cap : Nat) : fnT Tryd.prog laws_jpEnd.h Tryd.f18 laws_jpEnd.c [.v (Value.string q0), .v (Value.slice q1 q1_len q1_cap)] = laws_jpEnd.t q0 q1 q1_len q1_cap := by kernel_rfl
theorem laws_jpEnd.calls (q0 : ByteArray) (q1 : (Option Addr)) (q1_len : Nat) (q1_cap : Nat) {w : World} {R : Ending → World → Prop} (hs : sat Tryd.prog (laws_jpEnd.t q0 q1 q1_len q1_cap) (fun l vs w' => l = 0 ∧ R (.returned (retVal vs)) w') w) : Calls Tryd.prog 18 #[(Value.string q0), (Value.slice q1 q1_len q1_cap)] w R :=
  have h := calls_of_tree (w := w) (R := R) (args := [.v (Value.string q0), .v (Value.slice q1 q1_len q1_cap)]) (c := laws_jpEnd.c) Tryd.func18 (show Tryd.f18.body = some laws_jpEnd.c by kernel_rfl) (of_decide_eq_true (by kernel_rfl)) (laws_jpEnd.e q0 q1 q1_len q1_cap) hs
  h

/-! ### pub-tetrapla/spec.Reach : function 30 -/
def spec_Reach.t1 (text : ByteArray) (keys : (Option Addr)) (keys_len : Nat) (z0 : Addr) (z1 : Addr) (i2 : Int) : T :=
  .ite (decide (i2 < ((keys_len : Nat) : Int))) (
    .chk (((0 : Int) ≤ i2) ∧ (i2 < ((keys_len : Nat) : Int))) <|
    .ptr keys fun (z3 : Addr) =>
    .load (Addr.add z3 ((Int.toNat i2) * 1)) .str fun (s4 : ByteArray) =>
    .eff (Instr.loadAt 27 (Value.pointer (some z0))) (.agg (.cons (.int .i64) (.cons (.int .i64) (.cons (.int .i64) (.cons .slice (.cons .slice .nil)))))) fun (z5 : (Int × (Int × (Int × (((Option Addr) × (Nat × Nat)) × (((Option Addr) × (Nat × Nat)) × PUnit)))))) =>
    .call 17 #[(Value.string text), (Value.agg #[(Value.int IntKind.i64 (z5).1), (Value.int IntKind.i64 ((z5).2).1), (Value.int IntKind.i64 (((z5).2).2).1), (Value.slice (((((z5).2).2).2).1).1 ((((((z5).2).2).2).1).2).1 ((((((z5).2).2).2).1).2).2), (Value.slice ((((((z5).2).2).2).2).1).1 (((((((z5).2).2).2).2).1).2).1 (((((((z5).2).2).2).2).1).2).2)]), (Value.string s4)] (.tuple (.cons (.agg (.cons (.int .i64) (.cons (.int .i64) (.cons (.int .i64) (.cons .slice (.cons .slice .nil)))))) (.cons .bool .nil))) fun (z6 : ((Int × (Int × (Int × (((Option Addr) × (Nat × Nat)) × (((Option Addr) × (Nat × Nat)) × PUnit))))) × (Bool × PUnit))) =>
    .alloc (Obj.cells #[(Value.int IntKind.i64 (0 : Int)), (Value.int IntKind.i64 (0 : Int)), (Value.int IntKind.i64 (0 : Int)), (Value.slice none 0 0), (Value.slice none 0 0)] 27 (0, 0)) fun (z7 : Addr) =>
    .effU (Instr.storeAt 27 (Value.pointer (some z7)) (Value.agg #[(Value.int IntKind.i64 ((z6).1).1), (Value.int IntKind.i64 (((z6).1).2).1), (Value.int IntKind.i64 ((((z6).1).2).2).1), (Value.slice ((((((z6).1).2).2).2).1).1 (((((((z6).1).2).2).2).1).2).1 (((((((z6).1).2).2).2).1).2).2), (Value.slice (((((((z6).1).2).2).2).2).1).1 ((((((((z6).1).2).2).2).2).1).2).1 ((((((((z6).1).2).2).2).2).1).2).2)])) <|
    .ite (!((z6).2).1) (
      .eff (Instr.loadAt 27 (Value.pointer (some z0))) (.agg (.cons (.int .i64) (.cons (.int .i64) (.cons (.int .i64) (.cons .slice (.cons .slice .nil)))))) fun (z8 : (Int × (Int × (Int × (((Option Addr) × (Nat × Nat)) × (((Option Addr) × (Nat × Nat)) × PUnit)))))) =>
      .effU (Instr.storeAt 27 (Value.pointer (some z1)) (Value.agg #[(Value.int IntKind.i64 (z8).1), (Value.int IntKind.i64 ((z8).2).1), (Value.int IntKind.i64 (((z8).2).2).1), (Value.slice (((((z8).2).2).2).1).1 ((((((z8).2).2).2).1).2).1 ((((((z8).2).2).2).1).2).2), (Value.slice ((((((z8).2).2).2).2).1).1 (((((((z8).2).2).2).2).1).2).1 (((((((z8).2).2).2).2).1).2).2)])) <|
      .effS (Instr.loadAt 27 (Value.pointer (some z1))) (.agg (.cons (.int .i64) (.cons (.int .i64) (.cons (.int .i64) (.cons .slice (.cons .slice .nil)))))) fun (z9 : (Int × (Int × (Int × (((Option Addr) × (Nat × Nat)) × (((Option Addr) × (Nat × Nat)) × PUnit)))))) =>
      .leaf 0 [(Value.agg #[(Value.int IntKind.i64 (z9).1), (Value.int IntKind.i64 ((z9).2).1), (Value.int IntKind.i64 (((z9).2).2).1), (Value.slice (((((z9).2).2).2).1).1 ((((((z9).2).2).2).1).2).1 ((((((z9).2).2).2).1).2).2), (Value.slice ((((((z9).2).2).2).2).1).1 (((((((z9).2).2).2).2).1).2).1 (((((((z9).2).2).2).2).1).2).2)]), (Value.int IntKind.i64 i2)]) (
      .eff (Instr.loadAt 27 (Value.pointer (some z7))) (.agg (.cons (.int .i64) (.cons (.int .i64) (.cons (.int .i64) (.cons .slice (.cons .slice .nil)))))) fun (z10 : (Int × (Int × (Int × (((Option Addr) × (Nat × Nat)) × (((Option Addr) × (Nat × Nat)) × PUnit)))))) =>
      .effU (Instr.storeAt 27 (Value.pointer (some z0)) (Value.agg #[(Value.int IntKind.i64 (z10).1), (Value.int IntKind.i64 ((z10).2).1), (Value.int IntKind.i64 (((z10).2).2).1), (Value.slice (((((z10).2).2).2).1).1 ((((((z10).2).2).2).1).2).1 ((((((z10).2).2).2).1).2).2), (Value.slice ((((((z10).2).2).2).2).1).1 (((((((z10).2).2).2).2).1).2).1 (((((((z10).2).2).2).2).1).2).2)])) <|
      .leaf 1 [(Value.int IntKind.i64 (IntKind.wrap IntKind.i64 (i2 + (1 : Int))))])) (
    .eff (Instr.loadAt 27 (Value.pointer (some z0))) (.agg (.cons (.int .i64) (.cons (.int .i64) (.cons (.int .i64) (.cons .slice (.cons .slice .nil)))))) fun (z11 : (Int × (Int × (Int × (((Option Addr) × (Nat × Nat)) × (((Option Addr) × (Nat × Nat)) × PUnit)))))) =>
    .effU (Instr.storeAt 27 (Value.pointer (some z1)) (Value.agg #[(Value.int IntKind.i64 (z11).1), (Value.int IntKind.i64 ((z11).2).1), (Value.int IntKind.i64 (((z11).2).2).1), (Value.slice (((((z11).2).2).2).1).1 ((((((z11).2).2).2).1).2).1 ((((((z11).2).2).2).1).2).2), (Value.slice ((((((z11).2).2).2).2).1).1 (((((((z11).2).2).2).2).1).2).1 (((((((z11).2).2).2).2).1).2).2)])) <|
    .effS (Instr.loadAt 27 (Value.pointer (some z1))) (.agg (.cons (.int .i64) (.cons (.int .i64) (.cons (.int .i64) (.cons .slice (.cons .slice .nil)))))) fun (z12 : (Int × (Int × (Int × (((Option Addr) × (Nat × Nat)) × (((Option Addr) × (Nat × Nat)) × PUnit)))))) =>
    .leaf 0 [(Value.agg #[(Value.int IntKind.i64 (z12).1), (Value.int IntKind.i64 ((z12).2).1), (Value.int IntKind.i64 (((z12).2).2).1), (Value.slice (((((z12).2).2).2).1).1 ((((((z12).2).2).2).1).2).1 ((((((z12).2).2).2).1).2).2), (Value.slice ((((((z12).2).2).2).2).1).1 (((((((z12).2).2).2).2).1).2).1 (((((((z12).2).2).2).2).1).2).2)]), (Value.int IntKind.i64 ((keys_len : Nat) : Int))])
def spec_Reach.t (text : ByteArray) (p_0 : Int) (p_1 : Int) (p_2 : Int) (p_3 : (Option Addr)) (p_3_len : Nat) (p_3_cap : Nat) (p_4 : (Option Addr)) (p_4_len : Nat) (p_4_cap : Nat) (keys : (Option Addr)) (keys_len : Nat) (keys_cap : Nat) : T :=
  .alloc (Obj.cells #[(Value.int IntKind.i64 p_0), (Value.int IntKind.i64 p_1), (Value.int IntKind.i64 p_2), (Value.slice p_3 p_3_len p_3_cap), (Value.slice p_4 p_4_len p_4_cap)] 27 (0, 0)) fun (z0 : Addr) =>
  .alloc (Obj.cells #[(Value.int IntKind.i64 (0 : Int)), (Value.int IntKind.i64 (0 : Int)), (Value.int IntKind.i64 (0 : Int)), (Value.slice none 0 0), (Value.slice none 0 0)] 27 (0, 0)) fun (z1 : Addr) =>
  .loop 1 (.cons (.int .i64) .nil) [(Value.int IntKind.i64 (0 : Int))]
    (fun z => spec_Reach.t1 text keys keys_len z0 z1 z.1)
def spec_Reach.h : Hints := ⟨[], [], [], [(2, [(14, (.int .i64))])]⟩
noncomputable def spec_Reach.c : Code := (Tryd.f30.body).getD .skip
theorem spec_Reach.e (text : ByteArray) (p_0 : Int) (p_1 : Int) (p_2 : Int) (p_3 : (Option Addr)) (p_3_len : Nat) (p_3_cap : Nat) (p_4 : (Option Addr)) (p_4_len : Nat) (p_4_cap : Nat) (keys : (Option Addr)) (keys_len : Nat) (keys_cap : Nat) : fnT Tryd.prog spec_Reach.h Tryd.f30 spec_Reach.c [.v (Value.string text), .v (Value.agg #[(Value.int IntKind.i64 p_0), (Value.int IntKind.i64 p_1), (Value.int IntKind.i64 p_2), (Value.slice p_3 p_3_len p_3_cap), (Value.slice p_4 p_4_len p_4_cap)]), .v (Value.slice keys keys_len keys_cap)] = spec_Reach.t text p_0 p_1 p_2 p_3 p_3_len p_3_cap p_4 p_4_len p_4_cap keys keys_len keys_cap := by kernel_rfl
theorem spec_Reach.calls (text : ByteArray) (p_0 : Int) (p_1 : Int) (p_2 : Int) (p_3 : (Option Addr)) (p_3_len : Nat) (p_3_cap : Nat) (p_4 : (Option Addr)) (p_4_len : Nat) (p_4_cap : Nat) (keys : (Option Addr)) (keys_len : Nat) (keys_cap : Nat) {w : World} {R : Ending → World → Prop} (hs : sat Tryd.prog (spec_Reach.t text p_0 p_1 p_2 p_3 p_3_len p_3_cap p_4 p_4_len p_4_cap keys keys_len keys_cap) (fun l vs w' => l = 0 ∧ R (.returned (retVal vs)) w') w) : Calls Tryd.prog 30 #[(Value.string text), (Value.agg #[(Value.int IntKind.i64 p_0), (Value.int IntKind.i64 p_1), (Value.int IntKind.i64 p_2), (Value.slice p_3 p_3_len p_3_cap), (Value.slice p_4 p_4_len p_4_cap)]), (Value.slice keys keys_len keys_cap)] w R :=
  have h := calls_of_tree (w := w) (R := R) (args := [.v (Value.string text), .v (Value.agg #[(Value.int IntKind.i64 p_0), (Value.int IntKind.i64 p_1), (Value.int IntKind.i64 p_2), (Value.slice p_3 p_3_len p_3_cap), (Value.slice p_4 p_4_len p_4_cap)]), .v (Value.slice keys keys_len keys_cap)]) (c := spec_Reach.c) Tryd.func30 (show Tryd.f30.body = some spec_Reach.c by kernel_rfl) (of_decide_eq_true (by kernel_rfl)) (spec_Reach.e text p_0 p_1 p_2 p_3 p_3_len p_3_cap p_4 p_4_len p_4_cap keys keys_len keys_cap) hs
  h

/-! ### pub-tetrapla/spec.AsIs : function 31 -/
def spec_AsIs.t1 (name : ByteArray) (i0 : Int) : T :=
  .ite (decide (i0 < (((ByteArray.size name) : Nat) : Int))) (
    .chk (((0 : Int) ≤ i0) ∧ (i0 < (((ByteArray.size name) : Nat) : Int))) <|
    .ite ((bt name i0) == (34 : Int)) (
      .leaf 0 [(Value.bool Bool.false)]) (
      .ite ((bt name i0) == (92 : Int)) (
        .leaf 0 [(Value.bool Bool.false)]) (
        .ite (decide ((bt name i0) < (32 : Int))) (
          .leaf 0 [(Value.bool Bool.false)]) (
          .leaf 1 [(Value.int IntKind.i64 (IntKind.wrap IntKind.i64 (i0 + (1 : Int))))])))) (
    .leaf 0 [(Value.bool (!(strEq name (ByteArray.mk #[]))))])
def spec_AsIs.t (name : ByteArray) : T :=
  .loop 1 (.cons (.int .i64) .nil) [(Value.int IntKind.i64 (0 : Int))]
    (fun z => spec_AsIs.t1 name z.1)
def spec_AsIs.h : Hints := ⟨[], [], [], [(2, [(3, (.int .i64))])]⟩
noncomputable def spec_AsIs.c : Code := (Tryd.f31.body).getD .skip
theorem spec_AsIs.e (name : ByteArray) : fnT Tryd.prog spec_AsIs.h Tryd.f31 spec_AsIs.c [.v (Value.string name)] = spec_AsIs.t name := by kernel_rfl
theorem spec_AsIs.calls (name : ByteArray) {w : World} {R : Ending → World → Prop} (hs : sat Tryd.prog (spec_AsIs.t name) (fun l vs w' => l = 0 ∧ R (.returned (retVal vs)) w') w) : Calls Tryd.prog 31 #[(Value.string name)] w R :=
  have h := calls_of_tree (w := w) (R := R) (args := [.v (Value.string name)]) (c := spec_AsIs.c) Tryd.func31 (show Tryd.f31.body = some spec_AsIs.c by kernel_rfl) (of_decide_eq_true (by kernel_rfl)) (spec_AsIs.e name) hs
  h

end Go.Proofs.YtlfebfkphgelfaaDoor.Tr
