/- Trees of loaded functions, printed by wip/tools/rxprint (a program of this repo): each is what 'exec' comes to, held by the kernel. No statement of the set is proved here. -/
import Derived.Test.YtlfebfkphgelfaaDoorRz
import Derived.Test.YtlfebfkphgelfaaDoorProg
import Derived.KernelRfl
namespace Go.Proofs.YtlfebfkphgelfaaDoor.Tr
open Go Go.Proofs Go.Proofs.YtlfebfkphgelfaaDoor.Rx
set_option linter.unusedVariables false
set_option maxRecDepth 100000
/-! ### pub-tetrapla/laws.zzFits1 : function 5 -/
def laws_zzFits1.t1 (x : (Option Addr)) (x_len : Nat) (i0 : Int) : T :=
  .ite (decide (i0 < ((x_len : Nat) : Int))) (
    .chk (((0 : Int) ≤ i0) ∧ (i0 < ((x_len : Nat) : Int))) <|
    .ptr x fun (z1 : Addr) =>
    .load (Addr.add z1 ((Int.toNat i0) * 1)) .str fun (s2 : ByteArray) =>
    .ite (decide ((((ByteArray.size s2) : Nat) : Int) > (2147483647 : Int))) (
      .leaf 0 [(Value.bool Bool.false)]) (
      .leaf 1 [(Value.int IntKind.i64 (IntKind.wrap IntKind.i64 (i0 + (1 : Int))))])) (
    .leaf 0 [(Value.bool Bool.true)])
def laws_zzFits1.t (x : (Option Addr)) (x_len : Nat) (x_cap : Nat) : T :=
  .ite (decide (((x_len : Nat) : Int) > (2147483647 : Int))) (
    .leaf 0 [(Value.bool Bool.false)]) (
    .loop 1 (.cons (.int .i64) .nil) [(Value.int IntKind.i64 (0 : Int))]
      (fun z => laws_zzFits1.t1 x x_len z.1))
def laws_zzFits1.h : Hints := ⟨[], [], [], [(4, [(10, (.int .i64))])]⟩
noncomputable def laws_zzFits1.c : Code := (Tryd.f5.body).getD .skip
theorem laws_zzFits1.e (x : (Option Addr)) (x_len : Nat) (x_cap : Nat) : fnT Tryd.prog laws_zzFits1.h Tryd.f5 laws_zzFits1.c [.v (Value.slice x x_len x_cap)] = laws_zzFits1.t x x_len x_cap := by kernel_rfl
theorem laws_zzFits1.calls (x : (Option Addr)) (x_len : Nat) (x_cap : Nat) {w : World} {R : Ending → World → Prop} (hs : sat Tryd.prog (laws_zzFits1.t x x_len x_cap) (fun l vs w' => l = 0 ∧ R (.returned (retVal vs)) w') w) : Calls Tryd.prog 5 #[(Value.slice x x_len x_cap)] w R :=
  have h := calls_of_tree (w := w) (R := R) (args := [.v (Value.slice x x_len x_cap)]) (c := laws_zzFits1.c) Tryd.func5 (show Tryd.f5.body = some laws_zzFits1.c by kernel_rfl) (of_decide_eq_true (by kernel_rfl)) (laws_zzFits1.e x x_len x_cap) hs
  h

/-! ### pub-tetrapla/laws.jpFound : function 6 -/
def laws_jpFound.t3 (text : ByteArray) (z0 : Addr) (z2 : Addr) (i7 : Int) (s9 : ByteArray) (b12 : Bool) : T :=
  .ite b12 (
    .effU (Instr.storeAt 27 (Value.pointer (some z0)) (Value.agg #[(Value.int IntKind.i64 (0 : Int)), (Value.int IntKind.i64 (0 : Int)), (Value.int IntKind.i64 (0 : Int)), (Value.slice none 0 0), (Value.slice none 0 0)])) <|
    .effS (Instr.loadAt 27 (Value.pointer (some z0))) (.agg (.cons (.int .i64) (.cons (.int .i64) (.cons (.int .i64) (.cons .slice (.cons .slice .nil)))))) fun (z13 : (Int × (Int × (Int × (((Option Addr) × (Nat × Nat)) × (((Option Addr) × (Nat × Nat)) × PUnit)))))) =>
    .leaf 0 [(Value.agg #[(Value.int IntKind.i64 (z13).1), (Value.int IntKind.i64 ((z13).2).1), (Value.int IntKind.i64 (((z13).2).2).1), (Value.slice (((((z13).2).2).2).1).1 ((((((z13).2).2).2).1).2).1 ((((((z13).2).2).2).1).2).2), (Value.slice ((((((z13).2).2).2).2).1).1 (((((((z13).2).2).2).2).1).2).1 (((((((z13).2).2).2).2).1).2).2)]), (Value.bool Bool.false)]) (
    .eff (Instr.loadAt 27 (Value.pointer (some z2))) (.agg (.cons (.int .i64) (.cons (.int .i64) (.cons (.int .i64) (.cons .slice (.cons .slice .nil)))))) fun (z14 : (Int × (Int × (Int × (((Option Addr) × (Nat × Nat)) × (((Option Addr) × (Nat × Nat)) × PUnit)))))) =>
    .call 17 #[(Value.string text), (Value.agg #[(Value.int IntKind.i64 (z14).1), (Value.int IntKind.i64 ((z14).2).1), (Value.int IntKind.i64 (((z14).2).2).1), (Value.slice (((((z14).2).2).2).1).1 ((((((z14).2).2).2).1).2).1 ((((((z14).2).2).2).1).2).2), (Value.slice ((((((z14).2).2).2).2).1).1 (((((((z14).2).2).2).2).1).2).1 (((((((z14).2).2).2).2).1).2).2)]), (Value.string s9)] (.tuple (.cons (.agg (.cons (.int .i64) (.cons (.int .i64) (.cons (.int .i64) (.cons .slice (.cons .slice .nil)))))) (.cons .bool .nil))) fun (z15 : ((Int × (Int × (Int × (((Option Addr) × (Nat × Nat)) × (((Option Addr) × (Nat × Nat)) × PUnit))))) × (Bool × PUnit))) =>
    .effU (Instr.storeAt 27 (Value.pointer (some z2)) (Value.agg #[(Value.int IntKind.i64 ((z15).1).1), (Value.int IntKind.i64 (((z15).1).2).1), (Value.int IntKind.i64 ((((z15).1).2).2).1), (Value.slice ((((((z15).1).2).2).2).1).1 (((((((z15).1).2).2).2).1).2).1 (((((((z15).1).2).2).2).1).2).2), (Value.slice (((((((z15).1).2).2).2).2).1).1 ((((((((z15).1).2).2).2).2).1).2).1 ((((((((z15).1).2).2).2).2).1).2).2)])) <|
    .ite (!((z15).2).1) (
      .effU (Instr.storeAt 27 (Value.pointer (some z0)) (Value.agg #[(Value.int IntKind.i64 (0 : Int)), (Value.int IntKind.i64 (0 : Int)), (Value.int IntKind.i64 (0 : Int)), (Value.slice none 0 0), (Value.slice none 0 0)])) <|
      .effS (Instr.loadAt 27 (Value.pointer (some z0))) (.agg (.cons (.int .i64) (.cons (.int .i64) (.cons (.int .i64) (.cons .slice (.cons .slice .nil)))))) fun (z16 : (Int × (Int × (Int × (((Option Addr) × (Nat × Nat)) × (((Option Addr) × (Nat × Nat)) × PUnit)))))) =>
      .leaf 0 [(Value.agg #[(Value.int IntKind.i64 (z16).1), (Value.int IntKind.i64 ((z16).2).1), (Value.int IntKind.i64 (((z16).2).2).1), (Value.slice (((((z16).2).2).2).1).1 ((((((z16).2).2).2).1).2).1 ((((((z16).2).2).2).1).2).2), (Value.slice ((((((z16).2).2).2).2).1).1 (((((((z16).2).2).2).2).1).2).1 (((((((z16).2).2).2).2).1).2).2)]), (Value.bool Bool.false)]) (
      .leaf 1 [(Value.int IntKind.i64 (IntKind.wrap IntKind.i64 (i7 + (1 : Int))))]))
def laws_jpFound.t2 (text : ByteArray) (keys : (Option Addr)) (keys_len : Nat) (z0 : Addr) (z2 : Addr) (i7 : Int) : T :=
  .ite (decide (i7 < ((keys_len : Nat) : Int))) (
    .chk (((0 : Int) ≤ i7) ∧ (i7 < ((keys_len : Nat) : Int))) <|
    .ptr keys fun (z8 : Addr) =>
    .load (Addr.add z8 ((Int.toNat i7) * 1)) .str fun (s9 : ByteArray) =>
    .cut 2 (.cons .bool .nil) (
      .load (Addr.add z2 0) (.int .i64) fun (i10 : Int) =>
      .ite (i10 == (6 : Int)) (
        .call 16 #[(Value.string s9)] .bool fun (b11 : Bool) =>
        .leaf 2 [(Value.bool b11)]) (
        .leaf 2 [(Value.bool Bool.false)]))
      (fun z => laws_jpFound.t3 text z0 z2 i7 s9 z.1)) (
    .eff (Instr.loadAt 27 (Value.pointer (some z2))) (.agg (.cons (.int .i64) (.cons (.int .i64) (.cons (.int .i64) (.cons .slice (.cons .slice .nil)))))) fun (z17 : (Int × (Int × (Int × (((Option Addr) × (Nat × Nat)) × (((Option Addr) × (Nat × Nat)) × PUnit)))))) =>
    .effU (Instr.storeAt 27 (Value.pointer (some z0)) (Value.agg #[(Value.int IntKind.i64 (z17).1), (Value.int IntKind.i64 ((z17).2).1), (Value.int IntKind.i64 (((z17).2).2).1), (Value.slice (((((z17).2).2).2).1).1 ((((((z17).2).2).2).1).2).1 ((((((z17).2).2).2).1).2).2), (Value.slice ((((((z17).2).2).2).2).1).1 (((((((z17).2).2).2).2).1).2).1 (((((((z17).2).2).2).2).1).2).2)])) <|
    .effS (Instr.loadAt 27 (Value.pointer (some z0))) (.agg (.cons (.int .i64) (.cons (.int .i64) (.cons (.int .i64) (.cons .slice (.cons .slice .nil)))))) fun (z18 : (Int × (Int × (Int × (((Option Addr) × (Nat × Nat)) × (((Option Addr) × (Nat × Nat)) × PUnit)))))) =>
    .leaf 0 [(Value.agg #[(Value.int IntKind.i64 (z18).1), (Value.int IntKind.i64 ((z18).2).1), (Value.int IntKind.i64 (((z18).2).2).1), (Value.slice (((((z18).2).2).2).1).1 ((((((z18).2).2).2).1).2).1 ((((((z18).2).2).2).1).2).2), (Value.slice ((((((z18).2).2).2).2).1).1 (((((((z18).2).2).2).2).1).2).1 (((((((z18).2).2).2).2).1).2).2)]), (Value.bool Bool.true)])
def laws_jpFound.t1 (text : ByteArray) (keys : (Option Addr)) (keys_len : Nat) (z0 : Addr) (z2 : Addr) (b5 : Bool) : T :=
  .ite b5 (
    .effU (Instr.storeAt 27 (Value.pointer (some z0)) (Value.agg #[(Value.int IntKind.i64 (0 : Int)), (Value.int IntKind.i64 (0 : Int)), (Value.int IntKind.i64 (0 : Int)), (Value.slice none 0 0), (Value.slice none 0 0)])) <|
    .effS (Instr.loadAt 27 (Value.pointer (some z0))) (.agg (.cons (.int .i64) (.cons (.int .i64) (.cons (.int .i64) (.cons .slice (.cons .slice .nil)))))) fun (z6 : (Int × (Int × (Int × (((Option Addr) × (Nat × Nat)) × (((Option Addr) × (Nat × Nat)) × PUnit)))))) =>
    .leaf 0 [(Value.agg #[(Value.int IntKind.i64 (z6).1), (Value.int IntKind.i64 ((z6).2).1), (Value.int IntKind.i64 (((z6).2).2).1), (Value.slice (((((z6).2).2).2).1).1 ((((((z6).2).2).2).1).2).1 ((((((z6).2).2).2).1).2).2), (Value.slice ((((((z6).2).2).2).2).1).1 (((((((z6).2).2).2).2).1).2).1 (((((((z6).2).2).2).2).1).2).2)]), (Value.bool Bool.false)]) (
    .loop 1 (.cons (.int .i64) .nil) [(Value.int IntKind.i64 (0 : Int))]
      (fun z => laws_jpFound.t2 text keys keys_len z0 z2 z.1))
def laws_jpFound.t (text : ByteArray) (keys : (Option Addr)) (keys_len : Nat) (keys_cap : Nat) : T :=
  .alloc (Obj.cells #[(Value.int IntKind.i64 (0 : Int)), (Value.int IntKind.i64 (0 : Int)), (Value.int IntKind.i64 (0 : Int)), (Value.slice none 0 0), (Value.slice none 0 0)] 27 (0, 0)) fun (z0 : Addr) =>
  .call 8 #[(Value.string text)] (.tuple (.cons (.agg (.cons (.int .i64) (.cons (.int .i64) (.cons (.int .i64) (.cons .slice (.cons .slice .nil)))))) (.cons .bool .nil))) fun (z1 : ((Int × (Int × (Int × (((Option Addr) × (Nat × Nat)) × (((Option Addr) × (Nat × Nat)) × PUnit))))) × (Bool × PUnit))) =>
  .alloc (Obj.cells #[(Value.int IntKind.i64 (0 : Int)), (Value.int IntKind.i64 (0 : Int)), (Value.int IntKind.i64 (0 : Int)), (Value.slice none 0 0), (Value.slice none 0 0)] 27 (0, 0)) fun (z2 : Addr) =>
  .effU (Instr.storeAt 27 (Value.pointer (some z2)) (Value.agg #[(Value.int IntKind.i64 ((z1).1).1), (Value.int IntKind.i64 (((z1).1).2).1), (Value.int IntKind.i64 ((((z1).1).2).2).1), (Value.slice ((((((z1).1).2).2).2).1).1 (((((((z1).1).2).2).2).1).2).1 (((((((z1).1).2).2).2).1).2).2), (Value.slice (((((((z1).1).2).2).2).2).1).1 ((((((((z1).1).2).2).2).2).1).2).1 ((((((((z1).1).2).2).2).2).1).2).2)])) <|
  .cut 1 (.cons .bool .nil) (
    .ite (!((z1).2).1) (
      .leaf 1 [(Value.bool Bool.true)]) (
      .eff (Instr.loadAt 27 (Value.pointer (some z2))) (.agg (.cons (.int .i64) (.cons (.int .i64) (.cons (.int .i64) (.cons .slice (.cons .slice .nil)))))) fun (z3 : (Int × (Int × (Int × (((Option Addr) × (Nat × Nat)) × (((Option Addr) × (Nat × Nat)) × PUnit)))))) =>
      .call 15 #[(Value.string text), (Value.agg #[(Value.int IntKind.i64 (z3).1), (Value.int IntKind.i64 ((z3).2).1), (Value.int IntKind.i64 (((z3).2).2).1), (Value.slice (((((z3).2).2).2).1).1 ((((((z3).2).2).2).1).2).1 ((((((z3).2).2).2).1).2).2), (Value.slice ((((((z3).2).2).2).2).1).1 (((((((z3).2).2).2).2).1).2).1 (((((((z3).2).2).2).2).1).2).2)]), (Value.slice keys keys_len keys_cap)] .bool fun (b4 : Bool) =>
      .leaf 1 [(Value.bool (!b4))]))
    (fun z => laws_jpFound.t1 text keys keys_len z0 z2 z.1)
def laws_jpFound.h : Hints := ⟨[], [], [(2, [(23, .bool)]), (7, [(37, .bool)])], [(5, [(27, (.int .i64))])]⟩
noncomputable def laws_jpFound.c : Code := (Tryd.f6.body).getD .skip
theorem laws_jpFound.e (text : ByteArray) (keys : (Option Addr)) (keys_len : Nat) (keys_cap : Nat) : fnT Tryd.prog laws_jpFound.h Tryd.f6 laws_jpFound.c [.v (Value.string text), .v (Value.slice keys keys_len keys_cap)] = laws_jpFound.t text keys keys_len keys_cap := by kernel_rfl
theorem laws_jpFound.calls (text : ByteArray) (keys : (Option Addr)) (keys_len : Nat) (keys_cap : Nat) {w : World} {R : Ending → World → Prop} (hs : sat Tryd.prog (laws_jpFound.t text keys keys_len keys_cap) (fun l vs w' => l = 0 ∧ R (.returned (retVal vs)) w') w) : Calls Tryd.prog 6 #[(Value.string text), (Value.slice keys keys_len keys_cap)] w R :=
  have h := calls_of_tree (w := w) (R := R) (args := [.v (Value.string text), .v (Value.slice keys keys_len keys_cap)]) (c := laws_jpFound.c) Tryd.func6 (show Tryd.f6.body = some laws_jpFound.c by kernel_rfl) (of_decide_eq_true (by kernel_rfl)) (laws_jpFound.e text keys keys_len keys_cap) hs
  h

/-! ### pub-tetrapla/laws.jpPlaces : function 8 -/
def laws_jpPlaces.t (text : ByteArray) : T :=
  .alloc (Obj.cells #[(Value.int IntKind.i64 (0 : Int)), (Value.int IntKind.i64 (0 : Int)), (Value.int IntKind.i64 (0 : Int)), (Value.slice none 0 0), (Value.slice none 0 0)] 27 (0, 0)) fun (z0 : Addr) =>
  .ite (decide ((((ByteArray.size text) : Nat) : Int) > (65536 : Int))) (
    .effU (Instr.storeAt 27 (Value.pointer (some z0)) (Value.agg #[(Value.int IntKind.i64 (0 : Int)), (Value.int IntKind.i64 (0 : Int)), (Value.int IntKind.i64 (0 : Int)), (Value.slice none 0 0), (Value.slice none 0 0)])) <|
    .effS (Instr.loadAt 27 (Value.pointer (some z0))) (.agg (.cons (.int .i64) (.cons (.int .i64) (.cons (.int .i64) (.cons .slice (.cons .slice .nil)))))) fun (z1 : (Int × (Int × (Int × (((Option Addr) × (Nat × Nat)) × (((Option Addr) × (Nat × Nat)) × PUnit)))))) =>
    .leaf 0 [(Value.agg #[(Value.int IntKind.i64 (z1).1), (Value.int IntKind.i64 ((z1).2).1), (Value.int IntKind.i64 (((z1).2).2).1), (Value.slice (((((z1).2).2).2).1).1 ((((((z1).2).2).2).1).2).1 ((((((z1).2).2).2).1).2).2), (Value.slice ((((((z1).2).2).2).2).1).1 (((((((z1).2).2).2).2).1).2).1 (((((((z1).2).2).2).2).1).2).2)]), (Value.bool Bool.false)]) (
    .call 10 #[(Value.string text)] (.tuple (.cons (.agg (.cons (.int .i64) (.cons (.int .i64) (.cons (.int .i64) (.cons .slice (.cons .slice .nil)))))) (.cons .bool .nil))) fun (z2 : ((Int × (Int × (Int × (((Option Addr) × (Nat × Nat)) × (((Option Addr) × (Nat × Nat)) × PUnit))))) × (Bool × PUnit))) =>
    .effU (Instr.storeAt 27 (Value.pointer (some z0)) (Value.agg #[(Value.int IntKind.i64 ((z2).1).1), (Value.int IntKind.i64 (((z2).1).2).1), (Value.int IntKind.i64 ((((z2).1).2).2).1), (Value.slice ((((((z2).1).2).2).2).1).1 (((((((z2).1).2).2).2).1).2).1 (((((((z2).1).2).2).2).1).2).2), (Value.slice (((((((z2).1).2).2).2).2).1).1 ((((((((z2).1).2).2).2).2).1).2).1 ((((((((z2).1).2).2).2).2).1).2).2)])) <|
    .effS (Instr.loadAt 27 (Value.pointer (some z0))) (.agg (.cons (.int .i64) (.cons (.int .i64) (.cons (.int .i64) (.cons .slice (.cons .slice .nil)))))) fun (z3 : (Int × (Int × (Int × (((Option Addr) × (Nat × Nat)) × (((Option Addr) × (Nat × Nat)) × PUnit)))))) =>
    .leaf 0 [(Value.agg #[(Value.int IntKind.i64 (z3).1), (Value.int IntKind.i64 ((z3).2).1), (Value.int IntKind.i64 (((z3).2).2).1), (Value.slice (((((z3).2).2).2).1).1 ((((((z3).2).2).2).1).2).1 ((((((z3).2).2).2).1).2).2), (Value.slice ((((((z3).2).2).2).2).1).1 (((((((z3).2).2).2).2).1).2).1 (((((((z3).2).2).2).2).1).2).2)]), (Value.bool ((z2).2).1)])
def laws_jpPlaces.h : Hints := ⟨[], [], [], []⟩
noncomputable def laws_jpPlaces.c : Code := (Tryd.f8.body).getD .skip
theorem laws_jpPlaces.e (text : ByteArray) : fnT Tryd.prog laws_jpPlaces.h Tryd.f8 laws_jpPlaces.c [.v (Value.string text)] = laws_jpPlaces.t text := by kernel_rfl
theorem laws_jpPlaces.calls (text : ByteArray) {w : World} {R : Ending → World → Prop} (hs : sat Tryd.prog (laws_jpPlaces.t text) (fun l vs w' => l = 0 ∧ R (.returned (retVal vs)) w') w) : Calls Tryd.prog 8 #[(Value.string text)] w R :=
  have h := calls_of_tree (w := w) (R := R) (args := [.v (Value.string text)]) (c := laws_jpPlaces.c) Tryd.func8 (show Tryd.f8.body = some laws_jpPlaces.c by kernel_rfl) (of_decide_eq_true (by kernel_rfl)) (laws_jpPlaces.e text) hs
  h

/-! ### pub-tetrapla/spec.Places : function 10 -/
def spec_Places.t (text : ByteArray) : T :=
  .alloc (Obj.cells #[(Value.int IntKind.i64 (0 : Int)), (Value.int IntKind.i64 (0 : Int)), (Value.int IntKind.i64 (0 : Int)), (Value.slice none 0 0), (Value.slice none 0 0)] 27 (0, 0)) fun (z0 : Addr) =>
  .alloc (Obj.cells #[(Value.string (ByteArray.mk #[])), (Value.int IntKind.i64 (0 : Int))] 55 (0, 0)) fun (z1 : Addr) =>
  .effU (Instr.storeAt 55 (Value.pointer (some z1)) (Value.agg #[(Value.string text), (Value.int IntKind.i64 (0 : Int))])) <|
  .call 20 #[(Value.pointer (some z1))] (.tuple .nil) fun _ =>
  .call 21 #[(Value.pointer (some z1))] (.tuple (.cons (.agg (.cons (.int .i64) (.cons (.int .i64) (.cons (.int .i64) (.cons .slice (.cons .slice .nil)))))) (.cons .bool .nil))) fun (z2 : ((Int × (Int × (Int × (((Option Addr) × (Nat × Nat)) × (((Option Addr) × (Nat × Nat)) × PUnit))))) × (Bool × PUnit))) =>
  .alloc (Obj.cells #[(Value.int IntKind.i64 (0 : Int)), (Value.int IntKind.i64 (0 : Int)), (Value.int IntKind.i64 (0 : Int)), (Value.slice none 0 0), (Value.slice none 0 0)] 27 (0, 0)) fun (z3 : Addr) =>
  .effU (Instr.storeAt 27 (Value.pointer (some z3)) (Value.agg #[(Value.int IntKind.i64 ((z2).1).1), (Value.int IntKind.i64 (((z2).1).2).1), (Value.int IntKind.i64 ((((z2).1).2).2).1), (Value.slice ((((((z2).1).2).2).2).1).1 (((((((z2).1).2).2).2).1).2).1 (((((((z2).1).2).2).2).1).2).2), (Value.slice (((((((z2).1).2).2).2).2).1).1 ((((((((z2).1).2).2).2).2).1).2).1 ((((((((z2).1).2).2).2).2).1).2).2)])) <|
  .ite (!((z2).2).1) (
    .effU (Instr.storeAt 27 (Value.pointer (some z0)) (Value.agg #[(Value.int IntKind.i64 (0 : Int)), (Value.int IntKind.i64 (0 : Int)), (Value.int IntKind.i64 (0 : Int)), (Value.slice none 0 0), (Value.slice none 0 0)])) <|
    .effS (Instr.loadAt 27 (Value.pointer (some z0))) (.agg (.cons (.int .i64) (.cons (.int .i64) (.cons (.int .i64) (.cons .slice (.cons .slice .nil)))))) fun (z4 : (Int × (Int × (Int × (((Option Addr) × (Nat × Nat)) × (((Option Addr) × (Nat × Nat)) × PUnit)))))) =>
    .leaf 0 [(Value.agg #[(Value.int IntKind.i64 (z4).1), (Value.int IntKind.i64 ((z4).2).1), (Value.int IntKind.i64 (((z4).2).2).1), (Value.slice (((((z4).2).2).2).1).1 ((((((z4).2).2).2).1).2).1 ((((((z4).2).2).2).1).2).2), (Value.slice ((((((z4).2).2).2).2).1).1 (((((((z4).2).2).2).2).1).2).1 (((((((z4).2).2).2).2).1).2).2)]), (Value.bool Bool.false)]) (
    .call 20 #[(Value.pointer (some z1))] (.tuple .nil) fun _ =>
    .load (Addr.add z1 1) (.int .i64) fun (i5 : Int) =>
    .ite (i5 != (((ByteArray.size text) : Nat) : Int)) (
      .effU (Instr.storeAt 27 (Value.pointer (some z0)) (Value.agg #[(Value.int IntKind.i64 (0 : Int)), (Value.int IntKind.i64 (0 : Int)), (Value.int IntKind.i64 (0 : Int)), (Value.slice none 0 0), (Value.slice none 0 0)])) <|
      .effS (Instr.loadAt 27 (Value.pointer (some z0))) (.agg (.cons (.int .i64) (.cons (.int .i64) (.cons (.int .i64) (.cons .slice (.cons .slice .nil)))))) fun (z6 : (Int × (Int × (Int × (((Option Addr) × (Nat × Nat)) × (((Option Addr) × (Nat × Nat)) × PUnit)))))) =>
      .leaf 0 [(Value.agg #[(Value.int IntKind.i64 (z6).1), (Value.int IntKind.i64 ((z6).2).1), (Value.int IntKind.i64 (((z6).2).2).1), (Value.slice (((((z6).2).2).2).1).1 ((((((z6).2).2).2).1).2).1 ((((((z6).2).2).2).1).2).2), (Value.slice ((((((z6).2).2).2).2).1).1 (((((((z6).2).2).2).2).1).2).1 (((((((z6).2).2).2).2).1).2).2)]), (Value.bool Bool.false)]) (
      .eff (Instr.loadAt 27 (Value.pointer (some z3))) (.agg (.cons (.int .i64) (.cons (.int .i64) (.cons (.int .i64) (.cons .slice (.cons .slice .nil)))))) fun (z7 : (Int × (Int × (Int × (((Option Addr) × (Nat × Nat)) × (((Option Addr) × (Nat × Nat)) × PUnit)))))) =>
      .effU (Instr.storeAt 27 (Value.pointer (some z0)) (Value.agg #[(Value.int IntKind.i64 (z7).1), (Value.int IntKind.i64 ((z7).2).1), (Value.int IntKind.i64 (((z7).2).2).1), (Value.slice (((((z7).2).2).2).1).1 ((((((z7).2).2).2).1).2).1 ((((((z7).2).2).2).1).2).2), (Value.slice ((((((z7).2).2).2).2).1).1 (((((((z7).2).2).2).2).1).2).1 (((((((z7).2).2).2).2).1).2).2)])) <|
      .effS (Instr.loadAt 27 (Value.pointer (some z0))) (.agg (.cons (.int .i64) (.cons (.int .i64) (.cons (.int .i64) (.cons .slice (.cons .slice .nil)))))) fun (z8 : (Int × (Int × (Int × (((Option Addr) × (Nat × Nat)) × (((Option Addr) × (Nat × Nat)) × PUnit)))))) =>
      .leaf 0 [(Value.agg #[(Value.int IntKind.i64 (z8).1), (Value.int IntKind.i64 ((z8).2).1), (Value.int IntKind.i64 (((z8).2).2).1), (Value.slice (((((z8).2).2).2).1).1 ((((((z8).2).2).2).1).2).1 ((((((z8).2).2).2).1).2).2), (Value.slice ((((((z8).2).2).2).2).1).1 (((((((z8).2).2).2).2).1).2).1 (((((((z8).2).2).2).2).1).2).2)]), (Value.bool Bool.true)]))
def spec_Places.h : Hints := ⟨[], [], [], []⟩
noncomputable def spec_Places.c : Code := (Tryd.f10.body).getD .skip
theorem spec_Places.e (text : ByteArray) : fnT Tryd.prog spec_Places.h Tryd.f10 spec_Places.c [.v (Value.string text)] = spec_Places.t text := by kernel_rfl
theorem spec_Places.calls (text : ByteArray) {w : World} {R : Ending → World → Prop} (hs : sat Tryd.prog (spec_Places.t text) (fun l vs w' => l = 0 ∧ R (.returned (retVal vs)) w') w) : Calls Tryd.prog 10 #[(Value.string text)] w R :=
  have h := calls_of_tree (w := w) (R := R) (args := [.v (Value.string text)]) (c := spec_Places.c) Tryd.func10 (show Tryd.f10.body = some spec_Places.c by kernel_rfl) (of_decide_eq_true (by kernel_rfl)) (spec_Places.e text) hs
  h

/-! ### pub-tetrapla/spec.Once : function 15 -/
def spec_Once.t2 (text : ByteArray) (z0 : Addr) (s3 : ByteArray) (i5 : Int) (i6 : Int) : T :=
  .load (Addr.add z0 3) .slice fun (z7 : ((Option Addr) × (Nat × Nat))) =>
  .ite (decide (i5 < ((((z7).2).1 : Nat) : Int))) (
    .drew <|
    .load (Addr.add z0 3) .slice fun (z8 : ((Option Addr) × (Nat × Nat))) =>
    .chk (((0 : Int) ≤ i5) ∧ (i5 < ((((z8).2).1 : Nat) : Int))) <|
    .ptr (z8).1 fun (z9 : Addr) =>
    .load (Addr.add (Addr.add z9 ((Int.toNat i5) * 2)) 0) (.int .i64) fun (i10 : Int) =>
    .load (Addr.add z0 3) .slice fun (z11 : ((Option Addr) × (Nat × Nat))) =>
    .chk (((0 : Int) ≤ i5) ∧ (i5 < ((((z11).2).1 : Nat) : Int))) <|
    .ptr (z11).1 fun (z12 : Addr) =>
    .load (Addr.add (Addr.add z12 ((Int.toNat i5) * 2)) 1) (.int .i64) fun (i13 : Int) =>
    .chk (((0 : Int) ≤ i10) ∧ ((i10 ≤ i13) ∧ (i13 ≤ (((ByteArray.size text) : Nat) : Int)))) <|
    .call 27 #[(Value.string (ByteArray.extract text (Int.toNat i10) (Int.toNat i13)))] .str fun (s14 : ByteArray) =>
    .ite (strEq s14 s3) (
      .leaf 3 [(Value.int IntKind.i64 (IntKind.wrap IntKind.i64 (i5 + (1 : Int)))), (Value.int IntKind.i64 (IntKind.wrap IntKind.i64 (i6 + (1 : Int))))]) (
      .leaf 3 [(Value.int IntKind.i64 (IntKind.wrap IntKind.i64 (i5 + (1 : Int)))), (Value.int IntKind.i64 i6)])) (
    .ite (decide (i6 > (1 : Int))) (
      .leaf 0 [(Value.bool Bool.false)]) (
      .leaf 2 []))
def spec_Once.t3 (text : ByteArray) (z0 : Addr) (i1 : Int) (s3 : ByteArray) : T :=
  .eff (Instr.loadAt 27 (Value.pointer (some z0))) (.agg (.cons (.int .i64) (.cons (.int .i64) (.cons (.int .i64) (.cons .slice (.cons .slice .nil)))))) fun (z15 : (Int × (Int × (Int × (((Option Addr) × (Nat × Nat)) × (((Option Addr) × (Nat × Nat)) × PUnit)))))) =>
  .call 17 #[(Value.string text), (Value.agg #[(Value.int IntKind.i64 (z15).1), (Value.int IntKind.i64 ((z15).2).1), (Value.int IntKind.i64 (((z15).2).2).1), (Value.slice (((((z15).2).2).2).1).1 ((((((z15).2).2).2).1).2).1 ((((((z15).2).2).2).1).2).2), (Value.slice ((((((z15).2).2).2).2).1).1 (((((((z15).2).2).2).2).1).2).1 (((((((z15).2).2).2).2).1).2).2)]), (Value.string s3)] (.tuple (.cons (.agg (.cons (.int .i64) (.cons (.int .i64) (.cons (.int .i64) (.cons .slice (.cons .slice .nil)))))) (.cons .bool .nil))) fun (z16 : ((Int × (Int × (Int × (((Option Addr) × (Nat × Nat)) × (((Option Addr) × (Nat × Nat)) × PUnit))))) × (Bool × PUnit))) =>
  .alloc (Obj.cells #[(Value.int IntKind.i64 (0 : Int)), (Value.int IntKind.i64 (0 : Int)), (Value.int IntKind.i64 (0 : Int)), (Value.slice none 0 0), (Value.slice none 0 0)] 27 (0, 0)) fun (z17 : Addr) =>
  .effU (Instr.storeAt 27 (Value.pointer (some z17)) (Value.agg #[(Value.int IntKind.i64 ((z16).1).1), (Value.int IntKind.i64 (((z16).1).2).1), (Value.int IntKind.i64 ((((z16).1).2).2).1), (Value.slice ((((((z16).1).2).2).2).1).1 (((((((z16).1).2).2).2).1).2).1 (((((((z16).1).2).2).2).1).2).2), (Value.slice (((((((z16).1).2).2).2).2).1).1 ((((((((z16).1).2).2).2).2).1).2).1 ((((((((z16).1).2).2).2).2).1).2).2)])) <|
  .ite (!((z16).2).1) (
    .leaf 0 [(Value.bool Bool.true)]) (
    .eff (Instr.loadAt 27 (Value.pointer (some z17))) (.agg (.cons (.int .i64) (.cons (.int .i64) (.cons (.int .i64) (.cons .slice (.cons .slice .nil)))))) fun (z18 : (Int × (Int × (Int × (((Option Addr) × (Nat × Nat)) × (((Option Addr) × (Nat × Nat)) × PUnit)))))) =>
    .effU (Instr.storeAt 27 (Value.pointer (some z0)) (Value.agg #[(Value.int IntKind.i64 (z18).1), (Value.int IntKind.i64 ((z18).2).1), (Value.int IntKind.i64 (((z18).2).2).1), (Value.slice (((((z18).2).2).2).1).1 ((((((z18).2).2).2).1).2).1 ((((((z18).2).2).2).1).2).2), (Value.slice ((((((z18).2).2).2).2).1).1 (((((((z18).2).2).2).2).1).2).1 (((((((z18).2).2).2).2).1).2).2)])) <|
    .leaf 1 [(Value.int IntKind.i64 (IntKind.wrap IntKind.i64 (i1 + (1 : Int))))])
def spec_Once.t1 (text : ByteArray) (keys : (Option Addr)) (keys_len : Nat) (z0 : Addr) (i1 : Int) : T :=
  .ite (decide (i1 < ((keys_len : Nat) : Int))) (
    .chk (((0 : Int) ≤ i1) ∧ (i1 < ((keys_len : Nat) : Int))) <|
    .ptr keys fun (z2 : Addr) =>
    .load (Addr.add z2 ((Int.toNat i1) * 1)) .str fun (s3 : ByteArray) =>
    .load (Addr.add z0 0) (.int .i64) fun (i4 : Int) =>
    .cut 2 .nil (
      .ite (i4 == (6 : Int)) (
        .loop 3 (.cons (.int .i64) (.cons (.int .i64) .nil)) [(Value.int IntKind.i64 (0 : Int)), (Value.int IntKind.i64 (0 : Int))]
          (fun z => spec_Once.t2 text z0 s3 z.1 z.2.1)) (
        .leaf 2 []))
      (fun _ => spec_Once.t3 text z0 i1 s3)) (
    .leaf 0 [(Value.bool Bool.true)])
def spec_Once.t (text : ByteArray) (p_0 : Int) (p_1 : Int) (p_2 : Int) (p_3 : (Option Addr)) (p_3_len : Nat) (p_3_cap : Nat) (p_4 : (Option Addr)) (p_4_len : Nat) (p_4_cap : Nat) (keys : (Option Addr)) (keys_len : Nat) (keys_cap : Nat) : T :=
  .alloc (Obj.cells #[(Value.int IntKind.i64 p_0), (Value.int IntKind.i64 p_1), (Value.int IntKind.i64 p_2), (Value.slice p_3 p_3_len p_3_cap), (Value.slice p_4 p_4_len p_4_cap)] 27 (0, 0)) fun (z0 : Addr) =>
  .loop 1 (.cons (.int .i64) .nil) [(Value.int IntKind.i64 (0 : Int))]
    (fun z => spec_Once.t1 text keys keys_len z0 z.1)
def spec_Once.h : Hints := ⟨[(21, [])], [], [], [(2, [(15, (.int .i64))]), (7, [(10, (.int .i64)), (9, (.int .i64))])]⟩
noncomputable def spec_Once.c : Code := (Tryd.f15.body).getD .skip
theorem spec_Once.e (text : ByteArray) (p_0 : Int) (p_1 : Int) (p_2 : Int) (p_3 : (Option Addr)) (p_3_len : Nat) (p_3_cap : Nat) (p_4 : (Option Addr)) (p_4_len : Nat) (p_4_cap : Nat) (keys : (Option Addr)) (keys_len : Nat) (keys_cap : Nat) : fnT Tryd.prog spec_Once.h Tryd.f15 spec_Once.c [.v (Value.string text), .v (Value.agg #[(Value.int IntKind.i64 p_0), (Value.int IntKind.i64 p_1), (Value.int IntKind.i64 p_2), (Value.slice p_3 p_3_len p_3_cap), (Value.slice p_4 p_4_len p_4_cap)]), .v (Value.slice keys keys_len keys_cap)] = spec_Once.t text p_0 p_1 p_2 p_3 p_3_len p_3_cap p_4 p_4_len p_4_cap keys keys_len keys_cap := by kernel_rfl
theorem spec_Once.calls (text : ByteArray) (p_0 : Int) (p_1 : Int) (p_2 : Int) (p_3 : (Option Addr)) (p_3_len : Nat) (p_3_cap : Nat) (p_4 : (Option Addr)) (p_4_len : Nat) (p_4_cap : Nat) (keys : (Option Addr)) (keys_len : Nat) (keys_cap : Nat) {w : World} {R : Ending → World → Prop} (hs : sat Tryd.prog (spec_Once.t text p_0 p_1 p_2 p_3 p_3_len p_3_cap p_4 p_4_len p_4_cap keys keys_len keys_cap) (fun l vs w' => l = 0 ∧ R (.returned (retVal vs)) w') w) : Calls Tryd.prog 15 #[(Value.string text), (Value.agg #[(Value.int IntKind.i64 p_0), (Value.int IntKind.i64 p_1), (Value.int IntKind.i64 p_2), (Value.slice p_3 p_3_len p_3_cap), (Value.slice p_4 p_4_len p_4_cap)]), (Value.slice keys keys_len keys_cap)] w R :=
  have h := calls_of_tree (w := w) (R := R) (args := [.v (Value.string text), .v (Value.agg #[(Value.int IntKind.i64 p_0), (Value.int IntKind.i64 p_1), (Value.int IntKind.i64 p_2), (Value.slice p_3 p_3_len p_3_cap), (Value.slice p_4 p_4_len p_4_cap)]), .v (Value.slice keys keys_len keys_cap)]) (c := spec_Once.c) Tryd.func15 (show Tryd.f15.body = some spec_Once.c by kernel_rfl) (of_decide_eq_true (by kernel_rfl)) (spec_Once.e text p_0 p_1 p_2 p_3 p_3_len p_3_cap p_4 p_4_len p_4_cap keys keys_len keys_cap) hs
  h

/-! ### pub-tetrapla/laws.jpIndex : function 16 -/
def laws_jpIndex.t (key : ByteArray) : T :=
  .ite (!(strEq key (ByteArray.mk #[]))) (
    .chk (((0 : Int) ≤ (0 : Int)) ∧ ((0 : Int) < (((ByteArray.size key) : Nat) : Int))) <|
    .leaf 0 [(Value.bool ((bt key (0 : Int)) == (91 : Int)))]) (
    .leaf 0 [(Value.bool Bool.false)])
def laws_jpIndex.h : Hints := ⟨[], [], [], []⟩
noncomputable def laws_jpIndex.c : Code := (Tryd.f16.body).getD .skip
theorem laws_jpIndex.e (key : ByteArray) : fnT Tryd.prog laws_jpIndex.h Tryd.f16 laws_jpIndex.c [.v (Value.string key)] = laws_jpIndex.t key := by kernel_rfl
theorem laws_jpIndex.calls (key : ByteArray) {w : World} {R : Ending → World → Prop} (hs : sat Tryd.prog (laws_jpIndex.t key) (fun l vs w' => l = 0 ∧ R (.returned (retVal vs)) w') w) : Calls Tryd.prog 16 #[(Value.string key)] w R :=
  have h := calls_of_tree (w := w) (R := R) (args := [.v (Value.string key)]) (c := laws_jpIndex.c) Tryd.func16 (show Tryd.f16.body = some laws_jpIndex.c by kernel_rfl) (of_decide_eq_true (by kernel_rfl)) (laws_jpIndex.e key) hs
  h

/-! ### pub-tetrapla/spec.Step : function 17 -/
def spec_Step.t2 (i8 : Int) : T :=
  .leaf 3 [(Value.int IntKind.i64 i8)]
def spec_Step.t1 (z5 : (Int × (Bool × PUnit))) (b7 : Bool) : T :=
  .cut 4 (.cons (.int .i64) .nil) (
    .ite b7 (
      .leaf 4 [(Value.int IntKind.i64 (z5).1)]) (
      .leaf 4 [(Value.int IntKind.i64 (-1 : Int))]))
    (fun z => spec_Step.t2 z.1)
def spec_Step.t3 (i9 : Int) : T :=
  .leaf 2 [(Value.int IntKind.i64 i9)]
def spec_Step.t4 (i10 : Int) : T :=
  .leaf 1 [(Value.int IntKind.i64 i10)]
def spec_Step.t5 (z0 : Addr) (z1 : Addr) (i11 : Int) : T :=
  .ite (decide (i11 < (0 : Int))) (
    .effU (Instr.storeAt 27 (Value.pointer (some z1)) (Value.agg #[(Value.int IntKind.i64 (0 : Int)), (Value.int IntKind.i64 (0 : Int)), (Value.int IntKind.i64 (0 : Int)), (Value.slice none 0 0), (Value.slice none 0 0)])) <|
    .effS (Instr.loadAt 27 (Value.pointer (some z1))) (.agg (.cons (.int .i64) (.cons (.int .i64) (.cons (.int .i64) (.cons .slice (.cons .slice .nil)))))) fun (z12 : (Int × (Int × (Int × (((Option Addr) × (Nat × Nat)) × (((Option Addr) × (Nat × Nat)) × PUnit)))))) =>
    .leaf 0 [(Value.agg #[(Value.int IntKind.i64 (z12).1), (Value.int IntKind.i64 ((z12).2).1), (Value.int IntKind.i64 (((z12).2).2).1), (Value.slice (((((z12).2).2).2).1).1 ((((((z12).2).2).2).1).2).1 ((((((z12).2).2).2).1).2).2), (Value.slice ((((((z12).2).2).2).2).1).1 (((((((z12).2).2).2).2).1).2).1 (((((((z12).2).2).2).2).1).2).2)]), (Value.bool Bool.false)]) (
    .load (Addr.add z0 4) .slice fun (z13 : ((Option Addr) × (Nat × Nat))) =>
    .chk (((0 : Int) ≤ i11) ∧ (i11 < ((((z13).2).1 : Nat) : Int))) <|
    .ptr (z13).1 fun (z14 : Addr) =>
    .eff (Instr.loadAt 27 (Value.pointer (some (Addr.add z14 ((Int.toNat i11) * 5))))) (.agg (.cons (.int .i64) (.cons (.int .i64) (.cons (.int .i64) (.cons .slice (.cons .slice .nil)))))) fun (z15 : (Int × (Int × (Int × (((Option Addr) × (Nat × Nat)) × (((Option Addr) × (Nat × Nat)) × PUnit)))))) =>
    .effU (Instr.storeAt 27 (Value.pointer (some z1)) (Value.agg #[(Value.int IntKind.i64 (z15).1), (Value.int IntKind.i64 ((z15).2).1), (Value.int IntKind.i64 (((z15).2).2).1), (Value.slice (((((z15).2).2).2).1).1 ((((((z15).2).2).2).1).2).1 ((((((z15).2).2).2).1).2).2), (Value.slice ((((((z15).2).2).2).2).1).1 (((((((z15).2).2).2).2).1).2).1 (((((((z15).2).2).2).2).1).2).2)])) <|
    .effS (Instr.loadAt 27 (Value.pointer (some z1))) (.agg (.cons (.int .i64) (.cons (.int .i64) (.cons (.int .i64) (.cons .slice (.cons .slice .nil)))))) fun (z16 : (Int × (Int × (Int × (((Option Addr) × (Nat × Nat)) × (((Option Addr) × (Nat × Nat)) × PUnit)))))) =>
    .leaf 0 [(Value.agg #[(Value.int IntKind.i64 (z16).1), (Value.int IntKind.i64 ((z16).2).1), (Value.int IntKind.i64 (((z16).2).2).1), (Value.slice (((((z16).2).2).2).1).1 ((((((z16).2).2).2).1).2).1 ((((((z16).2).2).2).1).2).2), (Value.slice ((((((z16).2).2).2).2).1).1 (((((((z16).2).2).2).2).1).2).1 (((((((z16).2).2).2).2).1).2).2)]), (Value.bool Bool.true)])
def spec_Step.t (text : ByteArray) (p_0 : Int) (p_1 : Int) (p_2 : Int) (p_3 : (Option Addr)) (p_3_len : Nat) (p_3_cap : Nat) (p_4 : (Option Addr)) (p_4_len : Nat) (p_4_cap : Nat) (key : ByteArray) : T :=
  .alloc (Obj.cells #[(Value.int IntKind.i64 p_0), (Value.int IntKind.i64 p_1), (Value.int IntKind.i64 p_2), (Value.slice p_3 p_3_len p_3_cap), (Value.slice p_4 p_4_len p_4_cap)] 27 (0, 0)) fun (z0 : Addr) =>
  .alloc (Obj.cells #[(Value.int IntKind.i64 (0 : Int)), (Value.int IntKind.i64 (0 : Int)), (Value.int IntKind.i64 (0 : Int)), (Value.slice none 0 0), (Value.slice none 0 0)] 27 (0, 0)) fun (z1 : Addr) =>
  .load (Addr.add z0 0) (.int .i64) fun (i2 : Int) =>
  .cut 1 (.cons (.int .i64) .nil) (
    .cut 2 (.cons (.int .i64) .nil) (
      .ite (i2 == (6 : Int)) (
        .eff (Instr.loadAt 27 (Value.pointer (some z0))) (.agg (.cons (.int .i64) (.cons (.int .i64) (.cons (.int .i64) (.cons .slice (.cons .slice .nil)))))) fun (z3 : (Int × (Int × (Int × (((Option Addr) × (Nat × Nat)) × (((Option Addr) × (Nat × Nat)) × PUnit)))))) =>
        .call 28 #[(Value.string text), (Value.agg #[(Value.int IntKind.i64 (z3).1), (Value.int IntKind.i64 ((z3).2).1), (Value.int IntKind.i64 (((z3).2).2).1), (Value.slice (((((z3).2).2).2).1).1 ((((((z3).2).2).2).1).2).1 ((((((z3).2).2).2).1).2).2), (Value.slice ((((((z3).2).2).2).2).1).1 (((((((z3).2).2).2).2).1).2).1 (((((((z3).2).2).2).2).1).2).2)]), (Value.string key)] (.int .i64) fun (i4 : Int) =>
        .leaf 2 [(Value.int IntKind.i64 i4)]) (
        .cut 3 (.cons (.int .i64) .nil) (
          .ite (i2 == (5 : Int)) (
            .call 29 #[(Value.string key)] (.tuple (.cons (.int .i64) (.cons .bool .nil))) fun (z5 : (Int × (Bool × PUnit))) =>
            .cut 4 (.cons .bool .nil) (
              .ite ((z5).2).1 (
                .load (Addr.add z0 4) .slice fun (z6 : ((Option Addr) × (Nat × Nat))) =>
                .leaf 4 [(Value.bool (decide ((z5).1 < ((((z6).2).1 : Nat) : Int))))]) (
                .leaf 4 [(Value.bool Bool.false)]))
              (fun z => spec_Step.t1 z5 z.1)) (
            .leaf 3 [(Value.int IntKind.i64 (-1 : Int))]))
          (fun z => spec_Step.t3 z.1)))
      (fun z => spec_Step.t4 z.1))
    (fun z => spec_Step.t5 z0 z1 z.1)
def spec_Step.h : Hints := ⟨[(13, [(8, (.int .i64))]), (19, [(8, (.int .i64))]), (33, [(8, (.int .i64))])], [(0, [(8, (.int .i64))])], [(7, [(33, .bool)])], []⟩
noncomputable def spec_Step.c : Code := (Tryd.f17.body).getD .skip
theorem spec_Step.e (text : ByteArray) (p_0 : Int) (p_1 : Int) (p_2 : Int) (p_3 : (Option Addr)) (p_3_len : Nat) (p_3_cap : Nat) (p_4 : (Option Addr)) (p_4_len : Nat) (p_4_cap : Nat) (key : ByteArray) : fnT Tryd.prog spec_Step.h Tryd.f17 spec_Step.c [.v (Value.string text), .v (Value.agg #[(Value.int IntKind.i64 p_0), (Value.int IntKind.i64 p_1), (Value.int IntKind.i64 p_2), (Value.slice p_3 p_3_len p_3_cap), (Value.slice p_4 p_4_len p_4_cap)]), .v (Value.string key)] = spec_Step.t text p_0 p_1 p_2 p_3 p_3_len p_3_cap p_4 p_4_len p_4_cap key := by kernel_rfl
theorem spec_Step.calls (text : ByteArray) (p_0 : Int) (p_1 : Int) (p_2 : Int) (p_3 : (Option Addr)) (p_3_len : Nat) (p_3_cap : Nat) (p_4 : (Option Addr)) (p_4_len : Nat) (p_4_cap : Nat) (key : ByteArray) {w : World} {R : Ending → World → Prop} (hs : sat Tryd.prog (spec_Step.t text p_0 p_1 p_2 p_3 p_3_len p_3_cap p_4 p_4_len p_4_cap key) (fun l vs w' => l = 0 ∧ R (.returned (retVal vs)) w') w) : Calls Tryd.prog 17 #[(Value.string text), (Value.agg #[(Value.int IntKind.i64 p_0), (Value.int IntKind.i64 p_1), (Value.int IntKind.i64 p_2), (Value.slice p_3 p_3_len p_3_cap), (Value.slice p_4 p_4_len p_4_cap)]), (Value.string key)] w R :=
  have h := calls_of_tree (w := w) (R := R) (args := [.v (Value.string text), .v (Value.agg #[(Value.int IntKind.i64 p_0), (Value.int IntKind.i64 p_1), (Value.int IntKind.i64 p_2), (Value.slice p_3 p_3_len p_3_cap), (Value.slice p_4 p_4_len p_4_cap)]), .v (Value.string key)]) (c := spec_Step.c) Tryd.func17 (show Tryd.f17.body = some spec_Step.c by kernel_rfl) (of_decide_eq_true (by kernel_rfl)) (spec_Step.e text p_0 p_1 p_2 p_3 p_3_len p_3_cap p_4 p_4_len p_4_cap key) hs
  h

/-! ### pub-tetrapla/spec.Named : function 28 -/
def spec_Named.t1 (text : ByteArray) (name : ByteArray) (z0 : Addr) (i1 : Int) : T :=
  .load (Addr.add z0 3) .slice fun (z2 : ((Option Addr) × (Nat × Nat))) =>
  .ite (decide (i1 < ((((z2).2).1 : Nat) : Int))) (
    .drew <|
    .load (Addr.add z0 3) .slice fun (z3 : ((Option Addr) × (Nat × Nat))) =>
    .chk (((0 : Int) ≤ i1) ∧ (i1 < ((((z3).2).1 : Nat) : Int))) <|
    .ptr (z3).1 fun (z4 : Addr) =>
    .load (Addr.add (Addr.add z4 ((Int.toNat i1) * 2)) 0) (.int .i64) fun (i5 : Int) =>
    .load (Addr.add z0 3) .slice fun (z6 : ((Option Addr) × (Nat × Nat))) =>
    .chk (((0 : Int) ≤ i1) ∧ (i1 < ((((z6).2).1 : Nat) : Int))) <|
    .ptr (z6).1 fun (z7 : Addr) =>
    .load (Addr.add (Addr.add z7 ((Int.toNat i1) * 2)) 1) (.int .i64) fun (i8 : Int) =>
    .chk (((0 : Int) ≤ i5) ∧ ((i5 ≤ i8) ∧ (i8 ≤ (((ByteArray.size text) : Nat) : Int)))) <|
    .call 27 #[(Value.string (ByteArray.extract text (Int.toNat i5) (Int.toNat i8)))] .str fun (s9 : ByteArray) =>
    .ite (strEq s9 name) (
      .leaf 0 [(Value.int IntKind.i64 i1)]) (
      .leaf 1 [(Value.int IntKind.i64 (IntKind.wrap IntKind.i64 (i1 + (1 : Int))))])) (
    .leaf 0 [(Value.int IntKind.i64 (-1 : Int))])
def spec_Named.t (text : ByteArray) (p_0 : Int) (p_1 : Int) (p_2 : Int) (p_3 : (Option Addr)) (p_3_len : Nat) (p_3_cap : Nat) (p_4 : (Option Addr)) (p_4_len : Nat) (p_4_cap : Nat) (name : ByteArray) : T :=
  .alloc (Obj.cells #[(Value.int IntKind.i64 p_0), (Value.int IntKind.i64 p_1), (Value.int IntKind.i64 p_2), (Value.slice p_3 p_3_len p_3_cap), (Value.slice p_4 p_4_len p_4_cap)] 27 (0, 0)) fun (z0 : Addr) =>
  .loop 1 (.cons (.int .i64) .nil) [(Value.int IntKind.i64 (0 : Int))]
    (fun z => spec_Named.t1 text name z0 z.1)
def spec_Named.h : Hints := ⟨[], [], [], [(2, [(7, (.int .i64))])]⟩
noncomputable def spec_Named.c : Code := (Tryd.f28.body).getD .skip
theorem spec_Named.e (text : ByteArray) (p_0 : Int) (p_1 : Int) (p_2 : Int) (p_3 : (Option Addr)) (p_3_len : Nat) (p_3_cap : Nat) (p_4 : (Option Addr)) (p_4_len : Nat) (p_4_cap : Nat) (name : ByteArray) : fnT Tryd.prog spec_Named.h Tryd.f28 spec_Named.c [.v (Value.string text), .v (Value.agg #[(Value.int IntKind.i64 p_0), (Value.int IntKind.i64 p_1), (Value.int IntKind.i64 p_2), (Value.slice p_3 p_3_len p_3_cap), (Value.slice p_4 p_4_len p_4_cap)]), .v (Value.string name)] = spec_Named.t text p_0 p_1 p_2 p_3 p_3_len p_3_cap p_4 p_4_len p_4_cap name := by kernel_rfl
theorem spec_Named.calls (text : ByteArray) (p_0 : Int) (p_1 : Int) (p_2 : Int) (p_3 : (Option Addr)) (p_3_len : Nat) (p_3_cap : Nat) (p_4 : (Option Addr)) (p_4_len : Nat) (p_4_cap : Nat) (name : ByteArray) {w : World} {R : Ending → World → Prop} (hs : sat Tryd.prog (spec_Named.t text p_0 p_1 p_2 p_3 p_3_len p_3_cap p_4 p_4_len p_4_cap name) (fun l vs w' => l = 0 ∧ R (.returned (retVal vs)) w') w) : Calls Tryd.prog 28 #[(Value.string text), (Value.agg #[(Value.int IntKind.i64 p_0), (Value.int IntKind.i64 p_1), (Value.int IntKind.i64 p_2), (Value.slice p_3 p_3_len p_3_cap), (Value.slice p_4 p_4_len p_4_cap)]), (Value.string name)] w R :=
  have h := calls_of_tree (w := w) (R := R) (args := [.v (Value.string text), .v (Value.agg #[(Value.int IntKind.i64 p_0), (Value.int IntKind.i64 p_1), (Value.int IntKind.i64 p_2), (Value.slice p_3 p_3_len p_3_cap), (Value.slice p_4 p_4_len p_4_cap)]), .v (Value.string name)]) (c := spec_Named.c) Tryd.func28 (show Tryd.f28.body = some spec_Named.c by kernel_rfl) (of_decide_eq_true (by kernel_rfl)) (spec_Named.e text p_0 p_1 p_2 p_3 p_3_len p_3_cap p_4 p_4_len p_4_cap name) hs
  h

/-! ### pub-tetrapla/spec.Bracket : function 29 -/
def spec_Bracket.t1 (key : ByteArray) (b0 : Bool) : T :=
  .ite b0 (
    .leaf 0 [(Value.int IntKind.i64 (0 : Int)), (Value.bool Bool.false)]) (
    .chk (((0 : Int) ≤ (1 : Int)) ∧ (((1 : Int) ≤ (IntKind.wrap IntKind.i64 ((((ByteArray.size key) : Nat) : Int) - (1 : Int)))) ∧ ((IntKind.wrap IntKind.i64 ((((ByteArray.size key) : Nat) : Int) - (1 : Int))) ≤ (((ByteArray.size key) : Nat) : Int)))) <|
    .call 50 #[(Value.string (ByteArray.extract key 1 (Int.toNat (IntKind.wrap IntKind.i64 ((((ByteArray.size key) : Nat) : Int) - (1 : Int))))))] (.tuple (.cons (.int .i64) (.cons .bool .nil))) fun (z1 : (Int × (Bool × PUnit))) =>
    .leaf 0 [(Value.int IntKind.i64 (z1).1), (Value.bool ((z1).2).1)])
def spec_Bracket.t (key : ByteArray) : T :=
  .cut 1 (.cons .bool .nil) (
    .ite (decide ((((ByteArray.size key) : Nat) : Int) < (3 : Int))) (
      .leaf 1 [(Value.bool Bool.true)]) (
      .chk (((0 : Int) ≤ (0 : Int)) ∧ ((0 : Int) < (((ByteArray.size key) : Nat) : Int))) <|
      .ite ((bt key (0 : Int)) != (91 : Int)) (
        .leaf 1 [(Value.bool Bool.true)]) (
        .chk (((0 : Int) ≤ (IntKind.wrap IntKind.i64 ((((ByteArray.size key) : Nat) : Int) - (1 : Int)))) ∧ ((IntKind.wrap IntKind.i64 ((((ByteArray.size key) : Nat) : Int) - (1 : Int))) < (((ByteArray.size key) : Nat) : Int))) <|
        .leaf 1 [(Value.bool ((bt key (IntKind.wrap IntKind.i64 ((((ByteArray.size key) : Nat) : Int) - (1 : Int)))) != (93 : Int)))])))
    (fun z => spec_Bracket.t1 key z.1)
def spec_Bracket.h : Hints := ⟨[], [], [(1, [(19, .bool)])], []⟩
noncomputable def spec_Bracket.c : Code := (Tryd.f29.body).getD .skip
theorem spec_Bracket.e (key : ByteArray) : fnT Tryd.prog spec_Bracket.h Tryd.f29 spec_Bracket.c [.v (Value.string key)] = spec_Bracket.t key := by kernel_rfl
theorem spec_Bracket.calls (key : ByteArray) {w : World} {R : Ending → World → Prop} (hs : sat Tryd.prog (spec_Bracket.t key) (fun l vs w' => l = 0 ∧ R (.returned (retVal vs)) w') w) : Calls Tryd.prog 29 #[(Value.string key)] w R :=
  have h := calls_of_tree (w := w) (R := R) (args := [.v (Value.string key)]) (c := spec_Bracket.c) Tryd.func29 (show Tryd.f29.body = some spec_Bracket.c by kernel_rfl) (of_decide_eq_true (by kernel_rfl)) (spec_Bracket.e key) hs
  h

/-! ### pub-tetrapla/spec.Index : function 50 -/
def spec_Index.t3 (token : ByteArray) (i1 : Int) (i2 : Int) (b3 : Bool) : T :=
  .ite b3 (
    .leaf 0 [(Value.int IntKind.i64 (0 : Int)), (Value.bool Bool.false)]) (
    .ite (decide (i2 < (288230376151711744 : Int))) (
      .leaf 1 [(Value.int IntKind.i64 (IntKind.wrap IntKind.i64 (i1 + (1 : Int)))), (Value.int IntKind.i64 (IntKind.wrap IntKind.i64 ((IntKind.wrap IntKind.i64 (i2 * (10 : Int))) + (IntKind.wrap IntKind.i64 (IntKind.wrap IntKind.u8 ((bt token i1) - (48 : Int)))))))]) (
      .leaf 1 [(Value.int IntKind.i64 (IntKind.wrap IntKind.i64 (i1 + (1 : Int)))), (Value.int IntKind.i64 (4611686018427387904 : Int))]))
def spec_Index.t2 (token : ByteArray) (i1 : Int) (i2 : Int) : T :=
  .ite (decide (i1 < (((ByteArray.size token) : Nat) : Int))) (
    .chk (((0 : Int) ≤ i1) ∧ (i1 < (((ByteArray.size token) : Nat) : Int))) <|
    .cut 2 (.cons .bool .nil) (
      .ite (decide ((bt token i1) < (48 : Int))) (
        .leaf 2 [(Value.bool Bool.true)]) (
        .leaf 2 [(Value.bool (decide ((bt token i1) > (57 : Int))))]))
      (fun z => spec_Index.t3 token i1 i2 z.1)) (
    .leaf 0 [(Value.int IntKind.i64 i2), (Value.bool Bool.true)])
def spec_Index.t1 (token : ByteArray) (b0 : Bool) : T :=
  .ite b0 (
    .leaf 0 [(Value.int IntKind.i64 (0 : Int)), (Value.bool Bool.false)]) (
    .loop 1 (.cons (.int .i64) (.cons (.int .i64) .nil)) [(Value.int IntKind.i64 (0 : Int)), (Value.int IntKind.i64 (0 : Int))]
      (fun z => spec_Index.t2 token z.1 z.2.1))
def spec_Index.t (token : ByteArray) : T :=
  .cut 1 (.cons .bool .nil) (
    .ite (strEq token (ByteArray.mk #[])) (
      .leaf 1 [(Value.bool Bool.true)]) (
      .ite (decide ((((ByteArray.size token) : Nat) : Int) > (1 : Int))) (
        .chk (((0 : Int) ≤ (0 : Int)) ∧ ((0 : Int) < (((ByteArray.size token) : Nat) : Int))) <|
        .leaf 1 [(Value.bool ((bt token (0 : Int)) == (48 : Int)))]) (
        .leaf 1 [(Value.bool Bool.false)])))
    (fun z => spec_Index.t1 token z.1)
def spec_Index.h : Hints := ⟨[], [], [(1, [(18, .bool)]), (8, [(33, .bool)])], [(5, [(5, (.int .i64)), (4, (.int .i64))])]⟩
noncomputable def spec_Index.c : Code := (Tryd.f50.body).getD .skip
theorem spec_Index.e (token : ByteArray) : fnT Tryd.prog spec_Index.h Tryd.f50 spec_Index.c [.v (Value.string token)] = spec_Index.t token := by kernel_rfl
theorem spec_Index.calls (token : ByteArray) {w : World} {R : Ending → World → Prop} (hs : sat Tryd.prog (spec_Index.t token) (fun l vs w' => l = 0 ∧ R (.returned (retVal vs)) w') w) : Calls Tryd.prog 50 #[(Value.string token)] w R :=
  have h := calls_of_tree (w := w) (R := R) (args := [.v (Value.string token)]) (c := spec_Index.c) Tryd.func50 (show Tryd.f50.body = some spec_Index.c by kernel_rfl) (of_decide_eq_true (by kernel_rfl)) (spec_Index.e token) hs
  h

/-! ### pub-tetrapla/spec.Unquote : function 27 -/
def spec_Unquote.t2 (i0 : Int) (z1 : ((Option Addr) × (Nat × Nat))) (z4 : (Int × (Bool × PUnit))) (z8 : (Int × (Bool × PUnit))) (b11 : Bool) : T :=
  .ite b11 (
    .call 49 #[(Value.slice (z1).1 ((z1).2).1 ((z1).2).2), (Value.int IntKind.i64 (IntKind.wrap IntKind.i64 ((IntKind.wrap IntKind.i64 ((65536 : Int) + (IntKind.wrap IntKind.i64 ((IntKind.wrap IntKind.i64 ((z4).1 - (55296 : Int))) * (1024 : Int))))) + (IntKind.wrap IntKind.i64 ((z8).1 - (56320 : Int))))))] .slice fun (z12 : ((Option Addr) × (Nat × Nat))) =>
    .leaf 1 [(Value.int IntKind.i64 (IntKind.wrap IntKind.i64 ((IntKind.wrap IntKind.i64 (i0 + (6 : Int))) + (6 : Int)))), (Value.slice (z12).1 ((z12).2).1 ((z12).2).2)]) (
    .call 49 #[(Value.slice (z1).1 ((z1).2).1 ((z1).2).2), (Value.int IntKind.i64 (z4).1)] .slice fun (z13 : ((Option Addr) × (Nat × Nat))) =>
    .leaf 1 [(Value.int IntKind.i64 (IntKind.wrap IntKind.i64 (i0 + (6 : Int)))), (Value.slice (z13).1 ((z13).2).1 ((z13).2).2)])
def spec_Unquote.t1 (q0 : ByteArray) (i0 : Int) (z1 : ((Option Addr) × (Nat × Nat))) : T :=
  .ite (decide (i0 < (((ByteArray.size (ByteArray.extract q0 1 (Int.toNat (IntKind.wrap IntKind.i64 ((((ByteArray.size q0) : Nat) : Int) - (1 : Int)))))) : Nat) : Int))) (
    .chk (((0 : Int) ≤ i0) ∧ (i0 < (((ByteArray.size (ByteArray.extract q0 1 (Int.toNat (IntKind.wrap IntKind.i64 ((((ByteArray.size q0) : Nat) : Int) - (1 : Int)))))) : Nat) : Int))) <|
    .ite ((bt (ByteArray.extract q0 1 (Int.toNat (IntKind.wrap IntKind.i64 ((((ByteArray.size q0) : Nat) : Int) - (1 : Int))))) i0) != (92 : Int)) (
      .chk (((0 : Int) ≤ i0) ∧ (i0 < (((ByteArray.size (ByteArray.extract q0 1 (Int.toNat (IntKind.wrap IntKind.i64 ((((ByteArray.size q0) : Nat) : Int) - (1 : Int)))))) : Nat) : Int))) <|
      .eff (Instr.buildSlice 36 1 #[(0, (Value.int IntKind.u8 (bt (ByteArray.extract q0 1 (Int.toNat (IntKind.wrap IntKind.i64 ((((ByteArray.size q0) : Nat) : Int) - (1 : Int))))) i0)))]) .slice fun (z2 : ((Option Addr) × (Nat × Nat))) =>
      .eff (Builtin.append_ (Call.argTypes (Call.mk (Callee.builtin Builtin.append) #[(Operand.tmp 23), (Operand.tmp 27)] #[36, 36])) 36 #[(Value.slice (z1).1 ((z1).2).1 ((z1).2).2), (Value.slice (z2).1 ((z2).2).1 ((z2).2).2)]) .slice fun (z3 : ((Option Addr) × (Nat × Nat))) =>
      .leaf 1 [(Value.int IntKind.i64 (IntKind.wrap IntKind.i64 (i0 + (1 : Int)))), (Value.slice (z3).1 ((z3).2).1 ((z3).2).2)]) (
      .call 45 #[(Value.string (ByteArray.extract q0 1 (Int.toNat (IntKind.wrap IntKind.i64 ((((ByteArray.size q0) : Nat) : Int) - (1 : Int)))))), (Value.int IntKind.i64 i0)] (.tuple (.cons (.int .i64) (.cons .bool .nil))) fun (z4 : (Int × (Bool × PUnit))) =>
      .ite (!((z4).2).1) (
        .chk (((0 : Int) ≤ (IntKind.wrap IntKind.i64 (i0 + (1 : Int)))) ∧ ((IntKind.wrap IntKind.i64 (i0 + (1 : Int))) < (((ByteArray.size (ByteArray.extract q0 1 (Int.toNat (IntKind.wrap IntKind.i64 ((((ByteArray.size q0) : Nat) : Int) - (1 : Int)))))) : Nat) : Int))) <|
        .call 46 #[(Value.int IntKind.u8 (bt (ByteArray.extract q0 1 (Int.toNat (IntKind.wrap IntKind.i64 ((((ByteArray.size q0) : Nat) : Int) - (1 : Int))))) (IntKind.wrap IntKind.i64 (i0 + (1 : Int)))))] (.int .u8) fun (i5 : Int) =>
        .eff (Instr.buildSlice 36 1 #[(0, (Value.int IntKind.u8 i5))]) .slice fun (z6 : ((Option Addr) × (Nat × Nat))) =>
        .eff (Builtin.append_ (Call.argTypes (Call.mk (Callee.builtin Builtin.append) #[(Operand.tmp 39), (Operand.tmp 45)] #[36, 36])) 36 #[(Value.slice (z1).1 ((z1).2).1 ((z1).2).2), (Value.slice (z6).1 ((z6).2).1 ((z6).2).2)]) .slice fun (z7 : ((Option Addr) × (Nat × Nat))) =>
        .leaf 1 [(Value.int IntKind.i64 (IntKind.wrap IntKind.i64 (i0 + (2 : Int)))), (Value.slice (z7).1 ((z7).2).1 ((z7).2).2)]) (
        .call 45 #[(Value.string (ByteArray.extract q0 1 (Int.toNat (IntKind.wrap IntKind.i64 ((((ByteArray.size q0) : Nat) : Int) - (1 : Int)))))), (Value.int IntKind.i64 (IntKind.wrap IntKind.i64 (i0 + (6 : Int))))] (.tuple (.cons (.int .i64) (.cons .bool .nil))) fun (z8 : (Int × (Bool × PUnit))) =>
        .cut 2 (.cons .bool .nil) (
          .ite ((z8).2).1 (
            .call 47 #[(Value.int IntKind.i64 (z4).1)] .bool fun (b9 : Bool) =>
            .ite b9 (
              .call 48 #[(Value.int IntKind.i64 (z8).1)] .bool fun (b10 : Bool) =>
              .leaf 2 [(Value.bool b10)]) (
              .leaf 2 [(Value.bool Bool.false)])) (
            .leaf 2 [(Value.bool Bool.false)]))
          (fun z => spec_Unquote.t2 i0 z1 z4 z8 z.1)))) (
    .eff (convert 36 9 (Value.slice (z1).1 ((z1).2).1 ((z1).2).2)) .str fun (s14 : ByteArray) =>
    .leaf 0 [(Value.string s14)])
def spec_Unquote.t (q0 : ByteArray) : T :=
  .chk (((0 : Int) ≤ (1 : Int)) ∧ (((1 : Int) ≤ (IntKind.wrap IntKind.i64 ((((ByteArray.size q0) : Nat) : Int) - (1 : Int)))) ∧ ((IntKind.wrap IntKind.i64 ((((ByteArray.size q0) : Nat) : Int) - (1 : Int))) ≤ (((ByteArray.size q0) : Nat) : Int)))) <|
  .loop 1 (.cons (.int .i64) (.cons .slice .nil)) [(Value.int IntKind.i64 (0 : Int)), (Value.slice none 0 0)]
    (fun z => spec_Unquote.t1 q0 z.1 z.2.1)
def spec_Unquote.h : Hints := ⟨[], [], [(14, [(65, .bool)])], [(4, [(5, (.int .i64)), (3, .slice)])]⟩
noncomputable def spec_Unquote.c : Code := (Tryd.f27.body).getD .skip
theorem spec_Unquote.e (q0 : ByteArray) : fnT Tryd.prog spec_Unquote.h Tryd.f27 spec_Unquote.c [.v (Value.string q0)] = spec_Unquote.t q0 := by kernel_rfl
theorem spec_Unquote.calls (q0 : ByteArray) {w : World} {R : Ending → World → Prop} (hs : sat Tryd.prog (spec_Unquote.t q0) (fun l vs w' => l = 0 ∧ R (.returned (retVal vs)) w') w) : Calls Tryd.prog 27 #[(Value.string q0)] w R :=
  have h := calls_of_tree (w := w) (R := R) (args := [.v (Value.string q0)]) (c := spec_Unquote.c) Tryd.func27 (show Tryd.f27.body = some spec_Unquote.c by kernel_rfl) (of_decide_eq_true (by kernel_rfl)) (spec_Unquote.e q0) hs
  h

/-! ### pub-tetrapla/spec.unit : function 45 -/
def spec_unit.t2 (s : ByteArray) (at1 : Int) (i1 : Int) (i2 : Int) : T :=
  .ite (decide (i1 < (IntKind.wrap IntKind.i64 (at1 + (6 : Int))))) (
    .chk (((0 : Int) ≤ i1) ∧ (i1 < (((ByteArray.size s) : Nat) : Int))) <|
    .call 63 #[(Value.int IntKind.u8 (bt s i1))] (.tuple (.cons (.int .i64) (.cons .bool .nil))) fun (z3 : (Int × (Bool × PUnit))) =>
    .ite (!((z3).2).1) (
      .leaf 0 [(Value.int IntKind.i64 (0 : Int)), (Value.bool Bool.false)]) (
      .leaf 1 [(Value.int IntKind.i64 (IntKind.wrap IntKind.i64 (i1 + (1 : Int)))), (Value.int IntKind.i64 (IntKind.wrap IntKind.i64 ((IntKind.wrap IntKind.i64 (i2 * (16 : Int))) + (z3).1)))])) (
    .leaf 0 [(Value.int IntKind.i64 i2), (Value.bool Bool.true)])
def spec_unit.t1 (s : ByteArray) (at1 : Int) (b0 : Bool) : T :=
  .ite b0 (
    .leaf 0 [(Value.int IntKind.i64 (0 : Int)), (Value.bool Bool.false)]) (
    .loop 1 (.cons (.int .i64) (.cons (.int .i64) .nil)) [(Value.int IntKind.i64 (IntKind.wrap IntKind.i64 (at1 + (2 : Int)))), (Value.int IntKind.i64 (0 : Int))]
      (fun z => spec_unit.t2 s at1 z.1 z.2.1))
def spec_unit.t (s : ByteArray) (at1 : Int) : T :=
  .cut 1 (.cons .bool .nil) (
    .ite (decide ((IntKind.wrap IntKind.i64 ((((ByteArray.size s) : Nat) : Int) - at1)) < (6 : Int))) (
      .leaf 1 [(Value.bool Bool.true)]) (
      .chk (((0 : Int) ≤ at1) ∧ (at1 < (((ByteArray.size s) : Nat) : Int))) <|
      .ite ((bt s at1) != (92 : Int)) (
        .leaf 1 [(Value.bool Bool.true)]) (
        .chk (((0 : Int) ≤ (IntKind.wrap IntKind.i64 (at1 + (1 : Int)))) ∧ ((IntKind.wrap IntKind.i64 (at1 + (1 : Int))) < (((ByteArray.size s) : Nat) : Int))) <|
        .leaf 1 [(Value.bool ((bt s (IntKind.wrap IntKind.i64 (at1 + (1 : Int)))) != (117 : Int)))])))
    (fun z => spec_unit.t1 s at1 z.1)
def spec_unit.h : Hints := ⟨[], [], [(1, [(27, .bool)])], [(5, [(7, (.int .i64)), (6, (.int .i64))])]⟩
noncomputable def spec_unit.c : Code := (Tryd.f45.body).getD .skip
theorem spec_unit.e (s : ByteArray) (at1 : Int) : fnT Tryd.prog spec_unit.h Tryd.f45 spec_unit.c [.v (Value.string s), .v (Value.int IntKind.i64 at1)] = spec_unit.t s at1 := by kernel_rfl
theorem spec_unit.calls (s : ByteArray) (at1 : Int) {w : World} {R : Ending → World → Prop} (hs : sat Tryd.prog (spec_unit.t s at1) (fun l vs w' => l = 0 ∧ R (.returned (retVal vs)) w') w) : Calls Tryd.prog 45 #[(Value.string s), (Value.int IntKind.i64 at1)] w R :=
  have h := calls_of_tree (w := w) (R := R) (args := [.v (Value.string s), .v (Value.int IntKind.i64 at1)]) (c := spec_unit.c) Tryd.func45 (show Tryd.f45.body = some spec_unit.c by kernel_rfl) (of_decide_eq_true (by kernel_rfl)) (spec_unit.e s at1) hs
  h

/-! ### pub-tetrapla/spec.short : function 46 -/
def spec_short.t (c0 : Int) : T :=
  .ite (c0 == (98 : Int)) (
    .leaf 0 [(Value.int IntKind.u8 (8 : Int))]) (
    .ite (c0 == (102 : Int)) (
      .leaf 0 [(Value.int IntKind.u8 (12 : Int))]) (
      .ite (c0 == (110 : Int)) (
        .leaf 0 [(Value.int IntKind.u8 (10 : Int))]) (
        .ite (c0 == (114 : Int)) (
          .leaf 0 [(Value.int IntKind.u8 (13 : Int))]) (
          .ite (c0 == (116 : Int)) (
            .leaf 0 [(Value.int IntKind.u8 (9 : Int))]) (
            .leaf 0 [(Value.int IntKind.u8 c0)])))))
def spec_short.h : Hints := ⟨[], [], [], []⟩
noncomputable def spec_short.c : Code := (Tryd.f46.body).getD .skip
theorem spec_short.e (c0 : Int) : fnT Tryd.prog spec_short.h Tryd.f46 spec_short.c [.v (Value.int IntKind.u8 c0)] = spec_short.t c0 := by kernel_rfl
theorem spec_short.calls (c0 : Int) {w : World} {R : Ending → World → Prop} (hs : sat Tryd.prog (spec_short.t c0) (fun l vs w' => l = 0 ∧ R (.returned (retVal vs)) w') w) : Calls Tryd.prog 46 #[(Value.int IntKind.u8 c0)] w R :=
  have h := calls_of_tree (w := w) (R := R) (args := [.v (Value.int IntKind.u8 c0)]) (c := spec_short.c) Tryd.func46 (show Tryd.f46.body = some spec_short.c by kernel_rfl) (of_decide_eq_true (by kernel_rfl)) (spec_short.e c0) hs
  h

/-! ### pub-tetrapla/spec.high : function 47 -/
def spec_high.t (n : Int) : T :=
  .ite (decide ((55296 : Int) ≤ n)) (
    .leaf 0 [(Value.bool (decide (n ≤ (56319 : Int))))]) (
    .leaf 0 [(Value.bool Bool.false)])
def spec_high.h : Hints := ⟨[], [], [], []⟩
noncomputable def spec_high.c : Code := (Tryd.f47.body).getD .skip
theorem spec_high.e (n : Int) : fnT Tryd.prog spec_high.h Tryd.f47 spec_high.c [.v (Value.int IntKind.i64 n)] = spec_high.t n := by kernel_rfl
theorem spec_high.calls (n : Int) {w : World} {R : Ending → World → Prop} (hs : sat Tryd.prog (spec_high.t n) (fun l vs w' => l = 0 ∧ R (.returned (retVal vs)) w') w) : Calls Tryd.prog 47 #[(Value.int IntKind.i64 n)] w R :=
  have h := calls_of_tree (w := w) (R := R) (args := [.v (Value.int IntKind.i64 n)]) (c := spec_high.c) Tryd.func47 (show Tryd.f47.body = some spec_high.c by kernel_rfl) (of_decide_eq_true (by kernel_rfl)) (spec_high.e n) hs
  h

/-! ### pub-tetrapla/spec.low : function 48 -/
def spec_low.t (n : Int) : T :=
  .ite (decide ((56320 : Int) ≤ n)) (
    .leaf 0 [(Value.bool (decide (n ≤ (57343 : Int))))]) (
    .leaf 0 [(Value.bool Bool.false)])
def spec_low.h : Hints := ⟨[], [], [], []⟩
noncomputable def spec_low.c : Code := (Tryd.f48.body).getD .skip
theorem spec_low.e (n : Int) : fnT Tryd.prog spec_low.h Tryd.f48 spec_low.c [.v (Value.int IntKind.i64 n)] = spec_low.t n := by kernel_rfl
theorem spec_low.calls (n : Int) {w : World} {R : Ending → World → Prop} (hs : sat Tryd.prog (spec_low.t n) (fun l vs w' => l = 0 ∧ R (.returned (retVal vs)) w') w) : Calls Tryd.prog 48 #[(Value.int IntKind.i64 n)] w R :=
  have h := calls_of_tree (w := w) (R := R) (args := [.v (Value.int IntKind.i64 n)]) (c := spec_low.c) Tryd.func48 (show Tryd.f48.body = some spec_low.c by kernel_rfl) (of_decide_eq_true (by kernel_rfl)) (spec_low.e n) hs
  h

/-! ### pub-tetrapla/spec.appendUTF8 : function 49 -/
def spec_appendUTF8.t1 (q0 : (Option Addr)) (q0_len : Nat) (q0_cap : Nat) (q1 : Int) (b6 : Bool) : T :=
  .ite b6 (
    .eff (Instr.buildSlice 36 3 #[(0, (Value.int IntKind.u8 (239 : Int))), (1, (Value.int IntKind.u8 (191 : Int))), (2, (Value.int IntKind.u8 (189 : Int)))]) .slice fun (z7 : ((Option Addr) × (Nat × Nat))) =>
    .eff (Builtin.append_ (Call.argTypes (Call.mk (Callee.builtin Builtin.append) #[(Operand.tmp 34), (Operand.tmp 35)] #[36, 36])) 36 #[(Value.slice q0 q0_len q0_cap), (Value.slice (z7).1 ((z7).2).1 ((z7).2).2)]) .slice fun (z8 : ((Option Addr) × (Nat × Nat))) =>
    .leaf 0 [(Value.slice (z8).1 ((z8).2).1 ((z8).2).2)]) (
    .ite (decide (q1 < (65536 : Int))) (
      .chk ((4096 : Int) ≠ (0 : Int)) <|
      .chk ((64 : Int) ≠ (0 : Int)) <|
      .chk ((64 : Int) ≠ (0 : Int)) <|
      .chk ((64 : Int) ≠ (0 : Int)) <|
      .eff (Instr.buildSlice 36 3 #[(0, (Value.int IntKind.u8 (IntKind.wrap IntKind.u8 (IntKind.wrap IntKind.i64 ((224 : Int) + (IntKind.wrap IntKind.i64 (Int.tdiv q1 (4096 : Int)))))))), (1, (Value.int IntKind.u8 (IntKind.wrap IntKind.u8 (IntKind.wrap IntKind.i64 ((128 : Int) + (Int.tmod (IntKind.wrap IntKind.i64 (Int.tdiv q1 (64 : Int))) (64 : Int))))))), (2, (Value.int IntKind.u8 (IntKind.wrap IntKind.u8 (IntKind.wrap IntKind.i64 ((128 : Int) + (Int.tmod q1 (64 : Int)))))))]) .slice fun (z9 : ((Option Addr) × (Nat × Nat))) =>
      .eff (Builtin.append_ (Call.argTypes (Call.mk (Callee.builtin Builtin.append) #[(Operand.tmp 40), (Operand.tmp 54)] #[36, 36])) 36 #[(Value.slice q0 q0_len q0_cap), (Value.slice (z9).1 ((z9).2).1 ((z9).2).2)]) .slice fun (z10 : ((Option Addr) × (Nat × Nat))) =>
      .leaf 0 [(Value.slice (z10).1 ((z10).2).1 ((z10).2).2)]) (
      .chk ((262144 : Int) ≠ (0 : Int)) <|
      .chk ((4096 : Int) ≠ (0 : Int)) <|
      .chk ((64 : Int) ≠ (0 : Int)) <|
      .chk ((64 : Int) ≠ (0 : Int)) <|
      .chk ((64 : Int) ≠ (0 : Int)) <|
      .chk ((64 : Int) ≠ (0 : Int)) <|
      .eff (Instr.buildSlice 36 4 #[(0, (Value.int IntKind.u8 (IntKind.wrap IntKind.u8 (IntKind.wrap IntKind.i64 ((240 : Int) + (IntKind.wrap IntKind.i64 (Int.tdiv q1 (262144 : Int)))))))), (1, (Value.int IntKind.u8 (IntKind.wrap IntKind.u8 (IntKind.wrap IntKind.i64 ((128 : Int) + (Int.tmod (IntKind.wrap IntKind.i64 (Int.tdiv q1 (4096 : Int))) (64 : Int))))))), (2, (Value.int IntKind.u8 (IntKind.wrap IntKind.u8 (IntKind.wrap IntKind.i64 ((128 : Int) + (Int.tmod (IntKind.wrap IntKind.i64 (Int.tdiv q1 (64 : Int))) (64 : Int))))))), (3, (Value.int IntKind.u8 (IntKind.wrap IntKind.u8 (IntKind.wrap IntKind.i64 ((128 : Int) + (Int.tmod q1 (64 : Int)))))))]) .slice fun (z11 : ((Option Addr) × (Nat × Nat))) =>
      .eff (Builtin.append_ (Call.argTypes (Call.mk (Callee.builtin Builtin.append) #[(Operand.tmp 56), (Operand.tmp 75)] #[36, 36])) 36 #[(Value.slice q0 q0_len q0_cap), (Value.slice (z11).1 ((z11).2).1 ((z11).2).2)]) .slice fun (z12 : ((Option Addr) × (Nat × Nat))) =>
      .leaf 0 [(Value.slice (z12).1 ((z12).2).1 ((z12).2).2)]))
def spec_appendUTF8.t (q0 : (Option Addr)) (q0_len : Nat) (q0_cap : Nat) (q1 : Int) : T :=
  .ite (decide (q1 < (128 : Int))) (
    .eff (Instr.buildSlice 36 1 #[(0, (Value.int IntKind.u8 (IntKind.wrap IntKind.u8 q1)))]) .slice fun (z0 : ((Option Addr) × (Nat × Nat))) =>
    .eff (Builtin.append_ (Call.argTypes (Call.mk (Callee.builtin Builtin.append) #[(Operand.tmp 8), (Operand.tmp 11)] #[36, 36])) 36 #[(Value.slice q0 q0_len q0_cap), (Value.slice (z0).1 ((z0).2).1 ((z0).2).2)]) .slice fun (z1 : ((Option Addr) × (Nat × Nat))) =>
    .leaf 0 [(Value.slice (z1).1 ((z1).2).1 ((z1).2).2)]) (
    .ite (decide (q1 < (2048 : Int))) (
      .chk ((64 : Int) ≠ (0 : Int)) <|
      .chk ((64 : Int) ≠ (0 : Int)) <|
      .eff (Instr.buildSlice 36 2 #[(0, (Value.int IntKind.u8 (IntKind.wrap IntKind.u8 (IntKind.wrap IntKind.i64 ((192 : Int) + (IntKind.wrap IntKind.i64 (Int.tdiv q1 (64 : Int)))))))), (1, (Value.int IntKind.u8 (IntKind.wrap IntKind.u8 (IntKind.wrap IntKind.i64 ((128 : Int) + (Int.tmod q1 (64 : Int)))))))]) .slice fun (z2 : ((Option Addr) × (Nat × Nat))) =>
      .eff (Builtin.append_ (Call.argTypes (Call.mk (Callee.builtin Builtin.append) #[(Operand.tmp 16), (Operand.tmp 25)] #[36, 36])) 36 #[(Value.slice q0 q0_len q0_cap), (Value.slice (z2).1 ((z2).2).1 ((z2).2).2)]) .slice fun (z3 : ((Option Addr) × (Nat × Nat))) =>
      .leaf 0 [(Value.slice (z3).1 ((z3).2).1 ((z3).2).2)]) (
      .cut 1 (.cons .bool .nil) (
        .call 47 #[(Value.int IntKind.i64 q1)] .bool fun (b4 : Bool) =>
        .ite b4 (
          .leaf 1 [(Value.bool Bool.true)]) (
          .call 48 #[(Value.int IntKind.i64 q1)] .bool fun (b5 : Bool) =>
          .leaf 1 [(Value.bool b5)]))
        (fun z => spec_appendUTF8.t1 q0 q0_len q0_cap q1 z.1)))
def spec_appendUTF8.h : Hints := ⟨[], [], [(5, [(27, .bool)])], []⟩
noncomputable def spec_appendUTF8.c : Code := (Tryd.f49.body).getD .skip
theorem spec_appendUTF8.e (q0 : (Option Addr)) (q0_len : Nat) (q0_cap : Nat) (q1 : Int) : fnT Tryd.prog spec_appendUTF8.h Tryd.f49 spec_appendUTF8.c [.v (Value.slice q0 q0_len q0_cap), .v (Value.int IntKind.i64 q1)] = spec_appendUTF8.t q0 q0_len q0_cap q1 := by kernel_rfl
theorem spec_appendUTF8.calls (q0 : (Option Addr)) (q0_len : Nat) (q0_cap : Nat) (q1 : Int) {w : World} {R : Ending → World → Prop} (hs : sat Tryd.prog (spec_appendUTF8.t q0 q0_len q0_cap q1) (fun l vs w' => l = 0 ∧ R (.returned (retVal vs)) w') w) : Calls Tryd.prog 49 #[(Value.slice q0 q0_len q0_cap), (Value.int IntKind.i64 q1)] w R :=
  have h := calls_of_tree (w := w) (R := R) (args := [.v (Value.slice q0 q0_len q0_cap), .v (Value.int IntKind.i64 q1)]) (c := spec_appendUTF8.c) Tryd.func49 (show Tryd.f49.body = some spec_appendUTF8.c by kernel_rfl) (of_decide_eq_true (by kernel_rfl)) (spec_appendUTF8.e q0 q0_len q0_cap q1) hs
  h

/-! ### pub-tetrapla/spec.hexDigit : function 63 -/
def spec_hexDigit.t2 (c0 : Int) (b1 : Bool) : T :=
  .ite b1 (
    .leaf 0 [(Value.int IntKind.i64 (IntKind.wrap IntKind.i64 ((IntKind.wrap IntKind.i64 (IntKind.wrap IntKind.u8 (c0 - (97 : Int)))) + (10 : Int)))), (Value.bool Bool.true)]) (
    .ite (decide ((65 : Int) ≤ c0)) (
      .ite (decide (c0 ≤ (70 : Int))) (
        .leaf 0 [(Value.int IntKind.i64 (IntKind.wrap IntKind.i64 ((IntKind.wrap IntKind.i64 (IntKind.wrap IntKind.u8 (c0 - (65 : Int)))) + (10 : Int)))), (Value.bool Bool.true)]) (
        .leaf 0 [(Value.int IntKind.i64 (0 : Int)), (Value.bool Bool.false)])) (
      .leaf 0 [(Value.int IntKind.i64 (0 : Int)), (Value.bool Bool.false)]))
def spec_hexDigit.t1 (c0 : Int) (b0 : Bool) : T :=
  .ite b0 (
    .leaf 0 [(Value.int IntKind.i64 (IntKind.wrap IntKind.i64 (IntKind.wrap IntKind.u8 (c0 - (48 : Int))))), (Value.bool Bool.true)]) (
    .cut 1 (.cons .bool .nil) (
      .ite (decide ((97 : Int) ≤ c0)) (
        .leaf 1 [(Value.bool (decide (c0 ≤ (102 : Int))))]) (
        .leaf 1 [(Value.bool Bool.false)]))
      (fun z => spec_hexDigit.t2 c0 z.1))
def spec_hexDigit.t (c0 : Int) : T :=
  .cut 1 (.cons .bool .nil) (
    .ite (decide ((48 : Int) ≤ c0)) (
      .leaf 1 [(Value.bool (decide (c0 ≤ (57 : Int))))]) (
      .leaf 1 [(Value.bool Bool.false)]))
    (fun z => spec_hexDigit.t1 c0 z.1)
def spec_hexDigit.h : Hints := ⟨[], [], [(1, [(4, .bool)]), (3, [(14, .bool)])], []⟩
noncomputable def spec_hexDigit.c : Code := (Tryd.f63.body).getD .skip
theorem spec_hexDigit.e (c0 : Int) : fnT Tryd.prog spec_hexDigit.h Tryd.f63 spec_hexDigit.c [.v (Value.int IntKind.u8 c0)] = spec_hexDigit.t c0 := by kernel_rfl
theorem spec_hexDigit.calls (c0 : Int) {w : World} {R : Ending → World → Prop} (hs : sat Tryd.prog (spec_hexDigit.t c0) (fun l vs w' => l = 0 ∧ R (.returned (retVal vs)) w') w) : Calls Tryd.prog 63 #[(Value.int IntKind.u8 c0)] w R :=
  have h := calls_of_tree (w := w) (R := R) (args := [.v (Value.int IntKind.u8 c0)]) (c := spec_hexDigit.c) Tryd.func63 (show Tryd.f63.body = some spec_hexDigit.c by kernel_rfl) (of_decide_eq_true (by kernel_rfl)) (spec_hexDigit.e c0) hs
  h

/-! ### (*pub-tetrapla/spec.reader).blanks : function 20 -/
def spec_reader_blanks.t1 (r : (Option Addr)) : T :=
  .drew <|
  .ptr r fun (z0 : Addr) =>
  .load (Addr.add z0 1) (.int .i64) fun (i1 : Int) =>
  .ptr r fun (z2 : Addr) =>
  .load (Addr.add z2 0) .str fun (s3 : ByteArray) =>
  .ite (decide (i1 < (((ByteArray.size s3) : Nat) : Int))) (
    .ptr r fun (z4 : Addr) =>
    .load (Addr.add z4 0) .str fun (s5 : ByteArray) =>
    .ptr r fun (z6 : Addr) =>
    .load (Addr.add z6 1) (.int .i64) fun (i7 : Int) =>
    .chk (((0 : Int) ≤ i7) ∧ (i7 < (((ByteArray.size s5) : Nat) : Int))) <|
    .call 33 #[(Value.int IntKind.u8 (bt s5 i7))] .bool fun (b8 : Bool) =>
    .ite b8 (
      .ptr r fun (z9 : Addr) =>
      .load (Addr.add z9 1) (.int .i64) fun (i10 : Int) =>
      .ptr r fun (z11 : Addr) =>
      .store (Addr.add z11 1) (Value.int IntKind.i64 (IntKind.wrap IntKind.i64 (i10 + (1 : Int)))) <|
      .leaf 1 []) (
      .leaf 0 [])) (
    .leaf 0 [])
def spec_reader_blanks.t (r : (Option Addr)) : T :=
  .loop 1 .nil []
    (fun _ => spec_reader_blanks.t1 r)
def spec_reader_blanks.h : Hints := ⟨[], [], [], [(0, [])]⟩
noncomputable def spec_reader_blanks.c : Code := (Tryd.f20.body).getD .skip
theorem spec_reader_blanks.e (r : (Option Addr)) : fnT Tryd.prog spec_reader_blanks.h Tryd.f20 spec_reader_blanks.c [.v (Value.pointer r)] = spec_reader_blanks.t r := by kernel_rfl
theorem spec_reader_blanks.calls (r : (Option Addr)) {w : World} {R : Ending → World → Prop} (hs : sat Tryd.prog (spec_reader_blanks.t r) (fun l vs w' => l = 0 ∧ R (.returned (retVal vs)) w') w) : Calls Tryd.prog 20 #[(Value.pointer r)] w R :=
  have h := calls_of_tree (w := w) (R := R) (args := [.v (Value.pointer r)]) (c := spec_reader_blanks.c) Tryd.func20 (show Tryd.f20.body = some spec_reader_blanks.c by kernel_rfl) (of_decide_eq_true (by kernel_rfl)) (spec_reader_blanks.e r) hs
  h

/-! ### (*pub-tetrapla/spec.reader).here : function 34 -/
def spec_reader_here.t (r : (Option Addr)) : T :=
  .drew <|
  .ptr r fun (z0 : Addr) =>
  .load (Addr.add z0 1) (.int .i64) fun (i1 : Int) =>
  .ptr r fun (z2 : Addr) =>
  .load (Addr.add z2 0) .str fun (s3 : ByteArray) =>
  .ite (decide (i1 < (((ByteArray.size s3) : Nat) : Int))) (
    .drew <|
    .ptr r fun (z4 : Addr) =>
    .load (Addr.add z4 0) .str fun (s5 : ByteArray) =>
    .ptr r fun (z6 : Addr) =>
    .load (Addr.add z6 1) (.int .i64) fun (i7 : Int) =>
    .chk (((0 : Int) ≤ i7) ∧ (i7 < (((ByteArray.size s5) : Nat) : Int))) <|
    .leaf 0 [(Value.int IntKind.u8 (bt s5 i7))]) (
    .leaf 0 [(Value.int IntKind.u8 (0 : Int))])
def spec_reader_here.h : Hints := ⟨[], [], [], []⟩
noncomputable def spec_reader_here.c : Code := (Tryd.f34.body).getD .skip
theorem spec_reader_here.e (r : (Option Addr)) : fnT Tryd.prog spec_reader_here.h Tryd.f34 spec_reader_here.c [.v (Value.pointer r)] = spec_reader_here.t r := by kernel_rfl
theorem spec_reader_here.calls (r : (Option Addr)) {w : World} {R : Ending → World → Prop} (hs : sat Tryd.prog (spec_reader_here.t r) (fun l vs w' => l = 0 ∧ R (.returned (retVal vs)) w') w) : Calls Tryd.prog 34 #[(Value.pointer r)] w R :=
  have h := calls_of_tree (w := w) (R := R) (args := [.v (Value.pointer r)]) (c := spec_reader_here.c) Tryd.func34 (show Tryd.f34.body = some spec_reader_here.c by kernel_rfl) (of_decide_eq_true (by kernel_rfl)) (spec_reader_here.e r) hs
  h

/-! ### (*pub-tetrapla/spec.reader).quoted : function 37 -/
def spec_reader_quoted.t1 (r : (Option Addr)) : T :=
  .drew <|
  .ptr r fun (z3 : Addr) =>
  .load (Addr.add z3 1) (.int .i64) fun (i4 : Int) =>
  .ptr r fun (z5 : Addr) =>
  .load (Addr.add z5 0) .str fun (s6 : ByteArray) =>
  .ite (decide (i4 < (((ByteArray.size s6) : Nat) : Int))) (
    .drew <|
    .ptr r fun (z7 : Addr) =>
    .load (Addr.add z7 0) .str fun (s8 : ByteArray) =>
    .ptr r fun (z9 : Addr) =>
    .load (Addr.add z9 1) (.int .i64) fun (i10 : Int) =>
    .chk (((0 : Int) ≤ i10) ∧ (i10 < (((ByteArray.size s8) : Nat) : Int))) <|
    .ptr r fun (z11 : Addr) =>
    .load (Addr.add z11 1) (.int .i64) fun (i12 : Int) =>
    .ptr r fun (z13 : Addr) =>
    .store (Addr.add z13 1) (Value.int IntKind.i64 (IntKind.wrap IntKind.i64 (i12 + (1 : Int)))) <|
    .ite ((bt s8 i10) == (34 : Int)) (
      .leaf 0 [(Value.bool Bool.true)]) (
      .ite (decide ((bt s8 i10) < (32 : Int))) (
        .leaf 0 [(Value.bool Bool.false)]) (
        .ite ((bt s8 i10) == (92 : Int)) (
          .call 57 #[(Value.pointer r)] .bool fun (b14 : Bool) =>
          .ite (!b14) (
            .leaf 0 [(Value.bool Bool.false)]) (
            .leaf 1 [])) (
          .leaf 1 [])))) (
    .leaf 0 [(Value.bool Bool.false)])
def spec_reader_quoted.t (r : (Option Addr)) : T :=
  .ptr r fun (z0 : Addr) =>
  .load (Addr.add z0 1) (.int .i64) fun (i1 : Int) =>
  .ptr r fun (z2 : Addr) =>
  .store (Addr.add z2 1) (Value.int IntKind.i64 (IntKind.wrap IntKind.i64 (i1 + (1 : Int)))) <|
  .loop 1 .nil []
    (fun _ => spec_reader_quoted.t1 r)
def spec_reader_quoted.h : Hints := ⟨[], [], [], [(2, [])]⟩
noncomputable def spec_reader_quoted.c : Code := (Tryd.f37.body).getD .skip
theorem spec_reader_quoted.e (r : (Option Addr)) : fnT Tryd.prog spec_reader_quoted.h Tryd.f37 spec_reader_quoted.c [.v (Value.pointer r)] = spec_reader_quoted.t r := by kernel_rfl
theorem spec_reader_quoted.calls (r : (Option Addr)) {w : World} {R : Ending → World → Prop} (hs : sat Tryd.prog (spec_reader_quoted.t r) (fun l vs w' => l = 0 ∧ R (.returned (retVal vs)) w') w) : Calls Tryd.prog 37 #[(Value.pointer r)] w R :=
  have h := calls_of_tree (w := w) (R := R) (args := [.v (Value.pointer r)]) (c := spec_reader_quoted.c) Tryd.func37 (show Tryd.f37.body = some spec_reader_quoted.c by kernel_rfl) (of_decide_eq_true (by kernel_rfl)) (spec_reader_quoted.e r) hs
  h

/-! ### (*pub-tetrapla/spec.reader).number : function 38 -/
def spec_reader_number.t2 (r : (Option Addr)) (b6 : Bool) : T :=
  .ite b6 (
    .leaf 0 [(Value.bool Bool.false)]) (
    .call 56 #[(Value.pointer r), (Value.int IntKind.u8 (101 : Int))] .bool fun (b7 : Bool) =>
    .ite b7 (
      .call 56 #[(Value.pointer r), (Value.int IntKind.u8 (43 : Int))] .bool fun (b8 : Bool) =>
      .ite (!b8) (
        .call 56 #[(Value.pointer r), (Value.int IntKind.u8 (45 : Int))] .bool fun (b9 : Bool) =>
        .call 58 #[(Value.pointer r)] .bool fun (b10 : Bool) =>
        .leaf 0 [(Value.bool b10)]) (
        .call 58 #[(Value.pointer r)] .bool fun (b11 : Bool) =>
        .leaf 0 [(Value.bool b11)])) (
      .call 56 #[(Value.pointer r), (Value.int IntKind.u8 (69 : Int))] .bool fun (b12 : Bool) =>
      .ite b12 (
        .call 56 #[(Value.pointer r), (Value.int IntKind.u8 (43 : Int))] .bool fun (b13 : Bool) =>
        .ite (!b13) (
          .call 56 #[(Value.pointer r), (Value.int IntKind.u8 (45 : Int))] .bool fun (b14 : Bool) =>
          .call 58 #[(Value.pointer r)] .bool fun (b15 : Bool) =>
          .leaf 0 [(Value.bool b15)]) (
          .call 58 #[(Value.pointer r)] .bool fun (b16 : Bool) =>
          .leaf 0 [(Value.bool b16)])) (
        .leaf 0 [(Value.bool Bool.true)])))
def spec_reader_number.t1 (r : (Option Addr)) (b3 : Bool) : T :=
  .ite b3 (
    .leaf 0 [(Value.bool Bool.false)]) (
    .cut 1 (.cons .bool .nil) (
      .call 56 #[(Value.pointer r), (Value.int IntKind.u8 (46 : Int))] .bool fun (b4 : Bool) =>
      .ite b4 (
        .call 58 #[(Value.pointer r)] .bool fun (b5 : Bool) =>
        .leaf 1 [(Value.bool (!b5))]) (
        .leaf 1 [(Value.bool Bool.false)]))
      (fun z => spec_reader_number.t2 r z.1))
def spec_reader_number.t (r : (Option Addr)) : T :=
  .call 56 #[(Value.pointer r), (Value.int IntKind.u8 (45 : Int))] .bool fun (b0 : Bool) =>
  .cut 1 (.cons .bool .nil) (
    .call 56 #[(Value.pointer r), (Value.int IntKind.u8 (48 : Int))] .bool fun (b1 : Bool) =>
    .ite (!b1) (
      .call 58 #[(Value.pointer r)] .bool fun (b2 : Bool) =>
      .leaf 1 [(Value.bool (!b2))]) (
      .leaf 1 [(Value.bool Bool.false)]))
    (fun z => spec_reader_number.t1 r z.1)
def spec_reader_number.h : Hints := ⟨[], [], [(2, [(12, .bool)]), (4, [(19, .bool)])], []⟩
noncomputable def spec_reader_number.c : Code := (Tryd.f38.body).getD .skip
theorem spec_reader_number.e (r : (Option Addr)) : fnT Tryd.prog spec_reader_number.h Tryd.f38 spec_reader_number.c [.v (Value.pointer r)] = spec_reader_number.t r := by kernel_rfl
theorem spec_reader_number.calls (r : (Option Addr)) {w : World} {R : Ending → World → Prop} (hs : sat Tryd.prog (spec_reader_number.t r) (fun l vs w' => l = 0 ∧ R (.returned (retVal vs)) w') w) : Calls Tryd.prog 38 #[(Value.pointer r)] w R :=
  have h := calls_of_tree (w := w) (R := R) (args := [.v (Value.pointer r)]) (c := spec_reader_number.c) Tryd.func38 (show Tryd.f38.body = some spec_reader_number.c by kernel_rfl) (of_decide_eq_true (by kernel_rfl)) (spec_reader_number.e r) hs
  h

/-! ### (*pub-tetrapla/spec.reader).word : function 39 -/
def spec_reader_word.t1 (r : (Option Addr)) (w1 : ByteArray) (b10 : Bool) : T :=
  .ite b10 (
    .leaf 0 [(Value.bool Bool.false)]) (
    .ptr r fun (z11 : Addr) =>
    .load (Addr.add z11 1) (.int .i64) fun (i12 : Int) =>
    .ptr r fun (z13 : Addr) =>
    .store (Addr.add z13 1) (Value.int IntKind.i64 (IntKind.wrap IntKind.i64 (i12 + (((ByteArray.size w1) : Nat) : Int)))) <|
    .leaf 0 [(Value.bool Bool.true)])
def spec_reader_word.t (r : (Option Addr)) (w1 : ByteArray) : T :=
  .cut 1 (.cons .bool .nil) (
    .drew <|
    .ptr r fun (z0 : Addr) =>
    .load (Addr.add z0 0) .str fun (s1 : ByteArray) =>
    .ptr r fun (z2 : Addr) =>
    .load (Addr.add z2 1) (.int .i64) fun (i3 : Int) =>
    .ite (decide ((IntKind.wrap IntKind.i64 ((((ByteArray.size s1) : Nat) : Int) - i3)) < (((ByteArray.size w1) : Nat) : Int))) (
      .leaf 1 [(Value.bool Bool.true)]) (
      .ptr r fun (z4 : Addr) =>
      .load (Addr.add z4 0) .str fun (s5 : ByteArray) =>
      .ptr r fun (z6 : Addr) =>
      .load (Addr.add z6 1) (.int .i64) fun (i7 : Int) =>
      .ptr r fun (z8 : Addr) =>
      .load (Addr.add z8 1) (.int .i64) fun (i9 : Int) =>
      .chk (((0 : Int) ≤ i7) ∧ ((i7 ≤ (IntKind.wrap IntKind.i64 (i9 + (((ByteArray.size w1) : Nat) : Int)))) ∧ ((IntKind.wrap IntKind.i64 (i9 + (((ByteArray.size w1) : Nat) : Int))) ≤ (((ByteArray.size s5) : Nat) : Int)))) <|
      .leaf 1 [(Value.bool (!(strEq (ByteArray.extract s5 (Int.toNat i7) (Int.toNat (IntKind.wrap IntKind.i64 (i9 + (((ByteArray.size w1) : Nat) : Int))))) w1)))]))
    (fun z => spec_reader_word.t1 r w1 z.1)
def spec_reader_word.h : Hints := ⟨[], [], [(1, [(37, .bool)])], []⟩
noncomputable def spec_reader_word.c : Code := (Tryd.f39.body).getD .skip
theorem spec_reader_word.e (r : (Option Addr)) (w1 : ByteArray) : fnT Tryd.prog spec_reader_word.h Tryd.f39 spec_reader_word.c [.v (Value.pointer r), .v (Value.string w1)] = spec_reader_word.t r w1 := by kernel_rfl
theorem spec_reader_word.calls (r : (Option Addr)) (w1 : ByteArray) {w : World} {R : Ending → World → Prop} (hs : sat Tryd.prog (spec_reader_word.t r w1) (fun l vs w' => l = 0 ∧ R (.returned (retVal vs)) w') w) : Calls Tryd.prog 39 #[(Value.pointer r), (Value.string w1)] w R :=
  have h := calls_of_tree (w := w) (R := R) (args := [.v (Value.pointer r), .v (Value.string w1)]) (c := spec_reader_word.c) Tryd.func39 (show Tryd.f39.body = some spec_reader_word.c by kernel_rfl) (of_decide_eq_true (by kernel_rfl)) (spec_reader_word.e r w1) hs
  h

/-! ### (*pub-tetrapla/spec.reader).take : function 56 -/
def spec_reader_take.t (r : (Option Addr)) (c1 : Int) : T :=
  .drew <|
  .ptr r fun (z0 : Addr) =>
  .load (Addr.add z0 1) (.int .i64) fun (i1 : Int) =>
  .ptr r fun (z2 : Addr) =>
  .load (Addr.add z2 0) .str fun (s3 : ByteArray) =>
  .ite (decide (i1 < (((ByteArray.size s3) : Nat) : Int))) (
    .ptr r fun (z4 : Addr) =>
    .load (Addr.add z4 0) .str fun (s5 : ByteArray) =>
    .ptr r fun (z6 : Addr) =>
    .load (Addr.add z6 1) (.int .i64) fun (i7 : Int) =>
    .chk (((0 : Int) ≤ i7) ∧ (i7 < (((ByteArray.size s5) : Nat) : Int))) <|
    .ite ((bt s5 i7) == c1) (
      .ptr r fun (z8 : Addr) =>
      .load (Addr.add z8 1) (.int .i64) fun (i9 : Int) =>
      .ptr r fun (z10 : Addr) =>
      .store (Addr.add z10 1) (Value.int IntKind.i64 (IntKind.wrap IntKind.i64 (i9 + (1 : Int)))) <|
      .leaf 0 [(Value.bool Bool.true)]) (
      .leaf 0 [(Value.bool Bool.false)])) (
    .leaf 0 [(Value.bool Bool.false)])
def spec_reader_take.h : Hints := ⟨[], [], [], []⟩
noncomputable def spec_reader_take.c : Code := (Tryd.f56.body).getD .skip
theorem spec_reader_take.e (r : (Option Addr)) (c1 : Int) : fnT Tryd.prog spec_reader_take.h Tryd.f56 spec_reader_take.c [.v (Value.pointer r), .v (Value.int IntKind.u8 c1)] = spec_reader_take.t r c1 := by kernel_rfl
theorem spec_reader_take.calls (r : (Option Addr)) (c1 : Int) {w : World} {R : Ending → World → Prop} (hs : sat Tryd.prog (spec_reader_take.t r c1) (fun l vs w' => l = 0 ∧ R (.returned (retVal vs)) w') w) : Calls Tryd.prog 56 #[(Value.pointer r), (Value.int IntKind.u8 c1)] w R :=
  have h := calls_of_tree (w := w) (R := R) (args := [.v (Value.pointer r), .v (Value.int IntKind.u8 c1)]) (c := spec_reader_take.c) Tryd.func56 (show Tryd.f56.body = some spec_reader_take.c by kernel_rfl) (of_decide_eq_true (by kernel_rfl)) (spec_reader_take.e r c1) hs
  h

/-! ### (*pub-tetrapla/spec.reader).escape : function 57 -/
def spec_reader_escape.t1 (b1 : Bool) : T :=
  .leaf 6 [(Value.bool b1)]
def spec_reader_escape.t2 (b2 : Bool) : T :=
  .leaf 5 [(Value.bool b2)]
def spec_reader_escape.t3 (b3 : Bool) : T :=
  .leaf 4 [(Value.bool b3)]
def spec_reader_escape.t4 (b4 : Bool) : T :=
  .leaf 3 [(Value.bool b4)]
def spec_reader_escape.t5 (b5 : Bool) : T :=
  .leaf 2 [(Value.bool b5)]
def spec_reader_escape.t6 (b6 : Bool) : T :=
  .leaf 1 [(Value.bool b6)]
def spec_reader_escape.t8 (r : (Option Addr)) (i14 : Int) : T :=
  .ite (decide (i14 < (4 : Int))) (
    .call 34 #[(Value.pointer r)] (.int .u8) fun (i15 : Int) =>
    .call 63 #[(Value.int IntKind.u8 i15)] (.tuple (.cons (.int .i64) (.cons .bool .nil))) fun (z16 : (Int × (Bool × PUnit))) =>
    .ite (!((z16).2).1) (
      .leaf 0 [(Value.bool Bool.false)]) (
      .ptr r fun (z17 : Addr) =>
      .load (Addr.add z17 1) (.int .i64) fun (i18 : Int) =>
      .ptr r fun (z19 : Addr) =>
      .store (Addr.add z19 1) (Value.int IntKind.i64 (IntKind.wrap IntKind.i64 (i18 + (1 : Int)))) <|
      .leaf 2 [(Value.int IntKind.i64 (IntKind.wrap IntKind.i64 (i14 + (1 : Int))))])) (
    .leaf 0 [(Value.bool Bool.true)])
def spec_reader_escape.t9 : T :=
  .leaf 0 [(Value.bool Bool.false)]
def spec_reader_escape.t7 (r : (Option Addr)) (i0 : Int) (b7 : Bool) : T :=
  .cut 1 (.cons .bool .nil) (
    .ite b7 (
      .ptr r fun (z8 : Addr) =>
      .load (Addr.add z8 1) (.int .i64) fun (i9 : Int) =>
      .ptr r fun (z10 : Addr) =>
      .store (Addr.add z10 1) (Value.int IntKind.i64 (IntKind.wrap IntKind.i64 (i9 + (1 : Int)))) <|
      .leaf 0 [(Value.bool Bool.true)]) (
      .ite (i0 == (117 : Int)) (
        .ptr r fun (z11 : Addr) =>
        .load (Addr.add z11 1) (.int .i64) fun (i12 : Int) =>
        .ptr r fun (z13 : Addr) =>
        .store (Addr.add z13 1) (Value.int IntKind.i64 (IntKind.wrap IntKind.i64 (i12 + (1 : Int)))) <|
        .loop 2 (.cons (.int .i64) .nil) [(Value.int IntKind.i64 (0 : Int))]
          (fun z => spec_reader_escape.t8 r z.1)) (
        .leaf 1 [(Value.bool b7)])))
    (fun z => spec_reader_escape.t9)
def spec_reader_escape.t (r : (Option Addr)) : T :=
  .call 34 #[(Value.pointer r)] (.int .u8) fun (i0 : Int) =>
  .cut 1 (.cons .bool .nil) (
    .ite (i0 == (34 : Int)) (
      .leaf 1 [(Value.bool (i0 == (34 : Int)))]) (
      .cut 2 (.cons .bool .nil) (
        .ite (i0 == (92 : Int)) (
          .leaf 2 [(Value.bool (i0 == (92 : Int)))]) (
          .cut 3 (.cons .bool .nil) (
            .ite (i0 == (47 : Int)) (
              .leaf 3 [(Value.bool (i0 == (47 : Int)))]) (
              .cut 4 (.cons .bool .nil) (
                .ite (i0 == (98 : Int)) (
                  .leaf 4 [(Value.bool (i0 == (98 : Int)))]) (
                  .cut 5 (.cons .bool .nil) (
                    .ite (i0 == (102 : Int)) (
                      .leaf 5 [(Value.bool (i0 == (102 : Int)))]) (
                      .cut 6 (.cons .bool .nil) (
                        .ite (i0 == (110 : Int)) (
                          .leaf 6 [(Value.bool (i0 == (110 : Int)))]) (
                          .cut 7 (.cons .bool .nil) (
                            .ite (i0 == (114 : Int)) (
                              .leaf 7 [(Value.bool (i0 == (114 : Int)))]) (
                              .leaf 7 [(Value.bool (i0 == (116 : Int)))]))
                            (fun z => spec_reader_escape.t1 z.1)))
                        (fun z => spec_reader_escape.t2 z.1)))
                    (fun z => spec_reader_escape.t3 z.1)))
                (fun z => spec_reader_escape.t4 z.1)))
            (fun z => spec_reader_escape.t5 z.1)))
        (fun z => spec_reader_escape.t6 z.1)))
    (fun z => spec_reader_escape.t7 r i0 z.1)
def spec_reader_escape.h : Hints := ⟨[(8, [(8, .bool)])], [], [], [(15, [(3, (.int .i64))])]⟩
noncomputable def spec_reader_escape.c : Code := (Tryd.f57.body).getD .skip
theorem spec_reader_escape.e (r : (Option Addr)) : fnT Tryd.prog spec_reader_escape.h Tryd.f57 spec_reader_escape.c [.v (Value.pointer r)] = spec_reader_escape.t r := by kernel_rfl
theorem spec_reader_escape.calls (r : (Option Addr)) {w : World} {R : Ending → World → Prop} (hs : sat Tryd.prog (spec_reader_escape.t r) (fun l vs w' => l = 0 ∧ R (.returned (retVal vs)) w') w) : Calls Tryd.prog 57 #[(Value.pointer r)] w R :=
  have h := calls_of_tree (w := w) (R := R) (args := [.v (Value.pointer r)]) (c := spec_reader_escape.c) Tryd.func57 (show Tryd.f57.body = some spec_reader_escape.c by kernel_rfl) (of_decide_eq_true (by kernel_rfl)) (spec_reader_escape.e r) hs
  h

/-! ### (*pub-tetrapla/spec.reader).digits : function 58 -/
def spec_reader_digits.t1 (r : (Option Addr)) (i1 : Int) (i3 : Int) : T :=
  .ite (decide ((48 : Int) ≤ i3)) (
    .ite (decide (i3 ≤ (57 : Int))) (
      .ptr r fun (z4 : Addr) =>
      .load (Addr.add z4 1) (.int .i64) fun (i5 : Int) =>
      .ptr r fun (z6 : Addr) =>
      .store (Addr.add z6 1) (Value.int IntKind.i64 (IntKind.wrap IntKind.i64 (i5 + (1 : Int)))) <|
      .call 34 #[(Value.pointer r)] (.int .u8) fun (i7 : Int) =>
      .leaf 1 [(Value.int IntKind.u8 i7)]) (
      .ptr r fun (z8 : Addr) =>
      .load (Addr.add z8 1) (.int .i64) fun (i9 : Int) =>
      .leaf 0 [(Value.bool (decide (i9 > i1)))])) (
    .ptr r fun (z10 : Addr) =>
    .load (Addr.add z10 1) (.int .i64) fun (i11 : Int) =>
    .leaf 0 [(Value.bool (decide (i11 > i1)))])
def spec_reader_digits.t (r : (Option Addr)) : T :=
  .ptr r fun (z0 : Addr) =>
  .load (Addr.add z0 1) (.int .i64) fun (i1 : Int) =>
  .call 34 #[(Value.pointer r)] (.int .u8) fun (i2 : Int) =>
  .loop 1 (.cons (.int .u8) .nil) [(Value.int IntKind.u8 i2)]
    (fun z => spec_reader_digits.t1 r i1 z.1)
def spec_reader_digits.h : Hints := ⟨[], [], [], [(3, [(4, (.int .u8))])]⟩
noncomputable def spec_reader_digits.c : Code := (Tryd.f58.body).getD .skip
theorem spec_reader_digits.e (r : (Option Addr)) : fnT Tryd.prog spec_reader_digits.h Tryd.f58 spec_reader_digits.c [.v (Value.pointer r)] = spec_reader_digits.t r := by kernel_rfl
theorem spec_reader_digits.calls (r : (Option Addr)) {w : World} {R : Ending → World → Prop} (hs : sat Tryd.prog (spec_reader_digits.t r) (fun l vs w' => l = 0 ∧ R (.returned (retVal vs)) w') w) : Calls Tryd.prog 58 #[(Value.pointer r)] w R :=
  have h := calls_of_tree (w := w) (R := R) (args := [.v (Value.pointer r)]) (c := spec_reader_digits.c) Tryd.func58 (show Tryd.f58.body = some spec_reader_digits.c by kernel_rfl) (of_decide_eq_true (by kernel_rfl)) (spec_reader_digits.e r) hs
  h

/-! ### pub-tetrapla/spec.Blank : function 33 -/
def spec_Blank.t (c0 : Int) : T :=
  .ite (c0 == (32 : Int)) (
    .leaf 0 [(Value.bool Bool.true)]) (
    .ite (c0 == (9 : Int)) (
      .leaf 0 [(Value.bool Bool.true)]) (
      .ite (c0 == (10 : Int)) (
        .leaf 0 [(Value.bool Bool.true)]) (
        .leaf 0 [(Value.bool (c0 == (13 : Int)))])))
def spec_Blank.h : Hints := ⟨[], [], [], []⟩
noncomputable def spec_Blank.c : Code := (Tryd.f33.body).getD .skip
theorem spec_Blank.e (c0 : Int) : fnT Tryd.prog spec_Blank.h Tryd.f33 spec_Blank.c [.v (Value.int IntKind.u8 c0)] = spec_Blank.t c0 := by kernel_rfl
theorem spec_Blank.calls (c0 : Int) {w : World} {R : Ending → World → Prop} (hs : sat Tryd.prog (spec_Blank.t c0) (fun l vs w' => l = 0 ∧ R (.returned (retVal vs)) w') w) : Calls Tryd.prog 33 #[(Value.int IntKind.u8 c0)] w R :=
  have h := calls_of_tree (w := w) (R := R) (args := [.v (Value.int IntKind.u8 c0)]) (c := spec_Blank.c) Tryd.func33 (show Tryd.f33.body = some spec_Blank.c by kernel_rfl) (of_decide_eq_true (by kernel_rfl)) (spec_Blank.e c0) hs
  h

/-! ### pub-tetrapla/pub/jsonparser.nextTokenConfig : function 52 -/
def jsonparser_nextTokenConfig.t1 (data : (Option Addr)) (data_len : Nat) (i1 : Int) : T :=
  .ite (decide (i1 < ((data_len : Nat) : Int))) (
    .chk (((0 : Int) ≤ i1) ∧ (i1 < ((data_len : Nat) : Int))) <|
    .ptr data fun (z2 : Addr) =>
    .load (Addr.add z2 ((Int.toNat i1) * 1)) (.int .u8) fun (i3 : Int) =>
    .ite (i3 == (32 : Int)) (
      .leaf 1 [(Value.int IntKind.i64 (IntKind.wrap IntKind.i64 (i1 + (1 : Int))))]) (
      .ite (i3 == (10 : Int)) (
        .leaf 1 [(Value.int IntKind.i64 (IntKind.wrap IntKind.i64 (i1 + (1 : Int))))]) (
        .ite (i3 == (13 : Int)) (
          .leaf 1 [(Value.int IntKind.i64 (IntKind.wrap IntKind.i64 (i1 + (1 : Int))))]) (
          .ite (i3 == (9 : Int)) (
            .leaf 1 [(Value.int IntKind.i64 (IntKind.wrap IntKind.i64 (i1 + (1 : Int))))]) (
            .leaf 0 [(Value.int IntKind.i64 i1)]))))) (
    .leaf 0 [(Value.int IntKind.i64 (-1 : Int))])
def jsonparser_nextTokenConfig.t (x0_0 : Bool) (x0_1 : Bool) (x0_2 : Int) (data : (Option Addr)) (data_len : Nat) (data_cap : Nat) : T :=
  .alloc (Obj.cells #[(Value.bool x0_0), (Value.bool x0_1), (Value.int IntKind.i64 x0_2)] 73 (0, 0)) fun (z0 : Addr) =>
  .loop 1 (.cons (.int .i64) .nil) [(Value.int IntKind.i64 (0 : Int))]
    (fun z => jsonparser_nextTokenConfig.t1 data data_len z.1)
def jsonparser_nextTokenConfig.h : Hints := ⟨[], [], [], [(2, [(9, (.int .i64))])]⟩
noncomputable def jsonparser_nextTokenConfig.c : Code := (Tryd.f52.body).getD .skip
theorem jsonparser_nextTokenConfig.e (x0_0 : Bool) (x0_1 : Bool) (x0_2 : Int) (data : (Option Addr)) (data_len : Nat) (data_cap : Nat) : fnT Tryd.prog jsonparser_nextTokenConfig.h Tryd.f52 jsonparser_nextTokenConfig.c [.v (Value.agg #[(Value.bool x0_0), (Value.bool x0_1), (Value.int IntKind.i64 x0_2)]), .v (Value.slice data data_len data_cap)] = jsonparser_nextTokenConfig.t x0_0 x0_1 x0_2 data data_len data_cap := by kernel_rfl
theorem jsonparser_nextTokenConfig.calls (x0_0 : Bool) (x0_1 : Bool) (x0_2 : Int) (data : (Option Addr)) (data_len : Nat) (data_cap : Nat) {w : World} {R : Ending → World → Prop} (hs : sat Tryd.prog (jsonparser_nextTokenConfig.t x0_0 x0_1 x0_2 data data_len data_cap) (fun l vs w' => l = 0 ∧ R (.returned (retVal vs)) w') w) : Calls Tryd.prog 52 #[(Value.agg #[(Value.bool x0_0), (Value.bool x0_1), (Value.int IntKind.i64 x0_2)]), (Value.slice data data_len data_cap)] w R :=
  have h := calls_of_tree (w := w) (R := R) (args := [.v (Value.agg #[(Value.bool x0_0), (Value.bool x0_1), (Value.int IntKind.i64 x0_2)]), .v (Value.slice data data_len data_cap)]) (c := jsonparser_nextTokenConfig.c) Tryd.func52 (show Tryd.f52.body = some jsonparser_nextTokenConfig.c by kernel_rfl) (of_decide_eq_true (by kernel_rfl)) (jsonparser_nextTokenConfig.e x0_0 x0_1 x0_2 data data_len data_cap) hs
  h

/-! ### pub-tetrapla/pub/jsonparser.blockEndConfig : function 54 -/
def jsonparser_blockEndConfig.t2 (q1 : (Option Addr)) (q1_len : Nat) (q2 : Int) (q3 : Int) (i3 : Int) : T :=
  .ite (decide (i3 < ((q1_len : Nat) : Int))) (
    .chk (((0 : Int) ≤ i3) ∧ (i3 < ((q1_len : Nat) : Int))) <|
    .ptr q1 fun (z4 : Addr) =>
    .load (Addr.add z4 ((Int.toNat i3) * 1)) (.int .u8) fun (i5 : Int) =>
    .ite (decide (i5 ≤ (32 : Int))) (
      .leaf 3 [(Value.int IntKind.i64 (IntKind.wrap IntKind.i64 (i3 + (1 : Int))))]) (
      .ite (decide (i5 > (92 : Int))) (
        .ite (i5 != q2) (
          .ite (i5 != q3) (
            .leaf 3 [(Value.int IntKind.i64 (IntKind.wrap IntKind.i64 (i3 + (1 : Int))))]) (
            .leaf 2 [(Value.int IntKind.i64 i3)])) (
          .leaf 2 [(Value.int IntKind.i64 i3)])) (
        .leaf 2 [(Value.int IntKind.i64 i3)]))) (
    .leaf 2 [(Value.int IntKind.i64 i3)])
def jsonparser_blockEndConfig.t5 (q1 : (Option Addr)) (q1_len : Nat) (q1_cap : Nat) (z0 : Addr) (b9 : Bool) (i10 : Int) (i11 : Int) (i13 : Int) (b15 : Bool) : T :=
  .ite b15 (
    .leaf 1 [(Value.int IntKind.i64 (IntKind.wrap IntKind.i64 (i11 + (1 : Int)))), (Value.int IntKind.i64 i10)]) (
    .drew <|
    .effQ (Instr.loadAt 73 (Value.pointer (some z0))) (.agg (.cons .bool (.cons .bool (.cons (.int .i64) .nil)))) fun (z16 : (Bool × (Bool × (Int × PUnit)))) =>
    .chk (((0 : Int) ≤ (IntKind.wrap IntKind.i64 (i11 + (1 : Int)))) ∧ (((IntKind.wrap IntKind.i64 (i11 + (1 : Int))) ≤ ((q1_len : Nat) : Int)) ∧ (((q1_len : Nat) : Int) ≤ ((q1_cap : Nat) : Int)))) <|
    .call 66 #[(Value.agg #[(Value.bool (z16).1), (Value.bool ((z16).2).1), (Value.int IntKind.i64 (((z16).2).2).1)]), (Value.slice (if (q1_cap = (Int.toNat (IntKind.wrap IntKind.i64 (i11 + (1 : Int))))) then q1 else (Option.map (fun (y17 : Addr) => (Addr.add y17 ((Int.toNat (IntKind.wrap IntKind.i64 (i11 + (1 : Int)))) * 1))) q1)) ((Int.toNat ((q1_len : Nat) : Int)) - (Int.toNat (IntKind.wrap IntKind.i64 (i11 + (1 : Int))))) (q1_cap - (Int.toNat (IntKind.wrap IntKind.i64 (i11 + (1 : Int)))))), (Value.int IntKind.u8 i13)] (.tuple (.cons (.int .i64) (.cons .bool .nil))) fun (z18 : (Int × (Bool × PUnit))) =>
    .ite ((z18).1 == (-1 : Int)) (
      .leaf 0 [(Value.int IntKind.i64 (-1 : Int))]) (
      .leaf 2 [(Value.bool b9), (Value.int IntKind.i64 i10), (Value.int IntKind.i64 (IntKind.wrap IntKind.i64 (i11 + (z18).1)))]))
def jsonparser_blockEndConfig.t6 (i20 : Int) (i21 : Int) : T :=
  .leaf 1 [(Value.int IntKind.i64 (IntKind.wrap IntKind.i64 (i21 + (1 : Int)))), (Value.int IntKind.i64 i20)]
def jsonparser_blockEndConfig.t4 (q1 : (Option Addr)) (q1_len : Nat) (q1_cap : Nat) (q2 : Int) (q3 : Int) (z0 : Addr) (i8 : Int) (b9 : Bool) (i10 : Int) (i11 : Int) : T :=
  .cut 2 (.cons .bool (.cons (.int .i64) (.cons (.int .i64) .nil))) (
    .ite b9 (
      .chk (((0 : Int) ≤ i11) ∧ (i11 < ((q1_len : Nat) : Int))) <|
      .ptr q1 fun (z12 : Addr) =>
      .load (Addr.add z12 ((Int.toNat i11) * 1)) (.int .u8) fun (i13 : Int) =>
      .cut 3 (.cons .bool .nil) (
        .ite (i13 == (39 : Int)) (
          .load (Addr.add z0 0) .bool fun (b14 : Bool) =>
          .leaf 3 [(Value.bool (!b14))]) (
          .leaf 3 [(Value.bool Bool.false)]))
        (fun z => jsonparser_blockEndConfig.t5 q1 q1_len q1_cap z0 b9 i10 i11 i13 z.1)) (
      .ite (i8 == q2) (
        .leaf 2 [(Value.bool b9), (Value.int IntKind.i64 (IntKind.wrap IntKind.i64 (i10 + (1 : Int)))), (Value.int IntKind.i64 i11)]) (
        .ite (i8 == q3) (
          .ite ((IntKind.wrap IntKind.i64 (i10 - (1 : Int))) == (0 : Int)) (
            .leaf 0 [(Value.int IntKind.i64 (IntKind.wrap IntKind.i64 (i11 + (1 : Int))))]) (
            .leaf 2 [(Value.bool b9), (Value.int IntKind.i64 (IntKind.wrap IntKind.i64 (i10 - (1 : Int)))), (Value.int IntKind.i64 i11)])) (
          .leaf 2 [(Value.bool b9), (Value.int IntKind.i64 i10), (Value.int IntKind.i64 i11)]))))
    (fun z => jsonparser_blockEndConfig.t6 z.2.1 z.2.2.1)
def jsonparser_blockEndConfig.t3 (q1 : (Option Addr)) (q1_len : Nat) (q1_cap : Nat) (q2 : Int) (q3 : Int) (z0 : Addr) (i2 : Int) (i6 : Int) : T :=
  .ite (decide (i6 ≥ ((q1_len : Nat) : Int))) (
    .leaf 0 [(Value.int IntKind.i64 (-1 : Int))]) (
    .chk (((0 : Int) ≤ i6) ∧ (i6 < ((q1_len : Nat) : Int))) <|
    .ptr q1 fun (z7 : Addr) =>
    .load (Addr.add z7 ((Int.toNat i6) * 1)) (.int .u8) fun (i8 : Int) =>
    .cut 2 (.cons .bool (.cons (.int .i64) (.cons (.int .i64) .nil))) (
      .ite (i8 == (34 : Int)) (
        .leaf 2 [(Value.bool (i8 == (34 : Int))), (Value.int IntKind.i64 i2), (Value.int IntKind.i64 i6)]) (
        .leaf 2 [(Value.bool (i8 == (39 : Int))), (Value.int IntKind.i64 i2), (Value.int IntKind.i64 i6)]))
      (fun z => jsonparser_blockEndConfig.t4 q1 q1_len q1_cap q2 q3 z0 i8 z.1 z.2.1 z.2.2.1))
def jsonparser_blockEndConfig.t1 (q1 : (Option Addr)) (q1_len : Nat) (q1_cap : Nat) (q2 : Int) (q3 : Int) (z0 : Addr) (i1 : Int) (i2 : Int) : T :=
  .ite (decide (i1 < ((q1_len : Nat) : Int))) (
    .cut 2 (.cons (.int .i64) .nil) (
      .loop 3 (.cons (.int .i64) .nil) [(Value.int IntKind.i64 i1)]
        (fun z => jsonparser_blockEndConfig.t2 q1 q1_len q2 q3 z.1))
      (fun z => jsonparser_blockEndConfig.t3 q1 q1_len q1_cap q2 q3 z0 i2 z.1)) (
    .leaf 0 [(Value.int IntKind.i64 (-1 : Int))])
def jsonparser_blockEndConfig.t (q0_0 : Bool) (q0_1 : Bool) (q0_2 : Int) (q1 : (Option Addr)) (q1_len : Nat) (q1_cap : Nat) (q2 : Int) (q3 : Int) : T :=
  .alloc (Obj.cells #[(Value.bool q0_0), (Value.bool q0_1), (Value.int IntKind.i64 q0_2)] 73 (0, 0)) fun (z0 : Addr) =>
  .loop 1 (.cons (.int .i64) (.cons (.int .i64) .nil)) [(Value.int IntKind.i64 (0 : Int)), (Value.int IntKind.i64 (0 : Int))]
    (fun z => jsonparser_blockEndConfig.t1 q1 q1_len q1_cap q2 q3 z0 z.1 z.2.1)
def jsonparser_blockEndConfig.h : Hints := ⟨[(53, [(53, .bool), (9, (.int .i64)), (10, (.int .i64))])], [(2, [(10, (.int .i64))])], [(16, [(66, .bool)])], [(4, [(10, (.int .i64)), (9, (.int .i64))]), (5, [(10, (.int .i64))])]⟩
noncomputable def jsonparser_blockEndConfig.c : Code := (Tryd.f54.body).getD .skip
theorem jsonparser_blockEndConfig.e (q0_0 : Bool) (q0_1 : Bool) (q0_2 : Int) (q1 : (Option Addr)) (q1_len : Nat) (q1_cap : Nat) (q2 : Int) (q3 : Int) : fnT Tryd.prog jsonparser_blockEndConfig.h Tryd.f54 jsonparser_blockEndConfig.c [.v (Value.agg #[(Value.bool q0_0), (Value.bool q0_1), (Value.int IntKind.i64 q0_2)]), .v (Value.slice q1 q1_len q1_cap), .v (Value.int IntKind.u8 q2), .v (Value.int IntKind.u8 q3)] = jsonparser_blockEndConfig.t q0_0 q0_1 q0_2 q1 q1_len q1_cap q2 q3 := by kernel_rfl
theorem jsonparser_blockEndConfig.calls (q0_0 : Bool) (q0_1 : Bool) (q0_2 : Int) (q1 : (Option Addr)) (q1_len : Nat) (q1_cap : Nat) (q2 : Int) (q3 : Int) {w : World} {R : Ending → World → Prop} (hs : sat Tryd.prog (jsonparser_blockEndConfig.t q0_0 q0_1 q0_2 q1 q1_len q1_cap q2 q3) (fun l vs w' => l = 0 ∧ R (.returned (retVal vs)) w') w) : Calls Tryd.prog 54 #[(Value.agg #[(Value.bool q0_0), (Value.bool q0_1), (Value.int IntKind.i64 q0_2)]), (Value.slice q1 q1_len q1_cap), (Value.int IntKind.u8 q2), (Value.int IntKind.u8 q3)] w R :=
  have h := calls_of_tree (w := w) (R := R) (args := [.v (Value.agg #[(Value.bool q0_0), (Value.bool q0_1), (Value.int IntKind.i64 q0_2)]), .v (Value.slice q1 q1_len q1_cap), .v (Value.int IntKind.u8 q2), .v (Value.int IntKind.u8 q3)]) (c := jsonparser_blockEndConfig.c) Tryd.func54 (show Tryd.f54.body = some jsonparser_blockEndConfig.c by kernel_rfl) (of_decide_eq_true (by kernel_rfl)) (jsonparser_blockEndConfig.e q0_0 q0_1 q0_2 q1 q1_len q1_cap q2 q3) hs
  h

/-! ### pub-tetrapla/pub/jsonparser.stringEndConfig : function 66 -/
def jsonparser_stringEndConfig.t1 (q1 : (Option Addr)) (q1_len : Nat) (q1_cap : Nat) (q2 : Int) (i1 : Int) : T :=
  .ite (decide ((IntKind.wrap IntKind.i64 (i1 + (8 : Int))) ≤ ((q1_len : Nat) : Int))) (
    .drew <|
    .effS (Instr.loadAt 126 (Value.pointer (some (Addr.mk 9 0 Option.none)))) (.agg .nil) fun _ =>
    .chk (((0 : Int) ≤ i1) ∧ ((i1 ≤ ((q1_len : Nat) : Int)) ∧ (((q1_len : Nat) : Int) ≤ ((q1_cap : Nat) : Int)))) <|
    .call 78 #[(Value.agg #[]), (Value.slice (if (q1_cap = (Int.toNat i1)) then q1 else (Option.map (fun (y2 : Addr) => (Addr.add y2 ((Int.toNat i1) * 1))) q1)) ((Int.toNat ((q1_len : Nat) : Int)) - (Int.toNat i1)) (q1_cap - (Int.toNat i1)))] (.int .u64) fun (i3 : Int) =>
    .eff (Op.unary UnOp.xor (Value.int IntKind.u64 (IntKind.wrap IntKind.u64 (((BitVec.toNat ((BitVec.ofInt 64 i3) ^^^ (BitVec.ofInt 64 (IntKind.wrap IntKind.u64 ((IntKind.wrap IntKind.u64 q2) * (72340172838076673 : Int)))))) : Nat) : Int)))) (.int .u64) fun (i4 : Int) =>
    .eff (Op.unary UnOp.xor (Value.int IntKind.u64 (IntKind.wrap IntKind.u64 (((BitVec.toNat ((BitVec.ofInt 64 i3) ^^^ (BitVec.ofInt 64 (6655295901103053916 : Int)))) : Nat) : Int)))) (.int .u64) fun (i5 : Int) =>
    .ite ((IntKind.wrap IntKind.u64 (((BitVec.toNat ((BitVec.ofInt 64 (IntKind.wrap IntKind.u64 (((BitVec.toNat ((BitVec.ofInt 64 (IntKind.wrap IntKind.u64 (((BitVec.toNat ((BitVec.ofInt 64 (IntKind.wrap IntKind.u64 ((IntKind.wrap IntKind.u64 (((BitVec.toNat ((BitVec.ofInt 64 i3) ^^^ (BitVec.ofInt 64 (IntKind.wrap IntKind.u64 ((IntKind.wrap IntKind.u64 q2) * (72340172838076673 : Int)))))) : Nat) : Int)) - (72340172838076673 : Int)))) &&& (BitVec.ofInt 64 i4))) : Nat) : Int))) &&& (BitVec.ofInt 64 (9259542123273814144 : Int)))) : Nat) : Int))) ||| (BitVec.ofInt 64 (IntKind.wrap IntKind.u64 (((BitVec.toNat ((BitVec.ofInt 64 (IntKind.wrap IntKind.u64 (((BitVec.toNat ((BitVec.ofInt 64 (IntKind.wrap IntKind.u64 ((IntKind.wrap IntKind.u64 (((BitVec.toNat ((BitVec.ofInt 64 i3) ^^^ (BitVec.ofInt 64 (6655295901103053916 : Int)))) : Nat) : Int)) - (72340172838076673 : Int)))) &&& (BitVec.ofInt 64 i5))) : Nat) : Int))) &&& (BitVec.ofInt 64 (9259542123273814144 : Int)))) : Nat) : Int))))) : Nat) : Int)) == (0 : Int)) (
      .leaf 2 [(Value.int IntKind.i64 (IntKind.wrap IntKind.i64 (i1 + (8 : Int))))]) (
      .leaf 1 [(Value.int IntKind.i64 i1)])) (
    .leaf 1 [(Value.int IntKind.i64 i1)])
def jsonparser_stringEndConfig.t5 (q1 : (Option Addr)) (q1_len : Nat) (i7 : Int) (b8 : Bool) (i13 : Int) (b16 : Bool) : T :=
  .ite b16 (
    .leaf 0 [(Value.int IntKind.i64 (IntKind.wrap IntKind.i64 (i7 + (1 : Int)))), (Value.bool Bool.true)]) (
    .ite (decide ((IntKind.wrap IntKind.i64 (i13 - (1 : Int))) < (0 : Int))) (
      .leaf 1 [(Value.int IntKind.i64 (IntKind.wrap IntKind.i64 (i7 + (1 : Int)))), (Value.bool b8)]) (
      .chk (((0 : Int) ≤ (IntKind.wrap IntKind.i64 (i13 - (1 : Int)))) ∧ ((IntKind.wrap IntKind.i64 (i13 - (1 : Int))) < ((q1_len : Nat) : Int))) <|
      .ptr q1 fun (z17 : Addr) =>
      .load (Addr.add z17 ((Int.toNat (IntKind.wrap IntKind.i64 (i13 - (1 : Int)))) * 1)) (.int .u8) fun (i18 : Int) =>
      .ite (i18 != (92 : Int)) (
        .leaf 1 [(Value.int IntKind.i64 (IntKind.wrap IntKind.i64 (i7 + (1 : Int)))), (Value.bool b8)]) (
        .leaf 2 [(Value.int IntKind.i64 (IntKind.wrap IntKind.i64 ((IntKind.wrap IntKind.i64 (i13 - (1 : Int))) - (1 : Int))))])))
def jsonparser_stringEndConfig.t4 (q1 : (Option Addr)) (q1_len : Nat) (i7 : Int) (b8 : Bool) (i13 : Int) : T :=
  .cut 3 (.cons .bool .nil) (
    .ite (decide (i13 < (0 : Int))) (
      .leaf 3 [(Value.bool Bool.true)]) (
      .chk (((0 : Int) ≤ i13) ∧ (i13 < ((q1_len : Nat) : Int))) <|
      .ptr q1 fun (z14 : Addr) =>
      .load (Addr.add z14 ((Int.toNat i13) * 1)) (.int .u8) fun (i15 : Int) =>
      .leaf 3 [(Value.bool (i15 != (92 : Int)))]))
    (fun z => jsonparser_stringEndConfig.t5 q1 q1_len i7 b8 i13 z.1)
def jsonparser_stringEndConfig.t3 (q1 : (Option Addr)) (q1_len : Nat) (q2 : Int) (i7 : Int) (b8 : Bool) : T :=
  .ite (decide (i7 < ((q1_len : Nat) : Int))) (
    .chk (((0 : Int) ≤ i7) ∧ (i7 < ((q1_len : Nat) : Int))) <|
    .ptr q1 fun (z9 : Addr) =>
    .load (Addr.add z9 ((Int.toNat i7) * 1)) (.int .u8) fun (i10 : Int) =>
    .ite (decide (i10 > (92 : Int))) (
      .leaf 1 [(Value.int IntKind.i64 (IntKind.wrap IntKind.i64 (i7 + (1 : Int)))), (Value.bool b8)]) (
      .chk (((0 : Int) ≤ i7) ∧ (i7 < ((q1_len : Nat) : Int))) <|
      .ptr q1 fun (z11 : Addr) =>
      .load (Addr.add z11 ((Int.toNat i7) * 1)) (.int .u8) fun (i12 : Int) =>
      .ite (i12 == q2) (
        .ite (!b8) (
          .leaf 0 [(Value.int IntKind.i64 (IntKind.wrap IntKind.i64 (i7 + (1 : Int)))), (Value.bool Bool.false)]) (
          .loop 2 (.cons (.int .i64) .nil) [(Value.int IntKind.i64 (IntKind.wrap IntKind.i64 (i7 - (1 : Int))))]
            (fun z => jsonparser_stringEndConfig.t4 q1 q1_len i7 b8 z.1))) (
        .ite (i12 == (92 : Int)) (
          .leaf 1 [(Value.int IntKind.i64 (IntKind.wrap IntKind.i64 (i7 + (1 : Int)))), (Value.bool Bool.true)]) (
          .leaf 1 [(Value.int IntKind.i64 (IntKind.wrap IntKind.i64 (i7 + (1 : Int)))), (Value.bool b8)])))) (
    .leaf 0 [(Value.int IntKind.i64 (-1 : Int)), (Value.bool b8)])
def jsonparser_stringEndConfig.t2 (q1 : (Option Addr)) (q1_len : Nat) (q2 : Int) (i6 : Int) : T :=
  .loop 1 (.cons (.int .i64) (.cons .bool .nil)) [(Value.int IntKind.i64 i6), (Value.bool Bool.false)]
    (fun z => jsonparser_stringEndConfig.t3 q1 q1_len q2 z.1 z.2.1)
def jsonparser_stringEndConfig.t (q0_0 : Bool) (q0_1 : Bool) (q0_2 : Int) (q1 : (Option Addr)) (q1_len : Nat) (q1_cap : Nat) (q2 : Int) : T :=
  .alloc (Obj.cells #[(Value.bool q0_0), (Value.bool q0_1), (Value.int IntKind.i64 q0_2)] 73 (0, 0)) fun (z0 : Addr) =>
  .cut 1 (.cons (.int .i64) .nil) (
    .loop 2 (.cons (.int .i64) .nil) [(Value.int IntKind.i64 (0 : Int))]
      (fun z => jsonparser_stringEndConfig.t1 q1 q1_len q1_cap q2 z.1))
    (fun z => jsonparser_stringEndConfig.t2 q1 q1_len q2 z.1)
def jsonparser_stringEndConfig.h : Hints := ⟨[], [(0, [(10, (.int .i64))])], [(22, [(89, .bool)])], [(5, [(10, (.int .i64))]), (14, [(10, (.int .i64)), (17, .bool)]), (22, [(19, (.int .i64))])]⟩
noncomputable def jsonparser_stringEndConfig.c : Code := (Tryd.f66.body).getD .skip
theorem jsonparser_stringEndConfig.e (q0_0 : Bool) (q0_1 : Bool) (q0_2 : Int) (q1 : (Option Addr)) (q1_len : Nat) (q1_cap : Nat) (q2 : Int) : fnT Tryd.prog jsonparser_stringEndConfig.h Tryd.f66 jsonparser_stringEndConfig.c [.v (Value.agg #[(Value.bool q0_0), (Value.bool q0_1), (Value.int IntKind.i64 q0_2)]), .v (Value.slice q1 q1_len q1_cap), .v (Value.int IntKind.u8 q2)] = jsonparser_stringEndConfig.t q0_0 q0_1 q0_2 q1 q1_len q1_cap q2 := by kernel_rfl
theorem jsonparser_stringEndConfig.calls (q0_0 : Bool) (q0_1 : Bool) (q0_2 : Int) (q1 : (Option Addr)) (q1_len : Nat) (q1_cap : Nat) (q2 : Int) {w : World} {R : Ending → World → Prop} (hs : sat Tryd.prog (jsonparser_stringEndConfig.t q0_0 q0_1 q0_2 q1 q1_len q1_cap q2) (fun l vs w' => l = 0 ∧ R (.returned (retVal vs)) w') w) : Calls Tryd.prog 66 #[(Value.agg #[(Value.bool q0_0), (Value.bool q0_1), (Value.int IntKind.i64 q0_2)]), (Value.slice q1 q1_len q1_cap), (Value.int IntKind.u8 q2)] w R :=
  have h := calls_of_tree (w := w) (R := R) (args := [.v (Value.agg #[(Value.bool q0_0), (Value.bool q0_1), (Value.int IntKind.i64 q0_2)]), .v (Value.slice q1 q1_len q1_cap), .v (Value.int IntKind.u8 q2)]) (c := jsonparser_stringEndConfig.c) Tryd.func66 (show Tryd.f66.body = some jsonparser_stringEndConfig.c by kernel_rfl) (of_decide_eq_true (by kernel_rfl)) (jsonparser_stringEndConfig.e q0_0 q0_1 q0_2 q1 q1_len q1_cap q2) hs
  h

/-! ### pub-tetrapla/pub/jsonparser.getTypeConfig : function 65 -/
def jsonparser_getTypeConfig.t3 (q2 : Int) (b32 : Bool) (b38 : Bool) : T :=
  .ite b38 (
    .leaf 2 [(Value.bool b32), (Value.int IntKind.i64 (5 : Int))]) (
    .drew <|
    .load (Addr.mk 8 0 Option.none) .any fun (v39 : Value) =>
    .leaf 0 [(Value.slice none 0 0), (Value.int IntKind.i64 (7 : Int)), (Value.int IntKind.i64 q2), v39])
def jsonparser_getTypeConfig.t5 (b45 : Bool) (i46 : Int) : T :=
  .leaf 12 [(Value.bool b45), (Value.int IntKind.i64 i46)]
def jsonparser_getTypeConfig.t6 (b47 : Bool) (i48 : Int) : T :=
  .leaf 11 [(Value.bool b47), (Value.int IntKind.i64 i48)]
def jsonparser_getTypeConfig.t7 (b49 : Bool) (i50 : Int) : T :=
  .leaf 10 [(Value.bool b49), (Value.int IntKind.i64 i50)]
def jsonparser_getTypeConfig.t8 (b51 : Bool) (i52 : Int) : T :=
  .leaf 9 [(Value.bool b51), (Value.int IntKind.i64 i52)]
def jsonparser_getTypeConfig.t9 (b53 : Bool) (i54 : Int) : T :=
  .leaf 8 [(Value.bool b53), (Value.int IntKind.i64 i54)]
def jsonparser_getTypeConfig.t10 (b55 : Bool) (i56 : Int) : T :=
  .leaf 7 [(Value.bool b55), (Value.int IntKind.i64 i56)]
def jsonparser_getTypeConfig.t11 (b57 : Bool) (i58 : Int) : T :=
  .leaf 6 [(Value.bool b57), (Value.int IntKind.i64 i58)]
def jsonparser_getTypeConfig.t12 (b59 : Bool) (i60 : Int) : T :=
  .leaf 5 [(Value.bool b59), (Value.int IntKind.i64 i60)]
def jsonparser_getTypeConfig.t13 (b61 : Bool) (i62 : Int) : T :=
  .leaf 4 [(Value.bool b61), (Value.int IntKind.i64 i62)]
def jsonparser_getTypeConfig.t15 (b40 : Bool) (i67 : Int) : T :=
  .leaf 3 [(Value.bool b40), (Value.int IntKind.i64 i67)]
def jsonparser_getTypeConfig.t14 (q2 : Int) (b40 : Bool) (b63 : Bool) : T :=
  .cut 4 (.cons .bool (.cons (.int .i64) .nil)) (
    .ite b63 (
      .leaf 4 [(Value.bool b63), (Value.int IntKind.i64 (2 : Int))]) (
      .drew <|
      .load (Addr.mk 8 0 Option.none) .any fun (v65 : Value) =>
      .leaf 0 [(Value.slice none 0 0), (Value.int IntKind.i64 (7 : Int)), (Value.int IntKind.i64 q2), v65]))
    (fun z => jsonparser_getTypeConfig.t15 b40 z.2.1)
def jsonparser_getTypeConfig.t16 (b32 : Bool) (i69 : Int) : T :=
  .leaf 2 [(Value.bool b32), (Value.int IntKind.i64 i69)]
def jsonparser_getTypeConfig.t4 (q1 : (Option Addr)) (q1_cap : Nat) (q2 : Int) (i29 : Int) (i31 : Int) (b32 : Bool) (b40 : Bool) (i41 : Int) : T :=
  .cut 3 (.cons .bool (.cons (.int .i64) .nil)) (
    .ite b40 (
      .eff (convert 36 9 (Value.slice (if (q1_cap = (Int.toNat q2)) then q1 else (Option.map (fun (y42 : Addr) => (Addr.add y42 ((Int.toNat q2) * 1))) q1)) ((Int.toNat (IntKind.wrap IntKind.i64 (q2 + i29))) - (Int.toNat q2)) (q1_cap - (Int.toNat q2)))) .str fun (s43 : ByteArray) =>
      .ite (strEq s43 (ByteArray.mk #[(110 : UInt8), (117 : UInt8), (108 : UInt8), (108 : UInt8)])) (
        .leaf 3 [(Value.bool b40), (Value.int IntKind.i64 (6 : Int))]) (
        .drew <|
        .load (Addr.mk 8 0 Option.none) .any fun (v44 : Value) =>
        .leaf 0 [(Value.slice none 0 0), (Value.int IntKind.i64 (7 : Int)), (Value.int IntKind.i64 q2), v44])) (
      .cut 4 (.cons .bool (.cons (.int .i64) .nil)) (
        .ite (i31 == (48 : Int)) (
          .leaf 4 [(Value.bool (i31 == (48 : Int))), (Value.int IntKind.i64 i41)]) (
          .cut 5 (.cons .bool (.cons (.int .i64) .nil)) (
            .ite (i31 == (49 : Int)) (
              .leaf 5 [(Value.bool (i31 == (49 : Int))), (Value.int IntKind.i64 i41)]) (
              .cut 6 (.cons .bool (.cons (.int .i64) .nil)) (
                .ite (i31 == (50 : Int)) (
                  .leaf 6 [(Value.bool (i31 == (50 : Int))), (Value.int IntKind.i64 i41)]) (
                  .cut 7 (.cons .bool (.cons (.int .i64) .nil)) (
                    .ite (i31 == (51 : Int)) (
                      .leaf 7 [(Value.bool (i31 == (51 : Int))), (Value.int IntKind.i64 i41)]) (
                      .cut 8 (.cons .bool (.cons (.int .i64) .nil)) (
                        .ite (i31 == (52 : Int)) (
                          .leaf 8 [(Value.bool (i31 == (52 : Int))), (Value.int IntKind.i64 i41)]) (
                          .cut 9 (.cons .bool (.cons (.int .i64) .nil)) (
                            .ite (i31 == (53 : Int)) (
                              .leaf 9 [(Value.bool (i31 == (53 : Int))), (Value.int IntKind.i64 i41)]) (
                              .cut 10 (.cons .bool (.cons (.int .i64) .nil)) (
                                .ite (i31 == (54 : Int)) (
                                  .leaf 10 [(Value.bool (i31 == (54 : Int))), (Value.int IntKind.i64 i41)]) (
                                  .cut 11 (.cons .bool (.cons (.int .i64) .nil)) (
                                    .ite (i31 == (55 : Int)) (
                                      .leaf 11 [(Value.bool (i31 == (55 : Int))), (Value.int IntKind.i64 i41)]) (
                                      .cut 12 (.cons .bool (.cons (.int .i64) .nil)) (
                                        .ite (i31 == (56 : Int)) (
                                          .leaf 12 [(Value.bool (i31 == (56 : Int))), (Value.int IntKind.i64 i41)]) (
                                          .cut 13 (.cons .bool (.cons (.int .i64) .nil)) (
                                            .ite (i31 == (57 : Int)) (
                                              .leaf 13 [(Value.bool (i31 == (57 : Int))), (Value.int IntKind.i64 i41)]) (
                                              .leaf 13 [(Value.bool (i31 == (45 : Int))), (Value.int IntKind.i64 i41)]))
                                            (fun z => jsonparser_getTypeConfig.t5 z.1 z.2.1)))
                                        (fun z => jsonparser_getTypeConfig.t6 z.1 z.2.1)))
                                    (fun z => jsonparser_getTypeConfig.t7 z.1 z.2.1)))
                                (fun z => jsonparser_getTypeConfig.t8 z.1 z.2.1)))
                            (fun z => jsonparser_getTypeConfig.t9 z.1 z.2.1)))
                        (fun z => jsonparser_getTypeConfig.t10 z.1 z.2.1)))
                    (fun z => jsonparser_getTypeConfig.t11 z.1 z.2.1)))
                (fun z => jsonparser_getTypeConfig.t12 z.1 z.2.1)))
            (fun z => jsonparser_getTypeConfig.t13 z.1 z.2.1)))
        (fun z => jsonparser_getTypeConfig.t14 q2 b40 z.1)))
    (fun z => jsonparser_getTypeConfig.t16 b32 z.2.1)
def jsonparser_getTypeConfig.t17 (i71 : Int) : T :=
  .leaf 1 [(Value.int IntKind.i64 i71)]
def jsonparser_getTypeConfig.t2 (q1 : (Option Addr)) (q1_cap : Nat) (q2 : Int) (i29 : Int) (i31 : Int) (b32 : Bool) (i33 : Int) : T :=
  .cut 2 (.cons .bool (.cons (.int .i64) .nil)) (
    .ite b32 (
      .cut 3 (.cons .bool .nil) (
        .eff (convert 36 9 (Value.slice (if (q1_cap = (Int.toNat q2)) then q1 else (Option.map (fun (y34 : Addr) => (Addr.add y34 ((Int.toNat q2) * 1))) q1)) ((Int.toNat (IntKind.wrap IntKind.i64 (q2 + i29))) - (Int.toNat q2)) (q1_cap - (Int.toNat q2)))) .str fun (s35 : ByteArray) =>
        .ite (strEq s35 (ByteArray.mk #[(116 : UInt8), (114 : UInt8), (117 : UInt8), (101 : UInt8)])) (
          .leaf 3 [(Value.bool Bool.true)]) (
          .eff (convert 36 9 (Value.slice (if (q1_cap = (Int.toNat q2)) then q1 else (Option.map (fun (y36 : Addr) => (Addr.add y36 ((Int.toNat q2) * 1))) q1)) ((Int.toNat (IntKind.wrap IntKind.i64 (q2 + i29))) - (Int.toNat q2)) (q1_cap - (Int.toNat q2)))) .str fun (s37 : ByteArray) =>
          .leaf 3 [(Value.bool (strEq s37 (ByteArray.mk #[(102 : UInt8), (97 : UInt8), (108 : UInt8), (115 : UInt8), (101 : UInt8)])))]))
        (fun z => jsonparser_getTypeConfig.t3 q2 b32 z.1)) (
      .cut 3 (.cons .bool (.cons (.int .i64) .nil)) (
        .ite (i31 == (117 : Int)) (
          .leaf 3 [(Value.bool (i31 == (117 : Int))), (Value.int IntKind.i64 i33)]) (
          .leaf 3 [(Value.bool (i31 == (110 : Int))), (Value.int IntKind.i64 i33)]))
        (fun z => jsonparser_getTypeConfig.t4 q1 q1_cap q2 i29 i31 b32 z.1 z.2.1)))
    (fun z => jsonparser_getTypeConfig.t17 z.2.1)
def jsonparser_getTypeConfig.t18 (q1 : (Option Addr)) (q1_cap : Nat) (q2 : Int) (i29 : Int) (i72 : Int) : T :=
  .chk (((0 : Int) ≤ q2) ∧ ((q2 ≤ (IntKind.wrap IntKind.i64 (q2 + i29))) ∧ ((IntKind.wrap IntKind.i64 (q2 + i29)) ≤ ((q1_cap : Nat) : Int)))) <|
  .leaf 0 [(Value.slice (if (q1_cap = (Int.toNat q2)) then q1 else (Option.map (fun (y73 : Addr) => (Addr.add y73 ((Int.toNat q2) * 1))) q1)) ((Int.toNat (IntKind.wrap IntKind.i64 (q2 + i29))) - (Int.toNat q2)) (q1_cap - (Int.toNat q2))), (Value.int IntKind.i64 i72), (Value.int IntKind.i64 (IntKind.wrap IntKind.i64 (q2 + i29))), Value.nilIface]
def jsonparser_getTypeConfig.t1 (q1 : (Option Addr)) (q1_len : Nat) (q1_cap : Nat) (q2 : Int) (z0 : Addr) (b6 : Bool) : T :=
  .ite b6 (
    .drew <|
    .effQ (Instr.loadAt 73 (Value.pointer (some z0))) (.agg (.cons .bool (.cons .bool (.cons (.int .i64) .nil)))) fun (z7 : (Bool × (Bool × (Int × PUnit)))) =>
    .chk (((0 : Int) ≤ (IntKind.wrap IntKind.i64 (q2 + (1 : Int)))) ∧ (((IntKind.wrap IntKind.i64 (q2 + (1 : Int))) ≤ ((q1_len : Nat) : Int)) ∧ (((q1_len : Nat) : Int) ≤ ((q1_cap : Nat) : Int)))) <|
    .chk (((0 : Int) ≤ q2) ∧ (q2 < ((q1_len : Nat) : Int))) <|
    .ptr q1 fun (z8 : Addr) =>
    .load (Addr.add z8 ((Int.toNat q2) * 1)) (.int .u8) fun (i9 : Int) =>
    .call 66 #[(Value.agg #[(Value.bool (z7).1), (Value.bool ((z7).2).1), (Value.int IntKind.i64 (((z7).2).2).1)]), (Value.slice (if (q1_cap = (Int.toNat (IntKind.wrap IntKind.i64 (q2 + (1 : Int))))) then q1 else (Option.map (fun (y10 : Addr) => (Addr.add y10 ((Int.toNat (IntKind.wrap IntKind.i64 (q2 + (1 : Int)))) * 1))) q1)) ((Int.toNat ((q1_len : Nat) : Int)) - (Int.toNat (IntKind.wrap IntKind.i64 (q2 + (1 : Int))))) (q1_cap - (Int.toNat (IntKind.wrap IntKind.i64 (q2 + (1 : Int)))))), (Value.int IntKind.u8 i9)] (.tuple (.cons (.int .i64) (.cons .bool .nil))) fun (z11 : (Int × (Bool × PUnit))) =>
    .ite ((z11).1 != (-1 : Int)) (
      .chk (((0 : Int) ≤ q2) ∧ ((q2 ≤ (IntKind.wrap IntKind.i64 (q2 + (IntKind.wrap IntKind.i64 ((z11).1 + (1 : Int)))))) ∧ ((IntKind.wrap IntKind.i64 (q2 + (IntKind.wrap IntKind.i64 ((z11).1 + (1 : Int))))) ≤ ((q1_cap : Nat) : Int)))) <|
      .leaf 0 [(Value.slice (if (q1_cap = (Int.toNat q2)) then q1 else (Option.map (fun (y12 : Addr) => (Addr.add y12 ((Int.toNat q2) * 1))) q1)) ((Int.toNat (IntKind.wrap IntKind.i64 (q2 + (IntKind.wrap IntKind.i64 ((z11).1 + (1 : Int)))))) - (Int.toNat q2)) (q1_cap - (Int.toNat q2))), (Value.int IntKind.i64 (1 : Int)), (Value.int IntKind.i64 (IntKind.wrap IntKind.i64 (q2 + (IntKind.wrap IntKind.i64 ((z11).1 + (1 : Int)))))), Value.nilIface]) (
      .drew <|
      .load (Addr.mk 7 0 Option.none) .any fun (v13 : Value) =>
      .leaf 0 [(Value.slice none 0 0), (Value.int IntKind.i64 (1 : Int)), (Value.int IntKind.i64 q2), v13])) (
    .chk (((0 : Int) ≤ q2) ∧ (q2 < ((q1_len : Nat) : Int))) <|
    .ptr q1 fun (z14 : Addr) =>
    .load (Addr.add z14 ((Int.toNat q2) * 1)) (.int .u8) fun (i15 : Int) =>
    .ite (i15 == (91 : Int)) (
      .drew <|
      .effS (Instr.loadAt 73 (Value.pointer (some z0))) (.agg (.cons .bool (.cons .bool (.cons (.int .i64) .nil)))) fun (z16 : (Bool × (Bool × (Int × PUnit)))) =>
      .chk (((0 : Int) ≤ q2) ∧ ((q2 ≤ ((q1_len : Nat) : Int)) ∧ (((q1_len : Nat) : Int) ≤ ((q1_cap : Nat) : Int)))) <|
      .call 54 #[(Value.agg #[(Value.bool (z16).1), (Value.bool ((z16).2).1), (Value.int IntKind.i64 (((z16).2).2).1)]), (Value.slice (if (q1_cap = (Int.toNat q2)) then q1 else (Option.map (fun (y17 : Addr) => (Addr.add y17 ((Int.toNat q2) * 1))) q1)) ((Int.toNat ((q1_len : Nat) : Int)) - (Int.toNat q2)) (q1_cap - (Int.toNat q2))), (Value.int IntKind.u8 (91 : Int)), (Value.int IntKind.u8 (93 : Int))] (.int .i64) fun (i18 : Int) =>
      .ite (i18 == (-1 : Int)) (
        .drew <|
        .load (Addr.mk 3 0 Option.none) .any fun (v19 : Value) =>
        .leaf 0 [(Value.slice none 0 0), (Value.int IntKind.i64 (4 : Int)), (Value.int IntKind.i64 q2), v19]) (
        .chk (((0 : Int) ≤ q2) ∧ ((q2 ≤ (IntKind.wrap IntKind.i64 (i18 + q2))) ∧ ((IntKind.wrap IntKind.i64 (i18 + q2)) ≤ ((q1_cap : Nat) : Int)))) <|
        .leaf 0 [(Value.slice (if (q1_cap = (Int.toNat q2)) then q1 else (Option.map (fun (y20 : Addr) => (Addr.add y20 ((Int.toNat q2) * 1))) q1)) ((Int.toNat (IntKind.wrap IntKind.i64 (i18 + q2))) - (Int.toNat q2)) (q1_cap - (Int.toNat q2))), (Value.int IntKind.i64 (4 : Int)), (Value.int IntKind.i64 (IntKind.wrap IntKind.i64 (i18 + q2))), Value.nilIface])) (
      .chk (((0 : Int) ≤ q2) ∧ (q2 < ((q1_len : Nat) : Int))) <|
      .ptr q1 fun (z21 : Addr) =>
      .load (Addr.add z21 ((Int.toNat q2) * 1)) (.int .u8) fun (i22 : Int) =>
      .ite (i22 == (123 : Int)) (
        .drew <|
        .effS (Instr.loadAt 73 (Value.pointer (some z0))) (.agg (.cons .bool (.cons .bool (.cons (.int .i64) .nil)))) fun (z23 : (Bool × (Bool × (Int × PUnit)))) =>
        .chk (((0 : Int) ≤ q2) ∧ ((q2 ≤ ((q1_len : Nat) : Int)) ∧ (((q1_len : Nat) : Int) ≤ ((q1_cap : Nat) : Int)))) <|
        .call 54 #[(Value.agg #[(Value.bool (z23).1), (Value.bool ((z23).2).1), (Value.int IntKind.i64 (((z23).2).2).1)]), (Value.slice (if (q1_cap = (Int.toNat q2)) then q1 else (Option.map (fun (y24 : Addr) => (Addr.add y24 ((Int.toNat q2) * 1))) q1)) ((Int.toNat ((q1_len : Nat) : Int)) - (Int.toNat q2)) (q1_cap - (Int.toNat q2))), (Value.int IntKind.u8 (123 : Int)), (Value.int IntKind.u8 (125 : Int))] (.int .i64) fun (i25 : Int) =>
        .ite (i25 == (-1 : Int)) (
          .drew <|
          .load (Addr.mk 2 0 Option.none) .any fun (v26 : Value) =>
          .leaf 0 [(Value.slice none 0 0), (Value.int IntKind.i64 (3 : Int)), (Value.int IntKind.i64 q2), v26]) (
          .chk (((0 : Int) ≤ q2) ∧ ((q2 ≤ (IntKind.wrap IntKind.i64 (i25 + q2))) ∧ ((IntKind.wrap IntKind.i64 (i25 + q2)) ≤ ((q1_cap : Nat) : Int)))) <|
          .leaf 0 [(Value.slice (if (q1_cap = (Int.toNat q2)) then q1 else (Option.map (fun (y27 : Addr) => (Addr.add y27 ((Int.toNat q2) * 1))) q1)) ((Int.toNat (IntKind.wrap IntKind.i64 (i25 + q2))) - (Int.toNat q2)) (q1_cap - (Int.toNat q2))), (Value.int IntKind.i64 (3 : Int)), (Value.int IntKind.i64 (IntKind.wrap IntKind.i64 (i25 + q2))), Value.nilIface])) (
        .chk (((0 : Int) ≤ q2) ∧ ((q2 ≤ ((q1_len : Nat) : Int)) ∧ (((q1_len : Nat) : Int) ≤ ((q1_cap : Nat) : Int)))) <|
        .call 77 #[(Value.slice (if (q1_cap = (Int.toNat q2)) then q1 else (Option.map (fun (y28 : Addr) => (Addr.add y28 ((Int.toNat q2) * 1))) q1)) ((Int.toNat ((q1_len : Nat) : Int)) - (Int.toNat q2)) (q1_cap - (Int.toNat q2)))] (.int .i64) fun (i29 : Int) =>
        .chk (((0 : Int) ≤ q2) ∧ ((q2 ≤ (IntKind.wrap IntKind.i64 (q2 + i29))) ∧ ((IntKind.wrap IntKind.i64 (q2 + i29)) ≤ ((q1_cap : Nat) : Int)))) <|
        .chk (((0 : Int) ≤ q2) ∧ (q2 < ((q1_len : Nat) : Int))) <|
        .ptr q1 fun (z30 : Addr) =>
        .load (Addr.add z30 ((Int.toNat q2) * 1)) (.int .u8) fun (i31 : Int) =>
        .cut 1 (.cons (.int .i64) .nil) (
          .cut 2 (.cons .bool (.cons (.int .i64) .nil)) (
            .ite (i31 == (116 : Int)) (
              .leaf 2 [(Value.bool (i31 == (116 : Int))), (Value.int IntKind.i64 (0 : Int))]) (
              .leaf 2 [(Value.bool (i31 == (102 : Int))), (Value.int IntKind.i64 (0 : Int))]))
            (fun z => jsonparser_getTypeConfig.t2 q1 q1_cap q2 i29 i31 z.1 z.2.1))
          (fun z => jsonparser_getTypeConfig.t18 q1 q1_cap q2 i29 z.1))))
def jsonparser_getTypeConfig.t (q0_0 : Bool) (q0_1 : Bool) (q0_2 : Int) (q1 : (Option Addr)) (q1_len : Nat) (q1_cap : Nat) (q2 : Int) : T :=
  .alloc (Obj.cells #[(Value.bool q0_0), (Value.bool q0_1), (Value.int IntKind.i64 q0_2)] 73 (0, 0)) fun (z0 : Addr) =>
  .cut 1 (.cons .bool .nil) (
    .chk (((0 : Int) ≤ q2) ∧ (q2 < ((q1_len : Nat) : Int))) <|
    .ptr q1 fun (z1 : Addr) =>
    .load (Addr.add z1 ((Int.toNat q2) * 1)) (.int .u8) fun (i2 : Int) =>
    .ite (i2 == (34 : Int)) (
      .leaf 1 [(Value.bool Bool.true)]) (
      .load (Addr.add z0 0) .bool fun (b3 : Bool) =>
      .ite b3 (
        .chk (((0 : Int) ≤ q2) ∧ (q2 < ((q1_len : Nat) : Int))) <|
        .ptr q1 fun (z4 : Addr) =>
        .load (Addr.add z4 ((Int.toNat q2) * 1)) (.int .u8) fun (i5 : Int) =>
        .leaf 1 [(Value.bool (i5 == (39 : Int)))]) (
        .leaf 1 [(Value.bool Bool.false)])))
    (fun z => jsonparser_getTypeConfig.t1 q1 q1_len q1_cap q2 z0 z.1)
def jsonparser_getTypeConfig.h : Hints := ⟨[(107, [(107, .bool), (10, (.int .i64))]), (120, [(120, .bool), (10, (.int .i64))]), (128, [(128, .bool), (10, (.int .i64))])], [(0, [(10, (.int .i64))])], [(3, [(32, .bool)]), (27, [(117, .bool)])], []⟩
noncomputable def jsonparser_getTypeConfig.c : Code := (Tryd.f65.body).getD .skip
theorem jsonparser_getTypeConfig.e (q0_0 : Bool) (q0_1 : Bool) (q0_2 : Int) (q1 : (Option Addr)) (q1_len : Nat) (q1_cap : Nat) (q2 : Int) : fnT Tryd.prog jsonparser_getTypeConfig.h Tryd.f65 jsonparser_getTypeConfig.c [.v (Value.agg #[(Value.bool q0_0), (Value.bool q0_1), (Value.int IntKind.i64 q0_2)]), .v (Value.slice q1 q1_len q1_cap), .v (Value.int IntKind.i64 q2)] = jsonparser_getTypeConfig.t q0_0 q0_1 q0_2 q1 q1_len q1_cap q2 := by kernel_rfl
theorem jsonparser_getTypeConfig.calls (q0_0 : Bool) (q0_1 : Bool) (q0_2 : Int) (q1 : (Option Addr)) (q1_len : Nat) (q1_cap : Nat) (q2 : Int) {w : World} {R : Ending → World → Prop} (hs : sat Tryd.prog (jsonparser_getTypeConfig.t q0_0 q0_1 q0_2 q1 q1_len q1_cap q2) (fun l vs w' => l = 0 ∧ R (.returned (retVal vs)) w') w) : Calls Tryd.prog 65 #[(Value.agg #[(Value.bool q0_0), (Value.bool q0_1), (Value.int IntKind.i64 q0_2)]), (Value.slice q1 q1_len q1_cap), (Value.int IntKind.i64 q2)] w R :=
  have h := calls_of_tree (w := w) (R := R) (args := [.v (Value.agg #[(Value.bool q0_0), (Value.bool q0_1), (Value.int IntKind.i64 q0_2)]), .v (Value.slice q1 q1_len q1_cap), .v (Value.int IntKind.i64 q2)]) (c := jsonparser_getTypeConfig.c) Tryd.func65 (show Tryd.f65.body = some jsonparser_getTypeConfig.c by kernel_rfl) (of_decide_eq_true (by kernel_rfl)) (jsonparser_getTypeConfig.e q0_0 q0_1 q0_2 q1 q1_len q1_cap q2) hs
  h

/-! ### pub-tetrapla/pub/jsonparser.tokenEnd : function 77 -/
def jsonparser_tokenEnd.t1 (data : (Option Addr)) (data_len : Nat) (i0 : Int) : T :=
  .ite (decide (i0 < ((data_len : Nat) : Int))) (
    .chk (((0 : Int) ≤ i0) ∧ (i0 < ((data_len : Nat) : Int))) <|
    .ptr data fun (z1 : Addr) =>
    .load (Addr.add z1 ((Int.toNat i0) * 1)) (.int .u8) fun (i2 : Int) =>
    .ite (i2 != (32 : Int)) (
      .ite (i2 != (10 : Int)) (
        .ite (i2 != (13 : Int)) (
          .ite (i2 != (9 : Int)) (
            .ite (i2 != (44 : Int)) (
              .ite (i2 != (125 : Int)) (
                .ite (i2 != (93 : Int)) (
                  .leaf 1 [(Value.int IntKind.i64 (IntKind.wrap IntKind.i64 (i0 + (1 : Int))))]) (
                  .leaf 0 [(Value.int IntKind.i64 i0)])) (
                .leaf 0 [(Value.int IntKind.i64 i0)])) (
              .leaf 0 [(Value.int IntKind.i64 i0)])) (
            .leaf 0 [(Value.int IntKind.i64 i0)])) (
          .leaf 0 [(Value.int IntKind.i64 i0)])) (
        .leaf 0 [(Value.int IntKind.i64 i0)])) (
      .leaf 0 [(Value.int IntKind.i64 i0)])) (
    .leaf 0 [(Value.int IntKind.i64 ((data_len : Nat) : Int))])
def jsonparser_tokenEnd.t (data : (Option Addr)) (data_len : Nat) (data_cap : Nat) : T :=
  .loop 1 (.cons (.int .i64) .nil) [(Value.int IntKind.i64 (0 : Int))]
    (fun z => jsonparser_tokenEnd.t1 data data_len z.1)
def jsonparser_tokenEnd.h : Hints := ⟨[], [], [], [(2, [(7, (.int .i64))])]⟩
noncomputable def jsonparser_tokenEnd.c : Code := (Tryd.f77.body).getD .skip
theorem jsonparser_tokenEnd.e (data : (Option Addr)) (data_len : Nat) (data_cap : Nat) : fnT Tryd.prog jsonparser_tokenEnd.h Tryd.f77 jsonparser_tokenEnd.c [.v (Value.slice data data_len data_cap)] = jsonparser_tokenEnd.t data data_len data_cap := by kernel_rfl
theorem jsonparser_tokenEnd.calls (data : (Option Addr)) (data_len : Nat) (data_cap : Nat) {w : World} {R : Ending → World → Prop} (hs : sat Tryd.prog (jsonparser_tokenEnd.t data data_len data_cap) (fun l vs w' => l = 0 ∧ R (.returned (retVal vs)) w') w) : Calls Tryd.prog 77 #[(Value.slice data data_len data_cap)] w R :=
  have h := calls_of_tree (w := w) (R := R) (args := [.v (Value.slice data data_len data_cap)]) (c := jsonparser_tokenEnd.c) Tryd.func77 (show Tryd.f77.body = some jsonparser_tokenEnd.c by kernel_rfl) (of_decide_eq_true (by kernel_rfl)) (jsonparser_tokenEnd.e data data_len data_cap) hs
  h

/-! ### pub-tetrapla/pub/jsonparser.internalGetConfig : function 51 -/
def jsonparser_internalGetConfig.t2 (i4 : Int) (i7 : Int) (z10 : (((Option Addr) × (Nat × Nat)) × (Int × (Int × (Value × PUnit))))) (z12 : ((Option Addr) × (Nat × Nat))) : T :=
  .eff (Instr.sliceAt 36 (Value.slice (z12).1 ((z12).2).1 ((z12).2).2) none (some (Value.int IntKind.i64 ((((z12).2).1 : Nat) : Int))) (some (Value.int IntKind.i64 ((((z12).2).1 : Nat) : Int)))) .slice fun (z13 : ((Option Addr) × (Nat × Nat))) =>
  .leaf 0 [(Value.slice (z13).1 ((z13).2).1 ((z13).2).2), (Value.int IntKind.i64 ((z10).2).1), (Value.int IntKind.i64 (IntKind.wrap IntKind.i64 (i4 + i7))), (Value.int IntKind.i64 (((z10).2).2).1), Value.nilIface]
def jsonparser_internalGetConfig.t1 (q1 : (Option Addr)) (q1_len : Nat) (q1_cap : Nat) (z0 : Addr) (i4 : Int) : T :=
  .drew <|
  .effS (Instr.loadAt 73 (Value.pointer (some z0))) (.agg (.cons .bool (.cons .bool (.cons (.int .i64) .nil)))) fun (z5 : (Bool × (Bool × (Int × PUnit)))) =>
  .chk (((0 : Int) ≤ i4) ∧ ((i4 ≤ ((q1_len : Nat) : Int)) ∧ (((q1_len : Nat) : Int) ≤ ((q1_cap : Nat) : Int)))) <|
  .call 52 #[(Value.agg #[(Value.bool (z5).1), (Value.bool ((z5).2).1), (Value.int IntKind.i64 (((z5).2).2).1)]), (Value.slice (if (q1_cap = (Int.toNat i4)) then q1 else (Option.map (fun (y6 : Addr) => (Addr.add y6 ((Int.toNat i4) * 1))) q1)) ((Int.toNat ((q1_len : Nat) : Int)) - (Int.toNat i4)) (q1_cap - (Int.toNat i4)))] (.int .i64) fun (i7 : Int) =>
  .ite (i7 == (-1 : Int)) (
    .drew <|
    .load (Addr.mk 5 0 Option.none) .any fun (v8 : Value) =>
    .leaf 0 [(Value.slice none 0 0), (Value.int IntKind.i64 (0 : Int)), (Value.int IntKind.i64 i4), (Value.int IntKind.i64 (-1 : Int)), v8]) (
    .eff (Instr.loadAt 73 (Value.pointer (some z0))) (.agg (.cons .bool (.cons .bool (.cons (.int .i64) .nil)))) fun (z9 : (Bool × (Bool × (Int × PUnit)))) =>
    .call 65 #[(Value.agg #[(Value.bool (z9).1), (Value.bool ((z9).2).1), (Value.int IntKind.i64 (((z9).2).2).1)]), (Value.slice q1 q1_len q1_cap), (Value.int IntKind.i64 (IntKind.wrap IntKind.i64 (i4 + i7)))] (.tuple (.cons .slice (.cons (.int .i64) (.cons (.int .i64) (.cons .any .nil))))) fun (z10 : (((Option Addr) × (Nat × Nat)) × (Int × (Int × (Value × PUnit))))) =>
    .chk ((isIface ((((z10).2).2).2).1) = Bool.true) <|
    .ite (!(isNil ((((z10).2).2).2).1)) (
      .leaf 0 [(Value.slice ((z10).1).1 (((z10).1).2).1 (((z10).1).2).2), (Value.int IntKind.i64 ((z10).2).1), (Value.int IntKind.i64 (IntKind.wrap IntKind.i64 (i4 + i7))), (Value.int IntKind.i64 (((z10).2).2).1), ((((z10).2).2).2).1]) (
      .cut 1 (.cons .slice .nil) (
        .ite (((z10).2).1 == (1 : Int)) (
          .chk (((0 : Int) ≤ (1 : Int)) ∧ (((1 : Int) ≤ (IntKind.wrap IntKind.i64 ((((((z10).1).2).1 : Nat) : Int) - (1 : Int)))) ∧ ((IntKind.wrap IntKind.i64 ((((((z10).1).2).1 : Nat) : Int) - (1 : Int))) ≤ (((((z10).1).2).2 : Nat) : Int)))) <|
          .leaf 1 [(Value.slice (if ((((z10).1).2).2 = 1) then ((z10).1).1 else (Option.map (fun (y11 : Addr) => (Addr.add y11 1)) ((z10).1).1)) ((Int.toNat (IntKind.wrap IntKind.i64 ((((((z10).1).2).1 : Nat) : Int) - (1 : Int)))) - 1) ((((z10).1).2).2 - 1))]) (
          .leaf 1 [(Value.slice ((z10).1).1 (((z10).1).2).1 (((z10).1).2).2)]))
        (fun z => jsonparser_internalGetConfig.t2 i4 i7 z10 z.1)))
def jsonparser_internalGetConfig.t (q0_0 : Bool) (q0_1 : Bool) (q0_2 : Int) (q1 : (Option Addr)) (q1_len : Nat) (q1_cap : Nat) (q2 : (Option Addr)) (q2_len : Nat) (q2_cap : Nat) : T :=
  .alloc (Obj.cells #[(Value.bool q0_0), (Value.bool q0_1), (Value.int IntKind.i64 q0_2)] 73 (0, 0)) fun (z0 : Addr) =>
  .cut 1 (.cons (.int .i64) .nil) (
    .ite (decide (((q2_len : Nat) : Int) > (0 : Int))) (
      .eff (Instr.loadAt 73 (Value.pointer (some z0))) (.agg (.cons .bool (.cons .bool (.cons (.int .i64) .nil)))) fun (z1 : (Bool × (Bool × (Int × PUnit)))) =>
      .call 64 #[(Value.agg #[(Value.bool (z1).1), (Value.bool ((z1).2).1), (Value.int IntKind.i64 (((z1).2).2).1)]), (Value.slice q1 q1_len q1_cap), (Value.slice q2 q2_len q2_cap)] (.int .i64) fun (i2 : Int) =>
      .ite (i2 == (-1 : Int)) (
        .drew <|
        .load (Addr.mk 4 0 Option.none) .any fun (v3 : Value) =>
        .leaf 0 [(Value.slice none 0 0), (Value.int IntKind.i64 (0 : Int)), (Value.int IntKind.i64 (-1 : Int)), (Value.int IntKind.i64 (-1 : Int)), v3]) (
        .leaf 1 [(Value.int IntKind.i64 i2)])) (
      .leaf 1 [(Value.int IntKind.i64 (0 : Int))]))
    (fun z => jsonparser_internalGetConfig.t1 q1 q1_len q1_cap z0 z.1)
def jsonparser_internalGetConfig.h : Hints := ⟨[(14, [(8, (.int .i64))]), (51, [(6, .slice)])], [], [], []⟩
noncomputable def jsonparser_internalGetConfig.c : Code := (Tryd.f51.body).getD .skip
theorem jsonparser_internalGetConfig.e (q0_0 : Bool) (q0_1 : Bool) (q0_2 : Int) (q1 : (Option Addr)) (q1_len : Nat) (q1_cap : Nat) (q2 : (Option Addr)) (q2_len : Nat) (q2_cap : Nat) : fnT Tryd.prog jsonparser_internalGetConfig.h Tryd.f51 jsonparser_internalGetConfig.c [.v (Value.agg #[(Value.bool q0_0), (Value.bool q0_1), (Value.int IntKind.i64 q0_2)]), .v (Value.slice q1 q1_len q1_cap), .v (Value.slice q2 q2_len q2_cap)] = jsonparser_internalGetConfig.t q0_0 q0_1 q0_2 q1 q1_len q1_cap q2 q2_len q2_cap := by kernel_rfl
theorem jsonparser_internalGetConfig.calls (q0_0 : Bool) (q0_1 : Bool) (q0_2 : Int) (q1 : (Option Addr)) (q1_len : Nat) (q1_cap : Nat) (q2 : (Option Addr)) (q2_len : Nat) (q2_cap : Nat) {w : World} {R : Ending → World → Prop} (hs : sat Tryd.prog (jsonparser_internalGetConfig.t q0_0 q0_1 q0_2 q1 q1_len q1_cap q2 q2_len q2_cap) (fun l vs w' => l = 0 ∧ R (.returned (retVal vs)) w') w) : Calls Tryd.prog 51 #[(Value.agg #[(Value.bool q0_0), (Value.bool q0_1), (Value.int IntKind.i64 q0_2)]), (Value.slice q1 q1_len q1_cap), (Value.slice q2 q2_len q2_cap)] w R :=
  have h := calls_of_tree (w := w) (R := R) (args := [.v (Value.agg #[(Value.bool q0_0), (Value.bool q0_1), (Value.int IntKind.i64 q0_2)]), .v (Value.slice q1 q1_len q1_cap), .v (Value.slice q2 q2_len q2_cap)]) (c := jsonparser_internalGetConfig.c) Tryd.func51 (show Tryd.f51.body = some jsonparser_internalGetConfig.c by kernel_rfl) (of_decide_eq_true (by kernel_rfl)) (jsonparser_internalGetConfig.e q0_0 q0_1 q0_2 q1 q1_len q1_cap q2 q2_len q2_cap) hs
  h

/-! ### (pub-tetrapla/pub/jsonparser.Config).Get : function 44 -/
def jsonparser_Config_Get.t (c0_0 : Bool) (c0_1 : Bool) (c0_2 : Int) (data : (Option Addr)) (data_len : Nat) (data_cap : Nat) (keys : (Option Addr)) (keys_len : Nat) (keys_cap : Nat) : T :=
  .alloc (Obj.cells #[(Value.bool c0_0), (Value.bool c0_1), (Value.int IntKind.i64 c0_2)] 73 (0, 0)) fun (z0 : Addr) =>
  .eff (Instr.loadAt 73 (Value.pointer (some z0))) (.agg (.cons .bool (.cons .bool (.cons (.int .i64) .nil)))) fun (z1 : (Bool × (Bool × (Int × PUnit)))) =>
  .call 51 #[(Value.agg #[(Value.bool (z1).1), (Value.bool ((z1).2).1), (Value.int IntKind.i64 (((z1).2).2).1)]), (Value.slice data data_len data_cap), (Value.slice keys keys_len keys_cap)] (.tuple (.cons .slice (.cons (.int .i64) (.cons (.int .i64) (.cons (.int .i64) (.cons .any .nil)))))) fun (z2 : (((Option Addr) × (Nat × Nat)) × (Int × (Int × (Int × (Value × PUnit)))))) =>
  .leaf 0 [(Value.slice ((z2).1).1 (((z2).1).2).1 (((z2).1).2).2), (Value.int IntKind.i64 ((z2).2).1), (Value.int IntKind.i64 ((((z2).2).2).2).1), (((((z2).2).2).2).2).1]
def jsonparser_Config_Get.h : Hints := ⟨[], [], [], []⟩
noncomputable def jsonparser_Config_Get.c : Code := (Tryd.f44.body).getD .skip
theorem jsonparser_Config_Get.e (c0_0 : Bool) (c0_1 : Bool) (c0_2 : Int) (data : (Option Addr)) (data_len : Nat) (data_cap : Nat) (keys : (Option Addr)) (keys_len : Nat) (keys_cap : Nat) : fnT Tryd.prog jsonparser_Config_Get.h Tryd.f44 jsonparser_Config_Get.c [.v (Value.agg #[(Value.bool c0_0), (Value.bool c0_1), (Value.int IntKind.i64 c0_2)]), .v (Value.slice data data_len data_cap), .v (Value.slice keys keys_len keys_cap)] = jsonparser_Config_Get.t c0_0 c0_1 c0_2 data data_len data_cap keys keys_len keys_cap := by kernel_rfl
theorem jsonparser_Config_Get.calls (c0_0 : Bool) (c0_1 : Bool) (c0_2 : Int) (data : (Option Addr)) (data_len : Nat) (data_cap : Nat) (keys : (Option Addr)) (keys_len : Nat) (keys_cap : Nat) {w : World} {R : Ending → World → Prop} (hs : sat Tryd.prog (jsonparser_Config_Get.t c0_0 c0_1 c0_2 data data_len data_cap keys keys_len keys_cap) (fun l vs w' => l = 0 ∧ R (.returned (retVal vs)) w') w) : Calls Tryd.prog 44 #[(Value.agg #[(Value.bool c0_0), (Value.bool c0_1), (Value.int IntKind.i64 c0_2)]), (Value.slice data data_len data_cap), (Value.slice keys keys_len keys_cap)] w R :=
  have h := calls_of_tree (w := w) (R := R) (args := [.v (Value.agg #[(Value.bool c0_0), (Value.bool c0_1), (Value.int IntKind.i64 c0_2)]), .v (Value.slice data data_len data_cap), .v (Value.slice keys keys_len keys_cap)]) (c := jsonparser_Config_Get.c) Tryd.func44 (show Tryd.f44.body = some jsonparser_Config_Get.c by kernel_rfl) (of_decide_eq_true (by kernel_rfl)) (jsonparser_Config_Get.e c0_0 c0_1 c0_2 data data_len data_cap keys keys_len keys_cap) hs
  h

/-! ### pub-tetrapla/pub/jsonparser.arrayEachConfig : function 75 -/
def jsonparser_arrayEachConfig.t3 (q1 : (Option Addr)) (q1_len : Nat) (q1_cap : Nat) (q2 : Value) (z0 : Addr) (i26 : Int) : T :=
  .drew <|
  .effQ (Instr.loadAt 73 (Value.pointer (some z0))) (.agg (.cons .bool (.cons .bool (.cons (.int .i64) .nil)))) fun (z27 : (Bool × (Bool × (Int × PUnit)))) =>
  .chk (((0 : Int) ≤ i26) ∧ ((i26 ≤ ((q1_len : Nat) : Int)) ∧ (((q1_len : Nat) : Int) ≤ ((q1_cap : Nat) : Int)))) <|
  .call 44 #[(Value.agg #[(Value.bool (z27).1), (Value.bool ((z27).2).1), (Value.int IntKind.i64 (((z27).2).2).1)]), (Value.slice (if (q1_cap = (Int.toNat i26)) then q1 else (Option.map (fun (y28 : Addr) => (Addr.add y28 ((Int.toNat i26) * 1))) q1)) ((Int.toNat ((q1_len : Nat) : Int)) - (Int.toNat i26)) (q1_cap - (Int.toNat i26))), (Value.slice none 0 0)] (.tuple (.cons .slice (.cons (.int .i64) (.cons (.int .i64) (.cons .any .nil))))) fun (z29 : (((Option Addr) × (Nat × Nat)) × (Int × (Int × (Value × PUnit))))) =>
  .ite ((((z29).2).2).1 == (0 : Int)) (
    .leaf 0 [(Value.int IntKind.i64 i26), ((((z29).2).2).2).1]) (
    .callD q2 #[(Value.slice ((z29).1).1 (((z29).1).2).1 (((z29).1).2).2), (Value.int IntKind.i64 ((z29).2).1), (Value.int IntKind.i64 (IntKind.wrap IntKind.i64 ((IntKind.wrap IntKind.i64 (i26 + (((z29).2).2).1)) - (((((z29).1).2).1 : Nat) : Int)))), ((((z29).2).2).2).1] (.tuple .nil) fun _ =>
    .chk ((isIface ((((z29).2).2).2).1) = Bool.true) <|
    .ite (!(isNil ((((z29).2).2).2).1)) (
      .leaf 0 [(Value.int IntKind.i64 i26), ((((z29).2).2).2).1]) (
      .drew <|
      .effS (Instr.loadAt 73 (Value.pointer (some z0))) (.agg (.cons .bool (.cons .bool (.cons (.int .i64) .nil)))) fun (z30 : (Bool × (Bool × (Int × PUnit)))) =>
      .chk (((0 : Int) ≤ (IntKind.wrap IntKind.i64 (i26 + (((z29).2).2).1))) ∧ (((IntKind.wrap IntKind.i64 (i26 + (((z29).2).2).1)) ≤ ((q1_len : Nat) : Int)) ∧ (((q1_len : Nat) : Int) ≤ ((q1_cap : Nat) : Int)))) <|
      .call 52 #[(Value.agg #[(Value.bool (z30).1), (Value.bool ((z30).2).1), (Value.int IntKind.i64 (((z30).2).2).1)]), (Value.slice (if (q1_cap = (Int.toNat (IntKind.wrap IntKind.i64 (i26 + (((z29).2).2).1)))) then q1 else (Option.map (fun (y31 : Addr) => (Addr.add y31 ((Int.toNat (IntKind.wrap IntKind.i64 (i26 + (((z29).2).2).1))) * 1))) q1)) ((Int.toNat ((q1_len : Nat) : Int)) - (Int.toNat (IntKind.wrap IntKind.i64 (i26 + (((z29).2).2).1)))) (q1_cap - (Int.toNat (IntKind.wrap IntKind.i64 (i26 + (((z29).2).2).1)))))] (.int .i64) fun (i32 : Int) =>
      .ite (i32 == (-1 : Int)) (
        .drew <|
        .load (Addr.mk 3 0 Option.none) .any fun (v33 : Value) =>
        .leaf 0 [(Value.int IntKind.i64 (IntKind.wrap IntKind.i64 (i26 + (((z29).2).2).1))), v33]) (
        .chk (((0 : Int) ≤ (IntKind.wrap IntKind.i64 ((IntKind.wrap IntKind.i64 (i26 + (((z29).2).2).1)) + i32))) ∧ ((IntKind.wrap IntKind.i64 ((IntKind.wrap IntKind.i64 (i26 + (((z29).2).2).1)) + i32)) < ((q1_len : Nat) : Int))) <|
        .ptr q1 fun (z34 : Addr) =>
        .load (Addr.add z34 ((Int.toNat (IntKind.wrap IntKind.i64 ((IntKind.wrap IntKind.i64 (i26 + (((z29).2).2).1)) + i32))) * 1)) (.int .u8) fun (i35 : Int) =>
        .ite (i35 == (93 : Int)) (
          .leaf 0 [(Value.int IntKind.i64 (IntKind.wrap IntKind.i64 ((IntKind.wrap IntKind.i64 (i26 + (((z29).2).2).1)) + i32))), Value.nilIface]) (
          .chk (((0 : Int) ≤ (IntKind.wrap IntKind.i64 ((IntKind.wrap IntKind.i64 (i26 + (((z29).2).2).1)) + i32))) ∧ ((IntKind.wrap IntKind.i64 ((IntKind.wrap IntKind.i64 (i26 + (((z29).2).2).1)) + i32)) < ((q1_len : Nat) : Int))) <|
          .ptr q1 fun (z36 : Addr) =>
          .load (Addr.add z36 ((Int.toNat (IntKind.wrap IntKind.i64 ((IntKind.wrap IntKind.i64 (i26 + (((z29).2).2).1)) + i32))) * 1)) (.int .u8) fun (i37 : Int) =>
          .ite (i37 != (44 : Int)) (
            .drew <|
            .load (Addr.mk 3 0 Option.none) .any fun (v38 : Value) =>
            .leaf 0 [(Value.int IntKind.i64 (IntKind.wrap IntKind.i64 ((IntKind.wrap IntKind.i64 (i26 + (((z29).2).2).1)) + i32))), v38]) (
            .leaf 1 [(Value.int IntKind.i64 (IntKind.wrap IntKind.i64 ((IntKind.wrap IntKind.i64 ((IntKind.wrap IntKind.i64 (i26 + (((z29).2).2).1)) + i32)) + (1 : Int))))])))))
def jsonparser_arrayEachConfig.t2 (q1 : (Option Addr)) (q1_len : Nat) (q1_cap : Nat) (q2 : Value) (z0 : Addr) (i19 : Int) : T :=
  .drew <|
  .effS (Instr.loadAt 73 (Value.pointer (some z0))) (.agg (.cons .bool (.cons .bool (.cons (.int .i64) .nil)))) fun (z20 : (Bool × (Bool × (Int × PUnit)))) =>
  .chk (((0 : Int) ≤ i19) ∧ ((i19 ≤ ((q1_len : Nat) : Int)) ∧ (((q1_len : Nat) : Int) ≤ ((q1_cap : Nat) : Int)))) <|
  .call 52 #[(Value.agg #[(Value.bool (z20).1), (Value.bool ((z20).2).1), (Value.int IntKind.i64 (((z20).2).2).1)]), (Value.slice (if (q1_cap = (Int.toNat i19)) then q1 else (Option.map (fun (y21 : Addr) => (Addr.add y21 ((Int.toNat i19) * 1))) q1)) ((Int.toNat ((q1_len : Nat) : Int)) - (Int.toNat i19)) (q1_cap - (Int.toNat i19)))] (.int .i64) fun (i22 : Int) =>
  .ite (i22 == (-1 : Int)) (
    .drew <|
    .load (Addr.mk 5 0 Option.none) .any fun (v23 : Value) =>
    .leaf 0 [(Value.int IntKind.i64 i19), v23]) (
    .chk (((0 : Int) ≤ (IntKind.wrap IntKind.i64 (i19 + i22))) ∧ ((IntKind.wrap IntKind.i64 (i19 + i22)) < ((q1_len : Nat) : Int))) <|
    .ptr q1 fun (z24 : Addr) =>
    .load (Addr.add z24 ((Int.toNat (IntKind.wrap IntKind.i64 (i19 + i22))) * 1)) (.int .u8) fun (i25 : Int) =>
    .ite (i25 == (93 : Int)) (
      .leaf 0 [(Value.int IntKind.i64 (IntKind.wrap IntKind.i64 (i19 + i22))), Value.nilIface]) (
      .loop 1 (.cons (.int .i64) .nil) [(Value.int IntKind.i64 (IntKind.wrap IntKind.i64 (i19 + i22)))]
        (fun z => jsonparser_arrayEachConfig.t3 q1 q1_len q1_cap q2 z0 z.1)))
def jsonparser_arrayEachConfig.t1 (q1 : (Option Addr)) (q1_len : Nat) (q1_cap : Nat) (q2 : Value) (q3 : (Option Addr)) (q3_len : Nat) (q3_cap : Nat) (z0 : Addr) (i3 : Int) (b7 : Bool) : T :=
  .ite b7 (
    .drew <|
    .load (Addr.mk 3 0 Option.none) .any fun (v8 : Value) =>
    .leaf 0 [(Value.int IntKind.i64 (-1 : Int)), v8]) (
    .cut 1 (.cons (.int .i64) .nil) (
      .ite (decide (((q3_len : Nat) : Int) > (0 : Int))) (
        .eff (Instr.loadAt 73 (Value.pointer (some z0))) (.agg (.cons .bool (.cons .bool (.cons (.int .i64) .nil)))) fun (z9 : (Bool × (Bool × (Int × PUnit)))) =>
        .call 64 #[(Value.agg #[(Value.bool (z9).1), (Value.bool ((z9).2).1), (Value.int IntKind.i64 (((z9).2).2).1)]), (Value.slice q1 q1_len q1_cap), (Value.slice q3 q3_len q3_cap)] (.int .i64) fun (i10 : Int) =>
        .ite (i10 == (-1 : Int)) (
          .drew <|
          .load (Addr.mk 4 0 Option.none) .any fun (v11 : Value) =>
          .leaf 0 [(Value.int IntKind.i64 i10), v11]) (
          .drew <|
          .effS (Instr.loadAt 73 (Value.pointer (some z0))) (.agg (.cons .bool (.cons .bool (.cons (.int .i64) .nil)))) fun (z12 : (Bool × (Bool × (Int × PUnit)))) =>
          .chk (((0 : Int) ≤ i10) ∧ ((i10 ≤ ((q1_len : Nat) : Int)) ∧ (((q1_len : Nat) : Int) ≤ ((q1_cap : Nat) : Int)))) <|
          .call 52 #[(Value.agg #[(Value.bool (z12).1), (Value.bool ((z12).2).1), (Value.int IntKind.i64 (((z12).2).2).1)]), (Value.slice (if (q1_cap = (Int.toNat i10)) then q1 else (Option.map (fun (y13 : Addr) => (Addr.add y13 ((Int.toNat i10) * 1))) q1)) ((Int.toNat ((q1_len : Nat) : Int)) - (Int.toNat i10)) (q1_cap - (Int.toNat i10)))] (.int .i64) fun (i14 : Int) =>
          .ite (i14 == (-1 : Int)) (
            .drew <|
            .load (Addr.mk 5 0 Option.none) .any fun (v15 : Value) =>
            .leaf 0 [(Value.int IntKind.i64 i10), v15]) (
            .chk (((0 : Int) ≤ (IntKind.wrap IntKind.i64 (i10 + i14))) ∧ ((IntKind.wrap IntKind.i64 (i10 + i14)) < ((q1_len : Nat) : Int))) <|
            .ptr q1 fun (z16 : Addr) =>
            .load (Addr.add z16 ((Int.toNat (IntKind.wrap IntKind.i64 (i10 + i14))) * 1)) (.int .u8) fun (i17 : Int) =>
            .ite (i17 != (91 : Int)) (
              .drew <|
              .load (Addr.mk 3 0 Option.none) .any fun (v18 : Value) =>
              .leaf 0 [(Value.int IntKind.i64 (IntKind.wrap IntKind.i64 (i10 + i14))), v18]) (
              .leaf 1 [(Value.int IntKind.i64 (IntKind.wrap IntKind.i64 ((IntKind.wrap IntKind.i64 (i10 + i14)) + (1 : Int))))])))) (
        .leaf 1 [(Value.int IntKind.i64 (IntKind.wrap IntKind.i64 (i3 + (1 : Int))))]))
      (fun z => jsonparser_arrayEachConfig.t2 q1 q1_len q1_cap q2 z0 z.1))
def jsonparser_arrayEachConfig.t (q0_0 : Bool) (q0_1 : Bool) (q0_2 : Int) (q1 : (Option Addr)) (q1_len : Nat) (q1_cap : Nat) (q2 : Value) (q3 : (Option Addr)) (q3_len : Nat) (q3_cap : Nat) : T :=
  .alloc (Obj.cells #[(Value.bool q0_0), (Value.bool q0_1), (Value.int IntKind.i64 q0_2)] 73 (0, 0)) fun (z0 : Addr) =>
  .ite (((q1_len : Nat) : Int) == (0 : Int)) (
    .drew <|
    .load (Addr.mk 2 0 Option.none) .any fun (v1 : Value) =>
    .leaf 0 [(Value.int IntKind.i64 (-1 : Int)), v1]) (
    .eff (Instr.loadAt 73 (Value.pointer (some z0))) (.agg (.cons .bool (.cons .bool (.cons (.int .i64) .nil)))) fun (z2 : (Bool × (Bool × (Int × PUnit)))) =>
    .call 52 #[(Value.agg #[(Value.bool (z2).1), (Value.bool ((z2).2).1), (Value.int IntKind.i64 (((z2).2).2).1)]), (Value.slice q1 q1_len q1_cap)] (.int .i64) fun (i3 : Int) =>
    .ite (i3 == (-1 : Int)) (
      .drew <|
      .load (Addr.mk 5 0 Option.none) .any fun (v4 : Value) =>
      .leaf 0 [(Value.int IntKind.i64 (-1 : Int)), v4]) (
      .cut 1 (.cons .bool .nil) (
        .ite (((q3_len : Nat) : Int) == (0 : Int)) (
          .chk (((0 : Int) ≤ i3) ∧ (i3 < ((q1_len : Nat) : Int))) <|
          .ptr q1 fun (z5 : Addr) =>
          .load (Addr.add z5 ((Int.toNat i3) * 1)) (.int .u8) fun (i6 : Int) =>
          .leaf 1 [(Value.bool (i6 != (91 : Int)))]) (
          .leaf 1 [(Value.bool Bool.false)]))
        (fun z => jsonparser_arrayEachConfig.t1 q1 q1_len q1_cap q2 q3 q3_len q3_cap z0 i3 z.1)))
def jsonparser_arrayEachConfig.h : Hints := ⟨[(43, [(8, (.int .i64))])], [], [(6, [(37, .bool)])], [(26, [(8, (.int .i64))])]⟩
noncomputable def jsonparser_arrayEachConfig.c : Code := (Tryd.f75.body).getD .skip
theorem jsonparser_arrayEachConfig.e (q0_0 : Bool) (q0_1 : Bool) (q0_2 : Int) (q1 : (Option Addr)) (q1_len : Nat) (q1_cap : Nat) (q2 : Value) (q3 : (Option Addr)) (q3_len : Nat) (q3_cap : Nat) : fnT Tryd.prog jsonparser_arrayEachConfig.h Tryd.f75 jsonparser_arrayEachConfig.c [.v (Value.agg #[(Value.bool q0_0), (Value.bool q0_1), (Value.int IntKind.i64 q0_2)]), .v (Value.slice q1 q1_len q1_cap), .o q2, .v (Value.slice q3 q3_len q3_cap)] = jsonparser_arrayEachConfig.t q0_0 q0_1 q0_2 q1 q1_len q1_cap q2 q3 q3_len q3_cap := by kernel_rfl
theorem jsonparser_arrayEachConfig.calls (q0_0 : Bool) (q0_1 : Bool) (q0_2 : Int) (q1 : (Option Addr)) (q1_len : Nat) (q1_cap : Nat) (q2 : Value) (q3 : (Option Addr)) (q3_len : Nat) (q3_cap : Nat) {w : World} {R : Ending → World → Prop} (hs : sat Tryd.prog (jsonparser_arrayEachConfig.t q0_0 q0_1 q0_2 q1 q1_len q1_cap q2 q3 q3_len q3_cap) (fun l vs w' => l = 0 ∧ R (.returned (retVal vs)) w') w) : Calls Tryd.prog 75 #[(Value.agg #[(Value.bool q0_0), (Value.bool q0_1), (Value.int IntKind.i64 q0_2)]), (Value.slice q1 q1_len q1_cap), q2, (Value.slice q3 q3_len q3_cap)] w R :=
  have h := calls_of_tree (w := w) (R := R) (args := [.v (Value.agg #[(Value.bool q0_0), (Value.bool q0_1), (Value.int IntKind.i64 q0_2)]), .v (Value.slice q1 q1_len q1_cap), .o q2, .v (Value.slice q3 q3_len q3_cap)]) (c := jsonparser_arrayEachConfig.c) Tryd.func75 (show Tryd.f75.body = some jsonparser_arrayEachConfig.c by kernel_rfl) (of_decide_eq_true (by kernel_rfl)) (jsonparser_arrayEachConfig.e q0_0 q0_1 q0_2 q1 q1_len q1_cap q2 q3 q3_len q3_cap) hs
  h

/-! ### pub-tetrapla/pub/jsonparser.searchKeysConfig : function 64 -/
def jsonparser_searchKeysConfig.t2 (z1 : Addr) (z2 : ((Option Addr) × (Nat × Nat))) (i8 : Int) : T :=
  .ite (decide (i8 < ((((z2).2).1 : Nat) : Int))) (
    .load z1 .slice fun (z9 : ((Option Addr) × (Nat × Nat))) =>
    .chk (((0 : Int) ≤ i8) ∧ (i8 < ((((z9).2).1 : Nat) : Int))) <|
    .ptr (z9).1 fun (z10 : Addr) =>
    .load (Addr.add z10 ((Int.toNat i8) * 1)) (.int .u8) fun (i11 : Int) =>
    .ite (decide (i11 ≤ (32 : Int))) (
      .leaf 3 [(Value.int IntKind.i64 (IntKind.wrap IntKind.i64 (i8 + (1 : Int))))]) (
      .ite (decide (i11 > (92 : Int))) (
        .ite (i11 != (123 : Int)) (
          .ite (i11 != (125 : Int)) (
            .leaf 3 [(Value.int IntKind.i64 (IntKind.wrap IntKind.i64 (i8 + (1 : Int))))]) (
            .leaf 2 [(Value.int IntKind.i64 i8)])) (
          .leaf 2 [(Value.int IntKind.i64 i8)])) (
        .leaf 2 [(Value.int IntKind.i64 i8)]))) (
    .leaf 2 [(Value.int IntKind.i64 i8)])
def jsonparser_searchKeysConfig.t6 (q2 : (Option Addr)) (q2_len : Nat) (b16 : Bool) (i17 : Int) (i18 : Int) (i20 : Int) (z29 : (Int × (Bool × PUnit))) (i33 : Int) (z38 : Addr) : T :=
  .ite (decide (i18 ≤ ((q2_len : Nat) : Int))) (
    .chk (((0 : Int) ≤ (IntKind.wrap IntKind.i64 (i18 - (1 : Int)))) ∧ ((IntKind.wrap IntKind.i64 (i18 - (1 : Int))) < ((q2_len : Nat) : Int))) <|
    .ptr q2 fun (z44 : Addr) =>
    .load (Addr.add z44 ((Int.toNat (IntKind.wrap IntKind.i64 (i18 - (1 : Int)))) * 1)) .str fun (s45 : ByteArray) =>
    .call 73 #[(Value.pointer (some z38)), (Value.string s45)] .bool fun (b46 : Bool) =>
    .ite b46 (
      .ite (i17 == (IntKind.wrap IntKind.i64 (i18 - (1 : Int)))) (
        .ite ((IntKind.wrap IntKind.i64 (i17 + (1 : Int))) == ((q2_len : Nat) : Int)) (
          .leaf 0 [(Value.int IntKind.i64 (IntKind.wrap IntKind.i64 ((IntKind.wrap IntKind.i64 ((IntKind.wrap IntKind.i64 ((IntKind.wrap IntKind.i64 (i20 + (1 : Int))) + (z29).1)) + i33)) + (1 : Int))))]) (
          .leaf 2 [(Value.bool b16), (Value.int IntKind.i64 (IntKind.wrap IntKind.i64 (i17 + (1 : Int)))), (Value.int IntKind.i64 i18), (Value.bool Bool.true), (Value.int IntKind.i64 (IntKind.wrap IntKind.i64 ((IntKind.wrap IntKind.i64 ((IntKind.wrap IntKind.i64 (i20 + (1 : Int))) + (z29).1)) + i33)))])) (
        .leaf 2 [(Value.bool b16), (Value.int IntKind.i64 i17), (Value.int IntKind.i64 i18), (Value.bool Bool.true), (Value.int IntKind.i64 (IntKind.wrap IntKind.i64 ((IntKind.wrap IntKind.i64 ((IntKind.wrap IntKind.i64 (i20 + (1 : Int))) + (z29).1)) + i33)))])) (
      .leaf 2 [(Value.bool b16), (Value.int IntKind.i64 i17), (Value.int IntKind.i64 i18), (Value.bool Bool.false), (Value.int IntKind.i64 (IntKind.wrap IntKind.i64 ((IntKind.wrap IntKind.i64 ((IntKind.wrap IntKind.i64 (i20 + (1 : Int))) + (z29).1)) + i33)))])) (
    .leaf 0 [(Value.int IntKind.i64 (-1 : Int))])
def jsonparser_searchKeysConfig.t5 (q2 : (Option Addr)) (q2_len : Nat) (z0 : Addr) (z1 : Addr) (z3 : Addr) (b16 : Bool) (i17 : Int) (i18 : Int) (b19 : Bool) (i20 : Int) (i23 : Int) (b25 : Bool) : T :=
  .ite b25 (
    .leaf 1 [(Value.int IntKind.i64 (IntKind.wrap IntKind.i64 (i20 + (1 : Int)))), (Value.int IntKind.i64 i17), (Value.int IntKind.i64 i18), (Value.bool b19)]) (
    .drew <|
    .effQ (Instr.loadAt 73 (Value.pointer (some z0))) (.agg (.cons .bool (.cons .bool (.cons (.int .i64) .nil)))) fun (z26 : (Bool × (Bool × (Int × PUnit)))) =>
    .load z1 .slice fun (z27 : ((Option Addr) × (Nat × Nat))) =>
    .chk (((0 : Int) ≤ (IntKind.wrap IntKind.i64 (i20 + (1 : Int)))) ∧ (((IntKind.wrap IntKind.i64 (i20 + (1 : Int))) ≤ ((((z27).2).1 : Nat) : Int)) ∧ (((((z27).2).1 : Nat) : Int) ≤ ((((z27).2).2 : Nat) : Int)))) <|
    .call 66 #[(Value.agg #[(Value.bool (z26).1), (Value.bool ((z26).2).1), (Value.int IntKind.i64 (((z26).2).2).1)]), (Value.slice (if (((z27).2).2 = (Int.toNat (IntKind.wrap IntKind.i64 (i20 + (1 : Int))))) then (z27).1 else (Option.map (fun (y28 : Addr) => (Addr.add y28 ((Int.toNat (IntKind.wrap IntKind.i64 (i20 + (1 : Int)))) * 1))) (z27).1)) ((Int.toNat ((((z27).2).1 : Nat) : Int)) - (Int.toNat (IntKind.wrap IntKind.i64 (i20 + (1 : Int))))) (((z27).2).2 - (Int.toNat (IntKind.wrap IntKind.i64 (i20 + (1 : Int)))))), (Value.int IntKind.u8 i23)] (.tuple (.cons (.int .i64) (.cons .bool .nil))) fun (z29 : (Int × (Bool × PUnit))) =>
    .ite ((z29).1 == (-1 : Int)) (
      .leaf 0 [(Value.int IntKind.i64 (-1 : Int))]) (
      .drew <|
      .effS (Instr.loadAt 73 (Value.pointer (some z0))) (.agg (.cons .bool (.cons .bool (.cons (.int .i64) .nil)))) fun (z30 : (Bool × (Bool × (Int × PUnit)))) =>
      .load z1 .slice fun (z31 : ((Option Addr) × (Nat × Nat))) =>
      .chk (((0 : Int) ≤ (IntKind.wrap IntKind.i64 ((IntKind.wrap IntKind.i64 (i20 + (1 : Int))) + (z29).1))) ∧ (((IntKind.wrap IntKind.i64 ((IntKind.wrap IntKind.i64 (i20 + (1 : Int))) + (z29).1)) ≤ ((((z31).2).1 : Nat) : Int)) ∧ (((((z31).2).1 : Nat) : Int) ≤ ((((z31).2).2 : Nat) : Int)))) <|
      .call 52 #[(Value.agg #[(Value.bool (z30).1), (Value.bool ((z30).2).1), (Value.int IntKind.i64 (((z30).2).2).1)]), (Value.slice (if (((z31).2).2 = (Int.toNat (IntKind.wrap IntKind.i64 ((IntKind.wrap IntKind.i64 (i20 + (1 : Int))) + (z29).1)))) then (z31).1 else (Option.map (fun (y32 : Addr) => (Addr.add y32 ((Int.toNat (IntKind.wrap IntKind.i64 ((IntKind.wrap IntKind.i64 (i20 + (1 : Int))) + (z29).1))) * 1))) (z31).1)) ((Int.toNat ((((z31).2).1 : Nat) : Int)) - (Int.toNat (IntKind.wrap IntKind.i64 ((IntKind.wrap IntKind.i64 (i20 + (1 : Int))) + (z29).1)))) (((z31).2).2 - (Int.toNat (IntKind.wrap IntKind.i64 ((IntKind.wrap IntKind.i64 (i20 + (1 : Int))) + (z29).1)))))] (.int .i64) fun (i33 : Int) =>
      .ite (i33 == (-1 : Int)) (
        .leaf 0 [(Value.int IntKind.i64 (-1 : Int))]) (
        .load z1 .slice fun (z34 : ((Option Addr) × (Nat × Nat))) =>
        .chk (((0 : Int) ≤ (IntKind.wrap IntKind.i64 ((IntKind.wrap IntKind.i64 ((IntKind.wrap IntKind.i64 (i20 + (1 : Int))) + (z29).1)) + i33))) ∧ ((IntKind.wrap IntKind.i64 ((IntKind.wrap IntKind.i64 ((IntKind.wrap IntKind.i64 (i20 + (1 : Int))) + (z29).1)) + i33)) < ((((z34).2).1 : Nat) : Int))) <|
        .ptr (z34).1 fun (z35 : Addr) =>
        .load (Addr.add z35 ((Int.toNat (IntKind.wrap IntKind.i64 ((IntKind.wrap IntKind.i64 ((IntKind.wrap IntKind.i64 (i20 + (1 : Int))) + (z29).1)) + i33))) * 1)) (.int .u8) fun (i36 : Int) =>
        .ite (i36 == (58 : Int)) (
          .ite (decide (i18 < (1 : Int))) (
            .leaf 0 [(Value.int IntKind.i64 (-1 : Int))]) (
            .load z1 .slice fun (z37 : ((Option Addr) × (Nat × Nat))) =>
            .chk (((0 : Int) ≤ (IntKind.wrap IntKind.i64 (i20 + (1 : Int)))) ∧ (((IntKind.wrap IntKind.i64 (i20 + (1 : Int))) ≤ (IntKind.wrap IntKind.i64 ((IntKind.wrap IntKind.i64 ((IntKind.wrap IntKind.i64 (i20 + (1 : Int))) + (z29).1)) - (1 : Int)))) ∧ ((IntKind.wrap IntKind.i64 ((IntKind.wrap IntKind.i64 ((IntKind.wrap IntKind.i64 (i20 + (1 : Int))) + (z29).1)) - (1 : Int))) ≤ ((((z37).2).2 : Nat) : Int)))) <|
            .alloc (Obj.cells #[(Value.slice none 0 0)] 36 (0, 0)) fun (z38 : Addr) =>
            .cut 3 .nil (
              .ite (!((z29).2).1) (
                .store z38 (Value.slice (if (((z37).2).2 = (Int.toNat (IntKind.wrap IntKind.i64 (i20 + (1 : Int))))) then (z37).1 else (Option.map (fun (y39 : Addr) => (Addr.add y39 ((Int.toNat (IntKind.wrap IntKind.i64 (i20 + (1 : Int)))) * 1))) (z37).1)) ((Int.toNat (IntKind.wrap IntKind.i64 ((IntKind.wrap IntKind.i64 ((IntKind.wrap IntKind.i64 (i20 + (1 : Int))) + (z29).1)) - (1 : Int)))) - (Int.toNat (IntKind.wrap IntKind.i64 (i20 + (1 : Int))))) (((z37).2).2 - (Int.toNat (IntKind.wrap IntKind.i64 (i20 + (1 : Int)))))) <|
                .leaf 3 []) (
                .drew <|
                .effQ (Instr.loadAt 73 (Value.pointer (some z0))) (.agg (.cons .bool (.cons .bool (.cons (.int .i64) .nil)))) fun (z40 : (Bool × (Bool × (Int × PUnit)))) =>
                .effQ (Instr.sliceAt 117 (Value.pointer (some z3)) none none none) .slice fun (z41 : ((Option Addr) × (Nat × Nat))) =>
                .call 72 #[(Value.agg #[(Value.bool (z40).1), (Value.bool ((z40).2).1), (Value.int IntKind.i64 (((z40).2).2).1)]), (Value.slice (if (((z37).2).2 = (Int.toNat (IntKind.wrap IntKind.i64 (i20 + (1 : Int))))) then (z37).1 else (Option.map (fun (y42 : Addr) => (Addr.add y42 ((Int.toNat (IntKind.wrap IntKind.i64 (i20 + (1 : Int)))) * 1))) (z37).1)) ((Int.toNat (IntKind.wrap IntKind.i64 ((IntKind.wrap IntKind.i64 ((IntKind.wrap IntKind.i64 (i20 + (1 : Int))) + (z29).1)) - (1 : Int)))) - (Int.toNat (IntKind.wrap IntKind.i64 (i20 + (1 : Int))))) (((z37).2).2 - (Int.toNat (IntKind.wrap IntKind.i64 (i20 + (1 : Int)))))), (Value.slice (z41).1 ((z41).2).1 ((z41).2).2)] (.tuple (.cons .slice (.cons .any .nil))) fun (z43 : (((Option Addr) × (Nat × Nat)) × (Value × PUnit))) =>
                .chk ((isIface ((z43).2).1) = Bool.true) <|
                .ite (!(isNil ((z43).2).1)) (
                  .leaf 0 [(Value.int IntKind.i64 (-1 : Int))]) (
                  .store z38 (Value.slice ((z43).1).1 (((z43).1).2).1 (((z43).1).2).2) <|
                  .leaf 3 [])))
              (fun _ => jsonparser_searchKeysConfig.t6 q2 q2_len b16 i17 i18 i20 z29 i33 z38))) (
          .leaf 2 [(Value.bool b16), (Value.int IntKind.i64 i17), (Value.int IntKind.i64 i18), (Value.bool b19), (Value.int IntKind.i64 (IntKind.wrap IntKind.i64 ((IntKind.wrap IntKind.i64 ((IntKind.wrap IntKind.i64 ((IntKind.wrap IntKind.i64 (i20 + (1 : Int))) + (z29).1)) + i33)) - (1 : Int))))]))))
def jsonparser_searchKeysConfig.t8 (q2 : (Option Addr)) (q2_len : Nat) (q2_cap : Nat) (z0 : Addr) (z1 : Addr) (i18 : Int) (i20 : Int) (s57 : ByteArray) (b62 : Bool) : T :=
  .ite b62 (
    .leaf 0 [(Value.int IntKind.i64 (-1 : Int))]) (
    .chk (((0 : Int) ≤ i18) ∧ (i18 < ((q2_len : Nat) : Int))) <|
    .ptr q2 fun (z63 : Addr) =>
    .load (Addr.add z63 ((Int.toNat i18) * 1)) .str fun (s64 : ByteArray) =>
    .chk (((0 : Int) ≤ (1 : Int)) ∧ (((1 : Int) ≤ (IntKind.wrap IntKind.i64 ((((ByteArray.size s57) : Nat) : Int) - (1 : Int)))) ∧ ((IntKind.wrap IntKind.i64 ((((ByteArray.size s57) : Nat) : Int) - (1 : Int))) ≤ (((ByteArray.size s64) : Nat) : Int)))) <|
    .call 74 #[(Value.string (ByteArray.extract s64 1 (Int.toNat (IntKind.wrap IntKind.i64 ((((ByteArray.size s57) : Nat) : Int) - (1 : Int))))))] (.tuple (.cons (.int .i64) (.cons .any .nil))) fun (z65 : (Int × (Value × PUnit))) =>
    .alloc (Obj.cells #[(Value.int IntKind.i64 (0 : Int))] 3 (0, 0)) fun (z66 : Addr) =>
    .store z66 (Value.int IntKind.i64 (z65).1) <|
    .chk ((isIface ((z65).2).1) = Bool.true) <|
    .ite (!(isNil ((z65).2).1)) (
      .leaf 0 [(Value.int IntKind.i64 (-1 : Int))]) (
      .alloc (Obj.cells #[(Value.int IntKind.i64 (0 : Int))] 3 (0, 0)) fun (z67 : Addr) =>
      .alloc (Obj.cells #[(Value.slice none 0 0)] 36 (0, 0)) fun (z68 : Addr) =>
      .alloc (Obj.cells #[(Value.int IntKind.i64 (0 : Int))] 3 (0, 0)) fun (z69 : Addr) =>
      .alloc (Obj.cells #[(Value.int IntKind.i64 (0 : Int))] 3 (0, 0)) fun (z70 : Addr) =>
      .store z70 (Value.int IntKind.i64 i20) <|
      .drew <|
      .effS (Instr.loadAt 73 (Value.pointer (some z0))) (.agg (.cons .bool (.cons .bool (.cons (.int .i64) .nil)))) fun (z71 : (Bool × (Bool × (Int × PUnit)))) =>
      .load z1 .slice fun (z72 : ((Option Addr) × (Nat × Nat))) =>
      .chk (((0 : Int) ≤ i20) ∧ ((i20 ≤ ((((z72).2).1 : Nat) : Int)) ∧ (((((z72).2).1 : Nat) : Int) ≤ ((((z72).2).2 : Nat) : Int)))) <|
      .call 75 #[(Value.agg #[(Value.bool (z71).1), (Value.bool ((z71).2).1), (Value.int IntKind.i64 (((z71).2).2).1)]), (Value.slice (if (((z72).2).2 = (Int.toNat i20)) then (z72).1 else (Option.map (fun (y73 : Addr) => (Addr.add y73 ((Int.toNat i20) * 1))) (z72).1)) ((Int.toNat ((((z72).2).1 : Nat) : Int)) - (Int.toNat i20)) (((z72).2).2 - (Int.toNat i20))), (Value.func (.func 76) #[] #[(Value.pointer (some z67)), (Value.pointer (some z66)), (Value.pointer (some z68)), (Value.pointer (some z69)), (Value.pointer (some z1)), (Value.pointer (some z70))]), (Value.slice none 0 0)] (.tuple (.cons (.int .i64) (.cons .any .nil))) fun (z74 : (Int × (Value × PUnit))) =>
      .load z68 .slice fun (z75 : ((Option Addr) × (Nat × Nat))) =>
      .ite (Option.isNone (z75).1) (
        .leaf 0 [(Value.int IntKind.i64 (-1 : Int))]) (
        .drew <|
        .effS (Instr.loadAt 73 (Value.pointer (some z0))) (.agg (.cons .bool (.cons .bool (.cons (.int .i64) .nil)))) fun (z76 : (Bool × (Bool × (Int × PUnit)))) =>
        .load z68 .slice fun (z77 : ((Option Addr) × (Nat × Nat))) =>
        .chk (((0 : Int) ≤ (IntKind.wrap IntKind.i64 (i18 + (1 : Int)))) ∧ (((IntKind.wrap IntKind.i64 (i18 + (1 : Int))) ≤ ((q2_len : Nat) : Int)) ∧ (((q2_len : Nat) : Int) ≤ ((q2_cap : Nat) : Int)))) <|
        .call 64 #[(Value.agg #[(Value.bool (z76).1), (Value.bool ((z76).2).1), (Value.int IntKind.i64 (((z76).2).2).1)]), (Value.slice (z77).1 ((z77).2).1 ((z77).2).2), (Value.slice (if (q2_cap = (Int.toNat (IntKind.wrap IntKind.i64 (i18 + (1 : Int))))) then q2 else (Option.map (fun (y78 : Addr) => (Addr.add y78 ((Int.toNat (IntKind.wrap IntKind.i64 (i18 + (1 : Int)))) * 1))) q2)) ((Int.toNat ((q2_len : Nat) : Int)) - (Int.toNat (IntKind.wrap IntKind.i64 (i18 + (1 : Int))))) (q2_cap - (Int.toNat (IntKind.wrap IntKind.i64 (i18 + (1 : Int))))))] (.int .i64) fun (i79 : Int) =>
        .ite (decide (i79 < (0 : Int))) (
          .leaf 0 [(Value.int IntKind.i64 (-1 : Int))]) (
          .load z69 (.int .i64) fun (i80 : Int) =>
          .leaf 0 [(Value.int IntKind.i64 (IntKind.wrap IntKind.i64 ((IntKind.wrap IntKind.i64 (i20 + i80)) + i79)))]))))
def jsonparser_searchKeysConfig.t7 (q2 : (Option Addr)) (q2_len : Nat) (q2_cap : Nat) (z0 : Addr) (z1 : Addr) (b16 : Bool) (i17 : Int) (i18 : Int) (b19 : Bool) (i20 : Int) (b55 : Bool) : T :=
  .ite b55 (
    .chk (((0 : Int) ≤ i18) ∧ (i18 < ((q2_len : Nat) : Int))) <|
    .ptr q2 fun (z56 : Addr) =>
    .load (Addr.add z56 ((Int.toNat i18) * 1)) .str fun (s57 : ByteArray) =>
    .cut 3 (.cons .bool .nil) (
      .chk (((0 : Int) ≤ i18) ∧ (i18 < ((q2_len : Nat) : Int))) <|
      .ptr q2 fun (z58 : Addr) =>
      .load (Addr.add z58 ((Int.toNat i18) * 1)) .str fun (s59 : ByteArray) =>
      .ite (decide ((((ByteArray.size s59) : Nat) : Int) < (3 : Int))) (
        .leaf 3 [(Value.bool Bool.true)]) (
        .chk (((0 : Int) ≤ i18) ∧ (i18 < ((q2_len : Nat) : Int))) <|
        .ptr q2 fun (z60 : Addr) =>
        .load (Addr.add z60 ((Int.toNat i18) * 1)) .str fun (s61 : ByteArray) =>
        .chk (((0 : Int) ≤ (IntKind.wrap IntKind.i64 ((((ByteArray.size s57) : Nat) : Int) - (1 : Int)))) ∧ ((IntKind.wrap IntKind.i64 ((((ByteArray.size s57) : Nat) : Int) - (1 : Int))) < (((ByteArray.size s61) : Nat) : Int))) <|
        .leaf 3 [(Value.bool ((bt s61 (IntKind.wrap IntKind.i64 ((((ByteArray.size s57) : Nat) : Int) - (1 : Int)))) != (93 : Int)))]))
      (fun z => jsonparser_searchKeysConfig.t8 q2 q2_len q2_cap z0 z1 i18 i20 s57 z.1)) (
    .drew <|
    .effS (Instr.loadAt 73 (Value.pointer (some z0))) (.agg (.cons .bool (.cons .bool (.cons (.int .i64) .nil)))) fun (z81 : (Bool × (Bool × (Int × PUnit)))) =>
    .load z1 .slice fun (z82 : ((Option Addr) × (Nat × Nat))) =>
    .chk (((0 : Int) ≤ i20) ∧ ((i20 ≤ ((((z82).2).1 : Nat) : Int)) ∧ (((((z82).2).1 : Nat) : Int) ≤ ((((z82).2).2 : Nat) : Int)))) <|
    .call 54 #[(Value.agg #[(Value.bool (z81).1), (Value.bool ((z81).2).1), (Value.int IntKind.i64 (((z81).2).2).1)]), (Value.slice (if (((z82).2).2 = (Int.toNat i20)) then (z82).1 else (Option.map (fun (y83 : Addr) => (Addr.add y83 ((Int.toNat i20) * 1))) (z82).1)) ((Int.toNat ((((z82).2).1 : Nat) : Int)) - (Int.toNat i20)) (((z82).2).2 - (Int.toNat i20))), (Value.int IntKind.u8 (91 : Int)), (Value.int IntKind.u8 (93 : Int))] (.int .i64) fun (i84 : Int) =>
    .ite (i84 == (-1 : Int)) (
      .leaf 0 [(Value.int IntKind.i64 (-1 : Int))]) (
      .leaf 2 [(Value.bool b16), (Value.int IntKind.i64 i17), (Value.int IntKind.i64 i18), (Value.bool b19), (Value.int IntKind.i64 (IntKind.wrap IntKind.i64 (i20 + (IntKind.wrap IntKind.i64 (i84 - (1 : Int))))))]))
def jsonparser_searchKeysConfig.t9 (i86 : Int) (i87 : Int) (b88 : Bool) (i89 : Int) : T :=
  .leaf 1 [(Value.int IntKind.i64 (IntKind.wrap IntKind.i64 (i89 + (1 : Int)))), (Value.int IntKind.i64 i86), (Value.int IntKind.i64 i87), (Value.bool b88)]
def jsonparser_searchKeysConfig.t4 (q2 : (Option Addr)) (q2_len : Nat) (q2_cap : Nat) (z0 : Addr) (z1 : Addr) (z3 : Addr) (i15 : Int) (b16 : Bool) (i17 : Int) (i18 : Int) (b19 : Bool) (i20 : Int) : T :=
  .cut 2 (.cons .bool (.cons (.int .i64) (.cons (.int .i64) (.cons .bool (.cons (.int .i64) .nil))))) (
    .ite b16 (
      .load z1 .slice fun (z21 : ((Option Addr) × (Nat × Nat))) =>
      .chk (((0 : Int) ≤ i20) ∧ (i20 < ((((z21).2).1 : Nat) : Int))) <|
      .ptr (z21).1 fun (z22 : Addr) =>
      .load (Addr.add z22 ((Int.toNat i20) * 1)) (.int .u8) fun (i23 : Int) =>
      .cut 3 (.cons .bool .nil) (
        .ite (i23 == (39 : Int)) (
          .load (Addr.add z0 0) .bool fun (b24 : Bool) =>
          .leaf 3 [(Value.bool (!b24))]) (
          .leaf 3 [(Value.bool Bool.false)]))
        (fun z => jsonparser_searchKeysConfig.t5 q2 q2_len z0 z1 z3 b16 i17 i18 b19 i20 i23 z.1)) (
      .ite (i15 == (123 : Int)) (
        .ite (!b19) (
          .drew <|
          .effS (Instr.loadAt 73 (Value.pointer (some z0))) (.agg (.cons .bool (.cons .bool (.cons (.int .i64) .nil)))) fun (z47 : (Bool × (Bool × (Int × PUnit)))) =>
          .load z1 .slice fun (z48 : ((Option Addr) × (Nat × Nat))) =>
          .chk (((0 : Int) ≤ i20) ∧ ((i20 ≤ ((((z48).2).1 : Nat) : Int)) ∧ (((((z48).2).1 : Nat) : Int) ≤ ((((z48).2).2 : Nat) : Int)))) <|
          .call 54 #[(Value.agg #[(Value.bool (z47).1), (Value.bool ((z47).2).1), (Value.int IntKind.i64 (((z47).2).2).1)]), (Value.slice (if (((z48).2).2 = (Int.toNat i20)) then (z48).1 else (Option.map (fun (y49 : Addr) => (Addr.add y49 ((Int.toNat i20) * 1))) (z48).1)) ((Int.toNat ((((z48).2).1 : Nat) : Int)) - (Int.toNat i20)) (((z48).2).2 - (Int.toNat i20))), (Value.int IntKind.u8 (123 : Int)), (Value.int IntKind.u8 (125 : Int))] (.int .i64) fun (i50 : Int) =>
          .ite (i50 == (-1 : Int)) (
            .leaf 0 [(Value.int IntKind.i64 (-1 : Int))]) (
            .leaf 2 [(Value.bool b16), (Value.int IntKind.i64 i17), (Value.int IntKind.i64 i18), (Value.bool b19), (Value.int IntKind.i64 (IntKind.wrap IntKind.i64 (i20 + (IntKind.wrap IntKind.i64 (i50 - (1 : Int))))))])) (
          .leaf 2 [(Value.bool b16), (Value.int IntKind.i64 i17), (Value.int IntKind.i64 (IntKind.wrap IntKind.i64 (i18 + (1 : Int)))), (Value.bool b19), (Value.int IntKind.i64 i20)])) (
        .ite (i15 == (125 : Int)) (
          .ite ((IntKind.wrap IntKind.i64 (i18 - (1 : Int))) == i17) (
            .leaf 2 [(Value.bool b16), (Value.int IntKind.i64 (IntKind.wrap IntKind.i64 (i17 - (1 : Int)))), (Value.int IntKind.i64 (IntKind.wrap IntKind.i64 (i18 - (1 : Int)))), (Value.bool b19), (Value.int IntKind.i64 i20)]) (
            .leaf 2 [(Value.bool b16), (Value.int IntKind.i64 i17), (Value.int IntKind.i64 (IntKind.wrap IntKind.i64 (i18 - (1 : Int)))), (Value.bool b19), (Value.int IntKind.i64 i20)])) (
          .ite (i15 == (91 : Int)) (
            .cut 3 (.cons .bool .nil) (
              .ite (i17 == i18) (
                .chk (((0 : Int) ≤ i18) ∧ (i18 < ((q2_len : Nat) : Int))) <|
                .ptr q2 fun (z51 : Addr) =>
                .load (Addr.add z51 ((Int.toNat i18) * 1)) .str fun (s52 : ByteArray) =>
                .ite (decide ((((ByteArray.size s52) : Nat) : Int) > (0 : Int))) (
                  .chk (((0 : Int) ≤ i18) ∧ (i18 < ((q2_len : Nat) : Int))) <|
                  .ptr q2 fun (z53 : Addr) =>
                  .load (Addr.add z53 ((Int.toNat i18) * 1)) .str fun (s54 : ByteArray) =>
                  .chk (((0 : Int) ≤ (0 : Int)) ∧ ((0 : Int) < (((ByteArray.size s54) : Nat) : Int))) <|
                  .leaf 3 [(Value.bool ((bt s54 (0 : Int)) == (91 : Int)))]) (
                  .leaf 3 [(Value.bool Bool.false)])) (
                .leaf 3 [(Value.bool Bool.false)]))
              (fun z => jsonparser_searchKeysConfig.t7 q2 q2_len q2_cap z0 z1 b16 i17 i18 b19 i20 z.1)) (
            .ite (i15 == (58 : Int)) (
              .leaf 0 [(Value.int IntKind.i64 (-1 : Int))]) (
              .leaf 2 [(Value.bool b16), (Value.int IntKind.i64 i17), (Value.int IntKind.i64 i18), (Value.bool b19), (Value.int IntKind.i64 i20)]))))))
    (fun z => jsonparser_searchKeysConfig.t9 z.2.1 z.2.2.1 z.2.2.2.1 z.2.2.2.2.1)
def jsonparser_searchKeysConfig.t3 (q2 : (Option Addr)) (q2_len : Nat) (q2_cap : Nat) (z0 : Addr) (z1 : Addr) (z2 : ((Option Addr) × (Nat × Nat))) (z3 : Addr) (i5 : Int) (i6 : Int) (b7 : Bool) (i12 : Int) : T :=
  .ite (decide (i12 ≥ ((((z2).2).1 : Nat) : Int))) (
    .leaf 0 [(Value.int IntKind.i64 (-1 : Int))]) (
    .load z1 .slice fun (z13 : ((Option Addr) × (Nat × Nat))) =>
    .chk (((0 : Int) ≤ i12) ∧ (i12 < ((((z13).2).1 : Nat) : Int))) <|
    .ptr (z13).1 fun (z14 : Addr) =>
    .load (Addr.add z14 ((Int.toNat i12) * 1)) (.int .u8) fun (i15 : Int) =>
    .cut 2 (.cons .bool (.cons (.int .i64) (.cons (.int .i64) (.cons .bool (.cons (.int .i64) .nil))))) (
      .ite (i15 == (34 : Int)) (
        .leaf 2 [(Value.bool (i15 == (34 : Int))), (Value.int IntKind.i64 i5), (Value.int IntKind.i64 i6), (Value.bool b7), (Value.int IntKind.i64 i12)]) (
        .leaf 2 [(Value.bool (i15 == (39 : Int))), (Value.int IntKind.i64 i5), (Value.int IntKind.i64 i6), (Value.bool b7), (Value.int IntKind.i64 i12)]))
      (fun z => jsonparser_searchKeysConfig.t4 q2 q2_len q2_cap z0 z1 z3 i15 z.1 z.2.1 z.2.2.1 z.2.2.2.1 z.2.2.2.2.1))
def jsonparser_searchKeysConfig.t1 (q2 : (Option Addr)) (q2_len : Nat) (q2_cap : Nat) (z0 : Addr) (z1 : Addr) (z2 : ((Option Addr) × (Nat × Nat))) (z3 : Addr) (i4 : Int) (i5 : Int) (i6 : Int) (b7 : Bool) : T :=
  .ite (decide (i4 < ((((z2).2).1 : Nat) : Int))) (
    .cut 2 (.cons (.int .i64) .nil) (
      .loop 3 (.cons (.int .i64) .nil) [(Value.int IntKind.i64 i4)]
        (fun z => jsonparser_searchKeysConfig.t2 z1 z2 z.1))
      (fun z => jsonparser_searchKeysConfig.t3 q2 q2_len q2_cap z0 z1 z2 z3 i5 i6 b7 z.1)) (
    .leaf 0 [(Value.int IntKind.i64 (-1 : Int))])
def jsonparser_searchKeysConfig.t (q0_0 : Bool) (q0_1 : Bool) (q0_2 : Int) (q1 : (Option Addr)) (q1_len : Nat) (q1_cap : Nat) (q2 : (Option Addr)) (q2_len : Nat) (q2_cap : Nat) : T :=
  .alloc (Obj.cells #[(Value.bool q0_0), (Value.bool q0_1), (Value.int IntKind.i64 q0_2)] 73 (0, 0)) fun (z0 : Addr) =>
  .alloc (Obj.cells #[(Value.slice q1 q1_len q1_cap)] 36 (0, 0)) fun (z1 : Addr) =>
  .load z1 .slice fun (z2 : ((Option Addr) × (Nat × Nat))) =>
  .ite (((q2_len : Nat) : Int) == (0 : Int)) (
    .leaf 0 [(Value.int IntKind.i64 (0 : Int))]) (
    .alloc (Obj.cells #[(Value.int IntKind.u8 (0 : Int)), (Value.int IntKind.u8 (0 : Int)), (Value.int IntKind.u8 (0 : Int)), (Value.int IntKind.u8 (0 : Int)), (Value.int IntKind.u8 (0 : Int)), (Value.int IntKind.u8 (0 : Int)), (Value.int IntKind.u8 (0 : Int)), (Value.int IntKind.u8 (0 : Int)), (Value.int IntKind.u8 (0 : Int)), (Value.int IntKind.u8 (0 : Int)), (Value.int IntKind.u8 (0 : Int)), (Value.int IntKind.u8 (0 : Int)), (Value.int IntKind.u8 (0 : Int)), (Value.int IntKind.u8 (0 : Int)), (Value.int IntKind.u8 (0 : Int)), (Value.int IntKind.u8 (0 : Int)), (Value.int IntKind.u8 (0 : Int)), (Value.int IntKind.u8 (0 : Int)), (Value.int IntKind.u8 (0 : Int)), (Value.int IntKind.u8 (0 : Int)), (Value.int IntKind.u8 (0 : Int)), (Value.int IntKind.u8 (0 : Int)), (Value.int IntKind.u8 (0 : Int)), (Value.int IntKind.u8 (0 : Int)), (Value.int IntKind.u8 (0 : Int)), (Value.int IntKind.u8 (0 : Int)), (Value.int IntKind.u8 (0 : Int)), (Value.int IntKind.u8 (0 : Int)), (Value.int IntKind.u8 (0 : Int)), (Value.int IntKind.u8 (0 : Int)), (Value.int IntKind.u8 (0 : Int)), (Value.int IntKind.u8 (0 : Int)), (Value.int IntKind.u8 (0 : Int)), (Value.int IntKind.u8 (0 : Int)), (Value.int IntKind.u8 (0 : Int)), (Value.int IntKind.u8 (0 : Int)), (Value.int IntKind.u8 (0 : Int)), (Value.int IntKind.u8 (0 : Int)), (Value.int IntKind.u8 (0 : Int)), (Value.int IntKind.u8 (0 : Int)), (Value.int IntKind.u8 (0 : Int)), (Value.int IntKind.u8 (0 : Int)), (Value.int IntKind.u8 (0 : Int)), (Value.int IntKind.u8 (0 : Int)), (Value.int IntKind.u8 (0 : Int)), (Value.int IntKind.u8 (0 : Int)), (Value.int IntKind.u8 (0 : Int)), (Value.int IntKind.u8 (0 : Int)), (Value.int IntKind.u8 (0 : Int)), (Value.int IntKind.u8 (0 : Int)), (Value.int IntKind.u8 (0 : Int)), (Value.int IntKind.u8 (0 : Int)), (Value.int IntKind.u8 (0 : Int)), (Value.int IntKind.u8 (0 : Int)), (Value.int IntKind.u8 (0 : Int)), (Value.int IntKind.u8 (0 : Int)), (Value.int IntKind.u8 (0 : Int)), (Value.int IntKind.u8 (0 : Int)), (Value.int IntKind.u8 (0 : Int)), (Value.int IntKind.u8 (0 : Int)), (Value.int IntKind.u8 (0 : Int)), (Value.int IntKind.u8 (0 : Int)), (Value.int IntKind.u8 (0 : Int)), (Value.int IntKind.u8 (0 : Int))] 117 (0, 0)) fun (z3 : Addr) =>
    .loop 1 (.cons (.int .i64) (.cons (.int .i64) (.cons (.int .i64) (.cons .bool .nil)))) [(Value.int IntKind.i64 (0 : Int)), (Value.int IntKind.i64 (0 : Int)), (Value.int IntKind.i64 (0 : Int)), (Value.bool Bool.true)]
      (fun z => jsonparser_searchKeysConfig.t1 q2 q2_len q2_cap z0 z1 z2 z3 z.1 z.2.1 z.2.2.1 z.2.2.2.1))
def jsonparser_searchKeysConfig.h : Hints := ⟨[(74, [(74, .bool), (7, (.int .i64)), (8, (.int .i64)), (12, .bool), (9, (.int .i64))]), (129, [])], [(2, [(9, (.int .i64))])], [(22, [(87, .bool)]), (67, [(210, .bool)]), (69, [(231, .bool)])], [(10, [(9, (.int .i64)), (7, (.int .i64)), (8, (.int .i64)), (12, .bool)]), (11, [(9, (.int .i64))])]⟩
noncomputable def jsonparser_searchKeysConfig.c : Code := (Tryd.f64.body).getD .skip
theorem jsonparser_searchKeysConfig.e (q0_0 : Bool) (q0_1 : Bool) (q0_2 : Int) (q1 : (Option Addr)) (q1_len : Nat) (q1_cap : Nat) (q2 : (Option Addr)) (q2_len : Nat) (q2_cap : Nat) : fnT Tryd.prog jsonparser_searchKeysConfig.h Tryd.f64 jsonparser_searchKeysConfig.c [.v (Value.agg #[(Value.bool q0_0), (Value.bool q0_1), (Value.int IntKind.i64 q0_2)]), .v (Value.slice q1 q1_len q1_cap), .v (Value.slice q2 q2_len q2_cap)] = jsonparser_searchKeysConfig.t q0_0 q0_1 q0_2 q1 q1_len q1_cap q2 q2_len q2_cap := by kernel_rfl
theorem jsonparser_searchKeysConfig.calls (q0_0 : Bool) (q0_1 : Bool) (q0_2 : Int) (q1 : (Option Addr)) (q1_len : Nat) (q1_cap : Nat) (q2 : (Option Addr)) (q2_len : Nat) (q2_cap : Nat) {w : World} {R : Ending → World → Prop} (hs : sat Tryd.prog (jsonparser_searchKeysConfig.t q0_0 q0_1 q0_2 q1 q1_len q1_cap q2 q2_len q2_cap) (fun l vs w' => l = 0 ∧ R (.returned (retVal vs)) w') w) : Calls Tryd.prog 64 #[(Value.agg #[(Value.bool q0_0), (Value.bool q0_1), (Value.int IntKind.i64 q0_2)]), (Value.slice q1 q1_len q1_cap), (Value.slice q2 q2_len q2_cap)] w R :=
  have h := calls_of_tree (w := w) (R := R) (args := [.v (Value.agg #[(Value.bool q0_0), (Value.bool q0_1), (Value.int IntKind.i64 q0_2)]), .v (Value.slice q1 q1_len q1_cap), .v (Value.slice q2 q2_len q2_cap)]) (c := jsonparser_searchKeysConfig.c) Tryd.func64 (show Tryd.f64.body = some jsonparser_searchKeysConfig.c by kernel_rfl) (of_decide_eq_true (by kernel_rfl)) (jsonparser_searchKeysConfig.e q0_0 q0_1 q0_2 q1 q1_len q1_cap q2 q2_len q2_cap) hs
  h

/-! ### pub-tetrapla/pub/jsonparser.searchKeysConfig$1 : function 76 -/
def jsonparser_searchKeysConfig_1.t (value : (Option Addr)) (value_len : Nat) (value_cap : Nat) (dataType : Int) (offset : Int) (err : Value) (fv0 : (Option Addr)) (fv1 : (Option Addr)) (fv2 : (Option Addr)) (fv3 : (Option Addr)) (fv4 : (Option Addr)) (fv5 : (Option Addr)) : T :=
  .ptr fv0 fun (z0 : Addr) =>
  .load z0 (.int .i64) fun (i1 : Int) =>
  .ptr fv1 fun (z2 : Addr) =>
  .load z2 (.int .i64) fun (i3 : Int) =>
  .ite (i1 == i3) (
    .ptr fv2 fun (z4 : Addr) =>
    .store z4 (Value.slice value value_len value_cap) <|
    .ptr fv3 fun (z5 : Addr) =>
    .store z5 (Value.int IntKind.i64 offset) <|
    .ite (dataType == (1 : Int)) (
      .ptr fv3 fun (z6 : Addr) =>
      .load z6 (.int .i64) fun (i7 : Int) =>
      .ptr fv3 fun (z8 : Addr) =>
      .store z8 (Value.int IntKind.i64 (IntKind.wrap IntKind.i64 (i7 - (2 : Int)))) <|
      .ptr fv4 fun (z9 : Addr) =>
      .load z9 .slice fun (z10 : ((Option Addr) × (Nat × Nat))) =>
      .ptr fv5 fun (z11 : Addr) =>
      .load z11 (.int .i64) fun (i12 : Int) =>
      .ptr fv3 fun (z13 : Addr) =>
      .load z13 (.int .i64) fun (i14 : Int) =>
      .ptr fv5 fun (z15 : Addr) =>
      .load z15 (.int .i64) fun (i16 : Int) =>
      .ptr fv3 fun (z17 : Addr) =>
      .load z17 (.int .i64) fun (i18 : Int) =>
      .chk (((0 : Int) ≤ (IntKind.wrap IntKind.i64 (i12 + i14))) ∧ (((IntKind.wrap IntKind.i64 (i12 + i14)) ≤ (IntKind.wrap IntKind.i64 ((IntKind.wrap IntKind.i64 ((IntKind.wrap IntKind.i64 (i16 + i18)) + ((value_len : Nat) : Int))) + (2 : Int)))) ∧ ((IntKind.wrap IntKind.i64 ((IntKind.wrap IntKind.i64 ((IntKind.wrap IntKind.i64 (i16 + i18)) + ((value_len : Nat) : Int))) + (2 : Int))) ≤ ((((z10).2).2 : Nat) : Int)))) <|
      .ptr fv2 fun (z19 : Addr) =>
      .store z19 (Value.slice (if (((z10).2).2 = (Int.toNat (IntKind.wrap IntKind.i64 (i12 + i14)))) then (z10).1 else (Option.map (fun (y20 : Addr) => (Addr.add y20 ((Int.toNat (IntKind.wrap IntKind.i64 (i12 + i14))) * 1))) (z10).1)) ((Int.toNat (IntKind.wrap IntKind.i64 ((IntKind.wrap IntKind.i64 ((IntKind.wrap IntKind.i64 (i16 + i18)) + ((value_len : Nat) : Int))) + (2 : Int)))) - (Int.toNat (IntKind.wrap IntKind.i64 (i12 + i14)))) (((z10).2).2 - (Int.toNat (IntKind.wrap IntKind.i64 (i12 + i14))))) <|
      .ptr fv0 fun (z21 : Addr) =>
      .load z21 (.int .i64) fun (i22 : Int) =>
      .ptr fv0 fun (z23 : Addr) =>
      .store z23 (Value.int IntKind.i64 (IntKind.wrap IntKind.i64 (i22 + (1 : Int)))) <|
      .leaf 0 []) (
      .ptr fv0 fun (z24 : Addr) =>
      .load z24 (.int .i64) fun (i25 : Int) =>
      .ptr fv0 fun (z26 : Addr) =>
      .store z26 (Value.int IntKind.i64 (IntKind.wrap IntKind.i64 (i25 + (1 : Int)))) <|
      .leaf 0 [])) (
    .ptr fv0 fun (z27 : Addr) =>
    .load z27 (.int .i64) fun (i28 : Int) =>
    .ptr fv0 fun (z29 : Addr) =>
    .store z29 (Value.int IntKind.i64 (IntKind.wrap IntKind.i64 (i28 + (1 : Int)))) <|
    .leaf 0 [])
def jsonparser_searchKeysConfig_1.h : Hints := ⟨[], [], [], []⟩
noncomputable def jsonparser_searchKeysConfig_1.c : Code := (Tryd.f76.body).getD .skip
theorem jsonparser_searchKeysConfig_1.e (value : (Option Addr)) (value_len : Nat) (value_cap : Nat) (dataType : Int) (offset : Int) (err : Value) (fv0 : (Option Addr)) (fv1 : (Option Addr)) (fv2 : (Option Addr)) (fv3 : (Option Addr)) (fv4 : (Option Addr)) (fv5 : (Option Addr)) : fnT Tryd.prog jsonparser_searchKeysConfig_1.h Tryd.f76 jsonparser_searchKeysConfig_1.c [.v (Value.slice value value_len value_cap), .v (Value.int IntKind.i64 dataType), .v (Value.int IntKind.i64 offset), .o err, .v (Value.pointer fv0), .v (Value.pointer fv1), .v (Value.pointer fv2), .v (Value.pointer fv3), .v (Value.pointer fv4), .v (Value.pointer fv5)] = jsonparser_searchKeysConfig_1.t value value_len value_cap dataType offset err fv0 fv1 fv2 fv3 fv4 fv5 := by kernel_rfl
theorem jsonparser_searchKeysConfig_1.calls (value : (Option Addr)) (value_len : Nat) (value_cap : Nat) (dataType : Int) (offset : Int) (err : Value) (fv0 : (Option Addr)) (fv1 : (Option Addr)) (fv2 : (Option Addr)) (fv3 : (Option Addr)) (fv4 : (Option Addr)) (fv5 : (Option Addr)) {w : World} {R : Ending → World → Prop} (hs : sat Tryd.prog (jsonparser_searchKeysConfig_1.t value value_len value_cap dataType offset err fv0 fv1 fv2 fv3 fv4 fv5) (fun l vs w' => l = 0 ∧ R (.returned (retVal vs)) w') w) : Calls Tryd.prog 76 #[(Value.slice value value_len value_cap), (Value.int IntKind.i64 dataType), (Value.int IntKind.i64 offset), err, (Value.pointer fv0), (Value.pointer fv1), (Value.pointer fv2), (Value.pointer fv3), (Value.pointer fv4), (Value.pointer fv5)] w R :=
  have h := calls_of_tree (w := w) (R := R) (args := [.v (Value.slice value value_len value_cap), .v (Value.int IntKind.i64 dataType), .v (Value.int IntKind.i64 offset), .o err, .v (Value.pointer fv0), .v (Value.pointer fv1), .v (Value.pointer fv2), .v (Value.pointer fv3), .v (Value.pointer fv4), .v (Value.pointer fv5)]) (c := jsonparser_searchKeysConfig_1.c) Tryd.func76 (show Tryd.f76.body = some jsonparser_searchKeysConfig_1.c by kernel_rfl) (of_decide_eq_true (by kernel_rfl)) (jsonparser_searchKeysConfig_1.e value value_len value_cap dataType offset err fv0 fv1 fv2 fv3 fv4 fv5) hs
  h

/-! ### pub-tetrapla/pub/jsonparser.equalStr : function 73 -/
def jsonparser_equalStr.t (b : (Option Addr)) (s : ByteArray) : T :=
  .ptr b fun (z0 : Addr) =>
  .load z0 .slice fun (z1 : ((Option Addr) × (Nat × Nat))) =>
  .eff (convert 36 9 (Value.slice (z1).1 ((z1).2).1 ((z1).2).2)) .str fun (s2 : ByteArray) =>
  .leaf 0 [(Value.bool (strEq s2 s))]
def jsonparser_equalStr.h : Hints := ⟨[], [], [], []⟩
noncomputable def jsonparser_equalStr.c : Code := (Tryd.f73.body).getD .skip
theorem jsonparser_equalStr.e (b : (Option Addr)) (s : ByteArray) : fnT Tryd.prog jsonparser_equalStr.h Tryd.f73 jsonparser_equalStr.c [.v (Value.pointer b), .v (Value.string s)] = jsonparser_equalStr.t b s := by kernel_rfl
theorem jsonparser_equalStr.calls (b : (Option Addr)) (s : ByteArray) {w : World} {R : Ending → World → Prop} (hs : sat Tryd.prog (jsonparser_equalStr.t b s) (fun l vs w' => l = 0 ∧ R (.returned (retVal vs)) w') w) : Calls Tryd.prog 73 #[(Value.pointer b), (Value.string s)] w R :=
  have h := calls_of_tree (w := w) (R := R) (args := [.v (Value.pointer b), .v (Value.string s)]) (c := jsonparser_equalStr.c) Tryd.func73 (show Tryd.f73.body = some jsonparser_equalStr.c by kernel_rfl) (of_decide_eq_true (by kernel_rfl)) (jsonparser_equalStr.e b s) hs
  h

/-! ### pub-tetrapla/pub/jsonparser.unescapeConfig : function 72 -/
def jsonparser_unescapeConfig.t2 (z0 : Addr) (z4 : ((Option Addr) × (Nat × Nat))) (z9 : ((Option Addr) × (Nat × Nat))) (z10 : ((Option Addr) × (Nat × Nat))) : T :=
  .eff (Instr.loadAt 73 (Value.pointer (some z0))) (.agg (.cons .bool (.cons .bool (.cons (.int .i64) .nil)))) fun (z11 : (Bool × (Bool × (Int × PUnit)))) =>
  .call 82 #[(Value.agg #[(Value.bool (z11).1), (Value.bool ((z11).2).1), (Value.int IntKind.i64 (((z11).2).2).1)]), (Value.slice (z10).1 ((z10).2).1 ((z10).2).2), (Value.slice (z9).1 ((z9).2).1 ((z9).2).2)] (.tuple (.cons (.int .i64) (.cons (.int .i64) .nil))) fun (z12 : (Int × (Int × PUnit))) =>
  .ite ((z12).1 == (-1 : Int)) (
    .drew <|
    .load (Addr.mk 10 0 Option.none) .any fun (v13 : Value) =>
    .leaf 0 [(Value.slice none 0 0), v13]) (
    .chk (((0 : Int) ≤ (z12).1) ∧ (((z12).1 ≤ ((((z10).2).1 : Nat) : Int)) ∧ (((((z10).2).1 : Nat) : Int) ≤ ((((z10).2).2 : Nat) : Int)))) <|
    .chk (((0 : Int) ≤ ((z12).2).1) ∧ ((((z12).2).1 ≤ ((((z9).2).1 : Nat) : Int)) ∧ (((((z9).2).1 : Nat) : Int) ≤ ((((z9).2).2 : Nat) : Int)))) <|
    .call 81 #[(Value.slice (if (((z10).2).2 = (Int.toNat (z12).1)) then (z10).1 else (Option.map (fun (y14 : Addr) => (Addr.add y14 ((Int.toNat (z12).1) * 1))) (z10).1)) ((Int.toNat ((((z10).2).1 : Nat) : Int)) - (Int.toNat (z12).1)) (((z10).2).2 - (Int.toNat (z12).1))), (Value.int IntKind.u8 (92 : Int))] (.int .i64) fun (i15 : Int) =>
    .ite (i15 == (-1 : Int)) (
      .eff (Builtin.copy_ (Call.argTypes (Call.mk (Callee.builtin Builtin.copy) #[(Operand.tmp 61), (Operand.tmp 62)] #[36, 36])) 3 #[(Value.slice (if (((z9).2).2 = (Int.toNat ((z12).2).1)) then (z9).1 else (Option.map (fun (y16 : Addr) => (Addr.add y16 ((Int.toNat ((z12).2).1) * 1))) (z9).1)) ((Int.toNat ((((z9).2).1 : Nat) : Int)) - (Int.toNat ((z12).2).1)) (((z9).2).2 - (Int.toNat ((z12).2).1))), (Value.slice (if (((z10).2).2 = (Int.toNat (z12).1)) then (z10).1 else (Option.map (fun (y17 : Addr) => (Addr.add y17 ((Int.toNat (z12).1) * 1))) (z10).1)) ((Int.toNat ((((z10).2).1 : Nat) : Int)) - (Int.toNat (z12).1)) (((z10).2).2 - (Int.toNat (z12).1)))]) (.int .i64) fun (i18 : Int) =>
      .chk (((0 : Int) ≤ ((((Int.toNat ((((z10).2).1 : Nat) : Int)) - (Int.toNat (z12).1)) : Nat) : Int)) ∧ ((((((Int.toNat ((((z10).2).1 : Nat) : Int)) - (Int.toNat (z12).1)) : Nat) : Int) ≤ ((((Int.toNat ((((z9).2).1 : Nat) : Int)) - (Int.toNat ((z12).2).1)) : Nat) : Int)) ∧ (((((Int.toNat ((((z9).2).1 : Nat) : Int)) - (Int.toNat ((z12).2).1)) : Nat) : Int) ≤ (((((z9).2).2 - (Int.toNat ((z12).2).1)) : Nat) : Int)))) <|
      .chk (((0 : Int) ≤ (0 : Int)) ∧ (((0 : Int) ≤ (IntKind.wrap IntKind.i64 (((((z4).2).1 : Nat) : Int) - ((((Int.toNat ((((Int.toNat ((((z9).2).1 : Nat) : Int)) - (Int.toNat ((z12).2).1)) : Nat) : Int)) - (Int.toNat ((((Int.toNat ((((z10).2).1 : Nat) : Int)) - (Int.toNat (z12).1)) : Nat) : Int))) : Nat) : Int)))) ∧ ((IntKind.wrap IntKind.i64 (((((z4).2).1 : Nat) : Int) - ((((Int.toNat ((((Int.toNat ((((z9).2).1 : Nat) : Int)) - (Int.toNat ((z12).2).1)) : Nat) : Int)) - (Int.toNat ((((Int.toNat ((((z10).2).1 : Nat) : Int)) - (Int.toNat (z12).1)) : Nat) : Int))) : Nat) : Int))) ≤ ((((z4).2).2 : Nat) : Int)))) <|
      .leaf 0 [(Value.slice (if (((z4).2).2 = 0) then (z4).1 else (Option.map (fun (y19 : Addr) => (Addr.add y19 0)) (z4).1)) ((Int.toNat (IntKind.wrap IntKind.i64 (((((z4).2).1 : Nat) : Int) - ((((Int.toNat ((((Int.toNat ((((z9).2).1 : Nat) : Int)) - (Int.toNat ((z12).2).1)) : Nat) : Int)) - (Int.toNat ((((Int.toNat ((((z10).2).1 : Nat) : Int)) - (Int.toNat (z12).1)) : Nat) : Int))) : Nat) : Int)))) - 0) (((z4).2).2 - 0)), Value.nilIface]) (
      .chk (((0 : Int) ≤ (0 : Int)) ∧ (((0 : Int) ≤ i15) ∧ (i15 ≤ (((((z10).2).2 - (Int.toNat (z12).1)) : Nat) : Int)))) <|
      .eff (Builtin.copy_ (Call.argTypes (Call.mk (Callee.builtin Builtin.copy) #[(Operand.tmp 68), (Operand.tmp 71)] #[36, 36])) 3 #[(Value.slice (if (((z9).2).2 = (Int.toNat ((z12).2).1)) then (z9).1 else (Option.map (fun (y20 : Addr) => (Addr.add y20 ((Int.toNat ((z12).2).1) * 1))) (z9).1)) ((Int.toNat ((((z9).2).1 : Nat) : Int)) - (Int.toNat ((z12).2).1)) (((z9).2).2 - (Int.toNat ((z12).2).1))), (Value.slice (if ((((z10).2).2 - (Int.toNat (z12).1)) = 0) then (if (((z10).2).2 = (Int.toNat (z12).1)) then (z10).1 else (Option.map (fun (y21 : Addr) => (Addr.add y21 ((Int.toNat (z12).1) * 1))) (z10).1)) else (Option.map (fun (y22 : Addr) => (Addr.add y22 0)) (if (((z10).2).2 = (Int.toNat (z12).1)) then (z10).1 else (Option.map (fun (y23 : Addr) => (Addr.add y23 ((Int.toNat (z12).1) * 1))) (z10).1)))) ((Int.toNat i15) - 0) ((((z10).2).2 - (Int.toNat (z12).1)) - 0))]) (.int .i64) fun (i24 : Int) =>
      .chk (((0 : Int) ≤ i15) ∧ ((i15 ≤ ((((Int.toNat ((((z9).2).1 : Nat) : Int)) - (Int.toNat ((z12).2).1)) : Nat) : Int)) ∧ (((((Int.toNat ((((z9).2).1 : Nat) : Int)) - (Int.toNat ((z12).2).1)) : Nat) : Int) ≤ (((((z9).2).2 - (Int.toNat ((z12).2).1)) : Nat) : Int)))) <|
      .chk (((0 : Int) ≤ i15) ∧ ((i15 ≤ ((((Int.toNat ((((z10).2).1 : Nat) : Int)) - (Int.toNat (z12).1)) : Nat) : Int)) ∧ (((((Int.toNat ((((z10).2).1 : Nat) : Int)) - (Int.toNat (z12).1)) : Nat) : Int) ≤ (((((z10).2).2 - (Int.toNat (z12).1)) : Nat) : Int)))) <|
      .leaf 1 [(Value.slice (if ((((z9).2).2 - (Int.toNat ((z12).2).1)) = (Int.toNat i15)) then (if (((z9).2).2 = (Int.toNat ((z12).2).1)) then (z9).1 else (Option.map (fun (y25 : Addr) => (Addr.add y25 ((Int.toNat ((z12).2).1) * 1))) (z9).1)) else (Option.map (fun (y26 : Addr) => (Addr.add y26 ((Int.toNat i15) * 1))) (if (((z9).2).2 = (Int.toNat ((z12).2).1)) then (z9).1 else (Option.map (fun (y27 : Addr) => (Addr.add y27 ((Int.toNat ((z12).2).1) * 1))) (z9).1)))) ((Int.toNat ((((Int.toNat ((((z9).2).1 : Nat) : Int)) - (Int.toNat ((z12).2).1)) : Nat) : Int)) - (Int.toNat i15)) ((((z9).2).2 - (Int.toNat ((z12).2).1)) - (Int.toNat i15))), (Value.slice (if ((((z10).2).2 - (Int.toNat (z12).1)) = (Int.toNat i15)) then (if (((z10).2).2 = (Int.toNat (z12).1)) then (z10).1 else (Option.map (fun (y28 : Addr) => (Addr.add y28 ((Int.toNat (z12).1) * 1))) (z10).1)) else (Option.map (fun (y29 : Addr) => (Addr.add y29 ((Int.toNat i15) * 1))) (if (((z10).2).2 = (Int.toNat (z12).1)) then (z10).1 else (Option.map (fun (y30 : Addr) => (Addr.add y30 ((Int.toNat (z12).1) * 1))) (z10).1)))) ((Int.toNat ((((Int.toNat ((((z10).2).1 : Nat) : Int)) - (Int.toNat (z12).1)) : Nat) : Int)) - (Int.toNat i15)) ((((z10).2).2 - (Int.toNat (z12).1)) - (Int.toNat i15)))]))
def jsonparser_unescapeConfig.t1 (q1 : (Option Addr)) (q1_len : Nat) (q1_cap : Nat) (z0 : Addr) (i1 : Int) (z4 : ((Option Addr) × (Nat × Nat))) : T :=
  .chk (((0 : Int) ≤ (0 : Int)) ∧ (((0 : Int) ≤ i1) ∧ (i1 ≤ ((q1_cap : Nat) : Int)))) <|
  .eff (Builtin.copy_ (Call.argTypes (Call.mk (Callee.builtin Builtin.copy) #[(Operand.tmp 30), (Operand.tmp 33)] #[36, 36])) 3 #[(Value.slice (z4).1 ((z4).2).1 ((z4).2).2), (Value.slice (if (q1_cap = 0) then q1 else (Option.map (fun (y5 : Addr) => (Addr.add y5 0)) q1)) ((Int.toNat i1) - 0) (q1_cap - 0))]) (.int .i64) fun (i6 : Int) =>
  .chk (((0 : Int) ≤ i1) ∧ ((i1 ≤ ((q1_len : Nat) : Int)) ∧ (((q1_len : Nat) : Int) ≤ ((q1_cap : Nat) : Int)))) <|
  .chk (((0 : Int) ≤ i1) ∧ ((i1 ≤ ((((z4).2).1 : Nat) : Int)) ∧ (((((z4).2).1 : Nat) : Int) ≤ ((((z4).2).2 : Nat) : Int)))) <|
  .loop 1 (.cons .slice (.cons .slice .nil)) [(Value.slice (if (((z4).2).2 = (Int.toNat i1)) then (z4).1 else (Option.map (fun (y7 : Addr) => (Addr.add y7 ((Int.toNat i1) * 1))) (z4).1)) ((Int.toNat ((((z4).2).1 : Nat) : Int)) - (Int.toNat i1)) (((z4).2).2 - (Int.toNat i1))), (Value.slice (if (q1_cap = (Int.toNat i1)) then q1 else (Option.map (fun (y8 : Addr) => (Addr.add y8 ((Int.toNat i1) * 1))) q1)) ((Int.toNat ((q1_len : Nat) : Int)) - (Int.toNat i1)) (q1_cap - (Int.toNat i1)))]
    (fun z => jsonparser_unescapeConfig.t2 z0 z4 z.1 z.2.1)
def jsonparser_unescapeConfig.t (q0_0 : Bool) (q0_1 : Bool) (q0_2 : Int) (q1 : (Option Addr)) (q1_len : Nat) (q1_cap : Nat) (q2 : (Option Addr)) (q2_len : Nat) (q2_cap : Nat) : T :=
  .alloc (Obj.cells #[(Value.bool q0_0), (Value.bool q0_1), (Value.int IntKind.i64 q0_2)] 73 (0, 0)) fun (z0 : Addr) =>
  .call 81 #[(Value.slice q1 q1_len q1_cap), (Value.int IntKind.u8 (92 : Int))] (.int .i64) fun (i1 : Int) =>
  .ite (i1 == (-1 : Int)) (
    .leaf 0 [(Value.slice q1 q1_len q1_cap), Value.nilIface]) (
    .cut 1 (.cons .slice .nil) (
      .ite (decide (((q2_cap : Nat) : Int) < ((q1_len : Nat) : Int))) (
        .eff (Instr.makeSlice 36 (Value.int IntKind.i64 ((q1_len : Nat) : Int)) (Value.int IntKind.i64 ((q1_len : Nat) : Int))) .slice fun (z2 : ((Option Addr) × (Nat × Nat))) =>
        .leaf 1 [(Value.slice (z2).1 ((z2).2).1 ((z2).2).2)]) (
        .chk (((0 : Int) ≤ (0 : Int)) ∧ (((0 : Int) ≤ ((q1_len : Nat) : Int)) ∧ (((q1_len : Nat) : Int) ≤ ((q2_cap : Nat) : Int)))) <|
        .leaf 1 [(Value.slice (if (q2_cap = 0) then q2 else (Option.map (fun (y3 : Addr) => (Addr.add y3 0)) q2)) ((Int.toNat ((q1_len : Nat) : Int)) - 0) (q2_cap - 0))]))
      (fun z => jsonparser_unescapeConfig.t1 q1 q1_len q1_cap z0 i1 z.1))
def jsonparser_unescapeConfig.h : Hints := ⟨[(22, [(2, .slice)])], [], [], [(10, [(9, .slice), (1, .slice)])]⟩
noncomputable def jsonparser_unescapeConfig.c : Code := (Tryd.f72.body).getD .skip
theorem jsonparser_unescapeConfig.e (q0_0 : Bool) (q0_1 : Bool) (q0_2 : Int) (q1 : (Option Addr)) (q1_len : Nat) (q1_cap : Nat) (q2 : (Option Addr)) (q2_len : Nat) (q2_cap : Nat) : fnT Tryd.prog jsonparser_unescapeConfig.h Tryd.f72 jsonparser_unescapeConfig.c [.v (Value.agg #[(Value.bool q0_0), (Value.bool q0_1), (Value.int IntKind.i64 q0_2)]), .v (Value.slice q1 q1_len q1_cap), .v (Value.slice q2 q2_len q2_cap)] = jsonparser_unescapeConfig.t q0_0 q0_1 q0_2 q1 q1_len q1_cap q2 q2_len q2_cap := by kernel_rfl
theorem jsonparser_unescapeConfig.calls (q0_0 : Bool) (q0_1 : Bool) (q0_2 : Int) (q1 : (Option Addr)) (q1_len : Nat) (q1_cap : Nat) (q2 : (Option Addr)) (q2_len : Nat) (q2_cap : Nat) {w : World} {R : Ending → World → Prop} (hs : sat Tryd.prog (jsonparser_unescapeConfig.t q0_0 q0_1 q0_2 q1 q1_len q1_cap q2 q2_len q2_cap) (fun l vs w' => l = 0 ∧ R (.returned (retVal vs)) w') w) : Calls Tryd.prog 72 #[(Value.agg #[(Value.bool q0_0), (Value.bool q0_1), (Value.int IntKind.i64 q0_2)]), (Value.slice q1 q1_len q1_cap), (Value.slice q2 q2_len q2_cap)] w R :=
  have h := calls_of_tree (w := w) (R := R) (args := [.v (Value.agg #[(Value.bool q0_0), (Value.bool q0_1), (Value.int IntKind.i64 q0_2)]), .v (Value.slice q1 q1_len q1_cap), .v (Value.slice q2 q2_len q2_cap)]) (c := jsonparser_unescapeConfig.c) Tryd.func72 (show Tryd.f72.body = some jsonparser_unescapeConfig.c by kernel_rfl) (of_decide_eq_true (by kernel_rfl)) (jsonparser_unescapeConfig.e q0_0 q0_1 q0_2 q1 q1_len q1_cap q2 q2_len q2_cap) hs
  h

/-! ### pub-tetrapla/pub/jsonparser.unescapeToUTF8Config : function 82 -/
def jsonparser_unescapeToUTF8Config.t2 (b6 : Bool) : T :=
  .leaf 7 [(Value.bool b6)]
def jsonparser_unescapeToUTF8Config.t3 (b7 : Bool) : T :=
  .leaf 6 [(Value.bool b7)]
def jsonparser_unescapeToUTF8Config.t4 (b8 : Bool) : T :=
  .leaf 5 [(Value.bool b8)]
def jsonparser_unescapeToUTF8Config.t5 (b9 : Bool) : T :=
  .leaf 4 [(Value.bool b9)]
def jsonparser_unescapeToUTF8Config.t6 (b10 : Bool) : T :=
  .leaf 3 [(Value.bool b10)]
def jsonparser_unescapeToUTF8Config.t7 (b11 : Bool) : T :=
  .leaf 2 [(Value.bool b11)]
def jsonparser_unescapeToUTF8Config.t9 (b12 : Bool) : T :=
  .leaf 2 [(Value.bool b12)]
def jsonparser_unescapeToUTF8Config.t10 : T :=
  .leaf 1 []
def jsonparser_unescapeToUTF8Config.t8 (q1 : (Option Addr)) (q1_len : Nat) (q1_cap : Nat) (q2 : (Option Addr)) (q2_len : Nat) (q2_cap : Nat) (z0 : Addr) (i5 : Int) (b12 : Bool) : T :=
  .cut 2 (.cons .bool .nil) (
    .ite b12 (
      .chk (((0 : Int) ≤ i5) ∧ (i5 < (117 : Int))) <|
      .load (Addr.add (Addr.mk 11 0 Option.none) ((Int.toNat i5) * 1)) (.int .u8) fun (i13 : Int) =>
      .chk (((0 : Int) ≤ (0 : Int)) ∧ ((0 : Int) < ((q2_len : Nat) : Int))) <|
      .ptr q2 fun (z14 : Addr) =>
      .store (Addr.add z14 0) (Value.int IntKind.u8 i13) <|
      .leaf 0 [(Value.int IntKind.i64 (2 : Int)), (Value.int IntKind.i64 (1 : Int))]) (
      .cut 3 .nil (
        .ite (i5 == (39 : Int)) (
          .load (Addr.add z0 0) .bool fun (b15 : Bool) =>
          .ite b15 (
            .chk (((0 : Int) ≤ (0 : Int)) ∧ ((0 : Int) < ((q2_len : Nat) : Int))) <|
            .ptr q2 fun (z16 : Addr) =>
            .store (Addr.add z16 0) (Value.int IntKind.u8 i5) <|
            .leaf 0 [(Value.int IntKind.i64 (2 : Int)), (Value.int IntKind.i64 (1 : Int))]) (
            .leaf 3 [])) (
          .ite (i5 == (117 : Int)) (
            .call 86 #[(Value.slice q1 q1_len q1_cap)] (.tuple (.cons (.int .i32) (.cons (.int .i64) .nil))) fun (z17 : (Int × (Int × PUnit))) =>
            .ite (((z17).2).1 == (-1 : Int)) (
              .leaf 0 [(Value.int IntKind.i64 (-1 : Int)), (Value.int IntKind.i64 (-1 : Int))]) (
              .call 87 #[(Value.slice q2 q2_len q2_cap), (Value.int IntKind.i32 (z17).1)] (.int .i64) fun (i18 : Int) =>
              .leaf 0 [(Value.int IntKind.i64 ((z17).2).1), (Value.int IntKind.i64 i18)])) (
            .leaf 3 [])))
        (fun _ => jsonparser_unescapeToUTF8Config.t9 b12)))
    (fun z => jsonparser_unescapeToUTF8Config.t10)
def jsonparser_unescapeToUTF8Config.t11 (q1 : (Option Addr)) (q1_len : Nat) (q2 : (Option Addr)) (q2_len : Nat) (z0 : Addr) : T :=
  .load (Addr.add z0 1) .bool fun (b20 : Bool) =>
  .ite b20 (
    .chk (((0 : Int) ≤ (1 : Int)) ∧ ((1 : Int) < ((q1_len : Nat) : Int))) <|
    .ptr q1 fun (z21 : Addr) =>
    .load (Addr.add z21 1) (.int .u8) fun (i22 : Int) =>
    .chk (((0 : Int) ≤ (0 : Int)) ∧ ((0 : Int) < ((q2_len : Nat) : Int))) <|
    .ptr q2 fun (z23 : Addr) =>
    .store (Addr.add z23 0) (Value.int IntKind.u8 i22) <|
    .leaf 0 [(Value.int IntKind.i64 (2 : Int)), (Value.int IntKind.i64 (1 : Int))]) (
    .leaf 0 [(Value.int IntKind.i64 (-1 : Int)), (Value.int IntKind.i64 (-1 : Int))])
def jsonparser_unescapeToUTF8Config.t1 (q1 : (Option Addr)) (q1_len : Nat) (q1_cap : Nat) (q2 : (Option Addr)) (q2_len : Nat) (q2_cap : Nat) (z0 : Addr) (b3 : Bool) : T :=
  .ite b3 (
    .leaf 0 [(Value.int IntKind.i64 (-1 : Int)), (Value.int IntKind.i64 (-1 : Int))]) (
    .chk (((0 : Int) ≤ (1 : Int)) ∧ ((1 : Int) < ((q1_len : Nat) : Int))) <|
    .ptr q1 fun (z4 : Addr) =>
    .load (Addr.add z4 1) (.int .u8) fun (i5 : Int) =>
    .cut 1 .nil (
      .cut 2 (.cons .bool .nil) (
        .ite (i5 == (34 : Int)) (
          .leaf 2 [(Value.bool (i5 == (34 : Int)))]) (
          .cut 3 (.cons .bool .nil) (
            .ite (i5 == (92 : Int)) (
              .leaf 3 [(Value.bool (i5 == (92 : Int)))]) (
              .cut 4 (.cons .bool .nil) (
                .ite (i5 == (47 : Int)) (
                  .leaf 4 [(Value.bool (i5 == (47 : Int)))]) (
                  .cut 5 (.cons .bool .nil) (
                    .ite (i5 == (98 : Int)) (
                      .leaf 5 [(Value.bool (i5 == (98 : Int)))]) (
                      .cut 6 (.cons .bool .nil) (
                        .ite (i5 == (102 : Int)) (
                          .leaf 6 [(Value.bool (i5 == (102 : Int)))]) (
                          .cut 7 (.cons .bool .nil) (
                            .ite (i5 == (110 : Int)) (
                              .leaf 7 [(Value.bool (i5 == (110 : Int)))]) (
                              .cut 8 (.cons .bool .nil) (
                                .ite (i5 == (114 : Int)) (
                                  .leaf 8 [(Value.bool (i5 == (114 : Int)))]) (
                                  .leaf 8 [(Value.bool (i5 == (116 : Int)))]))
                                (fun z => jsonparser_unescapeToUTF8Config.t2 z.1)))
                            (fun z => jsonparser_unescapeToUTF8Config.t3 z.1)))
                        (fun z => jsonparser_unescapeToUTF8Config.t4 z.1)))
                    (fun z => jsonparser_unescapeToUTF8Config.t5 z.1)))
                (fun z => jsonparser_unescapeToUTF8Config.t6 z.1)))
            (fun z => jsonparser_unescapeToUTF8Config.t7 z.1)))
        (fun z => jsonparser_unescapeToUTF8Config.t8 q1 q1_len q1_cap q2 q2_len q2_cap z0 i5 z.1))
      (fun _ => jsonparser_unescapeToUTF8Config.t11 q1 q1_len q2 q2_len z0))
def jsonparser_unescapeToUTF8Config.t (q0_0 : Bool) (q0_1 : Bool) (q0_2 : Int) (q1 : (Option Addr)) (q1_len : Nat) (q1_cap : Nat) (q2 : (Option Addr)) (q2_len : Nat) (q2_cap : Nat) : T :=
  .alloc (Obj.cells #[(Value.bool q0_0), (Value.bool q0_1), (Value.int IntKind.i64 q0_2)] 73 (0, 0)) fun (z0 : Addr) =>
  .cut 1 (.cons .bool .nil) (
    .ite (decide (((q1_len : Nat) : Int) < (2 : Int))) (
      .leaf 1 [(Value.bool Bool.true)]) (
      .chk (((0 : Int) ≤ (0 : Int)) ∧ ((0 : Int) < ((q1_len : Nat) : Int))) <|
      .ptr q1 fun (z1 : Addr) =>
      .load (Addr.add z1 0) (.int .u8) fun (i2 : Int) =>
      .leaf 1 [(Value.bool (i2 != (92 : Int)))]))
    (fun z => jsonparser_unescapeToUTF8Config.t1 q1 q1_len q1_cap q2 q2_len q2_cap z0 z.1)
def jsonparser_unescapeToUTF8Config.h : Hints := ⟨[(25, [(25, .bool)]), (39, [])], [(0, [])], [(1, [(20, .bool)])], []⟩
noncomputable def jsonparser_unescapeToUTF8Config.c : Code := (Tryd.f82.body).getD .skip
theorem jsonparser_unescapeToUTF8Config.e (q0_0 : Bool) (q0_1 : Bool) (q0_2 : Int) (q1 : (Option Addr)) (q1_len : Nat) (q1_cap : Nat) (q2 : (Option Addr)) (q2_len : Nat) (q2_cap : Nat) : fnT Tryd.prog jsonparser_unescapeToUTF8Config.h Tryd.f82 jsonparser_unescapeToUTF8Config.c [.v (Value.agg #[(Value.bool q0_0), (Value.bool q0_1), (Value.int IntKind.i64 q0_2)]), .v (Value.slice q1 q1_len q1_cap), .v (Value.slice q2 q2_len q2_cap)] = jsonparser_unescapeToUTF8Config.t q0_0 q0_1 q0_2 q1 q1_len q1_cap q2 q2_len q2_cap := by kernel_rfl
theorem jsonparser_unescapeToUTF8Config.calls (q0_0 : Bool) (q0_1 : Bool) (q0_2 : Int) (q1 : (Option Addr)) (q1_len : Nat) (q1_cap : Nat) (q2 : (Option Addr)) (q2_len : Nat) (q2_cap : Nat) {w : World} {R : Ending → World → Prop} (hs : sat Tryd.prog (jsonparser_unescapeToUTF8Config.t q0_0 q0_1 q0_2 q1 q1_len q1_cap q2 q2_len q2_cap) (fun l vs w' => l = 0 ∧ R (.returned (retVal vs)) w') w) : Calls Tryd.prog 82 #[(Value.agg #[(Value.bool q0_0), (Value.bool q0_1), (Value.int IntKind.i64 q0_2)]), (Value.slice q1 q1_len q1_cap), (Value.slice q2 q2_len q2_cap)] w R :=
  have h := calls_of_tree (w := w) (R := R) (args := [.v (Value.agg #[(Value.bool q0_0), (Value.bool q0_1), (Value.int IntKind.i64 q0_2)]), .v (Value.slice q1 q1_len q1_cap), .v (Value.slice q2 q2_len q2_cap)]) (c := jsonparser_unescapeToUTF8Config.c) Tryd.func82 (show Tryd.f82.body = some jsonparser_unescapeToUTF8Config.c by kernel_rfl) (of_decide_eq_true (by kernel_rfl)) (jsonparser_unescapeToUTF8Config.e q0_0 q0_1 q0_2 q1 q1_len q1_cap q2 q2_len q2_cap) hs
  h

/-! ### pub-tetrapla/pub/jsonparser.decodeUnicodeEscape : function 86 -/
def jsonparser_decodeUnicodeEscape.t1 (in0 : (Option Addr)) (in0_len : Nat) (in0_cap : Nat) (z0 : (Int × (Bool × PUnit))) (b6 : Bool) : T :=
  .ite b6 (
    .leaf 0 [(Value.int IntKind.i32 (65533 : Int)), (Value.int IntKind.i64 (6 : Int))]) (
    .chk (((0 : Int) ≤ (6 : Int)) ∧ (((6 : Int) ≤ ((in0_len : Nat) : Int)) ∧ (((in0_len : Nat) : Int) ≤ ((in0_cap : Nat) : Int)))) <|
    .call 93 #[(Value.slice (if (in0_cap = 6) then in0 else (Option.map (fun (y7 : Addr) => (Addr.add y7 6)) in0)) ((Int.toNat ((in0_len : Nat) : Int)) - 6) (in0_cap - 6))] (.tuple (.cons (.int .i32) (.cons .bool .nil))) fun (z8 : (Int × (Bool × PUnit))) =>
    .ite (!((z8).2).1) (
      .leaf 0 [(Value.int IntKind.i32 (65533 : Int)), (Value.int IntKind.i64 (-1 : Int))]) (
      .ite (decide ((z8).1 < (56320 : Int))) (
        .leaf 0 [(Value.int IntKind.i32 (65533 : Int)), (Value.int IntKind.i64 (6 : Int))]) (
        .ite (decide ((z8).1 > (57343 : Int))) (
          .leaf 0 [(Value.int IntKind.i32 (65533 : Int)), (Value.int IntKind.i64 (6 : Int))]) (
          .call 95 #[(Value.int IntKind.i32 (z0).1), (Value.int IntKind.i32 (z8).1)] (.int .i32) fun (i9 : Int) =>
          .leaf 0 [(Value.int IntKind.i32 i9), (Value.int IntKind.i64 (12 : Int))]))))
def jsonparser_decodeUnicodeEscape.t (in0 : (Option Addr)) (in0_len : Nat) (in0_cap : Nat) : T :=
  .call 93 #[(Value.slice in0 in0_len in0_cap)] (.tuple (.cons (.int .i32) (.cons .bool .nil))) fun (z0 : (Int × (Bool × PUnit))) =>
  .ite (!((z0).2).1) (
    .leaf 0 [(Value.int IntKind.i32 (65533 : Int)), (Value.int IntKind.i64 (-1 : Int))]) (
    .call 94 #[(Value.int IntKind.i32 (z0).1)] .bool fun (b1 : Bool) =>
    .ite (!b1) (
      .leaf 0 [(Value.int IntKind.i32 (z0).1), (Value.int IntKind.i64 (6 : Int))]) (
      .ite (decide ((z0).1 ≥ (56320 : Int))) (
        .leaf 0 [(Value.int IntKind.i32 (65533 : Int)), (Value.int IntKind.i64 (6 : Int))]) (
        .cut 1 (.cons .bool .nil) (
          .ite (decide (((in0_len : Nat) : Int) < (8 : Int))) (
            .leaf 1 [(Value.bool Bool.true)]) (
            .chk (((0 : Int) ≤ (6 : Int)) ∧ ((6 : Int) < ((in0_len : Nat) : Int))) <|
            .ptr in0 fun (z2 : Addr) =>
            .load (Addr.add z2 6) (.int .u8) fun (i3 : Int) =>
            .ite (i3 != (92 : Int)) (
              .leaf 1 [(Value.bool Bool.true)]) (
              .chk (((0 : Int) ≤ (7 : Int)) ∧ ((7 : Int) < ((in0_len : Nat) : Int))) <|
              .ptr in0 fun (z4 : Addr) =>
              .load (Addr.add z4 7) (.int .u8) fun (i5 : Int) =>
              .leaf 1 [(Value.bool (i5 != (117 : Int)))])))
          (fun z => jsonparser_decodeUnicodeEscape.t1 in0 in0_len in0_cap z0 z.1))))
def jsonparser_decodeUnicodeEscape.h : Hints := ⟨[], [], [(8, [(35, .bool)])], []⟩
noncomputable def jsonparser_decodeUnicodeEscape.c : Code := (Tryd.f86.body).getD .skip
theorem jsonparser_decodeUnicodeEscape.e (in0 : (Option Addr)) (in0_len : Nat) (in0_cap : Nat) : fnT Tryd.prog jsonparser_decodeUnicodeEscape.h Tryd.f86 jsonparser_decodeUnicodeEscape.c [.v (Value.slice in0 in0_len in0_cap)] = jsonparser_decodeUnicodeEscape.t in0 in0_len in0_cap := by kernel_rfl
theorem jsonparser_decodeUnicodeEscape.calls (in0 : (Option Addr)) (in0_len : Nat) (in0_cap : Nat) {w : World} {R : Ending → World → Prop} (hs : sat Tryd.prog (jsonparser_decodeUnicodeEscape.t in0 in0_len in0_cap) (fun l vs w' => l = 0 ∧ R (.returned (retVal vs)) w') w) : Calls Tryd.prog 86 #[(Value.slice in0 in0_len in0_cap)] w R :=
  have h := calls_of_tree (w := w) (R := R) (args := [.v (Value.slice in0 in0_len in0_cap)]) (c := jsonparser_decodeUnicodeEscape.c) Tryd.func86 (show Tryd.f86.body = some jsonparser_decodeUnicodeEscape.c by kernel_rfl) (of_decide_eq_true (by kernel_rfl)) (jsonparser_decodeUnicodeEscape.e in0 in0_len in0_cap) hs
  h

/-! ### pub-tetrapla/pub/jsonparser.decodeSingleUnicodeEscape : function 93 -/
def jsonparser_decodeSingleUnicodeEscape.t1 (i9 : Int) (i11 : Int) (i13 : Int) (i14 : Int) (b15 : Bool) : T :=
  .ite b15 (
    .leaf 0 [(Value.int IntKind.i32 (65533 : Int)), (Value.bool Bool.false)]) (
    .chk ((0 : Int) ≤ (12 : Int)) <|
    .chk ((0 : Int) ≤ (8 : Int)) <|
    .chk ((0 : Int) ≤ (4 : Int)) <|
    .leaf 0 [(Value.int IntKind.i32 (IntKind.wrap IntKind.i32 (IntKind.wrap IntKind.i64 ((IntKind.wrap IntKind.i64 ((IntKind.wrap IntKind.i64 ((IntKind.wrap IntKind.i64 (i9 * (4096 : Int))) + (IntKind.wrap IntKind.i64 (i11 * (256 : Int))))) + (IntKind.wrap IntKind.i64 (i13 * (16 : Int))))) + i14)))), (Value.bool Bool.true)])
def jsonparser_decodeSingleUnicodeEscape.t (in0 : (Option Addr)) (in0_len : Nat) (in0_cap : Nat) : T :=
  .ite (decide (((in0_len : Nat) : Int) < (6 : Int))) (
    .leaf 0 [(Value.int IntKind.i32 (65533 : Int)), (Value.bool Bool.false)]) (
    .drew <|
    .chk (((0 : Int) ≤ (2 : Int)) ∧ ((2 : Int) < ((in0_len : Nat) : Int))) <|
    .ptr in0 fun (z0 : Addr) =>
    .load (Addr.add z0 2) (.int .u8) fun (i1 : Int) =>
    .chk (((0 : Int) ≤ (3 : Int)) ∧ ((3 : Int) < ((in0_len : Nat) : Int))) <|
    .ptr in0 fun (z2 : Addr) =>
    .load (Addr.add z2 3) (.int .u8) fun (i3 : Int) =>
    .chk (((0 : Int) ≤ (4 : Int)) ∧ ((4 : Int) < ((in0_len : Nat) : Int))) <|
    .ptr in0 fun (z4 : Addr) =>
    .load (Addr.add z4 4) (.int .u8) fun (i5 : Int) =>
    .chk (((0 : Int) ≤ (5 : Int)) ∧ ((5 : Int) < ((in0_len : Nat) : Int))) <|
    .ptr in0 fun (z6 : Addr) =>
    .load (Addr.add z6 5) (.int .u8) fun (i7 : Int) =>
    .here fun (z8 : World) =>
    .call 101 #[(Value.int IntKind.u8 i1)] (.int .i64) fun (i9 : Int) =>
    .grew z8 <|
    .here fun (z10 : World) =>
    .call 101 #[(Value.int IntKind.u8 i3)] (.int .i64) fun (i11 : Int) =>
    .grew z10 <|
    .here fun (z12 : World) =>
    .call 101 #[(Value.int IntKind.u8 i5)] (.int .i64) fun (i13 : Int) =>
    .grew z12 <|
    .call 101 #[(Value.int IntKind.u8 i7)] (.int .i64) fun (i14 : Int) =>
    .cut 1 (.cons .bool .nil) (
      .ite (i9 == (-1 : Int)) (
        .leaf 1 [(Value.bool Bool.true)]) (
        .ite (i11 == (-1 : Int)) (
          .leaf 1 [(Value.bool Bool.true)]) (
          .ite (i13 == (-1 : Int)) (
            .leaf 1 [(Value.bool Bool.true)]) (
            .leaf 1 [(Value.bool (i14 == (-1 : Int)))]))))
      (fun z => jsonparser_decodeSingleUnicodeEscape.t1 i9 i11 i13 i14 z.1))
def jsonparser_decodeSingleUnicodeEscape.h : Hints := ⟨[], [], [(4, [(40, .bool)])], []⟩
noncomputable def jsonparser_decodeSingleUnicodeEscape.c : Code := (Tryd.f93.body).getD .skip
theorem jsonparser_decodeSingleUnicodeEscape.e (in0 : (Option Addr)) (in0_len : Nat) (in0_cap : Nat) : fnT Tryd.prog jsonparser_decodeSingleUnicodeEscape.h Tryd.f93 jsonparser_decodeSingleUnicodeEscape.c [.v (Value.slice in0 in0_len in0_cap)] = jsonparser_decodeSingleUnicodeEscape.t in0 in0_len in0_cap := by kernel_rfl
theorem jsonparser_decodeSingleUnicodeEscape.calls (in0 : (Option Addr)) (in0_len : Nat) (in0_cap : Nat) {w : World} {R : Ending → World → Prop} (hs : sat Tryd.prog (jsonparser_decodeSingleUnicodeEscape.t in0 in0_len in0_cap) (fun l vs w' => l = 0 ∧ R (.returned (retVal vs)) w') w) : Calls Tryd.prog 93 #[(Value.slice in0 in0_len in0_cap)] w R :=
  have h := calls_of_tree (w := w) (R := R) (args := [.v (Value.slice in0 in0_len in0_cap)]) (c := jsonparser_decodeSingleUnicodeEscape.c) Tryd.func93 (show Tryd.f93.body = some jsonparser_decodeSingleUnicodeEscape.c by kernel_rfl) (of_decide_eq_true (by kernel_rfl)) (jsonparser_decodeSingleUnicodeEscape.e in0 in0_len in0_cap) hs
  h

/-! ### pub-tetrapla/pub/jsonparser.isUTF16EncodedRune : function 94 -/
def jsonparser_isUTF16EncodedRune.t (r : Int) : T :=
  .ite (decide ((55296 : Int) ≤ r)) (
    .leaf 0 [(Value.bool (decide (r ≤ (57343 : Int))))]) (
    .leaf 0 [(Value.bool Bool.false)])
def jsonparser_isUTF16EncodedRune.h : Hints := ⟨[], [], [], []⟩
noncomputable def jsonparser_isUTF16EncodedRune.c : Code := (Tryd.f94.body).getD .skip
theorem jsonparser_isUTF16EncodedRune.e (r : Int) : fnT Tryd.prog jsonparser_isUTF16EncodedRune.h Tryd.f94 jsonparser_isUTF16EncodedRune.c [.v (Value.int IntKind.i32 r)] = jsonparser_isUTF16EncodedRune.t r := by kernel_rfl
theorem jsonparser_isUTF16EncodedRune.calls (r : Int) {w : World} {R : Ending → World → Prop} (hs : sat Tryd.prog (jsonparser_isUTF16EncodedRune.t r) (fun l vs w' => l = 0 ∧ R (.returned (retVal vs)) w') w) : Calls Tryd.prog 94 #[(Value.int IntKind.i32 r)] w R :=
  have h := calls_of_tree (w := w) (R := R) (args := [.v (Value.int IntKind.i32 r)]) (c := jsonparser_isUTF16EncodedRune.c) Tryd.func94 (show Tryd.f94.body = some jsonparser_isUTF16EncodedRune.c by kernel_rfl) (of_decide_eq_true (by kernel_rfl)) (jsonparser_isUTF16EncodedRune.e r) hs
  h

/-! ### pub-tetrapla/pub/jsonparser.combineUTF16Surrogates : function 95 -/
def jsonparser_combineUTF16Surrogates.t (high : Int) (low : Int) : T :=
  .chk ((0 : Int) ≤ (10 : Int)) <|
  .leaf 0 [(Value.int IntKind.i32 (IntKind.wrap IntKind.i32 ((IntKind.wrap IntKind.i32 ((65536 : Int) + (IntKind.wrap IntKind.i32 ((IntKind.wrap IntKind.i32 (high - (55296 : Int))) * (1024 : Int))))) + (IntKind.wrap IntKind.i32 (low - (56320 : Int))))))]
def jsonparser_combineUTF16Surrogates.h : Hints := ⟨[], [], [], []⟩
noncomputable def jsonparser_combineUTF16Surrogates.c : Code := (Tryd.f95.body).getD .skip
theorem jsonparser_combineUTF16Surrogates.e (high : Int) (low : Int) : fnT Tryd.prog jsonparser_combineUTF16Surrogates.h Tryd.f95 jsonparser_combineUTF16Surrogates.c [.v (Value.int IntKind.i32 high), .v (Value.int IntKind.i32 low)] = jsonparser_combineUTF16Surrogates.t high low := by kernel_rfl
theorem jsonparser_combineUTF16Surrogates.calls (high : Int) (low : Int) {w : World} {R : Ending → World → Prop} (hs : sat Tryd.prog (jsonparser_combineUTF16Surrogates.t high low) (fun l vs w' => l = 0 ∧ R (.returned (retVal vs)) w') w) : Calls Tryd.prog 95 #[(Value.int IntKind.i32 high), (Value.int IntKind.i32 low)] w R :=
  have h := calls_of_tree (w := w) (R := R) (args := [.v (Value.int IntKind.i32 high), .v (Value.int IntKind.i32 low)]) (c := jsonparser_combineUTF16Surrogates.c) Tryd.func95 (show Tryd.f95.body = some jsonparser_combineUTF16Surrogates.c by kernel_rfl) (of_decide_eq_true (by kernel_rfl)) (jsonparser_combineUTF16Surrogates.e high low) hs
  h

/-! ### pub-tetrapla/pub/jsonparser.h2I : function 101 -/
def jsonparser_h2I.t2 (c0 : Int) (b1 : Bool) : T :=
  .ite b1 (
    .leaf 0 [(Value.int IntKind.i64 (IntKind.wrap IntKind.i64 ((IntKind.wrap IntKind.i64 (IntKind.wrap IntKind.u8 (c0 - (65 : Int)))) + (10 : Int))))]) (
    .ite (decide (c0 ≥ (97 : Int))) (
      .ite (decide (c0 ≤ (102 : Int))) (
        .leaf 0 [(Value.int IntKind.i64 (IntKind.wrap IntKind.i64 ((IntKind.wrap IntKind.i64 (IntKind.wrap IntKind.u8 (c0 - (97 : Int)))) + (10 : Int))))]) (
        .leaf 0 [(Value.int IntKind.i64 (-1 : Int))])) (
      .leaf 0 [(Value.int IntKind.i64 (-1 : Int))]))
def jsonparser_h2I.t1 (c0 : Int) (b0 : Bool) : T :=
  .ite b0 (
    .leaf 0 [(Value.int IntKind.i64 (IntKind.wrap IntKind.i64 (IntKind.wrap IntKind.u8 (c0 - (48 : Int)))))]) (
    .cut 1 (.cons .bool .nil) (
      .ite (decide (c0 ≥ (65 : Int))) (
        .leaf 1 [(Value.bool (decide (c0 ≤ (70 : Int))))]) (
        .leaf 1 [(Value.bool Bool.false)]))
      (fun z => jsonparser_h2I.t2 c0 z.1))
def jsonparser_h2I.t (c0 : Int) : T :=
  .cut 1 (.cons .bool .nil) (
    .ite (decide (c0 ≥ (48 : Int))) (
      .leaf 1 [(Value.bool (decide (c0 ≤ (57 : Int))))]) (
      .leaf 1 [(Value.bool Bool.false)]))
    (fun z => jsonparser_h2I.t1 c0 z.1)
def jsonparser_h2I.h : Hints := ⟨[], [], [(1, [(8, .bool)]), (3, [(17, .bool)])], []⟩
noncomputable def jsonparser_h2I.c : Code := (Tryd.f101.body).getD .skip
theorem jsonparser_h2I.e (c0 : Int) : fnT Tryd.prog jsonparser_h2I.h Tryd.f101 jsonparser_h2I.c [.v (Value.int IntKind.u8 c0)] = jsonparser_h2I.t c0 := by kernel_rfl
theorem jsonparser_h2I.calls (c0 : Int) {w : World} {R : Ending → World → Prop} (hs : sat Tryd.prog (jsonparser_h2I.t c0) (fun l vs w' => l = 0 ∧ R (.returned (retVal vs)) w') w) : Calls Tryd.prog 101 #[(Value.int IntKind.u8 c0)] w R :=
  have h := calls_of_tree (w := w) (R := R) (args := [.v (Value.int IntKind.u8 c0)]) (c := jsonparser_h2I.c) Tryd.func101 (show Tryd.f101.body = some jsonparser_h2I.c by kernel_rfl) (of_decide_eq_true (by kernel_rfl)) (jsonparser_h2I.e c0) hs
  h

/-! ### (encoding/binary.littleEndian).Uint64 : function 78 -/
def binary_littleEndian_Uint64.t (b : (Option Addr)) (b_len : Nat) (b_cap : Nat) : T :=
  .alloc (Obj.cells #[] 126 (0, 0)) fun (z0 : Addr) =>
  .chk (((0 : Int) ≤ (7 : Int)) ∧ ((7 : Int) < ((b_len : Nat) : Int))) <|
  .ptr b fun (z1 : Addr) =>
  .load (Addr.add z1 7) (.int .u8) fun (i2 : Int) =>
  .drew <|
  .chk (((0 : Int) ≤ (0 : Int)) ∧ ((0 : Int) < ((b_len : Nat) : Int))) <|
  .ptr b fun (z3 : Addr) =>
  .load (Addr.add z3 0) (.int .u8) fun (i4 : Int) =>
  .chk (((0 : Int) ≤ (1 : Int)) ∧ ((1 : Int) < ((b_len : Nat) : Int))) <|
  .ptr b fun (z5 : Addr) =>
  .load (Addr.add z5 1) (.int .u8) fun (i6 : Int) =>
  .chk ((0 : Int) ≤ (8 : Int)) <|
  .chk (((0 : Int) ≤ (2 : Int)) ∧ ((2 : Int) < ((b_len : Nat) : Int))) <|
  .ptr b fun (z7 : Addr) =>
  .load (Addr.add z7 2) (.int .u8) fun (i8 : Int) =>
  .chk ((0 : Int) ≤ (16 : Int)) <|
  .chk (((0 : Int) ≤ (3 : Int)) ∧ ((3 : Int) < ((b_len : Nat) : Int))) <|
  .ptr b fun (z9 : Addr) =>
  .load (Addr.add z9 3) (.int .u8) fun (i10 : Int) =>
  .chk ((0 : Int) ≤ (24 : Int)) <|
  .chk (((0 : Int) ≤ (4 : Int)) ∧ ((4 : Int) < ((b_len : Nat) : Int))) <|
  .ptr b fun (z11 : Addr) =>
  .load (Addr.add z11 4) (.int .u8) fun (i12 : Int) =>
  .chk ((0 : Int) ≤ (32 : Int)) <|
  .chk (((0 : Int) ≤ (5 : Int)) ∧ ((5 : Int) < ((b_len : Nat) : Int))) <|
  .ptr b fun (z13 : Addr) =>
  .load (Addr.add z13 5) (.int .u8) fun (i14 : Int) =>
  .chk ((0 : Int) ≤ (40 : Int)) <|
  .chk (((0 : Int) ≤ (6 : Int)) ∧ ((6 : Int) < ((b_len : Nat) : Int))) <|
  .ptr b fun (z15 : Addr) =>
  .load (Addr.add z15 6) (.int .u8) fun (i16 : Int) =>
  .chk ((0 : Int) ≤ (48 : Int)) <|
  .chk (((0 : Int) ≤ (7 : Int)) ∧ ((7 : Int) < ((b_len : Nat) : Int))) <|
  .ptr b fun (z17 : Addr) =>
  .load (Addr.add z17 7) (.int .u8) fun (i18 : Int) =>
  .chk ((0 : Int) ≤ (56 : Int)) <|
  .leaf 0 [(Value.int IntKind.u64 (IntKind.wrap IntKind.u64 (((BitVec.toNat ((BitVec.ofInt 64 (IntKind.wrap IntKind.u64 (((BitVec.toNat ((BitVec.ofInt 64 (IntKind.wrap IntKind.u64 (((BitVec.toNat ((BitVec.ofInt 64 (IntKind.wrap IntKind.u64 (((BitVec.toNat ((BitVec.ofInt 64 (IntKind.wrap IntKind.u64 (((BitVec.toNat ((BitVec.ofInt 64 (IntKind.wrap IntKind.u64 (((BitVec.toNat ((BitVec.ofInt 64 (IntKind.wrap IntKind.u64 (((BitVec.toNat ((BitVec.ofInt 64 (IntKind.wrap IntKind.u64 i4)) ||| (BitVec.ofInt 64 (IntKind.wrap IntKind.u64 ((IntKind.wrap IntKind.u64 i6) * (256 : Int)))))) : Nat) : Int))) ||| (BitVec.ofInt 64 (IntKind.wrap IntKind.u64 ((IntKind.wrap IntKind.u64 i8) * (65536 : Int)))))) : Nat) : Int))) ||| (BitVec.ofInt 64 (IntKind.wrap IntKind.u64 ((IntKind.wrap IntKind.u64 i10) * (16777216 : Int)))))) : Nat) : Int))) ||| (BitVec.ofInt 64 (IntKind.wrap IntKind.u64 ((IntKind.wrap IntKind.u64 i12) * (4294967296 : Int)))))) : Nat) : Int))) ||| (BitVec.ofInt 64 (IntKind.wrap IntKind.u64 ((IntKind.wrap IntKind.u64 i14) * (1099511627776 : Int)))))) : Nat) : Int))) ||| (BitVec.ofInt 64 (IntKind.wrap IntKind.u64 ((IntKind.wrap IntKind.u64 i16) * (281474976710656 : Int)))))) : Nat) : Int))) ||| (BitVec.ofInt 64 (IntKind.wrap IntKind.u64 ((IntKind.wrap IntKind.u64 i18) * (72057594037927936 : Int)))))) : Nat) : Int)))]
def binary_littleEndian_Uint64.h : Hints := ⟨[], [], [], []⟩
noncomputable def binary_littleEndian_Uint64.c : Code := (Tryd.f78.body).getD .skip
theorem binary_littleEndian_Uint64.e (b : (Option Addr)) (b_len : Nat) (b_cap : Nat) : fnT Tryd.prog binary_littleEndian_Uint64.h Tryd.f78 binary_littleEndian_Uint64.c [.v (Value.agg #[]), .v (Value.slice b b_len b_cap)] = binary_littleEndian_Uint64.t b b_len b_cap := by kernel_rfl
theorem binary_littleEndian_Uint64.calls (b : (Option Addr)) (b_len : Nat) (b_cap : Nat) {w : World} {R : Ending → World → Prop} (hs : sat Tryd.prog (binary_littleEndian_Uint64.t b b_len b_cap) (fun l vs w' => l = 0 ∧ R (.returned (retVal vs)) w') w) : Calls Tryd.prog 78 #[(Value.agg #[]), (Value.slice b b_len b_cap)] w R :=
  have h := calls_of_tree (w := w) (R := R) (args := [.v (Value.agg #[]), .v (Value.slice b b_len b_cap)]) (c := binary_littleEndian_Uint64.c) Tryd.func78 (show Tryd.f78.body = some binary_littleEndian_Uint64.c by kernel_rfl) (of_decide_eq_true (by kernel_rfl)) (binary_littleEndian_Uint64.e b b_len b_cap) hs
  h

end Go.Proofs.YtlfebfkphgelfaaDoor.Tr
