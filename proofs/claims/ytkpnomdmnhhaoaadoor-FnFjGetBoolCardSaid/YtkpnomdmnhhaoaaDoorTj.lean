/- Trees of loaded functions, printed by wip/tools/rxprint (a program of this repo): each is what 'exec' comes to, held by the kernel. No statement of the set is proved here. -/
import Derived.Test.YtkpnomdmnhhaoaaDoorRz
import Derived.Test.YtkpnomdmnhhaoaaDoorProg
import Derived.KernelRfl
namespace Go.Proofs.YtkpnomdmnhhaoaaDoor.Tr
open Go Go.Proofs Go.Proofs.YtkpnomdmnhhaoaaDoor.Rx
set_option linter.unusedVariables false
set_option maxRecDepth 100000
/-! ### (*pub-tetrapla/pub/fastjson.Value).Get : function 40 -/
def fastjson_Value_Get.t1 (keys : (Option Addr)) (keys_len : Nat) (i0 : Int) (p1 : (Option Addr)) : T :=
  .ite (decide (i0 < ((keys_len : Nat) : Int))) (
    .chk (((0 : Int) ≤ i0) ∧ (i0 < ((keys_len : Nat) : Int))) <|
    .ptr keys fun (z2 : Addr) =>
    .load (Addr.add z2 ((Int.toNat i0) * 1)) .str fun (s3 : ByteArray) =>
    .ptr p1 fun (z4 : Addr) =>
    .load (Addr.add z4 4) (.int .i64) fun (i5 : Int) =>
    .ite (i5 == (1 : Int)) (
      .ptr p1 fun (z6 : Addr) =>
      .call 54 #[(Value.pointer (some (Addr.add z6 0))), (Value.string s3)] .ptr fun (p7 : (Option Addr)) =>
      .ite (Option.isNone p7) (
        .leaf 0 [(Value.pointer none)]) (
        .leaf 1 [(Value.int IntKind.i64 (IntKind.wrap IntKind.i64 (i0 + (1 : Int)))), (Value.pointer p7)])) (
      .ptr p1 fun (z8 : Addr) =>
      .load (Addr.add z8 4) (.int .i64) fun (i9 : Int) =>
      .ite (i9 == (2 : Int)) (
        .call 55 #[(Value.string s3)] (.tuple (.cons (.int .i64) (.cons .any .nil))) fun (z10 : (Int × (Value × PUnit))) =>
        .chk ((isIface ((z10).2).1) = Bool.true) <|
        .ite (!(isNil ((z10).2).1)) (
          .leaf 0 [(Value.pointer none)]) (
          .ite (decide ((z10).1 < (0 : Int))) (
            .leaf 0 [(Value.pointer none)]) (
            .ptr p1 fun (z11 : Addr) =>
            .load (Addr.add z11 2) .slice fun (z12 : ((Option Addr) × (Nat × Nat))) =>
            .ite (decide ((z10).1 ≥ ((((z12).2).1 : Nat) : Int))) (
              .leaf 0 [(Value.pointer none)]) (
              .ptr p1 fun (z13 : Addr) =>
              .load (Addr.add z13 2) .slice fun (z14 : ((Option Addr) × (Nat × Nat))) =>
              .chk (((0 : Int) ≤ (z10).1) ∧ ((z10).1 < ((((z14).2).1 : Nat) : Int))) <|
              .ptr (z14).1 fun (z15 : Addr) =>
              .load (Addr.add z15 ((Int.toNat (z10).1) * 1)) .ptr fun (p16 : (Option Addr)) =>
              .leaf 1 [(Value.int IntKind.i64 (IntKind.wrap IntKind.i64 (i0 + (1 : Int)))), (Value.pointer p16)])))) (
        .leaf 0 [(Value.pointer none)]))) (
    .leaf 0 [(Value.pointer p1)])
def fastjson_Value_Get.t (v : (Option Addr)) (keys : (Option Addr)) (keys_len : Nat) (keys_cap : Nat) : T :=
  .ite (Option.isNone v) (
    .leaf 0 [(Value.pointer none)]) (
    .loop 1 (.cons (.int .i64) (.cons .ptr .nil)) [(Value.int IntKind.i64 (0 : Int)), (Value.pointer v)]
      (fun z => fastjson_Value_Get.t1 keys keys_len z.1 z.2.1))
def fastjson_Value_Get.h : Hints := ⟨[], [], [], [(4, [(13, (.int .i64)), (0, .ptr)])]⟩
noncomputable def fastjson_Value_Get.c : Code := (Tryd.f40.body).getD .skip
theorem fastjson_Value_Get.e (v : (Option Addr)) (keys : (Option Addr)) (keys_len : Nat) (keys_cap : Nat) : fnT Tryd.prog fastjson_Value_Get.h Tryd.f40 fastjson_Value_Get.c [.v (Value.pointer v), .v (Value.slice keys keys_len keys_cap)] = fastjson_Value_Get.t v keys keys_len keys_cap := by kernel_rfl
theorem fastjson_Value_Get.calls (v : (Option Addr)) (keys : (Option Addr)) (keys_len : Nat) (keys_cap : Nat) {w : World} {R : Ending → World → Prop} (hs : sat Tryd.prog (fastjson_Value_Get.t v keys keys_len keys_cap) (fun l vs w' => l = 0 ∧ R (.returned (retVal vs)) w') w) : Calls Tryd.prog 40 #[(Value.pointer v), (Value.slice keys keys_len keys_cap)] w R :=
  have h := calls_of_tree (w := w) (R := R) (args := [.v (Value.pointer v), .v (Value.slice keys keys_len keys_cap)]) (c := fastjson_Value_Get.c) Tryd.func40 (show Tryd.f40.body = some fastjson_Value_Get.c by kernel_rfl) (of_decide_eq_true (by kernel_rfl)) (fastjson_Value_Get.e v keys keys_len keys_cap) hs
  h

/-! ### (*pub-tetrapla/pub/fastjson.Object).Get : function 54 -/
def fastjson_Object_Get.t2 (q1 : ByteArray) (z5 : ((Option Addr) × (Nat × Nat))) (i6 : Int) : T :=
  .ite (decide (i6 < ((((z5).2).1 : Nat) : Int))) (
    .chk (((0 : Int) ≤ i6) ∧ (i6 < ((((z5).2).1 : Nat) : Int))) <|
    .ptr (z5).1 fun (z7 : Addr) =>
    .load (Addr.add (Addr.add z7 ((Int.toNat i6) * 2)) 0) .str fun (s8 : ByteArray) =>
    .ite (strEq s8 q1) (
      .load (Addr.add (Addr.add z7 ((Int.toNat i6) * 2)) 1) .ptr fun (p9 : (Option Addr)) =>
      .leaf 0 [(Value.pointer p9)]) (
      .leaf 2 [(Value.int IntKind.i64 (IntKind.wrap IntKind.i64 (i6 + (1 : Int))))])) (
    .leaf 1 [])
def fastjson_Object_Get.t4 (q1 : ByteArray) (z11 : ((Option Addr) × (Nat × Nat))) (i12 : Int) : T :=
  .ite (decide (i12 < ((((z11).2).1 : Nat) : Int))) (
    .chk (((0 : Int) ≤ i12) ∧ (i12 < ((((z11).2).1 : Nat) : Int))) <|
    .ptr (z11).1 fun (z13 : Addr) =>
    .load (Addr.add (Addr.add z13 ((Int.toNat i12) * 2)) 0) .str fun (s14 : ByteArray) =>
    .ite (strEq s14 q1) (
      .load (Addr.add (Addr.add z13 ((Int.toNat i12) * 2)) 1) .ptr fun (p15 : (Option Addr)) =>
      .leaf 0 [(Value.pointer p15)]) (
      .leaf 1 [(Value.int IntKind.i64 (IntKind.wrap IntKind.i64 (i12 + (1 : Int))))])) (
    .leaf 0 [(Value.pointer none)])
def fastjson_Object_Get.t3 (q0 : (Option Addr)) (q1 : ByteArray) : T :=
  .call 72 #[(Value.pointer q0)] (.tuple .nil) fun _ =>
  .ptr q0 fun (z10 : Addr) =>
  .load (Addr.add z10 0) .slice fun (z11 : ((Option Addr) × (Nat × Nat))) =>
  .loop 1 (.cons (.int .i64) .nil) [(Value.int IntKind.i64 (0 : Int))]
    (fun z => fastjson_Object_Get.t4 q1 z11 z.1)
def fastjson_Object_Get.t1 (q0 : (Option Addr)) (q1 : ByteArray) (b3 : Bool) : T :=
  .cut 1 .nil (
    .ite b3 (
      .ptr q0 fun (z4 : Addr) =>
      .load (Addr.add z4 0) .slice fun (z5 : ((Option Addr) × (Nat × Nat))) =>
      .loop 2 (.cons (.int .i64) .nil) [(Value.int IntKind.i64 (0 : Int))]
        (fun z => fastjson_Object_Get.t2 q1 z5 z.1)) (
      .leaf 1 []))
    (fun _ => fastjson_Object_Get.t3 q0 q1)
def fastjson_Object_Get.t (q0 : (Option Addr)) (q1 : ByteArray) : T :=
  .cut 1 (.cons .bool .nil) (
    .ptr q0 fun (z0 : Addr) =>
    .load (Addr.add z0 1) .bool fun (b1 : Bool) =>
    .ite (!b1) (
      .call 68 #[(Value.string q1), (Value.int IntKind.u8 (92 : Int))] (.int .i64) fun (i2 : Int) =>
      .leaf 1 [(Value.bool (decide (i2 < (0 : Int))))]) (
      .leaf 1 [(Value.bool Bool.false)]))
    (fun z => fastjson_Object_Get.t1 q0 q1 z.1)
def fastjson_Object_Get.h : Hints := ⟨[(20, [])], [], [(1, [(20, .bool)])], [(4, [(27, (.int .i64))]), (13, [(52, (.int .i64))])]⟩
noncomputable def fastjson_Object_Get.c : Code := (Tryd.f54.body).getD .skip
theorem fastjson_Object_Get.e (q0 : (Option Addr)) (q1 : ByteArray) : fnT Tryd.prog fastjson_Object_Get.h Tryd.f54 fastjson_Object_Get.c [.v (Value.pointer q0), .v (Value.string q1)] = fastjson_Object_Get.t q0 q1 := by kernel_rfl
theorem fastjson_Object_Get.calls (q0 : (Option Addr)) (q1 : ByteArray) {w : World} {R : Ending → World → Prop} (hs : sat Tryd.prog (fastjson_Object_Get.t q0 q1) (fun l vs w' => l = 0 ∧ R (.returned (retVal vs)) w') w) : Calls Tryd.prog 54 #[(Value.pointer q0), (Value.string q1)] w R :=
  have h := calls_of_tree (w := w) (R := R) (args := [.v (Value.pointer q0), .v (Value.string q1)]) (c := fastjson_Object_Get.c) Tryd.func54 (show Tryd.f54.body = some fastjson_Object_Get.c by kernel_rfl) (of_decide_eq_true (by kernel_rfl)) (fastjson_Object_Get.e q0 q1) hs
  h

/-! ### (*pub-tetrapla/pub/fastjson.Object).unescapeKeys : function 72 -/
def fastjson_Object_unescapeKeys.t1 (o : (Option Addr)) (z3 : ((Option Addr) × (Nat × Nat))) (i4 : Int) : T :=
  .ite (decide (i4 < ((((z3).2).1 : Nat) : Int))) (
    .chk (((0 : Int) ≤ i4) ∧ (i4 < ((((z3).2).1 : Nat) : Int))) <|
    .ptr (z3).1 fun (z5 : Addr) =>
    .load (Addr.add (Addr.add z5 ((Int.toNat i4) * 2)) 0) .str fun (s6 : ByteArray) =>
    .call 53 #[(Value.string s6)] .str fun (s7 : ByteArray) =>
    .store (Addr.add (Addr.add z5 ((Int.toNat i4) * 2)) 0) (Value.string s7) <|
    .leaf 1 [(Value.int IntKind.i64 (IntKind.wrap IntKind.i64 (i4 + (1 : Int))))]) (
    .ptr o fun (z8 : Addr) =>
    .store (Addr.add z8 1) (Value.bool Bool.true) <|
    .leaf 0 [])
def fastjson_Object_unescapeKeys.t (o : (Option Addr)) : T :=
  .ptr o fun (z0 : Addr) =>
  .load (Addr.add z0 1) .bool fun (b1 : Bool) =>
  .ite b1 (
    .leaf 0 []) (
    .ptr o fun (z2 : Addr) =>
    .load (Addr.add z2 0) .slice fun (z3 : ((Option Addr) × (Nat × Nat))) =>
    .loop 1 (.cons (.int .i64) .nil) [(Value.int IntKind.i64 (0 : Int))]
      (fun z => fastjson_Object_unescapeKeys.t1 o z3 z.1))
def fastjson_Object_unescapeKeys.h : Hints := ⟨[], [], [], [(3, [(15, (.int .i64))])]⟩
noncomputable def fastjson_Object_unescapeKeys.c : Code := (Tryd.f72.body).getD .skip
theorem fastjson_Object_unescapeKeys.e (o : (Option Addr)) : fnT Tryd.prog fastjson_Object_unescapeKeys.h Tryd.f72 fastjson_Object_unescapeKeys.c [.v (Value.pointer o)] = fastjson_Object_unescapeKeys.t o := by kernel_rfl
theorem fastjson_Object_unescapeKeys.calls (o : (Option Addr)) {w : World} {R : Ending → World → Prop} (hs : sat Tryd.prog (fastjson_Object_unescapeKeys.t o) (fun l vs w' => l = 0 ∧ R (.returned (retVal vs)) w') w) : Calls Tryd.prog 72 #[(Value.pointer o)] w R :=
  have h := calls_of_tree (w := w) (R := R) (args := [.v (Value.pointer o)]) (c := fastjson_Object_unescapeKeys.c) Tryd.func72 (show Tryd.f72.body = some fastjson_Object_unescapeKeys.c by kernel_rfl) (of_decide_eq_true (by kernel_rfl)) (fastjson_Object_unescapeKeys.e o) hs
  h

/-! ### (*pub-tetrapla/pub/fastjson.Value).GetBool : function 21 -/
def fastjson_Value_GetBool.t (v : (Option Addr)) (keys : (Option Addr)) (keys_len : Nat) (keys_cap : Nat) : T :=
  .call 40 #[(Value.pointer v), (Value.slice keys keys_len keys_cap)] .ptr fun (p0 : (Option Addr)) =>
  .ite (!(Option.isNone p0)) (
    .ptr p0 fun (z1 : Addr) =>
    .load (Addr.add z1 4) (.int .i64) fun (i2 : Int) =>
    .ite (i2 == (5 : Int)) (
      .leaf 0 [(Value.bool Bool.true)]) (
      .leaf 0 [(Value.bool Bool.false)])) (
    .leaf 0 [(Value.bool Bool.false)])
def fastjson_Value_GetBool.h : Hints := ⟨[], [], [], []⟩
noncomputable def fastjson_Value_GetBool.c : Code := (Tryd.f21.body).getD .skip
theorem fastjson_Value_GetBool.e (v : (Option Addr)) (keys : (Option Addr)) (keys_len : Nat) (keys_cap : Nat) : fnT Tryd.prog fastjson_Value_GetBool.h Tryd.f21 fastjson_Value_GetBool.c [.v (Value.pointer v), .v (Value.slice keys keys_len keys_cap)] = fastjson_Value_GetBool.t v keys keys_len keys_cap := by kernel_rfl
theorem fastjson_Value_GetBool.calls (v : (Option Addr)) (keys : (Option Addr)) (keys_len : Nat) (keys_cap : Nat) {w : World} {R : Ending → World → Prop} (hs : sat Tryd.prog (fastjson_Value_GetBool.t v keys keys_len keys_cap) (fun l vs w' => l = 0 ∧ R (.returned (retVal vs)) w') w) : Calls Tryd.prog 21 #[(Value.pointer v), (Value.slice keys keys_len keys_cap)] w R :=
  have h := calls_of_tree (w := w) (R := R) (args := [.v (Value.pointer v), .v (Value.slice keys keys_len keys_cap)]) (c := fastjson_Value_GetBool.c) Tryd.func21 (show Tryd.f21.body = some fastjson_Value_GetBool.c by kernel_rfl) (of_decide_eq_true (by kernel_rfl)) (fastjson_Value_GetBool.e v keys keys_len keys_cap) hs
  h

/-! ### pub-tetrapla/laws.fjLook : function 9 -/
def laws_fjLook.t1 (keys : (Option Addr)) (keys_len : Nat) (keys_cap : Nat) (z0 : Addr) (z2 : Addr) (b6 : Bool) : T :=
  .ite b6 (
    .effU (Instr.storeAt 25 (Value.pointer (some z0)) (Value.agg #[(Value.int IntKind.i64 (0 : Int)), (Value.string (ByteArray.mk #[])), (Value.slice none 0 0), (Value.slice none 0 0)])) <|
    .effS (Instr.loadAt 25 (Value.pointer (some z0))) (.agg (.cons (.int .i64) (.cons .str (.cons .slice (.cons .slice .nil))))) fun (z7 : (Int × (ByteArray × (((Option Addr) × (Nat × Nat)) × (((Option Addr) × (Nat × Nat)) × PUnit))))) =>
    .leaf 0 [(Value.agg #[(Value.int IntKind.i64 (z7).1), (Value.string ((z7).2).1), (Value.slice ((((z7).2).2).1).1 (((((z7).2).2).1).2).1 (((((z7).2).2).1).2).2), (Value.slice (((((z7).2).2).2).1).1 ((((((z7).2).2).2).1).2).1 ((((((z7).2).2).2).1).2).2)]), (Value.bool Bool.false), (Value.bool Bool.false)]) (
    .eff (Instr.loadAt 25 (Value.pointer (some z2))) (.agg (.cons (.int .i64) (.cons .str (.cons .slice (.cons .slice .nil))))) fun (z8 : (Int × (ByteArray × (((Option Addr) × (Nat × Nat)) × (((Option Addr) × (Nat × Nat)) × PUnit))))) =>
    .call 20 #[(Value.agg #[(Value.int IntKind.i64 (z8).1), (Value.string ((z8).2).1), (Value.slice ((((z8).2).2).1).1 (((((z8).2).2).1).2).1 (((((z8).2).2).1).2).2), (Value.slice (((((z8).2).2).2).1).1 ((((((z8).2).2).2).1).2).1 ((((((z8).2).2).2).1).2).2)]), (Value.slice keys keys_len keys_cap), (Value.bool Bool.false)] (.tuple (.cons (.agg (.cons (.int .i64) (.cons .str (.cons .slice (.cons .slice .nil))))) (.cons .bool .nil))) fun (z9 : ((Int × (ByteArray × (((Option Addr) × (Nat × Nat)) × (((Option Addr) × (Nat × Nat)) × PUnit)))) × (Bool × PUnit))) =>
    .alloc (Obj.cells #[(Value.int IntKind.i64 (0 : Int)), (Value.string (ByteArray.mk #[])), (Value.slice none 0 0), (Value.slice none 0 0)] 25 (0, 0)) fun (z10 : Addr) =>
    .effU (Instr.storeAt 25 (Value.pointer (some z10)) (Value.agg #[(Value.int IntKind.i64 ((z9).1).1), (Value.string (((z9).1).2).1), (Value.slice (((((z9).1).2).2).1).1 ((((((z9).1).2).2).1).2).1 ((((((z9).1).2).2).1).2).2), (Value.slice ((((((z9).1).2).2).2).1).1 (((((((z9).1).2).2).2).1).2).1 (((((((z9).1).2).2).2).1).2).2)])) <|
    .eff (Instr.loadAt 25 (Value.pointer (some z10))) (.agg (.cons (.int .i64) (.cons .str (.cons .slice (.cons .slice .nil))))) fun (z11 : (Int × (ByteArray × (((Option Addr) × (Nat × Nat)) × (((Option Addr) × (Nat × Nat)) × PUnit))))) =>
    .effU (Instr.storeAt 25 (Value.pointer (some z0)) (Value.agg #[(Value.int IntKind.i64 (z11).1), (Value.string ((z11).2).1), (Value.slice ((((z11).2).2).1).1 (((((z11).2).2).1).2).1 (((((z11).2).2).1).2).2), (Value.slice (((((z11).2).2).2).1).1 ((((((z11).2).2).2).1).2).1 ((((((z11).2).2).2).1).2).2)])) <|
    .effS (Instr.loadAt 25 (Value.pointer (some z0))) (.agg (.cons (.int .i64) (.cons .str (.cons .slice (.cons .slice .nil))))) fun (z12 : (Int × (ByteArray × (((Option Addr) × (Nat × Nat)) × (((Option Addr) × (Nat × Nat)) × PUnit))))) =>
    .leaf 0 [(Value.agg #[(Value.int IntKind.i64 (z12).1), (Value.string ((z12).2).1), (Value.slice ((((z12).2).2).1).1 (((((z12).2).2).1).2).1 (((((z12).2).2).1).2).2), (Value.slice (((((z12).2).2).2).1).1 ((((((z12).2).2).2).1).2).1 ((((((z12).2).2).2).1).2).2)]), (Value.bool ((z9).2).1), (Value.bool Bool.true)])
def laws_fjLook.t (text : ByteArray) (keys : (Option Addr)) (keys_len : Nat) (keys_cap : Nat) : T :=
  .alloc (Obj.cells #[(Value.int IntKind.i64 (0 : Int)), (Value.string (ByteArray.mk #[])), (Value.slice none 0 0), (Value.slice none 0 0)] 25 (0, 0)) fun (z0 : Addr) =>
  .call 5 #[(Value.string text)] (.tuple (.cons (.agg (.cons (.int .i64) (.cons .str (.cons .slice (.cons .slice .nil))))) (.cons .bool .nil))) fun (z1 : ((Int × (ByteArray × (((Option Addr) × (Nat × Nat)) × (((Option Addr) × (Nat × Nat)) × PUnit)))) × (Bool × PUnit))) =>
  .alloc (Obj.cells #[(Value.int IntKind.i64 (0 : Int)), (Value.string (ByteArray.mk #[])), (Value.slice none 0 0), (Value.slice none 0 0)] 25 (0, 0)) fun (z2 : Addr) =>
  .effU (Instr.storeAt 25 (Value.pointer (some z2)) (Value.agg #[(Value.int IntKind.i64 ((z1).1).1), (Value.string (((z1).1).2).1), (Value.slice (((((z1).1).2).2).1).1 ((((((z1).1).2).2).1).2).1 ((((((z1).1).2).2).1).2).2), (Value.slice ((((((z1).1).2).2).2).1).1 (((((((z1).1).2).2).2).1).2).1 (((((((z1).1).2).2).2).1).2).2)])) <|
  .cut 1 (.cons .bool .nil) (
    .ite (!((z1).2).1) (
      .leaf 1 [(Value.bool Bool.true)]) (
      .call 18 #[(Value.slice keys keys_len keys_cap)] .bool fun (b3 : Bool) =>
      .ite (!b3) (
        .leaf 1 [(Value.bool Bool.true)]) (
        .eff (Instr.loadAt 25 (Value.pointer (some z2))) (.agg (.cons (.int .i64) (.cons .str (.cons .slice (.cons .slice .nil))))) fun (z4 : (Int × (ByteArray × (((Option Addr) × (Nat × Nat)) × (((Option Addr) × (Nat × Nat)) × PUnit))))) =>
        .call 19 #[(Value.agg #[(Value.int IntKind.i64 (z4).1), (Value.string ((z4).2).1), (Value.slice ((((z4).2).2).1).1 (((((z4).2).2).1).2).1 (((((z4).2).2).1).2).2), (Value.slice (((((z4).2).2).2).1).1 ((((((z4).2).2).2).1).2).1 ((((((z4).2).2).2).1).2).2)])] .bool fun (b5 : Bool) =>
        .leaf 1 [(Value.bool (!b5))])))
    (fun z => laws_fjLook.t1 keys keys_len keys_cap z0 z2 z.1)
def laws_fjLook.h : Hints := ⟨[], [], [(2, [(27, .bool)])], []⟩
noncomputable def laws_fjLook.c : Code := (Tryd.f9.body).getD .skip
theorem laws_fjLook.e (text : ByteArray) (keys : (Option Addr)) (keys_len : Nat) (keys_cap : Nat) : fnT Tryd.prog laws_fjLook.h Tryd.f9 laws_fjLook.c [.v (Value.string text), .v (Value.slice keys keys_len keys_cap)] = laws_fjLook.t text keys keys_len keys_cap := by kernel_rfl
theorem laws_fjLook.calls (text : ByteArray) (keys : (Option Addr)) (keys_len : Nat) (keys_cap : Nat) {w : World} {R : Ending → World → Prop} (hs : sat Tryd.prog (laws_fjLook.t text keys keys_len keys_cap) (fun l vs w' => l = 0 ∧ R (.returned (retVal vs)) w') w) : Calls Tryd.prog 9 #[(Value.string text), (Value.slice keys keys_len keys_cap)] w R :=
  have h := calls_of_tree (w := w) (R := R) (args := [.v (Value.string text), .v (Value.slice keys keys_len keys_cap)]) (c := laws_fjLook.c) Tryd.func9 (show Tryd.f9.body = some laws_fjLook.c by kernel_rfl) (of_decide_eq_true (by kernel_rfl)) (laws_fjLook.e text keys keys_len keys_cap) hs
  h

/-! ### pub-tetrapla/laws.fjKeys : function 18 -/
def laws_fjKeys.t1 (keys : (Option Addr)) (keys_len : Nat) (i0 : Int) : T :=
  .ite (decide (i0 < ((keys_len : Nat) : Int))) (
    .chk (((0 : Int) ≤ i0) ∧ (i0 < ((keys_len : Nat) : Int))) <|
    .ptr keys fun (z1 : Addr) =>
    .load (Addr.add z1 ((Int.toNat i0) * 1)) .str fun (s2 : ByteArray) =>
    .ite (decide ((((ByteArray.size s2) : Nat) : Int) > (200 : Int))) (
      .leaf 0 [(Value.bool Bool.false)]) (
      .chk (((0 : Int) ≤ i0) ∧ (i0 < ((keys_len : Nat) : Int))) <|
      .ptr keys fun (z3 : Addr) =>
      .load (Addr.add z3 ((Int.toNat i0) * 1)) .str fun (s4 : ByteArray) =>
      .call 11 #[(Value.string s4)] .bool fun (b5 : Bool) =>
      .ite (!b5) (
        .leaf 0 [(Value.bool Bool.false)]) (
        .chk (((0 : Int) ≤ i0) ∧ (i0 < ((keys_len : Nat) : Int))) <|
        .ptr keys fun (z6 : Addr) =>
        .load (Addr.add z6 ((Int.toNat i0) * 1)) .str fun (s7 : ByteArray) =>
        .call 35 #[(Value.string s7)] .bool fun (b8 : Bool) =>
        .ite (!b8) (
          .leaf 0 [(Value.bool Bool.false)]) (
          .leaf 1 [(Value.int IntKind.i64 (IntKind.wrap IntKind.i64 (i0 + (1 : Int))))])))) (
    .leaf 0 [(Value.bool Bool.true)])
def laws_fjKeys.t (keys : (Option Addr)) (keys_len : Nat) (keys_cap : Nat) : T :=
  .ite (decide (((keys_len : Nat) : Int) > (20 : Int))) (
    .leaf 0 [(Value.bool Bool.false)]) (
    .loop 1 (.cons (.int .i64) .nil) [(Value.int IntKind.i64 (0 : Int))]
      (fun z => laws_fjKeys.t1 keys keys_len z.1))
def laws_fjKeys.h : Hints := ⟨[], [], [], [(4, [(3, (.int .i64))])]⟩
noncomputable def laws_fjKeys.c : Code := (Tryd.f18.body).getD .skip
theorem laws_fjKeys.e (keys : (Option Addr)) (keys_len : Nat) (keys_cap : Nat) : fnT Tryd.prog laws_fjKeys.h Tryd.f18 laws_fjKeys.c [.v (Value.slice keys keys_len keys_cap)] = laws_fjKeys.t keys keys_len keys_cap := by kernel_rfl
theorem laws_fjKeys.calls (keys : (Option Addr)) (keys_len : Nat) (keys_cap : Nat) {w : World} {R : Ending → World → Prop} (hs : sat Tryd.prog (laws_fjKeys.t keys keys_len keys_cap) (fun l vs w' => l = 0 ∧ R (.returned (retVal vs)) w') w) : Calls Tryd.prog 18 #[(Value.slice keys keys_len keys_cap)] w R :=
  have h := calls_of_tree (w := w) (R := R) (args := [.v (Value.slice keys keys_len keys_cap)]) (c := laws_fjKeys.c) Tryd.func18 (show Tryd.f18.body = some laws_fjKeys.c by kernel_rfl) (of_decide_eq_true (by kernel_rfl)) (laws_fjKeys.e keys keys_len keys_cap) hs
  h

/-! ### pub-tetrapla/laws.fjKey : function 35 -/
def laws_fjKey.t (key : ByteArray) : T :=
  .ite (strEq key (ByteArray.mk #[])) (
    .leaf 0 [(Value.bool Bool.true)]) (
    .call 39 #[(Value.string key)] (.tuple (.cons (.int .i64) (.cons .bool .nil))) fun (z0 : (Int × (Bool × PUnit))) =>
    .ite ((z0).2).1 (
      .leaf 0 [(Value.bool Bool.true)]) (
      .chk (((0 : Int) ≤ (0 : Int)) ∧ ((0 : Int) < (((ByteArray.size key) : Nat) : Int))) <|
      .ite ((bt key (0 : Int)) != (45 : Int)) (
        .ite ((bt key (0 : Int)) != (43 : Int)) (
          .ite (decide ((bt key (0 : Int)) < (48 : Int))) (
            .leaf 0 [(Value.bool Bool.true)]) (
            .leaf 0 [(Value.bool (decide ((bt key (0 : Int)) > (57 : Int))))])) (
          .leaf 0 [(Value.bool Bool.false)])) (
        .leaf 0 [(Value.bool Bool.false)])))
def laws_fjKey.h : Hints := ⟨[], [], [], []⟩
noncomputable def laws_fjKey.c : Code := (Tryd.f35.body).getD .skip
theorem laws_fjKey.e (key : ByteArray) : fnT Tryd.prog laws_fjKey.h Tryd.f35 laws_fjKey.c [.v (Value.string key)] = laws_fjKey.t key := by kernel_rfl
theorem laws_fjKey.calls (key : ByteArray) {w : World} {R : Ending → World → Prop} (hs : sat Tryd.prog (laws_fjKey.t key) (fun l vs w' => l = 0 ∧ R (.returned (retVal vs)) w') w) : Calls Tryd.prog 35 #[(Value.string key)] w R :=
  have h := calls_of_tree (w := w) (R := R) (args := [.v (Value.string key)]) (c := laws_fjKey.c) Tryd.func35 (show Tryd.f35.body = some laws_fjKey.c by kernel_rfl) (of_decide_eq_true (by kernel_rfl)) (laws_fjKey.e key) hs
  h

/-! ### pub-tetrapla/spec.Find : function 20 -/
def spec_Find.t1 (i13 : Int) : T :=
  .leaf 2 [(Value.int IntKind.i64 i13)]
def spec_Find.t3 (i19 : Int) : T :=
  .leaf 3 [(Value.int IntKind.i64 i19)]
def spec_Find.t2 (z16 : (Int × (Bool × PUnit))) (b18 : Bool) : T :=
  .cut 4 (.cons (.int .i64) .nil) (
    .ite b18 (
      .leaf 4 [(Value.int IntKind.i64 (z16).1)]) (
      .leaf 4 [(Value.int IntKind.i64 (-1 : Int))]))
    (fun z => spec_Find.t3 z.1)
def spec_Find.t4 (i20 : Int) : T :=
  .leaf 2 [(Value.int IntKind.i64 i20)]
def spec_Find.t5 (i21 : Int) : T :=
  .leaf 1 [(Value.int IntKind.i64 i21)]
def spec_Find.t6 (keys : (Option Addr)) (keys_len : Nat) (keys_cap : Nat) (last : Bool) (z0 : Addr) (z1 : Addr) (i22 : Int) : T :=
  .ite (decide (i22 < (0 : Int))) (
    .effU (Instr.storeAt 25 (Value.pointer (some z1)) (Value.agg #[(Value.int IntKind.i64 (0 : Int)), (Value.string (ByteArray.mk #[])), (Value.slice none 0 0), (Value.slice none 0 0)])) <|
    .effS (Instr.loadAt 25 (Value.pointer (some z1))) (.agg (.cons (.int .i64) (.cons .str (.cons .slice (.cons .slice .nil))))) fun (z23 : (Int × (ByteArray × (((Option Addr) × (Nat × Nat)) × (((Option Addr) × (Nat × Nat)) × PUnit))))) =>
    .leaf 0 [(Value.agg #[(Value.int IntKind.i64 (z23).1), (Value.string ((z23).2).1), (Value.slice ((((z23).2).2).1).1 (((((z23).2).2).1).2).1 (((((z23).2).2).1).2).2), (Value.slice (((((z23).2).2).2).1).1 ((((((z23).2).2).2).1).2).1 ((((((z23).2).2).2).1).2).2)]), (Value.bool Bool.false)]) (
    .drew <|
    .load (Addr.add z0 3) .slice fun (z24 : ((Option Addr) × (Nat × Nat))) =>
    .chk (((0 : Int) ≤ i22) ∧ (i22 < ((((z24).2).1 : Nat) : Int))) <|
    .ptr (z24).1 fun (z25 : Addr) =>
    .effQ (Instr.loadAt 25 (Value.pointer (some (Addr.add z25 ((Int.toNat i22) * 4))))) (.agg (.cons (.int .i64) (.cons .str (.cons .slice (.cons .slice .nil))))) fun (z26 : (Int × (ByteArray × (((Option Addr) × (Nat × Nat)) × (((Option Addr) × (Nat × Nat)) × PUnit))))) =>
    .chk (((0 : Int) ≤ (1 : Int)) ∧ (((1 : Int) ≤ ((keys_len : Nat) : Int)) ∧ (((keys_len : Nat) : Int) ≤ ((keys_cap : Nat) : Int)))) <|
    .call 20 #[(Value.agg #[(Value.int IntKind.i64 (z26).1), (Value.string ((z26).2).1), (Value.slice ((((z26).2).2).1).1 (((((z26).2).2).1).2).1 (((((z26).2).2).1).2).2), (Value.slice (((((z26).2).2).2).1).1 ((((((z26).2).2).2).1).2).1 ((((((z26).2).2).2).1).2).2)]), (Value.slice (if (keys_cap = 1) then keys else (Option.map (fun (y27 : Addr) => (Addr.add y27 1)) keys)) ((Int.toNat ((keys_len : Nat) : Int)) - 1) (keys_cap - 1)), (Value.bool last)] (.tuple (.cons (.agg (.cons (.int .i64) (.cons .str (.cons .slice (.cons .slice .nil))))) (.cons .bool .nil))) fun (z28 : ((Int × (ByteArray × (((Option Addr) × (Nat × Nat)) × (((Option Addr) × (Nat × Nat)) × PUnit)))) × (Bool × PUnit))) =>
    .effU (Instr.storeAt 25 (Value.pointer (some z1)) (Value.agg #[(Value.int IntKind.i64 ((z28).1).1), (Value.string (((z28).1).2).1), (Value.slice (((((z28).1).2).2).1).1 ((((((z28).1).2).2).1).2).1 ((((((z28).1).2).2).1).2).2), (Value.slice ((((((z28).1).2).2).2).1).1 (((((((z28).1).2).2).2).1).2).1 (((((((z28).1).2).2).2).1).2).2)])) <|
    .effS (Instr.loadAt 25 (Value.pointer (some z1))) (.agg (.cons (.int .i64) (.cons .str (.cons .slice (.cons .slice .nil))))) fun (z29 : (Int × (ByteArray × (((Option Addr) × (Nat × Nat)) × (((Option Addr) × (Nat × Nat)) × PUnit))))) =>
    .leaf 0 [(Value.agg #[(Value.int IntKind.i64 (z29).1), (Value.string ((z29).2).1), (Value.slice ((((z29).2).2).1).1 (((((z29).2).2).1).2).1 (((((z29).2).2).1).2).2), (Value.slice (((((z29).2).2).2).1).1 ((((((z29).2).2).2).1).2).1 ((((((z29).2).2).2).1).2).2)]), (Value.bool ((z28).2).1)])
def spec_Find.t (n_0 : Int) (n_1 : ByteArray) (n_2 : (Option Addr)) (n_2_len : Nat) (n_2_cap : Nat) (n_3 : (Option Addr)) (n_3_len : Nat) (n_3_cap : Nat) (keys : (Option Addr)) (keys_len : Nat) (keys_cap : Nat) (last : Bool) : T :=
  .alloc (Obj.cells #[(Value.int IntKind.i64 n_0), (Value.string n_1), (Value.slice n_2 n_2_len n_2_cap), (Value.slice n_3 n_3_len n_3_cap)] 25 (0, 0)) fun (z0 : Addr) =>
  .alloc (Obj.cells #[(Value.int IntKind.i64 (0 : Int)), (Value.string (ByteArray.mk #[])), (Value.slice none 0 0), (Value.slice none 0 0)] 25 (0, 0)) fun (z1 : Addr) =>
  .ite (((keys_len : Nat) : Int) == (0 : Int)) (
    .eff (Instr.loadAt 25 (Value.pointer (some z0))) (.agg (.cons (.int .i64) (.cons .str (.cons .slice (.cons .slice .nil))))) fun (z2 : (Int × (ByteArray × (((Option Addr) × (Nat × Nat)) × (((Option Addr) × (Nat × Nat)) × PUnit))))) =>
    .effU (Instr.storeAt 25 (Value.pointer (some z1)) (Value.agg #[(Value.int IntKind.i64 (z2).1), (Value.string ((z2).2).1), (Value.slice ((((z2).2).2).1).1 (((((z2).2).2).1).2).1 (((((z2).2).2).1).2).2), (Value.slice (((((z2).2).2).2).1).1 ((((((z2).2).2).2).1).2).1 ((((((z2).2).2).2).1).2).2)])) <|
    .effS (Instr.loadAt 25 (Value.pointer (some z1))) (.agg (.cons (.int .i64) (.cons .str (.cons .slice (.cons .slice .nil))))) fun (z3 : (Int × (ByteArray × (((Option Addr) × (Nat × Nat)) × (((Option Addr) × (Nat × Nat)) × PUnit))))) =>
    .leaf 0 [(Value.agg #[(Value.int IntKind.i64 (z3).1), (Value.string ((z3).2).1), (Value.slice ((((z3).2).2).1).1 (((((z3).2).2).1).2).1 (((((z3).2).2).1).2).2), (Value.slice (((((z3).2).2).2).1).1 ((((((z3).2).2).2).1).2).1 ((((((z3).2).2).2).1).2).2)]), (Value.bool Bool.true)]) (
    .load (Addr.add z0 0) (.int .i64) fun (i4 : Int) =>
    .cut 1 (.cons (.int .i64) .nil) (
      .cut 2 (.cons (.int .i64) .nil) (
        .ite (i4 == (6 : Int)) (
          .drew <|
          .effS (Instr.loadAt 25 (Value.pointer (some z0))) (.agg (.cons (.int .i64) (.cons .str (.cons .slice (.cons .slice .nil))))) fun (z5 : (Int × (ByteArray × (((Option Addr) × (Nat × Nat)) × (((Option Addr) × (Nat × Nat)) × PUnit))))) =>
          .chk (((0 : Int) ≤ (0 : Int)) ∧ ((0 : Int) < ((keys_len : Nat) : Int))) <|
          .ptr keys fun (z6 : Addr) =>
          .load (Addr.add z6 0) .str fun (s7 : ByteArray) =>
          .call 37 #[(Value.agg #[(Value.int IntKind.i64 (z5).1), (Value.string ((z5).2).1), (Value.slice ((((z5).2).2).1).1 (((((z5).2).2).1).2).1 (((((z5).2).2).1).2).2), (Value.slice (((((z5).2).2).2).1).1 ((((((z5).2).2).2).1).2).1 ((((((z5).2).2).2).1).2).2)]), (Value.string s7)] (.int .i64) fun (i8 : Int) =>
          .cut 3 (.cons (.int .i64) .nil) (
            .ite last (
              .drew <|
              .effS (Instr.loadAt 25 (Value.pointer (some z0))) (.agg (.cons (.int .i64) (.cons .str (.cons .slice (.cons .slice .nil))))) fun (z9 : (Int × (ByteArray × (((Option Addr) × (Nat × Nat)) × (((Option Addr) × (Nat × Nat)) × PUnit))))) =>
              .chk (((0 : Int) ≤ (0 : Int)) ∧ ((0 : Int) < ((keys_len : Nat) : Int))) <|
              .ptr keys fun (z10 : Addr) =>
              .load (Addr.add z10 0) .str fun (s11 : ByteArray) =>
              .call 38 #[(Value.agg #[(Value.int IntKind.i64 (z9).1), (Value.string ((z9).2).1), (Value.slice ((((z9).2).2).1).1 (((((z9).2).2).1).2).1 (((((z9).2).2).1).2).2), (Value.slice (((((z9).2).2).2).1).1 ((((((z9).2).2).2).1).2).1 ((((((z9).2).2).2).1).2).2)]), (Value.string s11)] (.int .i64) fun (i12 : Int) =>
              .leaf 3 [(Value.int IntKind.i64 i12)]) (
              .leaf 3 [(Value.int IntKind.i64 i8)]))
            (fun z => spec_Find.t1 z.1)) (
          .cut 3 (.cons (.int .i64) .nil) (
            .ite (i4 == (5 : Int)) (
              .chk (((0 : Int) ≤ (0 : Int)) ∧ ((0 : Int) < ((keys_len : Nat) : Int))) <|
              .ptr keys fun (z14 : Addr) =>
              .load (Addr.add z14 0) .str fun (s15 : ByteArray) =>
              .call 39 #[(Value.string s15)] (.tuple (.cons (.int .i64) (.cons .bool .nil))) fun (z16 : (Int × (Bool × PUnit))) =>
              .cut 4 (.cons .bool .nil) (
                .ite ((z16).2).1 (
                  .load (Addr.add z0 3) .slice fun (z17 : ((Option Addr) × (Nat × Nat))) =>
                  .leaf 4 [(Value.bool (decide ((z16).1 < ((((z17).2).1 : Nat) : Int))))]) (
                  .leaf 4 [(Value.bool Bool.false)]))
                (fun z => spec_Find.t2 z16 z.1)) (
              .leaf 3 [(Value.int IntKind.i64 (-1 : Int))]))
            (fun z => spec_Find.t4 z.1)))
        (fun z => spec_Find.t5 z.1))
      (fun z => spec_Find.t6 keys keys_len keys_cap last z0 z1 z.1))
def spec_Find.h : Hints := ⟨[(17, [(8, (.int .i64))]), (24, [(8, (.int .i64))]), (30, [(8, (.int .i64))]), (46, [(8, (.int .i64))])], [(0, [(8, (.int .i64))])], [(11, [(46, .bool)])], []⟩
noncomputable def spec_Find.c : Code := (Tryd.f20.body).getD .skip
theorem spec_Find.e (n_0 : Int) (n_1 : ByteArray) (n_2 : (Option Addr)) (n_2_len : Nat) (n_2_cap : Nat) (n_3 : (Option Addr)) (n_3_len : Nat) (n_3_cap : Nat) (keys : (Option Addr)) (keys_len : Nat) (keys_cap : Nat) (last : Bool) : fnT Tryd.prog spec_Find.h Tryd.f20 spec_Find.c [.v (Value.agg #[(Value.int IntKind.i64 n_0), (Value.string n_1), (Value.slice n_2 n_2_len n_2_cap), (Value.slice n_3 n_3_len n_3_cap)]), .v (Value.slice keys keys_len keys_cap), .v (Value.bool last)] = spec_Find.t n_0 n_1 n_2 n_2_len n_2_cap n_3 n_3_len n_3_cap keys keys_len keys_cap last := by kernel_rfl
theorem spec_Find.calls (n_0 : Int) (n_1 : ByteArray) (n_2 : (Option Addr)) (n_2_len : Nat) (n_2_cap : Nat) (n_3 : (Option Addr)) (n_3_len : Nat) (n_3_cap : Nat) (keys : (Option Addr)) (keys_len : Nat) (keys_cap : Nat) (last : Bool) {w : World} {R : Ending → World → Prop} (hs : sat Tryd.prog (spec_Find.t n_0 n_1 n_2 n_2_len n_2_cap n_3 n_3_len n_3_cap keys keys_len keys_cap last) (fun l vs w' => l = 0 ∧ R (.returned (retVal vs)) w') w) : Calls Tryd.prog 20 #[(Value.agg #[(Value.int IntKind.i64 n_0), (Value.string n_1), (Value.slice n_2 n_2_len n_2_cap), (Value.slice n_3 n_3_len n_3_cap)]), (Value.slice keys keys_len keys_cap), (Value.bool last)] w R :=
  have h := calls_of_tree (w := w) (R := R) (args := [.v (Value.agg #[(Value.int IntKind.i64 n_0), (Value.string n_1), (Value.slice n_2 n_2_len n_2_cap), (Value.slice n_3 n_3_len n_3_cap)]), .v (Value.slice keys keys_len keys_cap), .v (Value.bool last)]) (c := spec_Find.c) Tryd.func20 (show Tryd.f20.body = some spec_Find.c by kernel_rfl) (of_decide_eq_true (by kernel_rfl)) (spec_Find.e n_0 n_1 n_2 n_2_len n_2_cap n_3 n_3_len n_3_cap keys keys_len keys_cap last) hs
  h

/-! ### pub-tetrapla/spec.Member : function 37 -/
def spec_Member.t1 (name : ByteArray) (z1 : ((Option Addr) × (Nat × Nat))) (i2 : Int) : T :=
  .ite (decide (i2 < ((((z1).2).1 : Nat) : Int))) (
    .chk (((0 : Int) ≤ i2) ∧ (i2 < ((((z1).2).1 : Nat) : Int))) <|
    .ptr (z1).1 fun (z3 : Addr) =>
    .load (Addr.add z3 ((Int.toNat i2) * 1)) .str fun (s4 : ByteArray) =>
    .ite (strEq s4 name) (
      .leaf 0 [(Value.int IntKind.i64 i2)]) (
      .leaf 1 [(Value.int IntKind.i64 (IntKind.wrap IntKind.i64 (i2 + (1 : Int))))])) (
    .leaf 0 [(Value.int IntKind.i64 (-1 : Int))])
def spec_Member.t (object_0 : Int) (object_1 : ByteArray) (object_2 : (Option Addr)) (object_2_len : Nat) (object_2_cap : Nat) (object_3 : (Option Addr)) (object_3_len : Nat) (object_3_cap : Nat) (name : ByteArray) : T :=
  .alloc (Obj.cells #[(Value.int IntKind.i64 object_0), (Value.string object_1), (Value.slice object_2 object_2_len object_2_cap), (Value.slice object_3 object_3_len object_3_cap)] 25 (0, 0)) fun (z0 : Addr) =>
  .load (Addr.add z0 2) .slice fun (z1 : ((Option Addr) × (Nat × Nat))) =>
  .loop 1 (.cons (.int .i64) .nil) [(Value.int IntKind.i64 (0 : Int))]
    (fun z => spec_Member.t1 name z1 z.1)
def spec_Member.h : Hints := ⟨[], [], [], [(2, [(10, (.int .i64))])]⟩
noncomputable def spec_Member.c : Code := (Tryd.f37.body).getD .skip
theorem spec_Member.e (object_0 : Int) (object_1 : ByteArray) (object_2 : (Option Addr)) (object_2_len : Nat) (object_2_cap : Nat) (object_3 : (Option Addr)) (object_3_len : Nat) (object_3_cap : Nat) (name : ByteArray) : fnT Tryd.prog spec_Member.h Tryd.f37 spec_Member.c [.v (Value.agg #[(Value.int IntKind.i64 object_0), (Value.string object_1), (Value.slice object_2 object_2_len object_2_cap), (Value.slice object_3 object_3_len object_3_cap)]), .v (Value.string name)] = spec_Member.t object_0 object_1 object_2 object_2_len object_2_cap object_3 object_3_len object_3_cap name := by kernel_rfl
theorem spec_Member.calls (object_0 : Int) (object_1 : ByteArray) (object_2 : (Option Addr)) (object_2_len : Nat) (object_2_cap : Nat) (object_3 : (Option Addr)) (object_3_len : Nat) (object_3_cap : Nat) (name : ByteArray) {w : World} {R : Ending → World → Prop} (hs : sat Tryd.prog (spec_Member.t object_0 object_1 object_2 object_2_len object_2_cap object_3 object_3_len object_3_cap name) (fun l vs w' => l = 0 ∧ R (.returned (retVal vs)) w') w) : Calls Tryd.prog 37 #[(Value.agg #[(Value.int IntKind.i64 object_0), (Value.string object_1), (Value.slice object_2 object_2_len object_2_cap), (Value.slice object_3 object_3_len object_3_cap)]), (Value.string name)] w R :=
  have h := calls_of_tree (w := w) (R := R) (args := [.v (Value.agg #[(Value.int IntKind.i64 object_0), (Value.string object_1), (Value.slice object_2 object_2_len object_2_cap), (Value.slice object_3 object_3_len object_3_cap)]), .v (Value.string name)]) (c := spec_Member.c) Tryd.func37 (show Tryd.f37.body = some spec_Member.c by kernel_rfl) (of_decide_eq_true (by kernel_rfl)) (spec_Member.e object_0 object_1 object_2 object_2_len object_2_cap object_3 object_3_len object_3_cap name) hs
  h

/-! ### pub-tetrapla/spec.Last : function 38 -/
def spec_Last.t (n_0 : Int) (n_1 : ByteArray) (n_2 : (Option Addr)) (n_2_len : Nat) (n_2_cap : Nat) (n_3 : (Option Addr)) (n_3_len : Nat) (n_3_cap : Nat) (name : ByteArray) : T :=
  .alloc (Obj.cells #[(Value.int IntKind.i64 n_0), (Value.string n_1), (Value.slice n_2 n_2_len n_2_cap), (Value.slice n_3 n_3_len n_3_cap)] 25 (0, 0)) fun (z0 : Addr) =>
  .eff (Instr.loadAt 25 (Value.pointer (some z0))) (.agg (.cons (.int .i64) (.cons .str (.cons .slice (.cons .slice .nil))))) fun (z1 : (Int × (ByteArray × (((Option Addr) × (Nat × Nat)) × (((Option Addr) × (Nat × Nat)) × PUnit))))) =>
  .call 36 #[(Value.agg #[(Value.int IntKind.i64 (z1).1), (Value.string ((z1).2).1), (Value.slice ((((z1).2).2).1).1 (((((z1).2).2).1).2).1 (((((z1).2).2).1).2).2), (Value.slice (((((z1).2).2).2).1).1 ((((((z1).2).2).2).1).2).1 ((((((z1).2).2).2).1).2).2)]), (Value.string name)] (.int .i64) fun (i2 : Int) =>
  .leaf 0 [(Value.int IntKind.i64 i2)]
def spec_Last.h : Hints := ⟨[], [], [], []⟩
noncomputable def spec_Last.c : Code := (Tryd.f38.body).getD .skip
theorem spec_Last.e (n_0 : Int) (n_1 : ByteArray) (n_2 : (Option Addr)) (n_2_len : Nat) (n_2_cap : Nat) (n_3 : (Option Addr)) (n_3_len : Nat) (n_3_cap : Nat) (name : ByteArray) : fnT Tryd.prog spec_Last.h Tryd.f38 spec_Last.c [.v (Value.agg #[(Value.int IntKind.i64 n_0), (Value.string n_1), (Value.slice n_2 n_2_len n_2_cap), (Value.slice n_3 n_3_len n_3_cap)]), .v (Value.string name)] = spec_Last.t n_0 n_1 n_2 n_2_len n_2_cap n_3 n_3_len n_3_cap name := by kernel_rfl
theorem spec_Last.calls (n_0 : Int) (n_1 : ByteArray) (n_2 : (Option Addr)) (n_2_len : Nat) (n_2_cap : Nat) (n_3 : (Option Addr)) (n_3_len : Nat) (n_3_cap : Nat) (name : ByteArray) {w : World} {R : Ending → World → Prop} (hs : sat Tryd.prog (spec_Last.t n_0 n_1 n_2 n_2_len n_2_cap n_3 n_3_len n_3_cap name) (fun l vs w' => l = 0 ∧ R (.returned (retVal vs)) w') w) : Calls Tryd.prog 38 #[(Value.agg #[(Value.int IntKind.i64 n_0), (Value.string n_1), (Value.slice n_2 n_2_len n_2_cap), (Value.slice n_3 n_3_len n_3_cap)]), (Value.string name)] w R :=
  have h := calls_of_tree (w := w) (R := R) (args := [.v (Value.agg #[(Value.int IntKind.i64 n_0), (Value.string n_1), (Value.slice n_2 n_2_len n_2_cap), (Value.slice n_3 n_3_len n_3_cap)]), .v (Value.string name)]) (c := spec_Last.c) Tryd.func38 (show Tryd.f38.body = some spec_Last.c by kernel_rfl) (of_decide_eq_true (by kernel_rfl)) (spec_Last.e n_0 n_1 n_2 n_2_len n_2_cap n_3 n_3_len n_3_cap name) hs
  h

/-! ### pub-tetrapla/spec.Index : function 39 -/
def spec_Index.t3 (token : ByteArray) (i1 : Int) (i2 : Int) (b3 : Bool) : T :=
  .ite b3 (
    .leaf 0 [(Value.int IntKind.i64 (0 : Int)), (Value.bool Bool.false)]) (
    .ite (decide (i2 < (288230376151711744 : Int))) (
      .leaf 1 [(Value.int IntKind.i64 (IntKind.wrap IntKind.i64 (i1 + (1 : Int)))), (Value.int IntKind.i64 (IntKind.wrap IntKind.i64 ((IntKind.wrap IntKind.i64 (i2 * (10 : Int))) + (IntKind.wrap IntKind.i64 (IntKind.wrap IntKind.u8 ((bt token i1) - (48 : Int)))))))]) (
      .leaf 1 [(Value.int IntKind.i64 (IntKind.wrap IntKind.i64 (i1 + (1 : Int)))), (Value.int IntKind.i64 (4611686018427387904 : Int))]))
def spec_Index.t2 (token : ByteArray) (i1 : Int) (i2 : Int) : T :=
  .ite (decide (i1 < (((ByteArray.size token) : Nat) : Int))) (
    .chk (((0 : Int) ≤ i1) ∧ (i1 < (((ByteArray.size token) : Nat) : Int))) <|
    .cut 2 (.cons .bool .nil) (
      .ite (decide ((bt token i1) < (48 : Int))) (
        .leaf 2 [(Value.bool Bool.true)]) (
        .leaf 2 [(Value.bool (decide ((bt token i1) > (57 : Int))))]))
      (fun z => spec_Index.t3 token i1 i2 z.1)) (
    .leaf 0 [(Value.int IntKind.i64 i2), (Value.bool Bool.true)])
def spec_Index.t1 (token : ByteArray) (b0 : Bool) : T :=
  .ite b0 (
    .leaf 0 [(Value.int IntKind.i64 (0 : Int)), (Value.bool Bool.false)]) (
    .loop 1 (.cons (.int .i64) (.cons (.int .i64) .nil)) [(Value.int IntKind.i64 (0 : Int)), (Value.int IntKind.i64 (0 : Int))]
      (fun z => spec_Index.t2 token z.1 z.2.1))
def spec_Index.t (token : ByteArray) : T :=
  .cut 1 (.cons .bool .nil) (
    .ite (strEq token (ByteArray.mk #[])) (
      .leaf 1 [(Value.bool Bool.true)]) (
      .ite (decide ((((ByteArray.size token) : Nat) : Int) > (1 : Int))) (
        .chk (((0 : Int) ≤ (0 : Int)) ∧ ((0 : Int) < (((ByteArray.size token) : Nat) : Int))) <|
        .leaf 1 [(Value.bool ((bt token (0 : Int)) == (48 : Int)))]) (
        .leaf 1 [(Value.bool Bool.false)])))
    (fun z => spec_Index.t1 token z.1)
def spec_Index.h : Hints := ⟨[], [], [(1, [(18, .bool)]), (8, [(33, .bool)])], [(5, [(5, (.int .i64)), (4, (.int .i64))])]⟩
noncomputable def spec_Index.c : Code := (Tryd.f39.body).getD .skip
theorem spec_Index.e (token : ByteArray) : fnT Tryd.prog spec_Index.h Tryd.f39 spec_Index.c [.v (Value.string token)] = spec_Index.t token := by kernel_rfl
theorem spec_Index.calls (token : ByteArray) {w : World} {R : Ending → World → Prop} (hs : sat Tryd.prog (spec_Index.t token) (fun l vs w' => l = 0 ∧ R (.returned (retVal vs)) w') w) : Calls Tryd.prog 39 #[(Value.string token)] w R :=
  have h := calls_of_tree (w := w) (R := R) (args := [.v (Value.string token)]) (c := spec_Index.c) Tryd.func39 (show Tryd.f39.body = some spec_Index.c by kernel_rfl) (of_decide_eq_true (by kernel_rfl)) (spec_Index.e token) hs
  h

/-! ### pub-tetrapla/impl.FjGetBool : function 10 -/
def impl_FjGetBool.t (text : ByteArray) (keys : (Option Addr)) (keys_len : Nat) (keys_cap : Nat) : T :=
  .alloc (Obj.cells #[(Value.slice none 0 0), (Value.slice none 0 0)] 43 (0, 0)) fun (z0 : Addr) =>
  .call 15 #[(Value.pointer (some z0)), (Value.string text)] (.tuple (.cons .ptr (.cons .any .nil))) fun (z1 : ((Option Addr) × (Value × PUnit))) =>
  .chk ((isIface ((z1).2).1) = Bool.true) <|
  .ite (!(isNil ((z1).2).1)) (
    .leaf 0 [(Value.bool Bool.false)]) (
    .call 21 #[(Value.pointer (z1).1), (Value.slice keys keys_len keys_cap)] .bool fun (b2 : Bool) =>
    .leaf 0 [(Value.bool b2)])
def impl_FjGetBool.h : Hints := ⟨[], [], [], []⟩
noncomputable def impl_FjGetBool.c : Code := (Tryd.f10.body).getD .skip
theorem impl_FjGetBool.e (text : ByteArray) (keys : (Option Addr)) (keys_len : Nat) (keys_cap : Nat) : fnT Tryd.prog impl_FjGetBool.h Tryd.f10 impl_FjGetBool.c [.v (Value.string text), .v (Value.slice keys keys_len keys_cap)] = impl_FjGetBool.t text keys keys_len keys_cap := by kernel_rfl
theorem impl_FjGetBool.calls (text : ByteArray) (keys : (Option Addr)) (keys_len : Nat) (keys_cap : Nat) {w : World} {R : Ending → World → Prop} (hs : sat Tryd.prog (impl_FjGetBool.t text keys keys_len keys_cap) (fun l vs w' => l = 0 ∧ R (.returned (retVal vs)) w') w) : Calls Tryd.prog 10 #[(Value.string text), (Value.slice keys keys_len keys_cap)] w R :=
  have h := calls_of_tree (w := w) (R := R) (args := [.v (Value.string text), .v (Value.slice keys keys_len keys_cap)]) (c := impl_FjGetBool.c) Tryd.func10 (show Tryd.f10.body = some impl_FjGetBool.c by kernel_rfl) (of_decide_eq_true (by kernel_rfl)) (impl_FjGetBool.e text keys keys_len keys_cap) hs
  h

/-! ### pub-tetrapla/laws.FnFjGetBool : function 4 -/
def laws_FnFjGetBool.t1 (text : ByteArray) (keys : (Option Addr)) (keys_len : Nat) (keys_cap : Nat) (b1 : Bool) : T :=
  .ite b1 (
    .leaf 0 [(Value.bool Bool.true)]) (
    .call 9 #[(Value.string text), (Value.slice keys keys_len keys_cap)] (.tuple (.cons (.agg (.cons (.int .i64) (.cons .str (.cons .slice (.cons .slice .nil))))) (.cons .bool (.cons .bool .nil)))) fun (z2 : ((Int × (ByteArray × (((Option Addr) × (Nat × Nat)) × (((Option Addr) × (Nat × Nat)) × PUnit)))) × (Bool × (Bool × PUnit)))) =>
    .alloc (Obj.cells #[(Value.int IntKind.i64 (0 : Int)), (Value.string (ByteArray.mk #[])), (Value.slice none 0 0), (Value.slice none 0 0)] 25 (0, 0)) fun (z3 : Addr) =>
    .effU (Instr.storeAt 25 (Value.pointer (some z3)) (Value.agg #[(Value.int IntKind.i64 ((z2).1).1), (Value.string (((z2).1).2).1), (Value.slice (((((z2).1).2).2).1).1 ((((((z2).1).2).2).1).2).1 ((((((z2).1).2).2).1).2).2), (Value.slice ((((((z2).1).2).2).2).1).1 (((((((z2).1).2).2).2).1).2).1 (((((((z2).1).2).2).2).1).2).2)])) <|
    .ite (!(((z2).2).2).1) (
      .leaf 0 [(Value.bool Bool.true)]) (
      .call 10 #[(Value.string text), (Value.slice keys keys_len keys_cap)] .bool fun (b4 : Bool) =>
      .ite ((z2).2).1 (
        .load (Addr.add z3 0) (.int .i64) fun (i5 : Int) =>
        .ite (b4 == (i5 == (2 : Int))) (
          .eff (Instr.buildSlice 22 1 #[(0, (Value.string (ByteArray.mk #[(48 : UInt8)])))]) .slice fun (z6 : ((Option Addr) × (Nat × Nat))) =>
          .call 10 #[(Value.string (ByteArray.mk #[(91 : UInt8), (116 : UInt8), (114 : UInt8), (117 : UInt8), (101 : UInt8), (93 : UInt8)])), (Value.slice (z6).1 ((z6).2).1 ((z6).2).2)] .bool fun (b7 : Bool) =>
          .leaf 0 [(Value.bool b7)]) (
          .leaf 0 [(Value.bool Bool.false)])) (
        .ite (!b4) (
          .eff (Instr.buildSlice 22 1 #[(0, (Value.string (ByteArray.mk #[(48 : UInt8)])))]) .slice fun (z8 : ((Option Addr) × (Nat × Nat))) =>
          .call 10 #[(Value.string (ByteArray.mk #[(91 : UInt8), (116 : UInt8), (114 : UInt8), (117 : UInt8), (101 : UInt8), (93 : UInt8)])), (Value.slice (z8).1 ((z8).2).1 ((z8).2).2)] .bool fun (b9 : Bool) =>
          .leaf 0 [(Value.bool b9)]) (
          .leaf 0 [(Value.bool Bool.false)]))))
def laws_FnFjGetBool.t (text : ByteArray) (keys : (Option Addr)) (keys_len : Nat) (keys_cap : Nat) : T :=
  .cut 1 (.cons .bool .nil) (
    .ite (decide ((((ByteArray.size text) : Nat) : Int) > (2147483647 : Int))) (
      .leaf 1 [(Value.bool Bool.true)]) (
      .call 8 #[(Value.slice keys keys_len keys_cap)] .bool fun (b0 : Bool) =>
      .leaf 1 [(Value.bool (!b0))]))
    (fun z => laws_FnFjGetBool.t1 text keys keys_len keys_cap z.1)
def laws_FnFjGetBool.h : Hints := ⟨[], [], [(1, [(15, .bool)])], []⟩
noncomputable def laws_FnFjGetBool.c : Code := (Tryd.f4.body).getD .skip
theorem laws_FnFjGetBool.e (text : ByteArray) (keys : (Option Addr)) (keys_len : Nat) (keys_cap : Nat) : fnT Tryd.prog laws_FnFjGetBool.h Tryd.f4 laws_FnFjGetBool.c [.v (Value.string text), .v (Value.slice keys keys_len keys_cap)] = laws_FnFjGetBool.t text keys keys_len keys_cap := by kernel_rfl
theorem laws_FnFjGetBool.calls (text : ByteArray) (keys : (Option Addr)) (keys_len : Nat) (keys_cap : Nat) {w : World} {R : Ending → World → Prop} (hs : sat Tryd.prog (laws_FnFjGetBool.t text keys keys_len keys_cap) (fun l vs w' => l = 0 ∧ R (.returned (retVal vs)) w') w) : Calls Tryd.prog 4 #[(Value.string text), (Value.slice keys keys_len keys_cap)] w R :=
  have h := calls_of_tree (w := w) (R := R) (args := [.v (Value.string text), .v (Value.slice keys keys_len keys_cap)]) (c := laws_FnFjGetBool.c) Tryd.func4 (show Tryd.f4.body = some laws_FnFjGetBool.c by kernel_rfl) (of_decide_eq_true (by kernel_rfl)) (laws_FnFjGetBool.e text keys keys_len keys_cap) hs
  h

/-! ### pub-tetrapla/laws.zzFits1 : function 8 -/
def laws_zzFits1.t1 (x : (Option Addr)) (x_len : Nat) (i0 : Int) : T :=
  .ite (decide (i0 < ((x_len : Nat) : Int))) (
    .chk (((0 : Int) ≤ i0) ∧ (i0 < ((x_len : Nat) : Int))) <|
    .ptr x fun (z1 : Addr) =>
    .load (Addr.add z1 ((Int.toNat i0) * 1)) .str fun (s2 : ByteArray) =>
    .ite (decide ((((ByteArray.size s2) : Nat) : Int) > (2147483647 : Int))) (
      .leaf 0 [(Value.bool Bool.false)]) (
      .leaf 1 [(Value.int IntKind.i64 (IntKind.wrap IntKind.i64 (i0 + (1 : Int))))])) (
    .leaf 0 [(Value.bool Bool.true)])
def laws_zzFits1.t (x : (Option Addr)) (x_len : Nat) (x_cap : Nat) : T :=
  .ite (decide (((x_len : Nat) : Int) > (2147483647 : Int))) (
    .leaf 0 [(Value.bool Bool.false)]) (
    .loop 1 (.cons (.int .i64) .nil) [(Value.int IntKind.i64 (0 : Int))]
      (fun z => laws_zzFits1.t1 x x_len z.1))
def laws_zzFits1.h : Hints := ⟨[], [], [], [(4, [(10, (.int .i64))])]⟩
noncomputable def laws_zzFits1.c : Code := (Tryd.f8.body).getD .skip
theorem laws_zzFits1.e (x : (Option Addr)) (x_len : Nat) (x_cap : Nat) : fnT Tryd.prog laws_zzFits1.h Tryd.f8 laws_zzFits1.c [.v (Value.slice x x_len x_cap)] = laws_zzFits1.t x x_len x_cap := by kernel_rfl
theorem laws_zzFits1.calls (x : (Option Addr)) (x_len : Nat) (x_cap : Nat) {w : World} {R : Ending → World → Prop} (hs : sat Tryd.prog (laws_zzFits1.t x x_len x_cap) (fun l vs w' => l = 0 ∧ R (.returned (retVal vs)) w') w) : Calls Tryd.prog 8 #[(Value.slice x x_len x_cap)] w R :=
  have h := calls_of_tree (w := w) (R := R) (args := [.v (Value.slice x x_len x_cap)]) (c := laws_zzFits1.c) Tryd.func8 (show Tryd.f8.body = some laws_zzFits1.c by kernel_rfl) (of_decide_eq_true (by kernel_rfl)) (laws_zzFits1.e x x_len x_cap) hs
  h

end Go.Proofs.YtkpnomdmnhhaoaaDoor.Tr
