/- Trees of loaded functions, printed by wip/tools/rxprint (a program of this repo): each is what 'exec' comes to, held by the kernel. No statement of the set is proved here. -/
import Derived.Test.YtkpnomdmnhhaoaaGreatDoorRz
import Derived.Test.YtkpnomdmnhhaoaaGreatDoorProg
import Derived.KernelRfl
namespace Go.Proofs.YtkpnomdmnhhaoaaGreatDoor.Tr
open Go Go.Proofs Go.Proofs.YtkpnomdmnhhaoaaGreatDoor.Rx
set_option linter.unusedVariables false
set_option maxRecDepth 100000
/-! ### pub-tetrapla/impl.fjNode : function 17 -/
def impl_fjNode.t (v : (Option Addr)) : T :=
  .alloc (Obj.cells #[(Value.int IntKind.i64 (0 : Int)), (Value.string (ByteArray.mk #[])), (Value.slice none 0 0), (Value.slice none 0 0)] 26 (0, 0)) fun (z0 : Addr) =>
  .call 28 #[(Value.pointer v)] (.int .i64) fun (i1 : Int) =>
  .ite (i1 == (1 : Int)) (
    .call 30 #[(Value.pointer v), (Value.slice none 0 0)] .ptr fun (p2 : (Option Addr)) =>
    .call 29 #[(Value.pointer p2)] (.agg (.cons (.int .i64) (.cons .str (.cons .slice (.cons .slice .nil))))) fun (z3 : (Int × (ByteArray × (((Option Addr) × (Nat × Nat)) × (((Option Addr) × (Nat × Nat)) × PUnit))))) =>
    .effU (Instr.storeAt 26 (Value.pointer (some z0)) (Value.agg #[(Value.int IntKind.i64 (z3).1), (Value.string ((z3).2).1), (Value.slice ((((z3).2).2).1).1 (((((z3).2).2).1).2).1 (((((z3).2).2).1).2).2), (Value.slice (((((z3).2).2).2).1).1 ((((((z3).2).2).2).1).2).1 ((((((z3).2).2).2).1).2).2)])) <|
    .effS (Instr.loadAt 26 (Value.pointer (some z0))) (.agg (.cons (.int .i64) (.cons .str (.cons .slice (.cons .slice .nil))))) fun (z4 : (Int × (ByteArray × (((Option Addr) × (Nat × Nat)) × (((Option Addr) × (Nat × Nat)) × PUnit))))) =>
    .leaf 0 [(Value.agg #[(Value.int IntKind.i64 (z4).1), (Value.string ((z4).2).1), (Value.slice ((((z4).2).2).1).1 (((((z4).2).2).1).2).1 (((((z4).2).2).1).2).2), (Value.slice (((((z4).2).2).2).1).1 ((((((z4).2).2).2).1).2).1 ((((((z4).2).2).2).1).2).2)])]) (
    .ite (i1 == (2 : Int)) (
      .call 32 #[(Value.pointer v), (Value.slice none 0 0)] .slice fun (z5 : ((Option Addr) × (Nat × Nat))) =>
      .call 31 #[(Value.slice (z5).1 ((z5).2).1 ((z5).2).2)] .slice fun (z6 : ((Option Addr) × (Nat × Nat))) =>
      .effU (Instr.storeAt 26 (Value.pointer (some z0)) (Value.agg #[(Value.int IntKind.i64 (5 : Int)), (Value.string (ByteArray.mk #[])), (Value.slice none 0 0), (Value.slice (z6).1 ((z6).2).1 ((z6).2).2)])) <|
      .effS (Instr.loadAt 26 (Value.pointer (some z0))) (.agg (.cons (.int .i64) (.cons .str (.cons .slice (.cons .slice .nil))))) fun (z7 : (Int × (ByteArray × (((Option Addr) × (Nat × Nat)) × (((Option Addr) × (Nat × Nat)) × PUnit))))) =>
      .leaf 0 [(Value.agg #[(Value.int IntKind.i64 (z7).1), (Value.string ((z7).2).1), (Value.slice ((((z7).2).2).1).1 (((((z7).2).2).1).2).1 (((((z7).2).2).1).2).2), (Value.slice (((((z7).2).2).2).1).1 ((((((z7).2).2).2).1).2).1 ((((((z7).2).2).2).1).2).2)])]) (
      .ite (i1 == (3 : Int)) (
        .call 33 #[(Value.pointer v), (Value.slice none 0 0)] .slice fun (z8 : ((Option Addr) × (Nat × Nat))) =>
        .eff (convert 43 9 (Value.slice (z8).1 ((z8).2).1 ((z8).2).2)) .str fun (s9 : ByteArray) =>
        .effU (Instr.storeAt 26 (Value.pointer (some z0)) (Value.agg #[(Value.int IntKind.i64 (4 : Int)), (Value.string s9), (Value.slice none 0 0), (Value.slice none 0 0)])) <|
        .effS (Instr.loadAt 26 (Value.pointer (some z0))) (.agg (.cons (.int .i64) (.cons .str (.cons .slice (.cons .slice .nil))))) fun (z10 : (Int × (ByteArray × (((Option Addr) × (Nat × Nat)) × (((Option Addr) × (Nat × Nat)) × PUnit))))) =>
        .leaf 0 [(Value.agg #[(Value.int IntKind.i64 (z10).1), (Value.string ((z10).2).1), (Value.slice ((((z10).2).2).1).1 (((((z10).2).2).1).2).1 (((((z10).2).2).1).2).2), (Value.slice (((((z10).2).2).2).1).1 ((((((z10).2).2).2).1).2).1 ((((((z10).2).2).2).1).2).2)])]) (
        .ite (i1 == (4 : Int)) (
          .call 34 #[(Value.pointer v), (Value.slice none 0 0)] .slice fun (z11 : ((Option Addr) × (Nat × Nat))) =>
          .eff (convert 43 9 (Value.slice (z11).1 ((z11).2).1 ((z11).2).2)) .str fun (s12 : ByteArray) =>
          .effU (Instr.storeAt 26 (Value.pointer (some z0)) (Value.agg #[(Value.int IntKind.i64 (3 : Int)), (Value.string s12), (Value.slice none 0 0), (Value.slice none 0 0)])) <|
          .effS (Instr.loadAt 26 (Value.pointer (some z0))) (.agg (.cons (.int .i64) (.cons .str (.cons .slice (.cons .slice .nil))))) fun (z13 : (Int × (ByteArray × (((Option Addr) × (Nat × Nat)) × (((Option Addr) × (Nat × Nat)) × PUnit))))) =>
          .leaf 0 [(Value.agg #[(Value.int IntKind.i64 (z13).1), (Value.string ((z13).2).1), (Value.slice ((((z13).2).2).1).1 (((((z13).2).2).1).2).1 (((((z13).2).2).1).2).2), (Value.slice (((((z13).2).2).2).1).1 ((((((z13).2).2).2).1).2).1 ((((((z13).2).2).2).1).2).2)])]) (
          .ite (i1 == (5 : Int)) (
            .effU (Instr.storeAt 26 (Value.pointer (some z0)) (Value.agg #[(Value.int IntKind.i64 (2 : Int)), (Value.string (ByteArray.mk #[])), (Value.slice none 0 0), (Value.slice none 0 0)])) <|
            .effS (Instr.loadAt 26 (Value.pointer (some z0))) (.agg (.cons (.int .i64) (.cons .str (.cons .slice (.cons .slice .nil))))) fun (z14 : (Int × (ByteArray × (((Option Addr) × (Nat × Nat)) × (((Option Addr) × (Nat × Nat)) × PUnit))))) =>
            .leaf 0 [(Value.agg #[(Value.int IntKind.i64 (z14).1), (Value.string ((z14).2).1), (Value.slice ((((z14).2).2).1).1 (((((z14).2).2).1).2).1 (((((z14).2).2).1).2).2), (Value.slice (((((z14).2).2).2).1).1 ((((((z14).2).2).2).1).2).1 ((((((z14).2).2).2).1).2).2)])]) (
            .ite (i1 == (6 : Int)) (
              .effU (Instr.storeAt 26 (Value.pointer (some z0)) (Value.agg #[(Value.int IntKind.i64 (1 : Int)), (Value.string (ByteArray.mk #[])), (Value.slice none 0 0), (Value.slice none 0 0)])) <|
              .effS (Instr.loadAt 26 (Value.pointer (some z0))) (.agg (.cons (.int .i64) (.cons .str (.cons .slice (.cons .slice .nil))))) fun (z15 : (Int × (ByteArray × (((Option Addr) × (Nat × Nat)) × (((Option Addr) × (Nat × Nat)) × PUnit))))) =>
              .leaf 0 [(Value.agg #[(Value.int IntKind.i64 (z15).1), (Value.string ((z15).2).1), (Value.slice ((((z15).2).2).1).1 (((((z15).2).2).1).2).1 (((((z15).2).2).1).2).2), (Value.slice (((((z15).2).2).2).1).1 ((((((z15).2).2).2).1).2).1 ((((((z15).2).2).2).1).2).2)])]) (
              .effU (Instr.storeAt 26 (Value.pointer (some z0)) (Value.agg #[(Value.int IntKind.i64 (0 : Int)), (Value.string (ByteArray.mk #[])), (Value.slice none 0 0), (Value.slice none 0 0)])) <|
              .effS (Instr.loadAt 26 (Value.pointer (some z0))) (.agg (.cons (.int .i64) (.cons .str (.cons .slice (.cons .slice .nil))))) fun (z16 : (Int × (ByteArray × (((Option Addr) × (Nat × Nat)) × (((Option Addr) × (Nat × Nat)) × PUnit))))) =>
              .leaf 0 [(Value.agg #[(Value.int IntKind.i64 (z16).1), (Value.string ((z16).2).1), (Value.slice ((((z16).2).2).1).1 (((((z16).2).2).1).2).1 (((((z16).2).2).1).2).2), (Value.slice (((((z16).2).2).2).1).1 ((((((z16).2).2).2).1).2).1 ((((((z16).2).2).2).1).2).2)])]))))))
def impl_fjNode.h : Hints := ⟨[], [], [], []⟩
noncomputable def impl_fjNode.c : Code := (Tryz.f17.body).getD .skip
theorem impl_fjNode.e (v : (Option Addr)) : fnT Tryz.prog impl_fjNode.h Tryz.f17 impl_fjNode.c [.v (Value.pointer v)] = impl_fjNode.t v := by kernel_rfl
theorem impl_fjNode.calls (v : (Option Addr)) {w : World} {R : Ending → World → Prop} (hs : sat Tryz.prog (impl_fjNode.t v) (fun l vs w' => l = 0 ∧ R (.returned (retVal vs)) w') w) : Calls Tryz.prog 17 #[(Value.pointer v)] w R :=
  have h := calls_of_tree (w := w) (R := R) (args := [.v (Value.pointer v)]) (c := impl_fjNode.c) Tryz.func17 (show Tryz.f17.body = some impl_fjNode.c by kernel_rfl) (of_decide_eq_true (by kernel_rfl)) (impl_fjNode.e v) hs
  h

/-! ### pub-tetrapla/impl.fjObject : function 29 -/
def impl_fjObject.t (o : (Option Addr)) : T :=
  .alloc (Obj.cells #[(Value.int IntKind.i64 (0 : Int)), (Value.string (ByteArray.mk #[])), (Value.slice none 0 0), (Value.slice none 0 0)] 26 (0, 0)) fun (z0 : Addr) =>
  .alloc (Obj.cells #[(Value.int IntKind.i64 (0 : Int)), (Value.string (ByteArray.mk #[])), (Value.slice none 0 0), (Value.slice none 0 0)] 26 (0, 0)) fun (z1 : Addr) =>
  .effU (Instr.storeAt 26 (Value.pointer (some z1)) (Value.agg #[(Value.int IntKind.i64 (6 : Int)), (Value.string (ByteArray.mk #[])), (Value.slice none 0 0), (Value.slice none 0 0)])) <|
  .call 51 #[(Value.pointer o), (Value.func (.func 52) #[] #[(Value.pointer (some z1))])] (.tuple .nil) fun _ =>
  .eff (Instr.loadAt 26 (Value.pointer (some z1))) (.agg (.cons (.int .i64) (.cons .str (.cons .slice (.cons .slice .nil))))) fun (z2 : (Int × (ByteArray × (((Option Addr) × (Nat × Nat)) × (((Option Addr) × (Nat × Nat)) × PUnit))))) =>
  .effU (Instr.storeAt 26 (Value.pointer (some z0)) (Value.agg #[(Value.int IntKind.i64 (z2).1), (Value.string ((z2).2).1), (Value.slice ((((z2).2).2).1).1 (((((z2).2).2).1).2).1 (((((z2).2).2).1).2).2), (Value.slice (((((z2).2).2).2).1).1 ((((((z2).2).2).2).1).2).1 ((((((z2).2).2).2).1).2).2)])) <|
  .effS (Instr.loadAt 26 (Value.pointer (some z0))) (.agg (.cons (.int .i64) (.cons .str (.cons .slice (.cons .slice .nil))))) fun (z3 : (Int × (ByteArray × (((Option Addr) × (Nat × Nat)) × (((Option Addr) × (Nat × Nat)) × PUnit))))) =>
  .leaf 0 [(Value.agg #[(Value.int IntKind.i64 (z3).1), (Value.string ((z3).2).1), (Value.slice ((((z3).2).2).1).1 (((((z3).2).2).1).2).1 (((((z3).2).2).1).2).2), (Value.slice (((((z3).2).2).2).1).1 ((((((z3).2).2).2).1).2).1 ((((((z3).2).2).2).1).2).2)])]
def impl_fjObject.h : Hints := ⟨[], [], [], []⟩
noncomputable def impl_fjObject.c : Code := (Tryz.f29.body).getD .skip
theorem impl_fjObject.e (o : (Option Addr)) : fnT Tryz.prog impl_fjObject.h Tryz.f29 impl_fjObject.c [.v (Value.pointer o)] = impl_fjObject.t o := by kernel_rfl
theorem impl_fjObject.calls (o : (Option Addr)) {w : World} {R : Ending → World → Prop} (hs : sat Tryz.prog (impl_fjObject.t o) (fun l vs w' => l = 0 ∧ R (.returned (retVal vs)) w') w) : Calls Tryz.prog 29 #[(Value.pointer o)] w R :=
  have h := calls_of_tree (w := w) (R := R) (args := [.v (Value.pointer o)]) (c := impl_fjObject.c) Tryz.func29 (show Tryz.f29.body = some impl_fjObject.c by kernel_rfl) (of_decide_eq_true (by kernel_rfl)) (impl_fjObject.e o) hs
  h

/-! ### (*pub-tetrapla/pub/fastjson.Value).GetObject : function 30 -/
def fastjson_Value_GetObject.t (v : (Option Addr)) (keys : (Option Addr)) (keys_len : Nat) (keys_cap : Nat) : T :=
  .call 53 #[(Value.pointer v), (Value.slice keys keys_len keys_cap)] .ptr fun (p0 : (Option Addr)) =>
  .ite (Option.isNone p0) (
    .leaf 0 [(Value.pointer none)]) (
    .ptr p0 fun (z1 : Addr) =>
    .load (Addr.add z1 4) (.int .i64) fun (i2 : Int) =>
    .ite (i2 != (1 : Int)) (
      .leaf 0 [(Value.pointer none)]) (
      .ptr p0 fun (z3 : Addr) =>
      .leaf 0 [(Value.pointer (some (Addr.add z3 0)))]))
def fastjson_Value_GetObject.h : Hints := ⟨[], [], [], []⟩
noncomputable def fastjson_Value_GetObject.c : Code := (Tryz.f30.body).getD .skip
theorem fastjson_Value_GetObject.e (v : (Option Addr)) (keys : (Option Addr)) (keys_len : Nat) (keys_cap : Nat) : fnT Tryz.prog fastjson_Value_GetObject.h Tryz.f30 fastjson_Value_GetObject.c [.v (Value.pointer v), .v (Value.slice keys keys_len keys_cap)] = fastjson_Value_GetObject.t v keys keys_len keys_cap := by kernel_rfl
theorem fastjson_Value_GetObject.calls (v : (Option Addr)) (keys : (Option Addr)) (keys_len : Nat) (keys_cap : Nat) {w : World} {R : Ending → World → Prop} (hs : sat Tryz.prog (fastjson_Value_GetObject.t v keys keys_len keys_cap) (fun l vs w' => l = 0 ∧ R (.returned (retVal vs)) w') w) : Calls Tryz.prog 30 #[(Value.pointer v), (Value.slice keys keys_len keys_cap)] w R :=
  have h := calls_of_tree (w := w) (R := R) (args := [.v (Value.pointer v), .v (Value.slice keys keys_len keys_cap)]) (c := fastjson_Value_GetObject.c) Tryz.func30 (show Tryz.f30.body = some fastjson_Value_GetObject.c by kernel_rfl) (of_decide_eq_true (by kernel_rfl)) (fastjson_Value_GetObject.e v keys keys_len keys_cap) hs
  h

/-! ### pub-tetrapla/impl.fjNodes : function 31 -/
def impl_fjNodes.t1 (vs : (Option Addr)) (vs_len : Nat) (i0 : Int) (z1 : ((Option Addr) × (Nat × Nat))) : T :=
  .ite (decide (i0 < ((vs_len : Nat) : Int))) (
    .chk (((0 : Int) ≤ i0) ∧ (i0 < ((vs_len : Nat) : Int))) <|
    .ptr vs fun (z2 : Addr) =>
    .load (Addr.add z2 ((Int.toNat i0) * 1)) .ptr fun (p3 : (Option Addr)) =>
    .call 17 #[(Value.pointer p3)] (.agg (.cons (.int .i64) (.cons .str (.cons .slice (.cons .slice .nil))))) fun (z4 : (Int × (ByteArray × (((Option Addr) × (Nat × Nat)) × (((Option Addr) × (Nat × Nat)) × PUnit))))) =>
    .eff (Instr.buildSlice 24 1 #[(0, (Value.agg #[(Value.int IntKind.i64 (z4).1), (Value.string ((z4).2).1), (Value.slice ((((z4).2).2).1).1 (((((z4).2).2).1).2).1 (((((z4).2).2).1).2).2), (Value.slice (((((z4).2).2).2).1).1 ((((((z4).2).2).2).1).2).1 ((((((z4).2).2).2).1).2).2)]))]) .slice fun (z5 : ((Option Addr) × (Nat × Nat))) =>
    .eff (Builtin.append_ (Call.argTypes (Call.mk (Callee.builtin Builtin.append) #[(Operand.tmp 12), (Operand.tmp 15)] #[24, 24])) 24 #[(Value.slice (z1).1 ((z1).2).1 ((z1).2).2), (Value.slice (z5).1 ((z5).2).1 ((z5).2).2)]) .slice fun (z6 : ((Option Addr) × (Nat × Nat))) =>
    .leaf 1 [(Value.int IntKind.i64 (IntKind.wrap IntKind.i64 (i0 + (1 : Int)))), (Value.slice (z6).1 ((z6).2).1 ((z6).2).2)]) (
    .leaf 0 [(Value.slice (z1).1 ((z1).2).1 ((z1).2).2)])
def impl_fjNodes.t (vs : (Option Addr)) (vs_len : Nat) (vs_cap : Nat) : T :=
  .loop 1 (.cons (.int .i64) (.cons .slice .nil)) [(Value.int IntKind.i64 (0 : Int)), (Value.slice none 0 0)]
    (fun z => impl_fjNodes.t1 vs vs_len z.1 z.2.1)
def impl_fjNodes.h : Hints := ⟨[], [], [], [(3, [(8, (.int .i64)), (3, .slice)])]⟩
noncomputable def impl_fjNodes.c : Code := (Tryz.f31.body).getD .skip
theorem impl_fjNodes.e (vs : (Option Addr)) (vs_len : Nat) (vs_cap : Nat) : fnT Tryz.prog impl_fjNodes.h Tryz.f31 impl_fjNodes.c [.v (Value.slice vs vs_len vs_cap)] = impl_fjNodes.t vs vs_len vs_cap := by kernel_rfl
theorem impl_fjNodes.calls (vs : (Option Addr)) (vs_len : Nat) (vs_cap : Nat) {w : World} {R : Ending → World → Prop} (hs : sat Tryz.prog (impl_fjNodes.t vs vs_len vs_cap) (fun l vs w' => l = 0 ∧ R (.returned (retVal vs)) w') w) : Calls Tryz.prog 31 #[(Value.slice vs vs_len vs_cap)] w R :=
  have h := calls_of_tree (w := w) (R := R) (args := [.v (Value.slice vs vs_len vs_cap)]) (c := impl_fjNodes.c) Tryz.func31 (show Tryz.f31.body = some impl_fjNodes.c by kernel_rfl) (of_decide_eq_true (by kernel_rfl)) (impl_fjNodes.e vs vs_len vs_cap) hs
  h

/-! ### (*pub-tetrapla/pub/fastjson.Value).GetArray : function 32 -/
def fastjson_Value_GetArray.t (v : (Option Addr)) (keys : (Option Addr)) (keys_len : Nat) (keys_cap : Nat) : T :=
  .call 53 #[(Value.pointer v), (Value.slice keys keys_len keys_cap)] .ptr fun (p0 : (Option Addr)) =>
  .ite (Option.isNone p0) (
    .leaf 0 [(Value.slice none 0 0)]) (
    .ptr p0 fun (z1 : Addr) =>
    .load (Addr.add z1 4) (.int .i64) fun (i2 : Int) =>
    .ite (i2 != (2 : Int)) (
      .leaf 0 [(Value.slice none 0 0)]) (
      .ptr p0 fun (z3 : Addr) =>
      .load (Addr.add z3 2) .slice fun (z4 : ((Option Addr) × (Nat × Nat))) =>
      .leaf 0 [(Value.slice (z4).1 ((z4).2).1 ((z4).2).2)]))
def fastjson_Value_GetArray.h : Hints := ⟨[], [], [], []⟩
noncomputable def fastjson_Value_GetArray.c : Code := (Tryz.f32.body).getD .skip
theorem fastjson_Value_GetArray.e (v : (Option Addr)) (keys : (Option Addr)) (keys_len : Nat) (keys_cap : Nat) : fnT Tryz.prog fastjson_Value_GetArray.h Tryz.f32 fastjson_Value_GetArray.c [.v (Value.pointer v), .v (Value.slice keys keys_len keys_cap)] = fastjson_Value_GetArray.t v keys keys_len keys_cap := by kernel_rfl
theorem fastjson_Value_GetArray.calls (v : (Option Addr)) (keys : (Option Addr)) (keys_len : Nat) (keys_cap : Nat) {w : World} {R : Ending → World → Prop} (hs : sat Tryz.prog (fastjson_Value_GetArray.t v keys keys_len keys_cap) (fun l vs w' => l = 0 ∧ R (.returned (retVal vs)) w') w) : Calls Tryz.prog 32 #[(Value.pointer v), (Value.slice keys keys_len keys_cap)] w R :=
  have h := calls_of_tree (w := w) (R := R) (args := [.v (Value.pointer v), .v (Value.slice keys keys_len keys_cap)]) (c := fastjson_Value_GetArray.c) Tryz.func32 (show Tryz.f32.body = some fastjson_Value_GetArray.c by kernel_rfl) (of_decide_eq_true (by kernel_rfl)) (fastjson_Value_GetArray.e v keys keys_len keys_cap) hs
  h

/-! ### (*pub-tetrapla/pub/fastjson.Value).GetStringBytes : function 33 -/
def fastjson_Value_GetStringBytes.t (v : (Option Addr)) (keys : (Option Addr)) (keys_len : Nat) (keys_cap : Nat) : T :=
  .call 53 #[(Value.pointer v), (Value.slice keys keys_len keys_cap)] .ptr fun (p0 : (Option Addr)) =>
  .ite (Option.isNone p0) (
    .leaf 0 [(Value.slice none 0 0)]) (
    .call 28 #[(Value.pointer p0)] (.int .i64) fun (i1 : Int) =>
    .ite (i1 != (3 : Int)) (
      .leaf 0 [(Value.slice none 0 0)]) (
      .ptr p0 fun (z2 : Addr) =>
      .load (Addr.add z2 3) .str fun (s3 : ByteArray) =>
      .call 54 #[(Value.string s3)] .slice fun (z4 : ((Option Addr) × (Nat × Nat))) =>
      .leaf 0 [(Value.slice (z4).1 ((z4).2).1 ((z4).2).2)]))
def fastjson_Value_GetStringBytes.h : Hints := ⟨[], [], [], []⟩
noncomputable def fastjson_Value_GetStringBytes.c : Code := (Tryz.f33.body).getD .skip
theorem fastjson_Value_GetStringBytes.e (v : (Option Addr)) (keys : (Option Addr)) (keys_len : Nat) (keys_cap : Nat) : fnT Tryz.prog fastjson_Value_GetStringBytes.h Tryz.f33 fastjson_Value_GetStringBytes.c [.v (Value.pointer v), .v (Value.slice keys keys_len keys_cap)] = fastjson_Value_GetStringBytes.t v keys keys_len keys_cap := by kernel_rfl
theorem fastjson_Value_GetStringBytes.calls (v : (Option Addr)) (keys : (Option Addr)) (keys_len : Nat) (keys_cap : Nat) {w : World} {R : Ending → World → Prop} (hs : sat Tryz.prog (fastjson_Value_GetStringBytes.t v keys keys_len keys_cap) (fun l vs w' => l = 0 ∧ R (.returned (retVal vs)) w') w) : Calls Tryz.prog 33 #[(Value.pointer v), (Value.slice keys keys_len keys_cap)] w R :=
  have h := calls_of_tree (w := w) (R := R) (args := [.v (Value.pointer v), .v (Value.slice keys keys_len keys_cap)]) (c := fastjson_Value_GetStringBytes.c) Tryz.func33 (show Tryz.f33.body = some fastjson_Value_GetStringBytes.c by kernel_rfl) (of_decide_eq_true (by kernel_rfl)) (fastjson_Value_GetStringBytes.e v keys keys_len keys_cap) hs
  h

/-! ### (*pub-tetrapla/pub/fastjson.Value).MarshalTo : function 34 -/
def fastjson_Value_MarshalTo.t1 (q0 : (Option Addr)) (z14 : ((Option Addr) × (Nat × Nat))) (i15 : Int) (z16 : ((Option Addr) × (Nat × Nat))) : T :=
  .ite (decide (i15 < ((((z14).2).1 : Nat) : Int))) (
    .chk (((0 : Int) ≤ i15) ∧ (i15 < ((((z14).2).1 : Nat) : Int))) <|
    .ptr (z14).1 fun (z17 : Addr) =>
    .load (Addr.add z17 ((Int.toNat i15) * 1)) .ptr fun (p18 : (Option Addr)) =>
    .call 34 #[(Value.pointer p18), (Value.slice (z16).1 ((z16).2).1 ((z16).2).2)] .slice fun (z19 : ((Option Addr) × (Nat × Nat))) =>
    .ptr q0 fun (z20 : Addr) =>
    .load (Addr.add z20 2) .slice fun (z21 : ((Option Addr) × (Nat × Nat))) =>
    .ite (i15 != (IntKind.wrap IntKind.i64 (((((z21).2).1 : Nat) : Int) - (1 : Int)))) (
      .eff (Instr.buildSlice 43 1 #[(0, (Value.int IntKind.u8 (44 : Int)))]) .slice fun (z22 : ((Option Addr) × (Nat × Nat))) =>
      .eff (Builtin.append_ (Call.argTypes (Call.mk (Callee.builtin Builtin.append) #[(Operand.tmp 60), (Operand.tmp 61)] #[43, 43])) 43 #[(Value.slice (z19).1 ((z19).2).1 ((z19).2).2), (Value.slice (z22).1 ((z22).2).1 ((z22).2).2)]) .slice fun (z23 : ((Option Addr) × (Nat × Nat))) =>
      .leaf 1 [(Value.int IntKind.i64 (IntKind.wrap IntKind.i64 (i15 + (1 : Int)))), (Value.slice (z23).1 ((z23).2).1 ((z23).2).2)]) (
      .leaf 1 [(Value.int IntKind.i64 (IntKind.wrap IntKind.i64 (i15 + (1 : Int)))), (Value.slice (z19).1 ((z19).2).1 ((z19).2).2)])) (
    .eff (Instr.buildSlice 43 1 #[(0, (Value.int IntKind.u8 (93 : Int)))]) .slice fun (z24 : ((Option Addr) × (Nat × Nat))) =>
    .eff (Builtin.append_ (Call.argTypes (Call.mk (Callee.builtin Builtin.append) #[(Operand.tmp 64), (Operand.tmp 65)] #[43, 43])) 43 #[(Value.slice (z16).1 ((z16).2).1 ((z16).2).2), (Value.slice (z24).1 ((z24).2).1 ((z24).2).2)]) .slice fun (z25 : ((Option Addr) × (Nat × Nat))) =>
    .leaf 0 [(Value.slice (z25).1 ((z25).2).1 ((z25).2).2)])
def fastjson_Value_MarshalTo.t (q0 : (Option Addr)) (q1 : (Option Addr)) (q1_len : Nat) (q1_cap : Nat) : T :=
  .ptr q0 fun (z0 : Addr) =>
  .load (Addr.add z0 4) (.int .i64) fun (i1 : Int) =>
  .ite (i1 == (7 : Int)) (
    .eff (Instr.buildSlice 43 1 #[(0, (Value.int IntKind.u8 (34 : Int)))]) .slice fun (z2 : ((Option Addr) × (Nat × Nat))) =>
    .eff (Builtin.append_ (Call.argTypes (Call.mk (Callee.builtin Builtin.append) #[(Operand.tmp 14), (Operand.tmp 15)] #[43, 43])) 43 #[(Value.slice q1 q1_len q1_cap), (Value.slice (z2).1 ((z2).2).1 ((z2).2).2)]) .slice fun (z3 : ((Option Addr) × (Nat × Nat))) =>
    .ptr q0 fun (z4 : Addr) =>
    .load (Addr.add z4 3) .str fun (s5 : ByteArray) =>
    .eff (Builtin.append_ (Call.argTypes (Call.mk (Callee.builtin Builtin.append) #[(Operand.tmp 17), (Operand.tmp 21)] #[43, 9])) 43 #[(Value.slice (z3).1 ((z3).2).1 ((z3).2).2), (Value.string s5)]) .slice fun (z6 : ((Option Addr) × (Nat × Nat))) =>
    .eff (Instr.buildSlice 43 1 #[(0, (Value.int IntKind.u8 (34 : Int)))]) .slice fun (z7 : ((Option Addr) × (Nat × Nat))) =>
    .eff (Builtin.append_ (Call.argTypes (Call.mk (Callee.builtin Builtin.append) #[(Operand.tmp 23), (Operand.tmp 24)] #[43, 43])) 43 #[(Value.slice (z6).1 ((z6).2).1 ((z6).2).2), (Value.slice (z7).1 ((z7).2).1 ((z7).2).2)]) .slice fun (z8 : ((Option Addr) × (Nat × Nat))) =>
    .leaf 0 [(Value.slice (z8).1 ((z8).2).1 ((z8).2).2)]) (
    .ite (i1 == (1 : Int)) (
      .ptr q0 fun (z9 : Addr) =>
      .call 55 #[(Value.pointer (some (Addr.add z9 0))), (Value.slice q1 q1_len q1_cap)] .slice fun (z10 : ((Option Addr) × (Nat × Nat))) =>
      .leaf 0 [(Value.slice (z10).1 ((z10).2).1 ((z10).2).2)]) (
      .ite (i1 == (2 : Int)) (
        .eff (Instr.buildSlice 43 1 #[(0, (Value.int IntKind.u8 (91 : Int)))]) .slice fun (z11 : ((Option Addr) × (Nat × Nat))) =>
        .eff (Builtin.append_ (Call.argTypes (Call.mk (Callee.builtin Builtin.append) #[(Operand.tmp 36), (Operand.tmp 37)] #[43, 43])) 43 #[(Value.slice q1 q1_len q1_cap), (Value.slice (z11).1 ((z11).2).1 ((z11).2).2)]) .slice fun (z12 : ((Option Addr) × (Nat × Nat))) =>
        .ptr q0 fun (z13 : Addr) =>
        .load (Addr.add z13 2) .slice fun (z14 : ((Option Addr) × (Nat × Nat))) =>
        .loop 1 (.cons (.int .i64) (.cons .slice .nil)) [(Value.int IntKind.i64 (0 : Int)), (Value.slice (z12).1 ((z12).2).1 ((z12).2).2)]
          (fun z => fastjson_Value_MarshalTo.t1 q0 z14 z.1 z.2.1)) (
        .ite (i1 == (3 : Int)) (
          .ptr q0 fun (z26 : Addr) =>
          .load (Addr.add z26 3) .str fun (s27 : ByteArray) =>
          .call 56 #[(Value.slice q1 q1_len q1_cap), (Value.string s27)] .slice fun (z28 : ((Option Addr) × (Nat × Nat))) =>
          .leaf 0 [(Value.slice (z28).1 ((z28).2).1 ((z28).2).2)]) (
          .ite (i1 == (4 : Int)) (
            .ptr q0 fun (z29 : Addr) =>
            .load (Addr.add z29 3) .str fun (s30 : ByteArray) =>
            .eff (Builtin.append_ (Call.argTypes (Call.mk (Callee.builtin Builtin.append) #[(Operand.tmp 78), (Operand.tmp 82)] #[43, 9])) 43 #[(Value.slice q1 q1_len q1_cap), (Value.string s30)]) .slice fun (z31 : ((Option Addr) × (Nat × Nat))) =>
            .leaf 0 [(Value.slice (z31).1 ((z31).2).1 ((z31).2).2)]) (
            .ite (i1 == (5 : Int)) (
              .eff (Builtin.append_ (Call.argTypes (Call.mk (Callee.builtin Builtin.append) #[(Operand.tmp 86), (Operand.const (Value.string (ByteArray.mk #[(116 : UInt8), (114 : UInt8), (117 : UInt8), (101 : UInt8)])))] #[43, 9])) 43 #[(Value.slice q1 q1_len q1_cap), (Value.string (ByteArray.mk #[(116 : UInt8), (114 : UInt8), (117 : UInt8), (101 : UInt8)]))]) .slice fun (z32 : ((Option Addr) × (Nat × Nat))) =>
              .leaf 0 [(Value.slice (z32).1 ((z32).2).1 ((z32).2).2)]) (
              .ite (i1 == (6 : Int)) (
                .eff (Builtin.append_ (Call.argTypes (Call.mk (Callee.builtin Builtin.append) #[(Operand.tmp 90), (Operand.const (Value.string (ByteArray.mk #[(102 : UInt8), (97 : UInt8), (108 : UInt8), (115 : UInt8), (101 : UInt8)])))] #[43, 9])) 43 #[(Value.slice q1 q1_len q1_cap), (Value.string (ByteArray.mk #[(102 : UInt8), (97 : UInt8), (108 : UInt8), (115 : UInt8), (101 : UInt8)]))]) .slice fun (z33 : ((Option Addr) × (Nat × Nat))) =>
                .leaf 0 [(Value.slice (z33).1 ((z33).2).1 ((z33).2).2)]) (
                .ite (i1 == (0 : Int)) (
                  .eff (Builtin.append_ (Call.argTypes (Call.mk (Callee.builtin Builtin.append) #[(Operand.tmp 94), (Operand.const (Value.string (ByteArray.mk #[(110 : UInt8), (117 : UInt8), (108 : UInt8), (108 : UInt8)])))] #[43, 9])) 43 #[(Value.slice q1 q1_len q1_cap), (Value.string (ByteArray.mk #[(110 : UInt8), (117 : UInt8), (108 : UInt8), (108 : UInt8)]))]) .slice fun (z34 : ((Option Addr) × (Nat × Nat))) =>
                  .leaf 0 [(Value.slice (z34).1 ((z34).2).1 ((z34).2).2)]) (
                  .call 38 #[(Value.string (ByteArray.mk #[(66 : UInt8), (85 : UInt8), (71 : UInt8), (58 : UInt8), (32 : UInt8), (117 : UInt8), (110 : UInt8), (101 : UInt8), (120 : UInt8), (112 : UInt8), (101 : UInt8), (99 : UInt8), (116 : UInt8), (101 : UInt8), (100 : UInt8), (32 : UInt8), (86 : UInt8), (97 : UInt8), (108 : UInt8), (117 : UInt8), (101 : UInt8), (32 : UInt8), (116 : UInt8), (121 : UInt8), (112 : UInt8), (101 : UInt8)]))] .any fun (v35 : Value) =>
                  .fail 29))))))))
def fastjson_Value_MarshalTo.h : Hints := ⟨[], [], [], [(13, [(44, (.int .i64)), (1, .slice)])]⟩
noncomputable def fastjson_Value_MarshalTo.c : Code := (Tryz.f34.body).getD .skip
theorem fastjson_Value_MarshalTo.e (q0 : (Option Addr)) (q1 : (Option Addr)) (q1_len : Nat) (q1_cap : Nat) : fnT Tryz.prog fastjson_Value_MarshalTo.h Tryz.f34 fastjson_Value_MarshalTo.c [.v (Value.pointer q0), .v (Value.slice q1 q1_len q1_cap)] = fastjson_Value_MarshalTo.t q0 q1 q1_len q1_cap := by kernel_rfl
theorem fastjson_Value_MarshalTo.calls (q0 : (Option Addr)) (q1 : (Option Addr)) (q1_len : Nat) (q1_cap : Nat) {w : World} {R : Ending → World → Prop} (hs : sat Tryz.prog (fastjson_Value_MarshalTo.t q0 q1 q1_len q1_cap) (fun l vs w' => l = 0 ∧ R (.returned (retVal vs)) w') w) : Calls Tryz.prog 34 #[(Value.pointer q0), (Value.slice q1 q1_len q1_cap)] w R :=
  have h := calls_of_tree (w := w) (R := R) (args := [.v (Value.pointer q0), .v (Value.slice q1 q1_len q1_cap)]) (c := fastjson_Value_MarshalTo.c) Tryz.func34 (show Tryz.f34.body = some fastjson_Value_MarshalTo.c by kernel_rfl) (of_decide_eq_true (by kernel_rfl)) (fastjson_Value_MarshalTo.e q0 q1 q1_len q1_cap) hs
  h

/-! ### (*pub-tetrapla/pub/fastjson.Object).Visit : function 51 -/
def fastjson_Object_Visit.t1 (f : Value) (z1 : ((Option Addr) × (Nat × Nat))) (i2 : Int) : T :=
  .ite (decide (i2 < ((((z1).2).1 : Nat) : Int))) (
    .chk (((0 : Int) ≤ i2) ∧ (i2 < ((((z1).2).1 : Nat) : Int))) <|
    .ptr (z1).1 fun (z3 : Addr) =>
    .drew <|
    .load (Addr.add (Addr.add z3 ((Int.toNat i2) * 2)) 0) .str fun (s4 : ByteArray) =>
    .load (Addr.add (Addr.add z3 ((Int.toNat i2) * 2)) 1) .ptr fun (p5 : (Option Addr)) =>
    .here fun (z6 : World) =>
    .call 54 #[(Value.string s4)] .slice fun (z7 : ((Option Addr) × (Nat × Nat))) =>
    .grew z6 <|
    .callD f #[(Value.slice (z7).1 ((z7).2).1 ((z7).2).2), (Value.pointer p5)] (.tuple .nil) fun _ =>
    .leaf 1 [(Value.int IntKind.i64 (IntKind.wrap IntKind.i64 (i2 + (1 : Int))))]) (
    .leaf 0 [])
def fastjson_Object_Visit.t (o : (Option Addr)) (f : Value) : T :=
  .ite (Option.isNone o) (
    .leaf 0 []) (
    .call 79 #[(Value.pointer o)] (.tuple .nil) fun _ =>
    .ptr o fun (z0 : Addr) =>
    .load (Addr.add z0 0) .slice fun (z1 : ((Option Addr) × (Nat × Nat))) =>
    .loop 1 (.cons (.int .i64) .nil) [(Value.int IntKind.i64 (0 : Int))]
      (fun z => fastjson_Object_Visit.t1 f z1 z.1))
def fastjson_Object_Visit.h : Hints := ⟨[], [], [], [(4, [(17, (.int .i64))])]⟩
noncomputable def fastjson_Object_Visit.c : Code := (Tryz.f51.body).getD .skip
theorem fastjson_Object_Visit.e (o : (Option Addr)) (f : Value) : fnT Tryz.prog fastjson_Object_Visit.h Tryz.f51 fastjson_Object_Visit.c [.v (Value.pointer o), .o f] = fastjson_Object_Visit.t o f := by kernel_rfl
theorem fastjson_Object_Visit.calls (o : (Option Addr)) (f : Value) {w : World} {R : Ending → World → Prop} (hs : sat Tryz.prog (fastjson_Object_Visit.t o f) (fun l vs w' => l = 0 ∧ R (.returned (retVal vs)) w') w) : Calls Tryz.prog 51 #[(Value.pointer o), f] w R :=
  have h := calls_of_tree (w := w) (R := R) (args := [.v (Value.pointer o), .o f]) (c := fastjson_Object_Visit.c) Tryz.func51 (show Tryz.f51.body = some fastjson_Object_Visit.c by kernel_rfl) (of_decide_eq_true (by kernel_rfl)) (fastjson_Object_Visit.e o f) hs
  h

/-! ### (*pub-tetrapla/pub/fastjson.Value).Get : function 53 -/
def fastjson_Value_Get.t1 (keys : (Option Addr)) (keys_len : Nat) (i0 : Int) (p1 : (Option Addr)) : T :=
  .ite (decide (i0 < ((keys_len : Nat) : Int))) (
    .chk (((0 : Int) ≤ i0) ∧ (i0 < ((keys_len : Nat) : Int))) <|
    .ptr keys fun (z2 : Addr) =>
    .load (Addr.add z2 ((Int.toNat i0) * 1)) .str fun (s3 : ByteArray) =>
    .ptr p1 fun (z4 : Addr) =>
    .load (Addr.add z4 4) (.int .i64) fun (i5 : Int) =>
    .ite (i5 == (1 : Int)) (
      .ptr p1 fun (z6 : Addr) =>
      .call 80 #[(Value.pointer (some (Addr.add z6 0))), (Value.string s3)] .ptr fun (p7 : (Option Addr)) =>
      .ite (Option.isNone p7) (
        .leaf 0 [(Value.pointer none)]) (
        .leaf 1 [(Value.int IntKind.i64 (IntKind.wrap IntKind.i64 (i0 + (1 : Int)))), (Value.pointer p7)])) (
      .ptr p1 fun (z8 : Addr) =>
      .load (Addr.add z8 4) (.int .i64) fun (i9 : Int) =>
      .ite (i9 == (2 : Int)) (
        .call 81 #[(Value.string s3)] (.tuple (.cons (.int .i64) (.cons .any .nil))) fun (z10 : (Int × (Value × PUnit))) =>
        .chk ((isIface ((z10).2).1) = Bool.true) <|
        .ite (!(isNil ((z10).2).1)) (
          .leaf 0 [(Value.pointer none)]) (
          .ite (decide ((z10).1 < (0 : Int))) (
            .leaf 0 [(Value.pointer none)]) (
            .ptr p1 fun (z11 : Addr) =>
            .load (Addr.add z11 2) .slice fun (z12 : ((Option Addr) × (Nat × Nat))) =>
            .ite (decide ((z10).1 ≥ ((((z12).2).1 : Nat) : Int))) (
              .leaf 0 [(Value.pointer none)]) (
              .ptr p1 fun (z13 : Addr) =>
              .load (Addr.add z13 2) .slice fun (z14 : ((Option Addr) × (Nat × Nat))) =>
              .chk (((0 : Int) ≤ (z10).1) ∧ ((z10).1 < ((((z14).2).1 : Nat) : Int))) <|
              .ptr (z14).1 fun (z15 : Addr) =>
              .load (Addr.add z15 ((Int.toNat (z10).1) * 1)) .ptr fun (p16 : (Option Addr)) =>
              .leaf 1 [(Value.int IntKind.i64 (IntKind.wrap IntKind.i64 (i0 + (1 : Int)))), (Value.pointer p16)])))) (
        .leaf 0 [(Value.pointer none)]))) (
    .leaf 0 [(Value.pointer p1)])
def fastjson_Value_Get.t (v : (Option Addr)) (keys : (Option Addr)) (keys_len : Nat) (keys_cap : Nat) : T :=
  .ite (Option.isNone v) (
    .leaf 0 [(Value.pointer none)]) (
    .loop 1 (.cons (.int .i64) (.cons .ptr .nil)) [(Value.int IntKind.i64 (0 : Int)), (Value.pointer v)]
      (fun z => fastjson_Value_Get.t1 keys keys_len z.1 z.2.1))
def fastjson_Value_Get.h : Hints := ⟨[], [], [], [(4, [(13, (.int .i64)), (0, .ptr)])]⟩
noncomputable def fastjson_Value_Get.c : Code := (Tryz.f53.body).getD .skip
theorem fastjson_Value_Get.e (v : (Option Addr)) (keys : (Option Addr)) (keys_len : Nat) (keys_cap : Nat) : fnT Tryz.prog fastjson_Value_Get.h Tryz.f53 fastjson_Value_Get.c [.v (Value.pointer v), .v (Value.slice keys keys_len keys_cap)] = fastjson_Value_Get.t v keys keys_len keys_cap := by kernel_rfl
theorem fastjson_Value_Get.calls (v : (Option Addr)) (keys : (Option Addr)) (keys_len : Nat) (keys_cap : Nat) {w : World} {R : Ending → World → Prop} (hs : sat Tryz.prog (fastjson_Value_Get.t v keys keys_len keys_cap) (fun l vs w' => l = 0 ∧ R (.returned (retVal vs)) w') w) : Calls Tryz.prog 53 #[(Value.pointer v), (Value.slice keys keys_len keys_cap)] w R :=
  have h := calls_of_tree (w := w) (R := R) (args := [.v (Value.pointer v), .v (Value.slice keys keys_len keys_cap)]) (c := fastjson_Value_Get.c) Tryz.func53 (show Tryz.f53.body = some fastjson_Value_Get.c by kernel_rfl) (of_decide_eq_true (by kernel_rfl)) (fastjson_Value_Get.e v keys keys_len keys_cap) hs
  h

/-! ### (*pub-tetrapla/pub/fastjson.Object).unescapeKeys : function 79 -/
def fastjson_Object_unescapeKeys.t1 (o : (Option Addr)) (z3 : ((Option Addr) × (Nat × Nat))) (i4 : Int) : T :=
  .ite (decide (i4 < ((((z3).2).1 : Nat) : Int))) (
    .chk (((0 : Int) ≤ i4) ∧ (i4 < ((((z3).2).1 : Nat) : Int))) <|
    .ptr (z3).1 fun (z5 : Addr) =>
    .load (Addr.add (Addr.add z5 ((Int.toNat i4) * 2)) 0) .str fun (s6 : ByteArray) =>
    .call 50 #[(Value.string s6)] .str fun (s7 : ByteArray) =>
    .store (Addr.add (Addr.add z5 ((Int.toNat i4) * 2)) 0) (Value.string s7) <|
    .leaf 1 [(Value.int IntKind.i64 (IntKind.wrap IntKind.i64 (i4 + (1 : Int))))]) (
    .ptr o fun (z8 : Addr) =>
    .store (Addr.add z8 1) (Value.bool Bool.true) <|
    .leaf 0 [])
def fastjson_Object_unescapeKeys.t (o : (Option Addr)) : T :=
  .ptr o fun (z0 : Addr) =>
  .load (Addr.add z0 1) .bool fun (b1 : Bool) =>
  .ite b1 (
    .leaf 0 []) (
    .ptr o fun (z2 : Addr) =>
    .load (Addr.add z2 0) .slice fun (z3 : ((Option Addr) × (Nat × Nat))) =>
    .loop 1 (.cons (.int .i64) .nil) [(Value.int IntKind.i64 (0 : Int))]
      (fun z => fastjson_Object_unescapeKeys.t1 o z3 z.1))
def fastjson_Object_unescapeKeys.h : Hints := ⟨[], [], [], [(3, [(15, (.int .i64))])]⟩
noncomputable def fastjson_Object_unescapeKeys.c : Code := (Tryz.f79.body).getD .skip
theorem fastjson_Object_unescapeKeys.e (o : (Option Addr)) : fnT Tryz.prog fastjson_Object_unescapeKeys.h Tryz.f79 fastjson_Object_unescapeKeys.c [.v (Value.pointer o)] = fastjson_Object_unescapeKeys.t o := by kernel_rfl
theorem fastjson_Object_unescapeKeys.calls (o : (Option Addr)) {w : World} {R : Ending → World → Prop} (hs : sat Tryz.prog (fastjson_Object_unescapeKeys.t o) (fun l vs w' => l = 0 ∧ R (.returned (retVal vs)) w') w) : Calls Tryz.prog 79 #[(Value.pointer o)] w R :=
  have h := calls_of_tree (w := w) (R := R) (args := [.v (Value.pointer o)]) (c := fastjson_Object_unescapeKeys.c) Tryz.func79 (show Tryz.f79.body = some fastjson_Object_unescapeKeys.c by kernel_rfl) (of_decide_eq_true (by kernel_rfl)) (fastjson_Object_unescapeKeys.e o) hs
  h

/-! ### pub-tetrapla/spec.Levels : function 6 -/
def spec_Levels.t1 (z0 : Addr) (i1 : Int) (i2 : Int) : T :=
  .load (Addr.add z0 3) .slice fun (z3 : ((Option Addr) × (Nat × Nat))) =>
  .ite (decide (i1 < ((((z3).2).1 : Nat) : Int))) (
    .load (Addr.add z0 3) .slice fun (z4 : ((Option Addr) × (Nat × Nat))) =>
    .chk (((0 : Int) ≤ i1) ∧ (i1 < ((((z4).2).1 : Nat) : Int))) <|
    .ptr (z4).1 fun (z5 : Addr) =>
    .eff (Instr.loadAt 26 (Value.pointer (some (Addr.add z5 ((Int.toNat i1) * 4))))) (.agg (.cons (.int .i64) (.cons .str (.cons .slice (.cons .slice .nil))))) fun (z6 : (Int × (ByteArray × (((Option Addr) × (Nat × Nat)) × (((Option Addr) × (Nat × Nat)) × PUnit))))) =>
    .call 6 #[(Value.agg #[(Value.int IntKind.i64 (z6).1), (Value.string ((z6).2).1), (Value.slice ((((z6).2).2).1).1 (((((z6).2).2).1).2).1 (((((z6).2).2).1).2).2), (Value.slice (((((z6).2).2).2).1).1 ((((((z6).2).2).2).1).2).1 ((((((z6).2).2).2).1).2).2)])] (.int .i64) fun (i7 : Int) =>
    .eff (Builtin.max_ (Call.argTypes (Call.mk (Callee.builtin Builtin.max) #[(Operand.tmp 12), (Operand.tmp 18)] #[3, 3])) 3 #[(Value.int IntKind.i64 i2), (Value.int IntKind.i64 i7)]) (.int .i64) fun (i8 : Int) =>
    .leaf 1 [(Value.int IntKind.i64 (IntKind.wrap IntKind.i64 (i1 + (1 : Int)))), (Value.int IntKind.i64 i8)]) (
    .leaf 0 [(Value.int IntKind.i64 (IntKind.wrap IntKind.i64 (i2 + (1 : Int))))])
def spec_Levels.t (n_0 : Int) (n_1 : ByteArray) (n_2 : (Option Addr)) (n_2_len : Nat) (n_2_cap : Nat) (n_3 : (Option Addr)) (n_3_len : Nat) (n_3_cap : Nat) : T :=
  .alloc (Obj.cells #[(Value.int IntKind.i64 n_0), (Value.string n_1), (Value.slice n_2 n_2_len n_2_cap), (Value.slice n_3 n_3_len n_3_cap)] 26 (0, 0)) fun (z0 : Addr) =>
  .loop 1 (.cons (.int .i64) (.cons (.int .i64) .nil)) [(Value.int IntKind.i64 (0 : Int)), (Value.int IntKind.i64 (0 : Int))]
    (fun z => spec_Levels.t1 z0 z.1 z.2.1)
def spec_Levels.h : Hints := ⟨[], [], [], [(3, [(4, (.int .i64)), (3, (.int .i64))])]⟩
noncomputable def spec_Levels.c : Code := (Tryz.f6.body).getD .skip
theorem spec_Levels.e (n_0 : Int) (n_1 : ByteArray) (n_2 : (Option Addr)) (n_2_len : Nat) (n_2_cap : Nat) (n_3 : (Option Addr)) (n_3_len : Nat) (n_3_cap : Nat) : fnT Tryz.prog spec_Levels.h Tryz.f6 spec_Levels.c [.v (Value.agg #[(Value.int IntKind.i64 n_0), (Value.string n_1), (Value.slice n_2 n_2_len n_2_cap), (Value.slice n_3 n_3_len n_3_cap)])] = spec_Levels.t n_0 n_1 n_2 n_2_len n_2_cap n_3 n_3_len n_3_cap := by kernel_rfl
theorem spec_Levels.calls (n_0 : Int) (n_1 : ByteArray) (n_2 : (Option Addr)) (n_2_len : Nat) (n_2_cap : Nat) (n_3 : (Option Addr)) (n_3_len : Nat) (n_3_cap : Nat) {w : World} {R : Ending → World → Prop} (hs : sat Tryz.prog (spec_Levels.t n_0 n_1 n_2 n_2_len n_2_cap n_3 n_3_len n_3_cap) (fun l vs w' => l = 0 ∧ R (.returned (retVal vs)) w') w) : Calls Tryz.prog 6 #[(Value.agg #[(Value.int IntKind.i64 n_0), (Value.string n_1), (Value.slice n_2 n_2_len n_2_cap), (Value.slice n_3 n_3_len n_3_cap)])] w R :=
  have h := calls_of_tree (w := w) (R := R) (args := [.v (Value.agg #[(Value.int IntKind.i64 n_0), (Value.string n_1), (Value.slice n_2 n_2_len n_2_cap), (Value.slice n_3 n_3_len n_3_cap)])]) (c := spec_Levels.c) Tryz.func6 (show Tryz.f6.body = some spec_Levels.c by kernel_rfl) (of_decide_eq_true (by kernel_rfl)) (spec_Levels.e n_0 n_1 n_2 n_2_len n_2_cap n_3 n_3_len n_3_cap) hs
  h

/-! ### pub-tetrapla/impl.FjValueAt : function 7 -/
def impl_FjValueAt.t (s : ByteArray) (depth : Int) : T :=
  .alloc (Obj.cells #[(Value.int IntKind.i64 (0 : Int)), (Value.string (ByteArray.mk #[])), (Value.slice none 0 0), (Value.slice none 0 0)] 26 (0, 0)) fun (z0 : Addr) =>
  .call 16 #[(Value.string s), (Value.int IntKind.i64 depth)] (.tuple (.cons .ptr (.cons .str (.cons .any .nil)))) fun (z1 : ((Option Addr) × (ByteArray × (Value × PUnit)))) =>
  .chk ((isIface (((z1).2).2).1) = Bool.true) <|
  .ite (!(isNil (((z1).2).2).1)) (
    .effU (Instr.storeAt 26 (Value.pointer (some z0)) (Value.agg #[(Value.int IntKind.i64 (0 : Int)), (Value.string (ByteArray.mk #[])), (Value.slice none 0 0), (Value.slice none 0 0)])) <|
    .effS (Instr.loadAt 26 (Value.pointer (some z0))) (.agg (.cons (.int .i64) (.cons .str (.cons .slice (.cons .slice .nil))))) fun (z2 : (Int × (ByteArray × (((Option Addr) × (Nat × Nat)) × (((Option Addr) × (Nat × Nat)) × PUnit))))) =>
    .leaf 0 [(Value.agg #[(Value.int IntKind.i64 (z2).1), (Value.string ((z2).2).1), (Value.slice ((((z2).2).2).1).1 (((((z2).2).2).1).2).1 (((((z2).2).2).1).2).2), (Value.slice (((((z2).2).2).2).1).1 ((((((z2).2).2).2).1).2).1 ((((((z2).2).2).2).1).2).2)]), (Value.string (ByteArray.mk #[])), (Value.bool Bool.false)]) (
    .call 17 #[(Value.pointer (z1).1)] (.agg (.cons (.int .i64) (.cons .str (.cons .slice (.cons .slice .nil))))) fun (z3 : (Int × (ByteArray × (((Option Addr) × (Nat × Nat)) × (((Option Addr) × (Nat × Nat)) × PUnit))))) =>
    .effU (Instr.storeAt 26 (Value.pointer (some z0)) (Value.agg #[(Value.int IntKind.i64 (z3).1), (Value.string ((z3).2).1), (Value.slice ((((z3).2).2).1).1 (((((z3).2).2).1).2).1 (((((z3).2).2).1).2).2), (Value.slice (((((z3).2).2).2).1).1 ((((((z3).2).2).2).1).2).1 ((((((z3).2).2).2).1).2).2)])) <|
    .effS (Instr.loadAt 26 (Value.pointer (some z0))) (.agg (.cons (.int .i64) (.cons .str (.cons .slice (.cons .slice .nil))))) fun (z4 : (Int × (ByteArray × (((Option Addr) × (Nat × Nat)) × (((Option Addr) × (Nat × Nat)) × PUnit))))) =>
    .leaf 0 [(Value.agg #[(Value.int IntKind.i64 (z4).1), (Value.string ((z4).2).1), (Value.slice ((((z4).2).2).1).1 (((((z4).2).2).1).2).1 (((((z4).2).2).1).2).2), (Value.slice (((((z4).2).2).2).1).1 ((((((z4).2).2).2).1).2).1 ((((((z4).2).2).2).1).2).2)]), (Value.string ((z1).2).1), (Value.bool Bool.true)])
def impl_FjValueAt.h : Hints := ⟨[], [], [], []⟩
noncomputable def impl_FjValueAt.c : Code := (Tryz.f7.body).getD .skip
theorem impl_FjValueAt.e (s : ByteArray) (depth : Int) : fnT Tryz.prog impl_FjValueAt.h Tryz.f7 impl_FjValueAt.c [.v (Value.string s), .v (Value.int IntKind.i64 depth)] = impl_FjValueAt.t s depth := by kernel_rfl
theorem impl_FjValueAt.calls (s : ByteArray) (depth : Int) {w : World} {R : Ending → World → Prop} (hs : sat Tryz.prog (impl_FjValueAt.t s depth) (fun l vs w' => l = 0 ∧ R (.returned (retVal vs)) w') w) : Calls Tryz.prog 7 #[(Value.string s), (Value.int IntKind.i64 depth)] w R :=
  have h := calls_of_tree (w := w) (R := R) (args := [.v (Value.string s), .v (Value.int IntKind.i64 depth)]) (c := impl_FjValueAt.c) Tryz.func7 (show Tryz.f7.body = some impl_FjValueAt.c by kernel_rfl) (of_decide_eq_true (by kernel_rfl)) (impl_FjValueAt.e s depth) hs
  h

/-! ### pub-tetrapla/impl.FjSkip : function 8 -/
def impl_FjSkip.t (s : ByteArray) : T :=
  .call 18 #[(Value.string s)] .str fun (s0 : ByteArray) =>
  .leaf 0 [(Value.string s0)]
def impl_FjSkip.h : Hints := ⟨[], [], [], []⟩
noncomputable def impl_FjSkip.c : Code := (Tryz.f8.body).getD .skip
theorem impl_FjSkip.e (s : ByteArray) : fnT Tryz.prog impl_FjSkip.h Tryz.f8 impl_FjSkip.c [.v (Value.string s)] = impl_FjSkip.t s := by kernel_rfl
theorem impl_FjSkip.calls (s : ByteArray) {w : World} {R : Ending → World → Prop} (hs : sat Tryz.prog (impl_FjSkip.t s) (fun l vs w' => l = 0 ∧ R (.returned (retVal vs)) w') w) : Calls Tryz.prog 8 #[(Value.string s)] w R :=
  have h := calls_of_tree (w := w) (R := R) (args := [.v (Value.string s)]) (c := impl_FjSkip.c) Tryz.func8 (show Tryz.f8.body = some impl_FjSkip.c by kernel_rfl) (of_decide_eq_true (by kernel_rfl)) (impl_FjSkip.e s) hs
  h

/-! ### pub-tetrapla/spec.Same : function 9 -/
def spec_Same.t3 (z0 : Addr) (z1 : Addr) (i19 : Int) : T :=
  .load (Addr.add z0 3) .slice fun (z20 : ((Option Addr) × (Nat × Nat))) =>
  .ite (decide (i19 < ((((z20).2).1 : Nat) : Int))) (
    .drew <|
    .load (Addr.add z0 3) .slice fun (z21 : ((Option Addr) × (Nat × Nat))) =>
    .chk (((0 : Int) ≤ i19) ∧ (i19 < ((((z21).2).1 : Nat) : Int))) <|
    .ptr (z21).1 fun (z22 : Addr) =>
    .effS (Instr.loadAt 26 (Value.pointer (some (Addr.add z22 ((Int.toNat i19) * 4))))) (.agg (.cons (.int .i64) (.cons .str (.cons .slice (.cons .slice .nil))))) fun (z23 : (Int × (ByteArray × (((Option Addr) × (Nat × Nat)) × (((Option Addr) × (Nat × Nat)) × PUnit))))) =>
    .load (Addr.add z1 3) .slice fun (z24 : ((Option Addr) × (Nat × Nat))) =>
    .chk (((0 : Int) ≤ i19) ∧ (i19 < ((((z24).2).1 : Nat) : Int))) <|
    .ptr (z24).1 fun (z25 : Addr) =>
    .effS (Instr.loadAt 26 (Value.pointer (some (Addr.add z25 ((Int.toNat i19) * 4))))) (.agg (.cons (.int .i64) (.cons .str (.cons .slice (.cons .slice .nil))))) fun (z26 : (Int × (ByteArray × (((Option Addr) × (Nat × Nat)) × (((Option Addr) × (Nat × Nat)) × PUnit))))) =>
    .call 9 #[(Value.agg #[(Value.int IntKind.i64 (z23).1), (Value.string ((z23).2).1), (Value.slice ((((z23).2).2).1).1 (((((z23).2).2).1).2).1 (((((z23).2).2).1).2).2), (Value.slice (((((z23).2).2).2).1).1 ((((((z23).2).2).2).1).2).1 ((((((z23).2).2).2).1).2).2)]), (Value.agg #[(Value.int IntKind.i64 (z26).1), (Value.string ((z26).2).1), (Value.slice ((((z26).2).2).1).1 (((((z26).2).2).1).2).1 (((((z26).2).2).1).2).2), (Value.slice (((((z26).2).2).2).1).1 ((((((z26).2).2).2).1).2).1 ((((((z26).2).2).2).1).2).2)])] .bool fun (b27 : Bool) =>
    .ite (!b27) (
      .leaf 0 [(Value.bool Bool.false)]) (
      .leaf 1 [(Value.int IntKind.i64 (IntKind.wrap IntKind.i64 (i19 + (1 : Int))))])) (
    .leaf 0 [(Value.bool Bool.true)])
def spec_Same.t2 (z0 : Addr) (z1 : Addr) (i11 : Int) : T :=
  .load (Addr.add z0 2) .slice fun (z12 : ((Option Addr) × (Nat × Nat))) =>
  .ite (decide (i11 < ((((z12).2).1 : Nat) : Int))) (
    .drew <|
    .load (Addr.add z0 2) .slice fun (z13 : ((Option Addr) × (Nat × Nat))) =>
    .chk (((0 : Int) ≤ i11) ∧ (i11 < ((((z13).2).1 : Nat) : Int))) <|
    .ptr (z13).1 fun (z14 : Addr) =>
    .load (Addr.add z14 ((Int.toNat i11) * 1)) .str fun (s15 : ByteArray) =>
    .load (Addr.add z1 2) .slice fun (z16 : ((Option Addr) × (Nat × Nat))) =>
    .chk (((0 : Int) ≤ i11) ∧ (i11 < ((((z16).2).1 : Nat) : Int))) <|
    .ptr (z16).1 fun (z17 : Addr) =>
    .load (Addr.add z17 ((Int.toNat i11) * 1)) .str fun (s18 : ByteArray) =>
    .ite (!(strEq s15 s18)) (
      .leaf 0 [(Value.bool Bool.false)]) (
      .leaf 1 [(Value.int IntKind.i64 (IntKind.wrap IntKind.i64 (i11 + (1 : Int))))])) (
    .loop 1 (.cons (.int .i64) .nil) [(Value.int IntKind.i64 (0 : Int))]
      (fun z => spec_Same.t3 z0 z1 z.1))
def spec_Same.t1 (z0 : Addr) (z1 : Addr) (b10 : Bool) : T :=
  .ite b10 (
    .leaf 0 [(Value.bool Bool.false)]) (
    .loop 1 (.cons (.int .i64) .nil) [(Value.int IntKind.i64 (0 : Int))]
      (fun z => spec_Same.t2 z0 z1 z.1))
def spec_Same.t (q0_0 : Int) (q0_1 : ByteArray) (q0_2 : (Option Addr)) (q0_2_len : Nat) (q0_2_cap : Nat) (q0_3 : (Option Addr)) (q0_3_len : Nat) (q0_3_cap : Nat) (q1_0 : Int) (q1_1 : ByteArray) (q1_2 : (Option Addr)) (q1_2_len : Nat) (q1_2_cap : Nat) (q1_3 : (Option Addr)) (q1_3_len : Nat) (q1_3_cap : Nat) : T :=
  .alloc (Obj.cells #[(Value.int IntKind.i64 q0_0), (Value.string q0_1), (Value.slice q0_2 q0_2_len q0_2_cap), (Value.slice q0_3 q0_3_len q0_3_cap)] 26 (0, 0)) fun (z0 : Addr) =>
  .alloc (Obj.cells #[(Value.int IntKind.i64 q1_0), (Value.string q1_1), (Value.slice q1_2 q1_2_len q1_2_cap), (Value.slice q1_3 q1_3_len q1_3_cap)] 26 (0, 0)) fun (z1 : Addr) =>
  .cut 1 (.cons .bool .nil) (
    .load (Addr.add z0 0) (.int .i64) fun (i2 : Int) =>
    .load (Addr.add z1 0) (.int .i64) fun (i3 : Int) =>
    .ite (i2 != i3) (
      .leaf 1 [(Value.bool Bool.true)]) (
      .load (Addr.add z0 1) .str fun (s4 : ByteArray) =>
      .load (Addr.add z1 1) .str fun (s5 : ByteArray) =>
      .ite (!(strEq s4 s5)) (
        .leaf 1 [(Value.bool Bool.true)]) (
        .load (Addr.add z0 2) .slice fun (z6 : ((Option Addr) × (Nat × Nat))) =>
        .load (Addr.add z1 2) .slice fun (z7 : ((Option Addr) × (Nat × Nat))) =>
        .ite (((((z6).2).1 : Nat) : Int) != ((((z7).2).1 : Nat) : Int)) (
          .leaf 1 [(Value.bool Bool.true)]) (
          .load (Addr.add z0 3) .slice fun (z8 : ((Option Addr) × (Nat × Nat))) =>
          .load (Addr.add z1 3) .slice fun (z9 : ((Option Addr) × (Nat × Nat))) =>
          .leaf 1 [(Value.bool (((((z8).2).1 : Nat) : Int) != ((((z9).2).1 : Nat) : Int)))]))))
    (fun z => spec_Same.t1 z0 z1 z.1)
def spec_Same.h : Hints := ⟨[], [], [(1, [(36, .bool)])], [(4, [(5, (.int .i64))]), (9, [(6, (.int .i64))])]⟩
noncomputable def spec_Same.c : Code := (Tryz.f9.body).getD .skip
theorem spec_Same.e (q0_0 : Int) (q0_1 : ByteArray) (q0_2 : (Option Addr)) (q0_2_len : Nat) (q0_2_cap : Nat) (q0_3 : (Option Addr)) (q0_3_len : Nat) (q0_3_cap : Nat) (q1_0 : Int) (q1_1 : ByteArray) (q1_2 : (Option Addr)) (q1_2_len : Nat) (q1_2_cap : Nat) (q1_3 : (Option Addr)) (q1_3_len : Nat) (q1_3_cap : Nat) : fnT Tryz.prog spec_Same.h Tryz.f9 spec_Same.c [.v (Value.agg #[(Value.int IntKind.i64 q0_0), (Value.string q0_1), (Value.slice q0_2 q0_2_len q0_2_cap), (Value.slice q0_3 q0_3_len q0_3_cap)]), .v (Value.agg #[(Value.int IntKind.i64 q1_0), (Value.string q1_1), (Value.slice q1_2 q1_2_len q1_2_cap), (Value.slice q1_3 q1_3_len q1_3_cap)])] = spec_Same.t q0_0 q0_1 q0_2 q0_2_len q0_2_cap q0_3 q0_3_len q0_3_cap q1_0 q1_1 q1_2 q1_2_len q1_2_cap q1_3 q1_3_len q1_3_cap := by kernel_rfl
theorem spec_Same.calls (q0_0 : Int) (q0_1 : ByteArray) (q0_2 : (Option Addr)) (q0_2_len : Nat) (q0_2_cap : Nat) (q0_3 : (Option Addr)) (q0_3_len : Nat) (q0_3_cap : Nat) (q1_0 : Int) (q1_1 : ByteArray) (q1_2 : (Option Addr)) (q1_2_len : Nat) (q1_2_cap : Nat) (q1_3 : (Option Addr)) (q1_3_len : Nat) (q1_3_cap : Nat) {w : World} {R : Ending → World → Prop} (hs : sat Tryz.prog (spec_Same.t q0_0 q0_1 q0_2 q0_2_len q0_2_cap q0_3 q0_3_len q0_3_cap q1_0 q1_1 q1_2 q1_2_len q1_2_cap q1_3 q1_3_len q1_3_cap) (fun l vs w' => l = 0 ∧ R (.returned (retVal vs)) w') w) : Calls Tryz.prog 9 #[(Value.agg #[(Value.int IntKind.i64 q0_0), (Value.string q0_1), (Value.slice q0_2 q0_2_len q0_2_cap), (Value.slice q0_3 q0_3_len q0_3_cap)]), (Value.agg #[(Value.int IntKind.i64 q1_0), (Value.string q1_1), (Value.slice q1_2 q1_2_len q1_2_cap), (Value.slice q1_3 q1_3_len q1_3_cap)])] w R :=
  have h := calls_of_tree (w := w) (R := R) (args := [.v (Value.agg #[(Value.int IntKind.i64 q0_0), (Value.string q0_1), (Value.slice q0_2 q0_2_len q0_2_cap), (Value.slice q0_3 q0_3_len q0_3_cap)]), .v (Value.agg #[(Value.int IntKind.i64 q1_0), (Value.string q1_1), (Value.slice q1_2 q1_2_len q1_2_cap), (Value.slice q1_3 q1_3_len q1_3_cap)])]) (c := spec_Same.c) Tryz.func9 (show Tryz.f9.body = some spec_Same.c by kernel_rfl) (of_decide_eq_true (by kernel_rfl)) (spec_Same.e q0_0 q0_1 q0_2 q0_2_len q0_2_cap q0_3 q0_3_len q0_3_cap q1_0 q1_1 q1_2 q1_2_len q1_2_cap q1_3 q1_3_len q1_3_cap) hs
  h

/-! ### pub-tetrapla/pub/fastjson.DoorValue : function 16 -/
def fastjson_DoorValue.t (s : ByteArray) (depth : Int) : T :=
  .alloc (Obj.cells #[(Value.slice none 0 0)] 46 (0, 0)) fun (z0 : Addr) =>
  .call 27 #[(Value.pointer (some z0)), (Value.string s), (Value.int IntKind.i64 depth)] (.tuple (.cons .ptr (.cons .str (.cons .any .nil)))) fun (z1 : ((Option Addr) × (ByteArray × (Value × PUnit)))) =>
  .leaf 0 [(Value.pointer (z1).1), (Value.string ((z1).2).1), (((z1).2).2).1]
def fastjson_DoorValue.h : Hints := ⟨[], [], [], []⟩
noncomputable def fastjson_DoorValue.c : Code := (Tryz.f16.body).getD .skip
theorem fastjson_DoorValue.e (s : ByteArray) (depth : Int) : fnT Tryz.prog fastjson_DoorValue.h Tryz.f16 fastjson_DoorValue.c [.v (Value.string s), .v (Value.int IntKind.i64 depth)] = fastjson_DoorValue.t s depth := by kernel_rfl
theorem fastjson_DoorValue.calls (s : ByteArray) (depth : Int) {w : World} {R : Ending → World → Prop} (hs : sat Tryz.prog (fastjson_DoorValue.t s depth) (fun l vs w' => l = 0 ∧ R (.returned (retVal vs)) w') w) : Calls Tryz.prog 16 #[(Value.string s), (Value.int IntKind.i64 depth)] w R :=
  have h := calls_of_tree (w := w) (R := R) (args := [.v (Value.string s), .v (Value.int IntKind.i64 depth)]) (c := fastjson_DoorValue.c) Tryz.func16 (show Tryz.f16.body = some fastjson_DoorValue.c by kernel_rfl) (of_decide_eq_true (by kernel_rfl)) (fastjson_DoorValue.e s depth) hs
  h

/-! ### pub-tetrapla/pub/fastjson.DoorSkip : function 18 -/
def fastjson_DoorSkip.t (s : ByteArray) : T :=
  .call 35 #[(Value.string s)] .str fun (s0 : ByteArray) =>
  .leaf 0 [(Value.string s0)]
def fastjson_DoorSkip.h : Hints := ⟨[], [], [], []⟩
noncomputable def fastjson_DoorSkip.c : Code := (Tryz.f18.body).getD .skip
theorem fastjson_DoorSkip.e (s : ByteArray) : fnT Tryz.prog fastjson_DoorSkip.h Tryz.f18 fastjson_DoorSkip.c [.v (Value.string s)] = fastjson_DoorSkip.t s := by kernel_rfl
theorem fastjson_DoorSkip.calls (s : ByteArray) {w : World} {R : Ending → World → Prop} (hs : sat Tryz.prog (fastjson_DoorSkip.t s) (fun l vs w' => l = 0 ∧ R (.returned (retVal vs)) w') w) : Calls Tryz.prog 18 #[(Value.string s)] w R :=
  have h := calls_of_tree (w := w) (R := R) (args := [.v (Value.string s)]) (c := fastjson_DoorSkip.c) Tryz.func18 (show Tryz.f18.body = some fastjson_DoorSkip.c by kernel_rfl) (of_decide_eq_true (by kernel_rfl)) (fastjson_DoorSkip.e s) hs
  h

/-! ### pub-tetrapla/laws.FnFjValueElements : function 3 -/
def laws_FnFjValueElements.t4 (i14 : Int) (z18 : ((Int × (ByteArray × (((Option Addr) × (Nat × Nat)) × (((Option Addr) × (Nat × Nat)) × PUnit)))) × (ByteArray × (Bool × PUnit)))) (b25 : Bool) : T :=
  .ite b25 (
    .leaf 0 [(Value.bool Bool.false)]) (
    .call 8 #[(Value.string ((z18).2).1)] .str fun (s26 : ByteArray) =>
    .ite (strEq s26 (ByteArray.mk #[])) (
      .leaf 0 [(Value.bool Bool.false)]) (
      .chk (((0 : Int) ≤ (1 : Int)) ∧ (((1 : Int) ≤ (((ByteArray.size s26) : Nat) : Int)) ∧ ((((ByteArray.size s26) : Nat) : Int) ≤ (((ByteArray.size s26) : Nat) : Int)))) <|
      .leaf 1 [(Value.int IntKind.i64 (IntKind.wrap IntKind.i64 (i14 + (1 : Int)))), (Value.string (ByteArray.extract s26 1 (Int.toNat (((ByteArray.size s26) : Nat) : Int))))]))
def laws_FnFjValueElements.t3 (q1 : Int) (z8 : Addr) (i14 : Int) (s15 : ByteArray) : T :=
  .load (Addr.add z8 3) .slice fun (z16 : ((Option Addr) × (Nat × Nat))) =>
  .ite (decide (i14 < ((((z16).2).1 : Nat) : Int))) (
    .call 8 #[(Value.string s15)] .str fun (s17 : ByteArray) =>
    .call 7 #[(Value.string s17), (Value.int IntKind.i64 (IntKind.wrap IntKind.i64 ((Int.tmod (IntKind.wrap IntKind.i64 q1) (299 : Int)) + (1 : Int))))] (.tuple (.cons (.agg (.cons (.int .i64) (.cons .str (.cons .slice (.cons .slice .nil))))) (.cons .str (.cons .bool .nil)))) fun (z18 : ((Int × (ByteArray × (((Option Addr) × (Nat × Nat)) × (((Option Addr) × (Nat × Nat)) × PUnit)))) × (ByteArray × (Bool × PUnit)))) =>
    .alloc (Obj.cells #[(Value.int IntKind.i64 (0 : Int)), (Value.string (ByteArray.mk #[])), (Value.slice none 0 0), (Value.slice none 0 0)] 26 (0, 0)) fun (z19 : Addr) =>
    .effU (Instr.storeAt 26 (Value.pointer (some z19)) (Value.agg #[(Value.int IntKind.i64 ((z18).1).1), (Value.string (((z18).1).2).1), (Value.slice (((((z18).1).2).2).1).1 ((((((z18).1).2).2).1).2).1 ((((((z18).1).2).2).1).2).2), (Value.slice ((((((z18).1).2).2).2).1).1 (((((((z18).1).2).2).2).1).2).1 (((((((z18).1).2).2).2).1).2).2)])) <|
    .cut 2 (.cons .bool .nil) (
      .drew <|
      .ite (!(((z18).2).2).1) (
        .leaf 2 [(Value.bool Bool.true)]) (
        .effS (Instr.loadAt 26 (Value.pointer (some z19))) (.agg (.cons (.int .i64) (.cons .str (.cons .slice (.cons .slice .nil))))) fun (z20 : (Int × (ByteArray × (((Option Addr) × (Nat × Nat)) × (((Option Addr) × (Nat × Nat)) × PUnit))))) =>
        .load (Addr.add z8 3) .slice fun (z21 : ((Option Addr) × (Nat × Nat))) =>
        .chk (((0 : Int) ≤ i14) ∧ (i14 < ((((z21).2).1 : Nat) : Int))) <|
        .ptr (z21).1 fun (z22 : Addr) =>
        .effS (Instr.loadAt 26 (Value.pointer (some (Addr.add z22 ((Int.toNat i14) * 4))))) (.agg (.cons (.int .i64) (.cons .str (.cons .slice (.cons .slice .nil))))) fun (z23 : (Int × (ByteArray × (((Option Addr) × (Nat × Nat)) × (((Option Addr) × (Nat × Nat)) × PUnit))))) =>
        .call 9 #[(Value.agg #[(Value.int IntKind.i64 (z20).1), (Value.string ((z20).2).1), (Value.slice ((((z20).2).2).1).1 (((((z20).2).2).1).2).1 (((((z20).2).2).1).2).2), (Value.slice (((((z20).2).2).2).1).1 ((((((z20).2).2).2).1).2).1 ((((((z20).2).2).2).1).2).2)]), (Value.agg #[(Value.int IntKind.i64 (z23).1), (Value.string ((z23).2).1), (Value.slice ((((z23).2).2).1).1 (((((z23).2).2).1).2).1 (((((z23).2).2).1).2).2), (Value.slice (((((z23).2).2).2).1).1 ((((((z23).2).2).2).1).2).1 ((((((z23).2).2).2).1).2).2)])] .bool fun (b24 : Bool) =>
        .ite (!b24) (
          .leaf 2 [(Value.bool Bool.true)]) (
          .leaf 2 [(Value.bool ((((ByteArray.size ((z18).2).1) : Nat) : Int) == (0 : Int)))])))
      (fun z => laws_FnFjValueElements.t4 i14 z18 z.1)) (
    .leaf 0 [(Value.bool Bool.true)])
def laws_FnFjValueElements.t2 (q0 : ByteArray) (q1 : Int) (z8 : Addr) (b12 : Bool) : T :=
  .ite b12 (
    .leaf 0 [(Value.bool Bool.false)]) (
    .call 8 #[(Value.string q0)] .str fun (s13 : ByteArray) =>
    .chk (((0 : Int) ≤ (1 : Int)) ∧ (((1 : Int) ≤ (((ByteArray.size s13) : Nat) : Int)) ∧ ((((ByteArray.size s13) : Nat) : Int) ≤ (((ByteArray.size s13) : Nat) : Int)))) <|
    .loop 1 (.cons (.int .i64) (.cons .str .nil)) [(Value.int IntKind.i64 (0 : Int)), (Value.string (ByteArray.extract s13 1 (Int.toNat (((ByteArray.size s13) : Nat) : Int))))]
      (fun z => laws_FnFjValueElements.t3 q1 z8 z.1 z.2.1))
def laws_FnFjValueElements.t1 (q0 : ByteArray) (q1 : Int) (z1 : Addr) (b5 : Bool) : T :=
  .ite b5 (
    .leaf 0 [(Value.bool Bool.true)]) (
    .call 8 #[(Value.string q0)] .str fun (s6 : ByteArray) =>
    .call 7 #[(Value.string s6), (Value.int IntKind.i64 (Int.tmod (IntKind.wrap IntKind.i64 q1) (299 : Int)))] (.tuple (.cons (.agg (.cons (.int .i64) (.cons .str (.cons .slice (.cons .slice .nil))))) (.cons .str (.cons .bool .nil)))) fun (z7 : ((Int × (ByteArray × (((Option Addr) × (Nat × Nat)) × (((Option Addr) × (Nat × Nat)) × PUnit)))) × (ByteArray × (Bool × PUnit)))) =>
    .alloc (Obj.cells #[(Value.int IntKind.i64 (0 : Int)), (Value.string (ByteArray.mk #[])), (Value.slice none 0 0), (Value.slice none 0 0)] 26 (0, 0)) fun (z8 : Addr) =>
    .effU (Instr.storeAt 26 (Value.pointer (some z8)) (Value.agg #[(Value.int IntKind.i64 ((z7).1).1), (Value.string (((z7).1).2).1), (Value.slice (((((z7).1).2).2).1).1 ((((((z7).1).2).2).1).2).1 ((((((z7).1).2).2).1).2).2), (Value.slice ((((((z7).1).2).2).2).1).1 (((((((z7).1).2).2).2).1).2).1 (((((((z7).1).2).2).2).1).2).2)])) <|
    .cut 1 (.cons .bool .nil) (
      .ite (!(((z7).2).2).1) (
        .leaf 1 [(Value.bool Bool.true)]) (
        .load (Addr.add z8 0) (.int .i64) fun (i9 : Int) =>
        .ite (i9 != (5 : Int)) (
          .leaf 1 [(Value.bool Bool.true)]) (
          .load (Addr.add z8 3) .slice fun (z10 : ((Option Addr) × (Nat × Nat))) =>
          .load (Addr.add z1 3) .slice fun (z11 : ((Option Addr) × (Nat × Nat))) =>
          .leaf 1 [(Value.bool (((((z10).2).1 : Nat) : Int) != ((((z11).2).1 : Nat) : Int)))])))
      (fun z => laws_FnFjValueElements.t2 q0 q1 z8 z.1))
def laws_FnFjValueElements.t (q0 : ByteArray) (q1 : Int) : T :=
  .ite (decide ((((ByteArray.size q0) : Nat) : Int) > (2147483647 : Int))) (
    .leaf 0 [(Value.bool Bool.true)]) (
    .call 5 #[(Value.string q0)] (.tuple (.cons (.agg (.cons (.int .i64) (.cons .str (.cons .slice (.cons .slice .nil))))) (.cons .bool .nil))) fun (z0 : ((Int × (ByteArray × (((Option Addr) × (Nat × Nat)) × (((Option Addr) × (Nat × Nat)) × PUnit)))) × (Bool × PUnit))) =>
    .alloc (Obj.cells #[(Value.int IntKind.i64 (0 : Int)), (Value.string (ByteArray.mk #[])), (Value.slice none 0 0), (Value.slice none 0 0)] 26 (0, 0)) fun (z1 : Addr) =>
    .effU (Instr.storeAt 26 (Value.pointer (some z1)) (Value.agg #[(Value.int IntKind.i64 ((z0).1).1), (Value.string (((z0).1).2).1), (Value.slice (((((z0).1).2).2).1).1 ((((((z0).1).2).2).1).2).1 ((((((z0).1).2).2).1).2).2), (Value.slice ((((((z0).1).2).2).2).1).1 (((((((z0).1).2).2).2).1).2).1 (((((((z0).1).2).2).2).1).2).2)])) <|
    .chk ((299 : Int) ≠ (0 : Int)) <|
    .cut 1 (.cons .bool .nil) (
      .ite (!((z0).2).1) (
        .leaf 1 [(Value.bool Bool.true)]) (
        .load (Addr.add z1 0) (.int .i64) fun (i2 : Int) =>
        .ite (i2 != (5 : Int)) (
          .leaf 1 [(Value.bool Bool.true)]) (
          .eff (Instr.loadAt 26 (Value.pointer (some z1))) (.agg (.cons (.int .i64) (.cons .str (.cons .slice (.cons .slice .nil))))) fun (z3 : (Int × (ByteArray × (((Option Addr) × (Nat × Nat)) × (((Option Addr) × (Nat × Nat)) × PUnit))))) =>
          .call 6 #[(Value.agg #[(Value.int IntKind.i64 (z3).1), (Value.string ((z3).2).1), (Value.slice ((((z3).2).2).1).1 (((((z3).2).2).1).2).1 (((((z3).2).2).1).2).2), (Value.slice (((((z3).2).2).2).1).1 ((((((z3).2).2).2).1).2).1 ((((((z3).2).2).2).1).2).2)])] (.int .i64) fun (i4 : Int) =>
          .leaf 1 [(Value.bool (decide (i4 > (IntKind.wrap IntKind.i64 ((300 : Int) - (Int.tmod (IntKind.wrap IntKind.i64 q1) (299 : Int)))))))])))
      (fun z => laws_FnFjValueElements.t1 q0 q1 z1 z.1))
def laws_FnFjValueElements.h : Hints := ⟨[], [], [(5, [(40, .bool)]), (8, [(64, .bool)]), (15, [(100, .bool)])], [(12, [(12, (.int .i64)), (11, .str)])]⟩
noncomputable def laws_FnFjValueElements.c : Code := (Tryz.f3.body).getD .skip
theorem laws_FnFjValueElements.e (q0 : ByteArray) (q1 : Int) : fnT Tryz.prog laws_FnFjValueElements.h Tryz.f3 laws_FnFjValueElements.c [.v (Value.string q0), .v (Value.int IntKind.u16 q1)] = laws_FnFjValueElements.t q0 q1 := by kernel_rfl
theorem laws_FnFjValueElements.calls (q0 : ByteArray) (q1 : Int) {w : World} {R : Ending → World → Prop} (hs : sat Tryz.prog (laws_FnFjValueElements.t q0 q1) (fun l vs w' => l = 0 ∧ R (.returned (retVal vs)) w') w) : Calls Tryz.prog 3 #[(Value.string q0), (Value.int IntKind.u16 q1)] w R :=
  have h := calls_of_tree (w := w) (R := R) (args := [.v (Value.string q0), .v (Value.int IntKind.u16 q1)]) (c := laws_FnFjValueElements.c) Tryz.func3 (show Tryz.f3.body = some laws_FnFjValueElements.c by kernel_rfl) (of_decide_eq_true (by kernel_rfl)) (laws_FnFjValueElements.e q0 q1) hs
  h

end Go.Proofs.YtkpnomdmnhhaoaaGreatDoor.Tr
