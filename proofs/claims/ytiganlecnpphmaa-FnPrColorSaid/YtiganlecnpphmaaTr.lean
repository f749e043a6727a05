/- Trees of loaded functions, printed by wip/tools/rxprint (a program of this repo): each is what 'exec' comes to, held by the kernel. No statement of the set is proved here. -/
import Derived.Test.YtiganlecnpphmaaRz
import Derived.Test.YtiganlecnpphmaaProg
import Derived.KernelRfl
namespace Go.Proofs.Ytiganlecnpphmaa.Tr
open Go Go.Proofs Go.Proofs.Ytiganlecnpphmaa.Rx
set_option linter.unusedVariables false
set_option maxRecDepth 100000
/-! ### pub-tetrapla/laws.FnPrColor : function 3 -/
def laws_FnPrColor.t3 (text : ByteArray) (z0 : Addr) (z5 : Addr) (i9 : Int) : T :=
  .ite (decide (i9 < (((ByteArray.size text) : Nat) : Int))) (
    .chk (((0 : Int) ≤ (IntKind.wrap IntKind.i64 (i9 - (1 : Int)))) ∧ ((IntKind.wrap IntKind.i64 (i9 - (1 : Int))) < (((ByteArray.size text) : Nat) : Int))) <|
    .ite ((bt text (IntKind.wrap IntKind.i64 (i9 - (1 : Int)))) == (92 : Int)) (
      .chk (((0 : Int) ≤ i9) ∧ (i9 < (((ByteArray.size text) : Nat) : Int))) <|
      .ite ((bt text i9) == (92 : Int)) (
        .leaf 0 [(Value.bool Bool.true)]) (
        .leaf 1 [(Value.int IntKind.i64 (IntKind.wrap IntKind.i64 (i9 + (1 : Int))))])) (
      .leaf 1 [(Value.int IntKind.i64 (IntKind.wrap IntKind.i64 (i9 + (1 : Int))))])) (
    .drew <|
    .effQ (Instr.loadAt 24 (Value.pointer (some z0))) (.agg (.cons .str (.cons .str (.cons .str (.cons .str (.cons .str (.cons .str (.cons .str (.cons .str (.cons .str (.cons .str (.cons .str (.cons .str (.cons .str (.cons .str (.cons .str (.cons .str .nil))))))))))))))))) fun (z10 : (ByteArray × (ByteArray × (ByteArray × (ByteArray × (ByteArray × (ByteArray × (ByteArray × (ByteArray × (ByteArray × (ByteArray × (ByteArray × (ByteArray × (ByteArray × (ByteArray × (ByteArray × (ByteArray × PUnit))))))))))))))))) =>
    .effQ (Instr.loadAt 29 (Value.pointer (some z5))) (.agg (.cons (.int .i64) (.cons (.int .i64) (.cons (.int .i64) (.cons .slice (.cons .slice .nil)))))) fun (z11 : (Int × (Int × (Int × (((Option Addr) × (Nat × Nat)) × (((Option Addr) × (Nat × Nat)) × PUnit)))))) =>
    .effQ (Instr.loadAt 24 (Value.pointer (some z0))) (.agg (.cons .str (.cons .str (.cons .str (.cons .str (.cons .str (.cons .str (.cons .str (.cons .str (.cons .str (.cons .str (.cons .str (.cons .str (.cons .str (.cons .str (.cons .str (.cons .str .nil))))))))))))))))) fun (z12 : (ByteArray × (ByteArray × (ByteArray × (ByteArray × (ByteArray × (ByteArray × (ByteArray × (ByteArray × (ByteArray × (ByteArray × (ByteArray × (ByteArray × (ByteArray × (ByteArray × (ByteArray × (ByteArray × PUnit))))))))))))))))) =>
    .here fun (z13 : World) =>
    .call 7 #[(Value.string text), (Value.agg #[(Value.string (z10).1), (Value.string ((z10).2).1), (Value.string (((z10).2).2).1), (Value.string ((((z10).2).2).2).1), (Value.string (((((z10).2).2).2).2).1), (Value.string ((((((z10).2).2).2).2).2).1), (Value.string (((((((z10).2).2).2).2).2).2).1), (Value.string ((((((((z10).2).2).2).2).2).2).2).1), (Value.string (((((((((z10).2).2).2).2).2).2).2).2).1), (Value.string ((((((((((z10).2).2).2).2).2).2).2).2).2).1), (Value.string (((((((((((z10).2).2).2).2).2).2).2).2).2).2).1), (Value.string ((((((((((((z10).2).2).2).2).2).2).2).2).2).2).2).1), (Value.string (((((((((((((z10).2).2).2).2).2).2).2).2).2).2).2).2).1), (Value.string ((((((((((((((z10).2).2).2).2).2).2).2).2).2).2).2).2).2).1), (Value.string (((((((((((((((z10).2).2).2).2).2).2).2).2).2).2).2).2).2).2).1), (Value.string ((((((((((((((((z10).2).2).2).2).2).2).2).2).2).2).2).2).2).2).2).1)])] .str fun (s14 : ByteArray) =>
    .grew z13 <|
    .call 8 #[(Value.string text), (Value.agg #[(Value.int IntKind.i64 (z11).1), (Value.int IntKind.i64 ((z11).2).1), (Value.int IntKind.i64 (((z11).2).2).1), (Value.slice (((((z11).2).2).2).1).1 ((((((z11).2).2).2).1).2).1 ((((((z11).2).2).2).1).2).2), (Value.slice ((((((z11).2).2).2).2).1).1 (((((((z11).2).2).2).2).1).2).1 (((((((z11).2).2).2).2).1).2).2)]), (Value.agg #[(Value.string (z12).1), (Value.string ((z12).2).1), (Value.string (((z12).2).2).1), (Value.string ((((z12).2).2).2).1), (Value.string (((((z12).2).2).2).2).1), (Value.string ((((((z12).2).2).2).2).2).1), (Value.string (((((((z12).2).2).2).2).2).2).1), (Value.string ((((((((z12).2).2).2).2).2).2).2).1), (Value.string (((((((((z12).2).2).2).2).2).2).2).2).1), (Value.string ((((((((((z12).2).2).2).2).2).2).2).2).2).1), (Value.string (((((((((((z12).2).2).2).2).2).2).2).2).2).2).1), (Value.string ((((((((((((z12).2).2).2).2).2).2).2).2).2).2).2).1), (Value.string (((((((((((((z12).2).2).2).2).2).2).2).2).2).2).2).2).1), (Value.string ((((((((((((((z12).2).2).2).2).2).2).2).2).2).2).2).2).2).1), (Value.string (((((((((((((((z12).2).2).2).2).2).2).2).2).2).2).2).2).2).2).1), (Value.string ((((((((((((((((z12).2).2).2).2).2).2).2).2).2).2).2).2).2).2).2).1)])] .str fun (s15 : ByteArray) =>
    .leaf 0 [(Value.bool (strEq s14 s15))])
def laws_FnPrColor.t2 (text : ByteArray) (z0 : Addr) (z5 : Addr) (b8 : Bool) : T :=
  .ite b8 (
    .leaf 0 [(Value.bool Bool.true)]) (
    .loop 1 (.cons (.int .i64) .nil) [(Value.int IntKind.i64 (1 : Int))]
      (fun z => laws_FnPrColor.t3 text z0 z5 z.1))
def laws_FnPrColor.t1 (text : ByteArray) (z0 : Addr) (b3 : Bool) : T :=
  .ite b3 (
    .leaf 0 [(Value.bool Bool.true)]) (
    .call 5 #[(Value.string text)] (.tuple (.cons (.agg (.cons (.int .i64) (.cons (.int .i64) (.cons (.int .i64) (.cons .slice (.cons .slice .nil)))))) (.cons .bool .nil))) fun (z4 : ((Int × (Int × (Int × (((Option Addr) × (Nat × Nat)) × (((Option Addr) × (Nat × Nat)) × PUnit))))) × (Bool × PUnit))) =>
    .alloc (Obj.cells #[(Value.int IntKind.i64 (0 : Int)), (Value.int IntKind.i64 (0 : Int)), (Value.int IntKind.i64 (0 : Int)), (Value.slice none 0 0), (Value.slice none 0 0)] 29 (0, 0)) fun (z5 : Addr) =>
    .effU (Instr.storeAt 29 (Value.pointer (some z5)) (Value.agg #[(Value.int IntKind.i64 ((z4).1).1), (Value.int IntKind.i64 (((z4).1).2).1), (Value.int IntKind.i64 ((((z4).1).2).2).1), (Value.slice ((((((z4).1).2).2).2).1).1 (((((((z4).1).2).2).2).1).2).1 (((((((z4).1).2).2).2).1).2).2), (Value.slice (((((((z4).1).2).2).2).2).1).1 ((((((((z4).1).2).2).2).2).1).2).1 ((((((((z4).1).2).2).2).2).1).2).2)])) <|
    .cut 1 (.cons .bool .nil) (
      .ite (!((z4).2).1) (
        .leaf 1 [(Value.bool Bool.true)]) (
        .eff (Instr.loadAt 24 (Value.pointer (some z0))) (.agg (.cons .str (.cons .str (.cons .str (.cons .str (.cons .str (.cons .str (.cons .str (.cons .str (.cons .str (.cons .str (.cons .str (.cons .str (.cons .str (.cons .str (.cons .str (.cons .str .nil))))))))))))))))) fun (z6 : (ByteArray × (ByteArray × (ByteArray × (ByteArray × (ByteArray × (ByteArray × (ByteArray × (ByteArray × (ByteArray × (ByteArray × (ByteArray × (ByteArray × (ByteArray × (ByteArray × (ByteArray × (ByteArray × PUnit))))))))))))))))) =>
        .call 6 #[(Value.agg #[(Value.string (z6).1), (Value.string ((z6).2).1), (Value.string (((z6).2).2).1), (Value.string ((((z6).2).2).2).1), (Value.string (((((z6).2).2).2).2).1), (Value.string ((((((z6).2).2).2).2).2).1), (Value.string (((((((z6).2).2).2).2).2).2).1), (Value.string ((((((((z6).2).2).2).2).2).2).2).1), (Value.string (((((((((z6).2).2).2).2).2).2).2).2).1), (Value.string ((((((((((z6).2).2).2).2).2).2).2).2).2).1), (Value.string (((((((((((z6).2).2).2).2).2).2).2).2).2).2).1), (Value.string ((((((((((((z6).2).2).2).2).2).2).2).2).2).2).2).1), (Value.string (((((((((((((z6).2).2).2).2).2).2).2).2).2).2).2).2).1), (Value.string ((((((((((((((z6).2).2).2).2).2).2).2).2).2).2).2).2).2).1), (Value.string (((((((((((((((z6).2).2).2).2).2).2).2).2).2).2).2).2).2).2).1), (Value.string ((((((((((((((((z6).2).2).2).2).2).2).2).2).2).2).2).2).2).2).2).1)])] .bool fun (b7 : Bool) =>
        .leaf 1 [(Value.bool (!b7))]))
      (fun z => laws_FnPrColor.t2 text z0 z5 z.1))
def laws_FnPrColor.t (text : ByteArray) (s_0 : ByteArray) (s_1 : ByteArray) (s_2 : ByteArray) (s_3 : ByteArray) (s_4 : ByteArray) (s_5 : ByteArray) (s_6 : ByteArray) (s_7 : ByteArray) (s_8 : ByteArray) (s_9 : ByteArray) (s_10 : ByteArray) (s_11 : ByteArray) (s_12 : ByteArray) (s_13 : ByteArray) (s_14 : ByteArray) (s_15 : ByteArray) : T :=
  .alloc (Obj.cells #[(Value.string s_0), (Value.string s_1), (Value.string s_2), (Value.string s_3), (Value.string s_4), (Value.string s_5), (Value.string s_6), (Value.string s_7), (Value.string s_8), (Value.string s_9), (Value.string s_10), (Value.string s_11), (Value.string s_12), (Value.string s_13), (Value.string s_14), (Value.string s_15)] 24 (0, 0)) fun (z0 : Addr) =>
  .cut 1 (.cons .bool .nil) (
    .ite (decide ((((ByteArray.size text) : Nat) : Int) > (2147483647 : Int))) (
      .leaf 1 [(Value.bool Bool.true)]) (
      .eff (Instr.loadAt 24 (Value.pointer (some z0))) (.agg (.cons .str (.cons .str (.cons .str (.cons .str (.cons .str (.cons .str (.cons .str (.cons .str (.cons .str (.cons .str (.cons .str (.cons .str (.cons .str (.cons .str (.cons .str (.cons .str .nil))))))))))))))))) fun (z1 : (ByteArray × (ByteArray × (ByteArray × (ByteArray × (ByteArray × (ByteArray × (ByteArray × (ByteArray × (ByteArray × (ByteArray × (ByteArray × (ByteArray × (ByteArray × (ByteArray × (ByteArray × (ByteArray × PUnit))))))))))))))))) =>
      .call 4 #[(Value.agg #[(Value.string (z1).1), (Value.string ((z1).2).1), (Value.string (((z1).2).2).1), (Value.string ((((z1).2).2).2).1), (Value.string (((((z1).2).2).2).2).1), (Value.string ((((((z1).2).2).2).2).2).1), (Value.string (((((((z1).2).2).2).2).2).2).1), (Value.string ((((((((z1).2).2).2).2).2).2).2).1), (Value.string (((((((((z1).2).2).2).2).2).2).2).2).1), (Value.string ((((((((((z1).2).2).2).2).2).2).2).2).2).1), (Value.string (((((((((((z1).2).2).2).2).2).2).2).2).2).2).1), (Value.string ((((((((((((z1).2).2).2).2).2).2).2).2).2).2).2).1), (Value.string (((((((((((((z1).2).2).2).2).2).2).2).2).2).2).2).2).1), (Value.string ((((((((((((((z1).2).2).2).2).2).2).2).2).2).2).2).2).2).1), (Value.string (((((((((((((((z1).2).2).2).2).2).2).2).2).2).2).2).2).2).2).1), (Value.string ((((((((((((((((z1).2).2).2).2).2).2).2).2).2).2).2).2).2).2).2).1)])] .bool fun (b2 : Bool) =>
      .leaf 1 [(Value.bool (!b2))]))
    (fun z => laws_FnPrColor.t1 text z0 z.1)
def laws_FnPrColor.h : Hints := ⟨[], [], [(1, [(15, .bool)]), (4, [(27, .bool)])], [(7, [(7, (.int .i64))])]⟩
noncomputable def laws_FnPrColor.c : Code := (Try.f3.body).getD .skip
theorem laws_FnPrColor.e (text : ByteArray) (s_0 : ByteArray) (s_1 : ByteArray) (s_2 : ByteArray) (s_3 : ByteArray) (s_4 : ByteArray) (s_5 : ByteArray) (s_6 : ByteArray) (s_7 : ByteArray) (s_8 : ByteArray) (s_9 : ByteArray) (s_10 : ByteArray) (s_11 : ByteArray) (s_12 : ByteArray) (s_13 : ByteArray) (s_14 : ByteArray) (s_15 : ByteArray) : fnT Try.prog laws_FnPrColor.h Try.f3 laws_FnPrColor.c [.v (Value.string text), .v (Value.agg #[(Value.string s_0), (Value.string s_1), (Value.string s_2), (Value.string s_3), (Value.string s_4), (Value.string s_5), (Value.string s_6), (Value.string s_7), (Value.string s_8), (Value.string s_9), (Value.string s_10), (Value.string s_11), (Value.string s_12), (Value.string s_13), (Value.string s_14), (Value.string s_15)])] = laws_FnPrColor.t text s_0 s_1 s_2 s_3 s_4 s_5 s_6 s_7 s_8 s_9 s_10 s_11 s_12 s_13 s_14 s_15 := by kernel_rfl
theorem laws_FnPrColor.calls (text : ByteArray) (s_0 : ByteArray) (s_1 : ByteArray) (s_2 : ByteArray) (s_3 : ByteArray) (s_4 : ByteArray) (s_5 : ByteArray) (s_6 : ByteArray) (s_7 : ByteArray) (s_8 : ByteArray) (s_9 : ByteArray) (s_10 : ByteArray) (s_11 : ByteArray) (s_12 : ByteArray) (s_13 : ByteArray) (s_14 : ByteArray) (s_15 : ByteArray) {w : World} {R : Ending → World → Prop} (hs : sat Try.prog (laws_FnPrColor.t text s_0 s_1 s_2 s_3 s_4 s_5 s_6 s_7 s_8 s_9 s_10 s_11 s_12 s_13 s_14 s_15) (fun l vs w' => l = 0 ∧ R (.returned (retVal vs)) w') w) : Calls Try.prog 3 #[(Value.string text), (Value.agg #[(Value.string s_0), (Value.string s_1), (Value.string s_2), (Value.string s_3), (Value.string s_4), (Value.string s_5), (Value.string s_6), (Value.string s_7), (Value.string s_8), (Value.string s_9), (Value.string s_10), (Value.string s_11), (Value.string s_12), (Value.string s_13), (Value.string s_14), (Value.string s_15)])] w R :=
  have h := calls_of_tree (w := w) (R := R) (args := [.v (Value.string text), .v (Value.agg #[(Value.string s_0), (Value.string s_1), (Value.string s_2), (Value.string s_3), (Value.string s_4), (Value.string s_5), (Value.string s_6), (Value.string s_7), (Value.string s_8), (Value.string s_9), (Value.string s_10), (Value.string s_11), (Value.string s_12), (Value.string s_13), (Value.string s_14), (Value.string s_15)])]) (c := laws_FnPrColor.c) Try.func3 (show Try.f3.body = some laws_FnPrColor.c by kernel_rfl) (of_decide_eq_true (by kernel_rfl)) (laws_FnPrColor.e text s_0 s_1 s_2 s_3 s_4 s_5 s_6 s_7 s_8 s_9 s_10 s_11 s_12 s_13 s_14 s_15) hs
  h

/-! ### pub-tetrapla/laws.zzFits5 : function 4 -/
def laws_zzFits5.t (x_0 : ByteArray) (x_1 : ByteArray) (x_2 : ByteArray) (x_3 : ByteArray) (x_4 : ByteArray) (x_5 : ByteArray) (x_6 : ByteArray) (x_7 : ByteArray) (x_8 : ByteArray) (x_9 : ByteArray) (x_10 : ByteArray) (x_11 : ByteArray) (x_12 : ByteArray) (x_13 : ByteArray) (x_14 : ByteArray) (x_15 : ByteArray) : T :=
  .alloc (Obj.cells #[(Value.string x_0), (Value.string x_1), (Value.string x_2), (Value.string x_3), (Value.string x_4), (Value.string x_5), (Value.string x_6), (Value.string x_7), (Value.string x_8), (Value.string x_9), (Value.string x_10), (Value.string x_11), (Value.string x_12), (Value.string x_13), (Value.string x_14), (Value.string x_15)] 24 (0, 0)) fun (z0 : Addr) =>
  .eff (Instr.loadAt 22 (Value.pointer (some (Addr.add z0 0)))) (.agg (.cons .str (.cons .str .nil))) fun (z1 : (ByteArray × (ByteArray × PUnit))) =>
  .call 9 #[(Value.agg #[(Value.string (z1).1), (Value.string ((z1).2).1)])] .bool fun (b2 : Bool) =>
  .ite (!b2) (
    .leaf 0 [(Value.bool Bool.false)]) (
    .eff (Instr.loadAt 22 (Value.pointer (some (Addr.add z0 2)))) (.agg (.cons .str (.cons .str .nil))) fun (z3 : (ByteArray × (ByteArray × PUnit))) =>
    .call 9 #[(Value.agg #[(Value.string (z3).1), (Value.string ((z3).2).1)])] .bool fun (b4 : Bool) =>
    .ite (!b4) (
      .leaf 0 [(Value.bool Bool.false)]) (
      .eff (Instr.loadAt 22 (Value.pointer (some (Addr.add z0 4)))) (.agg (.cons .str (.cons .str .nil))) fun (z5 : (ByteArray × (ByteArray × PUnit))) =>
      .call 9 #[(Value.agg #[(Value.string (z5).1), (Value.string ((z5).2).1)])] .bool fun (b6 : Bool) =>
      .ite (!b6) (
        .leaf 0 [(Value.bool Bool.false)]) (
        .eff (Instr.loadAt 22 (Value.pointer (some (Addr.add z0 6)))) (.agg (.cons .str (.cons .str .nil))) fun (z7 : (ByteArray × (ByteArray × PUnit))) =>
        .call 9 #[(Value.agg #[(Value.string (z7).1), (Value.string ((z7).2).1)])] .bool fun (b8 : Bool) =>
        .ite (!b8) (
          .leaf 0 [(Value.bool Bool.false)]) (
          .eff (Instr.loadAt 22 (Value.pointer (some (Addr.add z0 8)))) (.agg (.cons .str (.cons .str .nil))) fun (z9 : (ByteArray × (ByteArray × PUnit))) =>
          .call 9 #[(Value.agg #[(Value.string (z9).1), (Value.string ((z9).2).1)])] .bool fun (b10 : Bool) =>
          .ite (!b10) (
            .leaf 0 [(Value.bool Bool.false)]) (
            .eff (Instr.loadAt 22 (Value.pointer (some (Addr.add z0 10)))) (.agg (.cons .str (.cons .str .nil))) fun (z11 : (ByteArray × (ByteArray × PUnit))) =>
            .call 9 #[(Value.agg #[(Value.string (z11).1), (Value.string ((z11).2).1)])] .bool fun (b12 : Bool) =>
            .ite (!b12) (
              .leaf 0 [(Value.bool Bool.false)]) (
              .eff (Instr.loadAt 22 (Value.pointer (some (Addr.add z0 12)))) (.agg (.cons .str (.cons .str .nil))) fun (z13 : (ByteArray × (ByteArray × PUnit))) =>
              .call 9 #[(Value.agg #[(Value.string (z13).1), (Value.string ((z13).2).1)])] .bool fun (b14 : Bool) =>
              .ite (!b14) (
                .leaf 0 [(Value.bool Bool.false)]) (
                .eff (Instr.loadAt 22 (Value.pointer (some (Addr.add z0 14)))) (.agg (.cons .str (.cons .str .nil))) fun (z15 : (ByteArray × (ByteArray × PUnit))) =>
                .call 9 #[(Value.agg #[(Value.string (z15).1), (Value.string ((z15).2).1)])] .bool fun (b16 : Bool) =>
                .ite (!b16) (
                  .leaf 0 [(Value.bool Bool.false)]) (
                  .leaf 0 [(Value.bool Bool.true)]))))))))
def laws_zzFits5.h : Hints := ⟨[], [], [], []⟩
noncomputable def laws_zzFits5.c : Code := (Try.f4.body).getD .skip
theorem laws_zzFits5.e (x_0 : ByteArray) (x_1 : ByteArray) (x_2 : ByteArray) (x_3 : ByteArray) (x_4 : ByteArray) (x_5 : ByteArray) (x_6 : ByteArray) (x_7 : ByteArray) (x_8 : ByteArray) (x_9 : ByteArray) (x_10 : ByteArray) (x_11 : ByteArray) (x_12 : ByteArray) (x_13 : ByteArray) (x_14 : ByteArray) (x_15 : ByteArray) : fnT Try.prog laws_zzFits5.h Try.f4 laws_zzFits5.c [.v (Value.agg #[(Value.string x_0), (Value.string x_1), (Value.string x_2), (Value.string x_3), (Value.string x_4), (Value.string x_5), (Value.string x_6), (Value.string x_7), (Value.string x_8), (Value.string x_9), (Value.string x_10), (Value.string x_11), (Value.string x_12), (Value.string x_13), (Value.string x_14), (Value.string x_15)])] = laws_zzFits5.t x_0 x_1 x_2 x_3 x_4 x_5 x_6 x_7 x_8 x_9 x_10 x_11 x_12 x_13 x_14 x_15 := by kernel_rfl
theorem laws_zzFits5.calls (x_0 : ByteArray) (x_1 : ByteArray) (x_2 : ByteArray) (x_3 : ByteArray) (x_4 : ByteArray) (x_5 : ByteArray) (x_6 : ByteArray) (x_7 : ByteArray) (x_8 : ByteArray) (x_9 : ByteArray) (x_10 : ByteArray) (x_11 : ByteArray) (x_12 : ByteArray) (x_13 : ByteArray) (x_14 : ByteArray) (x_15 : ByteArray) {w : World} {R : Ending → World → Prop} (hs : sat Try.prog (laws_zzFits5.t x_0 x_1 x_2 x_3 x_4 x_5 x_6 x_7 x_8 x_9 x_10 x_11 x_12 x_13 x_14 x_15) (fun l vs w' => l = 0 ∧ R (.returned (retVal vs)) w') w) : Calls Try.prog 4 #[(Value.agg #[(Value.string x_0), (Value.string x_1), (Value.string x_2), (Value.string x_3), (Value.string x_4), (Value.string x_5), (Value.string x_6), (Value.string x_7), (Value.string x_8), (Value.string x_9), (Value.string x_10), (Value.string x_11), (Value.string x_12), (Value.string x_13), (Value.string x_14), (Value.string x_15)])] w R :=
  have h := calls_of_tree (w := w) (R := R) (args := [.v (Value.agg #[(Value.string x_0), (Value.string x_1), (Value.string x_2), (Value.string x_3), (Value.string x_4), (Value.string x_5), (Value.string x_6), (Value.string x_7), (Value.string x_8), (Value.string x_9), (Value.string x_10), (Value.string x_11), (Value.string x_12), (Value.string x_13), (Value.string x_14), (Value.string x_15)])]) (c := laws_zzFits5.c) Try.func4 (show Try.f4.body = some laws_zzFits5.c by kernel_rfl) (of_decide_eq_true (by kernel_rfl)) (laws_zzFits5.e x_0 x_1 x_2 x_3 x_4 x_5 x_6 x_7 x_8 x_9 x_10 x_11 x_12 x_13 x_14 x_15) hs
  h

/-! ### pub-tetrapla/laws.prPlaces : function 5 -/
def laws_prPlaces.t (text : ByteArray) : T :=
  .alloc (Obj.cells #[(Value.int IntKind.i64 (0 : Int)), (Value.int IntKind.i64 (0 : Int)), (Value.int IntKind.i64 (0 : Int)), (Value.slice none 0 0), (Value.slice none 0 0)] 29 (0, 0)) fun (z0 : Addr) =>
  .ite (decide ((((ByteArray.size text) : Nat) : Int) > (4096 : Int))) (
    .effU (Instr.storeAt 29 (Value.pointer (some z0)) (Value.agg #[(Value.int IntKind.i64 (0 : Int)), (Value.int IntKind.i64 (0 : Int)), (Value.int IntKind.i64 (0 : Int)), (Value.slice none 0 0), (Value.slice none 0 0)])) <|
    .effS (Instr.loadAt 29 (Value.pointer (some z0))) (.agg (.cons (.int .i64) (.cons (.int .i64) (.cons (.int .i64) (.cons .slice (.cons .slice .nil)))))) fun (z1 : (Int × (Int × (Int × (((Option Addr) × (Nat × Nat)) × (((Option Addr) × (Nat × Nat)) × PUnit)))))) =>
    .leaf 0 [(Value.agg #[(Value.int IntKind.i64 (z1).1), (Value.int IntKind.i64 ((z1).2).1), (Value.int IntKind.i64 (((z1).2).2).1), (Value.slice (((((z1).2).2).2).1).1 ((((((z1).2).2).2).1).2).1 ((((((z1).2).2).2).1).2).2), (Value.slice ((((((z1).2).2).2).2).1).1 (((((((z1).2).2).2).2).1).2).1 (((((((z1).2).2).2).2).1).2).2)]), (Value.bool Bool.false)]) (
    .call 10 #[(Value.string text)] (.tuple (.cons (.agg (.cons (.int .i64) (.cons (.int .i64) (.cons (.int .i64) (.cons .slice (.cons .slice .nil)))))) (.cons .bool .nil))) fun (z2 : ((Int × (Int × (Int × (((Option Addr) × (Nat × Nat)) × (((Option Addr) × (Nat × Nat)) × PUnit))))) × (Bool × PUnit))) =>
    .effU (Instr.storeAt 29 (Value.pointer (some z0)) (Value.agg #[(Value.int IntKind.i64 ((z2).1).1), (Value.int IntKind.i64 (((z2).1).2).1), (Value.int IntKind.i64 ((((z2).1).2).2).1), (Value.slice ((((((z2).1).2).2).2).1).1 (((((((z2).1).2).2).2).1).2).1 (((((((z2).1).2).2).2).1).2).2), (Value.slice (((((((z2).1).2).2).2).2).1).1 ((((((((z2).1).2).2).2).2).1).2).1 ((((((((z2).1).2).2).2).2).1).2).2)])) <|
    .effS (Instr.loadAt 29 (Value.pointer (some z0))) (.agg (.cons (.int .i64) (.cons (.int .i64) (.cons (.int .i64) (.cons .slice (.cons .slice .nil)))))) fun (z3 : (Int × (Int × (Int × (((Option Addr) × (Nat × Nat)) × (((Option Addr) × (Nat × Nat)) × PUnit)))))) =>
    .leaf 0 [(Value.agg #[(Value.int IntKind.i64 (z3).1), (Value.int IntKind.i64 ((z3).2).1), (Value.int IntKind.i64 (((z3).2).2).1), (Value.slice (((((z3).2).2).2).1).1 ((((((z3).2).2).2).1).2).1 ((((((z3).2).2).2).1).2).2), (Value.slice ((((((z3).2).2).2).2).1).1 (((((((z3).2).2).2).2).1).2).1 (((((((z3).2).2).2).2).1).2).2)]), (Value.bool ((z2).2).1)])
def laws_prPlaces.h : Hints := ⟨[], [], [], []⟩
noncomputable def laws_prPlaces.c : Code := (Try.f5.body).getD .skip
theorem laws_prPlaces.e (text : ByteArray) : fnT Try.prog laws_prPlaces.h Try.f5 laws_prPlaces.c [.v (Value.string text)] = laws_prPlaces.t text := by kernel_rfl
theorem laws_prPlaces.calls (text : ByteArray) {w : World} {R : Ending → World → Prop} (hs : sat Try.prog (laws_prPlaces.t text) (fun l vs w' => l = 0 ∧ R (.returned (retVal vs)) w') w) : Calls Try.prog 5 #[(Value.string text)] w R :=
  have h := calls_of_tree (w := w) (R := R) (args := [.v (Value.string text)]) (c := laws_prPlaces.c) Try.func5 (show Try.f5.body = some laws_prPlaces.c by kernel_rfl) (of_decide_eq_true (by kernel_rfl)) (laws_prPlaces.e text) hs
  h

/-! ### pub-tetrapla/laws.prStyleShort : function 6 -/
def laws_prStyleShort.t1 (z9 : ((Option Addr) × (Nat × Nat))) (i10 : Int) : T :=
  .ite (decide (i10 < ((((z9).2).1 : Nat) : Int))) (
    .chk (((0 : Int) ≤ i10) ∧ (i10 < ((((z9).2).1 : Nat) : Int))) <|
    .ptr (z9).1 fun (z11 : Addr) =>
    .eff (Instr.loadAt 22 (Value.pointer (some (Addr.add z11 ((Int.toNat i10) * 2))))) (.agg (.cons .str (.cons .str .nil))) fun (z12 : (ByteArray × (ByteArray × PUnit))) =>
    .alloc (Obj.cells #[(Value.string (ByteArray.mk #[])), (Value.string (ByteArray.mk #[]))] 22 (0, 0)) fun (z13 : Addr) =>
    .effU (Instr.storeAt 22 (Value.pointer (some z13)) (Value.agg #[(Value.string (z12).1), (Value.string ((z12).2).1)])) <|
    .chk (((0 : Int) ≤ (0 : Int)) ∧ ((0 : Int) < (2 : Int))) <|
    .load (Addr.add z13 0) .str fun (s14 : ByteArray) =>
    .ite (decide ((((ByteArray.size s14) : Nat) : Int) > (64 : Int))) (
      .leaf 0 [(Value.bool Bool.false)]) (
      .chk (((0 : Int) ≤ (1 : Int)) ∧ ((1 : Int) < (2 : Int))) <|
      .load (Addr.add z13 1) .str fun (s15 : ByteArray) =>
      .ite (decide ((((ByteArray.size s15) : Nat) : Int) > (64 : Int))) (
        .leaf 0 [(Value.bool Bool.false)]) (
        .leaf 1 [(Value.int IntKind.i64 (IntKind.wrap IntKind.i64 (i10 + (1 : Int))))]))) (
    .leaf 0 [(Value.bool Bool.true)])
def laws_prStyleShort.t (s_0 : ByteArray) (s_1 : ByteArray) (s_2 : ByteArray) (s_3 : ByteArray) (s_4 : ByteArray) (s_5 : ByteArray) (s_6 : ByteArray) (s_7 : ByteArray) (s_8 : ByteArray) (s_9 : ByteArray) (s_10 : ByteArray) (s_11 : ByteArray) (s_12 : ByteArray) (s_13 : ByteArray) (s_14 : ByteArray) (s_15 : ByteArray) : T :=
  .alloc (Obj.cells #[(Value.string s_0), (Value.string s_1), (Value.string s_2), (Value.string s_3), (Value.string s_4), (Value.string s_5), (Value.string s_6), (Value.string s_7), (Value.string s_8), (Value.string s_9), (Value.string s_10), (Value.string s_11), (Value.string s_12), (Value.string s_13), (Value.string s_14), (Value.string s_15)] 24 (0, 0)) fun (z0 : Addr) =>
  .eff (Instr.loadAt 22 (Value.pointer (some (Addr.add z0 0)))) (.agg (.cons .str (.cons .str .nil))) fun (z1 : (ByteArray × (ByteArray × PUnit))) =>
  .eff (Instr.loadAt 22 (Value.pointer (some (Addr.add z0 2)))) (.agg (.cons .str (.cons .str .nil))) fun (z2 : (ByteArray × (ByteArray × PUnit))) =>
  .eff (Instr.loadAt 22 (Value.pointer (some (Addr.add z0 4)))) (.agg (.cons .str (.cons .str .nil))) fun (z3 : (ByteArray × (ByteArray × PUnit))) =>
  .eff (Instr.loadAt 22 (Value.pointer (some (Addr.add z0 6)))) (.agg (.cons .str (.cons .str .nil))) fun (z4 : (ByteArray × (ByteArray × PUnit))) =>
  .eff (Instr.loadAt 22 (Value.pointer (some (Addr.add z0 8)))) (.agg (.cons .str (.cons .str .nil))) fun (z5 : (ByteArray × (ByteArray × PUnit))) =>
  .eff (Instr.loadAt 22 (Value.pointer (some (Addr.add z0 10)))) (.agg (.cons .str (.cons .str .nil))) fun (z6 : (ByteArray × (ByteArray × PUnit))) =>
  .eff (Instr.loadAt 22 (Value.pointer (some (Addr.add z0 12)))) (.agg (.cons .str (.cons .str .nil))) fun (z7 : (ByteArray × (ByteArray × PUnit))) =>
  .eff (Instr.loadAt 22 (Value.pointer (some (Addr.add z0 14)))) (.agg (.cons .str (.cons .str .nil))) fun (z8 : (ByteArray × (ByteArray × PUnit))) =>
  .eff (Instr.buildSlice 36 8 #[(0, (Value.agg #[(Value.string (z1).1), (Value.string ((z1).2).1)])), (1, (Value.agg #[(Value.string (z2).1), (Value.string ((z2).2).1)])), (2, (Value.agg #[(Value.string (z3).1), (Value.string ((z3).2).1)])), (3, (Value.agg #[(Value.string (z4).1), (Value.string ((z4).2).1)])), (4, (Value.agg #[(Value.string (z5).1), (Value.string ((z5).2).1)])), (5, (Value.agg #[(Value.string (z6).1), (Value.string ((z6).2).1)])), (6, (Value.agg #[(Value.string (z7).1), (Value.string ((z7).2).1)])), (7, (Value.agg #[(Value.string (z8).1), (Value.string ((z8).2).1)]))]) .slice fun (z9 : ((Option Addr) × (Nat × Nat))) =>
  .loop 1 (.cons (.int .i64) .nil) [(Value.int IntKind.i64 (0 : Int))]
    (fun z => laws_prStyleShort.t1 z9 z.1)
def laws_prStyleShort.h : Hints := ⟨[], [], [], [(2, [(23, (.int .i64))])]⟩
noncomputable def laws_prStyleShort.c : Code := (Try.f6.body).getD .skip
theorem laws_prStyleShort.e (s_0 : ByteArray) (s_1 : ByteArray) (s_2 : ByteArray) (s_3 : ByteArray) (s_4 : ByteArray) (s_5 : ByteArray) (s_6 : ByteArray) (s_7 : ByteArray) (s_8 : ByteArray) (s_9 : ByteArray) (s_10 : ByteArray) (s_11 : ByteArray) (s_12 : ByteArray) (s_13 : ByteArray) (s_14 : ByteArray) (s_15 : ByteArray) : fnT Try.prog laws_prStyleShort.h Try.f6 laws_prStyleShort.c [.v (Value.agg #[(Value.string s_0), (Value.string s_1), (Value.string s_2), (Value.string s_3), (Value.string s_4), (Value.string s_5), (Value.string s_6), (Value.string s_7), (Value.string s_8), (Value.string s_9), (Value.string s_10), (Value.string s_11), (Value.string s_12), (Value.string s_13), (Value.string s_14), (Value.string s_15)])] = laws_prStyleShort.t s_0 s_1 s_2 s_3 s_4 s_5 s_6 s_7 s_8 s_9 s_10 s_11 s_12 s_13 s_14 s_15 := by kernel_rfl
theorem laws_prStyleShort.calls (s_0 : ByteArray) (s_1 : ByteArray) (s_2 : ByteArray) (s_3 : ByteArray) (s_4 : ByteArray) (s_5 : ByteArray) (s_6 : ByteArray) (s_7 : ByteArray) (s_8 : ByteArray) (s_9 : ByteArray) (s_10 : ByteArray) (s_11 : ByteArray) (s_12 : ByteArray) (s_13 : ByteArray) (s_14 : ByteArray) (s_15 : ByteArray) {w : World} {R : Ending → World → Prop} (hs : sat Try.prog (laws_prStyleShort.t s_0 s_1 s_2 s_3 s_4 s_5 s_6 s_7 s_8 s_9 s_10 s_11 s_12 s_13 s_14 s_15) (fun l vs w' => l = 0 ∧ R (.returned (retVal vs)) w') w) : Calls Try.prog 6 #[(Value.agg #[(Value.string s_0), (Value.string s_1), (Value.string s_2), (Value.string s_3), (Value.string s_4), (Value.string s_5), (Value.string s_6), (Value.string s_7), (Value.string s_8), (Value.string s_9), (Value.string s_10), (Value.string s_11), (Value.string s_12), (Value.string s_13), (Value.string s_14), (Value.string s_15)])] w R :=
  have h := calls_of_tree (w := w) (R := R) (args := [.v (Value.agg #[(Value.string s_0), (Value.string s_1), (Value.string s_2), (Value.string s_3), (Value.string s_4), (Value.string s_5), (Value.string s_6), (Value.string s_7), (Value.string s_8), (Value.string s_9), (Value.string s_10), (Value.string s_11), (Value.string s_12), (Value.string s_13), (Value.string s_14), (Value.string s_15)])]) (c := laws_prStyleShort.c) Try.func6 (show Try.f6.body = some laws_prStyleShort.c by kernel_rfl) (of_decide_eq_true (by kernel_rfl)) (laws_prStyleShort.e s_0 s_1 s_2 s_3 s_4 s_5 s_6 s_7 s_8 s_9 s_10 s_11 s_12 s_13 s_14 s_15) hs
  h

/-! ### pub-tetrapla/impl.PrColor : function 7 -/
def impl_PrColor.t (text : ByteArray) (style_0 : ByteArray) (style_1 : ByteArray) (style_2 : ByteArray) (style_3 : ByteArray) (style_4 : ByteArray) (style_5 : ByteArray) (style_6 : ByteArray) (style_7 : ByteArray) (style_8 : ByteArray) (style_9 : ByteArray) (style_10 : ByteArray) (style_11 : ByteArray) (style_12 : ByteArray) (style_13 : ByteArray) (style_14 : ByteArray) (style_15 : ByteArray) : T :=
  .alloc (Obj.cells #[(Value.string style_0), (Value.string style_1), (Value.string style_2), (Value.string style_3), (Value.string style_4), (Value.string style_5), (Value.string style_6), (Value.string style_7), (Value.string style_8), (Value.string style_9), (Value.string style_10), (Value.string style_11), (Value.string style_12), (Value.string style_13), (Value.string style_14), (Value.string style_15)] 24 (0, 0)) fun (z0 : Addr) =>
  .eff (convert 9 37 (Value.string text)) .slice fun (z1 : ((Option Addr) × (Nat × Nat))) =>
  .eff (Instr.loadAt 22 (Value.pointer (some (Addr.add z0 0)))) (.agg (.cons .str (.cons .str .nil))) fun (z2 : (ByteArray × (ByteArray × PUnit))) =>
  .eff (Instr.loadAt 22 (Value.pointer (some (Addr.add z0 2)))) (.agg (.cons .str (.cons .str .nil))) fun (z3 : (ByteArray × (ByteArray × PUnit))) =>
  .eff (Instr.loadAt 22 (Value.pointer (some (Addr.add z0 4)))) (.agg (.cons .str (.cons .str .nil))) fun (z4 : (ByteArray × (ByteArray × PUnit))) =>
  .eff (Instr.loadAt 22 (Value.pointer (some (Addr.add z0 6)))) (.agg (.cons .str (.cons .str .nil))) fun (z5 : (ByteArray × (ByteArray × PUnit))) =>
  .eff (Instr.loadAt 22 (Value.pointer (some (Addr.add z0 8)))) (.agg (.cons .str (.cons .str .nil))) fun (z6 : (ByteArray × (ByteArray × PUnit))) =>
  .eff (Instr.loadAt 22 (Value.pointer (some (Addr.add z0 10)))) (.agg (.cons .str (.cons .str .nil))) fun (z7 : (ByteArray × (ByteArray × PUnit))) =>
  .eff (Instr.loadAt 22 (Value.pointer (some (Addr.add z0 12)))) (.agg (.cons .str (.cons .str .nil))) fun (z8 : (ByteArray × (ByteArray × PUnit))) =>
  .eff (Instr.loadAt 22 (Value.pointer (some (Addr.add z0 14)))) (.agg (.cons .str (.cons .str .nil))) fun (z9 : (ByteArray × (ByteArray × PUnit))) =>
  .alloc (Obj.cells #[(Value.string (z2).1), (Value.string ((z2).2).1), (Value.string (z3).1), (Value.string ((z3).2).1), (Value.string (z4).1), (Value.string ((z4).2).1), (Value.string (z5).1), (Value.string ((z5).2).1), (Value.string (z6).1), (Value.string ((z6).2).1), (Value.string (z7).1), (Value.string ((z7).2).1), (Value.string (z8).1), (Value.string ((z8).2).1), (Value.string (z9).1), (Value.string ((z9).2).1), Value.nilFunc] 42 (0, 0)) fun (z10 : Addr) =>
  .call 11 #[(Value.slice (z1).1 ((z1).2).1 ((z1).2).2), (Value.pointer (some z10))] .slice fun (z11 : ((Option Addr) × (Nat × Nat))) =>
  .eff (convert 37 9 (Value.slice (z11).1 ((z11).2).1 ((z11).2).2)) .str fun (s12 : ByteArray) =>
  .leaf 0 [(Value.string s12)]
def impl_PrColor.h : Hints := ⟨[], [], [], []⟩
noncomputable def impl_PrColor.c : Code := (Try.f7.body).getD .skip
theorem impl_PrColor.e (text : ByteArray) (style_0 : ByteArray) (style_1 : ByteArray) (style_2 : ByteArray) (style_3 : ByteArray) (style_4 : ByteArray) (style_5 : ByteArray) (style_6 : ByteArray) (style_7 : ByteArray) (style_8 : ByteArray) (style_9 : ByteArray) (style_10 : ByteArray) (style_11 : ByteArray) (style_12 : ByteArray) (style_13 : ByteArray) (style_14 : ByteArray) (style_15 : ByteArray) : fnT Try.prog impl_PrColor.h Try.f7 impl_PrColor.c [.v (Value.string text), .v (Value.agg #[(Value.string style_0), (Value.string style_1), (Value.string style_2), (Value.string style_3), (Value.string style_4), (Value.string style_5), (Value.string style_6), (Value.string style_7), (Value.string style_8), (Value.string style_9), (Value.string style_10), (Value.string style_11), (Value.string style_12), (Value.string style_13), (Value.string style_14), (Value.string style_15)])] = impl_PrColor.t text style_0 style_1 style_2 style_3 style_4 style_5 style_6 style_7 style_8 style_9 style_10 style_11 style_12 style_13 style_14 style_15 := by kernel_rfl
theorem impl_PrColor.calls (text : ByteArray) (style_0 : ByteArray) (style_1 : ByteArray) (style_2 : ByteArray) (style_3 : ByteArray) (style_4 : ByteArray) (style_5 : ByteArray) (style_6 : ByteArray) (style_7 : ByteArray) (style_8 : ByteArray) (style_9 : ByteArray) (style_10 : ByteArray) (style_11 : ByteArray) (style_12 : ByteArray) (style_13 : ByteArray) (style_14 : ByteArray) (style_15 : ByteArray) {w : World} {R : Ending → World → Prop} (hs : sat Try.prog (impl_PrColor.t text style_0 style_1 style_2 style_3 style_4 style_5 style_6 style_7 style_8 style_9 style_10 style_11 style_12 style_13 style_14 style_15) (fun l vs w' => l = 0 ∧ R (.returned (retVal vs)) w') w) : Calls Try.prog 7 #[(Value.string text), (Value.agg #[(Value.string style_0), (Value.string style_1), (Value.string style_2), (Value.string style_3), (Value.string style_4), (Value.string style_5), (Value.string style_6), (Value.string style_7), (Value.string style_8), (Value.string style_9), (Value.string style_10), (Value.string style_11), (Value.string style_12), (Value.string style_13), (Value.string style_14), (Value.string style_15)])] w R :=
  have h := calls_of_tree (w := w) (R := R) (args := [.v (Value.string text), .v (Value.agg #[(Value.string style_0), (Value.string style_1), (Value.string style_2), (Value.string style_3), (Value.string style_4), (Value.string style_5), (Value.string style_6), (Value.string style_7), (Value.string style_8), (Value.string style_9), (Value.string style_10), (Value.string style_11), (Value.string style_12), (Value.string style_13), (Value.string style_14), (Value.string style_15)])]) (c := impl_PrColor.c) Try.func7 (show Try.f7.body = some impl_PrColor.c by kernel_rfl) (of_decide_eq_true (by kernel_rfl)) (impl_PrColor.e text style_0 style_1 style_2 style_3 style_4 style_5 style_6 style_7 style_8 style_9 style_10 style_11 style_12 style_13 style_14 style_15) hs
  h

/-! ### pub-tetrapla/spec.Colored : function 8 -/
def spec_Colored.t (text : ByteArray) (p_0 : Int) (p_1 : Int) (p_2 : Int) (p_3 : (Option Addr)) (p_3_len : Nat) (p_3_cap : Nat) (p_4 : (Option Addr)) (p_4_len : Nat) (p_4_cap : Nat) (s_0 : ByteArray) (s_1 : ByteArray) (s_2 : ByteArray) (s_3 : ByteArray) (s_4 : ByteArray) (s_5 : ByteArray) (s_6 : ByteArray) (s_7 : ByteArray) (s_8 : ByteArray) (s_9 : ByteArray) (s_10 : ByteArray) (s_11 : ByteArray) (s_12 : ByteArray) (s_13 : ByteArray) (s_14 : ByteArray) (s_15 : ByteArray) : T :=
  .alloc (Obj.cells #[(Value.int IntKind.i64 p_0), (Value.int IntKind.i64 p_1), (Value.int IntKind.i64 p_2), (Value.slice p_3 p_3_len p_3_cap), (Value.slice p_4 p_4_len p_4_cap)] 29 (0, 0)) fun (z0 : Addr) =>
  .alloc (Obj.cells #[(Value.string s_0), (Value.string s_1), (Value.string s_2), (Value.string s_3), (Value.string s_4), (Value.string s_5), (Value.string s_6), (Value.string s_7), (Value.string s_8), (Value.string s_9), (Value.string s_10), (Value.string s_11), (Value.string s_12), (Value.string s_13), (Value.string s_14), (Value.string s_15)] 24 (0, 0)) fun (z1 : Addr) =>
  .eff (Instr.loadAt 24 (Value.pointer (some z1))) (.agg (.cons .str (.cons .str (.cons .str (.cons .str (.cons .str (.cons .str (.cons .str (.cons .str (.cons .str (.cons .str (.cons .str (.cons .str (.cons .str (.cons .str (.cons .str (.cons .str .nil))))))))))))))))) fun (z2 : (ByteArray × (ByteArray × (ByteArray × (ByteArray × (ByteArray × (ByteArray × (ByteArray × (ByteArray × (ByteArray × (ByteArray × (ByteArray × (ByteArray × (ByteArray × (ByteArray × (ByteArray × (ByteArray × PUnit))))))))))))))))) =>
  .alloc (Obj.cells #[(Value.string (ByteArray.mk #[])), (Value.string (ByteArray.mk #[])), (Value.string (ByteArray.mk #[])), (Value.string (ByteArray.mk #[])), (Value.string (ByteArray.mk #[])), (Value.string (ByteArray.mk #[])), (Value.string (ByteArray.mk #[])), (Value.string (ByteArray.mk #[])), (Value.string (ByteArray.mk #[])), (Value.string (ByteArray.mk #[])), (Value.string (ByteArray.mk #[])), (Value.string (ByteArray.mk #[])), (Value.string (ByteArray.mk #[])), (Value.string (ByteArray.mk #[])), (Value.string (ByteArray.mk #[])), (Value.string (ByteArray.mk #[])), (Value.string (ByteArray.mk #[])), (Value.slice none 0 0)] 44 (0, 0)) fun (z3 : Addr) =>
  .effU (Instr.storeAt 44 (Value.pointer (some z3)) (Value.agg #[(Value.string text), (Value.string (z2).1), (Value.string ((z2).2).1), (Value.string (((z2).2).2).1), (Value.string ((((z2).2).2).2).1), (Value.string (((((z2).2).2).2).2).1), (Value.string ((((((z2).2).2).2).2).2).1), (Value.string (((((((z2).2).2).2).2).2).2).1), (Value.string ((((((((z2).2).2).2).2).2).2).2).1), (Value.string (((((((((z2).2).2).2).2).2).2).2).2).1), (Value.string ((((((((((z2).2).2).2).2).2).2).2).2).2).1), (Value.string (((((((((((z2).2).2).2).2).2).2).2).2).2).2).1), (Value.string ((((((((((((z2).2).2).2).2).2).2).2).2).2).2).2).1), (Value.string (((((((((((((z2).2).2).2).2).2).2).2).2).2).2).2).2).1), (Value.string ((((((((((((((z2).2).2).2).2).2).2).2).2).2).2).2).2).2).1), (Value.string (((((((((((((((z2).2).2).2).2).2).2).2).2).2).2).2).2).2).2).1), (Value.string ((((((((((((((((z2).2).2).2).2).2).2).2).2).2).2).2).2).2).2).2).1), (Value.slice none 0 0)])) <|
  .load (Addr.add z0 1) (.int .i64) fun (i4 : Int) =>
  .call 12 #[(Value.pointer (some z3)), (Value.int IntKind.i64 (0 : Int)), (Value.int IntKind.i64 i4), (Value.bool Bool.false)] (.tuple .nil) fun _ =>
  .eff (Instr.loadAt 29 (Value.pointer (some z0))) (.agg (.cons (.int .i64) (.cons (.int .i64) (.cons (.int .i64) (.cons .slice (.cons .slice .nil)))))) fun (z5 : (Int × (Int × (Int × (((Option Addr) × (Nat × Nat)) × (((Option Addr) × (Nat × Nat)) × PUnit)))))) =>
  .call 13 #[(Value.pointer (some z3)), (Value.agg #[(Value.int IntKind.i64 (z5).1), (Value.int IntKind.i64 ((z5).2).1), (Value.int IntKind.i64 (((z5).2).2).1), (Value.slice (((((z5).2).2).2).1).1 ((((((z5).2).2).2).1).2).1 ((((((z5).2).2).2).1).2).2), (Value.slice ((((((z5).2).2).2).2).1).1 (((((((z5).2).2).2).2).1).2).1 (((((((z5).2).2).2).2).1).2).2)])] (.tuple .nil) fun _ =>
  .load (Addr.add z0 2) (.int .i64) fun (i6 : Int) =>
  .call 12 #[(Value.pointer (some z3)), (Value.int IntKind.i64 i6), (Value.int IntKind.i64 (((ByteArray.size text) : Nat) : Int)), (Value.bool Bool.false)] (.tuple .nil) fun _ =>
  .load (Addr.add z3 17) .slice fun (z7 : ((Option Addr) × (Nat × Nat))) =>
  .eff (convert 37 9 (Value.slice (z7).1 ((z7).2).1 ((z7).2).2)) .str fun (s8 : ByteArray) =>
  .leaf 0 [(Value.string s8)]
def spec_Colored.h : Hints := ⟨[], [], [], []⟩
noncomputable def spec_Colored.c : Code := (Try.f8.body).getD .skip
theorem spec_Colored.e (text : ByteArray) (p_0 : Int) (p_1 : Int) (p_2 : Int) (p_3 : (Option Addr)) (p_3_len : Nat) (p_3_cap : Nat) (p_4 : (Option Addr)) (p_4_len : Nat) (p_4_cap : Nat) (s_0 : ByteArray) (s_1 : ByteArray) (s_2 : ByteArray) (s_3 : ByteArray) (s_4 : ByteArray) (s_5 : ByteArray) (s_6 : ByteArray) (s_7 : ByteArray) (s_8 : ByteArray) (s_9 : ByteArray) (s_10 : ByteArray) (s_11 : ByteArray) (s_12 : ByteArray) (s_13 : ByteArray) (s_14 : ByteArray) (s_15 : ByteArray) : fnT Try.prog spec_Colored.h Try.f8 spec_Colored.c [.v (Value.string text), .v (Value.agg #[(Value.int IntKind.i64 p_0), (Value.int IntKind.i64 p_1), (Value.int IntKind.i64 p_2), (Value.slice p_3 p_3_len p_3_cap), (Value.slice p_4 p_4_len p_4_cap)]), .v (Value.agg #[(Value.string s_0), (Value.string s_1), (Value.string s_2), (Value.string s_3), (Value.string s_4), (Value.string s_5), (Value.string s_6), (Value.string s_7), (Value.string s_8), (Value.string s_9), (Value.string s_10), (Value.string s_11), (Value.string s_12), (Value.string s_13), (Value.string s_14), (Value.string s_15)])] = spec_Colored.t text p_0 p_1 p_2 p_3 p_3_len p_3_cap p_4 p_4_len p_4_cap s_0 s_1 s_2 s_3 s_4 s_5 s_6 s_7 s_8 s_9 s_10 s_11 s_12 s_13 s_14 s_15 := by kernel_rfl
theorem spec_Colored.calls (text : ByteArray) (p_0 : Int) (p_1 : Int) (p_2 : Int) (p_3 : (Option Addr)) (p_3_len : Nat) (p_3_cap : Nat) (p_4 : (Option Addr)) (p_4_len : Nat) (p_4_cap : Nat) (s_0 : ByteArray) (s_1 : ByteArray) (s_2 : ByteArray) (s_3 : ByteArray) (s_4 : ByteArray) (s_5 : ByteArray) (s_6 : ByteArray) (s_7 : ByteArray) (s_8 : ByteArray) (s_9 : ByteArray) (s_10 : ByteArray) (s_11 : ByteArray) (s_12 : ByteArray) (s_13 : ByteArray) (s_14 : ByteArray) (s_15 : ByteArray) {w : World} {R : Ending → World → Prop} (hs : sat Try.prog (spec_Colored.t text p_0 p_1 p_2 p_3 p_3_len p_3_cap p_4 p_4_len p_4_cap s_0 s_1 s_2 s_3 s_4 s_5 s_6 s_7 s_8 s_9 s_10 s_11 s_12 s_13 s_14 s_15) (fun l vs w' => l = 0 ∧ R (.returned (retVal vs)) w') w) : Calls Try.prog 8 #[(Value.string text), (Value.agg #[(Value.int IntKind.i64 p_0), (Value.int IntKind.i64 p_1), (Value.int IntKind.i64 p_2), (Value.slice p_3 p_3_len p_3_cap), (Value.slice p_4 p_4_len p_4_cap)]), (Value.agg #[(Value.string s_0), (Value.string s_1), (Value.string s_2), (Value.string s_3), (Value.string s_4), (Value.string s_5), (Value.string s_6), (Value.string s_7), (Value.string s_8), (Value.string s_9), (Value.string s_10), (Value.string s_11), (Value.string s_12), (Value.string s_13), (Value.string s_14), (Value.string s_15)])] w R :=
  have h := calls_of_tree (w := w) (R := R) (args := [.v (Value.string text), .v (Value.agg #[(Value.int IntKind.i64 p_0), (Value.int IntKind.i64 p_1), (Value.int IntKind.i64 p_2), (Value.slice p_3 p_3_len p_3_cap), (Value.slice p_4 p_4_len p_4_cap)]), .v (Value.agg #[(Value.string s_0), (Value.string s_1), (Value.string s_2), (Value.string s_3), (Value.string s_4), (Value.string s_5), (Value.string s_6), (Value.string s_7), (Value.string s_8), (Value.string s_9), (Value.string s_10), (Value.string s_11), (Value.string s_12), (Value.string s_13), (Value.string s_14), (Value.string s_15)])]) (c := spec_Colored.c) Try.func8 (show Try.f8.body = some spec_Colored.c by kernel_rfl) (of_decide_eq_true (by kernel_rfl)) (spec_Colored.e text p_0 p_1 p_2 p_3 p_3_len p_3_cap p_4 p_4_len p_4_cap s_0 s_1 s_2 s_3 s_4 s_5 s_6 s_7 s_8 s_9 s_10 s_11 s_12 s_13 s_14 s_15) hs
  h

/-! ### pub-tetrapla/laws.zzFits6 : function 9 -/
def laws_zzFits6.t1 (z1 : (ByteArray × (ByteArray × PUnit))) (i2 : Int) : T :=
  .ite (decide (i2 < (2 : Int))) (
    .eff (Instr.index 22 (Value.agg #[(Value.string (z1).1), (Value.string ((z1).2).1)]) (Value.int IntKind.i64 i2)) .str fun (s3 : ByteArray) =>
    .ite (decide ((((ByteArray.size s3) : Nat) : Int) > (2147483647 : Int))) (
      .leaf 0 [(Value.bool Bool.false)]) (
      .leaf 1 [(Value.int IntKind.i64 (IntKind.wrap IntKind.i64 (i2 + (1 : Int))))])) (
    .leaf 0 [(Value.bool Bool.true)])
def laws_zzFits6.t (x_0 : ByteArray) (x_1 : ByteArray) : T :=
  .alloc (Obj.cells #[(Value.string x_0), (Value.string x_1)] 22 (0, 0)) fun (z0 : Addr) =>
  .eff (Instr.loadAt 22 (Value.pointer (some z0))) (.agg (.cons .str (.cons .str .nil))) fun (z1 : (ByteArray × (ByteArray × PUnit))) =>
  .loop 1 (.cons (.int .i64) .nil) [(Value.int IntKind.i64 (0 : Int))]
    (fun z => laws_zzFits6.t1 z1 z.1)
def laws_zzFits6.h : Hints := ⟨[], [], [], [(2, [(6, (.int .i64))])]⟩
noncomputable def laws_zzFits6.c : Code := (Try.f9.body).getD .skip
theorem laws_zzFits6.e (x_0 : ByteArray) (x_1 : ByteArray) : fnT Try.prog laws_zzFits6.h Try.f9 laws_zzFits6.c [.v (Value.agg #[(Value.string x_0), (Value.string x_1)])] = laws_zzFits6.t x_0 x_1 := by kernel_rfl
theorem laws_zzFits6.calls (x_0 : ByteArray) (x_1 : ByteArray) {w : World} {R : Ending → World → Prop} (hs : sat Try.prog (laws_zzFits6.t x_0 x_1) (fun l vs w' => l = 0 ∧ R (.returned (retVal vs)) w') w) : Calls Try.prog 9 #[(Value.agg #[(Value.string x_0), (Value.string x_1)])] w R :=
  have h := calls_of_tree (w := w) (R := R) (args := [.v (Value.agg #[(Value.string x_0), (Value.string x_1)])]) (c := laws_zzFits6.c) Try.func9 (show Try.f9.body = some laws_zzFits6.c by kernel_rfl) (of_decide_eq_true (by kernel_rfl)) (laws_zzFits6.e x_0 x_1) hs
  h

/-! ### pub-tetrapla/spec.Places : function 10 -/
def spec_Places.t (text : ByteArray) : T :=
  .alloc (Obj.cells #[(Value.int IntKind.i64 (0 : Int)), (Value.int IntKind.i64 (0 : Int)), (Value.int IntKind.i64 (0 : Int)), (Value.slice none 0 0), (Value.slice none 0 0)] 29 (0, 0)) fun (z0 : Addr) =>
  .alloc (Obj.cells #[(Value.string (ByteArray.mk #[])), (Value.int IntKind.i64 (0 : Int))] 48 (0, 0)) fun (z1 : Addr) =>
  .effU (Instr.storeAt 48 (Value.pointer (some z1)) (Value.agg #[(Value.string text), (Value.int IntKind.i64 (0 : Int))])) <|
  .call 14 #[(Value.pointer (some z1))] (.tuple .nil) fun _ =>
  .call 15 #[(Value.pointer (some z1))] (.tuple (.cons (.agg (.cons (.int .i64) (.cons (.int .i64) (.cons (.int .i64) (.cons .slice (.cons .slice .nil)))))) (.cons .bool .nil))) fun (z2 : ((Int × (Int × (Int × (((Option Addr) × (Nat × Nat)) × (((Option Addr) × (Nat × Nat)) × PUnit))))) × (Bool × PUnit))) =>
  .alloc (Obj.cells #[(Value.int IntKind.i64 (0 : Int)), (Value.int IntKind.i64 (0 : Int)), (Value.int IntKind.i64 (0 : Int)), (Value.slice none 0 0), (Value.slice none 0 0)] 29 (0, 0)) fun (z3 : Addr) =>
  .effU (Instr.storeAt 29 (Value.pointer (some z3)) (Value.agg #[(Value.int IntKind.i64 ((z2).1).1), (Value.int IntKind.i64 (((z2).1).2).1), (Value.int IntKind.i64 ((((z2).1).2).2).1), (Value.slice ((((((z2).1).2).2).2).1).1 (((((((z2).1).2).2).2).1).2).1 (((((((z2).1).2).2).2).1).2).2), (Value.slice (((((((z2).1).2).2).2).2).1).1 ((((((((z2).1).2).2).2).2).1).2).1 ((((((((z2).1).2).2).2).2).1).2).2)])) <|
  .ite (!((z2).2).1) (
    .effU (Instr.storeAt 29 (Value.pointer (some z0)) (Value.agg #[(Value.int IntKind.i64 (0 : Int)), (Value.int IntKind.i64 (0 : Int)), (Value.int IntKind.i64 (0 : Int)), (Value.slice none 0 0), (Value.slice none 0 0)])) <|
    .effS (Instr.loadAt 29 (Value.pointer (some z0))) (.agg (.cons (.int .i64) (.cons (.int .i64) (.cons (.int .i64) (.cons .slice (.cons .slice .nil)))))) fun (z4 : (Int × (Int × (Int × (((Option Addr) × (Nat × Nat)) × (((Option Addr) × (Nat × Nat)) × PUnit)))))) =>
    .leaf 0 [(Value.agg #[(Value.int IntKind.i64 (z4).1), (Value.int IntKind.i64 ((z4).2).1), (Value.int IntKind.i64 (((z4).2).2).1), (Value.slice (((((z4).2).2).2).1).1 ((((((z4).2).2).2).1).2).1 ((((((z4).2).2).2).1).2).2), (Value.slice ((((((z4).2).2).2).2).1).1 (((((((z4).2).2).2).2).1).2).1 (((((((z4).2).2).2).2).1).2).2)]), (Value.bool Bool.false)]) (
    .call 14 #[(Value.pointer (some z1))] (.tuple .nil) fun _ =>
    .load (Addr.add z1 1) (.int .i64) fun (i5 : Int) =>
    .ite (i5 != (((ByteArray.size text) : Nat) : Int)) (
      .effU (Instr.storeAt 29 (Value.pointer (some z0)) (Value.agg #[(Value.int IntKind.i64 (0 : Int)), (Value.int IntKind.i64 (0 : Int)), (Value.int IntKind.i64 (0 : Int)), (Value.slice none 0 0), (Value.slice none 0 0)])) <|
      .effS (Instr.loadAt 29 (Value.pointer (some z0))) (.agg (.cons (.int .i64) (.cons (.int .i64) (.cons (.int .i64) (.cons .slice (.cons .slice .nil)))))) fun (z6 : (Int × (Int × (Int × (((Option Addr) × (Nat × Nat)) × (((Option Addr) × (Nat × Nat)) × PUnit)))))) =>
      .leaf 0 [(Value.agg #[(Value.int IntKind.i64 (z6).1), (Value.int IntKind.i64 ((z6).2).1), (Value.int IntKind.i64 (((z6).2).2).1), (Value.slice (((((z6).2).2).2).1).1 ((((((z6).2).2).2).1).2).1 ((((((z6).2).2).2).1).2).2), (Value.slice ((((((z6).2).2).2).2).1).1 (((((((z6).2).2).2).2).1).2).1 (((((((z6).2).2).2).2).1).2).2)]), (Value.bool Bool.false)]) (
      .eff (Instr.loadAt 29 (Value.pointer (some z3))) (.agg (.cons (.int .i64) (.cons (.int .i64) (.cons (.int .i64) (.cons .slice (.cons .slice .nil)))))) fun (z7 : (Int × (Int × (Int × (((Option Addr) × (Nat × Nat)) × (((Option Addr) × (Nat × Nat)) × PUnit)))))) =>
      .effU (Instr.storeAt 29 (Value.pointer (some z0)) (Value.agg #[(Value.int IntKind.i64 (z7).1), (Value.int IntKind.i64 ((z7).2).1), (Value.int IntKind.i64 (((z7).2).2).1), (Value.slice (((((z7).2).2).2).1).1 ((((((z7).2).2).2).1).2).1 ((((((z7).2).2).2).1).2).2), (Value.slice ((((((z7).2).2).2).2).1).1 (((((((z7).2).2).2).2).1).2).1 (((((((z7).2).2).2).2).1).2).2)])) <|
      .effS (Instr.loadAt 29 (Value.pointer (some z0))) (.agg (.cons (.int .i64) (.cons (.int .i64) (.cons (.int .i64) (.cons .slice (.cons .slice .nil)))))) fun (z8 : (Int × (Int × (Int × (((Option Addr) × (Nat × Nat)) × (((Option Addr) × (Nat × Nat)) × PUnit)))))) =>
      .leaf 0 [(Value.agg #[(Value.int IntKind.i64 (z8).1), (Value.int IntKind.i64 ((z8).2).1), (Value.int IntKind.i64 (((z8).2).2).1), (Value.slice (((((z8).2).2).2).1).1 ((((((z8).2).2).2).1).2).1 ((((((z8).2).2).2).1).2).2), (Value.slice ((((((z8).2).2).2).2).1).1 (((((((z8).2).2).2).2).1).2).1 (((((((z8).2).2).2).2).1).2).2)]), (Value.bool Bool.true)]))
def spec_Places.h : Hints := ⟨[], [], [], []⟩
noncomputable def spec_Places.c : Code := (Try.f10.body).getD .skip
theorem spec_Places.e (text : ByteArray) : fnT Try.prog spec_Places.h Try.f10 spec_Places.c [.v (Value.string text)] = spec_Places.t text := by kernel_rfl
theorem spec_Places.calls (text : ByteArray) {w : World} {R : Ending → World → Prop} (hs : sat Try.prog (spec_Places.t text) (fun l vs w' => l = 0 ∧ R (.returned (retVal vs)) w') w) : Calls Try.prog 10 #[(Value.string text)] w R :=
  have h := calls_of_tree (w := w) (R := R) (args := [.v (Value.string text)]) (c := spec_Places.c) Try.func10 (show Try.f10.body = some spec_Places.c by kernel_rfl) (of_decide_eq_true (by kernel_rfl)) (spec_Places.e text) hs
  h

/-! ### pub-tetrapla/pub/pretty.Color : function 11 -/
def pretty_Color.t8 (z39 : ((Option Addr) × (Nat × Nat))) (i43 : Int) : T :=
  .leaf 4 [(Value.slice (z39).1 ((z39).2).1 ((z39).2).2), (Value.bool Bool.true), (Value.int IntKind.i64 i43)]
def pretty_Color.t7 (z39 : ((Option Addr) × (Nat × Nat))) (b42 : Bool) : T :=
  .cut 5 (.cons (.int .i64) .nil) (
    .ite b42 (
      .leaf 5 [(Value.int IntKind.i64 (5 : Int))]) (
      .leaf 5 [(Value.int IntKind.i64 (1 : Int))]))
    (fun z => pretty_Color.t8 z39 z.1)
def pretty_Color.t6 (q0 : (Option Addr)) (q0_len : Nat) (q1 : (Option Addr)) (v4 : Value) (i21 : Int) (z33 : ((Option Addr) × (Nat × Nat))) : T :=
  .ptr q1 fun (z34 : Addr) =>
  .chk (((0 : Int) ≤ (0 : Int)) ∧ ((0 : Int) < (2 : Int))) <|
  .load (Addr.add (Addr.add z34 12) 0) .str fun (s35 : ByteArray) =>
  .eff (Builtin.append_ (Call.argTypes (Call.mk (Callee.builtin Builtin.append) #[(Operand.tmp 89), (Operand.tmp 94)] #[37, 9])) 37 #[(Value.slice (z33).1 ((z33).2).1 ((z33).2).2), (Value.string s35)]) .slice fun (z36 : ((Option Addr) × (Nat × Nat))) =>
  .chk (((0 : Int) ≤ i21) ∧ (i21 < ((q0_len : Nat) : Int))) <|
  .ptr q0 fun (z37 : Addr) =>
  .load (Addr.add z37 ((Int.toNat i21) * 1)) (.int .u8) fun (i38 : Int) =>
  .callD v4 #[(Value.slice (z36).1 ((z36).2).1 ((z36).2).2), (Value.int IntKind.u8 i38)] .slice fun (z39 : ((Option Addr) × (Nat × Nat))) =>
  .cut 5 (.cons .bool .nil) (
    .ite (decide ((IntKind.wrap IntKind.i64 (i21 + (1 : Int))) < ((q0_len : Nat) : Int))) (
      .chk (((0 : Int) ≤ (IntKind.wrap IntKind.i64 (i21 + (1 : Int)))) ∧ ((IntKind.wrap IntKind.i64 (i21 + (1 : Int))) < ((q0_len : Nat) : Int))) <|
      .ptr q0 fun (z40 : Addr) =>
      .load (Addr.add z40 ((Int.toNat (IntKind.wrap IntKind.i64 (i21 + (1 : Int)))) * 1)) (.int .u8) fun (i41 : Int) =>
      .leaf 5 [(Value.bool (i41 == (117 : Int)))]) (
      .leaf 5 [(Value.bool Bool.false)]))
    (fun z => pretty_Color.t7 z39 z.1)
def pretty_Color.t9 (i24 : Int) (z56 : ((Option Addr) × (Nat × Nat))) : T :=
  .leaf 6 [(Value.slice (z56).1 ((z56).2).1 ((z56).2).2), (Value.bool Bool.false), (Value.int IntKind.i64 i24)]
def pretty_Color.t10 (z57 : ((Option Addr) × (Nat × Nat))) (b58 : Bool) (i59 : Int) : T :=
  .leaf 5 [(Value.slice (z57).1 ((z57).2).1 ((z57).2).2), (Value.bool b58), (Value.int IntKind.i64 i59)]
def pretty_Color.t11 (z63 : ((Option Addr) × (Nat × Nat))) (b64 : Bool) (i65 : Int) : T :=
  .leaf 4 [(Value.slice (z63).1 ((z63).2).1 ((z63).2).2), (Value.bool b64), (Value.int IntKind.i64 i65)]
def pretty_Color.t13 (q0 : (Option Addr)) (q0_len : Nat) (i21 : Int) (z66 : ((Option Addr) × (Nat × Nat))) (b67 : Bool) (i68 : Int) (i71 : Int) : T :=
  .chk (((0 : Int) ≤ i71) ∧ (i71 < ((q0_len : Nat) : Int))) <|
  .ptr q0 fun (z72 : Addr) =>
  .load (Addr.add z72 ((Int.toNat i71) * 1)) (.int .u8) fun (i73 : Int) =>
  .ite (i73 != (92 : Int)) (
    .chk ((2 : Int) ≠ (0 : Int)) <|
    .ite ((Int.tmod (IntKind.wrap IntKind.i64 (i71 - i21)) (2 : Int)) != (0 : Int)) (
      .leaf 2 [(Value.int IntKind.i64 i21), (Value.slice (z66).1 ((z66).2).1 ((z66).2).2), (Value.bool b67)]) (
      .leaf 3 [(Value.int IntKind.i64 (IntKind.wrap IntKind.i64 (i21 + (1 : Int)))), (Value.slice (z66).1 ((z66).2).1 ((z66).2).2), (Value.bool b67), (Value.int IntKind.i64 i68)])) (
    .leaf 4 [(Value.int IntKind.i64 (IntKind.wrap IntKind.i64 (i71 - (1 : Int))))])
def pretty_Color.t12 (q0 : (Option Addr)) (q0_len : Nat) (i21 : Int) (z66 : ((Option Addr) × (Nat × Nat))) (b67 : Bool) (i68 : Int) : T :=
  .chk (((0 : Int) ≤ i21) ∧ (i21 < ((q0_len : Nat) : Int))) <|
  .ptr q0 fun (z69 : Addr) =>
  .load (Addr.add z69 ((Int.toNat i21) * 1)) (.int .u8) fun (i70 : Int) =>
  .ite (i70 == (34 : Int)) (
    .loop 4 (.cons (.int .i64) .nil) [(Value.int IntKind.i64 (IntKind.wrap IntKind.i64 (i21 - (1 : Int))))]
      (fun z => pretty_Color.t13 q0 q0_len i21 z66 b67 i68 z.1)) (
    .leaf 3 [(Value.int IntKind.i64 (IntKind.wrap IntKind.i64 (i21 + (1 : Int)))), (Value.slice (z66).1 ((z66).2).1 ((z66).2).2), (Value.bool b67), (Value.int IntKind.i64 i68)])
def pretty_Color.t5 (q0 : (Option Addr)) (q0_len : Nat) (q1 : (Option Addr)) (v4 : Value) (b12 : Bool) (i21 : Int) (z22 : ((Option Addr) × (Nat × Nat))) (b23 : Bool) (i24 : Int) : T :=
  .ite (decide (i21 < ((q0_len : Nat) : Int))) (
    .chk (((0 : Int) ≤ i21) ∧ (i21 < ((q0_len : Nat) : Int))) <|
    .ptr q0 fun (z25 : Addr) =>
    .load (Addr.add z25 ((Int.toNat i21) * 1)) (.int .u8) fun (i26 : Int) =>
    .cut 4 (.cons .slice (.cons .bool (.cons (.int .i64) .nil))) (
      .ite (i26 == (92 : Int)) (
        .cut 5 (.cons .slice .nil) (
          .ite b12 (
            .ptr q1 fun (z27 : Addr) =>
            .chk (((0 : Int) ≤ (1 : Int)) ∧ ((1 : Int) < (2 : Int))) <|
            .load (Addr.add (Addr.add z27 0) 1) .str fun (s28 : ByteArray) =>
            .eff (Builtin.append_ (Call.argTypes (Call.mk (Callee.builtin Builtin.append) #[(Operand.tmp 75), (Operand.tmp 80)] #[37, 9])) 37 #[(Value.slice (z22).1 ((z22).2).1 ((z22).2).2), (Value.string s28)]) .slice fun (z29 : ((Option Addr) × (Nat × Nat))) =>
            .leaf 5 [(Value.slice (z29).1 ((z29).2).1 ((z29).2).2)]) (
            .ptr q1 fun (z30 : Addr) =>
            .chk (((0 : Int) ≤ (1 : Int)) ∧ ((1 : Int) < (2 : Int))) <|
            .load (Addr.add (Addr.add z30 2) 1) .str fun (s31 : ByteArray) =>
            .eff (Builtin.append_ (Call.argTypes (Call.mk (Callee.builtin Builtin.append) #[(Operand.tmp 82), (Operand.tmp 87)] #[37, 9])) 37 #[(Value.slice (z22).1 ((z22).2).1 ((z22).2).2), (Value.string s31)]) .slice fun (z32 : ((Option Addr) × (Nat × Nat))) =>
            .leaf 5 [(Value.slice (z32).1 ((z32).2).1 ((z32).2).2)]))
          (fun z => pretty_Color.t6 q0 q0_len q1 v4 i21 z.1)) (
        .cut 5 (.cons .slice (.cons .bool (.cons (.int .i64) .nil))) (
          .ite b23 (
            .chk (((0 : Int) ≤ i21) ∧ (i21 < ((q0_len : Nat) : Int))) <|
            .ptr q0 fun (z44 : Addr) =>
            .load (Addr.add z44 ((Int.toNat i21) * 1)) (.int .u8) fun (i45 : Int) =>
            .callD v4 #[(Value.slice (z22).1 ((z22).2).1 ((z22).2).2), (Value.int IntKind.u8 i45)] .slice fun (z46 : ((Option Addr) × (Nat × Nat))) =>
            .cut 6 (.cons .slice (.cons .bool (.cons (.int .i64) .nil))) (
              .ite (i24 == (1 : Int)) (
                .ptr q1 fun (z47 : Addr) =>
                .chk (((0 : Int) ≤ (1 : Int)) ∧ ((1 : Int) < (2 : Int))) <|
                .load (Addr.add (Addr.add z47 12) 1) .str fun (s48 : ByteArray) =>
                .eff (Builtin.append_ (Call.argTypes (Call.mk (Callee.builtin Builtin.append) #[(Operand.tmp 126), (Operand.tmp 131)] #[37, 9])) 37 #[(Value.slice (z46).1 ((z46).2).1 ((z46).2).2), (Value.string s48)]) .slice fun (z49 : ((Option Addr) × (Nat × Nat))) =>
                .cut 7 (.cons .slice .nil) (
                  .ite b12 (
                    .ptr q1 fun (z50 : Addr) =>
                    .chk (((0 : Int) ≤ (0 : Int)) ∧ ((0 : Int) < (2 : Int))) <|
                    .load (Addr.add (Addr.add z50 0) 0) .str fun (s51 : ByteArray) =>
                    .eff (Builtin.append_ (Call.argTypes (Call.mk (Callee.builtin Builtin.append) #[(Operand.tmp 134), (Operand.tmp 139)] #[37, 9])) 37 #[(Value.slice (z49).1 ((z49).2).1 ((z49).2).2), (Value.string s51)]) .slice fun (z52 : ((Option Addr) × (Nat × Nat))) =>
                    .leaf 7 [(Value.slice (z52).1 ((z52).2).1 ((z52).2).2)]) (
                    .ptr q1 fun (z53 : Addr) =>
                    .chk (((0 : Int) ≤ (0 : Int)) ∧ ((0 : Int) < (2 : Int))) <|
                    .load (Addr.add (Addr.add z53 2) 0) .str fun (s54 : ByteArray) =>
                    .eff (Builtin.append_ (Call.argTypes (Call.mk (Callee.builtin Builtin.append) #[(Operand.tmp 141), (Operand.tmp 146)] #[37, 9])) 37 #[(Value.slice (z49).1 ((z49).2).1 ((z49).2).2), (Value.string s54)]) .slice fun (z55 : ((Option Addr) × (Nat × Nat))) =>
                    .leaf 7 [(Value.slice (z55).1 ((z55).2).1 ((z55).2).2)]))
                  (fun z => pretty_Color.t9 i24 z.1)) (
                .leaf 6 [(Value.slice (z46).1 ((z46).2).1 ((z46).2).2), (Value.bool b23), (Value.int IntKind.i64 (IntKind.wrap IntKind.i64 (i24 - (1 : Int))))]))
              (fun z => pretty_Color.t10 z.1 z.2.1 z.2.2.1)) (
            .chk (((0 : Int) ≤ i21) ∧ (i21 < ((q0_len : Nat) : Int))) <|
            .ptr q0 fun (z60 : Addr) =>
            .load (Addr.add z60 ((Int.toNat i21) * 1)) (.int .u8) fun (i61 : Int) =>
            .callD v4 #[(Value.slice (z22).1 ((z22).2).1 ((z22).2).2), (Value.int IntKind.u8 i61)] .slice fun (z62 : ((Option Addr) × (Nat × Nat))) =>
            .leaf 5 [(Value.slice (z62).1 ((z62).2).1 ((z62).2).2), (Value.bool b23), (Value.int IntKind.i64 i24)]))
          (fun z => pretty_Color.t11 z.1 z.2.1 z.2.2.1)))
      (fun z => pretty_Color.t12 q0 q0_len i21 z.1 z.2.1 z.2.2.1)) (
    .leaf 2 [(Value.int IntKind.i64 i21), (Value.slice (z22).1 ((z22).2).1 ((z22).2).2), (Value.bool b23)])
def pretty_Color.t14 (q1 : (Option Addr)) (z7 : ((Option Addr) × (Nat × Nat))) (b12 : Bool) (i74 : Int) (z75 : ((Option Addr) × (Nat × Nat))) (b76 : Bool) : T :=
  .ite b76 (
    .ptr q1 fun (z77 : Addr) =>
    .chk (((0 : Int) ≤ (1 : Int)) ∧ ((1 : Int) < (2 : Int))) <|
    .load (Addr.add (Addr.add z77 12) 1) .str fun (s78 : ByteArray) =>
    .eff (Builtin.append_ (Call.argTypes (Call.mk (Callee.builtin Builtin.append) #[(Operand.tmp 177), (Operand.tmp 182)] #[37, 9])) 37 #[(Value.slice (z75).1 ((z75).2).1 ((z75).2).2), (Value.string s78)]) .slice fun (z79 : ((Option Addr) × (Nat × Nat))) =>
    .leaf 1 [(Value.int IntKind.i64 (IntKind.wrap IntKind.i64 (i74 + (1 : Int)))), (Value.slice (z79).1 ((z79).2).1 ((z79).2).2), (Value.slice (z7).1 ((z7).2).1 ((z7).2).2)]) (
    .ite b12 (
      .ptr q1 fun (z80 : Addr) =>
      .chk (((0 : Int) ≤ (1 : Int)) ∧ ((1 : Int) < (2 : Int))) <|
      .load (Addr.add (Addr.add z80 0) 1) .str fun (s81 : ByteArray) =>
      .eff (Builtin.append_ (Call.argTypes (Call.mk (Callee.builtin Builtin.append) #[(Operand.tmp 185), (Operand.tmp 190)] #[37, 9])) 37 #[(Value.slice (z75).1 ((z75).2).1 ((z75).2).2), (Value.string s81)]) .slice fun (z82 : ((Option Addr) × (Nat × Nat))) =>
      .leaf 1 [(Value.int IntKind.i64 (IntKind.wrap IntKind.i64 (i74 + (1 : Int)))), (Value.slice (z82).1 ((z82).2).1 ((z82).2).2), (Value.slice (z7).1 ((z7).2).1 ((z7).2).2)]) (
      .ptr q1 fun (z83 : Addr) =>
      .chk (((0 : Int) ≤ (1 : Int)) ∧ ((1 : Int) < (2 : Int))) <|
      .load (Addr.add (Addr.add z83 2) 1) .str fun (s84 : ByteArray) =>
      .eff (Builtin.append_ (Call.argTypes (Call.mk (Callee.builtin Builtin.append) #[(Operand.tmp 192), (Operand.tmp 197)] #[37, 9])) 37 #[(Value.slice (z75).1 ((z75).2).1 ((z75).2).2), (Value.string s84)]) .slice fun (z85 : ((Option Addr) × (Nat × Nat))) =>
      .leaf 1 [(Value.int IntKind.i64 (IntKind.wrap IntKind.i64 (i74 + (1 : Int)))), (Value.slice (z85).1 ((z85).2).1 ((z85).2).2), (Value.slice (z7).1 ((z7).2).1 ((z7).2).2)]))
def pretty_Color.t4 (q0 : (Option Addr)) (q0_len : Nat) (q1 : (Option Addr)) (v4 : Value) (i5 : Int) (z7 : ((Option Addr) × (Nat × Nat))) (b12 : Bool) (z19 : ((Option Addr) × (Nat × Nat))) : T :=
  .callD v4 #[(Value.slice (z19).1 ((z19).2).1 ((z19).2).2), (Value.int IntKind.u8 (34 : Int))] .slice fun (z20 : ((Option Addr) × (Nat × Nat))) =>
  .cut 2 (.cons (.int .i64) (.cons .slice (.cons .bool .nil))) (
    .loop 3 (.cons (.int .i64) (.cons .slice (.cons .bool (.cons (.int .i64) .nil)))) [(Value.int IntKind.i64 (IntKind.wrap IntKind.i64 (i5 + (1 : Int)))), (Value.slice (z20).1 ((z20).2).1 ((z20).2).2), (Value.bool Bool.false), (Value.int IntKind.i64 (0 : Int))]
      (fun z => pretty_Color.t5 q0 q0_len q1 v4 b12 z.1 z.2.1 z.2.2.1 z.2.2.2.1))
    (fun z => pretty_Color.t14 q1 z7 b12 z.1 z.2.1 z.2.2.1)
def pretty_Color.t3 (q0 : (Option Addr)) (q0_len : Nat) (q1 : (Option Addr)) (v4 : Value) (i5 : Int) (z6 : ((Option Addr) × (Nat × Nat))) (z7 : ((Option Addr) × (Nat × Nat))) (b12 : Bool) : T :=
  .cut 2 (.cons .slice .nil) (
    .ite b12 (
      .ptr q1 fun (z13 : Addr) =>
      .chk (((0 : Int) ≤ (0 : Int)) ∧ ((0 : Int) < (2 : Int))) <|
      .load (Addr.add (Addr.add z13 0) 0) .str fun (s14 : ByteArray) =>
      .eff (Builtin.append_ (Call.argTypes (Call.mk (Callee.builtin Builtin.append) #[(Operand.tmp 44), (Operand.tmp 49)] #[37, 9])) 37 #[(Value.slice (z6).1 ((z6).2).1 ((z6).2).2), (Value.string s14)]) .slice fun (z15 : ((Option Addr) × (Nat × Nat))) =>
      .leaf 2 [(Value.slice (z15).1 ((z15).2).1 ((z15).2).2)]) (
      .ptr q1 fun (z16 : Addr) =>
      .chk (((0 : Int) ≤ (0 : Int)) ∧ ((0 : Int) < (2 : Int))) <|
      .load (Addr.add (Addr.add z16 2) 0) .str fun (s17 : ByteArray) =>
      .eff (Builtin.append_ (Call.argTypes (Call.mk (Callee.builtin Builtin.append) #[(Operand.tmp 51), (Operand.tmp 56)] #[37, 9])) 37 #[(Value.slice (z6).1 ((z6).2).1 ((z6).2).2), (Value.string s17)]) .slice fun (z18 : ((Option Addr) × (Nat × Nat))) =>
      .leaf 2 [(Value.slice (z18).1 ((z18).2).1 ((z18).2).2)]))
    (fun z => pretty_Color.t4 q0 q0_len q1 v4 i5 z7 b12 z.1)
def pretty_Color.t19 (z176 : ((Option Addr) × (Nat × Nat))) (i177 : Int) : T :=
  .leaf 4 [(Value.slice (z176).1 ((z176).2).1 ((z176).2).2), (Value.int IntKind.u8 i177)]
def pretty_Color.t20 (z178 : ((Option Addr) × (Nat × Nat))) (i179 : Int) : T :=
  .leaf 3 [(Value.slice (z178).1 ((z178).2).1 ((z178).2).2), (Value.int IntKind.u8 i179)]
def pretty_Color.t21 (z180 : ((Option Addr) × (Nat × Nat))) (i181 : Int) : T :=
  .leaf 2 [(Value.slice (z180).1 ((z180).2).1 ((z180).2).2), (Value.int IntKind.u8 i181)]
def pretty_Color.t24 (q0 : (Option Addr)) (q0_len : Nat) (v4 : Value) (z184 : ((Option Addr) × (Nat × Nat))) (i185 : Int) (b196 : Bool) : T :=
  .ite b196 (
    .leaf 2 [(Value.int IntKind.i64 (IntKind.wrap IntKind.i64 (i185 - (1 : Int)))), (Value.slice (z184).1 ((z184).2).1 ((z184).2).2)]) (
    .chk (((0 : Int) ≤ i185) ∧ (i185 < ((q0_len : Nat) : Int))) <|
    .ptr q0 fun (z197 : Addr) =>
    .load (Addr.add z197 ((Int.toNat i185) * 1)) (.int .u8) fun (i198 : Int) =>
    .callD v4 #[(Value.slice (z184).1 ((z184).2).1 ((z184).2).2), (Value.int IntKind.u8 i198)] .slice fun (z199 : ((Option Addr) × (Nat × Nat))) =>
    .leaf 3 [(Value.slice (z199).1 ((z199).2).1 ((z199).2).2), (Value.int IntKind.i64 (IntKind.wrap IntKind.i64 (i185 + (1 : Int))))])
def pretty_Color.t23 (q0 : (Option Addr)) (q0_len : Nat) (v4 : Value) (z184 : ((Option Addr) × (Nat × Nat))) (i185 : Int) : T :=
  .ite (decide (i185 < ((q0_len : Nat) : Int))) (
    .cut 4 (.cons .bool .nil) (
      .chk (((0 : Int) ≤ i185) ∧ (i185 < ((q0_len : Nat) : Int))) <|
      .ptr q0 fun (z186 : Addr) =>
      .load (Addr.add z186 ((Int.toNat i185) * 1)) (.int .u8) fun (i187 : Int) =>
      .ite (decide (i187 ≤ (32 : Int))) (
        .leaf 4 [(Value.bool Bool.true)]) (
        .chk (((0 : Int) ≤ i185) ∧ (i185 < ((q0_len : Nat) : Int))) <|
        .ptr q0 fun (z188 : Addr) =>
        .load (Addr.add z188 ((Int.toNat i185) * 1)) (.int .u8) fun (i189 : Int) =>
        .ite (i189 == (44 : Int)) (
          .leaf 4 [(Value.bool Bool.true)]) (
          .chk (((0 : Int) ≤ i185) ∧ (i185 < ((q0_len : Nat) : Int))) <|
          .ptr q0 fun (z190 : Addr) =>
          .load (Addr.add z190 ((Int.toNat i185) * 1)) (.int .u8) fun (i191 : Int) =>
          .ite (i191 == (58 : Int)) (
            .leaf 4 [(Value.bool Bool.true)]) (
            .chk (((0 : Int) ≤ i185) ∧ (i185 < ((q0_len : Nat) : Int))) <|
            .ptr q0 fun (z192 : Addr) =>
            .load (Addr.add z192 ((Int.toNat i185) * 1)) (.int .u8) fun (i193 : Int) =>
            .ite (i193 == (93 : Int)) (
              .leaf 4 [(Value.bool Bool.true)]) (
              .chk (((0 : Int) ≤ i185) ∧ (i185 < ((q0_len : Nat) : Int))) <|
              .ptr q0 fun (z194 : Addr) =>
              .load (Addr.add z194 ((Int.toNat i185) * 1)) (.int .u8) fun (i195 : Int) =>
              .leaf 4 [(Value.bool (i195 == (125 : Int)))])))))
      (fun z => pretty_Color.t24 q0 q0_len v4 z184 i185 z.1)) (
    .leaf 2 [(Value.int IntKind.i64 i185), (Value.slice (z184).1 ((z184).2).1 ((z184).2).2)])
def pretty_Color.t25 (q1 : (Option Addr)) (z7 : ((Option Addr) × (Nat × Nat))) (i183 : Int) (i200 : Int) (z201 : ((Option Addr) × (Nat × Nat))) : T :=
  .ite (i183 == (48 : Int)) (
    .ptr q1 fun (z202 : Addr) =>
    .chk (((0 : Int) ≤ (1 : Int)) ∧ ((1 : Int) < (2 : Int))) <|
    .load (Addr.add (Addr.add z202 4) 1) .str fun (s203 : ByteArray) =>
    .eff (Builtin.append_ (Call.argTypes (Call.mk (Callee.builtin Builtin.append) #[(Operand.tmp 477), (Operand.tmp 482)] #[37, 9])) 37 #[(Value.slice (z201).1 ((z201).2).1 ((z201).2).2), (Value.string s203)]) .slice fun (z204 : ((Option Addr) × (Nat × Nat))) =>
    .leaf 1 [(Value.int IntKind.i64 (IntKind.wrap IntKind.i64 (i200 + (1 : Int)))), (Value.slice (z204).1 ((z204).2).1 ((z204).2).2), (Value.slice (z7).1 ((z7).2).1 ((z7).2).2)]) (
    .ite (i183 == (116 : Int)) (
      .ptr q1 fun (z205 : Addr) =>
      .chk (((0 : Int) ≤ (1 : Int)) ∧ ((1 : Int) < (2 : Int))) <|
      .load (Addr.add (Addr.add z205 6) 1) .str fun (s206 : ByteArray) =>
      .eff (Builtin.append_ (Call.argTypes (Call.mk (Callee.builtin Builtin.append) #[(Operand.tmp 486), (Operand.tmp 491)] #[37, 9])) 37 #[(Value.slice (z201).1 ((z201).2).1 ((z201).2).2), (Value.string s206)]) .slice fun (z207 : ((Option Addr) × (Nat × Nat))) =>
      .leaf 1 [(Value.int IntKind.i64 (IntKind.wrap IntKind.i64 (i200 + (1 : Int)))), (Value.slice (z207).1 ((z207).2).1 ((z207).2).2), (Value.slice (z7).1 ((z7).2).1 ((z7).2).2)]) (
      .ite (i183 == (102 : Int)) (
        .ptr q1 fun (z208 : Addr) =>
        .chk (((0 : Int) ≤ (1 : Int)) ∧ ((1 : Int) < (2 : Int))) <|
        .load (Addr.add (Addr.add z208 8) 1) .str fun (s209 : ByteArray) =>
        .eff (Builtin.append_ (Call.argTypes (Call.mk (Callee.builtin Builtin.append) #[(Operand.tmp 495), (Operand.tmp 500)] #[37, 9])) 37 #[(Value.slice (z201).1 ((z201).2).1 ((z201).2).2), (Value.string s209)]) .slice fun (z210 : ((Option Addr) × (Nat × Nat))) =>
        .leaf 1 [(Value.int IntKind.i64 (IntKind.wrap IntKind.i64 (i200 + (1 : Int)))), (Value.slice (z210).1 ((z210).2).1 ((z210).2).2), (Value.slice (z7).1 ((z7).2).1 ((z7).2).2)]) (
        .ite (i183 == (110 : Int)) (
          .ptr q1 fun (z211 : Addr) =>
          .chk (((0 : Int) ≤ (1 : Int)) ∧ ((1 : Int) < (2 : Int))) <|
          .load (Addr.add (Addr.add z211 10) 1) .str fun (s212 : ByteArray) =>
          .eff (Builtin.append_ (Call.argTypes (Call.mk (Callee.builtin Builtin.append) #[(Operand.tmp 504), (Operand.tmp 509)] #[37, 9])) 37 #[(Value.slice (z201).1 ((z201).2).1 ((z201).2).2), (Value.string s212)]) .slice fun (z213 : ((Option Addr) × (Nat × Nat))) =>
          .leaf 1 [(Value.int IntKind.i64 (IntKind.wrap IntKind.i64 (i200 + (1 : Int)))), (Value.slice (z213).1 ((z213).2).1 ((z213).2).2), (Value.slice (z7).1 ((z7).2).1 ((z7).2).2)]) (
          .leaf 1 [(Value.int IntKind.i64 (IntKind.wrap IntKind.i64 (i200 + (1 : Int)))), (Value.slice (z201).1 ((z201).2).1 ((z201).2).2), (Value.slice (z7).1 ((z7).2).1 ((z7).2).2)]))))
def pretty_Color.t22 (q0 : (Option Addr)) (q0_len : Nat) (q1 : (Option Addr)) (v4 : Value) (i5 : Int) (z7 : ((Option Addr) × (Nat × Nat))) (z182 : ((Option Addr) × (Nat × Nat))) (i183 : Int) : T :=
  .ite (i183 != (0 : Int)) (
    .cut 2 (.cons (.int .i64) (.cons .slice .nil)) (
      .loop 3 (.cons .slice (.cons (.int .i64) .nil)) [(Value.slice (z182).1 ((z182).2).1 ((z182).2).2), (Value.int IntKind.i64 i5)]
        (fun z => pretty_Color.t23 q0 q0_len v4 z.1 z.2.1))
      (fun z => pretty_Color.t25 q1 z7 i183 z.1 z.2.1)) (
    .leaf 1 [(Value.int IntKind.i64 (IntKind.wrap IntKind.i64 (i5 + (1 : Int)))), (Value.slice (z182).1 ((z182).2).1 ((z182).2).2), (Value.slice (z7).1 ((z7).2).1 ((z7).2).2)])
def pretty_Color.t18 (q0 : (Option Addr)) (q0_len : Nat) (q1 : (Option Addr)) (v4 : Value) (i5 : Int) (z6 : ((Option Addr) × (Nat × Nat))) (z7 : ((Option Addr) × (Nat × Nat))) (b154 : Bool) : T :=
  .cut 2 (.cons .slice (.cons (.int .u8) .nil)) (
    .ite b154 (
      .ptr q1 fun (z155 : Addr) =>
      .chk (((0 : Int) ≤ (0 : Int)) ∧ ((0 : Int) < (2 : Int))) <|
      .load (Addr.add (Addr.add z155 4) 0) .str fun (s156 : ByteArray) =>
      .eff (Builtin.append_ (Call.argTypes (Call.mk (Callee.builtin Builtin.append) #[(Operand.tmp 375), (Operand.tmp 380)] #[37, 9])) 37 #[(Value.slice (z6).1 ((z6).2).1 ((z6).2).2), (Value.string s156)]) .slice fun (z157 : ((Option Addr) × (Nat × Nat))) =>
      .leaf 2 [(Value.slice (z157).1 ((z157).2).1 ((z157).2).2), (Value.int IntKind.u8 (48 : Int))]) (
      .chk (((0 : Int) ≤ i5) ∧ (i5 < ((q0_len : Nat) : Int))) <|
      .ptr q0 fun (z158 : Addr) =>
      .load (Addr.add z158 ((Int.toNat i5) * 1)) (.int .u8) fun (i159 : Int) =>
      .cut 3 (.cons .slice (.cons (.int .u8) .nil)) (
        .ite (i159 == (116 : Int)) (
          .ptr q1 fun (z160 : Addr) =>
          .chk (((0 : Int) ≤ (0 : Int)) ∧ ((0 : Int) < (2 : Int))) <|
          .load (Addr.add (Addr.add z160 6) 0) .str fun (s161 : ByteArray) =>
          .eff (Builtin.append_ (Call.argTypes (Call.mk (Callee.builtin Builtin.append) #[(Operand.tmp 387), (Operand.tmp 392)] #[37, 9])) 37 #[(Value.slice (z6).1 ((z6).2).1 ((z6).2).2), (Value.string s161)]) .slice fun (z162 : ((Option Addr) × (Nat × Nat))) =>
          .leaf 3 [(Value.slice (z162).1 ((z162).2).1 ((z162).2).2), (Value.int IntKind.u8 (116 : Int))]) (
          .chk (((0 : Int) ≤ i5) ∧ (i5 < ((q0_len : Nat) : Int))) <|
          .ptr q0 fun (z163 : Addr) =>
          .load (Addr.add z163 ((Int.toNat i5) * 1)) (.int .u8) fun (i164 : Int) =>
          .cut 4 (.cons .slice (.cons (.int .u8) .nil)) (
            .ite (i164 == (102 : Int)) (
              .ptr q1 fun (z165 : Addr) =>
              .chk (((0 : Int) ≤ (0 : Int)) ∧ ((0 : Int) < (2 : Int))) <|
              .load (Addr.add (Addr.add z165 8) 0) .str fun (s166 : ByteArray) =>
              .eff (Builtin.append_ (Call.argTypes (Call.mk (Callee.builtin Builtin.append) #[(Operand.tmp 399), (Operand.tmp 404)] #[37, 9])) 37 #[(Value.slice (z6).1 ((z6).2).1 ((z6).2).2), (Value.string s166)]) .slice fun (z167 : ((Option Addr) × (Nat × Nat))) =>
              .leaf 4 [(Value.slice (z167).1 ((z167).2).1 ((z167).2).2), (Value.int IntKind.u8 (102 : Int))]) (
              .chk (((0 : Int) ≤ i5) ∧ (i5 < ((q0_len : Nat) : Int))) <|
              .ptr q0 fun (z168 : Addr) =>
              .load (Addr.add z168 ((Int.toNat i5) * 1)) (.int .u8) fun (i169 : Int) =>
              .cut 5 (.cons .slice (.cons (.int .u8) .nil)) (
                .ite (i169 == (110 : Int)) (
                  .ptr q1 fun (z170 : Addr) =>
                  .chk (((0 : Int) ≤ (0 : Int)) ∧ ((0 : Int) < (2 : Int))) <|
                  .load (Addr.add (Addr.add z170 10) 0) .str fun (s171 : ByteArray) =>
                  .eff (Builtin.append_ (Call.argTypes (Call.mk (Callee.builtin Builtin.append) #[(Operand.tmp 411), (Operand.tmp 416)] #[37, 9])) 37 #[(Value.slice (z6).1 ((z6).2).1 ((z6).2).2), (Value.string s171)]) .slice fun (z172 : ((Option Addr) × (Nat × Nat))) =>
                  .leaf 5 [(Value.slice (z172).1 ((z172).2).1 ((z172).2).2), (Value.int IntKind.u8 (110 : Int))]) (
                  .chk (((0 : Int) ≤ i5) ∧ (i5 < ((q0_len : Nat) : Int))) <|
                  .ptr q0 fun (z173 : Addr) =>
                  .load (Addr.add z173 ((Int.toNat i5) * 1)) (.int .u8) fun (i174 : Int) =>
                  .callD v4 #[(Value.slice (z6).1 ((z6).2).1 ((z6).2).2), (Value.int IntKind.u8 i174)] .slice fun (z175 : ((Option Addr) × (Nat × Nat))) =>
                  .leaf 5 [(Value.slice (z175).1 ((z175).2).1 ((z175).2).2), (Value.int IntKind.u8 (0 : Int))]))
                (fun z => pretty_Color.t19 z.1 z.2.1)))
            (fun z => pretty_Color.t20 z.1 z.2.1)))
        (fun z => pretty_Color.t21 z.1 z.2.1)))
    (fun z => pretty_Color.t22 q0 q0_len q1 v4 i5 z7 z.1 z.2.1)
def pretty_Color.t17 (q0 : (Option Addr)) (q0_len : Nat) (q0_cap : Nat) (q1 : (Option Addr)) (v4 : Value) (i5 : Int) (z6 : ((Option Addr) × (Nat × Nat))) (z7 : ((Option Addr) × (Nat × Nat))) (b129 : Bool) : T :=
  .ite b129 (
    .chk (((0 : Int) ≤ (IntKind.wrap IntKind.i64 (((((z7).2).1 : Nat) : Int) - (1 : Int)))) ∧ ((IntKind.wrap IntKind.i64 (((((z7).2).1 : Nat) : Int) - (1 : Int))) < ((((z7).2).1 : Nat) : Int))) <|
    .ptr (z7).1 fun (z130 : Addr) =>
    .load (Addr.add (Addr.add z130 ((Int.toNat (IntKind.wrap IntKind.i64 (((((z7).2).1 : Nat) : Int) - (1 : Int)))) * 2)) 1) .bool fun (b131 : Bool) =>
    .chk (((0 : Int) ≤ (IntKind.wrap IntKind.i64 (((((z7).2).1 : Nat) : Int) - (1 : Int)))) ∧ ((IntKind.wrap IntKind.i64 (((((z7).2).1 : Nat) : Int) - (1 : Int))) < ((((z7).2).1 : Nat) : Int))) <|
    .ptr (z7).1 fun (z132 : Addr) =>
    .store (Addr.add (Addr.add z132 ((Int.toNat (IntKind.wrap IntKind.i64 (((((z7).2).1 : Nat) : Int) - (1 : Int)))) * 2)) 1) (Value.bool (!b131)) <|
    .ptr q1 fun (z133 : Addr) =>
    .chk (((0 : Int) ≤ (0 : Int)) ∧ ((0 : Int) < (2 : Int))) <|
    .load (Addr.add (Addr.add z133 14) 0) .str fun (s134 : ByteArray) =>
    .eff (Builtin.append_ (Call.argTypes (Call.mk (Callee.builtin Builtin.append) #[(Operand.tmp 329), (Operand.tmp 334)] #[37, 9])) 37 #[(Value.slice (z6).1 ((z6).2).1 ((z6).2).2), (Value.string s134)]) .slice fun (z135 : ((Option Addr) × (Nat × Nat))) =>
    .chk (((0 : Int) ≤ i5) ∧ (i5 < ((q0_len : Nat) : Int))) <|
    .ptr q0 fun (z136 : Addr) =>
    .load (Addr.add z136 ((Int.toNat i5) * 1)) (.int .u8) fun (i137 : Int) =>
    .callD v4 #[(Value.slice (z135).1 ((z135).2).1 ((z135).2).2), (Value.int IntKind.u8 i137)] .slice fun (z138 : ((Option Addr) × (Nat × Nat))) =>
    .ptr q1 fun (z139 : Addr) =>
    .chk (((0 : Int) ≤ (1 : Int)) ∧ ((1 : Int) < (2 : Int))) <|
    .load (Addr.add (Addr.add z139 14) 1) .str fun (s140 : ByteArray) =>
    .eff (Builtin.append_ (Call.argTypes (Call.mk (Callee.builtin Builtin.append) #[(Operand.tmp 343), (Operand.tmp 348)] #[37, 9])) 37 #[(Value.slice (z138).1 ((z138).2).1 ((z138).2).2), (Value.string s140)]) .slice fun (z141 : ((Option Addr) × (Nat × Nat))) =>
    .leaf 1 [(Value.int IntKind.i64 (IntKind.wrap IntKind.i64 (i5 + (1 : Int)))), (Value.slice (z141).1 ((z141).2).1 ((z141).2).2), (Value.slice (z7).1 ((z7).2).1 ((z7).2).2)]) (
    .cut 2 (.cons .bool .nil) (
      .chk (((0 : Int) ≤ i5) ∧ (i5 < ((q0_len : Nat) : Int))) <|
      .ptr q0 fun (z142 : Addr) =>
      .load (Addr.add z142 ((Int.toNat i5) * 1)) (.int .u8) fun (i143 : Int) =>
      .ite (decide (i143 ≥ (48 : Int))) (
        .chk (((0 : Int) ≤ i5) ∧ (i5 < ((q0_len : Nat) : Int))) <|
        .ptr q0 fun (z144 : Addr) =>
        .load (Addr.add z144 ((Int.toNat i5) * 1)) (.int .u8) fun (i145 : Int) =>
        .ite (decide (i145 ≤ (57 : Int))) (
          .leaf 2 [(Value.bool Bool.true)]) (
          .chk (((0 : Int) ≤ i5) ∧ (i5 < ((q0_len : Nat) : Int))) <|
          .ptr q0 fun (z146 : Addr) =>
          .load (Addr.add z146 ((Int.toNat i5) * 1)) (.int .u8) fun (i147 : Int) =>
          .ite (i147 == (45 : Int)) (
            .leaf 2 [(Value.bool Bool.true)]) (
            .chk (((0 : Int) ≤ i5) ∧ ((i5 ≤ ((q0_len : Nat) : Int)) ∧ (((q0_len : Nat) : Int) ≤ ((q0_cap : Nat) : Int)))) <|
            .call 17 #[(Value.slice (if (q0_cap = (Int.toNat i5)) then q0 else (Option.map (fun (y148 : Addr) => (Addr.add y148 ((Int.toNat i5) * 1))) q0)) ((Int.toNat ((q0_len : Nat) : Int)) - (Int.toNat i5)) (q0_cap - (Int.toNat i5)))] .bool fun (b149 : Bool) =>
            .leaf 2 [(Value.bool b149)]))) (
        .chk (((0 : Int) ≤ i5) ∧ (i5 < ((q0_len : Nat) : Int))) <|
        .ptr q0 fun (z150 : Addr) =>
        .load (Addr.add z150 ((Int.toNat i5) * 1)) (.int .u8) fun (i151 : Int) =>
        .ite (i151 == (45 : Int)) (
          .leaf 2 [(Value.bool Bool.true)]) (
          .chk (((0 : Int) ≤ i5) ∧ ((i5 ≤ ((q0_len : Nat) : Int)) ∧ (((q0_len : Nat) : Int) ≤ ((q0_cap : Nat) : Int)))) <|
          .call 17 #[(Value.slice (if (q0_cap = (Int.toNat i5)) then q0 else (Option.map (fun (y152 : Addr) => (Addr.add y152 ((Int.toNat i5) * 1))) q0)) ((Int.toNat ((q0_len : Nat) : Int)) - (Int.toNat i5)) (q0_cap - (Int.toNat i5)))] .bool fun (b153 : Bool) =>
          .leaf 2 [(Value.bool b153)])))
      (fun z => pretty_Color.t18 q0 q0_len q1 v4 i5 z6 z7 z.1))
def pretty_Color.t16 (q0 : (Option Addr)) (q0_len : Nat) (q0_cap : Nat) (q1 : (Option Addr)) (v4 : Value) (i5 : Int) (z6 : ((Option Addr) × (Nat × Nat))) (z7 : ((Option Addr) × (Nat × Nat))) (b110 : Bool) : T :=
  .ite b110 (
    .chk (((0 : Int) ≤ (0 : Int)) ∧ (((0 : Int) ≤ (IntKind.wrap IntKind.i64 (((((z7).2).1 : Nat) : Int) - (1 : Int)))) ∧ ((IntKind.wrap IntKind.i64 (((((z7).2).1 : Nat) : Int) - (1 : Int))) ≤ ((((z7).2).2 : Nat) : Int)))) <|
    .ptr q1 fun (z111 : Addr) =>
    .chk (((0 : Int) ≤ (0 : Int)) ∧ ((0 : Int) < (2 : Int))) <|
    .load (Addr.add (Addr.add z111 14) 0) .str fun (s112 : ByteArray) =>
    .eff (Builtin.append_ (Call.argTypes (Call.mk (Callee.builtin Builtin.append) #[(Operand.tmp 267), (Operand.tmp 272)] #[37, 9])) 37 #[(Value.slice (z6).1 ((z6).2).1 ((z6).2).2), (Value.string s112)]) .slice fun (z113 : ((Option Addr) × (Nat × Nat))) =>
    .chk (((0 : Int) ≤ i5) ∧ (i5 < ((q0_len : Nat) : Int))) <|
    .ptr q0 fun (z114 : Addr) =>
    .load (Addr.add z114 ((Int.toNat i5) * 1)) (.int .u8) fun (i115 : Int) =>
    .callD v4 #[(Value.slice (z113).1 ((z113).2).1 ((z113).2).2), (Value.int IntKind.u8 i115)] .slice fun (z116 : ((Option Addr) × (Nat × Nat))) =>
    .ptr q1 fun (z117 : Addr) =>
    .chk (((0 : Int) ≤ (1 : Int)) ∧ ((1 : Int) < (2 : Int))) <|
    .load (Addr.add (Addr.add z117 14) 1) .str fun (s118 : ByteArray) =>
    .eff (Builtin.append_ (Call.argTypes (Call.mk (Callee.builtin Builtin.append) #[(Operand.tmp 281), (Operand.tmp 286)] #[37, 9])) 37 #[(Value.slice (z116).1 ((z116).2).1 ((z116).2).2), (Value.string s118)]) .slice fun (z119 : ((Option Addr) × (Nat × Nat))) =>
    .leaf 1 [(Value.int IntKind.i64 (IntKind.wrap IntKind.i64 (i5 + (1 : Int)))), (Value.slice (z119).1 ((z119).2).1 ((z119).2).2), (Value.slice (if (((z7).2).2 = 0) then (z7).1 else (Option.map (fun (y120 : Addr) => (Addr.add y120 0)) (z7).1)) ((Int.toNat (IntKind.wrap IntKind.i64 (((((z7).2).1 : Nat) : Int) - (1 : Int)))) - 0) (((z7).2).2 - 0))]) (
    .cut 2 (.cons .bool .nil) (
      .chk (((0 : Int) ≤ i5) ∧ (i5 < ((q0_len : Nat) : Int))) <|
      .ptr q0 fun (z121 : Addr) =>
      .load (Addr.add z121 ((Int.toNat i5) * 1)) (.int .u8) fun (i122 : Int) =>
      .ite (i122 == (58 : Int)) (
        .ite (decide (((((z7).2).1 : Nat) : Int) > (0 : Int))) (
          .chk (((0 : Int) ≤ (IntKind.wrap IntKind.i64 (((((z7).2).1 : Nat) : Int) - (1 : Int)))) ∧ ((IntKind.wrap IntKind.i64 (((((z7).2).1 : Nat) : Int) - (1 : Int))) < ((((z7).2).1 : Nat) : Int))) <|
          .ptr (z7).1 fun (z123 : Addr) =>
          .load (Addr.add (Addr.add z123 ((Int.toNat (IntKind.wrap IntKind.i64 (((((z7).2).1 : Nat) : Int) - (1 : Int)))) * 2)) 0) (.int .u8) fun (i124 : Int) =>
          .leaf 2 [(Value.bool (i124 == (123 : Int)))]) (
          .leaf 2 [(Value.bool Bool.false)])) (
        .chk (((0 : Int) ≤ i5) ∧ (i5 < ((q0_len : Nat) : Int))) <|
        .ptr q0 fun (z125 : Addr) =>
        .load (Addr.add z125 ((Int.toNat i5) * 1)) (.int .u8) fun (i126 : Int) =>
        .ite (i126 == (44 : Int)) (
          .ite (decide (((((z7).2).1 : Nat) : Int) > (0 : Int))) (
            .chk (((0 : Int) ≤ (IntKind.wrap IntKind.i64 (((((z7).2).1 : Nat) : Int) - (1 : Int)))) ∧ ((IntKind.wrap IntKind.i64 (((((z7).2).1 : Nat) : Int) - (1 : Int))) < ((((z7).2).1 : Nat) : Int))) <|
            .ptr (z7).1 fun (z127 : Addr) =>
            .load (Addr.add (Addr.add z127 ((Int.toNat (IntKind.wrap IntKind.i64 (((((z7).2).1 : Nat) : Int) - (1 : Int)))) * 2)) 0) (.int .u8) fun (i128 : Int) =>
            .leaf 2 [(Value.bool (i128 == (123 : Int)))]) (
            .leaf 2 [(Value.bool Bool.false)])) (
          .leaf 2 [(Value.bool Bool.false)])))
      (fun z => pretty_Color.t17 q0 q0_len q0_cap q1 v4 i5 z6 z7 z.1))
def pretty_Color.t15 (q0 : (Option Addr)) (q0_len : Nat) (q0_cap : Nat) (q1 : (Option Addr)) (v4 : Value) (i5 : Int) (z6 : ((Option Addr) × (Nat × Nat))) (z7 : ((Option Addr) × (Nat × Nat))) (b90 : Bool) : T :=
  .ite b90 (
    .drew <|
    .chk (((0 : Int) ≤ i5) ∧ (i5 < ((q0_len : Nat) : Int))) <|
    .ptr q0 fun (z91 : Addr) =>
    .load (Addr.add z91 ((Int.toNat i5) * 1)) (.int .u8) fun (i92 : Int) =>
    .chk (((0 : Int) ≤ i5) ∧ (i5 < ((q0_len : Nat) : Int))) <|
    .ptr q0 fun (z93 : Addr) =>
    .load (Addr.add z93 ((Int.toNat i5) * 1)) (.int .u8) fun (i94 : Int) =>
    .eff (Instr.buildSlice 50 1 #[(0, (Value.agg #[(Value.int IntKind.u8 i92), (Value.bool (i94 == (123 : Int)))]))]) .slice fun (z95 : ((Option Addr) × (Nat × Nat))) =>
    .eff (Builtin.append_ (Call.argTypes (Call.mk (Callee.builtin Builtin.append) #[(Operand.tmp 211), (Operand.tmp 222)] #[50, 50])) 50 #[(Value.slice (z7).1 ((z7).2).1 ((z7).2).2), (Value.slice (z95).1 ((z95).2).1 ((z95).2).2)]) .slice fun (z96 : ((Option Addr) × (Nat × Nat))) =>
    .ptr q1 fun (z97 : Addr) =>
    .chk (((0 : Int) ≤ (0 : Int)) ∧ ((0 : Int) < (2 : Int))) <|
    .load (Addr.add (Addr.add z97 14) 0) .str fun (s98 : ByteArray) =>
    .eff (Builtin.append_ (Call.argTypes (Call.mk (Callee.builtin Builtin.append) #[(Operand.tmp 224), (Operand.tmp 229)] #[37, 9])) 37 #[(Value.slice (z6).1 ((z6).2).1 ((z6).2).2), (Value.string s98)]) .slice fun (z99 : ((Option Addr) × (Nat × Nat))) =>
    .chk (((0 : Int) ≤ i5) ∧ (i5 < ((q0_len : Nat) : Int))) <|
    .ptr q0 fun (z100 : Addr) =>
    .load (Addr.add z100 ((Int.toNat i5) * 1)) (.int .u8) fun (i101 : Int) =>
    .callD v4 #[(Value.slice (z99).1 ((z99).2).1 ((z99).2).2), (Value.int IntKind.u8 i101)] .slice fun (z102 : ((Option Addr) × (Nat × Nat))) =>
    .ptr q1 fun (z103 : Addr) =>
    .chk (((0 : Int) ≤ (1 : Int)) ∧ ((1 : Int) < (2 : Int))) <|
    .load (Addr.add (Addr.add z103 14) 1) .str fun (s104 : ByteArray) =>
    .eff (Builtin.append_ (Call.argTypes (Call.mk (Callee.builtin Builtin.append) #[(Operand.tmp 238), (Operand.tmp 243)] #[37, 9])) 37 #[(Value.slice (z102).1 ((z102).2).1 ((z102).2).2), (Value.string s104)]) .slice fun (z105 : ((Option Addr) × (Nat × Nat))) =>
    .leaf 1 [(Value.int IntKind.i64 (IntKind.wrap IntKind.i64 (i5 + (1 : Int)))), (Value.slice (z105).1 ((z105).2).1 ((z105).2).2), (Value.slice (z96).1 ((z96).2).1 ((z96).2).2)]) (
    .cut 2 (.cons .bool .nil) (
      .chk (((0 : Int) ≤ i5) ∧ (i5 < ((q0_len : Nat) : Int))) <|
      .ptr q0 fun (z106 : Addr) =>
      .load (Addr.add z106 ((Int.toNat i5) * 1)) (.int .u8) fun (i107 : Int) =>
      .ite (i107 == (125 : Int)) (
        .leaf 2 [(Value.bool (decide (((((z7).2).1 : Nat) : Int) > (0 : Int))))]) (
        .chk (((0 : Int) ≤ i5) ∧ (i5 < ((q0_len : Nat) : Int))) <|
        .ptr q0 fun (z108 : Addr) =>
        .load (Addr.add z108 ((Int.toNat i5) * 1)) (.int .u8) fun (i109 : Int) =>
        .ite (i109 == (93 : Int)) (
          .leaf 2 [(Value.bool (decide (((((z7).2).1 : Nat) : Int) > (0 : Int))))]) (
          .leaf 2 [(Value.bool Bool.false)])))
      (fun z => pretty_Color.t16 q0 q0_len q0_cap q1 v4 i5 z6 z7 z.1))
def pretty_Color.t2 (q0 : (Option Addr)) (q0_len : Nat) (q0_cap : Nat) (q1 : (Option Addr)) (v4 : Value) (i5 : Int) (z6 : ((Option Addr) × (Nat × Nat))) (z7 : ((Option Addr) × (Nat × Nat))) : T :=
  .ite (decide (i5 < ((q0_len : Nat) : Int))) (
    .chk (((0 : Int) ≤ i5) ∧ (i5 < ((q0_len : Nat) : Int))) <|
    .ptr q0 fun (z8 : Addr) =>
    .load (Addr.add z8 ((Int.toNat i5) * 1)) (.int .u8) fun (i9 : Int) =>
    .ite (i9 == (34 : Int)) (
      .cut 2 (.cons .bool .nil) (
        .ite (decide (((((z7).2).1 : Nat) : Int) > (0 : Int))) (
          .chk (((0 : Int) ≤ (IntKind.wrap IntKind.i64 (((((z7).2).1 : Nat) : Int) - (1 : Int)))) ∧ ((IntKind.wrap IntKind.i64 (((((z7).2).1 : Nat) : Int) - (1 : Int))) < ((((z7).2).1 : Nat) : Int))) <|
          .ptr (z7).1 fun (z10 : Addr) =>
          .load (Addr.add (Addr.add z10 ((Int.toNat (IntKind.wrap IntKind.i64 (((((z7).2).1 : Nat) : Int) - (1 : Int)))) * 2)) 1) .bool fun (b11 : Bool) =>
          .leaf 2 [(Value.bool b11)]) (
          .leaf 2 [(Value.bool Bool.false)]))
        (fun z => pretty_Color.t3 q0 q0_len q1 v4 i5 z6 z7 z.1)) (
      .cut 2 (.cons .bool .nil) (
        .chk (((0 : Int) ≤ i5) ∧ (i5 < ((q0_len : Nat) : Int))) <|
        .ptr q0 fun (z86 : Addr) =>
        .load (Addr.add z86 ((Int.toNat i5) * 1)) (.int .u8) fun (i87 : Int) =>
        .ite (i87 == (123 : Int)) (
          .leaf 2 [(Value.bool Bool.true)]) (
          .chk (((0 : Int) ≤ i5) ∧ (i5 < ((q0_len : Nat) : Int))) <|
          .ptr q0 fun (z88 : Addr) =>
          .load (Addr.add z88 ((Int.toNat i5) * 1)) (.int .u8) fun (i89 : Int) =>
          .leaf 2 [(Value.bool (i89 == (91 : Int)))]))
        (fun z => pretty_Color.t15 q0 q0_len q0_cap q1 v4 i5 z6 z7 z.1))) (
    .leaf 0 [(Value.slice (z6).1 ((z6).2).1 ((z6).2).2)])
def pretty_Color.t1 (q0 : (Option Addr)) (q0_len : Nat) (q0_cap : Nat) (q1 : (Option Addr)) (v4 : Value) : T :=
  .loop 1 (.cons (.int .i64) (.cons .slice (.cons .slice .nil))) [(Value.int IntKind.i64 (0 : Int)), (Value.slice none 0 0), (Value.slice none 0 0)]
    (fun z => pretty_Color.t2 q0 q0_len q0_cap q1 v4 z.1 z.2.1 z.2.2.1)
def pretty_Color.t (q0 : (Option Addr)) (q0_len : Nat) (q0_cap : Nat) (q1 : (Option Addr)) : T :=
  .ptr q1 fun (z0 : Addr) =>
  .load (Addr.add z0 16) .any fun (v1 : Value) =>
  .eff (Bind.bind (eqGuard BinOp.eql 40 (Operand.tmp 18) (Operand.const Value.nilFunc) v1 Value.nilFunc) (fun (y2 : Unit) => (binOp BinOp.eql 40 v1 Value.nilFunc))) .bool fun (b3 : Bool) =>
  .cut 1 (.cons .any .nil) (
    .ite b3 (
      .leaf 1 [(Value.func (.func 16) #[] #[])]) (
      .leaf 1 [v1]))
    (fun z => pretty_Color.t1 q0 q0_len q0_cap q1 z.1)
def pretty_Color.h : Hints := ⟨[(19, [(5, .any)]), (43, [(6, .slice)]), (73, [(6, .slice), (10, .bool), (11, (.int .i64))]), (74, [(6, .slice)]), (115, [(11, (.int .i64))]), (116, [(6, .slice), (10, .bool), (11, (.int .i64))]), (125, [(6, .slice), (10, .bool), (11, (.int .i64))]), (133, [(6, .slice)]), (374, [(6, .slice), (13, (.int .u8))]), (386, [(6, .slice), (13, (.int .u8))]), (398, [(6, .slice), (13, (.int .u8))]), (410, [(6, .slice), (13, (.int .u8))])], [(2, [(8, (.int .i64)), (6, .slice), (10, .bool)]), (6, [(8, (.int .i64)), (6, .slice)])], [(10, [(9, .bool)]), (27, [(115, .bool)]), (50, [(210, .bool)]), (55, [(261, .bool)]), (60, [(314, .bool)]), (66, [(374, .bool)]), (82, [(465, .bool)])], [(7, [(8, (.int .i64)), (6, .slice), (7, .slice)]), (18, [(8, (.int .i64)), (6, .slice), (10, .bool), (11, (.int .i64))]), (43, [(12, (.int .i64))]), (80, [(6, .slice), (8, (.int .i64))])]⟩
noncomputable def pretty_Color.c : Code := (Try.f11.body).getD .skip
theorem pretty_Color.e (q0 : (Option Addr)) (q0_len : Nat) (q0_cap : Nat) (q1 : (Option Addr)) : fnT Try.prog pretty_Color.h Try.f11 pretty_Color.c [.v (Value.slice q0 q0_len q0_cap), .v (Value.pointer q1)] = pretty_Color.t q0 q0_len q0_cap q1 := by kernel_rfl
theorem pretty_Color.calls (q0 : (Option Addr)) (q0_len : Nat) (q0_cap : Nat) (q1 : (Option Addr)) {w : World} {R : Ending → World → Prop} (hs : sat Try.prog (pretty_Color.t q0 q0_len q0_cap q1) (fun l vs w' => l = 0 ∧ R (.returned (retVal vs)) w') w) : Calls Try.prog 11 #[(Value.slice q0 q0_len q0_cap), (Value.pointer q1)] w R :=
  have h := calls_of_tree (w := w) (R := R) (args := [.v (Value.slice q0 q0_len q0_cap), .v (Value.pointer q1)]) (c := pretty_Color.c) Try.func11 (show Try.f11.body = some pretty_Color.c by kernel_rfl) (of_decide_eq_true (by kernel_rfl)) (pretty_Color.e q0 q0_len q0_cap q1) hs
  h

/-! ### (*pub-tetrapla/spec.colorer).gap : function 12 -/
def spec_colorer_gap.t2 (c0 : (Option Addr)) (i0 : Int) (b4 : Bool) : T :=
  .ite b4 (
    .ptr c0 fun (z5 : Addr) =>
    .eff (Instr.loadAt 22 (Value.pointer (some (Addr.add (Addr.add z5 1) 14)))) (.agg (.cons .str (.cons .str .nil))) fun (z6 : (ByteArray × (ByteArray × PUnit))) =>
    .call 19 #[(Value.pointer c0), (Value.agg #[(Value.string (z6).1), (Value.string ((z6).2).1)]), (Value.int IntKind.i64 i0), (Value.int IntKind.i64 (IntKind.wrap IntKind.i64 (i0 + (1 : Int))))] (.tuple .nil) fun _ =>
    .leaf 1 [(Value.int IntKind.i64 (IntKind.wrap IntKind.i64 (i0 + (1 : Int))))]) (
    .drew <|
    .ptr c0 fun (z7 : Addr) =>
    .load (Addr.add z7 17) .slice fun (z8 : ((Option Addr) × (Nat × Nat))) =>
    .ptr c0 fun (z9 : Addr) =>
    .load (Addr.add z9 0) .str fun (s10 : ByteArray) =>
    .chk (((0 : Int) ≤ i0) ∧ (i0 < (((ByteArray.size s10) : Nat) : Int))) <|
    .here fun (z11 : World) =>
    .eff (Instr.buildSlice 37 1 #[(0, (Value.int IntKind.u8 (bt s10 i0)))]) .slice fun (z12 : ((Option Addr) × (Nat × Nat))) =>
    .grew z11 <|
    .eff (Builtin.append_ (Call.argTypes (Call.mk (Callee.builtin Builtin.append) #[(Operand.tmp 40), (Operand.tmp 47)] #[37, 37])) 37 #[(Value.slice (z8).1 ((z8).2).1 ((z8).2).2), (Value.slice (z12).1 ((z12).2).1 ((z12).2).2)]) .slice fun (z13 : ((Option Addr) × (Nat × Nat))) =>
    .ptr c0 fun (z14 : Addr) =>
    .store (Addr.add z14 17) (Value.slice (z13).1 ((z13).2).1 ((z13).2).2) <|
    .leaf 1 [(Value.int IntKind.i64 (IntKind.wrap IntKind.i64 (i0 + (1 : Int))))])
def spec_colorer_gap.t1 (c0 : (Option Addr)) (to : Int) (object : Bool) (i0 : Int) : T :=
  .ite (decide (i0 < to)) (
    .cut 2 (.cons .bool .nil) (
      .ite object (
        .ptr c0 fun (z1 : Addr) =>
        .load (Addr.add z1 0) .str fun (s2 : ByteArray) =>
        .chk (((0 : Int) ≤ i0) ∧ (i0 < (((ByteArray.size s2) : Nat) : Int))) <|
        .call 18 #[(Value.int IntKind.u8 (bt s2 i0))] .bool fun (b3 : Bool) =>
        .leaf 2 [(Value.bool (!b3))]) (
        .leaf 2 [(Value.bool Bool.false)]))
      (fun z => spec_colorer_gap.t2 c0 i0 z.1)) (
    .leaf 0 [])
def spec_colorer_gap.t (c0 : (Option Addr)) (from1 : Int) (to : Int) (object : Bool) : T :=
  .loop 1 (.cons (.int .i64) .nil) [(Value.int IntKind.i64 from1)]
    (fun z => spec_colorer_gap.t1 c0 to object z.1)
def spec_colorer_gap.h : Hints := ⟨[], [], [(3, [(25, .bool)])], [(1, [(8, (.int .i64))])]⟩
noncomputable def spec_colorer_gap.c : Code := (Try.f12.body).getD .skip
theorem spec_colorer_gap.e (c0 : (Option Addr)) (from1 : Int) (to : Int) (object : Bool) : fnT Try.prog spec_colorer_gap.h Try.f12 spec_colorer_gap.c [.v (Value.pointer c0), .v (Value.int IntKind.i64 from1), .v (Value.int IntKind.i64 to), .v (Value.bool object)] = spec_colorer_gap.t c0 from1 to object := by kernel_rfl
theorem spec_colorer_gap.calls (c0 : (Option Addr)) (from1 : Int) (to : Int) (object : Bool) {w : World} {R : Ending → World → Prop} (hs : sat Try.prog (spec_colorer_gap.t c0 from1 to object) (fun l vs w' => l = 0 ∧ R (.returned (retVal vs)) w') w) : Calls Try.prog 12 #[(Value.pointer c0), (Value.int IntKind.i64 from1), (Value.int IntKind.i64 to), (Value.bool object)] w R :=
  have h := calls_of_tree (w := w) (R := R) (args := [.v (Value.pointer c0), .v (Value.int IntKind.i64 from1), .v (Value.int IntKind.i64 to), .v (Value.bool object)]) (c := spec_colorer_gap.c) Try.func12 (show Try.f12.body = some spec_colorer_gap.c by kernel_rfl) (of_decide_eq_true (by kernel_rfl)) (spec_colorer_gap.e c0 from1 to object) hs
  h

/-! ### (*pub-tetrapla/spec.colorer).value : function 13 -/
def spec_colorer_value.t (q0 : (Option Addr)) (q1_0 : Int) (q1_1 : Int) (q1_2 : Int) (q1_3 : (Option Addr)) (q1_3_len : Nat) (q1_3_cap : Nat) (q1_4 : (Option Addr)) (q1_4_len : Nat) (q1_4_cap : Nat) : T :=
  .alloc (Obj.cells #[(Value.int IntKind.i64 q1_0), (Value.int IntKind.i64 q1_1), (Value.int IntKind.i64 q1_2), (Value.slice q1_3 q1_3_len q1_3_cap), (Value.slice q1_4 q1_4_len q1_4_cap)] 29 (0, 0)) fun (z0 : Addr) =>
  .load (Addr.add z0 0) (.int .i64) fun (i1 : Int) =>
  .ite (i1 == (0 : Int)) (
    .drew <|
    .ptr q0 fun (z2 : Addr) =>
    .effS (Instr.loadAt 22 (Value.pointer (some (Addr.add (Addr.add z2 1) 10)))) (.agg (.cons .str (.cons .str .nil))) fun (z3 : (ByteArray × (ByteArray × PUnit))) =>
    .load (Addr.add z0 1) (.int .i64) fun (i4 : Int) =>
    .load (Addr.add z0 2) (.int .i64) fun (i5 : Int) =>
    .call 19 #[(Value.pointer q0), (Value.agg #[(Value.string (z3).1), (Value.string ((z3).2).1)]), (Value.int IntKind.i64 i4), (Value.int IntKind.i64 i5)] (.tuple .nil) fun _ =>
    .leaf 0 []) (
    .ite (i1 == (1 : Int)) (
      .drew <|
      .ptr q0 fun (z6 : Addr) =>
      .effS (Instr.loadAt 22 (Value.pointer (some (Addr.add (Addr.add z6 1) 8)))) (.agg (.cons .str (.cons .str .nil))) fun (z7 : (ByteArray × (ByteArray × PUnit))) =>
      .load (Addr.add z0 1) (.int .i64) fun (i8 : Int) =>
      .load (Addr.add z0 2) (.int .i64) fun (i9 : Int) =>
      .call 19 #[(Value.pointer q0), (Value.agg #[(Value.string (z7).1), (Value.string ((z7).2).1)]), (Value.int IntKind.i64 i8), (Value.int IntKind.i64 i9)] (.tuple .nil) fun _ =>
      .leaf 0 []) (
      .ite (i1 == (2 : Int)) (
        .drew <|
        .ptr q0 fun (z10 : Addr) =>
        .effS (Instr.loadAt 22 (Value.pointer (some (Addr.add (Addr.add z10 1) 6)))) (.agg (.cons .str (.cons .str .nil))) fun (z11 : (ByteArray × (ByteArray × PUnit))) =>
        .load (Addr.add z0 1) (.int .i64) fun (i12 : Int) =>
        .load (Addr.add z0 2) (.int .i64) fun (i13 : Int) =>
        .call 19 #[(Value.pointer q0), (Value.agg #[(Value.string (z11).1), (Value.string ((z11).2).1)]), (Value.int IntKind.i64 i12), (Value.int IntKind.i64 i13)] (.tuple .nil) fun _ =>
        .leaf 0 []) (
        .ite (i1 == (3 : Int)) (
          .drew <|
          .ptr q0 fun (z14 : Addr) =>
          .effS (Instr.loadAt 22 (Value.pointer (some (Addr.add (Addr.add z14 1) 4)))) (.agg (.cons .str (.cons .str .nil))) fun (z15 : (ByteArray × (ByteArray × PUnit))) =>
          .load (Addr.add z0 1) (.int .i64) fun (i16 : Int) =>
          .load (Addr.add z0 2) (.int .i64) fun (i17 : Int) =>
          .call 19 #[(Value.pointer q0), (Value.agg #[(Value.string (z15).1), (Value.string ((z15).2).1)]), (Value.int IntKind.i64 i16), (Value.int IntKind.i64 i17)] (.tuple .nil) fun _ =>
          .leaf 0 []) (
          .ite (i1 == (4 : Int)) (
            .drew <|
            .ptr q0 fun (z18 : Addr) =>
            .effS (Instr.loadAt 22 (Value.pointer (some (Addr.add (Addr.add z18 1) 2)))) (.agg (.cons .str (.cons .str .nil))) fun (z19 : (ByteArray × (ByteArray × PUnit))) =>
            .load (Addr.add z0 1) (.int .i64) fun (i20 : Int) =>
            .load (Addr.add z0 2) (.int .i64) fun (i21 : Int) =>
            .call 20 #[(Value.pointer q0), (Value.agg #[(Value.string (z19).1), (Value.string ((z19).2).1)]), (Value.int IntKind.i64 i20), (Value.int IntKind.i64 i21)] (.tuple .nil) fun _ =>
            .leaf 0 []) (
            .eff (Instr.loadAt 29 (Value.pointer (some z0))) (.agg (.cons (.int .i64) (.cons (.int .i64) (.cons (.int .i64) (.cons .slice (.cons .slice .nil)))))) fun (z22 : (Int × (Int × (Int × (((Option Addr) × (Nat × Nat)) × (((Option Addr) × (Nat × Nat)) × PUnit)))))) =>
            .call 21 #[(Value.pointer q0), (Value.agg #[(Value.int IntKind.i64 (z22).1), (Value.int IntKind.i64 ((z22).2).1), (Value.int IntKind.i64 (((z22).2).2).1), (Value.slice (((((z22).2).2).2).1).1 ((((((z22).2).2).2).1).2).1 ((((((z22).2).2).2).1).2).2), (Value.slice ((((((z22).2).2).2).2).1).1 (((((((z22).2).2).2).2).1).2).1 (((((((z22).2).2).2).2).1).2).2)])] (.tuple .nil) fun _ =>
            .leaf 0 [])))))
def spec_colorer_value.h : Hints := ⟨[], [], [], []⟩
noncomputable def spec_colorer_value.c : Code := (Try.f13.body).getD .skip
theorem spec_colorer_value.e (q0 : (Option Addr)) (q1_0 : Int) (q1_1 : Int) (q1_2 : Int) (q1_3 : (Option Addr)) (q1_3_len : Nat) (q1_3_cap : Nat) (q1_4 : (Option Addr)) (q1_4_len : Nat) (q1_4_cap : Nat) : fnT Try.prog spec_colorer_value.h Try.f13 spec_colorer_value.c [.v (Value.pointer q0), .v (Value.agg #[(Value.int IntKind.i64 q1_0), (Value.int IntKind.i64 q1_1), (Value.int IntKind.i64 q1_2), (Value.slice q1_3 q1_3_len q1_3_cap), (Value.slice q1_4 q1_4_len q1_4_cap)])] = spec_colorer_value.t q0 q1_0 q1_1 q1_2 q1_3 q1_3_len q1_3_cap q1_4 q1_4_len q1_4_cap := by kernel_rfl
theorem spec_colorer_value.calls (q0 : (Option Addr)) (q1_0 : Int) (q1_1 : Int) (q1_2 : Int) (q1_3 : (Option Addr)) (q1_3_len : Nat) (q1_3_cap : Nat) (q1_4 : (Option Addr)) (q1_4_len : Nat) (q1_4_cap : Nat) {w : World} {R : Ending → World → Prop} (hs : sat Try.prog (spec_colorer_value.t q0 q1_0 q1_1 q1_2 q1_3 q1_3_len q1_3_cap q1_4 q1_4_len q1_4_cap) (fun l vs w' => l = 0 ∧ R (.returned (retVal vs)) w') w) : Calls Try.prog 13 #[(Value.pointer q0), (Value.agg #[(Value.int IntKind.i64 q1_0), (Value.int IntKind.i64 q1_1), (Value.int IntKind.i64 q1_2), (Value.slice q1_3 q1_3_len q1_3_cap), (Value.slice q1_4 q1_4_len q1_4_cap)])] w R :=
  have h := calls_of_tree (w := w) (R := R) (args := [.v (Value.pointer q0), .v (Value.agg #[(Value.int IntKind.i64 q1_0), (Value.int IntKind.i64 q1_1), (Value.int IntKind.i64 q1_2), (Value.slice q1_3 q1_3_len q1_3_cap), (Value.slice q1_4 q1_4_len q1_4_cap)])]) (c := spec_colorer_value.c) Try.func13 (show Try.f13.body = some spec_colorer_value.c by kernel_rfl) (of_decide_eq_true (by kernel_rfl)) (spec_colorer_value.e q0 q1_0 q1_1 q1_2 q1_3 q1_3_len q1_3_cap q1_4 q1_4_len q1_4_cap) hs
  h

/-! ### (*pub-tetrapla/spec.reader).blanks : function 14 -/
def spec_reader_blanks.t1 (r : (Option Addr)) : T :=
  .drew <|
  .ptr r fun (z0 : Addr) =>
  .load (Addr.add z0 1) (.int .i64) fun (i1 : Int) =>
  .ptr r fun (z2 : Addr) =>
  .load (Addr.add z2 0) .str fun (s3 : ByteArray) =>
  .ite (decide (i1 < (((ByteArray.size s3) : Nat) : Int))) (
    .ptr r fun (z4 : Addr) =>
    .load (Addr.add z4 0) .str fun (s5 : ByteArray) =>
    .ptr r fun (z6 : Addr) =>
    .load (Addr.add z6 1) (.int .i64) fun (i7 : Int) =>
    .chk (((0 : Int) ≤ i7) ∧ (i7 < (((ByteArray.size s5) : Nat) : Int))) <|
    .call 18 #[(Value.int IntKind.u8 (bt s5 i7))] .bool fun (b8 : Bool) =>
    .ite b8 (
      .ptr r fun (z9 : Addr) =>
      .load (Addr.add z9 1) (.int .i64) fun (i10 : Int) =>
      .ptr r fun (z11 : Addr) =>
      .store (Addr.add z11 1) (Value.int IntKind.i64 (IntKind.wrap IntKind.i64 (i10 + (1 : Int)))) <|
      .leaf 1 []) (
      .leaf 0 [])) (
    .leaf 0 [])
def spec_reader_blanks.t (r : (Option Addr)) : T :=
  .loop 1 .nil []
    (fun _ => spec_reader_blanks.t1 r)
def spec_reader_blanks.h : Hints := ⟨[], [], [], [(0, [])]⟩
noncomputable def spec_reader_blanks.c : Code := (Try.f14.body).getD .skip
theorem spec_reader_blanks.e (r : (Option Addr)) : fnT Try.prog spec_reader_blanks.h Try.f14 spec_reader_blanks.c [.v (Value.pointer r)] = spec_reader_blanks.t r := by kernel_rfl
theorem spec_reader_blanks.calls (r : (Option Addr)) {w : World} {R : Ending → World → Prop} (hs : sat Try.prog (spec_reader_blanks.t r) (fun l vs w' => l = 0 ∧ R (.returned (retVal vs)) w') w) : Calls Try.prog 14 #[(Value.pointer r)] w R :=
  have h := calls_of_tree (w := w) (R := R) (args := [.v (Value.pointer r)]) (c := spec_reader_blanks.c) Try.func14 (show Try.f14.body = some spec_reader_blanks.c by kernel_rfl) (of_decide_eq_true (by kernel_rfl)) (spec_reader_blanks.e r) hs
  h

/-! ### pub-tetrapla/pub/pretty.Color$1 : function 16 -/
def pretty_Color_1.t (dst : (Option Addr)) (dst_len : Nat) (dst_cap : Nat) (c1 : Int) : T :=
  .eff (Instr.buildSlice 37 1 #[(0, (Value.int IntKind.u8 c1))]) .slice fun (z0 : ((Option Addr) × (Nat × Nat))) =>
  .eff (Builtin.append_ (Call.argTypes (Call.mk (Callee.builtin Builtin.append) #[(Operand.tmp 5), (Operand.tmp 7)] #[37, 37])) 37 #[(Value.slice dst dst_len dst_cap), (Value.slice (z0).1 ((z0).2).1 ((z0).2).2)]) .slice fun (z1 : ((Option Addr) × (Nat × Nat))) =>
  .leaf 0 [(Value.slice (z1).1 ((z1).2).1 ((z1).2).2)]
def pretty_Color_1.h : Hints := ⟨[], [], [], []⟩
noncomputable def pretty_Color_1.c : Code := (Try.f16.body).getD .skip
theorem pretty_Color_1.e (dst : (Option Addr)) (dst_len : Nat) (dst_cap : Nat) (c1 : Int) : fnT Try.prog pretty_Color_1.h Try.f16 pretty_Color_1.c [.v (Value.slice dst dst_len dst_cap), .v (Value.int IntKind.u8 c1)] = pretty_Color_1.t dst dst_len dst_cap c1 := by kernel_rfl
theorem pretty_Color_1.calls (dst : (Option Addr)) (dst_len : Nat) (dst_cap : Nat) (c1 : Int) {w : World} {R : Ending → World → Prop} (hs : sat Try.prog (pretty_Color_1.t dst dst_len dst_cap c1) (fun l vs w' => l = 0 ∧ R (.returned (retVal vs)) w') w) : Calls Try.prog 16 #[(Value.slice dst dst_len dst_cap), (Value.int IntKind.u8 c1)] w R :=
  have h := calls_of_tree (w := w) (R := R) (args := [.v (Value.slice dst dst_len dst_cap), .v (Value.int IntKind.u8 c1)]) (c := pretty_Color_1.c) Try.func16 (show Try.f16.body = some pretty_Color_1.c by kernel_rfl) (of_decide_eq_true (by kernel_rfl)) (pretty_Color_1.e dst dst_len dst_cap c1) hs
  h

/-! ### pub-tetrapla/pub/pretty.isNaNOrInf : function 17 -/
def pretty_isNaNOrInf.t (src : (Option Addr)) (src_len : Nat) (src_cap : Nat) : T :=
  .chk (((0 : Int) ≤ (0 : Int)) ∧ ((0 : Int) < ((src_len : Nat) : Int))) <|
  .ptr src fun (z0 : Addr) =>
  .load (Addr.add z0 0) (.int .u8) fun (i1 : Int) =>
  .ite (i1 == (105 : Int)) (
    .leaf 0 [(Value.bool Bool.true)]) (
    .chk (((0 : Int) ≤ (0 : Int)) ∧ ((0 : Int) < ((src_len : Nat) : Int))) <|
    .ptr src fun (z2 : Addr) =>
    .load (Addr.add z2 0) (.int .u8) fun (i3 : Int) =>
    .ite (i3 == (73 : Int)) (
      .leaf 0 [(Value.bool Bool.true)]) (
      .chk (((0 : Int) ≤ (0 : Int)) ∧ ((0 : Int) < ((src_len : Nat) : Int))) <|
      .ptr src fun (z4 : Addr) =>
      .load (Addr.add z4 0) (.int .u8) fun (i5 : Int) =>
      .ite (i5 == (43 : Int)) (
        .leaf 0 [(Value.bool Bool.true)]) (
        .chk (((0 : Int) ≤ (0 : Int)) ∧ ((0 : Int) < ((src_len : Nat) : Int))) <|
        .ptr src fun (z6 : Addr) =>
        .load (Addr.add z6 0) (.int .u8) fun (i7 : Int) =>
        .ite (i7 == (78 : Int)) (
          .leaf 0 [(Value.bool Bool.true)]) (
          .chk (((0 : Int) ≤ (0 : Int)) ∧ ((0 : Int) < ((src_len : Nat) : Int))) <|
          .ptr src fun (z8 : Addr) =>
          .load (Addr.add z8 0) (.int .u8) fun (i9 : Int) =>
          .ite (i9 == (110 : Int)) (
            .ite (decide (((src_len : Nat) : Int) > (1 : Int))) (
              .chk (((0 : Int) ≤ (1 : Int)) ∧ ((1 : Int) < ((src_len : Nat) : Int))) <|
              .ptr src fun (z10 : Addr) =>
              .load (Addr.add z10 1) (.int .u8) fun (i11 : Int) =>
              .leaf 0 [(Value.bool (i11 != (117 : Int)))]) (
              .leaf 0 [(Value.bool Bool.false)])) (
            .leaf 0 [(Value.bool Bool.false)])))))
def pretty_isNaNOrInf.h : Hints := ⟨[], [], [], []⟩
noncomputable def pretty_isNaNOrInf.c : Code := (Try.f17.body).getD .skip
theorem pretty_isNaNOrInf.e (src : (Option Addr)) (src_len : Nat) (src_cap : Nat) : fnT Try.prog pretty_isNaNOrInf.h Try.f17 pretty_isNaNOrInf.c [.v (Value.slice src src_len src_cap)] = pretty_isNaNOrInf.t src src_len src_cap := by kernel_rfl
theorem pretty_isNaNOrInf.calls (src : (Option Addr)) (src_len : Nat) (src_cap : Nat) {w : World} {R : Ending → World → Prop} (hs : sat Try.prog (pretty_isNaNOrInf.t src src_len src_cap) (fun l vs w' => l = 0 ∧ R (.returned (retVal vs)) w') w) : Calls Try.prog 17 #[(Value.slice src src_len src_cap)] w R :=
  have h := calls_of_tree (w := w) (R := R) (args := [.v (Value.slice src src_len src_cap)]) (c := pretty_isNaNOrInf.c) Try.func17 (show Try.f17.body = some pretty_isNaNOrInf.c by kernel_rfl) (of_decide_eq_true (by kernel_rfl)) (pretty_isNaNOrInf.e src src_len src_cap) hs
  h

/-! ### pub-tetrapla/spec.Blank : function 18 -/
def spec_Blank.t (c0 : Int) : T :=
  .ite (c0 == (32 : Int)) (
    .leaf 0 [(Value.bool Bool.true)]) (
    .ite (c0 == (9 : Int)) (
      .leaf 0 [(Value.bool Bool.true)]) (
      .ite (c0 == (10 : Int)) (
        .leaf 0 [(Value.bool Bool.true)]) (
        .leaf 0 [(Value.bool (c0 == (13 : Int)))])))
def spec_Blank.h : Hints := ⟨[], [], [], []⟩
noncomputable def spec_Blank.c : Code := (Try.f18.body).getD .skip
theorem spec_Blank.e (c0 : Int) : fnT Try.prog spec_Blank.h Try.f18 spec_Blank.c [.v (Value.int IntKind.u8 c0)] = spec_Blank.t c0 := by kernel_rfl
theorem spec_Blank.calls (c0 : Int) {w : World} {R : Ending → World → Prop} (hs : sat Try.prog (spec_Blank.t c0) (fun l vs w' => l = 0 ∧ R (.returned (retVal vs)) w') w) : Calls Try.prog 18 #[(Value.int IntKind.u8 c0)] w R :=
  have h := calls_of_tree (w := w) (R := R) (args := [.v (Value.int IntKind.u8 c0)]) (c := spec_Blank.c) Try.func18 (show Try.f18.body = some spec_Blank.c by kernel_rfl) (of_decide_eq_true (by kernel_rfl)) (spec_Blank.e c0) hs
  h

/-! ### (*pub-tetrapla/spec.colorer).marked : function 19 -/
def spec_colorer_marked.t (c0 : (Option Addr)) (marks_0 : ByteArray) (marks_1 : ByteArray) (from2 : Int) (to : Int) : T :=
  .alloc (Obj.cells #[(Value.string marks_0), (Value.string marks_1)] 22 (0, 0)) fun (z0 : Addr) =>
  .drew <|
  .ptr c0 fun (z1 : Addr) =>
  .load (Addr.add z1 17) .slice fun (z2 : ((Option Addr) × (Nat × Nat))) =>
  .chk (((0 : Int) ≤ (0 : Int)) ∧ ((0 : Int) < (2 : Int))) <|
  .load (Addr.add z0 0) .str fun (s3 : ByteArray) =>
  .eff (Builtin.append_ (Call.argTypes (Call.mk (Callee.builtin Builtin.append) #[(Operand.tmp 12), (Operand.tmp 14)] #[37, 9])) 37 #[(Value.slice (z2).1 ((z2).2).1 ((z2).2).2), (Value.string s3)]) .slice fun (z4 : ((Option Addr) × (Nat × Nat))) =>
  .ptr c0 fun (z5 : Addr) =>
  .store (Addr.add z5 17) (Value.slice (z4).1 ((z4).2).1 ((z4).2).2) <|
  .drew <|
  .ptr c0 fun (z6 : Addr) =>
  .load (Addr.add z6 17) .slice fun (z7 : ((Option Addr) × (Nat × Nat))) =>
  .ptr c0 fun (z8 : Addr) =>
  .load (Addr.add z8 0) .str fun (s9 : ByteArray) =>
  .chk (((0 : Int) ≤ from2) ∧ ((from2 ≤ to) ∧ (to ≤ (((ByteArray.size s9) : Nat) : Int)))) <|
  .eff (Builtin.append_ (Call.argTypes (Call.mk (Callee.builtin Builtin.append) #[(Operand.tmp 22), (Operand.tmp 29)] #[37, 9])) 37 #[(Value.slice (z7).1 ((z7).2).1 ((z7).2).2), (Value.string (ByteArray.extract s9 (Int.toNat from2) (Int.toNat to)))]) .slice fun (z10 : ((Option Addr) × (Nat × Nat))) =>
  .ptr c0 fun (z11 : Addr) =>
  .store (Addr.add z11 17) (Value.slice (z10).1 ((z10).2).1 ((z10).2).2) <|
  .drew <|
  .ptr c0 fun (z12 : Addr) =>
  .load (Addr.add z12 17) .slice fun (z13 : ((Option Addr) × (Nat × Nat))) =>
  .chk (((0 : Int) ≤ (1 : Int)) ∧ ((1 : Int) < (2 : Int))) <|
  .load (Addr.add z0 1) .str fun (s14 : ByteArray) =>
  .eff (Builtin.append_ (Call.argTypes (Call.mk (Callee.builtin Builtin.append) #[(Operand.tmp 37), (Operand.tmp 39)] #[37, 9])) 37 #[(Value.slice (z13).1 ((z13).2).1 ((z13).2).2), (Value.string s14)]) .slice fun (z15 : ((Option Addr) × (Nat × Nat))) =>
  .ptr c0 fun (z16 : Addr) =>
  .store (Addr.add z16 17) (Value.slice (z15).1 ((z15).2).1 ((z15).2).2) <|
  .leaf 0 []
def spec_colorer_marked.h : Hints := ⟨[], [], [], []⟩
noncomputable def spec_colorer_marked.c : Code := (Try.f19.body).getD .skip
theorem spec_colorer_marked.e (c0 : (Option Addr)) (marks_0 : ByteArray) (marks_1 : ByteArray) (from2 : Int) (to : Int) : fnT Try.prog spec_colorer_marked.h Try.f19 spec_colorer_marked.c [.v (Value.pointer c0), .v (Value.agg #[(Value.string marks_0), (Value.string marks_1)]), .v (Value.int IntKind.i64 from2), .v (Value.int IntKind.i64 to)] = spec_colorer_marked.t c0 marks_0 marks_1 from2 to := by kernel_rfl
theorem spec_colorer_marked.calls (c0 : (Option Addr)) (marks_0 : ByteArray) (marks_1 : ByteArray) (from2 : Int) (to : Int) {w : World} {R : Ending → World → Prop} (hs : sat Try.prog (spec_colorer_marked.t c0 marks_0 marks_1 from2 to) (fun l vs w' => l = 0 ∧ R (.returned (retVal vs)) w') w) : Calls Try.prog 19 #[(Value.pointer c0), (Value.agg #[(Value.string marks_0), (Value.string marks_1)]), (Value.int IntKind.i64 from2), (Value.int IntKind.i64 to)] w R :=
  have h := calls_of_tree (w := w) (R := R) (args := [.v (Value.pointer c0), .v (Value.agg #[(Value.string marks_0), (Value.string marks_1)]), .v (Value.int IntKind.i64 from2), .v (Value.int IntKind.i64 to)]) (c := spec_colorer_marked.c) Try.func19 (show Try.f19.body = some spec_colorer_marked.c by kernel_rfl) (of_decide_eq_true (by kernel_rfl)) (spec_colorer_marked.e c0 marks_0 marks_1 from2 to) hs
  h

/-! ### (*pub-tetrapla/spec.colorer).quoted : function 20 -/
def spec_colorer_quoted.t2 (q0 : (Option Addr)) (z0 : Addr) (i6 : Int) (i19 : Int) : T :=
  .drew <|
  .ptr q0 fun (z20 : Addr) =>
  .load (Addr.add z20 17) .slice fun (z21 : ((Option Addr) × (Nat × Nat))) =>
  .chk (((0 : Int) ≤ (1 : Int)) ∧ ((1 : Int) < (2 : Int))) <|
  .load (Addr.add z0 1) .str fun (s22 : ByteArray) =>
  .eff (Builtin.append_ (Call.argTypes (Call.mk (Callee.builtin Builtin.append) #[(Operand.tmp 64), (Operand.tmp 66)] #[37, 9])) 37 #[(Value.slice (z21).1 ((z21).2).1 ((z21).2).2), (Value.string s22)]) .slice fun (z23 : ((Option Addr) × (Nat × Nat))) =>
  .ptr q0 fun (z24 : Addr) =>
  .store (Addr.add z24 17) (Value.slice (z23).1 ((z23).2).1 ((z23).2).2) <|
  .ptr q0 fun (z25 : Addr) =>
  .eff (Instr.loadAt 22 (Value.pointer (some (Addr.add (Addr.add z25 1) 12)))) (.agg (.cons .str (.cons .str .nil))) fun (z26 : (ByteArray × (ByteArray × PUnit))) =>
  .call 19 #[(Value.pointer q0), (Value.agg #[(Value.string (z26).1), (Value.string ((z26).2).1)]), (Value.int IntKind.i64 i6), (Value.int IntKind.i64 i19)] (.tuple .nil) fun _ =>
  .drew <|
  .ptr q0 fun (z27 : Addr) =>
  .load (Addr.add z27 17) .slice fun (z28 : ((Option Addr) × (Nat × Nat))) =>
  .chk (((0 : Int) ≤ (0 : Int)) ∧ ((0 : Int) < (2 : Int))) <|
  .load (Addr.add z0 0) .str fun (s29 : ByteArray) =>
  .eff (Builtin.append_ (Call.argTypes (Call.mk (Callee.builtin Builtin.append) #[(Operand.tmp 83), (Operand.tmp 85)] #[37, 9])) 37 #[(Value.slice (z28).1 ((z28).2).1 ((z28).2).2), (Value.string s29)]) .slice fun (z30 : ((Option Addr) × (Nat × Nat))) =>
  .ptr q0 fun (z31 : Addr) =>
  .store (Addr.add z31 17) (Value.slice (z30).1 ((z30).2).1 ((z30).2).2) <|
  .leaf 1 [(Value.int IntKind.i64 i19)]
def spec_colorer_quoted.t1 (q0 : (Option Addr)) (q3 : Int) (z0 : Addr) (i6 : Int) : T :=
  .ite (decide (i6 < q3)) (
    .ptr q0 fun (z7 : Addr) =>
    .load (Addr.add z7 0) .str fun (s8 : ByteArray) =>
    .chk (((0 : Int) ≤ i6) ∧ (i6 < (((ByteArray.size s8) : Nat) : Int))) <|
    .ite ((bt s8 i6) != (92 : Int)) (
      .drew <|
      .ptr q0 fun (z9 : Addr) =>
      .load (Addr.add z9 17) .slice fun (z10 : ((Option Addr) × (Nat × Nat))) =>
      .ptr q0 fun (z11 : Addr) =>
      .load (Addr.add z11 0) .str fun (s12 : ByteArray) =>
      .chk (((0 : Int) ≤ i6) ∧ (i6 < (((ByteArray.size s12) : Nat) : Int))) <|
      .here fun (z13 : World) =>
      .eff (Instr.buildSlice 37 1 #[(0, (Value.int IntKind.u8 (bt s12 i6)))]) .slice fun (z14 : ((Option Addr) × (Nat × Nat))) =>
      .grew z13 <|
      .eff (Builtin.append_ (Call.argTypes (Call.mk (Callee.builtin Builtin.append) #[(Operand.tmp 35), (Operand.tmp 42)] #[37, 37])) 37 #[(Value.slice (z10).1 ((z10).2).1 ((z10).2).2), (Value.slice (z14).1 ((z14).2).1 ((z14).2).2)]) .slice fun (z15 : ((Option Addr) × (Nat × Nat))) =>
      .ptr q0 fun (z16 : Addr) =>
      .store (Addr.add z16 17) (Value.slice (z15).1 ((z15).2).1 ((z15).2).2) <|
      .leaf 1 [(Value.int IntKind.i64 (IntKind.wrap IntKind.i64 (i6 + (1 : Int))))]) (
      .ptr q0 fun (z17 : Addr) =>
      .load (Addr.add z17 0) .str fun (s18 : ByteArray) =>
      .chk (((0 : Int) ≤ (IntKind.wrap IntKind.i64 (i6 + (1 : Int)))) ∧ ((IntKind.wrap IntKind.i64 (i6 + (1 : Int))) < (((ByteArray.size s18) : Nat) : Int))) <|
      .cut 2 (.cons (.int .i64) .nil) (
        .ite ((bt s18 (IntKind.wrap IntKind.i64 (i6 + (1 : Int)))) == (117 : Int)) (
          .leaf 2 [(Value.int IntKind.i64 (IntKind.wrap IntKind.i64 (i6 + (6 : Int))))]) (
          .leaf 2 [(Value.int IntKind.i64 (IntKind.wrap IntKind.i64 (i6 + (2 : Int))))]))
        (fun z => spec_colorer_quoted.t2 q0 z0 i6 z.1))) (
    .drew <|
    .ptr q0 fun (z32 : Addr) =>
    .load (Addr.add z32 17) .slice fun (z33 : ((Option Addr) × (Nat × Nat))) =>
    .chk (((0 : Int) ≤ (1 : Int)) ∧ ((1 : Int) < (2 : Int))) <|
    .load (Addr.add z0 1) .str fun (s34 : ByteArray) =>
    .eff (Builtin.append_ (Call.argTypes (Call.mk (Callee.builtin Builtin.append) #[(Operand.tmp 94), (Operand.tmp 96)] #[37, 9])) 37 #[(Value.slice (z33).1 ((z33).2).1 ((z33).2).2), (Value.string s34)]) .slice fun (z35 : ((Option Addr) × (Nat × Nat))) =>
    .ptr q0 fun (z36 : Addr) =>
    .store (Addr.add z36 17) (Value.slice (z35).1 ((z35).2).1 ((z35).2).2) <|
    .leaf 0 [])
def spec_colorer_quoted.t (q0 : (Option Addr)) (q1_0 : ByteArray) (q1_1 : ByteArray) (q2 : Int) (q3 : Int) : T :=
  .alloc (Obj.cells #[(Value.string q1_0), (Value.string q1_1)] 22 (0, 0)) fun (z0 : Addr) =>
  .drew <|
  .ptr q0 fun (z1 : Addr) =>
  .load (Addr.add z1 17) .slice fun (z2 : ((Option Addr) × (Nat × Nat))) =>
  .chk (((0 : Int) ≤ (0 : Int)) ∧ ((0 : Int) < (2 : Int))) <|
  .load (Addr.add z0 0) .str fun (s3 : ByteArray) =>
  .eff (Builtin.append_ (Call.argTypes (Call.mk (Callee.builtin Builtin.append) #[(Operand.tmp 14), (Operand.tmp 16)] #[37, 9])) 37 #[(Value.slice (z2).1 ((z2).2).1 ((z2).2).2), (Value.string s3)]) .slice fun (z4 : ((Option Addr) × (Nat × Nat))) =>
  .ptr q0 fun (z5 : Addr) =>
  .store (Addr.add z5 17) (Value.slice (z4).1 ((z4).2).1 ((z4).2).2) <|
  .loop 1 (.cons (.int .i64) .nil) [(Value.int IntKind.i64 q2)]
    (fun z => spec_colorer_quoted.t1 q0 q3 z0 z.1)
def spec_colorer_quoted.h : Hints := ⟨[(57, [(9, (.int .i64))])], [], [], [(3, [(8, (.int .i64))])]⟩
noncomputable def spec_colorer_quoted.c : Code := (Try.f20.body).getD .skip
theorem spec_colorer_quoted.e (q0 : (Option Addr)) (q1_0 : ByteArray) (q1_1 : ByteArray) (q2 : Int) (q3 : Int) : fnT Try.prog spec_colorer_quoted.h Try.f20 spec_colorer_quoted.c [.v (Value.pointer q0), .v (Value.agg #[(Value.string q1_0), (Value.string q1_1)]), .v (Value.int IntKind.i64 q2), .v (Value.int IntKind.i64 q3)] = spec_colorer_quoted.t q0 q1_0 q1_1 q2 q3 := by kernel_rfl
theorem spec_colorer_quoted.calls (q0 : (Option Addr)) (q1_0 : ByteArray) (q1_1 : ByteArray) (q2 : Int) (q3 : Int) {w : World} {R : Ending → World → Prop} (hs : sat Try.prog (spec_colorer_quoted.t q0 q1_0 q1_1 q2 q3) (fun l vs w' => l = 0 ∧ R (.returned (retVal vs)) w') w) : Calls Try.prog 20 #[(Value.pointer q0), (Value.agg #[(Value.string q1_0), (Value.string q1_1)]), (Value.int IntKind.i64 q2), (Value.int IntKind.i64 q3)] w R :=
  have h := calls_of_tree (w := w) (R := R) (args := [.v (Value.pointer q0), .v (Value.agg #[(Value.string q1_0), (Value.string q1_1)]), .v (Value.int IntKind.i64 q2), .v (Value.int IntKind.i64 q3)]) (c := spec_colorer_quoted.c) Try.func20 (show Try.f20.body = some spec_colorer_quoted.c by kernel_rfl) (of_decide_eq_true (by kernel_rfl)) (spec_colorer_quoted.e q0 q1_0 q1_1 q2 q3) hs
  h

/-! ### (*pub-tetrapla/spec.colorer).inside : function 21 -/
def spec_colorer_inside.t2 (q0 : (Option Addr)) (i1 : Int) (i8 : Int) (z12 : Addr) (i27 : Int) : T :=
  .load (Addr.add z12 1) (.int .i64) fun (i28 : Int) =>
  .call 12 #[(Value.pointer q0), (Value.int IntKind.i64 i27), (Value.int IntKind.i64 i28), (Value.bool (i1 == (6 : Int)))] (.tuple .nil) fun _ =>
  .eff (Instr.loadAt 29 (Value.pointer (some z12))) (.agg (.cons (.int .i64) (.cons (.int .i64) (.cons (.int .i64) (.cons .slice (.cons .slice .nil)))))) fun (z29 : (Int × (Int × (Int × (((Option Addr) × (Nat × Nat)) × (((Option Addr) × (Nat × Nat)) × PUnit)))))) =>
  .call 13 #[(Value.pointer q0), (Value.agg #[(Value.int IntKind.i64 (z29).1), (Value.int IntKind.i64 ((z29).2).1), (Value.int IntKind.i64 (((z29).2).2).1), (Value.slice (((((z29).2).2).2).1).1 ((((((z29).2).2).2).1).2).1 ((((((z29).2).2).2).1).2).2), (Value.slice ((((((z29).2).2).2).2).1).1 (((((((z29).2).2).2).2).1).2).1 (((((((z29).2).2).2).2).1).2).2)])] (.tuple .nil) fun _ =>
  .load (Addr.add z12 2) (.int .i64) fun (i30 : Int) =>
  .leaf 1 [(Value.int IntKind.i64 (IntKind.wrap IntKind.i64 (i8 + (1 : Int)))), (Value.int IntKind.i64 i30)]
def spec_colorer_inside.t1 (q0 : (Option Addr)) (z0 : Addr) (i1 : Int) (z7 : ((Option Addr) × (Nat × Nat))) (i8 : Int) (i9 : Int) : T :=
  .ite (decide (i8 < ((((z7).2).1 : Nat) : Int))) (
    .chk (((0 : Int) ≤ i8) ∧ (i8 < ((((z7).2).1 : Nat) : Int))) <|
    .ptr (z7).1 fun (z10 : Addr) =>
    .eff (Instr.loadAt 29 (Value.pointer (some (Addr.add z10 ((Int.toNat i8) * 5))))) (.agg (.cons (.int .i64) (.cons (.int .i64) (.cons (.int .i64) (.cons .slice (.cons .slice .nil)))))) fun (z11 : (Int × (Int × (Int × (((Option Addr) × (Nat × Nat)) × (((Option Addr) × (Nat × Nat)) × PUnit)))))) =>
    .alloc (Obj.cells #[(Value.int IntKind.i64 (0 : Int)), (Value.int IntKind.i64 (0 : Int)), (Value.int IntKind.i64 (0 : Int)), (Value.slice none 0 0), (Value.slice none 0 0)] 29 (0, 0)) fun (z12 : Addr) =>
    .effU (Instr.storeAt 29 (Value.pointer (some z12)) (Value.agg #[(Value.int IntKind.i64 (z11).1), (Value.int IntKind.i64 ((z11).2).1), (Value.int IntKind.i64 (((z11).2).2).1), (Value.slice (((((z11).2).2).2).1).1 ((((((z11).2).2).2).1).2).1 ((((((z11).2).2).2).1).2).2), (Value.slice ((((((z11).2).2).2).2).1).1 (((((((z11).2).2).2).2).1).2).1 (((((((z11).2).2).2).2).1).2).2)])) <|
    .cut 2 (.cons (.int .i64) .nil) (
      .ite (i1 == (6 : Int)) (
        .load (Addr.add z0 3) .slice fun (z13 : ((Option Addr) × (Nat × Nat))) =>
        .chk (((0 : Int) ≤ i8) ∧ (i8 < ((((z13).2).1 : Nat) : Int))) <|
        .ptr (z13).1 fun (z14 : Addr) =>
        .load (Addr.add (Addr.add z14 ((Int.toNat i8) * 2)) 0) (.int .i64) fun (i15 : Int) =>
        .call 12 #[(Value.pointer q0), (Value.int IntKind.i64 i9), (Value.int IntKind.i64 i15), (Value.bool Bool.true)] (.tuple .nil) fun _ =>
        .drew <|
        .ptr q0 fun (z16 : Addr) =>
        .effS (Instr.loadAt 22 (Value.pointer (some (Addr.add (Addr.add z16 1) 0)))) (.agg (.cons .str (.cons .str .nil))) fun (z17 : (ByteArray × (ByteArray × PUnit))) =>
        .load (Addr.add z0 3) .slice fun (z18 : ((Option Addr) × (Nat × Nat))) =>
        .chk (((0 : Int) ≤ i8) ∧ (i8 < ((((z18).2).1 : Nat) : Int))) <|
        .ptr (z18).1 fun (z19 : Addr) =>
        .load (Addr.add (Addr.add z19 ((Int.toNat i8) * 2)) 0) (.int .i64) fun (i20 : Int) =>
        .load (Addr.add z0 3) .slice fun (z21 : ((Option Addr) × (Nat × Nat))) =>
        .chk (((0 : Int) ≤ i8) ∧ (i8 < ((((z21).2).1 : Nat) : Int))) <|
        .ptr (z21).1 fun (z22 : Addr) =>
        .load (Addr.add (Addr.add z22 ((Int.toNat i8) * 2)) 1) (.int .i64) fun (i23 : Int) =>
        .call 20 #[(Value.pointer q0), (Value.agg #[(Value.string (z17).1), (Value.string ((z17).2).1)]), (Value.int IntKind.i64 i20), (Value.int IntKind.i64 i23)] (.tuple .nil) fun _ =>
        .load (Addr.add z0 3) .slice fun (z24 : ((Option Addr) × (Nat × Nat))) =>
        .chk (((0 : Int) ≤ i8) ∧ (i8 < ((((z24).2).1 : Nat) : Int))) <|
        .ptr (z24).1 fun (z25 : Addr) =>
        .load (Addr.add (Addr.add z25 ((Int.toNat i8) * 2)) 1) (.int .i64) fun (i26 : Int) =>
        .leaf 2 [(Value.int IntKind.i64 i26)]) (
        .leaf 2 [(Value.int IntKind.i64 i9)]))
      (fun z => spec_colorer_inside.t2 q0 i1 i8 z12 z.1)) (
    .load (Addr.add z0 2) (.int .i64) fun (i31 : Int) =>
    .call 12 #[(Value.pointer q0), (Value.int IntKind.i64 i9), (Value.int IntKind.i64 (IntKind.wrap IntKind.i64 (i31 - (1 : Int)))), (Value.bool (i1 == (6 : Int)))] (.tuple .nil) fun _ =>
    .drew <|
    .ptr q0 fun (z32 : Addr) =>
    .effS (Instr.loadAt 22 (Value.pointer (some (Addr.add (Addr.add z32 1) 14)))) (.agg (.cons .str (.cons .str .nil))) fun (z33 : (ByteArray × (ByteArray × PUnit))) =>
    .load (Addr.add z0 2) (.int .i64) fun (i34 : Int) =>
    .load (Addr.add z0 2) (.int .i64) fun (i35 : Int) =>
    .call 19 #[(Value.pointer q0), (Value.agg #[(Value.string (z33).1), (Value.string ((z33).2).1)]), (Value.int IntKind.i64 (IntKind.wrap IntKind.i64 (i34 - (1 : Int)))), (Value.int IntKind.i64 i35)] (.tuple .nil) fun _ =>
    .leaf 0 [])
def spec_colorer_inside.t (q0 : (Option Addr)) (q1_0 : Int) (q1_1 : Int) (q1_2 : Int) (q1_3 : (Option Addr)) (q1_3_len : Nat) (q1_3_cap : Nat) (q1_4 : (Option Addr)) (q1_4_len : Nat) (q1_4_cap : Nat) : T :=
  .alloc (Obj.cells #[(Value.int IntKind.i64 q1_0), (Value.int IntKind.i64 q1_1), (Value.int IntKind.i64 q1_2), (Value.slice q1_3 q1_3_len q1_3_cap), (Value.slice q1_4 q1_4_len q1_4_cap)] 29 (0, 0)) fun (z0 : Addr) =>
  .load (Addr.add z0 0) (.int .i64) fun (i1 : Int) =>
  .drew <|
  .ptr q0 fun (z2 : Addr) =>
  .effS (Instr.loadAt 22 (Value.pointer (some (Addr.add (Addr.add z2 1) 14)))) (.agg (.cons .str (.cons .str .nil))) fun (z3 : (ByteArray × (ByteArray × PUnit))) =>
  .load (Addr.add z0 1) (.int .i64) fun (i4 : Int) =>
  .load (Addr.add z0 1) (.int .i64) fun (i5 : Int) =>
  .call 19 #[(Value.pointer q0), (Value.agg #[(Value.string (z3).1), (Value.string ((z3).2).1)]), (Value.int IntKind.i64 i4), (Value.int IntKind.i64 (IntKind.wrap IntKind.i64 (i5 + (1 : Int))))] (.tuple .nil) fun _ =>
  .load (Addr.add z0 1) (.int .i64) fun (i6 : Int) =>
  .load (Addr.add z0 4) .slice fun (z7 : ((Option Addr) × (Nat × Nat))) =>
  .loop 1 (.cons (.int .i64) (.cons (.int .i64) .nil)) [(Value.int IntKind.i64 (0 : Int)), (Value.int IntKind.i64 (IntKind.wrap IntKind.i64 (i6 + (1 : Int))))]
    (fun z => spec_colorer_inside.t1 q0 z0 i1 z7 z.1 z.2.1)
def spec_colorer_inside.h : Hints := ⟨[(34, [(5, (.int .i64))])], [], [], [(5, [(29, (.int .i64)), (5, (.int .i64))])]⟩
noncomputable def spec_colorer_inside.c : Code := (Try.f21.body).getD .skip
theorem spec_colorer_inside.e (q0 : (Option Addr)) (q1_0 : Int) (q1_1 : Int) (q1_2 : Int) (q1_3 : (Option Addr)) (q1_3_len : Nat) (q1_3_cap : Nat) (q1_4 : (Option Addr)) (q1_4_len : Nat) (q1_4_cap : Nat) : fnT Try.prog spec_colorer_inside.h Try.f21 spec_colorer_inside.c [.v (Value.pointer q0), .v (Value.agg #[(Value.int IntKind.i64 q1_0), (Value.int IntKind.i64 q1_1), (Value.int IntKind.i64 q1_2), (Value.slice q1_3 q1_3_len q1_3_cap), (Value.slice q1_4 q1_4_len q1_4_cap)])] = spec_colorer_inside.t q0 q1_0 q1_1 q1_2 q1_3 q1_3_len q1_3_cap q1_4 q1_4_len q1_4_cap := by kernel_rfl
theorem spec_colorer_inside.calls (q0 : (Option Addr)) (q1_0 : Int) (q1_1 : Int) (q1_2 : Int) (q1_3 : (Option Addr)) (q1_3_len : Nat) (q1_3_cap : Nat) (q1_4 : (Option Addr)) (q1_4_len : Nat) (q1_4_cap : Nat) {w : World} {R : Ending → World → Prop} (hs : sat Try.prog (spec_colorer_inside.t q0 q1_0 q1_1 q1_2 q1_3 q1_3_len q1_3_cap q1_4 q1_4_len q1_4_cap) (fun l vs w' => l = 0 ∧ R (.returned (retVal vs)) w') w) : Calls Try.prog 21 #[(Value.pointer q0), (Value.agg #[(Value.int IntKind.i64 q1_0), (Value.int IntKind.i64 q1_1), (Value.int IntKind.i64 q1_2), (Value.slice q1_3 q1_3_len q1_3_cap), (Value.slice q1_4 q1_4_len q1_4_cap)])] w R :=
  have h := calls_of_tree (w := w) (R := R) (args := [.v (Value.pointer q0), .v (Value.agg #[(Value.int IntKind.i64 q1_0), (Value.int IntKind.i64 q1_1), (Value.int IntKind.i64 q1_2), (Value.slice q1_3 q1_3_len q1_3_cap), (Value.slice q1_4 q1_4_len q1_4_cap)])]) (c := spec_colorer_inside.c) Try.func21 (show Try.f21.body = some spec_colorer_inside.c by kernel_rfl) (of_decide_eq_true (by kernel_rfl)) (spec_colorer_inside.e q0 q1_0 q1_1 q1_2 q1_3 q1_3_len q1_3_cap q1_4 q1_4_len q1_4_cap) hs
  h

/-! ### (*pub-tetrapla/spec.reader).here : function 22 -/
def spec_reader_here.t (r : (Option Addr)) : T :=
  .drew <|
  .ptr r fun (z0 : Addr) =>
  .load (Addr.add z0 1) (.int .i64) fun (i1 : Int) =>
  .ptr r fun (z2 : Addr) =>
  .load (Addr.add z2 0) .str fun (s3 : ByteArray) =>
  .ite (decide (i1 < (((ByteArray.size s3) : Nat) : Int))) (
    .drew <|
    .ptr r fun (z4 : Addr) =>
    .load (Addr.add z4 0) .str fun (s5 : ByteArray) =>
    .ptr r fun (z6 : Addr) =>
    .load (Addr.add z6 1) (.int .i64) fun (i7 : Int) =>
    .chk (((0 : Int) ≤ i7) ∧ (i7 < (((ByteArray.size s5) : Nat) : Int))) <|
    .leaf 0 [(Value.int IntKind.u8 (bt s5 i7))]) (
    .leaf 0 [(Value.int IntKind.u8 (0 : Int))])
def spec_reader_here.h : Hints := ⟨[], [], [], []⟩
noncomputable def spec_reader_here.c : Code := (Try.f22.body).getD .skip
theorem spec_reader_here.e (r : (Option Addr)) : fnT Try.prog spec_reader_here.h Try.f22 spec_reader_here.c [.v (Value.pointer r)] = spec_reader_here.t r := by kernel_rfl
theorem spec_reader_here.calls (r : (Option Addr)) {w : World} {R : Ending → World → Prop} (hs : sat Try.prog (spec_reader_here.t r) (fun l vs w' => l = 0 ∧ R (.returned (retVal vs)) w') w) : Calls Try.prog 22 #[(Value.pointer r)] w R :=
  have h := calls_of_tree (w := w) (R := R) (args := [.v (Value.pointer r)]) (c := spec_reader_here.c) Try.func22 (show Try.f22.body = some spec_reader_here.c by kernel_rfl) (of_decide_eq_true (by kernel_rfl)) (spec_reader_here.e r) hs
  h

/-! ### (*pub-tetrapla/spec.reader).quoted : function 25 -/
def spec_reader_quoted.t1 (r : (Option Addr)) : T :=
  .drew <|
  .ptr r fun (z3 : Addr) =>
  .load (Addr.add z3 1) (.int .i64) fun (i4 : Int) =>
  .ptr r fun (z5 : Addr) =>
  .load (Addr.add z5 0) .str fun (s6 : ByteArray) =>
  .ite (decide (i4 < (((ByteArray.size s6) : Nat) : Int))) (
    .drew <|
    .ptr r fun (z7 : Addr) =>
    .load (Addr.add z7 0) .str fun (s8 : ByteArray) =>
    .ptr r fun (z9 : Addr) =>
    .load (Addr.add z9 1) (.int .i64) fun (i10 : Int) =>
    .chk (((0 : Int) ≤ i10) ∧ (i10 < (((ByteArray.size s8) : Nat) : Int))) <|
    .ptr r fun (z11 : Addr) =>
    .load (Addr.add z11 1) (.int .i64) fun (i12 : Int) =>
    .ptr r fun (z13 : Addr) =>
    .store (Addr.add z13 1) (Value.int IntKind.i64 (IntKind.wrap IntKind.i64 (i12 + (1 : Int)))) <|
    .ite ((bt s8 i10) == (34 : Int)) (
      .leaf 0 [(Value.bool Bool.true)]) (
      .ite (decide ((bt s8 i10) < (32 : Int))) (
        .leaf 0 [(Value.bool Bool.false)]) (
        .ite ((bt s8 i10) == (92 : Int)) (
          .call 29 #[(Value.pointer r)] .bool fun (b14 : Bool) =>
          .ite (!b14) (
            .leaf 0 [(Value.bool Bool.false)]) (
            .leaf 1 [])) (
          .leaf 1 [])))) (
    .leaf 0 [(Value.bool Bool.false)])
def spec_reader_quoted.t (r : (Option Addr)) : T :=
  .ptr r fun (z0 : Addr) =>
  .load (Addr.add z0 1) (.int .i64) fun (i1 : Int) =>
  .ptr r fun (z2 : Addr) =>
  .store (Addr.add z2 1) (Value.int IntKind.i64 (IntKind.wrap IntKind.i64 (i1 + (1 : Int)))) <|
  .loop 1 .nil []
    (fun _ => spec_reader_quoted.t1 r)
def spec_reader_quoted.h : Hints := ⟨[], [], [], [(2, [])]⟩
noncomputable def spec_reader_quoted.c : Code := (Try.f25.body).getD .skip
theorem spec_reader_quoted.e (r : (Option Addr)) : fnT Try.prog spec_reader_quoted.h Try.f25 spec_reader_quoted.c [.v (Value.pointer r)] = spec_reader_quoted.t r := by kernel_rfl
theorem spec_reader_quoted.calls (r : (Option Addr)) {w : World} {R : Ending → World → Prop} (hs : sat Try.prog (spec_reader_quoted.t r) (fun l vs w' => l = 0 ∧ R (.returned (retVal vs)) w') w) : Calls Try.prog 25 #[(Value.pointer r)] w R :=
  have h := calls_of_tree (w := w) (R := R) (args := [.v (Value.pointer r)]) (c := spec_reader_quoted.c) Try.func25 (show Try.f25.body = some spec_reader_quoted.c by kernel_rfl) (of_decide_eq_true (by kernel_rfl)) (spec_reader_quoted.e r) hs
  h

/-! ### (*pub-tetrapla/spec.reader).number : function 26 -/
def spec_reader_number.t2 (r : (Option Addr)) (b6 : Bool) : T :=
  .ite b6 (
    .leaf 0 [(Value.bool Bool.false)]) (
    .call 28 #[(Value.pointer r), (Value.int IntKind.u8 (101 : Int))] .bool fun (b7 : Bool) =>
    .ite b7 (
      .call 28 #[(Value.pointer r), (Value.int IntKind.u8 (43 : Int))] .bool fun (b8 : Bool) =>
      .ite (!b8) (
        .call 28 #[(Value.pointer r), (Value.int IntKind.u8 (45 : Int))] .bool fun (b9 : Bool) =>
        .call 30 #[(Value.pointer r)] .bool fun (b10 : Bool) =>
        .leaf 0 [(Value.bool b10)]) (
        .call 30 #[(Value.pointer r)] .bool fun (b11 : Bool) =>
        .leaf 0 [(Value.bool b11)])) (
      .call 28 #[(Value.pointer r), (Value.int IntKind.u8 (69 : Int))] .bool fun (b12 : Bool) =>
      .ite b12 (
        .call 28 #[(Value.pointer r), (Value.int IntKind.u8 (43 : Int))] .bool fun (b13 : Bool) =>
        .ite (!b13) (
          .call 28 #[(Value.pointer r), (Value.int IntKind.u8 (45 : Int))] .bool fun (b14 : Bool) =>
          .call 30 #[(Value.pointer r)] .bool fun (b15 : Bool) =>
          .leaf 0 [(Value.bool b15)]) (
          .call 30 #[(Value.pointer r)] .bool fun (b16 : Bool) =>
          .leaf 0 [(Value.bool b16)])) (
        .leaf 0 [(Value.bool Bool.true)])))
def spec_reader_number.t1 (r : (Option Addr)) (b3 : Bool) : T :=
  .ite b3 (
    .leaf 0 [(Value.bool Bool.false)]) (
    .cut 1 (.cons .bool .nil) (
      .call 28 #[(Value.pointer r), (Value.int IntKind.u8 (46 : Int))] .bool fun (b4 : Bool) =>
      .ite b4 (
        .call 30 #[(Value.pointer r)] .bool fun (b5 : Bool) =>
        .leaf 1 [(Value.bool (!b5))]) (
        .leaf 1 [(Value.bool Bool.false)]))
      (fun z => spec_reader_number.t2 r z.1))
def spec_reader_number.t (r : (Option Addr)) : T :=
  .call 28 #[(Value.pointer r), (Value.int IntKind.u8 (45 : Int))] .bool fun (b0 : Bool) =>
  .cut 1 (.cons .bool .nil) (
    .call 28 #[(Value.pointer r), (Value.int IntKind.u8 (48 : Int))] .bool fun (b1 : Bool) =>
    .ite (!b1) (
      .call 30 #[(Value.pointer r)] .bool fun (b2 : Bool) =>
      .leaf 1 [(Value.bool (!b2))]) (
      .leaf 1 [(Value.bool Bool.false)]))
    (fun z => spec_reader_number.t1 r z.1)
def spec_reader_number.h : Hints := ⟨[], [], [(2, [(12, .bool)]), (4, [(19, .bool)])], []⟩
noncomputable def spec_reader_number.c : Code := (Try.f26.body).getD .skip
theorem spec_reader_number.e (r : (Option Addr)) : fnT Try.prog spec_reader_number.h Try.f26 spec_reader_number.c [.v (Value.pointer r)] = spec_reader_number.t r := by kernel_rfl
theorem spec_reader_number.calls (r : (Option Addr)) {w : World} {R : Ending → World → Prop} (hs : sat Try.prog (spec_reader_number.t r) (fun l vs w' => l = 0 ∧ R (.returned (retVal vs)) w') w) : Calls Try.prog 26 #[(Value.pointer r)] w R :=
  have h := calls_of_tree (w := w) (R := R) (args := [.v (Value.pointer r)]) (c := spec_reader_number.c) Try.func26 (show Try.f26.body = some spec_reader_number.c by kernel_rfl) (of_decide_eq_true (by kernel_rfl)) (spec_reader_number.e r) hs
  h

/-! ### (*pub-tetrapla/spec.reader).word : function 27 -/
def spec_reader_word.t1 (r : (Option Addr)) (w1 : ByteArray) (b10 : Bool) : T :=
  .ite b10 (
    .leaf 0 [(Value.bool Bool.false)]) (
    .ptr r fun (z11 : Addr) =>
    .load (Addr.add z11 1) (.int .i64) fun (i12 : Int) =>
    .ptr r fun (z13 : Addr) =>
    .store (Addr.add z13 1) (Value.int IntKind.i64 (IntKind.wrap IntKind.i64 (i12 + (((ByteArray.size w1) : Nat) : Int)))) <|
    .leaf 0 [(Value.bool Bool.true)])
def spec_reader_word.t (r : (Option Addr)) (w1 : ByteArray) : T :=
  .cut 1 (.cons .bool .nil) (
    .drew <|
    .ptr r fun (z0 : Addr) =>
    .load (Addr.add z0 0) .str fun (s1 : ByteArray) =>
    .ptr r fun (z2 : Addr) =>
    .load (Addr.add z2 1) (.int .i64) fun (i3 : Int) =>
    .ite (decide ((IntKind.wrap IntKind.i64 ((((ByteArray.size s1) : Nat) : Int) - i3)) < (((ByteArray.size w1) : Nat) : Int))) (
      .leaf 1 [(Value.bool Bool.true)]) (
      .ptr r fun (z4 : Addr) =>
      .load (Addr.add z4 0) .str fun (s5 : ByteArray) =>
      .ptr r fun (z6 : Addr) =>
      .load (Addr.add z6 1) (.int .i64) fun (i7 : Int) =>
      .ptr r fun (z8 : Addr) =>
      .load (Addr.add z8 1) (.int .i64) fun (i9 : Int) =>
      .chk (((0 : Int) ≤ i7) ∧ ((i7 ≤ (IntKind.wrap IntKind.i64 (i9 + (((ByteArray.size w1) : Nat) : Int)))) ∧ ((IntKind.wrap IntKind.i64 (i9 + (((ByteArray.size w1) : Nat) : Int))) ≤ (((ByteArray.size s5) : Nat) : Int)))) <|
      .leaf 1 [(Value.bool (!(strEq (ByteArray.extract s5 (Int.toNat i7) (Int.toNat (IntKind.wrap IntKind.i64 (i9 + (((ByteArray.size w1) : Nat) : Int))))) w1)))]))
    (fun z => spec_reader_word.t1 r w1 z.1)
def spec_reader_word.h : Hints := ⟨[], [], [(1, [(37, .bool)])], []⟩
noncomputable def spec_reader_word.c : Code := (Try.f27.body).getD .skip
theorem spec_reader_word.e (r : (Option Addr)) (w1 : ByteArray) : fnT Try.prog spec_reader_word.h Try.f27 spec_reader_word.c [.v (Value.pointer r), .v (Value.string w1)] = spec_reader_word.t r w1 := by kernel_rfl
theorem spec_reader_word.calls (r : (Option Addr)) (w1 : ByteArray) {w : World} {R : Ending → World → Prop} (hs : sat Try.prog (spec_reader_word.t r w1) (fun l vs w' => l = 0 ∧ R (.returned (retVal vs)) w') w) : Calls Try.prog 27 #[(Value.pointer r), (Value.string w1)] w R :=
  have h := calls_of_tree (w := w) (R := R) (args := [.v (Value.pointer r), .v (Value.string w1)]) (c := spec_reader_word.c) Try.func27 (show Try.f27.body = some spec_reader_word.c by kernel_rfl) (of_decide_eq_true (by kernel_rfl)) (spec_reader_word.e r w1) hs
  h

/-! ### (*pub-tetrapla/spec.reader).take : function 28 -/
def spec_reader_take.t (r : (Option Addr)) (c1 : Int) : T :=
  .drew <|
  .ptr r fun (z0 : Addr) =>
  .load (Addr.add z0 1) (.int .i64) fun (i1 : Int) =>
  .ptr r fun (z2 : Addr) =>
  .load (Addr.add z2 0) .str fun (s3 : ByteArray) =>
  .ite (decide (i1 < (((ByteArray.size s3) : Nat) : Int))) (
    .ptr r fun (z4 : Addr) =>
    .load (Addr.add z4 0) .str fun (s5 : ByteArray) =>
    .ptr r fun (z6 : Addr) =>
    .load (Addr.add z6 1) (.int .i64) fun (i7 : Int) =>
    .chk (((0 : Int) ≤ i7) ∧ (i7 < (((ByteArray.size s5) : Nat) : Int))) <|
    .ite ((bt s5 i7) == c1) (
      .ptr r fun (z8 : Addr) =>
      .load (Addr.add z8 1) (.int .i64) fun (i9 : Int) =>
      .ptr r fun (z10 : Addr) =>
      .store (Addr.add z10 1) (Value.int IntKind.i64 (IntKind.wrap IntKind.i64 (i9 + (1 : Int)))) <|
      .leaf 0 [(Value.bool Bool.true)]) (
      .leaf 0 [(Value.bool Bool.false)])) (
    .leaf 0 [(Value.bool Bool.false)])
def spec_reader_take.h : Hints := ⟨[], [], [], []⟩
noncomputable def spec_reader_take.c : Code := (Try.f28.body).getD .skip
theorem spec_reader_take.e (r : (Option Addr)) (c1 : Int) : fnT Try.prog spec_reader_take.h Try.f28 spec_reader_take.c [.v (Value.pointer r), .v (Value.int IntKind.u8 c1)] = spec_reader_take.t r c1 := by kernel_rfl
theorem spec_reader_take.calls (r : (Option Addr)) (c1 : Int) {w : World} {R : Ending → World → Prop} (hs : sat Try.prog (spec_reader_take.t r c1) (fun l vs w' => l = 0 ∧ R (.returned (retVal vs)) w') w) : Calls Try.prog 28 #[(Value.pointer r), (Value.int IntKind.u8 c1)] w R :=
  have h := calls_of_tree (w := w) (R := R) (args := [.v (Value.pointer r), .v (Value.int IntKind.u8 c1)]) (c := spec_reader_take.c) Try.func28 (show Try.f28.body = some spec_reader_take.c by kernel_rfl) (of_decide_eq_true (by kernel_rfl)) (spec_reader_take.e r c1) hs
  h

/-! ### (*pub-tetrapla/spec.reader).escape : function 29 -/
def spec_reader_escape.t1 (b1 : Bool) : T :=
  .leaf 6 [(Value.bool b1)]
def spec_reader_escape.t2 (b2 : Bool) : T :=
  .leaf 5 [(Value.bool b2)]
def spec_reader_escape.t3 (b3 : Bool) : T :=
  .leaf 4 [(Value.bool b3)]
def spec_reader_escape.t4 (b4 : Bool) : T :=
  .leaf 3 [(Value.bool b4)]
def spec_reader_escape.t5 (b5 : Bool) : T :=
  .leaf 2 [(Value.bool b5)]
def spec_reader_escape.t6 (b6 : Bool) : T :=
  .leaf 1 [(Value.bool b6)]
def spec_reader_escape.t8 (r : (Option Addr)) (i14 : Int) : T :=
  .ite (decide (i14 < (4 : Int))) (
    .call 22 #[(Value.pointer r)] (.int .u8) fun (i15 : Int) =>
    .call 31 #[(Value.int IntKind.u8 i15)] (.tuple (.cons (.int .i64) (.cons .bool .nil))) fun (z16 : (Int × (Bool × PUnit))) =>
    .ite (!((z16).2).1) (
      .leaf 0 [(Value.bool Bool.false)]) (
      .ptr r fun (z17 : Addr) =>
      .load (Addr.add z17 1) (.int .i64) fun (i18 : Int) =>
      .ptr r fun (z19 : Addr) =>
      .store (Addr.add z19 1) (Value.int IntKind.i64 (IntKind.wrap IntKind.i64 (i18 + (1 : Int)))) <|
      .leaf 2 [(Value.int IntKind.i64 (IntKind.wrap IntKind.i64 (i14 + (1 : Int))))])) (
    .leaf 0 [(Value.bool Bool.true)])
def spec_reader_escape.t9 : T :=
  .leaf 0 [(Value.bool Bool.false)]
def spec_reader_escape.t7 (r : (Option Addr)) (i0 : Int) (b7 : Bool) : T :=
  .cut 1 (.cons .bool .nil) (
    .ite b7 (
      .ptr r fun (z8 : Addr) =>
      .load (Addr.add z8 1) (.int .i64) fun (i9 : Int) =>
      .ptr r fun (z10 : Addr) =>
      .store (Addr.add z10 1) (Value.int IntKind.i64 (IntKind.wrap IntKind.i64 (i9 + (1 : Int)))) <|
      .leaf 0 [(Value.bool Bool.true)]) (
      .ite (i0 == (117 : Int)) (
        .ptr r fun (z11 : Addr) =>
        .load (Addr.add z11 1) (.int .i64) fun (i12 : Int) =>
        .ptr r fun (z13 : Addr) =>
        .store (Addr.add z13 1) (Value.int IntKind.i64 (IntKind.wrap IntKind.i64 (i12 + (1 : Int)))) <|
        .loop 2 (.cons (.int .i64) .nil) [(Value.int IntKind.i64 (0 : Int))]
          (fun z => spec_reader_escape.t8 r z.1)) (
        .leaf 1 [(Value.bool b7)])))
    (fun z => spec_reader_escape.t9)
def spec_reader_escape.t (r : (Option Addr)) : T :=
  .call 22 #[(Value.pointer r)] (.int .u8) fun (i0 : Int) =>
  .cut 1 (.cons .bool .nil) (
    .ite (i0 == (34 : Int)) (
      .leaf 1 [(Value.bool (i0 == (34 : Int)))]) (
      .cut 2 (.cons .bool .nil) (
        .ite (i0 == (92 : Int)) (
          .leaf 2 [(Value.bool (i0 == (92 : Int)))]) (
          .cut 3 (.cons .bool .nil) (
            .ite (i0 == (47 : Int)) (
              .leaf 3 [(Value.bool (i0 == (47 : Int)))]) (
              .cut 4 (.cons .bool .nil) (
                .ite (i0 == (98 : Int)) (
                  .leaf 4 [(Value.bool (i0 == (98 : Int)))]) (
                  .cut 5 (.cons .bool .nil) (
                    .ite (i0 == (102 : Int)) (
                      .leaf 5 [(Value.bool (i0 == (102 : Int)))]) (
                      .cut 6 (.cons .bool .nil) (
                        .ite (i0 == (110 : Int)) (
                          .leaf 6 [(Value.bool (i0 == (110 : Int)))]) (
                          .cut 7 (.cons .bool .nil) (
                            .ite (i0 == (114 : Int)) (
                              .leaf 7 [(Value.bool (i0 == (114 : Int)))]) (
                              .leaf 7 [(Value.bool (i0 == (116 : Int)))]))
                            (fun z => spec_reader_escape.t1 z.1)))
                        (fun z => spec_reader_escape.t2 z.1)))
                    (fun z => spec_reader_escape.t3 z.1)))
                (fun z => spec_reader_escape.t4 z.1)))
            (fun z => spec_reader_escape.t5 z.1)))
        (fun z => spec_reader_escape.t6 z.1)))
    (fun z => spec_reader_escape.t7 r i0 z.1)
def spec_reader_escape.h : Hints := ⟨[(8, [(8, .bool)])], [], [], [(15, [(3, (.int .i64))])]⟩
noncomputable def spec_reader_escape.c : Code := (Try.f29.body).getD .skip
theorem spec_reader_escape.e (r : (Option Addr)) : fnT Try.prog spec_reader_escape.h Try.f29 spec_reader_escape.c [.v (Value.pointer r)] = spec_reader_escape.t r := by kernel_rfl
theorem spec_reader_escape.calls (r : (Option Addr)) {w : World} {R : Ending → World → Prop} (hs : sat Try.prog (spec_reader_escape.t r) (fun l vs w' => l = 0 ∧ R (.returned (retVal vs)) w') w) : Calls Try.prog 29 #[(Value.pointer r)] w R :=
  have h := calls_of_tree (w := w) (R := R) (args := [.v (Value.pointer r)]) (c := spec_reader_escape.c) Try.func29 (show Try.f29.body = some spec_reader_escape.c by kernel_rfl) (of_decide_eq_true (by kernel_rfl)) (spec_reader_escape.e r) hs
  h

/-! ### (*pub-tetrapla/spec.reader).digits : function 30 -/
def spec_reader_digits.t1 (r : (Option Addr)) (i1 : Int) (i3 : Int) : T :=
  .ite (decide ((48 : Int) ≤ i3)) (
    .ite (decide (i3 ≤ (57 : Int))) (
      .ptr r fun (z4 : Addr) =>
      .load (Addr.add z4 1) (.int .i64) fun (i5 : Int) =>
      .ptr r fun (z6 : Addr) =>
      .store (Addr.add z6 1) (Value.int IntKind.i64 (IntKind.wrap IntKind.i64 (i5 + (1 : Int)))) <|
      .call 22 #[(Value.pointer r)] (.int .u8) fun (i7 : Int) =>
      .leaf 1 [(Value.int IntKind.u8 i7)]) (
      .ptr r fun (z8 : Addr) =>
      .load (Addr.add z8 1) (.int .i64) fun (i9 : Int) =>
      .leaf 0 [(Value.bool (decide (i9 > i1)))])) (
    .ptr r fun (z10 : Addr) =>
    .load (Addr.add z10 1) (.int .i64) fun (i11 : Int) =>
    .leaf 0 [(Value.bool (decide (i11 > i1)))])
def spec_reader_digits.t (r : (Option Addr)) : T :=
  .ptr r fun (z0 : Addr) =>
  .load (Addr.add z0 1) (.int .i64) fun (i1 : Int) =>
  .call 22 #[(Value.pointer r)] (.int .u8) fun (i2 : Int) =>
  .loop 1 (.cons (.int .u8) .nil) [(Value.int IntKind.u8 i2)]
    (fun z => spec_reader_digits.t1 r i1 z.1)
def spec_reader_digits.h : Hints := ⟨[], [], [], [(3, [(4, (.int .u8))])]⟩
noncomputable def spec_reader_digits.c : Code := (Try.f30.body).getD .skip
theorem spec_reader_digits.e (r : (Option Addr)) : fnT Try.prog spec_reader_digits.h Try.f30 spec_reader_digits.c [.v (Value.pointer r)] = spec_reader_digits.t r := by kernel_rfl
theorem spec_reader_digits.calls (r : (Option Addr)) {w : World} {R : Ending → World → Prop} (hs : sat Try.prog (spec_reader_digits.t r) (fun l vs w' => l = 0 ∧ R (.returned (retVal vs)) w') w) : Calls Try.prog 30 #[(Value.pointer r)] w R :=
  have h := calls_of_tree (w := w) (R := R) (args := [.v (Value.pointer r)]) (c := spec_reader_digits.c) Try.func30 (show Try.f30.body = some spec_reader_digits.c by kernel_rfl) (of_decide_eq_true (by kernel_rfl)) (spec_reader_digits.e r) hs
  h

/-! ### pub-tetrapla/spec.hexDigit : function 31 -/
def spec_hexDigit.t2 (c0 : Int) (b1 : Bool) : T :=
  .ite b1 (
    .leaf 0 [(Value.int IntKind.i64 (IntKind.wrap IntKind.i64 ((IntKind.wrap IntKind.i64 (IntKind.wrap IntKind.u8 (c0 - (97 : Int)))) + (10 : Int)))), (Value.bool Bool.true)]) (
    .ite (decide ((65 : Int) ≤ c0)) (
      .ite (decide (c0 ≤ (70 : Int))) (
        .leaf 0 [(Value.int IntKind.i64 (IntKind.wrap IntKind.i64 ((IntKind.wrap IntKind.i64 (IntKind.wrap IntKind.u8 (c0 - (65 : Int)))) + (10 : Int)))), (Value.bool Bool.true)]) (
        .leaf 0 [(Value.int IntKind.i64 (0 : Int)), (Value.bool Bool.false)])) (
      .leaf 0 [(Value.int IntKind.i64 (0 : Int)), (Value.bool Bool.false)]))
def spec_hexDigit.t1 (c0 : Int) (b0 : Bool) : T :=
  .ite b0 (
    .leaf 0 [(Value.int IntKind.i64 (IntKind.wrap IntKind.i64 (IntKind.wrap IntKind.u8 (c0 - (48 : Int))))), (Value.bool Bool.true)]) (
    .cut 1 (.cons .bool .nil) (
      .ite (decide ((97 : Int) ≤ c0)) (
        .leaf 1 [(Value.bool (decide (c0 ≤ (102 : Int))))]) (
        .leaf 1 [(Value.bool Bool.false)]))
      (fun z => spec_hexDigit.t2 c0 z.1))
def spec_hexDigit.t (c0 : Int) : T :=
  .cut 1 (.cons .bool .nil) (
    .ite (decide ((48 : Int) ≤ c0)) (
      .leaf 1 [(Value.bool (decide (c0 ≤ (57 : Int))))]) (
      .leaf 1 [(Value.bool Bool.false)]))
    (fun z => spec_hexDigit.t1 c0 z.1)
def spec_hexDigit.h : Hints := ⟨[], [], [(1, [(4, .bool)]), (3, [(14, .bool)])], []⟩
noncomputable def spec_hexDigit.c : Code := (Try.f31.body).getD .skip
theorem spec_hexDigit.e (c0 : Int) : fnT Try.prog spec_hexDigit.h Try.f31 spec_hexDigit.c [.v (Value.int IntKind.u8 c0)] = spec_hexDigit.t c0 := by kernel_rfl
theorem spec_hexDigit.calls (c0 : Int) {w : World} {R : Ending → World → Prop} (hs : sat Try.prog (spec_hexDigit.t c0) (fun l vs w' => l = 0 ∧ R (.returned (retVal vs)) w') w) : Calls Try.prog 31 #[(Value.int IntKind.u8 c0)] w R :=
  have h := calls_of_tree (w := w) (R := R) (args := [.v (Value.int IntKind.u8 c0)]) (c := spec_hexDigit.c) Try.func31 (show Try.f31.body = some spec_hexDigit.c by kernel_rfl) (of_decide_eq_true (by kernel_rfl)) (spec_hexDigit.e c0) hs
  h

end Go.Proofs.Ytiganlecnpphmaa.Tr
