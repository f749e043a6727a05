/- Trees of loaded functions, printed by wip/tools/rxprint (a program of this repo): each is what 'exec' comes to, held by the kernel. No statement of the set is proved here. -/
import Derived.Test.YtkpnomdmnhhaoaaGreatDoorRz
import Derived.Test.YtkpnomdmnhhaoaaGreatDoorProg
import Derived.KernelRfl
namespace Go.Proofs.YtkpnomdmnhhaoaaGreatDoor.Tr
open Go Go.Proofs Go.Proofs.YtkpnomdmnhhaoaaGreatDoor.Rx
set_option linter.unusedVariables false
set_option maxRecDepth 100000
/-! ### pub-tetrapla/impl.fjObject$1 : function 52 -/
def impl_fjObject_1.t (key : (Option Addr)) (key_len : Nat) (key_cap : Nat) (v : (Option Addr)) (fv0 : (Option Addr)) : T :=
  .ptr fv0 fun (z0 : Addr) =>
  .load (Addr.add z0 2) .slice fun (z1 : ((Option Addr) × (Nat × Nat))) =>
  .eff (convert 43 9 (Value.slice key key_len key_cap)) .str fun (s2 : ByteArray) =>
  .eff (Instr.buildSlice 23 1 #[(0, (Value.string s2))]) .slice fun (z3 : ((Option Addr) × (Nat × Nat))) =>
  .eff (Builtin.append_ (Call.argTypes (Call.mk (Callee.builtin Builtin.append) #[(Operand.tmp 6), (Operand.tmp 9)] #[23, 23])) 23 #[(Value.slice (z1).1 ((z1).2).1 ((z1).2).2), (Value.slice (z3).1 ((z3).2).1 ((z3).2).2)]) .slice fun (z4 : ((Option Addr) × (Nat × Nat))) =>
  .ptr fv0 fun (z5 : Addr) =>
  .store (Addr.add z5 2) (Value.slice (z4).1 ((z4).2).1 ((z4).2).2) <|
  .drew <|
  .ptr fv0 fun (z6 : Addr) =>
  .both (
    .load (Addr.add z6 3) .slice fun (z7 : ((Option Addr) × (Nat × Nat))) =>
    .both (
      .call 17 #[(Value.pointer v)] (.agg (.cons (.int .i64) (.cons .str (.cons .slice (.cons .slice .nil))))) fun (z8 : (Int × (ByteArray × (((Option Addr) × (Nat × Nat)) × (((Option Addr) × (Nat × Nat)) × PUnit))))) =>
      .eff (Instr.buildSlice 24 1 #[(0, (Value.agg #[(Value.int IntKind.i64 (0 : Int)), (Value.string (ByteArray.mk #[])), (Value.slice none 0 0), (Value.slice none 0 0)]))]) .slice fun (z9 : ((Option Addr) × (Nat × Nat))) =>
      .eff (Builtin.append_ (Call.argTypes (Call.mk (Callee.builtin Builtin.append) #[(Operand.tmp 13), (Operand.tmp 17)] #[24, 24])) 24 #[(Value.slice (z7).1 ((z7).2).1 ((z7).2).2), (Value.slice (z9).1 ((z9).2).1 ((z9).2).2)]) .slice fun (z10 : ((Option Addr) × (Nat × Nat))) =>
      .ptr fv0 fun (z11 : Addr) =>
      .both (
        .chk (((0 : Int) ≤ ((((z7).2).1 : Nat) : Int)) ∧ (((((z7).2).1 : Nat) : Int) < ((((z10).2).1 : Nat) : Int))) <|
        .ptr (z10).1 fun (z12 : Addr) =>
        .both (
          .effU (Instr.storeAt 26 (Value.pointer (some (Addr.add z12 ((Int.toNat ((((z7).2).1 : Nat) : Int)) * 4)))) (Value.agg #[(Value.int IntKind.i64 (z8).1), (Value.string ((z8).2).1), (Value.slice ((((z8).2).2).1).1 (((((z8).2).2).1).2).1 (((((z8).2).2).1).2).2), (Value.slice (((((z8).2).2).2).1).1 ((((((z8).2).2).2).1).2).1 ((((((z8).2).2).2).1).2).2)])) <|
          .store (Addr.add z11 3) (Value.slice (z10).1 ((z10).2).1 ((z10).2).2) <|
          .leaf 0 []) (
          .store (Addr.add z11 3) (Value.slice (z10).1 ((z10).2).1 ((z10).2).2) <|
          .effU (Instr.storeAt 26 (Value.pointer (some (Addr.add z12 ((Int.toNat ((((z7).2).1 : Nat) : Int)) * 4)))) (Value.agg #[(Value.int IntKind.i64 (z8).1), (Value.string ((z8).2).1), (Value.slice ((((z8).2).2).1).1 (((((z8).2).2).1).2).1 (((((z8).2).2).1).2).2), (Value.slice (((((z8).2).2).2).1).1 ((((((z8).2).2).2).1).2).1 ((((((z8).2).2).2).1).2).2)])) <|
          .leaf 0 [])) (
        .store (Addr.add z11 3) (Value.slice (z10).1 ((z10).2).1 ((z10).2).2) <|
        .chk (((0 : Int) ≤ ((((z7).2).1 : Nat) : Int)) ∧ (((((z7).2).1 : Nat) : Int) < ((((z10).2).1 : Nat) : Int))) <|
        .ptr (z10).1 fun (z13 : Addr) =>
        .effU (Instr.storeAt 26 (Value.pointer (some (Addr.add z13 ((Int.toNat ((((z7).2).1 : Nat) : Int)) * 4)))) (Value.agg #[(Value.int IntKind.i64 (z8).1), (Value.string ((z8).2).1), (Value.slice ((((z8).2).2).1).1 (((((z8).2).2).1).2).1 (((((z8).2).2).1).2).2), (Value.slice (((((z8).2).2).2).1).1 ((((((z8).2).2).2).1).2).1 ((((((z8).2).2).2).1).2).2)])) <|
        .leaf 0 [])) (
      .eff (Instr.buildSlice 24 1 #[(0, (Value.agg #[(Value.int IntKind.i64 (0 : Int)), (Value.string (ByteArray.mk #[])), (Value.slice none 0 0), (Value.slice none 0 0)]))]) .slice fun (z14 : ((Option Addr) × (Nat × Nat))) =>
      .call 17 #[(Value.pointer v)] (.agg (.cons (.int .i64) (.cons .str (.cons .slice (.cons .slice .nil))))) fun (z15 : (Int × (ByteArray × (((Option Addr) × (Nat × Nat)) × (((Option Addr) × (Nat × Nat)) × PUnit))))) =>
      .eff (Builtin.append_ (Call.argTypes (Call.mk (Callee.builtin Builtin.append) #[(Operand.tmp 13), (Operand.tmp 17)] #[24, 24])) 24 #[(Value.slice (z7).1 ((z7).2).1 ((z7).2).2), (Value.slice (z14).1 ((z14).2).1 ((z14).2).2)]) .slice fun (z16 : ((Option Addr) × (Nat × Nat))) =>
      .ptr fv0 fun (z17 : Addr) =>
      .both (
        .chk (((0 : Int) ≤ ((((z7).2).1 : Nat) : Int)) ∧ (((((z7).2).1 : Nat) : Int) < ((((z16).2).1 : Nat) : Int))) <|
        .ptr (z16).1 fun (z18 : Addr) =>
        .both (
          .effU (Instr.storeAt 26 (Value.pointer (some (Addr.add z18 ((Int.toNat ((((z7).2).1 : Nat) : Int)) * 4)))) (Value.agg #[(Value.int IntKind.i64 (z15).1), (Value.string ((z15).2).1), (Value.slice ((((z15).2).2).1).1 (((((z15).2).2).1).2).1 (((((z15).2).2).1).2).2), (Value.slice (((((z15).2).2).2).1).1 ((((((z15).2).2).2).1).2).1 ((((((z15).2).2).2).1).2).2)])) <|
          .store (Addr.add z17 3) (Value.slice (z16).1 ((z16).2).1 ((z16).2).2) <|
          .leaf 0 []) (
          .store (Addr.add z17 3) (Value.slice (z16).1 ((z16).2).1 ((z16).2).2) <|
          .effU (Instr.storeAt 26 (Value.pointer (some (Addr.add z18 ((Int.toNat ((((z7).2).1 : Nat) : Int)) * 4)))) (Value.agg #[(Value.int IntKind.i64 (z15).1), (Value.string ((z15).2).1), (Value.slice ((((z15).2).2).1).1 (((((z15).2).2).1).2).1 (((((z15).2).2).1).2).2), (Value.slice (((((z15).2).2).2).1).1 ((((((z15).2).2).2).1).2).1 ((((((z15).2).2).2).1).2).2)])) <|
          .leaf 0 [])) (
        .store (Addr.add z17 3) (Value.slice (z16).1 ((z16).2).1 ((z16).2).2) <|
        .chk (((0 : Int) ≤ ((((z7).2).1 : Nat) : Int)) ∧ (((((z7).2).1 : Nat) : Int) < ((((z16).2).1 : Nat) : Int))) <|
        .ptr (z16).1 fun (z19 : Addr) =>
        .effU (Instr.storeAt 26 (Value.pointer (some (Addr.add z19 ((Int.toNat ((((z7).2).1 : Nat) : Int)) * 4)))) (Value.agg #[(Value.int IntKind.i64 (z15).1), (Value.string ((z15).2).1), (Value.slice ((((z15).2).2).1).1 (((((z15).2).2).1).2).1 (((((z15).2).2).1).2).2), (Value.slice (((((z15).2).2).2).1).1 ((((((z15).2).2).2).1).2).1 ((((((z15).2).2).2).1).2).2)])) <|
        .leaf 0 []))) (
    .both (
      .call 17 #[(Value.pointer v)] (.agg (.cons (.int .i64) (.cons .str (.cons .slice (.cons .slice .nil))))) fun (z20 : (Int × (ByteArray × (((Option Addr) × (Nat × Nat)) × (((Option Addr) × (Nat × Nat)) × PUnit))))) =>
      .both (
        .load (Addr.add z6 3) .slice fun (z21 : ((Option Addr) × (Nat × Nat))) =>
        .eff (Instr.buildSlice 24 1 #[(0, (Value.agg #[(Value.int IntKind.i64 (0 : Int)), (Value.string (ByteArray.mk #[])), (Value.slice none 0 0), (Value.slice none 0 0)]))]) .slice fun (z22 : ((Option Addr) × (Nat × Nat))) =>
        .eff (Builtin.append_ (Call.argTypes (Call.mk (Callee.builtin Builtin.append) #[(Operand.tmp 13), (Operand.tmp 17)] #[24, 24])) 24 #[(Value.slice (z21).1 ((z21).2).1 ((z21).2).2), (Value.slice (z22).1 ((z22).2).1 ((z22).2).2)]) .slice fun (z23 : ((Option Addr) × (Nat × Nat))) =>
        .ptr fv0 fun (z24 : Addr) =>
        .both (
          .chk (((0 : Int) ≤ ((((z21).2).1 : Nat) : Int)) ∧ (((((z21).2).1 : Nat) : Int) < ((((z23).2).1 : Nat) : Int))) <|
          .ptr (z23).1 fun (z25 : Addr) =>
          .both (
            .effU (Instr.storeAt 26 (Value.pointer (some (Addr.add z25 ((Int.toNat ((((z21).2).1 : Nat) : Int)) * 4)))) (Value.agg #[(Value.int IntKind.i64 (z20).1), (Value.string ((z20).2).1), (Value.slice ((((z20).2).2).1).1 (((((z20).2).2).1).2).1 (((((z20).2).2).1).2).2), (Value.slice (((((z20).2).2).2).1).1 ((((((z20).2).2).2).1).2).1 ((((((z20).2).2).2).1).2).2)])) <|
            .store (Addr.add z24 3) (Value.slice (z23).1 ((z23).2).1 ((z23).2).2) <|
            .leaf 0 []) (
            .store (Addr.add z24 3) (Value.slice (z23).1 ((z23).2).1 ((z23).2).2) <|
            .effU (Instr.storeAt 26 (Value.pointer (some (Addr.add z25 ((Int.toNat ((((z21).2).1 : Nat) : Int)) * 4)))) (Value.agg #[(Value.int IntKind.i64 (z20).1), (Value.string ((z20).2).1), (Value.slice ((((z20).2).2).1).1 (((((z20).2).2).1).2).1 (((((z20).2).2).1).2).2), (Value.slice (((((z20).2).2).2).1).1 ((((((z20).2).2).2).1).2).1 ((((((z20).2).2).2).1).2).2)])) <|
            .leaf 0 [])) (
          .store (Addr.add z24 3) (Value.slice (z23).1 ((z23).2).1 ((z23).2).2) <|
          .chk (((0 : Int) ≤ ((((z21).2).1 : Nat) : Int)) ∧ (((((z21).2).1 : Nat) : Int) < ((((z23).2).1 : Nat) : Int))) <|
          .ptr (z23).1 fun (z26 : Addr) =>
          .effU (Instr.storeAt 26 (Value.pointer (some (Addr.add z26 ((Int.toNat ((((z21).2).1 : Nat) : Int)) * 4)))) (Value.agg #[(Value.int IntKind.i64 (z20).1), (Value.string ((z20).2).1), (Value.slice ((((z20).2).2).1).1 (((((z20).2).2).1).2).1 (((((z20).2).2).1).2).2), (Value.slice (((((z20).2).2).2).1).1 ((((((z20).2).2).2).1).2).1 ((((((z20).2).2).2).1).2).2)])) <|
          .leaf 0 [])) (
        .eff (Instr.buildSlice 24 1 #[(0, (Value.agg #[(Value.int IntKind.i64 (0 : Int)), (Value.string (ByteArray.mk #[])), (Value.slice none 0 0), (Value.slice none 0 0)]))]) .slice fun (z27 : ((Option Addr) × (Nat × Nat))) =>
        .load (Addr.add z6 3) .slice fun (z28 : ((Option Addr) × (Nat × Nat))) =>
        .eff (Builtin.append_ (Call.argTypes (Call.mk (Callee.builtin Builtin.append) #[(Operand.tmp 13), (Operand.tmp 17)] #[24, 24])) 24 #[(Value.slice (z28).1 ((z28).2).1 ((z28).2).2), (Value.slice (z27).1 ((z27).2).1 ((z27).2).2)]) .slice fun (z29 : ((Option Addr) × (Nat × Nat))) =>
        .ptr fv0 fun (z30 : Addr) =>
        .both (
          .chk (((0 : Int) ≤ ((((z28).2).1 : Nat) : Int)) ∧ (((((z28).2).1 : Nat) : Int) < ((((z29).2).1 : Nat) : Int))) <|
          .ptr (z29).1 fun (z31 : Addr) =>
          .both (
            .effU (Instr.storeAt 26 (Value.pointer (some (Addr.add z31 ((Int.toNat ((((z28).2).1 : Nat) : Int)) * 4)))) (Value.agg #[(Value.int IntKind.i64 (z20).1), (Value.string ((z20).2).1), (Value.slice ((((z20).2).2).1).1 (((((z20).2).2).1).2).1 (((((z20).2).2).1).2).2), (Value.slice (((((z20).2).2).2).1).1 ((((((z20).2).2).2).1).2).1 ((((((z20).2).2).2).1).2).2)])) <|
            .store (Addr.add z30 3) (Value.slice (z29).1 ((z29).2).1 ((z29).2).2) <|
            .leaf 0 []) (
            .store (Addr.add z30 3) (Value.slice (z29).1 ((z29).2).1 ((z29).2).2) <|
            .effU (Instr.storeAt 26 (Value.pointer (some (Addr.add z31 ((Int.toNat ((((z28).2).1 : Nat) : Int)) * 4)))) (Value.agg #[(Value.int IntKind.i64 (z20).1), (Value.string ((z20).2).1), (Value.slice ((((z20).2).2).1).1 (((((z20).2).2).1).2).1 (((((z20).2).2).1).2).2), (Value.slice (((((z20).2).2).2).1).1 ((((((z20).2).2).2).1).2).1 ((((((z20).2).2).2).1).2).2)])) <|
            .leaf 0 [])) (
          .store (Addr.add z30 3) (Value.slice (z29).1 ((z29).2).1 ((z29).2).2) <|
          .chk (((0 : Int) ≤ ((((z28).2).1 : Nat) : Int)) ∧ (((((z28).2).1 : Nat) : Int) < ((((z29).2).1 : Nat) : Int))) <|
          .ptr (z29).1 fun (z32 : Addr) =>
          .effU (Instr.storeAt 26 (Value.pointer (some (Addr.add z32 ((Int.toNat ((((z28).2).1 : Nat) : Int)) * 4)))) (Value.agg #[(Value.int IntKind.i64 (z20).1), (Value.string ((z20).2).1), (Value.slice ((((z20).2).2).1).1 (((((z20).2).2).1).2).1 (((((z20).2).2).1).2).2), (Value.slice (((((z20).2).2).2).1).1 ((((((z20).2).2).2).1).2).1 ((((((z20).2).2).2).1).2).2)])) <|
          .leaf 0 []))) (
      .eff (Instr.buildSlice 24 1 #[(0, (Value.agg #[(Value.int IntKind.i64 (0 : Int)), (Value.string (ByteArray.mk #[])), (Value.slice none 0 0), (Value.slice none 0 0)]))]) .slice fun (z33 : ((Option Addr) × (Nat × Nat))) =>
      .both (
        .load (Addr.add z6 3) .slice fun (z34 : ((Option Addr) × (Nat × Nat))) =>
        .call 17 #[(Value.pointer v)] (.agg (.cons (.int .i64) (.cons .str (.cons .slice (.cons .slice .nil))))) fun (z35 : (Int × (ByteArray × (((Option Addr) × (Nat × Nat)) × (((Option Addr) × (Nat × Nat)) × PUnit))))) =>
        .eff (Builtin.append_ (Call.argTypes (Call.mk (Callee.builtin Builtin.append) #[(Operand.tmp 13), (Operand.tmp 17)] #[24, 24])) 24 #[(Value.slice (z34).1 ((z34).2).1 ((z34).2).2), (Value.slice (z33).1 ((z33).2).1 ((z33).2).2)]) .slice fun (z36 : ((Option Addr) × (Nat × Nat))) =>
        .ptr fv0 fun (z37 : Addr) =>
        .both (
          .chk (((0 : Int) ≤ ((((z34).2).1 : Nat) : Int)) ∧ (((((z34).2).1 : Nat) : Int) < ((((z36).2).1 : Nat) : Int))) <|
          .ptr (z36).1 fun (z38 : Addr) =>
          .both (
            .effU (Instr.storeAt 26 (Value.pointer (some (Addr.add z38 ((Int.toNat ((((z34).2).1 : Nat) : Int)) * 4)))) (Value.agg #[(Value.int IntKind.i64 (z35).1), (Value.string ((z35).2).1), (Value.slice ((((z35).2).2).1).1 (((((z35).2).2).1).2).1 (((((z35).2).2).1).2).2), (Value.slice (((((z35).2).2).2).1).1 ((((((z35).2).2).2).1).2).1 ((((((z35).2).2).2).1).2).2)])) <|
            .store (Addr.add z37 3) (Value.slice (z36).1 ((z36).2).1 ((z36).2).2) <|
            .leaf 0 []) (
            .store (Addr.add z37 3) (Value.slice (z36).1 ((z36).2).1 ((z36).2).2) <|
            .effU (Instr.storeAt 26 (Value.pointer (some (Addr.add z38 ((Int.toNat ((((z34).2).1 : Nat) : Int)) * 4)))) (Value.agg #[(Value.int IntKind.i64 (z35).1), (Value.string ((z35).2).1), (Value.slice ((((z35).2).2).1).1 (((((z35).2).2).1).2).1 (((((z35).2).2).1).2).2), (Value.slice (((((z35).2).2).2).1).1 ((((((z35).2).2).2).1).2).1 ((((((z35).2).2).2).1).2).2)])) <|
            .leaf 0 [])) (
          .store (Addr.add z37 3) (Value.slice (z36).1 ((z36).2).1 ((z36).2).2) <|
          .chk (((0 : Int) ≤ ((((z34).2).1 : Nat) : Int)) ∧ (((((z34).2).1 : Nat) : Int) < ((((z36).2).1 : Nat) : Int))) <|
          .ptr (z36).1 fun (z39 : Addr) =>
          .effU (Instr.storeAt 26 (Value.pointer (some (Addr.add z39 ((Int.toNat ((((z34).2).1 : Nat) : Int)) * 4)))) (Value.agg #[(Value.int IntKind.i64 (z35).1), (Value.string ((z35).2).1), (Value.slice ((((z35).2).2).1).1 (((((z35).2).2).1).2).1 (((((z35).2).2).1).2).2), (Value.slice (((((z35).2).2).2).1).1 ((((((z35).2).2).2).1).2).1 ((((((z35).2).2).2).1).2).2)])) <|
          .leaf 0 [])) (
        .call 17 #[(Value.pointer v)] (.agg (.cons (.int .i64) (.cons .str (.cons .slice (.cons .slice .nil))))) fun (z40 : (Int × (ByteArray × (((Option Addr) × (Nat × Nat)) × (((Option Addr) × (Nat × Nat)) × PUnit))))) =>
        .load (Addr.add z6 3) .slice fun (z41 : ((Option Addr) × (Nat × Nat))) =>
        .eff (Builtin.append_ (Call.argTypes (Call.mk (Callee.builtin Builtin.append) #[(Operand.tmp 13), (Operand.tmp 17)] #[24, 24])) 24 #[(Value.slice (z41).1 ((z41).2).1 ((z41).2).2), (Value.slice (z33).1 ((z33).2).1 ((z33).2).2)]) .slice fun (z42 : ((Option Addr) × (Nat × Nat))) =>
        .ptr fv0 fun (z43 : Addr) =>
        .both (
          .chk (((0 : Int) ≤ ((((z41).2).1 : Nat) : Int)) ∧ (((((z41).2).1 : Nat) : Int) < ((((z42).2).1 : Nat) : Int))) <|
          .ptr (z42).1 fun (z44 : Addr) =>
          .both (
            .effU (Instr.storeAt 26 (Value.pointer (some (Addr.add z44 ((Int.toNat ((((z41).2).1 : Nat) : Int)) * 4)))) (Value.agg #[(Value.int IntKind.i64 (z40).1), (Value.string ((z40).2).1), (Value.slice ((((z40).2).2).1).1 (((((z40).2).2).1).2).1 (((((z40).2).2).1).2).2), (Value.slice (((((z40).2).2).2).1).1 ((((((z40).2).2).2).1).2).1 ((((((z40).2).2).2).1).2).2)])) <|
            .store (Addr.add z43 3) (Value.slice (z42).1 ((z42).2).1 ((z42).2).2) <|
            .leaf 0 []) (
            .store (Addr.add z43 3) (Value.slice (z42).1 ((z42).2).1 ((z42).2).2) <|
            .effU (Instr.storeAt 26 (Value.pointer (some (Addr.add z44 ((Int.toNat ((((z41).2).1 : Nat) : Int)) * 4)))) (Value.agg #[(Value.int IntKind.i64 (z40).1), (Value.string ((z40).2).1), (Value.slice ((((z40).2).2).1).1 (((((z40).2).2).1).2).1 (((((z40).2).2).1).2).2), (Value.slice (((((z40).2).2).2).1).1 ((((((z40).2).2).2).1).2).1 ((((((z40).2).2).2).1).2).2)])) <|
            .leaf 0 [])) (
          .store (Addr.add z43 3) (Value.slice (z42).1 ((z42).2).1 ((z42).2).2) <|
          .chk (((0 : Int) ≤ ((((z41).2).1 : Nat) : Int)) ∧ (((((z41).2).1 : Nat) : Int) < ((((z42).2).1 : Nat) : Int))) <|
          .ptr (z42).1 fun (z45 : Addr) =>
          .effU (Instr.storeAt 26 (Value.pointer (some (Addr.add z45 ((Int.toNat ((((z41).2).1 : Nat) : Int)) * 4)))) (Value.agg #[(Value.int IntKind.i64 (z40).1), (Value.string ((z40).2).1), (Value.slice ((((z40).2).2).1).1 (((((z40).2).2).1).2).1 (((((z40).2).2).1).2).2), (Value.slice (((((z40).2).2).2).1).1 ((((((z40).2).2).2).1).2).1 ((((((z40).2).2).2).1).2).2)])) <|
          .leaf 0 []))))
def impl_fjObject_1.h : Hints := ⟨[], [(100001, [])], [], []⟩
noncomputable def impl_fjObject_1.c : Code := (Tryz.f52.body).getD .skip
theorem impl_fjObject_1.e (key : (Option Addr)) (key_len : Nat) (key_cap : Nat) (v : (Option Addr)) (fv0 : (Option Addr)) : fnT Tryz.prog impl_fjObject_1.h Tryz.f52 impl_fjObject_1.c [.v (Value.slice key key_len key_cap), .v (Value.pointer v), .v (Value.pointer fv0)] = impl_fjObject_1.t key key_len key_cap v fv0 := by kernel_rfl
theorem impl_fjObject_1.calls (key : (Option Addr)) (key_len : Nat) (key_cap : Nat) (v : (Option Addr)) (fv0 : (Option Addr)) {w : World} {R : Ending → World → Prop} (hs : sat Tryz.prog (impl_fjObject_1.t key key_len key_cap v fv0) (fun l vs w' => l = 0 ∧ R (.returned (retVal vs)) w') w) : Calls Tryz.prog 52 #[(Value.slice key key_len key_cap), (Value.pointer v), (Value.pointer fv0)] w R :=
  have h := calls_of_tree (w := w) (R := R) (args := [.v (Value.slice key key_len key_cap), .v (Value.pointer v), .v (Value.pointer fv0)]) (c := impl_fjObject_1.c) Tryz.func52 (show Tryz.f52.body = some impl_fjObject_1.c by kernel_rfl) (of_decide_eq_true (by kernel_rfl)) (impl_fjObject_1.e key key_len key_cap v fv0) hs
  h

end Go.Proofs.YtkpnomdmnhhaoaaGreatDoor.Tr
