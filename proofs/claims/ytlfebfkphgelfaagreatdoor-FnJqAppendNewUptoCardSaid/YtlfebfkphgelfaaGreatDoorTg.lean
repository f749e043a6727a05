import Derived.Test.YtlfebfkphgelfaaGreatDoorRz
import Derived.Test.YtlfebfkphgelfaaGreatDoorProg
import Derived.KernelRfl
namespace Go.Proofs.YtlfebfkphgelfaaGreatDoor.Tr
open Go Go.Proofs Rx
set_option linter.unusedVariables false
set_option maxRecDepth 100000
def spec_Read.t (text:ByteArray):T:=
 .alloc (Obj.cells #[(.int .i64 0),(.string (ByteArray.mk #[])),(.slice none 0 0),(.slice none 0 0)] 34 (0,0)) fun (z0:Addr)=>
 .call 19 #[(.string text)] (.tuple (.cons (.agg (.cons (.int .i64) (.cons (.int .i64) (.cons (.int .i64) (.cons .slice (.cons .slice .nil)))))) (.cons .bool .nil))) fun (z1:((Int×(Int×(Int×((Option Addr×Nat×Nat)×((Option Addr×Nat×Nat)×PUnit)))))×(Bool×PUnit)))=>
 .alloc (Obj.cells #[(.int .i64 0),(.int .i64 0),(.int .i64 0),(.slice none 0 0),(.slice none 0 0)] 29 (0,0)) fun (z2:Addr)=>
 .effU (Instr.storeAt 29 (.pointer (some z2)) (.agg #[(.int .i64 z1.1.1),(.int .i64 z1.1.2.1),(.int .i64 z1.1.2.2.1),(.slice z1.1.2.2.2.1.1 z1.1.2.2.2.1.2.1 z1.1.2.2.2.1.2.2),(.slice z1.1.2.2.2.2.1.1 z1.1.2.2.2.2.1.2.1 z1.1.2.2.2.2.1.2.2)])) <|
 .ite (!z1.2.1) (
 .effU (Instr.storeAt 34 (.pointer (some z0)) (.agg #[(.int .i64 0),(.string (ByteArray.mk #[])),(.slice none 0 0),(.slice none 0 0)])) <|
 .effS (Instr.loadAt 34 (.pointer (some z0))) (.agg (.cons (.int .i64) (.cons .str (.cons .slice (.cons .slice .nil))))) fun (z3:(Int×(ByteArray×((Option Addr×Nat×Nat)×((Option Addr×Nat×Nat)×PUnit)))))=>
 .leaf 0 [(.agg #[(.int .i64 z3.1),(.string z3.2.1),(.slice z3.2.2.1.1 z3.2.2.1.2.1 z3.2.2.1.2.2),(.slice z3.2.2.2.1.1 z3.2.2.2.1.2.1 z3.2.2.2.1.2.2)]),(.bool false)]) (
 .eff (Instr.loadAt 29 (.pointer (some z2))) (.agg (.cons (.int .i64) (.cons (.int .i64) (.cons (.int .i64) (.cons .slice (.cons .slice .nil)))))) fun (z4:(Int×(Int×(Int×((Option Addr×Nat×Nat)×((Option Addr×Nat×Nat)×PUnit))))))=>
 .call 23 #[(.string text),(.agg #[(.int .i64 z4.1),(.int .i64 z4.2.1),(.int .i64 z4.2.2.1),(.slice z4.2.2.2.1.1 z4.2.2.2.1.2.1 z4.2.2.2.1.2.2),(.slice z4.2.2.2.2.1.1 z4.2.2.2.2.1.2.1 z4.2.2.2.2.1.2.2)])] (.agg (.cons (.int .i64) (.cons .str (.cons .slice (.cons .slice .nil))))) fun (z5:(Int×(ByteArray×((Option Addr×Nat×Nat)×((Option Addr×Nat×Nat)×PUnit)))))=>
 .effU (Instr.storeAt 34 (.pointer (some z0)) (.agg #[(.int .i64 z5.1),(.string z5.2.1),(.slice z5.2.2.1.1 z5.2.2.1.2.1 z5.2.2.1.2.2),(.slice z5.2.2.2.1.1 z5.2.2.2.1.2.1 z5.2.2.2.1.2.2)])) <|
 .effS (Instr.loadAt 34 (.pointer (some z0))) (.agg (.cons (.int .i64) (.cons .str (.cons .slice (.cons .slice .nil))))) fun (z6:(Int×(ByteArray×((Option Addr×Nat×Nat)×((Option Addr×Nat×Nat)×PUnit)))))=>
 .leaf 0 [(.agg #[(.int .i64 z6.1),(.string z6.2.1),(.slice z6.2.2.1.1 z6.2.2.1.2.1 z6.2.2.1.2.2),(.slice z6.2.2.2.1.1 z6.2.2.2.1.2.1 z6.2.2.2.1.2.2)]),(.bool true)])
def spec_Read.h:Hints:=⟨[],[],[],[]⟩
noncomputable def spec_Read.c:Code:=(Tryz.f10.body).getD .skip
theorem spec_Read.e (text:ByteArray):fnT Tryz.prog spec_Read.h Tryz.f10 spec_Read.c [.v (.string text)]=spec_Read.t text:=by kernel_rfl
theorem spec_Read.calls (text:ByteArray) {w:World} {R:Ending→World→Prop} (hs:sat Tryz.prog (spec_Read.t text) (fun l vs w'=>l=0∧R (.returned (retVal vs)) w') w):Calls Tryz.prog 10 #[(.string text)] w R:=
 have h:=calls_of_tree (w:=w) (R:=R) (args:=[.v (.string text)]) (c:=spec_Read.c) Tryz.func10 (show Tryz.f10.body=some spec_Read.c by kernel_rfl) (of_decide_eq_true (by kernel_rfl)) (spec_Read.e text) hs
 h
def spec_Tree.t1:T:=
 .leaf 2 []
def spec_Tree.t2:T:=
 .leaf 1 []
def spec_Tree.t5 (q0:ByteArray) (z0:Addr) (z1:Addr) (z3:Addr) (i24:Int):T:=
 .load (Addr.add z0 4) .slice fun (z25:(Option Addr×Nat×Nat))=>
 .ite (decide (i24<(z25.2.1:Int))) (
 .drew <|
 .load (Addr.add z3 3) .slice fun (z26:(Option Addr×Nat×Nat))=>
 .load (Addr.add z0 4) .slice fun (z27:(Option Addr×Nat×Nat))=>
 .chk ((0≤i24)∧(i24<(z27.2.1:Int))) <|
 .ptr z27.1 fun (z28:Addr)=>
 .effQ (Instr.loadAt 29 (.pointer (some (Addr.add z28 ((Int.toNat i24) * 5))))) (.agg (.cons (.int .i64) (.cons (.int .i64) (.cons (.int .i64) (.cons .slice (.cons .slice .nil)))))) fun (z29:(Int×(Int×(Int×((Option Addr×Nat×Nat)×((Option Addr×Nat×Nat)×PUnit))))))=>
 .here fun (z30:World)=>
 .call 23 #[(.string q0),(.agg #[(.int .i64 z29.1),(.int .i64 z29.2.1),(.int .i64 z29.2.2.1),(.slice z29.2.2.2.1.1 z29.2.2.2.1.2.1 z29.2.2.2.1.2.2),(.slice z29.2.2.2.2.1.1 z29.2.2.2.2.1.2.1 z29.2.2.2.2.1.2.2)])] (.agg (.cons (.int .i64) (.cons .str (.cons .slice (.cons .slice .nil))))) fun (z31:(Int×(ByteArray×((Option Addr×Nat×Nat)×((Option Addr×Nat×Nat)×PUnit)))))=>
 .grew z30 <|
 .here fun (z32:World)=>
 .eff (Instr.buildSlice 32 1 #[(0,(.agg #[(.int .i64 z31.1),(.string z31.2.1),(.slice z31.2.2.1.1 z31.2.2.1.2.1 z31.2.2.1.2.2),(.slice z31.2.2.2.1.1 z31.2.2.2.1.2.1 z31.2.2.2.1.2.2)]))]) .slice fun (z33:(Option Addr×Nat×Nat))=>
 .grew z32 <|
 .eff (Builtin.append_ (Call.argTypes (Call.mk (Callee.builtin Builtin.append) #[(Operand.tmp 67),(Operand.tmp 75)] #[32,32])) 32 #[(.slice z26.1 z26.2.1 z26.2.2),(.slice z33.1 z33.2.1 z33.2.2)]) .slice fun (z34:(Option Addr×Nat×Nat))=>
 .store (Addr.add z3 3) (.slice z34.1 z34.2.1 z34.2.2) <|
 .leaf 1 [(.int .i64 (IntKind.wrap .i64 (i24+1)))]) (
 .eff (Instr.loadAt 34 (.pointer (some z3))) (.agg (.cons (.int .i64) (.cons .str (.cons .slice (.cons .slice .nil))))) fun (z35:(Int×(ByteArray×((Option Addr×Nat×Nat)×((Option Addr×Nat×Nat)×PUnit)))))=>
 .effU (Instr.storeAt 34 (.pointer (some z1)) (.agg #[(.int .i64 z35.1),(.string z35.2.1),(.slice z35.2.2.1.1 z35.2.2.1.2.1 z35.2.2.1.2.2),(.slice z35.2.2.2.1.1 z35.2.2.2.1.2.1 z35.2.2.2.1.2.2)])) <|
 .effS (Instr.loadAt 34 (.pointer (some z1))) (.agg (.cons (.int .i64) (.cons .str (.cons .slice (.cons .slice .nil))))) fun (z36:(Int×(ByteArray×((Option Addr×Nat×Nat)×((Option Addr×Nat×Nat)×PUnit)))))=>
 .leaf 0 [(.agg #[(.int .i64 z36.1),(.string z36.2.1),(.slice z36.2.2.1.1 z36.2.2.1.2.1 z36.2.2.1.2.2),(.slice z36.2.2.2.1.1 z36.2.2.2.1.2.1 z36.2.2.2.1.2.2)])])
def spec_Tree.t4 (q0:ByteArray) (z0:Addr) (z1:Addr) (z3:Addr) (i10:Int):T:=
 .load (Addr.add z0 3) .slice fun (z11:(Option Addr×Nat×Nat))=>
 .ite (decide (i10<(z11.2.1:Int))) (
 .drew <|
 .load (Addr.add z3 2) .slice fun (z12:(Option Addr×Nat×Nat))=>
 .load (Addr.add z0 3) .slice fun (z13:(Option Addr×Nat×Nat))=>
 .chk ((0≤i10)∧(i10<(z13.2.1:Int))) <|
 .ptr z13.1 fun (z14:Addr)=>
 .load (Addr.add (Addr.add z14 ((Int.toNat i10) * 2)) 0) (.int .i64) fun (i15:Int)=>
 .load (Addr.add z0 3) .slice fun (z16:(Option Addr×Nat×Nat))=>
 .chk ((0≤i10)∧(i10<(z16.2.1:Int))) <|
 .ptr z16.1 fun (z17:Addr)=>
 .load (Addr.add (Addr.add z17 ((Int.toNat i10) * 2)) 1) (.int .i64) fun (i18:Int)=>
 .chk ((0≤i15)∧((i15≤i18)∧(i18≤((ByteArray.size q0):Int)))) <|
 .here fun (z19:World)=>
 .call 42 #[(.string (ByteArray.extract q0 (Int.toNat i15) (Int.toNat i18)))] .str fun (s20:ByteArray)=>
 .grew z19 <|
 .here fun (z21:World)=>
 .eff (Instr.buildSlice 22 1 #[(0,(.string s20))]) .slice fun (z22:(Option Addr×Nat×Nat))=>
 .grew z21 <|
 .eff (Builtin.append_ (Call.argTypes (Call.mk (Callee.builtin Builtin.append) #[(Operand.tmp 40),(Operand.tmp 56)] #[22,22])) 22 #[(.slice z12.1 z12.2.1 z12.2.2),(.slice z22.1 z22.2.1 z22.2.2)]) .slice fun (z23:(Option Addr×Nat×Nat))=>
 .store (Addr.add z3 2) (.slice z23.1 z23.2.1 z23.2.2) <|
 .leaf 1 [(.int .i64 (IntKind.wrap .i64 (i10+1)))]) (
 .loop 1 (.cons (.int .i64) .nil) [(.int .i64 0)]
 (fun z=>spec_Tree.t5 q0 z0 z1 z3 z.1))
def spec_Tree.t3 (q0:ByteArray) (z0:Addr) (z1:Addr) (z3:Addr):T:=
 .loop 1 (.cons (.int .i64) .nil) [(.int .i64 0)]
 (fun z=>spec_Tree.t4 q0 z0 z1 z3 z.1)
def spec_Tree.t (q0:ByteArray) (q1_0:Int) (q1_1:Int) (q1_2:Int) (q1_3:(Option Addr)) (q1_3_len:Nat) (q1_3_cap:Nat) (q1_4:(Option Addr)) (q1_4_len:Nat) (q1_4_cap:Nat):T:=
 .alloc (Obj.cells #[(.int .i64 q1_0),(.int .i64 q1_1),(.int .i64 q1_2),(.slice q1_3 q1_3_len q1_3_cap),(.slice q1_4 q1_4_len q1_4_cap)] 29 (0,0)) fun (z0:Addr)=>
 .alloc (Obj.cells #[(.int .i64 0),(.string (ByteArray.mk #[])),(.slice none 0 0),(.slice none 0 0)] 34 (0,0)) fun (z1:Addr)=>
 .load (Addr.add z0 0) (.int .i64) fun (i2:Int)=>
 .alloc (Obj.cells #[(.int .i64 0),(.string (ByteArray.mk #[])),(.slice none 0 0),(.slice none 0 0)] 34 (0,0)) fun (z3:Addr)=>
 .effU (Instr.storeAt 34 (.pointer (some z3)) (.agg #[(.int .i64 i2),(.string (ByteArray.mk #[])),(.slice none 0 0),(.slice none 0 0)])) <|
 .load (Addr.add z0 0) (.int .i64) fun (i4:Int)=>
 .cut 1 .nil (
 .cut 2 .nil (
 .ite (i4==3) (
 .load (Addr.add z0 1) (.int .i64) fun (i5:Int)=>
 .load (Addr.add z0 2) (.int .i64) fun (i6:Int)=>
 .chk ((0≤i5)∧((i5≤i6)∧(i6≤((ByteArray.size q0):Int)))) <|
 .store (Addr.add z3 1) (.string (ByteArray.extract q0 (Int.toNat i5) (Int.toNat i6))) <|
 .leaf 2 []) (
 .cut 3 .nil (
 .ite (i4==4) (
 .load (Addr.add z0 1) (.int .i64) fun (i7:Int)=>
 .load (Addr.add z0 2) (.int .i64) fun (i8:Int)=>
 .chk ((0≤i7)∧((i7≤i8)∧(i8≤((ByteArray.size q0):Int)))) <|
 .call 42 #[(.string (ByteArray.extract q0 (Int.toNat i7) (Int.toNat i8)))] .str fun (s9:ByteArray)=>
 .store (Addr.add z3 1) (.string s9) <|
 .leaf 3 []) (
 .leaf 3 []))
 (fun _=>spec_Tree.t1)))
 (fun _=>spec_Tree.t2))
 (fun _=>spec_Tree.t3 q0 z0 z1 z3)
def spec_Tree.h:Hints:=⟨[(13,[]),(22,[])],[(0,[])],[],[(8,[(6,(.int .i64))]),(12,[(7,(.int .i64))])]⟩
noncomputable def spec_Tree.c:Code:=(Tryz.f23.body).getD .skip
theorem spec_Tree.e (q0:ByteArray) (q1_0:Int) (q1_1:Int) (q1_2:Int) (q1_3:(Option Addr)) (q1_3_len:Nat) (q1_3_cap:Nat) (q1_4:(Option Addr)) (q1_4_len:Nat) (q1_4_cap:Nat):fnT Tryz.prog spec_Tree.h Tryz.f23 spec_Tree.c [.v (.string q0),.v (.agg #[(.int .i64 q1_0),(.int .i64 q1_1),(.int .i64 q1_2),(.slice q1_3 q1_3_len q1_3_cap),(.slice q1_4 q1_4_len q1_4_cap)])]=spec_Tree.t q0 q1_0 q1_1 q1_2 q1_3 q1_3_len q1_3_cap q1_4 q1_4_len q1_4_cap:=by kernel_rfl
theorem spec_Tree.calls (q0:ByteArray) (q1_0:Int) (q1_1:Int) (q1_2:Int) (q1_3:(Option Addr)) (q1_3_len:Nat) (q1_3_cap:Nat) (q1_4:(Option Addr)) (q1_4_len:Nat) (q1_4_cap:Nat) {w:World} {R:Ending→World→Prop} (hs:sat Tryz.prog (spec_Tree.t q0 q1_0 q1_1 q1_2 q1_3 q1_3_len q1_3_cap q1_4 q1_4_len q1_4_cap) (fun l vs w'=>l=0∧R (.returned (retVal vs)) w') w):Calls Tryz.prog 23 #[(.string q0),(.agg #[(.int .i64 q1_0),(.int .i64 q1_1),(.int .i64 q1_2),(.slice q1_3 q1_3_len q1_3_cap),(.slice q1_4 q1_4_len q1_4_cap)])] w R:=
 have h:=calls_of_tree (w:=w) (R:=R) (args:=[.v (.string q0),.v (.agg #[(.int .i64 q1_0),(.int .i64 q1_1),(.int .i64 q1_2),(.slice q1_3 q1_3_len q1_3_cap),(.slice q1_4 q1_4_len q1_4_cap)])]) (c:=spec_Tree.c) Tryz.func23 (show Tryz.f23.body=some spec_Tree.c by kernel_rfl) (of_decide_eq_true (by kernel_rfl)) (spec_Tree.e q0 q1_0 q1_1 q1_2 q1_3 q1_3_len q1_3_cap q1_4 q1_4_len q1_4_cap) hs
 h
end Go.Proofs.YtlfebfkphgelfaaGreatDoor.Tr
