import Derived.Test.YtlfebfkphgelfaaGreatDoorRz
import Derived.Test.YtlfebfkphgelfaaGreatDoorProg
import Derived.KernelRfl
namespace Go.Proofs.YtlfebfkphgelfaaGreatDoor.Tr
open Go Go.Proofs Rx
set_option linter.unusedVariables false
set_option maxRecDepth 100000
def spec_Read.t (text:ByteArray):T:=
 .alloc (Obj.cells #[(.int .i64 0),(.string (ByteArray.mk #[])),(.slice none 0 0),(.slice none 0 0)] 34 (0,0)) fun (z0:Addr)=>
 .call 19 #[(.string text)] (.tuple (.cons (.agg (.cons (.int .i64) (.cons (.int .i64) (.cons (.int .i64) (.cons .slice (.cons .slice .nil)))))) (.cons .bool .nil))) fun (z1:((Int×(Int×(Int×((Option Addr×Nat×Nat)×((Option Addr×Nat×Nat)×PUnit)))))×(Bool×PUnit)))=>
 .alloc (Obj.cells #[(.int .i64 0),(.int .i64 0),(.int .i64 0),(.slice none 0 0),(.slice none 0 0)] 29 (0,0)) fun (z2:Addr)=>
 .effU (Instr.storeAt 29 (.pointer (some z2)) (.agg #[(.int .i64 z1.1.1),(.int .i64 z1.1.2.1),(.int .i64 z1.1.2.2.1),(.slice z1.1.2.2.2.1.1 z1.1.2.2.2.1.2.1 z1.1.2.2.2.1.2.2),(.slice z1.1.2.2.2.2.1.1 z1.1.2.2.2.2.1.2.1 z1.1.2.2.2.2.1.2.2)])) <|
 .ite (!z1.2.1) (
 .effU (Instr.storeAt 34 (.pointer (some z0)) (.agg #[(.int .i64 0),(.string (ByteArray.mk #[])),(.slice none 0 0),(.slice none 0 0)])) <|
 .effS (Instr.loadAt 34 (.pointer (some z0))) (.agg (.cons (.int .i64) (.cons .str (.cons .slice (.cons .slice .nil))))) fun (z3:(Int×(ByteArray×((Option Addr×Nat×Nat)×((Option Addr×Nat×Nat)×PUnit)))))=>
 .leaf 0 [(.agg #[(.int .i64 z3.1),(.string z3.2.1),(.slice z3.2.2.1.1 z3.2.2.1.2.1 z3.2.2.1.2.2),(.slice z3.2.2.2.1.1 z3.2.2.2.1.2.1 z3.2.2.2.1.2.2)]),(.bool false)]) (
 .eff (Instr.loadAt 29 (.pointer (some z2))) (.agg (.cons (.int .i64) (.cons (.int .i64) (.cons (.int .i64) (.cons .slice (.cons .slice .nil)))))) fun (z4:(Int×(Int×(Int×((Option Addr×Nat×Nat)×((Option Addr×Nat×Nat)×PUnit))))))=>
 .call 23 #[(.string text),(.agg #[(.int .i64 z4.1),(.int .i64 z4.2.1),(.int .i64 z4.2.2.1),(.slice z4.2.2.2.1.1 z4.2.2.2.1.2.1 z4.2.2.2.1.2.2),(.slice z4.2.2.2.2.1.1 z4.2.2.2.2.1.2.1 z4.2.2.2.2.1.2.2)])] (.agg (.cons (.int .i64) (.cons .str (.cons .slice (.cons .slice .nil))))) fun (z5:(Int×(ByteArray×((Option Addr×Nat×Nat)×((Option Addr×Nat×Nat)×PUnit)))))=>
 .effU (Instr.storeAt 34 (.pointer (some z0)) (.agg #[(.int .i64 z5.1),(.string z5.2.1),(.slice z5.2.2.1.1 z5.2.2.1.2.1 z5.2.2.1.2.2),(.slice z5.2.2.2.1.1 z5.2.2.2.1.2.1 z5.2.2.2.1.2.2)])) <|
 .effS (Instr.loadAt 34 (.pointer (some z0))) (.agg (.cons (.int .i64) (.cons .str (.cons .slice (.cons .slice .nil))))) fun (z6:(Int×(ByteArray×((Option Addr×Nat×Nat)×((Option Addr×Nat×Nat)×PUnit)))))=>
 .leaf 0 [(.agg #[(.int .i64 z6.1),(.string z6.2.1),(.slice z6.2.2.1.1 z6.2.2.1.2.1 z6.2.2.1.2.2),(.slice z6.2.2.2.1.1 z6.2.2.2.1.2.1 z6.2.2.2.1.2.2)]),(.bool true)])
def spec_Read.h:Hints:=⟨[],[],[],[]⟩
noncomputable def spec_Read.c:Code:=(Tryz.f10.body).getD .skip
theorem spec_Read.e (text:ByteArray):fnT Tryz.prog spec_Read.h Tryz.f10 spec_Read.c [.v (.string text)]=spec_Read.t text:=by kernel_rfl
theorem spec_Read.calls (text:ByteArray) {w:World} {R:Ending→World→Prop} (hs:sat Tryz.prog (spec_Read.t text) (fun l vs w'=>l=0∧R (.returned (retVal vs)) w') w):Calls Tryz.prog 10 #[(.string text)] w R:=
 have h:=calls_of_tree (w:=w) (R:=R) (args:=[.v (.string text)]) (c:=spec_Read.c) Tryz.func10 (show Tryz.f10.body=some spec_Read.c by kernel_rfl) (of_decide_eq_true (by kernel_rfl)) (spec_Read.e text) hs
 h
def spec_Tree.t1:T:=
 .leaf 2 []
def spec_Tree.t2:T:=
 .leaf 1 []
def spec_Tree.t5 (q0:ByteArray) (z0:Addr) (z1:Addr) (z3:Addr) (i24:Int):T:=
 .load (Addr.add z0 4) .slice fun (z25:(Option Addr×Nat×Nat))=>
 .ite (decide (i24<(z25.2.1:Int))) (
 .drew <|
 .load (Addr.add z3 3) .slice fun (z26:(Option Addr×Nat×Nat))=>
 .load (Addr.add z0 4) .slice fun (z27:(Option Addr×Nat×Nat))=>
 .chk ((0≤i24)∧(i24<(z27.2.1:Int))) <|
 .ptr z27.1 fun (z28:Addr)=>
 .effQ (Instr.loadAt 29 (.pointer (some (Addr.add z28 ((Int.toNat i24) * 5))))) (.agg (.cons (.int .i64) (.cons (.int .i64) (.cons (.int .i64) (.cons .slice (.cons .slice .nil)))))) fun (z29:(Int×(Int×(Int×((Option Addr×Nat×Nat)×((Option Addr×Nat×Nat)×PUnit))))))=>
 .here fun (z30:World)=>
 .call 23 #[(.string q0),(.agg #[(.int .i64 z29.1),(.int .i64 z29.2.1),(.int .i64 z29.2.2.1),(.slice z29.2.2.2.1.1 z29.2.2.2.1.2.1 z29.2.2.2.1.2.2),(.slice z29.2.2.2.2.1.1 z29.2.2.2.2.1.2.1 z29.2.2.2.2.1.2.2)])] (.agg (.cons (.int .i64) (.cons .str (.cons .slice (.cons .slice .nil))))) fun (z31:(Int×(ByteArray×((Option Addr×Nat×Nat)×((Option Addr×Nat×Nat)×PUnit)))))=>
 .grew z30 <|
 .here fun (z32:World)=>
 .eff (Instr.buildSlice 32 1 #[(0,(.agg #[(.int .i64 z31.1),(.string z31.2.1),(.slice z31.2.2.1.1 z31.2.2.1.2.1 z31.2.2.1.2.2),(.slice z31.2.2.2.1.1 z31.2.2.2.1.2.1 z31.2.2.2.1.2.2)]))]) .slice fun (z33:(Option Addr×Nat×Nat))=>
 .grew z32 <|
 .eff (Builtin.append_ (Call.argTypes (Call.mk (Callee.builtin Builtin.append) #[(Operand.tmp 67),(Operand.tmp 75)] #[32,32])) 32 #[(.slice z26.1 z26.2.1 z26.2.2),(.slice z33.1 z33.2.1 z33.2.2)]) .slice fun (z34:(Option Addr×Nat×Nat))=>
 .store (Addr.add z3 3) (.slice z34.1 z34.2.1 z34.2.2) <|
 .leaf 1 [(.int .i64 (IntKind.wrap .i64 (i24+1)))]) (
 .eff (Instr.loadAt 34 (.pointer (some z3))) (.agg (.cons (.int .i64) (.cons .str (.cons .slice (.cons .slice .nil))))) fun (z35:(Int×(ByteArray×((Option Addr×Nat×Nat)×((Option Addr×Nat×Nat)×PUnit)))))=>
 .effU (Instr.storeAt 34 (.pointer (some z1)) (.agg #[(.int .i64 z35.1),(.string z35.2.1),(.slice z35.2.2.1.1 z35.2.2.1.2.1 z35.2.2.1.2.2),(.slice z35.2.2.2.1.1 z35.2.2.2.1.2.1 z35.2.2.2.1.2.2)])) <|
 .effS (Instr.loadAt 34 (.pointer (some z1))) (.agg (.cons (.int .i64) (.cons .str (.cons .slice (.cons .slice .nil))))) fun (z36:(Int×(ByteArray×((Option Addr×Nat×Nat)×((Option Addr×Nat×Nat)×PUnit)))))=>
 .leaf 0 [(.agg #[(.int .i64 z36.1),(.string z36.2.1),(.slice z36.2.2.1.1 z36.2.2.1.2.1 z36.2.2.1.2.2),(.slice z36.2.2.2.1.1 z36.2.2.2.1.2.1 z36.2.2.2.1.2.2)])])
def spec_Tree.t4 (q0:ByteArray) (z0:Addr) (z1:Addr) (z3:Addr) (i10:Int):T:=
 .load (Addr.add z0 3) .slice fun (z11:(Option Addr×Nat×Nat))=>
 .ite (decide (i10<(z11.2.1:Int))) (
 .drew <|
 .load (Addr.add z3 2) .slice fun (z12:(Option Addr×Nat×Nat))=>
 .load (Addr.add z0 3) .slice fun (z13:(Option Addr×Nat×Nat))=>
 .chk ((0≤i10)∧(i10<(z13.2.1:Int))) <|
 .ptr z13.1 fun (z14:Addr)=>
 .load (Addr.add (Addr.add z14 ((Int.toNat i10) * 2)) 0) (.int .i64) fun (i15:Int)=>
 .load (Addr.add z0 3) .slice fun (z16:(Option Addr×Nat×Nat))=>
 .chk ((0≤i10)∧(i10<(z16.2.1:Int))) <|
 .ptr z16.1 fun (z17:Addr)=>
 .load (Addr.add (Addr.add z17 ((Int.toNat i10) * 2)) 1) (.int .i64) fun (i18:Int)=>
 .chk ((0≤i15)∧((i15≤i18)∧(i18≤((ByteArray.size q0):Int)))) <|
 .here fun (z19:World)=>
 .call 42 #[(.string (ByteArray.extract q0 (Int.toNat i15) (Int.toNat i18)))] .str fun (s20:ByteArray)=>
 .grew z19 <|
 .here fun (z21:World)=>
 .eff (Instr.buildSlice 22 1 #[(0,(.string s20))]) .slice fun (z22:(Option Addr×Nat×Nat))=>
 .grew z21 <|
 .eff (Builtin.append_ (Call.argTypes (Call.mk (Callee.builtin Builtin.append) #[(Operand.tmp 40),(Operand.tmp 56)] #[22,22])) 22 #[(.slice z12.1 z12.2.1 z12.2.2),(.slice z22.1 z22.2.1 z22.2.2)]) .slice fun (z23:(Option Addr×Nat×Nat))=>
 .store (Addr.add z3 2) (.slice z23.1 z23.2.1 z23.2.2) <|
 .leaf 1 [(.int .i64 (IntKind.wrap .i64 (i10+1)))]) (
 .loop 1 (.cons (.int .i64) .nil) [(.int .i64 0)]
 (fun z=>spec_Tree.t5 q0 z0 z1 z3 z.1))
def spec_Tree.t3 (q0:ByteArray) (z0:Addr) (z1:Addr) (z3:Addr):T:=
 .loop 1 (.cons (.int .i64) .nil) [(.int .i64 0)]
 (fun z=>spec_Tree.t4 q0 z0 z1 z3 z.1)
def spec_Tree.t (q0:ByteArray) (q1_0:Int) (q1_1:Int) (q1_2:Int) (q1_3:(Option Addr)) (q1_3_len:Nat) (q1_3_cap:Nat) (q1_4:(Option Addr)) (q1_4_len:Nat) (q1_4_cap:Nat):T:=
 .alloc (Obj.cells #[(.int .i64 q1_0),(.int .i64 q1_1),(.int .i64 q1_2),(.slice q1_3 q1_3_len q1_3_cap),(.slice q1_4 q1_4_len q1_4_cap)] 29 (0,0)) fun (z0:Addr)=>
 .alloc (Obj.cells #[(.int .i64 0),(.string (ByteArray.mk #[])),(.slice none 0 0),(.slice none 0 0)] 34 (0,0)) fun (z1:Addr)=>
 .load (Addr.add z0 0) (.int .i64) fun (i2:Int)=>
 .alloc (Obj.cells #[(.int .i64 0),(.string (ByteArray.mk #[])),(.slice none 0 0),(.slice none 0 0)] 34 (0,0)) fun (z3:Addr)=>
 .effU (Instr.storeAt 34 (.pointer (some z3)) (.agg #[(.int .i64 i2),(.string (ByteArray.mk #[])),(.slice none 0 0),(.slice none 0 0)])) <|
 .load (Addr.add z0 0) (.int .i64) fun (i4:Int)=>
 .cut 1 .nil (
 .cut 2 .nil (
 .ite (i4==3) (
 .load (Addr.add z0 1) (.int .i64) fun (i5:Int)=>
 .load (Addr.add z0 2) (.int .i64) fun (i6:Int)=>
 .chk ((0≤i5)∧((i5≤i6)∧(i6≤((ByteArray.size q0):Int)))) <|
 .store (Addr.add z3 1) (.string (ByteArray.extract q0 (Int.toNat i5) (Int.toNat i6))) <|
 .leaf 2 []) (
 .cut 3 .nil (
 .ite (i4==4) (
 .load (Addr.add z0 1) (.int .i64) fun (i7:Int)=>
 .load (Addr.add z0 2) (.int .i64) fun (i8:Int)=>
 .chk ((0≤i7)∧((i7≤i8)∧(i8≤((ByteArray.size q0):Int)))) <|
 .call 42 #[(.string (ByteArray.extract q0 (Int.toNat i7) (Int.toNat i8)))] .str fun (s9:ByteArray)=>
 .store (Addr.add z3 1) (.string s9) <|
 .leaf 3 []) (
 .leaf 3 []))
 (fun _=>spec_Tree.t1)))
 (fun _=>spec_Tree.t2))
 (fun _=>spec_Tree.t3 q0 z0 z1 z3)
def spec_Tree.h:Hints:=⟨[(13,[]),(22,[])],[(0,[])],[],[(8,[(6,(.int .i64))]),(12,[(7,(.int .i64))])]⟩
noncomputable def spec_Tree.c:Code:=(Tryz.f23.body).getD .skip
theorem spec_Tree.e (q0:ByteArray) (q1_0:Int) (q1_1:Int) (q1_2:Int) (q1_3:(Option Addr)) (q1_3_len:Nat) (q1_3_cap:Nat) (q1_4:(Option Addr)) (q1_4_len:Nat) (q1_4_cap:Nat):fnT Tryz.prog spec_Tree.h Tryz.f23 spec_Tree.c [.v (.string q0),.v (.agg #[(.int .i64 q1_0),(.int .i64 q1_1),(.int .i64 q1_2),(.slice q1_3 q1_3_len q1_3_cap),(.slice q1_4 q1_4_len q1_4_cap)])]=spec_Tree.t q0 q1_0 q1_1 q1_2 q1_3 q1_3_len q1_3_cap q1_4 q1_4_len q1_4_cap:=by kernel_rfl
theorem spec_Tree.calls (q0:ByteArray) (q1_0:Int) (q1_1:Int) (q1_2:Int) (q1_3:(Option Addr)) (q1_3_len:Nat) (q1_3_cap:Nat) (q1_4:(Option Addr)) (q1_4_len:Nat) (q1_4_cap:Nat) {w:World} {R:Ending→World→Prop} (hs:sat Tryz.prog (spec_Tree.t q0 q1_0 q1_1 q1_2 q1_3 q1_3_len q1_3_cap q1_4 q1_4_len q1_4_cap) (fun l vs w'=>l=0∧R (.returned (retVal vs)) w') w):Calls Tryz.prog 23 #[(.string q0),(.agg #[(.int .i64 q1_0),(.int .i64 q1_1),(.int .i64 q1_2),(.slice q1_3 q1_3_len q1_3_cap),(.slice q1_4 q1_4_len q1_4_cap)])] w R:=
 have h:=calls_of_tree (w:=w) (R:=R) (args:=[.v (.string q0),.v (.agg #[(.int .i64 q1_0),(.int .i64 q1_1),(.int .i64 q1_2),(.slice q1_3 q1_3_len q1_3_cap),(.slice q1_4 q1_4_len q1_4_cap)])]) (c:=spec_Tree.c) Tryz.func23 (show Tryz.f23.body=some spec_Tree.c by kernel_rfl) (of_decide_eq_true (by kernel_rfl)) (spec_Tree.e q0 q1_0 q1_1 q1_2 q1_3 q1_3_len q1_3_cap q1_4 q1_4_len q1_4_cap) hs
 h
def spec_Unique.t2 (z0:Addr) (i8:Int):T:=
 .load (Addr.add z0 3) .slice fun (z9:(Option Addr×Nat×Nat))=>
 .ite (decide (i8<(z9.2.1:Int))) (
 .load (Addr.add z0 3) .slice fun (z10:(Option Addr×Nat×Nat))=>
 .chk ((0≤i8)∧(i8<(z10.2.1:Int))) <|
 .ptr z10.1 fun (z11:Addr)=>
 .eff (Instr.loadAt 34 (.pointer (some (Addr.add z11 ((Int.toNat i8) * 4))))) (.agg (.cons (.int .i64) (.cons .str (.cons .slice (.cons .slice .nil))))) fun (z12:(Int×(ByteArray×((Option Addr×Nat×Nat)×((Option Addr×Nat×Nat)×PUnit)))))=>
 .call 11 #[(.agg #[(.int .i64 z12.1),(.string z12.2.1),(.slice z12.2.2.1.1 z12.2.2.1.2.1 z12.2.2.1.2.2),(.slice z12.2.2.2.1.1 z12.2.2.2.1.2.1 z12.2.2.2.1.2.2)])] .bool fun (b13:Bool)=>
 .ite (!b13) (
 .leaf 0 [(.bool false)]) (
 .leaf 1 [(.int .i64 (IntKind.wrap .i64 (i8+1)))])) (
 .leaf 0 [(.bool true)])
def spec_Unique.t1 (z0:Addr) (i1:Int):T:=
 .load (Addr.add z0 2) .slice fun (z2:(Option Addr×Nat×Nat))=>
 .ite (decide (i1<(z2.2.1:Int))) (
 .drew <|
 .effQ (Instr.loadAt 34 (.pointer (some z0))) (.agg (.cons (.int .i64) (.cons .str (.cons .slice (.cons .slice .nil))))) fun (z3:(Int×(ByteArray×((Option Addr×Nat×Nat)×((Option Addr×Nat×Nat)×PUnit)))))=>
 .load (Addr.add z0 2) .slice fun (z4:(Option Addr×Nat×Nat))=>
 .chk ((0≤i1)∧(i1<(z4.2.1:Int))) <|
 .ptr z4.1 fun (z5:Addr)=>
 .load (Addr.add z5 ((Int.toNat i1) * 1)) .str fun (s6:ByteArray)=>
 .call 29 #[(.agg #[(.int .i64 z3.1),(.string z3.2.1),(.slice z3.2.2.1.1 z3.2.2.1.2.1 z3.2.2.1.2.2),(.slice z3.2.2.2.1.1 z3.2.2.2.1.2.1 z3.2.2.2.1.2.2)]),(.string s6)] (.int .i64) fun (i7:Int)=>
 .ite (i7 != i1) (
 .leaf 0 [(.bool false)]) (
 .leaf 1 [(.int .i64 (IntKind.wrap .i64 (i1+1)))])) (
 .loop 1 (.cons (.int .i64) .nil) [(.int .i64 0)]
 (fun z=>spec_Unique.t2 z0 z.1))
def spec_Unique.t (n_0:Int) (n_1:ByteArray) (n_2:(Option Addr)) (n_2_len:Nat) (n_2_cap:Nat) (n_3:(Option Addr)) (n_3_len:Nat) (n_3_cap:Nat):T:=
 .alloc (Obj.cells #[(.int .i64 n_0),(.string n_1),(.slice n_2 n_2_len n_2_cap),(.slice n_3 n_3_len n_3_cap)] 34 (0,0)) fun (z0:Addr)=>
 .loop 1 (.cons (.int .i64) .nil) [(.int .i64 0)]
 (fun z=>spec_Unique.t1 z0 z.1)
def spec_Unique.h:Hints:=⟨[],[],[],[(2,[(3,(.int .i64))]),(7,[(4,(.int .i64))])]⟩
noncomputable def spec_Unique.c:Code:=(Tryz.f11.body).getD .skip
theorem spec_Unique.e (n_0:Int) (n_1:ByteArray) (n_2:(Option Addr)) (n_2_len:Nat) (n_2_cap:Nat) (n_3:(Option Addr)) (n_3_len:Nat) (n_3_cap:Nat):fnT Tryz.prog spec_Unique.h Tryz.f11 spec_Unique.c [.v (.agg #[(.int .i64 n_0),(.string n_1),(.slice n_2 n_2_len n_2_cap),(.slice n_3 n_3_len n_3_cap)])]=spec_Unique.t n_0 n_1 n_2 n_2_len n_2_cap n_3 n_3_len n_3_cap:=by kernel_rfl
theorem spec_Unique.calls (n_0:Int) (n_1:ByteArray) (n_2:(Option Addr)) (n_2_len:Nat) (n_2_cap:Nat) (n_3:(Option Addr)) (n_3_len:Nat) (n_3_cap:Nat) {w:World} {R:Ending→World→Prop} (hs:sat Tryz.prog (spec_Unique.t n_0 n_1 n_2 n_2_len n_2_cap n_3 n_3_len n_3_cap) (fun l vs w'=>l=0∧R (.returned (retVal vs)) w') w):Calls Tryz.prog 11 #[(.agg #[(.int .i64 n_0),(.string n_1),(.slice n_2 n_2_len n_2_cap),(.slice n_3 n_3_len n_3_cap)])] w R:=
 have h:=calls_of_tree (w:=w) (R:=R) (args:=[.v (.agg #[(.int .i64 n_0),(.string n_1),(.slice n_2 n_2_len n_2_cap),(.slice n_3 n_3_len n_3_cap)])]) (c:=spec_Unique.c) Tryz.func11 (show Tryz.f11.body=some spec_Unique.c by kernel_rfl) (of_decide_eq_true (by kernel_rfl)) (spec_Unique.e n_0 n_1 n_2 n_2_len n_2_cap n_3 n_3_len n_3_cap) hs
 h
def spec_at.t1 (name:ByteArray) (z0:Addr) (i2:Int):T:=
 .ite (decide (i2 ≥ 0)) (
 .load (Addr.add z0 2) .slice fun (z3:(Option Addr×Nat×Nat))=>
 .chk ((0≤i2)∧(i2<(z3.2.1:Int))) <|
 .ptr z3.1 fun (z4:Addr)=>
 .load (Addr.add z4 ((Int.toNat i2) * 1)) .str fun (s5:ByteArray)=>
 .ite (strEq s5 name) (
 .leaf 0 [(.int .i64 i2)]) (
 .leaf 1 [(.int .i64 (IntKind.wrap .i64 (i2-1)))])) (
 .leaf 0 [(.int .i64 (-1))])
def spec_at.t (n_0:Int) (n_1:ByteArray) (n_2:(Option Addr)) (n_2_len:Nat) (n_2_cap:Nat) (n_3:(Option Addr)) (n_3_len:Nat) (n_3_cap:Nat) (name:ByteArray):T:=
 .alloc (Obj.cells #[(.int .i64 n_0),(.string n_1),(.slice n_2 n_2_len n_2_cap),(.slice n_3 n_3_len n_3_cap)] 34 (0,0)) fun (z0:Addr)=>
 .load (Addr.add z0 2) .slice fun (z1:(Option Addr×Nat×Nat))=>
 .loop 1 (.cons (.int .i64) .nil) [(.int .i64 (IntKind.wrap .i64 ((z1.2.1:Int)-1)))]
 (fun z=>spec_at.t1 name z0 z.1)
def spec_at.h:Hints:=⟨[],[],[],[(2,[(5,(.int .i64))])]⟩
noncomputable def spec_at.c:Code:=(Tryz.f29.body).getD .skip
theorem spec_at.e (n_0:Int) (n_1:ByteArray) (n_2:(Option Addr)) (n_2_len:Nat) (n_2_cap:Nat) (n_3:(Option Addr)) (n_3_len:Nat) (n_3_cap:Nat) (name:ByteArray):fnT Tryz.prog spec_at.h Tryz.f29 spec_at.c [.v (.agg #[(.int .i64 n_0),(.string n_1),(.slice n_2 n_2_len n_2_cap),(.slice n_3 n_3_len n_3_cap)]),.v (.string name)]=spec_at.t n_0 n_1 n_2 n_2_len n_2_cap n_3 n_3_len n_3_cap name:=by kernel_rfl
theorem spec_at.calls (n_0:Int) (n_1:ByteArray) (n_2:(Option Addr)) (n_2_len:Nat) (n_2_cap:Nat) (n_3:(Option Addr)) (n_3_len:Nat) (n_3_cap:Nat) (name:ByteArray) {w:World} {R:Ending→World→Prop} (hs:sat Tryz.prog (spec_at.t n_0 n_1 n_2 n_2_len n_2_cap n_3 n_3_len n_3_cap name) (fun l vs w'=>l=0∧R (.returned (retVal vs)) w') w):Calls Tryz.prog 29 #[(.agg #[(.int .i64 n_0),(.string n_1),(.slice n_2 n_2_len n_2_cap),(.slice n_3 n_3_len n_3_cap)]),(.string name)] w R:=
 have h:=calls_of_tree (w:=w) (R:=R) (args:=[.v (.agg #[(.int .i64 n_0),(.string n_1),(.slice n_2 n_2_len n_2_cap),(.slice n_3 n_3_len n_3_cap)]),.v (.string name)]) (c:=spec_at.c) Tryz.func29 (show Tryz.f29.body=some spec_at.c by kernel_rfl) (of_decide_eq_true (by kernel_rfl)) (spec_at.e n_0 n_1 n_2 n_2_len n_2_cap n_3 n_3_len n_3_cap name) hs
 h
def spec_Escaped.t1 (text:ByteArray) (i0:Int):T:=
 .ite (decide (i0<((ByteArray.size text):Int))) (
 .chk ((0≤i0)∧(i0<((ByteArray.size text):Int))) <|
 .ite ((bt text i0)==92) (
 .leaf 0 [(.bool true)]) (
 .leaf 1 [(.int .i64 (IntKind.wrap .i64 (i0+1)))])) (
 .leaf 0 [(.bool false)])
def spec_Escaped.t (text:ByteArray):T:=
 .loop 1 (.cons (.int .i64) .nil) [(.int .i64 0)]
 (fun z=>spec_Escaped.t1 text z.1)
def spec_Escaped.h:Hints:=⟨[],[],[],[(2,[(3,(.int .i64))])]⟩
noncomputable def spec_Escaped.c:Code:=(Tryz.f28.body).getD .skip
theorem spec_Escaped.e (text:ByteArray):fnT Tryz.prog spec_Escaped.h Tryz.f28 spec_Escaped.c [.v (.string text)]=spec_Escaped.t text:=by kernel_rfl
theorem spec_Escaped.calls (text:ByteArray) {w:World} {R:Ending→World→Prop} (hs:sat Tryz.prog (spec_Escaped.t text) (fun l vs w'=>l=0∧R (.returned (retVal vs)) w') w):Calls Tryz.prog 28 #[(.string text)] w R:=
 have h:=calls_of_tree (w:=w) (R:=R) (args:=[.v (.string text)]) (c:=spec_Escaped.c) Tryz.func28 (show Tryz.f28.body=some spec_Escaped.c by kernel_rfl) (of_decide_eq_true (by kernel_rfl)) (spec_Escaped.e text) hs
 h
def laws_jpStraight.t1 (keys:(Option Addr)) (keys_len:Nat) (i0:Int):T:=
 .ite (decide (i0<(keys_len:Int))) (
 .chk ((0≤i0)∧(i0<(keys_len:Int))) <|
 .ptr keys fun (z1:Addr)=>
 .load (Addr.add z1 ((Int.toNat i0) * 1)) .str fun (s2:ByteArray)=>
 .call 28 #[(.string s2)] .bool fun (b3:Bool)=>
 .ite b3 (
 .leaf 0 [(.bool false)]) (
 .leaf 1 [(.int .i64 (IntKind.wrap .i64 (i0+1)))])) (
 .leaf 0 [(.bool true)])
def laws_jpStraight.t (keys:(Option Addr)) (keys_len:Nat) (keys_cap:Nat):T:=
 .loop 1 (.cons (.int .i64) .nil) [(.int .i64 0)]
 (fun z=>laws_jpStraight.t1 keys keys_len z.1)
def laws_jpStraight.h:Hints:=⟨[],[],[],[(2,[(7,(.int .i64))])]⟩
noncomputable def laws_jpStraight.c:Code:=(Tryz.f9.body).getD .skip
theorem laws_jpStraight.e (keys:(Option Addr)) (keys_len:Nat) (keys_cap:Nat):fnT Tryz.prog laws_jpStraight.h Tryz.f9 laws_jpStraight.c [.v (.slice keys keys_len keys_cap)]=laws_jpStraight.t keys keys_len keys_cap:=by kernel_rfl
theorem laws_jpStraight.calls (keys:(Option Addr)) (keys_len:Nat) (keys_cap:Nat) {w:World} {R:Ending→World→Prop} (hs:sat Tryz.prog (laws_jpStraight.t keys keys_len keys_cap) (fun l vs w'=>l=0∧R (.returned (retVal vs)) w') w):Calls Tryz.prog 9 #[(.slice keys keys_len keys_cap)] w R:=
 have h:=calls_of_tree (w:=w) (R:=R) (args:=[.v (.slice keys keys_len keys_cap)]) (c:=laws_jpStraight.c) Tryz.func9 (show Tryz.f9.body=some laws_jpStraight.c by kernel_rfl) (of_decide_eq_true (by kernel_rfl)) (laws_jpStraight.e keys keys_len keys_cap) hs
 h
end Go.Proofs.YtlfebfkphgelfaaGreatDoor.Tr
