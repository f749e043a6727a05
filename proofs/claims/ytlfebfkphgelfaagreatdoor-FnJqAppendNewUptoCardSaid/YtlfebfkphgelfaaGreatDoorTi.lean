import Derived.Test.YtlfebfkphgelfaaGreatDoorRz
import Derived.Test.YtlfebfkphgelfaaGreatDoorProg
import Derived.KernelRfl
namespace Go.Proofs.YtlfebfkphgelfaaGreatDoor.Tr
open Go Go.Proofs Rx
set_option linter.unusedVariables false
set_option maxRecDepth 100000
def laws_jqClean.t2 (text:ByteArray) (keys:(Option Addr)) (keys_len:Nat) (z0:Addr) (i1:Int) (b7:Bool):T:=
 .ite b7 (
 .leaf 0 [(.bool false)]) (
 .drew <|
 .effQ (Instr.loadAt 29 (.pointer (some z0))) (.agg (.cons (.int .i64) (.cons (.int .i64) (.cons (.int .i64) (.cons .slice (.cons .slice .nil)))))) fun (z8:(Int×(Int×(Int×((Option Addr×Nat×Nat)×((Option Addr×Nat×Nat)×PUnit))))))=>
 .chk ((0≤i1)∧(i1<(keys_len:Int))) <|
 .ptr keys fun (z9:Addr)=>
 .load (Addr.add z9 ((Int.toNat i1) * 1)) .str fun (s10:ByteArray)=>
 .both (
 .call 35 #[(.string text),(.agg #[(.int .i64 z8.1),(.int .i64 z8.2.1),(.int .i64 z8.2.2.1),(.slice z8.2.2.2.1.1 z8.2.2.2.1.2.1 z8.2.2.2.1.2.2),(.slice z8.2.2.2.2.1.1 z8.2.2.2.2.1.2.1 z8.2.2.2.2.1.2.2)]),(.string s10)] (.tuple (.cons (.agg (.cons (.int .i64) (.cons (.int .i64) (.cons (.int .i64) (.cons .slice (.cons .slice .nil)))))) (.cons .bool .nil))) fun (z11:((Int×(Int×(Int×((Option Addr×Nat×Nat)×((Option Addr×Nat×Nat)×PUnit)))))×(Bool×PUnit)))=>
 .alloc (Obj.cells #[(.int .i64 0),(.int .i64 0),(.int .i64 0),(.slice none 0 0),(.slice none 0 0)] 29 (0,0)) fun (z12:Addr)=>
 .effU (Instr.storeAt 29 (.pointer (some z12)) (.agg #[(.int .i64 z11.1.1),(.int .i64 z11.1.2.1),(.int .i64 z11.1.2.2.1),(.slice z11.1.2.2.2.1.1 z11.1.2.2.2.1.2.1 z11.1.2.2.2.1.2.2),(.slice z11.1.2.2.2.2.1.1 z11.1.2.2.2.2.1.2.1 z11.1.2.2.2.2.1.2.2)])) <|
 .ite (!z11.2.1) (
 .leaf 0 [(.bool true)]) (
 .eff (Instr.loadAt 29 (.pointer (some z12))) (.agg (.cons (.int .i64) (.cons (.int .i64) (.cons (.int .i64) (.cons .slice (.cons .slice .nil)))))) fun (z13:(Int×(Int×(Int×((Option Addr×Nat×Nat)×((Option Addr×Nat×Nat)×PUnit))))))=>
 .effU (Instr.storeAt 29 (.pointer (some z0)) (.agg #[(.int .i64 z13.1),(.int .i64 z13.2.1),(.int .i64 z13.2.2.1),(.slice z13.2.2.2.1.1 z13.2.2.2.1.2.1 z13.2.2.2.1.2.2),(.slice z13.2.2.2.2.1.1 z13.2.2.2.2.1.2.1 z13.2.2.2.2.1.2.2)])) <|
 .leaf 1 [(.int .i64 (IntKind.wrap .i64 (i1+1)))])) (
 .here fun (z14:World)=>
 .alloc (Obj.cells #[(.int .i64 0),(.int .i64 0),(.int .i64 0),(.slice none 0 0),(.slice none 0 0)] 29 (0,0)) fun (z15:Addr)=>
 .grew z14 <|
 .call 35 #[(.string text),(.agg #[(.int .i64 z8.1),(.int .i64 z8.2.1),(.int .i64 z8.2.2.1),(.slice z8.2.2.2.1.1 z8.2.2.2.1.2.1 z8.2.2.2.1.2.2),(.slice z8.2.2.2.2.1.1 z8.2.2.2.2.1.2.1 z8.2.2.2.2.1.2.2)]),(.string s10)] (.tuple (.cons (.agg (.cons (.int .i64) (.cons (.int .i64) (.cons (.int .i64) (.cons .slice (.cons .slice .nil)))))) (.cons .bool .nil))) fun (z16:((Int×(Int×(Int×((Option Addr×Nat×Nat)×((Option Addr×Nat×Nat)×PUnit)))))×(Bool×PUnit)))=>
 .effU (Instr.storeAt 29 (.pointer (some z15)) (.agg #[(.int .i64 z16.1.1),(.int .i64 z16.1.2.1),(.int .i64 z16.1.2.2.1),(.slice z16.1.2.2.2.1.1 z16.1.2.2.2.1.2.1 z16.1.2.2.2.1.2.2),(.slice z16.1.2.2.2.2.1.1 z16.1.2.2.2.2.1.2.1 z16.1.2.2.2.2.1.2.2)])) <|
 .ite (!z16.2.1) (
 .leaf 0 [(.bool true)]) (
 .eff (Instr.loadAt 29 (.pointer (some z15))) (.agg (.cons (.int .i64) (.cons (.int .i64) (.cons (.int .i64) (.cons .slice (.cons .slice .nil)))))) fun (z17:(Int×(Int×(Int×((Option Addr×Nat×Nat)×((Option Addr×Nat×Nat)×PUnit))))))=>
 .effU (Instr.storeAt 29 (.pointer (some z0)) (.agg #[(.int .i64 z17.1),(.int .i64 z17.2.1),(.int .i64 z17.2.2.1),(.slice z17.2.2.2.1.1 z17.2.2.2.1.2.1 z17.2.2.2.1.2.2),(.slice z17.2.2.2.2.1.1 z17.2.2.2.2.1.2.1 z17.2.2.2.2.1.2.2)])) <|
 .leaf 1 [(.int .i64 (IntKind.wrap .i64 (i1+1)))])))
def laws_jqClean.t1 (text:ByteArray) (keys:(Option Addr)) (keys_len:Nat) (z0:Addr) (i1:Int):T:=
 .ite (decide (i1<(keys_len:Int))) (
 .cut 2 (.cons .bool .nil) (
 .load (Addr.add z0 0) (.int .i64) fun (i2:Int)=>
 .ite (i2 != 5) (
 .chk ((0≤i1)∧(i1<(keys_len:Int))) <|
 .ptr keys fun (z3:Addr)=>
 .load (Addr.add z3 ((Int.toNat i1) * 1)) .str fun (s4:ByteArray)=>
 .ite (!(strEq s4 (ByteArray.mk #[]))) (
 .chk ((0≤i1)∧(i1<(keys_len:Int))) <|
 .ptr keys fun (z5:Addr)=>
 .load (Addr.add z5 ((Int.toNat i1) * 1)) .str fun (s6:ByteArray)=>
 .chk (((0 :Int)≤(0 :Int))∧(0<((ByteArray.size s6):Int))) <|
 .leaf 2 [(.bool ((bt s6 0)==91))]) (
 .leaf 2 [(.bool false)])) (
 .leaf 2 [(.bool false)]))
 (fun z=>laws_jqClean.t2 text keys keys_len z0 i1 z.1)) (
 .leaf 0 [(.bool true)])
def laws_jqClean.t (text:ByteArray) (p_0:Int) (p_1:Int) (p_2:Int) (p_3:(Option Addr)) (p_3_len:Nat) (p_3_cap:Nat) (p_4:(Option Addr)) (p_4_len:Nat) (p_4_cap:Nat) (keys:(Option Addr)) (keys_len:Nat) (keys_cap:Nat):T:=
 .alloc (Obj.cells #[(.int .i64 p_0),(.int .i64 p_1),(.int .i64 p_2),(.slice p_3 p_3_len p_3_cap),(.slice p_4 p_4_len p_4_cap)] 29 (0,0)) fun (z0:Addr)=>
 .loop 1 (.cons (.int .i64) .nil) [(.int .i64 0)]
 (fun z=>laws_jqClean.t1 text keys keys_len z0 z.1)
def laws_jqClean.h:Hints:=⟨[],[],[(4,[(33,.bool)])],[(2,[(7,(.int .i64))])]⟩
noncomputable def laws_jqClean.c:Code:=(Tryz.f20.body).getD .skip
theorem laws_jqClean.e (text:ByteArray) (p_0:Int) (p_1:Int) (p_2:Int) (p_3:(Option Addr)) (p_3_len:Nat) (p_3_cap:Nat) (p_4:(Option Addr)) (p_4_len:Nat) (p_4_cap:Nat) (keys:(Option Addr)) (keys_len:Nat) (keys_cap:Nat):fnT Tryz.prog laws_jqClean.h Tryz.f20 laws_jqClean.c [.v (.string text),.v (.agg #[(.int .i64 p_0),(.int .i64 p_1),(.int .i64 p_2),(.slice p_3 p_3_len p_3_cap),(.slice p_4 p_4_len p_4_cap)]),.v (.slice keys keys_len keys_cap)]=laws_jqClean.t text p_0 p_1 p_2 p_3 p_3_len p_3_cap p_4 p_4_len p_4_cap keys keys_len keys_cap:=by kernel_rfl
theorem laws_jqClean.calls (text:ByteArray) (p_0:Int) (p_1:Int) (p_2:Int) (p_3:(Option Addr)) (p_3_len:Nat) (p_3_cap:Nat) (p_4:(Option Addr)) (p_4_len:Nat) (p_4_cap:Nat) (keys:(Option Addr)) (keys_len:Nat) (keys_cap:Nat) {w:World} {R:Ending→World→Prop} (hs:sat Tryz.prog (laws_jqClean.t text p_0 p_1 p_2 p_3 p_3_len p_3_cap p_4 p_4_len p_4_cap keys keys_len keys_cap) (fun l vs w'=>l=0∧R (.returned (retVal vs)) w') w):Calls Tryz.prog 20 #[(.string text),(.agg #[(.int .i64 p_0),(.int .i64 p_1),(.int .i64 p_2),(.slice p_3 p_3_len p_3_cap),(.slice p_4 p_4_len p_4_cap)]),(.slice keys keys_len keys_cap)] w R:=
 have h:=calls_of_tree (w:=w) (R:=R) (args:=[.v (.string text),.v (.agg #[(.int .i64 p_0),(.int .i64 p_1),(.int .i64 p_2),(.slice p_3 p_3_len p_3_cap),(.slice p_4 p_4_len p_4_cap)]),.v (.slice keys keys_len keys_cap)]) (c:=laws_jqClean.c) Tryz.func20 (show Tryz.f20.body=some laws_jqClean.c by kernel_rfl) (of_decide_eq_true (by kernel_rfl)) (laws_jqClean.e text p_0 p_1 p_2 p_3 p_3_len p_3_cap p_4 p_4_len p_4_cap keys keys_len keys_cap) hs
 h
def laws_jpTokens.t2 (text:ByteArray) (z0:Addr) (i2:Int) (z3:(Option Addr×Nat×Nat)) (s5:ByteArray) (s7:ByteArray):T:=
 .eff (Instr.buildSlice 22 1 #[(0,(.string s7))]) .slice fun (z8:(Option Addr×Nat×Nat))=>
 .eff (Builtin.append_ (Call.argTypes (Call.mk (Callee.builtin Builtin.append) #[(Operand.tmp 27),(Operand.tmp 29)] #[22,22])) 22 #[(.slice z3.1 z3.2.1 z3.2.2),(.slice z8.1 z8.2.1 z8.2.2)]) .slice fun (z9:(Option Addr×Nat×Nat))=>
 .eff (Instr.loadAt 29 (.pointer (some z0))) (.agg (.cons (.int .i64) (.cons (.int .i64) (.cons (.int .i64) (.cons .slice (.cons .slice .nil)))))) fun (z10:(Int×(Int×(Int×((Option Addr×Nat×Nat)×((Option Addr×Nat×Nat)×PUnit))))))=>
 .call 35 #[(.string text),(.agg #[(.int .i64 z10.1),(.int .i64 z10.2.1),(.int .i64 z10.2.2.1),(.slice z10.2.2.2.1.1 z10.2.2.2.1.2.1 z10.2.2.2.1.2.2),(.slice z10.2.2.2.2.1.1 z10.2.2.2.2.1.2.1 z10.2.2.2.2.1.2.2)]),(.string s5)] (.tuple (.cons (.agg (.cons (.int .i64) (.cons (.int .i64) (.cons (.int .i64) (.cons .slice (.cons .slice .nil)))))) (.cons .bool .nil))) fun (z11:((Int×(Int×(Int×((Option Addr×Nat×Nat)×((Option Addr×Nat×Nat)×PUnit)))))×(Bool×PUnit)))=>
 .effU (Instr.storeAt 29 (.pointer (some z0)) (.agg #[(.int .i64 z11.1.1),(.int .i64 z11.1.2.1),(.int .i64 z11.1.2.2.1),(.slice z11.1.2.2.2.1.1 z11.1.2.2.2.1.2.1 z11.1.2.2.2.1.2.2),(.slice z11.1.2.2.2.2.1.1 z11.1.2.2.2.2.1.2.1 z11.1.2.2.2.2.1.2.2)])) <|
 .leaf 1 [(.int .i64 (IntKind.wrap .i64 (i2+1))),(.slice z9.1 z9.2.1 z9.2.2)]
def laws_jpTokens.t1 (text:ByteArray) (keys:(Option Addr)) (keys_len:Nat) (z0:Addr) (i2:Int) (z3:(Option Addr×Nat×Nat)):T:=
 .ite (decide (i2<(keys_len:Int))) (
 .chk ((0≤i2)∧(i2<(keys_len:Int))) <|
 .ptr keys fun (z4:Addr)=>
 .load (Addr.add z4 ((Int.toNat i2) * 1)) .str fun (s5:ByteArray)=>
 .load (Addr.add z0 0) (.int .i64) fun (i6:Int)=>
 .cut 2 (.cons .str .nil) (
 .ite (i6==5) (
 .chk (((0 :Int)≤(1 :Int))∧((1≤(IntKind.wrap .i64 (((ByteArray.size s5):Int)-1)))∧((IntKind.wrap .i64 (((ByteArray.size s5):Int)-1))≤((ByteArray.size s5):Int)))) <|
 .leaf 2 [(.string (ByteArray.extract s5 1 (Int.toNat (IntKind.wrap .i64 (((ByteArray.size s5):Int)-1)))))]) (
 .leaf 2 [(.string s5)]))
 (fun z=>laws_jpTokens.t2 text z0 i2 z3 s5 z.1)) (
 .leaf 0 [(.slice z3.1 z3.2.1 z3.2.2)])
def laws_jpTokens.t (text:ByteArray) (p_0:Int) (p_1:Int) (p_2:Int) (p_3:(Option Addr)) (p_3_len:Nat) (p_3_cap:Nat) (p_4:(Option Addr)) (p_4_len:Nat) (p_4_cap:Nat) (keys:(Option Addr)) (keys_len:Nat) (keys_cap:Nat):T:=
 .alloc (Obj.cells #[(.int .i64 p_0),(.int .i64 p_1),(.int .i64 p_2),(.slice p_3 p_3_len p_3_cap),(.slice p_4 p_4_len p_4_cap)] 29 (0,0)) fun (z0:Addr)=>
 .eff (Instr.buildSlice 22 0 #[]) .slice fun (z1:(Option Addr×Nat×Nat))=>
 .loop 1 (.cons (.int .i64) (.cons .slice .nil)) [(.int .i64 0),(.slice z1.1 z1.2.1 z1.2.2)]
 (fun z=>laws_jpTokens.t1 text keys keys_len z0 z.1 z.2.1)
def laws_jpTokens.h:Hints:=⟨[(21,[(10,.str)])],[],[],[(3,[(14,(.int .i64)),(7,.slice)])]⟩
noncomputable def laws_jpTokens.c:Code:=(Tryz.f25.body).getD .skip
theorem laws_jpTokens.e (text:ByteArray) (p_0:Int) (p_1:Int) (p_2:Int) (p_3:(Option Addr)) (p_3_len:Nat) (p_3_cap:Nat) (p_4:(Option Addr)) (p_4_len:Nat) (p_4_cap:Nat) (keys:(Option Addr)) (keys_len:Nat) (keys_cap:Nat):fnT Tryz.prog laws_jpTokens.h Tryz.f25 laws_jpTokens.c [.v (.string text),.v (.agg #[(.int .i64 p_0),(.int .i64 p_1),(.int .i64 p_2),(.slice p_3 p_3_len p_3_cap),(.slice p_4 p_4_len p_4_cap)]),.v (.slice keys keys_len keys_cap)]=laws_jpTokens.t text p_0 p_1 p_2 p_3 p_3_len p_3_cap p_4 p_4_len p_4_cap keys keys_len keys_cap:=by kernel_rfl
theorem laws_jpTokens.calls (text:ByteArray) (p_0:Int) (p_1:Int) (p_2:Int) (p_3:(Option Addr)) (p_3_len:Nat) (p_3_cap:Nat) (p_4:(Option Addr)) (p_4_len:Nat) (p_4_cap:Nat) (keys:(Option Addr)) (keys_len:Nat) (keys_cap:Nat) {w:World} {R:Ending→World→Prop} (hs:sat Tryz.prog (laws_jpTokens.t text p_0 p_1 p_2 p_3 p_3_len p_3_cap p_4 p_4_len p_4_cap keys keys_len keys_cap) (fun l vs w'=>l=0∧R (.returned (retVal vs)) w') w):Calls Tryz.prog 25 #[(.string text),(.agg #[(.int .i64 p_0),(.int .i64 p_1),(.int .i64 p_2),(.slice p_3 p_3_len p_3_cap),(.slice p_4 p_4_len p_4_cap)]),(.slice keys keys_len keys_cap)] w R:=
 have h:=calls_of_tree (w:=w) (R:=R) (args:=[.v (.string text),.v (.agg #[(.int .i64 p_0),(.int .i64 p_1),(.int .i64 p_2),(.slice p_3 p_3_len p_3_cap),(.slice p_4 p_4_len p_4_cap)]),.v (.slice keys keys_len keys_cap)]) (c:=laws_jpTokens.c) Tryz.func25 (show Tryz.f25.body=some laws_jpTokens.c by kernel_rfl) (of_decide_eq_true (by kernel_rfl)) (laws_jpTokens.e text p_0 p_1 p_2 p_3 p_3_len p_3_cap p_4 p_4_len p_4_cap keys keys_len keys_cap) hs
 h
def spec_PutDeep.t1 (q1:(Option Addr)) (q1_len:Nat) (z0:Addr) (z1:Addr) (z2:Addr) (i11:Int):T:=
 .ite (decide (i11 > 0)) (
 .drew <|
 .chk ((0≤i11)∧(i11<(q1_len:Int))) <|
 .ptr q1 fun (z12:Addr)=>
 .load (Addr.add z12 ((Int.toNat i11) * 1)) .str fun (s13:ByteArray)=>
 .effQ (Instr.loadAt 34 (.pointer (some z1))) (.agg (.cons (.int .i64) (.cons .str (.cons .slice (.cons .slice .nil))))) fun (z14:(Int×(ByteArray×((Option Addr×Nat×Nat)×((Option Addr×Nat×Nat)×PUnit)))))=>
 .both (
 .here fun (z15:World)=>
 .eff (Instr.buildSlice 22 1 #[(0,(.string s13))]) .slice fun (z16:(Option Addr×Nat×Nat))=>
 .grew z15 <|
 .eff (Instr.buildSlice 32 1 #[(0,(.agg #[(.int .i64 z14.1),(.string z14.2.1),(.slice z14.2.2.1.1 z14.2.2.1.2.1 z14.2.2.1.2.2),(.slice z14.2.2.2.1.1 z14.2.2.2.1.2.1 z14.2.2.2.1.2.2)]))]) .slice fun (z17:(Option Addr×Nat×Nat))=>
 .effU (Instr.storeAt 34 (.pointer (some z1)) (.agg #[(.int .i64 6),(.string (ByteArray.mk #[])),(.slice z16.1 z16.2.1 z16.2.2),(.slice z17.1 z17.2.1 z17.2.2)])) <|
 .leaf 1 [(.int .i64 (IntKind.wrap .i64 (i11-1)))]) (
 .here fun (z18:World)=>
 .eff (Instr.buildSlice 32 1 #[(0,(.agg #[(.int .i64 z14.1),(.string z14.2.1),(.slice z14.2.2.1.1 z14.2.2.1.2.1 z14.2.2.1.2.2),(.slice z14.2.2.2.1.1 z14.2.2.2.1.2.1 z14.2.2.2.1.2.2)]))]) .slice fun (z19:(Option Addr×Nat×Nat))=>
 .grew z18 <|
 .eff (Instr.buildSlice 22 1 #[(0,(.string s13))]) .slice fun (z20:(Option Addr×Nat×Nat))=>
 .effU (Instr.storeAt 34 (.pointer (some z1)) (.agg #[(.int .i64 6),(.string (ByteArray.mk #[])),(.slice z20.1 z20.2.1 z20.2.2),(.slice z19.1 z19.2.1 z19.2.2)])) <|
 .leaf 1 [(.int .i64 (IntKind.wrap .i64 (i11-1)))])) (
 .drew <|
 .effS (Instr.loadAt 34 (.pointer (some z0))) (.agg (.cons (.int .i64) (.cons .str (.cons .slice (.cons .slice .nil))))) fun (z21:(Int×(ByteArray×((Option Addr×Nat×Nat)×((Option Addr×Nat×Nat)×PUnit)))))=>
 .chk (((0 :Int)≤(0 :Int))∧(0<(q1_len:Int))) <|
 .ptr q1 fun (z22:Addr)=>
 .load (Addr.add z22 0) .str fun (s23:ByteArray)=>
 .effS (Instr.loadAt 34 (.pointer (some z1))) (.agg (.cons (.int .i64) (.cons .str (.cons .slice (.cons .slice .nil))))) fun (z24:(Int×(ByteArray×((Option Addr×Nat×Nat)×((Option Addr×Nat×Nat)×PUnit)))))=>
 .call 40 #[(.agg #[(.int .i64 z21.1),(.string z21.2.1),(.slice z21.2.2.1.1 z21.2.2.1.2.1 z21.2.2.1.2.2),(.slice z21.2.2.2.1.1 z21.2.2.2.1.2.1 z21.2.2.2.1.2.2)]),(.string s23),(.agg #[(.int .i64 z24.1),(.string z24.2.1),(.slice z24.2.2.1.1 z24.2.2.1.2.1 z24.2.2.1.2.2),(.slice z24.2.2.2.1.1 z24.2.2.2.1.2.1 z24.2.2.2.1.2.2)])] (.agg (.cons (.int .i64) (.cons .str (.cons .slice (.cons .slice .nil))))) fun (z25:(Int×(ByteArray×((Option Addr×Nat×Nat)×((Option Addr×Nat×Nat)×PUnit)))))=>
 .effU (Instr.storeAt 34 (.pointer (some z2)) (.agg #[(.int .i64 z25.1),(.string z25.2.1),(.slice z25.2.2.1.1 z25.2.2.1.2.1 z25.2.2.1.2.2),(.slice z25.2.2.2.1.1 z25.2.2.2.1.2.1 z25.2.2.2.1.2.2)])) <|
 .effS (Instr.loadAt 34 (.pointer (some z2))) (.agg (.cons (.int .i64) (.cons .str (.cons .slice (.cons .slice .nil))))) fun (z26:(Int×(ByteArray×((Option Addr×Nat×Nat)×((Option Addr×Nat×Nat)×PUnit)))))=>
 .leaf 0 [(.agg #[(.int .i64 z26.1),(.string z26.2.1),(.slice z26.2.2.1.1 z26.2.2.1.2.1 z26.2.2.1.2.2),(.slice z26.2.2.2.1.1 z26.2.2.2.1.2.1 z26.2.2.2.1.2.2)]),(.bool true)])
def spec_PutDeep.t (q0_0:Int) (q0_1:ByteArray) (q0_2:(Option Addr)) (q0_2_len:Nat) (q0_2_cap:Nat) (q0_3:(Option Addr)) (q0_3_len:Nat) (q0_3_cap:Nat) (q1:(Option Addr)) (q1_len:Nat) (q1_cap:Nat) (q2_0:Int) (q2_1:ByteArray) (q2_2:(Option Addr)) (q2_2_len:Nat) (q2_2_cap:Nat) (q2_3:(Option Addr)) (q2_3_len:Nat) (q2_3_cap:Nat):T:=
 .alloc (Obj.cells #[(.int .i64 q0_0),(.string q0_1),(.slice q0_2 q0_2_len q0_2_cap),(.slice q0_3 q0_3_len q0_3_cap)] 34 (0,0)) fun (z0:Addr)=>
 .alloc (Obj.cells #[(.int .i64 q2_0),(.string q2_1),(.slice q2_2 q2_2_len q2_2_cap),(.slice q2_3 q2_3_len q2_3_cap)] 34 (0,0)) fun (z1:Addr)=>
 .alloc (Obj.cells #[(.int .i64 0),(.string (ByteArray.mk #[])),(.slice none 0 0),(.slice none 0 0)] 34 (0,0)) fun (z2:Addr)=>
 .ite ((q1_len:Int)==0) (
 .eff (Instr.loadAt 34 (.pointer (some z1))) (.agg (.cons (.int .i64) (.cons .str (.cons .slice (.cons .slice .nil))))) fun (z3:(Int×(ByteArray×((Option Addr×Nat×Nat)×((Option Addr×Nat×Nat)×PUnit)))))=>
 .effU (Instr.storeAt 34 (.pointer (some z2)) (.agg #[(.int .i64 z3.1),(.string z3.2.1),(.slice z3.2.2.1.1 z3.2.2.1.2.1 z3.2.2.1.2.2),(.slice z3.2.2.2.1.1 z3.2.2.2.1.2.1 z3.2.2.2.1.2.2)])) <|
 .effS (Instr.loadAt 34 (.pointer (some z2))) (.agg (.cons (.int .i64) (.cons .str (.cons .slice (.cons .slice .nil))))) fun (z4:(Int×(ByteArray×((Option Addr×Nat×Nat)×((Option Addr×Nat×Nat)×PUnit)))))=>
 .leaf 0 [(.agg #[(.int .i64 z4.1),(.string z4.2.1),(.slice z4.2.2.1.1 z4.2.2.1.2.1 z4.2.2.1.2.2),(.slice z4.2.2.2.1.1 z4.2.2.2.1.2.1 z4.2.2.2.1.2.2)]),(.bool true)]) (
 .load (Addr.add z0 0) (.int .i64) fun (i5:Int)=>
 .ite (i5 != 6) (
 .effU (Instr.storeAt 34 (.pointer (some z2)) (.agg #[(.int .i64 0),(.string (ByteArray.mk #[])),(.slice none 0 0),(.slice none 0 0)])) <|
 .effS (Instr.loadAt 34 (.pointer (some z2))) (.agg (.cons (.int .i64) (.cons .str (.cons .slice (.cons .slice .nil))))) fun (z6:(Int×(ByteArray×((Option Addr×Nat×Nat)×((Option Addr×Nat×Nat)×PUnit)))))=>
 .leaf 0 [(.agg #[(.int .i64 z6.1),(.string z6.2.1),(.slice z6.2.2.1.1 z6.2.2.1.2.1 z6.2.2.1.2.2),(.slice z6.2.2.2.1.1 z6.2.2.2.1.2.1 z6.2.2.2.1.2.2)]),(.bool false)]) (
 .drew <|
 .effS (Instr.loadAt 34 (.pointer (some z0))) (.agg (.cons (.int .i64) (.cons .str (.cons .slice (.cons .slice .nil))))) fun (z7:(Int×(ByteArray×((Option Addr×Nat×Nat)×((Option Addr×Nat×Nat)×PUnit)))))=>
 .chk (((0 :Int)≤(0 :Int))∧(0<(q1_len:Int))) <|
 .ptr q1 fun (z8:Addr)=>
 .load (Addr.add z8 0) .str fun (s9:ByteArray)=>
 .call 39 #[(.agg #[(.int .i64 z7.1),(.string z7.2.1),(.slice z7.2.2.1.1 z7.2.2.1.2.1 z7.2.2.1.2.2),(.slice z7.2.2.2.1.1 z7.2.2.2.1.2.1 z7.2.2.2.1.2.2)]),(.string s9)] (.int .i64) fun (i10:Int)=>
 .ite (decide (i10<0)) (
 .loop 1 (.cons (.int .i64) .nil) [(.int .i64 (IntKind.wrap .i64 ((q1_len:Int)-1)))]
 (fun z=>spec_PutDeep.t1 q1 q1_len z0 z1 z2 z.1)) (
 .drew <|
 .load (Addr.add z0 3) .slice fun (z27:(Option Addr×Nat×Nat))=>
 .chk ((0≤i10)∧(i10<(z27.2.1:Int))) <|
 .ptr z27.1 fun (z28:Addr)=>
 .effQ (Instr.loadAt 34 (.pointer (some (Addr.add z28 ((Int.toNat i10) * 4))))) (.agg (.cons (.int .i64) (.cons .str (.cons .slice (.cons .slice .nil))))) fun (z29:(Int×(ByteArray×((Option Addr×Nat×Nat)×((Option Addr×Nat×Nat)×PUnit)))))=>
 .chk (((0 :Int)≤(1 :Int))∧((1≤(q1_len:Int))∧((q1_len:Int)≤(q1_cap:Int)))) <|
 .effQ (Instr.loadAt 34 (.pointer (some z1))) (.agg (.cons (.int .i64) (.cons .str (.cons .slice (.cons .slice .nil))))) fun (z30:(Int×(ByteArray×((Option Addr×Nat×Nat)×((Option Addr×Nat×Nat)×PUnit)))))=>
 .both (
 .call 22 #[(.agg #[(.int .i64 z29.1),(.string z29.2.1),(.slice z29.2.2.1.1 z29.2.2.1.2.1 z29.2.2.1.2.2),(.slice z29.2.2.2.1.1 z29.2.2.2.1.2.1 z29.2.2.2.1.2.2)]),(.slice (if (q1_cap=1) then q1 else (Option.map (fun (y31:Addr)=>(Addr.add y31 1)) q1)) ((Int.toNat (q1_len:Int))-1) (q1_cap-1)),(.agg #[(.int .i64 z30.1),(.string z30.2.1),(.slice z30.2.2.1.1 z30.2.2.1.2.1 z30.2.2.1.2.2),(.slice z30.2.2.2.1.1 z30.2.2.2.1.2.1 z30.2.2.2.1.2.2)])] (.tuple (.cons (.agg (.cons (.int .i64) (.cons .str (.cons .slice (.cons .slice .nil))))) (.cons .bool .nil))) fun (z32:((Int×(ByteArray×((Option Addr×Nat×Nat)×((Option Addr×Nat×Nat)×PUnit))))×(Bool×PUnit)))=>
 .alloc (Obj.cells #[(.int .i64 0),(.string (ByteArray.mk #[])),(.slice none 0 0),(.slice none 0 0)] 34 (0,0)) fun (z33:Addr)=>
 .effU (Instr.storeAt 34 (.pointer (some z33)) (.agg #[(.int .i64 z32.1.1),(.string z32.1.2.1),(.slice z32.1.2.2.1.1 z32.1.2.2.1.2.1 z32.1.2.2.1.2.2),(.slice z32.1.2.2.2.1.1 z32.1.2.2.2.1.2.1 z32.1.2.2.2.1.2.2)])) <|
 .eff (Instr.loadAt 34 (.pointer (some z0))) (.agg (.cons (.int .i64) (.cons .str (.cons .slice (.cons .slice .nil))))) fun (z34:(Int×(ByteArray×((Option Addr×Nat×Nat)×((Option Addr×Nat×Nat)×PUnit)))))=>
 .eff (Instr.loadAt 34 (.pointer (some z33))) (.agg (.cons (.int .i64) (.cons .str (.cons .slice (.cons .slice .nil))))) fun (z35:(Int×(ByteArray×((Option Addr×Nat×Nat)×((Option Addr×Nat×Nat)×PUnit)))))=>
 .call 41 #[(.agg #[(.int .i64 z34.1),(.string z34.2.1),(.slice z34.2.2.1.1 z34.2.2.1.2.1 z34.2.2.1.2.2),(.slice z34.2.2.2.1.1 z34.2.2.2.1.2.1 z34.2.2.2.1.2.2)]),(.int .i64 i10),(.agg #[(.int .i64 z35.1),(.string z35.2.1),(.slice z35.2.2.1.1 z35.2.2.1.2.1 z35.2.2.1.2.2),(.slice z35.2.2.2.1.1 z35.2.2.2.1.2.1 z35.2.2.2.1.2.2)])] (.agg (.cons (.int .i64) (.cons .str (.cons .slice (.cons .slice .nil))))) fun (z36:(Int×(ByteArray×((Option Addr×Nat×Nat)×((Option Addr×Nat×Nat)×PUnit)))))=>
 .effU (Instr.storeAt 34 (.pointer (some z2)) (.agg #[(.int .i64 z36.1),(.string z36.2.1),(.slice z36.2.2.1.1 z36.2.2.1.2.1 z36.2.2.1.2.2),(.slice z36.2.2.2.1.1 z36.2.2.2.1.2.1 z36.2.2.2.1.2.2)])) <|
 .effS (Instr.loadAt 34 (.pointer (some z2))) (.agg (.cons (.int .i64) (.cons .str (.cons .slice (.cons .slice .nil))))) fun (z37:(Int×(ByteArray×((Option Addr×Nat×Nat)×((Option Addr×Nat×Nat)×PUnit)))))=>
 .leaf 0 [(.agg #[(.int .i64 z37.1),(.string z37.2.1),(.slice z37.2.2.1.1 z37.2.2.1.2.1 z37.2.2.1.2.2),(.slice z37.2.2.2.1.1 z37.2.2.2.1.2.1 z37.2.2.2.1.2.2)]),(.bool z32.2.1)]) (
 .here fun (z38:World)=>
 .alloc (Obj.cells #[(.int .i64 0),(.string (ByteArray.mk #[])),(.slice none 0 0),(.slice none 0 0)] 34 (0,0)) fun (z39:Addr)=>
 .grew z38 <|
 .call 22 #[(.agg #[(.int .i64 z29.1),(.string z29.2.1),(.slice z29.2.2.1.1 z29.2.2.1.2.1 z29.2.2.1.2.2),(.slice z29.2.2.2.1.1 z29.2.2.2.1.2.1 z29.2.2.2.1.2.2)]),(.slice (if (q1_cap=1) then q1 else (Option.map (fun (y40:Addr)=>(Addr.add y40 1)) q1)) ((Int.toNat (q1_len:Int))-1) (q1_cap-1)),(.agg #[(.int .i64 z30.1),(.string z30.2.1),(.slice z30.2.2.1.1 z30.2.2.1.2.1 z30.2.2.1.2.2),(.slice z30.2.2.2.1.1 z30.2.2.2.1.2.1 z30.2.2.2.1.2.2)])] (.tuple (.cons (.agg (.cons (.int .i64) (.cons .str (.cons .slice (.cons .slice .nil))))) (.cons .bool .nil))) fun (z41:((Int×(ByteArray×((Option Addr×Nat×Nat)×((Option Addr×Nat×Nat)×PUnit))))×(Bool×PUnit)))=>
 .effU (Instr.storeAt 34 (.pointer (some z39)) (.agg #[(.int .i64 z41.1.1),(.string z41.1.2.1),(.slice z41.1.2.2.1.1 z41.1.2.2.1.2.1 z41.1.2.2.1.2.2),(.slice z41.1.2.2.2.1.1 z41.1.2.2.2.1.2.1 z41.1.2.2.2.1.2.2)])) <|
 .eff (Instr.loadAt 34 (.pointer (some z0))) (.agg (.cons (.int .i64) (.cons .str (.cons .slice (.cons .slice .nil))))) fun (z42:(Int×(ByteArray×((Option Addr×Nat×Nat)×((Option Addr×Nat×Nat)×PUnit)))))=>
 .eff (Instr.loadAt 34 (.pointer (some z39))) (.agg (.cons (.int .i64) (.cons .str (.cons .slice (.cons .slice .nil))))) fun (z43:(Int×(ByteArray×((Option Addr×Nat×Nat)×((Option Addr×Nat×Nat)×PUnit)))))=>
 .call 41 #[(.agg #[(.int .i64 z42.1),(.string z42.2.1),(.slice z42.2.2.1.1 z42.2.2.1.2.1 z42.2.2.1.2.2),(.slice z42.2.2.2.1.1 z42.2.2.2.1.2.1 z42.2.2.2.1.2.2)]),(.int .i64 i10),(.agg #[(.int .i64 z43.1),(.string z43.2.1),(.slice z43.2.2.1.1 z43.2.2.1.2.1 z43.2.2.1.2.2),(.slice z43.2.2.2.1.1 z43.2.2.2.1.2.1 z43.2.2.2.1.2.2)])] (.agg (.cons (.int .i64) (.cons .str (.cons .slice (.cons .slice .nil))))) fun (z44:(Int×(ByteArray×((Option Addr×Nat×Nat)×((Option Addr×Nat×Nat)×PUnit)))))=>
 .effU (Instr.storeAt 34 (.pointer (some z2)) (.agg #[(.int .i64 z44.1),(.string z44.2.1),(.slice z44.2.2.1.1 z44.2.2.1.2.1 z44.2.2.1.2.2),(.slice z44.2.2.2.1.1 z44.2.2.2.1.2.1 z44.2.2.2.1.2.2)])) <|
 .effS (Instr.loadAt 34 (.pointer (some z2))) (.agg (.cons (.int .i64) (.cons .str (.cons .slice (.cons .slice .nil))))) fun (z45:(Int×(ByteArray×((Option Addr×Nat×Nat)×((Option Addr×Nat×Nat)×PUnit)))))=>
 .leaf 0 [(.agg #[(.int .i64 z45.1),(.string z45.2.1),(.slice z45.2.2.1.1 z45.2.2.1.2.1 z45.2.2.1.2.2),(.slice z45.2.2.2.1.1 z45.2.2.2.1.2.1 z45.2.2.2.1.2.2)]),(.bool z41.2.1)]))))
def spec_PutDeep.h:Hints:=⟨[],[],[],[(8,[(9,(.int .i64))])]⟩
noncomputable def spec_PutDeep.c:Code:=(Tryz.f22.body).getD .skip
theorem spec_PutDeep.e (q0_0:Int) (q0_1:ByteArray) (q0_2:(Option Addr)) (q0_2_len:Nat) (q0_2_cap:Nat) (q0_3:(Option Addr)) (q0_3_len:Nat) (q0_3_cap:Nat) (q1:(Option Addr)) (q1_len:Nat) (q1_cap:Nat) (q2_0:Int) (q2_1:ByteArray) (q2_2:(Option Addr)) (q2_2_len:Nat) (q2_2_cap:Nat) (q2_3:(Option Addr)) (q2_3_len:Nat) (q2_3_cap:Nat):fnT Tryz.prog spec_PutDeep.h Tryz.f22 spec_PutDeep.c [.v (.agg #[(.int .i64 q0_0),(.string q0_1),(.slice q0_2 q0_2_len q0_2_cap),(.slice q0_3 q0_3_len q0_3_cap)]),.v (.slice q1 q1_len q1_cap),.v (.agg #[(.int .i64 q2_0),(.string q2_1),(.slice q2_2 q2_2_len q2_2_cap),(.slice q2_3 q2_3_len q2_3_cap)])]=spec_PutDeep.t q0_0 q0_1 q0_2 q0_2_len q0_2_cap q0_3 q0_3_len q0_3_cap q1 q1_len q1_cap q2_0 q2_1 q2_2 q2_2_len q2_2_cap q2_3 q2_3_len q2_3_cap:=by kernel_rfl
theorem spec_PutDeep.calls (q0_0:Int) (q0_1:ByteArray) (q0_2:(Option Addr)) (q0_2_len:Nat) (q0_2_cap:Nat) (q0_3:(Option Addr)) (q0_3_len:Nat) (q0_3_cap:Nat) (q1:(Option Addr)) (q1_len:Nat) (q1_cap:Nat) (q2_0:Int) (q2_1:ByteArray) (q2_2:(Option Addr)) (q2_2_len:Nat) (q2_2_cap:Nat) (q2_3:(Option Addr)) (q2_3_len:Nat) (q2_3_cap:Nat) {w:World} {R:Ending→World→Prop} (hs:sat Tryz.prog (spec_PutDeep.t q0_0 q0_1 q0_2 q0_2_len q0_2_cap q0_3 q0_3_len q0_3_cap q1 q1_len q1_cap q2_0 q2_1 q2_2 q2_2_len q2_2_cap q2_3 q2_3_len q2_3_cap) (fun l vs w'=>l=0∧R (.returned (retVal vs)) w') w):Calls Tryz.prog 22 #[(.agg #[(.int .i64 q0_0),(.string q0_1),(.slice q0_2 q0_2_len q0_2_cap),(.slice q0_3 q0_3_len q0_3_cap)]),(.slice q1 q1_len q1_cap),(.agg #[(.int .i64 q2_0),(.string q2_1),(.slice q2_2 q2_2_len q2_2_cap),(.slice q2_3 q2_3_len q2_3_cap)])] w R:=
 have h:=calls_of_tree (w:=w) (R:=R) (args:=[.v (.agg #[(.int .i64 q0_0),(.string q0_1),(.slice q0_2 q0_2_len q0_2_cap),(.slice q0_3 q0_3_len q0_3_cap)]),.v (.slice q1 q1_len q1_cap),.v (.agg #[(.int .i64 q2_0),(.string q2_1),(.slice q2_2 q2_2_len q2_2_cap),(.slice q2_3 q2_3_len q2_3_cap)])]) (c:=spec_PutDeep.c) Tryz.func22 (show Tryz.f22.body=some spec_PutDeep.c by kernel_rfl) (of_decide_eq_true (by kernel_rfl)) (spec_PutDeep.e q0_0 q0_1 q0_2 q0_2_len q0_2_cap q0_3 q0_3_len q0_3_cap q1 q1_len q1_cap q2_0 q2_1 q2_2 q2_2_len q2_2_cap q2_3 q2_3_len q2_3_cap) hs
 h
def spec_Member.t1 (name:ByteArray) (z1:(Option Addr×Nat×Nat)) (i2:Int):T:=
 .ite (decide (i2<(z1.2.1:Int))) (
 .chk ((0≤i2)∧(i2<(z1.2.1:Int))) <|
 .ptr z1.1 fun (z3:Addr)=>
 .load (Addr.add z3 ((Int.toNat i2) * 1)) .str fun (s4:ByteArray)=>
 .ite (strEq s4 name) (
 .leaf 0 [(.int .i64 i2)]) (
 .leaf 1 [(.int .i64 (IntKind.wrap .i64 (i2+1)))])) (
 .leaf 0 [(.int .i64 (-1))])
def spec_Member.t (object_0:Int) (object_1:ByteArray) (object_2:(Option Addr)) (object_2_len:Nat) (object_2_cap:Nat) (object_3:(Option Addr)) (object_3_len:Nat) (object_3_cap:Nat) (name:ByteArray):T:=
 .alloc (Obj.cells #[(.int .i64 object_0),(.string object_1),(.slice object_2 object_2_len object_2_cap),(.slice object_3 object_3_len object_3_cap)] 34 (0,0)) fun (z0:Addr)=>
 .load (Addr.add z0 2) .slice fun (z1:(Option Addr×Nat×Nat))=>
 .loop 1 (.cons (.int .i64) .nil) [(.int .i64 0)]
 (fun z=>spec_Member.t1 name z1 z.1)
def spec_Member.h:Hints:=⟨[],[],[],[(2,[(10,(.int .i64))])]⟩
noncomputable def spec_Member.c:Code:=(Tryz.f39.body).getD .skip
theorem spec_Member.e (object_0:Int) (object_1:ByteArray) (object_2:(Option Addr)) (object_2_len:Nat) (object_2_cap:Nat) (object_3:(Option Addr)) (object_3_len:Nat) (object_3_cap:Nat) (name:ByteArray):fnT Tryz.prog spec_Member.h Tryz.f39 spec_Member.c [.v (.agg #[(.int .i64 object_0),(.string object_1),(.slice object_2 object_2_len object_2_cap),(.slice object_3 object_3_len object_3_cap)]),.v (.string name)]=spec_Member.t object_0 object_1 object_2 object_2_len object_2_cap object_3 object_3_len object_3_cap name:=by kernel_rfl
theorem spec_Member.calls (object_0:Int) (object_1:ByteArray) (object_2:(Option Addr)) (object_2_len:Nat) (object_2_cap:Nat) (object_3:(Option Addr)) (object_3_len:Nat) (object_3_cap:Nat) (name:ByteArray) {w:World} {R:Ending→World→Prop} (hs:sat Tryz.prog (spec_Member.t object_0 object_1 object_2 object_2_len object_2_cap object_3 object_3_len object_3_cap name) (fun l vs w'=>l=0∧R (.returned (retVal vs)) w') w):Calls Tryz.prog 39 #[(.agg #[(.int .i64 object_0),(.string object_1),(.slice object_2 object_2_len object_2_cap),(.slice object_3 object_3_len object_3_cap)]),(.string name)] w R:=
 have h:=calls_of_tree (w:=w) (R:=R) (args:=[.v (.agg #[(.int .i64 object_0),(.string object_1),(.slice object_2 object_2_len object_2_cap),(.slice object_3 object_3_len object_3_cap)]),.v (.string name)]) (c:=spec_Member.c) Tryz.func39 (show Tryz.f39.body=some spec_Member.c by kernel_rfl) (of_decide_eq_true (by kernel_rfl)) (spec_Member.e object_0 object_1 object_2 object_2_len object_2_cap object_3 object_3_len object_3_cap name) hs
 h
def spec_appended.t (node_0:Int) (node_1:ByteArray) (node_2:(Option Addr)) (node_2_len:Nat) (node_2_cap:Nat) (node_3:(Option Addr)) (node_3_len:Nat) (node_3_cap:Nat) (name:ByteArray) (kid_0:Int) (kid_1:ByteArray) (kid_2:(Option Addr)) (kid_2_len:Nat) (kid_2_cap:Nat) (kid_3:(Option Addr)) (kid_3_len:Nat) (kid_3_cap:Nat):T:=
 .alloc (Obj.cells #[(.int .i64 node_0),(.string node_1),(.slice node_2 node_2_len node_2_cap),(.slice node_3 node_3_len node_3_cap)] 34 (0,0)) fun (z0:Addr)=>
 .alloc (Obj.cells #[(.int .i64 kid_0),(.string kid_1),(.slice kid_2 kid_2_len kid_2_cap),(.slice kid_3 kid_3_len kid_3_cap)] 34 (0,0)) fun (z1:Addr)=>
 .alloc (Obj.cells #[(.int .i64 0),(.string (ByteArray.mk #[])),(.slice none 0 0),(.slice none 0 0)] 34 (0,0)) fun (z2:Addr)=>
 .eff (Instr.buildSlice 22 0 #[]) .slice fun (z3:(Option Addr×Nat×Nat))=>
 .load (Addr.add z0 2) .slice fun (z4:(Option Addr×Nat×Nat))=>
 .eff (Builtin.append_ (Call.argTypes (Call.mk (Callee.builtin Builtin.append) #[(Operand.tmp 7),(Operand.tmp 9)] #[22,22])) 22 #[(.slice z3.1 z3.2.1 z3.2.2),(.slice z4.1 z4.2.1 z4.2.2)]) .slice fun (z5:(Option Addr×Nat×Nat))=>
 .eff (Instr.buildSlice 22 1 #[(0,(.string name))]) .slice fun (z6:(Option Addr×Nat×Nat))=>
 .eff (Builtin.append_ (Call.argTypes (Call.mk (Callee.builtin Builtin.append) #[(Operand.tmp 10),(Operand.tmp 12)] #[22,22])) 22 #[(.slice z5.1 z5.2.1 z5.2.2),(.slice z6.1 z6.2.1 z6.2.2)]) .slice fun (z7:(Option Addr×Nat×Nat))=>
 .store (Addr.add z0 2) (.slice z7.1 z7.2.1 z7.2.2) <|
 .drew <|
 .load (Addr.add z0 3) .slice fun (z8:(Option Addr×Nat×Nat))=>
 .effQ (Instr.loadAt 34 (.pointer (some z1))) (.agg (.cons (.int .i64) (.cons .str (.cons .slice (.cons .slice .nil))))) fun (z9:(Int×(ByteArray×((Option Addr×Nat×Nat)×((Option Addr×Nat×Nat)×PUnit)))))=>
 .both (
 .here fun (z10:World)=>
 .eff (Instr.buildSlice 32 0 #[]) .slice fun (z11:(Option Addr×Nat×Nat))=>
 .grew z10 <|
 .both (
 .here fun (z12:World)=>
 .eff (Builtin.append_ (Call.argTypes (Call.mk (Callee.builtin Builtin.append) #[(Operand.tmp 15),(Operand.tmp 17)] #[32,32])) 32 #[(.slice z11.1 z11.2.1 z11.2.2),(.slice z8.1 z8.2.1 z8.2.2)]) .slice fun (z13:(Option Addr×Nat×Nat))=>
 .grew z12 <|
 .eff (Instr.buildSlice 32 1 #[(0,(.agg #[(.int .i64 z9.1),(.string z9.2.1),(.slice z9.2.2.1.1 z9.2.2.1.2.1 z9.2.2.1.2.2),(.slice z9.2.2.2.1.1 z9.2.2.2.1.2.1 z9.2.2.2.1.2.2)]))]) .slice fun (z14:(Option Addr×Nat×Nat))=>
 .eff (Builtin.append_ (Call.argTypes (Call.mk (Callee.builtin Builtin.append) #[(Operand.tmp 18),(Operand.tmp 20)] #[32,32])) 32 #[(.slice z13.1 z13.2.1 z13.2.2),(.slice z14.1 z14.2.1 z14.2.2)]) .slice fun (z15:(Option Addr×Nat×Nat))=>
 .store (Addr.add z0 3) (.slice z15.1 z15.2.1 z15.2.2) <|
 .eff (Instr.loadAt 34 (.pointer (some z0))) (.agg (.cons (.int .i64) (.cons .str (.cons .slice (.cons .slice .nil))))) fun (z16:(Int×(ByteArray×((Option Addr×Nat×Nat)×((Option Addr×Nat×Nat)×PUnit)))))=>
 .effU (Instr.storeAt 34 (.pointer (some z2)) (.agg #[(.int .i64 z16.1),(.string z16.2.1),(.slice z16.2.2.1.1 z16.2.2.1.2.1 z16.2.2.1.2.2),(.slice z16.2.2.2.1.1 z16.2.2.2.1.2.1 z16.2.2.2.1.2.2)])) <|
 .effS (Instr.loadAt 34 (.pointer (some z2))) (.agg (.cons (.int .i64) (.cons .str (.cons .slice (.cons .slice .nil))))) fun (z17:(Int×(ByteArray×((Option Addr×Nat×Nat)×((Option Addr×Nat×Nat)×PUnit)))))=>
 .leaf 0 [(.agg #[(.int .i64 z17.1),(.string z17.2.1),(.slice z17.2.2.1.1 z17.2.2.1.2.1 z17.2.2.1.2.2),(.slice z17.2.2.2.1.1 z17.2.2.2.1.2.1 z17.2.2.2.1.2.2)])]) (
 .here fun (z18:World)=>
 .eff (Instr.buildSlice 32 1 #[(0,(.agg #[(.int .i64 z9.1),(.string z9.2.1),(.slice z9.2.2.1.1 z9.2.2.1.2.1 z9.2.2.1.2.2),(.slice z9.2.2.2.1.1 z9.2.2.2.1.2.1 z9.2.2.2.1.2.2)]))]) .slice fun (z19:(Option Addr×Nat×Nat))=>
 .grew z18 <|
 .eff (Builtin.append_ (Call.argTypes (Call.mk (Callee.builtin Builtin.append) #[(Operand.tmp 15),(Operand.tmp 17)] #[32,32])) 32 #[(.slice z11.1 z11.2.1 z11.2.2),(.slice z8.1 z8.2.1 z8.2.2)]) .slice fun (z20:(Option Addr×Nat×Nat))=>
 .eff (Builtin.append_ (Call.argTypes (Call.mk (Callee.builtin Builtin.append) #[(Operand.tmp 18),(Operand.tmp 20)] #[32,32])) 32 #[(.slice z20.1 z20.2.1 z20.2.2),(.slice z19.1 z19.2.1 z19.2.2)]) .slice fun (z21:(Option Addr×Nat×Nat))=>
 .store (Addr.add z0 3) (.slice z21.1 z21.2.1 z21.2.2) <|
 .eff (Instr.loadAt 34 (.pointer (some z0))) (.agg (.cons (.int .i64) (.cons .str (.cons .slice (.cons .slice .nil))))) fun (z22:(Int×(ByteArray×((Option Addr×Nat×Nat)×((Option Addr×Nat×Nat)×PUnit)))))=>
 .effU (Instr.storeAt 34 (.pointer (some z2)) (.agg #[(.int .i64 z22.1),(.string z22.2.1),(.slice z22.2.2.1.1 z22.2.2.1.2.1 z22.2.2.1.2.2),(.slice z22.2.2.2.1.1 z22.2.2.2.1.2.1 z22.2.2.2.1.2.2)])) <|
 .effS (Instr.loadAt 34 (.pointer (some z2))) (.agg (.cons (.int .i64) (.cons .str (.cons .slice (.cons .slice .nil))))) fun (z23:(Int×(ByteArray×((Option Addr×Nat×Nat)×((Option Addr×Nat×Nat)×PUnit)))))=>
 .leaf 0 [(.agg #[(.int .i64 z23.1),(.string z23.2.1),(.slice z23.2.2.1.1 z23.2.2.1.2.1 z23.2.2.1.2.2),(.slice z23.2.2.2.1.1 z23.2.2.2.1.2.1 z23.2.2.2.1.2.2)])])) (
 .here fun (z24:World)=>
 .eff (Instr.buildSlice 32 1 #[(0,(.agg #[(.int .i64 z9.1),(.string z9.2.1),(.slice z9.2.2.1.1 z9.2.2.1.2.1 z9.2.2.1.2.2),(.slice z9.2.2.2.1.1 z9.2.2.2.1.2.1 z9.2.2.2.1.2.2)]))]) .slice fun (z25:(Option Addr×Nat×Nat))=>
 .grew z24 <|
 .here fun (z26:World)=>
 .eff (Instr.buildSlice 32 0 #[]) .slice fun (z27:(Option Addr×Nat×Nat))=>
 .grew z26 <|
 .eff (Builtin.append_ (Call.argTypes (Call.mk (Callee.builtin Builtin.append) #[(Operand.tmp 15),(Operand.tmp 17)] #[32,32])) 32 #[(.slice z27.1 z27.2.1 z27.2.2),(.slice z8.1 z8.2.1 z8.2.2)]) .slice fun (z28:(Option Addr×Nat×Nat))=>
 .eff (Builtin.append_ (Call.argTypes (Call.mk (Callee.builtin Builtin.append) #[(Operand.tmp 18),(Operand.tmp 20)] #[32,32])) 32 #[(.slice z28.1 z28.2.1 z28.2.2),(.slice z25.1 z25.2.1 z25.2.2)]) .slice fun (z29:(Option Addr×Nat×Nat))=>
 .store (Addr.add z0 3) (.slice z29.1 z29.2.1 z29.2.2) <|
 .eff (Instr.loadAt 34 (.pointer (some z0))) (.agg (.cons (.int .i64) (.cons .str (.cons .slice (.cons .slice .nil))))) fun (z30:(Int×(ByteArray×((Option Addr×Nat×Nat)×((Option Addr×Nat×Nat)×PUnit)))))=>
 .effU (Instr.storeAt 34 (.pointer (some z2)) (.agg #[(.int .i64 z30.1),(.string z30.2.1),(.slice z30.2.2.1.1 z30.2.2.1.2.1 z30.2.2.1.2.2),(.slice z30.2.2.2.1.1 z30.2.2.2.1.2.1 z30.2.2.2.1.2.2)])) <|
 .effS (Instr.loadAt 34 (.pointer (some z2))) (.agg (.cons (.int .i64) (.cons .str (.cons .slice (.cons .slice .nil))))) fun (z31:(Int×(ByteArray×((Option Addr×Nat×Nat)×((Option Addr×Nat×Nat)×PUnit)))))=>
 .leaf 0 [(.agg #[(.int .i64 z31.1),(.string z31.2.1),(.slice z31.2.2.1.1 z31.2.2.1.2.1 z31.2.2.1.2.2),(.slice z31.2.2.2.1.1 z31.2.2.2.1.2.1 z31.2.2.2.1.2.2)])])
def spec_appended.h:Hints:=⟨[],[],[],[]⟩
noncomputable def spec_appended.c:Code:=(Tryz.f40.body).getD .skip
theorem spec_appended.e (node_0:Int) (node_1:ByteArray) (node_2:(Option Addr)) (node_2_len:Nat) (node_2_cap:Nat) (node_3:(Option Addr)) (node_3_len:Nat) (node_3_cap:Nat) (name:ByteArray) (kid_0:Int) (kid_1:ByteArray) (kid_2:(Option Addr)) (kid_2_len:Nat) (kid_2_cap:Nat) (kid_3:(Option Addr)) (kid_3_len:Nat) (kid_3_cap:Nat):fnT Tryz.prog spec_appended.h Tryz.f40 spec_appended.c [.v (.agg #[(.int .i64 node_0),(.string node_1),(.slice node_2 node_2_len node_2_cap),(.slice node_3 node_3_len node_3_cap)]),.v (.string name),.v (.agg #[(.int .i64 kid_0),(.string kid_1),(.slice kid_2 kid_2_len kid_2_cap),(.slice kid_3 kid_3_len kid_3_cap)])]=spec_appended.t node_0 node_1 node_2 node_2_len node_2_cap node_3 node_3_len node_3_cap name kid_0 kid_1 kid_2 kid_2_len kid_2_cap kid_3 kid_3_len kid_3_cap:=by kernel_rfl
theorem spec_appended.calls (node_0:Int) (node_1:ByteArray) (node_2:(Option Addr)) (node_2_len:Nat) (node_2_cap:Nat) (node_3:(Option Addr)) (node_3_len:Nat) (node_3_cap:Nat) (name:ByteArray) (kid_0:Int) (kid_1:ByteArray) (kid_2:(Option Addr)) (kid_2_len:Nat) (kid_2_cap:Nat) (kid_3:(Option Addr)) (kid_3_len:Nat) (kid_3_cap:Nat) {w:World} {R:Ending→World→Prop} (hs:sat Tryz.prog (spec_appended.t node_0 node_1 node_2 node_2_len node_2_cap node_3 node_3_len node_3_cap name kid_0 kid_1 kid_2 kid_2_len kid_2_cap kid_3 kid_3_len kid_3_cap) (fun l vs w'=>l=0∧R (.returned (retVal vs)) w') w):Calls Tryz.prog 40 #[(.agg #[(.int .i64 node_0),(.string node_1),(.slice node_2 node_2_len node_2_cap),(.slice node_3 node_3_len node_3_cap)]),(.string name),(.agg #[(.int .i64 kid_0),(.string kid_1),(.slice kid_2 kid_2_len kid_2_cap),(.slice kid_3 kid_3_len kid_3_cap)])] w R:=
 have h:=calls_of_tree (w:=w) (R:=R) (args:=[.v (.agg #[(.int .i64 node_0),(.string node_1),(.slice node_2 node_2_len node_2_cap),(.slice node_3 node_3_len node_3_cap)]),.v (.string name),.v (.agg #[(.int .i64 kid_0),(.string kid_1),(.slice kid_2 kid_2_len kid_2_cap),(.slice kid_3 kid_3_len kid_3_cap)])]) (c:=spec_appended.c) Tryz.func40 (show Tryz.f40.body=some spec_appended.c by kernel_rfl) (of_decide_eq_true (by kernel_rfl)) (spec_appended.e node_0 node_1 node_2 node_2_len node_2_cap node_3 node_3_len node_3_cap name kid_0 kid_1 kid_2 kid_2_len kid_2_cap kid_3 kid_3_len kid_3_cap) hs
 h
def spec_with.t (node_0:Int) (node_1:ByteArray) (node_2:(Option Addr)) (node_2_len:Nat) (node_2_cap:Nat) (node_3:(Option Addr)) (node_3_len:Nat) (node_3_cap:Nat) (i:Int) (kid_0:Int) (kid_1:ByteArray) (kid_2:(Option Addr)) (kid_2_len:Nat) (kid_2_cap:Nat) (kid_3:(Option Addr)) (kid_3_len:Nat) (kid_3_cap:Nat):T:=
 .alloc (Obj.cells #[(.int .i64 node_0),(.string node_1),(.slice node_2 node_2_len node_2_cap),(.slice node_3 node_3_len node_3_cap)] 34 (0,0)) fun (z0:Addr)=>
 .alloc (Obj.cells #[(.int .i64 kid_0),(.string kid_1),(.slice kid_2 kid_2_len kid_2_cap),(.slice kid_3 kid_3_len kid_3_cap)] 34 (0,0)) fun (z1:Addr)=>
 .alloc (Obj.cells #[(.int .i64 0),(.string (ByteArray.mk #[])),(.slice none 0 0),(.slice none 0 0)] 34 (0,0)) fun (z2:Addr)=>
 .eff (Instr.buildSlice 32 0 #[]) .slice fun (z3:(Option Addr×Nat×Nat))=>
 .load (Addr.add z0 3) .slice fun (z4:(Option Addr×Nat×Nat))=>
 .eff (Builtin.append_ (Call.argTypes (Call.mk (Callee.builtin Builtin.append) #[(Operand.tmp 8),(Operand.tmp 10)] #[32,32])) 32 #[(.slice z3.1 z3.2.1 z3.2.2),(.slice z4.1 z4.2.1 z4.2.2)]) .slice fun (z5:(Option Addr×Nat×Nat))=>
 .eff (Instr.loadAt 34 (.pointer (some z1))) (.agg (.cons (.int .i64) (.cons .str (.cons .slice (.cons .slice .nil))))) fun (z6:(Int×(ByteArray×((Option Addr×Nat×Nat)×((Option Addr×Nat×Nat)×PUnit)))))=>
 .chk ((0≤i)∧(i<(z5.2.1:Int))) <|
 .ptr z5.1 fun (z7:Addr)=>
 .effU (Instr.storeAt 34 (.pointer (some (Addr.add z7 ((Int.toNat i) * 4)))) (.agg #[(.int .i64 z6.1),(.string z6.2.1),(.slice z6.2.2.1.1 z6.2.2.1.2.1 z6.2.2.1.2.2),(.slice z6.2.2.2.1.1 z6.2.2.2.1.2.1 z6.2.2.2.1.2.2)])) <|
 .store (Addr.add z0 3) (.slice z5.1 z5.2.1 z5.2.2) <|
 .eff (Instr.loadAt 34 (.pointer (some z0))) (.agg (.cons (.int .i64) (.cons .str (.cons .slice (.cons .slice .nil))))) fun (z8:(Int×(ByteArray×((Option Addr×Nat×Nat)×((Option Addr×Nat×Nat)×PUnit)))))=>
 .effU (Instr.storeAt 34 (.pointer (some z2)) (.agg #[(.int .i64 z8.1),(.string z8.2.1),(.slice z8.2.2.1.1 z8.2.2.1.2.1 z8.2.2.1.2.2),(.slice z8.2.2.2.1.1 z8.2.2.2.1.2.1 z8.2.2.2.1.2.2)])) <|
 .effS (Instr.loadAt 34 (.pointer (some z2))) (.agg (.cons (.int .i64) (.cons .str (.cons .slice (.cons .slice .nil))))) fun (z9:(Int×(ByteArray×((Option Addr×Nat×Nat)×((Option Addr×Nat×Nat)×PUnit)))))=>
 .leaf 0 [(.agg #[(.int .i64 z9.1),(.string z9.2.1),(.slice z9.2.2.1.1 z9.2.2.1.2.1 z9.2.2.1.2.2),(.slice z9.2.2.2.1.1 z9.2.2.2.1.2.1 z9.2.2.2.1.2.2)])]
def spec_with.h:Hints:=⟨[],[],[],[]⟩
noncomputable def spec_with.c:Code:=(Tryz.f41.body).getD .skip
theorem spec_with.e (node_0:Int) (node_1:ByteArray) (node_2:(Option Addr)) (node_2_len:Nat) (node_2_cap:Nat) (node_3:(Option Addr)) (node_3_len:Nat) (node_3_cap:Nat) (i:Int) (kid_0:Int) (kid_1:ByteArray) (kid_2:(Option Addr)) (kid_2_len:Nat) (kid_2_cap:Nat) (kid_3:(Option Addr)) (kid_3_len:Nat) (kid_3_cap:Nat):fnT Tryz.prog spec_with.h Tryz.f41 spec_with.c [.v (.agg #[(.int .i64 node_0),(.string node_1),(.slice node_2 node_2_len node_2_cap),(.slice node_3 node_3_len node_3_cap)]),.v (.int .i64 i),.v (.agg #[(.int .i64 kid_0),(.string kid_1),(.slice kid_2 kid_2_len kid_2_cap),(.slice kid_3 kid_3_len kid_3_cap)])]=spec_with.t node_0 node_1 node_2 node_2_len node_2_cap node_3 node_3_len node_3_cap i kid_0 kid_1 kid_2 kid_2_len kid_2_cap kid_3 kid_3_len kid_3_cap:=by kernel_rfl
theorem spec_with.calls (node_0:Int) (node_1:ByteArray) (node_2:(Option Addr)) (node_2_len:Nat) (node_2_cap:Nat) (node_3:(Option Addr)) (node_3_len:Nat) (node_3_cap:Nat) (i:Int) (kid_0:Int) (kid_1:ByteArray) (kid_2:(Option Addr)) (kid_2_len:Nat) (kid_2_cap:Nat) (kid_3:(Option Addr)) (kid_3_len:Nat) (kid_3_cap:Nat) {w:World} {R:Ending→World→Prop} (hs:sat Tryz.prog (spec_with.t node_0 node_1 node_2 node_2_len node_2_cap node_3 node_3_len node_3_cap i kid_0 kid_1 kid_2 kid_2_len kid_2_cap kid_3 kid_3_len kid_3_cap) (fun l vs w'=>l=0∧R (.returned (retVal vs)) w') w):Calls Tryz.prog 41 #[(.agg #[(.int .i64 node_0),(.string node_1),(.slice node_2 node_2_len node_2_cap),(.slice node_3 node_3_len node_3_cap)]),(.int .i64 i),(.agg #[(.int .i64 kid_0),(.string kid_1),(.slice kid_2 kid_2_len kid_2_cap),(.slice kid_3 kid_3_len kid_3_cap)])] w R:=
 have h:=calls_of_tree (w:=w) (R:=R) (args:=[.v (.agg #[(.int .i64 node_0),(.string node_1),(.slice node_2 node_2_len node_2_cap),(.slice node_3 node_3_len node_3_cap)]),.v (.int .i64 i),.v (.agg #[(.int .i64 kid_0),(.string kid_1),(.slice kid_2 kid_2_len kid_2_cap),(.slice kid_3 kid_3_len kid_3_cap)])]) (c:=spec_with.c) Tryz.func41 (show Tryz.f41.body=some spec_with.c by kernel_rfl) (of_decide_eq_true (by kernel_rfl)) (spec_with.e node_0 node_1 node_2 node_2_len node_2_cap node_3 node_3_len node_3_cap i kid_0 kid_1 kid_2 kid_2_len kid_2_cap kid_3 kid_3_len kid_3_cap) hs
 h
def spec_place.t (node_0:Int) (node_1:ByteArray) (node_2:(Option Addr)) (node_2_len:Nat) (node_2_cap:Nat) (node_3:(Option Addr)) (node_3_len:Nat) (node_3_cap:Nat) (token:ByteArray):T:=
 .alloc (Obj.cells #[(.int .i64 node_0),(.string node_1),(.slice node_2 node_2_len node_2_cap),(.slice node_3 node_3_len node_3_cap)] 34 (0,0)) fun (z0:Addr)=>
 .load (Addr.add z0 0) (.int .i64) fun (i1:Int)=>
 .ite (i1==6) (
 .eff (Instr.loadAt 34 (.pointer (some z0))) (.agg (.cons (.int .i64) (.cons .str (.cons .slice (.cons .slice .nil))))) fun (z2:(Int×(ByteArray×((Option Addr×Nat×Nat)×((Option Addr×Nat×Nat)×PUnit)))))=>
 .call 39 #[(.agg #[(.int .i64 z2.1),(.string z2.2.1),(.slice z2.2.2.1.1 z2.2.2.1.2.1 z2.2.2.1.2.2),(.slice z2.2.2.2.1.1 z2.2.2.2.1.2.1 z2.2.2.2.1.2.2)]),(.string token)] (.int .i64) fun (i3:Int)=>
 .leaf 0 [(.int .i64 i3),(.bool (decide (i3 ≥ 0)))]) (
 .ite (i1==5) (
 .call 62 #[(.string token)] (.tuple (.cons (.int .i64) (.cons .bool .nil))) fun (z4:(Int×(Bool×PUnit)))=>
 .drew <|
 .ite z4.2.1 (
 .load (Addr.add z0 3) .slice fun (z5:(Option Addr×Nat×Nat))=>
 .leaf 0 [(.int .i64 z4.1),(.bool (decide (z4.1<(z5.2.1:Int))))]) (
 .leaf 0 [(.int .i64 z4.1),(.bool false)])) (
 .leaf 0 [(.int .i64 0),(.bool false)]))
def spec_place.h:Hints:=⟨[],[],[],[]⟩
noncomputable def spec_place.c:Code:=(Tryz.f43.body).getD .skip
theorem spec_place.e (node_0:Int) (node_1:ByteArray) (node_2:(Option Addr)) (node_2_len:Nat) (node_2_cap:Nat) (node_3:(Option Addr)) (node_3_len:Nat) (node_3_cap:Nat) (token:ByteArray):fnT Tryz.prog spec_place.h Tryz.f43 spec_place.c [.v (.agg #[(.int .i64 node_0),(.string node_1),(.slice node_2 node_2_len node_2_cap),(.slice node_3 node_3_len node_3_cap)]),.v (.string token)]=spec_place.t node_0 node_1 node_2 node_2_len node_2_cap node_3 node_3_len node_3_cap token:=by kernel_rfl
theorem spec_place.calls (node_0:Int) (node_1:ByteArray) (node_2:(Option Addr)) (node_2_len:Nat) (node_2_cap:Nat) (node_3:(Option Addr)) (node_3_len:Nat) (node_3_cap:Nat) (token:ByteArray) {w:World} {R:Ending→World→Prop} (hs:sat Tryz.prog (spec_place.t node_0 node_1 node_2 node_2_len node_2_cap node_3 node_3_len node_3_cap token) (fun l vs w'=>l=0∧R (.returned (retVal vs)) w') w):Calls Tryz.prog 43 #[(.agg #[(.int .i64 node_0),(.string node_1),(.slice node_2 node_2_len node_2_cap),(.slice node_3 node_3_len node_3_cap)]),(.string token)] w R:=
 have h:=calls_of_tree (w:=w) (R:=R) (args:=[.v (.agg #[(.int .i64 node_0),(.string node_1),(.slice node_2 node_2_len node_2_cap),(.slice node_3 node_3_len node_3_cap)]),.v (.string token)]) (c:=spec_place.c) Tryz.func43 (show Tryz.f43.body=some spec_place.c by kernel_rfl) (of_decide_eq_true (by kernel_rfl)) (spec_place.e node_0 node_1 node_2 node_2_len node_2_cap node_3 node_3_len node_3_cap token) hs
 h
def spec_Replace.t (node_0:Int) (node_1:ByteArray) (node_2:(Option Addr)) (node_2_len:Nat) (node_2_cap:Nat) (node_3:(Option Addr)) (node_3_len:Nat) (node_3_cap:Nat) (tokens:(Option Addr)) (tokens_len:Nat) (tokens_cap:Nat) (value_0:Int) (value_1:ByteArray) (value_2:(Option Addr)) (value_2_len:Nat) (value_2_cap:Nat) (value_3:(Option Addr)) (value_3_len:Nat) (value_3_cap:Nat):T:=
 .alloc (Obj.cells #[(.int .i64 node_0),(.string node_1),(.slice node_2 node_2_len node_2_cap),(.slice node_3 node_3_len node_3_cap)] 34 (0,0)) fun (z0:Addr)=>
 .alloc (Obj.cells #[(.int .i64 value_0),(.string value_1),(.slice value_2 value_2_len value_2_cap),(.slice value_3 value_3_len value_3_cap)] 34 (0,0)) fun (z1:Addr)=>
 .alloc (Obj.cells #[(.int .i64 0),(.string (ByteArray.mk #[])),(.slice none 0 0),(.slice none 0 0)] 34 (0,0)) fun (z2:Addr)=>
 .ite ((tokens_len:Int)==0) (
 .eff (Instr.loadAt 34 (.pointer (some z1))) (.agg (.cons (.int .i64) (.cons .str (.cons .slice (.cons .slice .nil))))) fun (z3:(Int×(ByteArray×((Option Addr×Nat×Nat)×((Option Addr×Nat×Nat)×PUnit)))))=>
 .effU (Instr.storeAt 34 (.pointer (some z2)) (.agg #[(.int .i64 z3.1),(.string z3.2.1),(.slice z3.2.2.1.1 z3.2.2.1.2.1 z3.2.2.1.2.2),(.slice z3.2.2.2.1.1 z3.2.2.2.1.2.1 z3.2.2.2.1.2.2)])) <|
 .effS (Instr.loadAt 34 (.pointer (some z2))) (.agg (.cons (.int .i64) (.cons .str (.cons .slice (.cons .slice .nil))))) fun (z4:(Int×(ByteArray×((Option Addr×Nat×Nat)×((Option Addr×Nat×Nat)×PUnit)))))=>
 .leaf 0 [(.agg #[(.int .i64 z4.1),(.string z4.2.1),(.slice z4.2.2.1.1 z4.2.2.1.2.1 z4.2.2.1.2.2),(.slice z4.2.2.2.1.1 z4.2.2.2.1.2.1 z4.2.2.2.1.2.2)]),(.bool true)]) (
 .drew <|
 .effQ (Instr.loadAt 34 (.pointer (some z0))) (.agg (.cons (.int .i64) (.cons .str (.cons .slice (.cons .slice .nil))))) fun (z5:(Int×(ByteArray×((Option Addr×Nat×Nat)×((Option Addr×Nat×Nat)×PUnit)))))=>
 .chk (((0 :Int)≤(0 :Int))∧(0<(tokens_len:Int))) <|
 .ptr tokens fun (z6:Addr)=>
 .load (Addr.add z6 0) .str fun (s7:ByteArray)=>
 .call 43 #[(.agg #[(.int .i64 z5.1),(.string z5.2.1),(.slice z5.2.2.1.1 z5.2.2.1.2.1 z5.2.2.1.2.2),(.slice z5.2.2.2.1.1 z5.2.2.2.1.2.1 z5.2.2.2.1.2.2)]),(.string s7)] (.tuple (.cons (.int .i64) (.cons .bool .nil))) fun (z8:(Int×(Bool×PUnit)))=>
 .ite (!z8.2.1) (
 .effU (Instr.storeAt 34 (.pointer (some z2)) (.agg #[(.int .i64 0),(.string (ByteArray.mk #[])),(.slice none 0 0),(.slice none 0 0)])) <|
 .effS (Instr.loadAt 34 (.pointer (some z2))) (.agg (.cons (.int .i64) (.cons .str (.cons .slice (.cons .slice .nil))))) fun (z9:(Int×(ByteArray×((Option Addr×Nat×Nat)×((Option Addr×Nat×Nat)×PUnit)))))=>
 .leaf 0 [(.agg #[(.int .i64 z9.1),(.string z9.2.1),(.slice z9.2.2.1.1 z9.2.2.1.2.1 z9.2.2.1.2.2),(.slice z9.2.2.2.1.1 z9.2.2.2.1.2.1 z9.2.2.2.1.2.2)]),(.bool false)]) (
 .drew <|
 .load (Addr.add z0 3) .slice fun (z10:(Option Addr×Nat×Nat))=>
 .chk ((0≤z8.1)∧(z8.1<(z10.2.1:Int))) <|
 .ptr z10.1 fun (z11:Addr)=>
 .effQ (Instr.loadAt 34 (.pointer (some (Addr.add z11 ((Int.toNat z8.1) * 4))))) (.agg (.cons (.int .i64) (.cons .str (.cons .slice (.cons .slice .nil))))) fun (z12:(Int×(ByteArray×((Option Addr×Nat×Nat)×((Option Addr×Nat×Nat)×PUnit)))))=>
 .chk (((0 :Int)≤(1 :Int))∧((1≤(tokens_len:Int))∧((tokens_len:Int)≤(tokens_cap:Int)))) <|
 .effQ (Instr.loadAt 34 (.pointer (some z1))) (.agg (.cons (.int .i64) (.cons .str (.cons .slice (.cons .slice .nil))))) fun (z13:(Int×(ByteArray×((Option Addr×Nat×Nat)×((Option Addr×Nat×Nat)×PUnit)))))=>
 .both (
 .call 24 #[(.agg #[(.int .i64 z12.1),(.string z12.2.1),(.slice z12.2.2.1.1 z12.2.2.1.2.1 z12.2.2.1.2.2),(.slice z12.2.2.2.1.1 z12.2.2.2.1.2.1 z12.2.2.2.1.2.2)]),(.slice (if (tokens_cap=1) then tokens else (Option.map (fun (y14:Addr)=>(Addr.add y14 1)) tokens)) ((Int.toNat (tokens_len:Int))-1) (tokens_cap-1)),(.agg #[(.int .i64 z13.1),(.string z13.2.1),(.slice z13.2.2.1.1 z13.2.2.1.2.1 z13.2.2.1.2.2),(.slice z13.2.2.2.1.1 z13.2.2.2.1.2.1 z13.2.2.2.1.2.2)])] (.tuple (.cons (.agg (.cons (.int .i64) (.cons .str (.cons .slice (.cons .slice .nil))))) (.cons .bool .nil))) fun (z15:((Int×(ByteArray×((Option Addr×Nat×Nat)×((Option Addr×Nat×Nat)×PUnit))))×(Bool×PUnit)))=>
 .alloc (Obj.cells #[(.int .i64 0),(.string (ByteArray.mk #[])),(.slice none 0 0),(.slice none 0 0)] 34 (0,0)) fun (z16:Addr)=>
 .effU (Instr.storeAt 34 (.pointer (some z16)) (.agg #[(.int .i64 z15.1.1),(.string z15.1.2.1),(.slice z15.1.2.2.1.1 z15.1.2.2.1.2.1 z15.1.2.2.1.2.2),(.slice z15.1.2.2.2.1.1 z15.1.2.2.2.1.2.1 z15.1.2.2.2.1.2.2)])) <|
 .ite (!z15.2.1) (
 .effU (Instr.storeAt 34 (.pointer (some z2)) (.agg #[(.int .i64 0),(.string (ByteArray.mk #[])),(.slice none 0 0),(.slice none 0 0)])) <|
 .effS (Instr.loadAt 34 (.pointer (some z2))) (.agg (.cons (.int .i64) (.cons .str (.cons .slice (.cons .slice .nil))))) fun (z17:(Int×(ByteArray×((Option Addr×Nat×Nat)×((Option Addr×Nat×Nat)×PUnit)))))=>
 .leaf 0 [(.agg #[(.int .i64 z17.1),(.string z17.2.1),(.slice z17.2.2.1.1 z17.2.2.1.2.1 z17.2.2.1.2.2),(.slice z17.2.2.2.1.1 z17.2.2.2.1.2.1 z17.2.2.2.1.2.2)]),(.bool false)]) (
 .eff (Instr.loadAt 34 (.pointer (some z0))) (.agg (.cons (.int .i64) (.cons .str (.cons .slice (.cons .slice .nil))))) fun (z18:(Int×(ByteArray×((Option Addr×Nat×Nat)×((Option Addr×Nat×Nat)×PUnit)))))=>
 .eff (Instr.loadAt 34 (.pointer (some z16))) (.agg (.cons (.int .i64) (.cons .str (.cons .slice (.cons .slice .nil))))) fun (z19:(Int×(ByteArray×((Option Addr×Nat×Nat)×((Option Addr×Nat×Nat)×PUnit)))))=>
 .call 41 #[(.agg #[(.int .i64 z18.1),(.string z18.2.1),(.slice z18.2.2.1.1 z18.2.2.1.2.1 z18.2.2.1.2.2),(.slice z18.2.2.2.1.1 z18.2.2.2.1.2.1 z18.2.2.2.1.2.2)]),(.int .i64 z8.1),(.agg #[(.int .i64 z19.1),(.string z19.2.1),(.slice z19.2.2.1.1 z19.2.2.1.2.1 z19.2.2.1.2.2),(.slice z19.2.2.2.1.1 z19.2.2.2.1.2.1 z19.2.2.2.1.2.2)])] (.agg (.cons (.int .i64) (.cons .str (.cons .slice (.cons .slice .nil))))) fun (z20:(Int×(ByteArray×((Option Addr×Nat×Nat)×((Option Addr×Nat×Nat)×PUnit)))))=>
 .effU (Instr.storeAt 34 (.pointer (some z2)) (.agg #[(.int .i64 z20.1),(.string z20.2.1),(.slice z20.2.2.1.1 z20.2.2.1.2.1 z20.2.2.1.2.2),(.slice z20.2.2.2.1.1 z20.2.2.2.1.2.1 z20.2.2.2.1.2.2)])) <|
 .effS (Instr.loadAt 34 (.pointer (some z2))) (.agg (.cons (.int .i64) (.cons .str (.cons .slice (.cons .slice .nil))))) fun (z21:(Int×(ByteArray×((Option Addr×Nat×Nat)×((Option Addr×Nat×Nat)×PUnit)))))=>
 .leaf 0 [(.agg #[(.int .i64 z21.1),(.string z21.2.1),(.slice z21.2.2.1.1 z21.2.2.1.2.1 z21.2.2.1.2.2),(.slice z21.2.2.2.1.1 z21.2.2.2.1.2.1 z21.2.2.2.1.2.2)]),(.bool true)])) (
 .here fun (z22:World)=>
 .alloc (Obj.cells #[(.int .i64 0),(.string (ByteArray.mk #[])),(.slice none 0 0),(.slice none 0 0)] 34 (0,0)) fun (z23:Addr)=>
 .grew z22 <|
 .call 24 #[(.agg #[(.int .i64 z12.1),(.string z12.2.1),(.slice z12.2.2.1.1 z12.2.2.1.2.1 z12.2.2.1.2.2),(.slice z12.2.2.2.1.1 z12.2.2.2.1.2.1 z12.2.2.2.1.2.2)]),(.slice (if (tokens_cap=1) then tokens else (Option.map (fun (y24:Addr)=>(Addr.add y24 1)) tokens)) ((Int.toNat (tokens_len:Int))-1) (tokens_cap-1)),(.agg #[(.int .i64 z13.1),(.string z13.2.1),(.slice z13.2.2.1.1 z13.2.2.1.2.1 z13.2.2.1.2.2),(.slice z13.2.2.2.1.1 z13.2.2.2.1.2.1 z13.2.2.2.1.2.2)])] (.tuple (.cons (.agg (.cons (.int .i64) (.cons .str (.cons .slice (.cons .slice .nil))))) (.cons .bool .nil))) fun (z25:((Int×(ByteArray×((Option Addr×Nat×Nat)×((Option Addr×Nat×Nat)×PUnit))))×(Bool×PUnit)))=>
 .effU (Instr.storeAt 34 (.pointer (some z23)) (.agg #[(.int .i64 z25.1.1),(.string z25.1.2.1),(.slice z25.1.2.2.1.1 z25.1.2.2.1.2.1 z25.1.2.2.1.2.2),(.slice z25.1.2.2.2.1.1 z25.1.2.2.2.1.2.1 z25.1.2.2.2.1.2.2)])) <|
 .ite (!z25.2.1) (
 .effU (Instr.storeAt 34 (.pointer (some z2)) (.agg #[(.int .i64 0),(.string (ByteArray.mk #[])),(.slice none 0 0),(.slice none 0 0)])) <|
 .effS (Instr.loadAt 34 (.pointer (some z2))) (.agg (.cons (.int .i64) (.cons .str (.cons .slice (.cons .slice .nil))))) fun (z26:(Int×(ByteArray×((Option Addr×Nat×Nat)×((Option Addr×Nat×Nat)×PUnit)))))=>
 .leaf 0 [(.agg #[(.int .i64 z26.1),(.string z26.2.1),(.slice z26.2.2.1.1 z26.2.2.1.2.1 z26.2.2.1.2.2),(.slice z26.2.2.2.1.1 z26.2.2.2.1.2.1 z26.2.2.2.1.2.2)]),(.bool false)]) (
 .eff (Instr.loadAt 34 (.pointer (some z0))) (.agg (.cons (.int .i64) (.cons .str (.cons .slice (.cons .slice .nil))))) fun (z27:(Int×(ByteArray×((Option Addr×Nat×Nat)×((Option Addr×Nat×Nat)×PUnit)))))=>
 .eff (Instr.loadAt 34 (.pointer (some z23))) (.agg (.cons (.int .i64) (.cons .str (.cons .slice (.cons .slice .nil))))) fun (z28:(Int×(ByteArray×((Option Addr×Nat×Nat)×((Option Addr×Nat×Nat)×PUnit)))))=>
 .call 41 #[(.agg #[(.int .i64 z27.1),(.string z27.2.1),(.slice z27.2.2.1.1 z27.2.2.1.2.1 z27.2.2.1.2.2),(.slice z27.2.2.2.1.1 z27.2.2.2.1.2.1 z27.2.2.2.1.2.2)]),(.int .i64 z8.1),(.agg #[(.int .i64 z28.1),(.string z28.2.1),(.slice z28.2.2.1.1 z28.2.2.1.2.1 z28.2.2.1.2.2),(.slice z28.2.2.2.1.1 z28.2.2.2.1.2.1 z28.2.2.2.1.2.2)])] (.agg (.cons (.int .i64) (.cons .str (.cons .slice (.cons .slice .nil))))) fun (z29:(Int×(ByteArray×((Option Addr×Nat×Nat)×((Option Addr×Nat×Nat)×PUnit)))))=>
 .effU (Instr.storeAt 34 (.pointer (some z2)) (.agg #[(.int .i64 z29.1),(.string z29.2.1),(.slice z29.2.2.1.1 z29.2.2.1.2.1 z29.2.2.1.2.2),(.slice z29.2.2.2.1.1 z29.2.2.2.1.2.1 z29.2.2.2.1.2.2)])) <|
 .effS (Instr.loadAt 34 (.pointer (some z2))) (.agg (.cons (.int .i64) (.cons .str (.cons .slice (.cons .slice .nil))))) fun (z30:(Int×(ByteArray×((Option Addr×Nat×Nat)×((Option Addr×Nat×Nat)×PUnit)))))=>
 .leaf 0 [(.agg #[(.int .i64 z30.1),(.string z30.2.1),(.slice z30.2.2.1.1 z30.2.2.1.2.1 z30.2.2.1.2.2),(.slice z30.2.2.2.1.1 z30.2.2.2.1.2.1 z30.2.2.2.1.2.2)]),(.bool true)]))))
def spec_Replace.h:Hints:=⟨[],[],[],[]⟩
noncomputable def spec_Replace.c:Code:=(Tryz.f24.body).getD .skip
theorem spec_Replace.e (node_0:Int) (node_1:ByteArray) (node_2:(Option Addr)) (node_2_len:Nat) (node_2_cap:Nat) (node_3:(Option Addr)) (node_3_len:Nat) (node_3_cap:Nat) (tokens:(Option Addr)) (tokens_len:Nat) (tokens_cap:Nat) (value_0:Int) (value_1:ByteArray) (value_2:(Option Addr)) (value_2_len:Nat) (value_2_cap:Nat) (value_3:(Option Addr)) (value_3_len:Nat) (value_3_cap:Nat):fnT Tryz.prog spec_Replace.h Tryz.f24 spec_Replace.c [.v (.agg #[(.int .i64 node_0),(.string node_1),(.slice node_2 node_2_len node_2_cap),(.slice node_3 node_3_len node_3_cap)]),.v (.slice tokens tokens_len tokens_cap),.v (.agg #[(.int .i64 value_0),(.string value_1),(.slice value_2 value_2_len value_2_cap),(.slice value_3 value_3_len value_3_cap)])]=spec_Replace.t node_0 node_1 node_2 node_2_len node_2_cap node_3 node_3_len node_3_cap tokens tokens_len tokens_cap value_0 value_1 value_2 value_2_len value_2_cap value_3 value_3_len value_3_cap:=by kernel_rfl
theorem spec_Replace.calls (node_0:Int) (node_1:ByteArray) (node_2:(Option Addr)) (node_2_len:Nat) (node_2_cap:Nat) (node_3:(Option Addr)) (node_3_len:Nat) (node_3_cap:Nat) (tokens:(Option Addr)) (tokens_len:Nat) (tokens_cap:Nat) (value_0:Int) (value_1:ByteArray) (value_2:(Option Addr)) (value_2_len:Nat) (value_2_cap:Nat) (value_3:(Option Addr)) (value_3_len:Nat) (value_3_cap:Nat) {w:World} {R:Ending→World→Prop} (hs:sat Tryz.prog (spec_Replace.t node_0 node_1 node_2 node_2_len node_2_cap node_3 node_3_len node_3_cap tokens tokens_len tokens_cap value_0 value_1 value_2 value_2_len value_2_cap value_3 value_3_len value_3_cap) (fun l vs w'=>l=0∧R (.returned (retVal vs)) w') w):Calls Tryz.prog 24 #[(.agg #[(.int .i64 node_0),(.string node_1),(.slice node_2 node_2_len node_2_cap),(.slice node_3 node_3_len node_3_cap)]),(.slice tokens tokens_len tokens_cap),(.agg #[(.int .i64 value_0),(.string value_1),(.slice value_2 value_2_len value_2_cap),(.slice value_3 value_3_len value_3_cap)])] w R:=
 have h:=calls_of_tree (w:=w) (R:=R) (args:=[.v (.agg #[(.int .i64 node_0),(.string node_1),(.slice node_2 node_2_len node_2_cap),(.slice node_3 node_3_len node_3_cap)]),.v (.slice tokens tokens_len tokens_cap),.v (.agg #[(.int .i64 value_0),(.string value_1),(.slice value_2 value_2_len value_2_cap),(.slice value_3 value_3_len value_3_cap)])]) (c:=spec_Replace.c) Tryz.func24 (show Tryz.f24.body=some spec_Replace.c by kernel_rfl) (of_decide_eq_true (by kernel_rfl)) (spec_Replace.e node_0 node_1 node_2 node_2_len node_2_cap node_3 node_3_len node_3_cap tokens tokens_len tokens_cap value_0 value_1 value_2 value_2_len value_2_cap value_3 value_3_len value_3_cap) hs
 h
def impl_JqAppend.t (text:ByteArray) (value:ByteArray) (keys:(Option Addr)) (keys_len:Nat) (keys_cap:Nat):T:=
 .eff (convert 9 59 (.string text)) .slice fun (z0:(Option Addr×Nat×Nat))=>
 .eff (convert 9 59 (.string value)) .slice fun (z1:(Option Addr×Nat×Nat))=>
 .call 44 #[(.slice z0.1 z0.2.1 z0.2.2),(.slice z1.1 z1.2.1 z1.2.2),(.slice keys keys_len keys_cap)] (.tuple (.cons .slice (.cons .any .nil))) fun (z2:((Option Addr×Nat×Nat)×(Value×PUnit)))=>
 .chk ((isIface z2.2.1)=true) <|
 .ite (!(isNil z2.2.1)) (
 .leaf 0 [(.string (ByteArray.mk #[])),(.bool false)]) (
 .eff (convert 59 9 (.slice z2.1.1 z2.1.2.1 z2.1.2.2)) .str fun (s3:ByteArray)=>
 .leaf 0 [(.string s3),(.bool true)])
def impl_JqAppend.h:Hints:=⟨[],[],[],[]⟩
noncomputable def impl_JqAppend.c:Code:=(Tryz.f26.body).getD .skip
theorem impl_JqAppend.e (text:ByteArray) (value:ByteArray) (keys:(Option Addr)) (keys_len:Nat) (keys_cap:Nat):fnT Tryz.prog impl_JqAppend.h Tryz.f26 impl_JqAppend.c [.v (.string text),.v (.string value),.v (.slice keys keys_len keys_cap)]=impl_JqAppend.t text value keys keys_len keys_cap:=by kernel_rfl
theorem impl_JqAppend.calls (text:ByteArray) (value:ByteArray) (keys:(Option Addr)) (keys_len:Nat) (keys_cap:Nat) {w:World} {R:Ending→World→Prop} (hs:sat Tryz.prog (impl_JqAppend.t text value keys keys_len keys_cap) (fun l vs w'=>l=0∧R (.returned (retVal vs)) w') w):Calls Tryz.prog 26 #[(.string text),(.string value),(.slice keys keys_len keys_cap)] w R:=
 have h:=calls_of_tree (w:=w) (R:=R) (args:=[.v (.string text),.v (.string value),.v (.slice keys keys_len keys_cap)]) (c:=impl_JqAppend.c) Tryz.func26 (show Tryz.f26.body=some impl_JqAppend.c by kernel_rfl) (of_decide_eq_true (by kernel_rfl)) (impl_JqAppend.e text value keys keys_len keys_cap) hs
 h
def jsonparser_Append.t1 (q0:(Option Addr)) (q0_len:Nat) (q0_cap:Nat) (q1:(Option Addr)) (q1_len:Nat) (q1_cap:Nat) (q2:(Option Addr)) (q2_len:Nat) (q2_cap:Nat) (z0:((Option Addr×Nat×Nat)×(Int×(Int×(Int×(Value×PUnit)))))) (b4:Bool):T:=
 .ite b4 (
 .leaf 0 [(.slice none 0 0),z0.2.2.2.2.1]) (
 .eff (Instr.makeSlice 59 (.int .i64 (IntKind.wrap .i64 ((q1_len:Int)+2))) (.int .i64 (IntKind.wrap .i64 ((q1_len:Int)+2)))) .slice fun (z5:(Option Addr×Nat×Nat))=>
 .call 63 #[(.slice z5.1 z5.2.1 z5.2.2),(.string (ByteArray.mk #[(91:UInt8)]))] (.int .i64) fun (i6:Int)=>
 .chk ((0≤i6)∧((i6≤(z5.2.1:Int))∧((z5.2.1:Int)≤(z5.2.2:Int)))) <|
 .eff (Builtin.copy_ (Call.argTypes (Call.mk (Callee.builtin Builtin.copy) #[(Operand.tmp 49),(Operand.tmp 50)] #[59,59])) 3 #[(.slice (if (z5.2.2=(Int.toNat i6)) then z5.1 else (Option.map (fun (y7:Addr)=>(Addr.add y7 ((Int.toNat i6) * 1))) z5.1)) ((Int.toNat (z5.2.1:Int))-(Int.toNat i6)) (z5.2.2-(Int.toNat i6))),(.slice q1 q1_len q1_cap)]) (.int .i64) fun (i8:Int)=>
 .chk ((0≤(IntKind.wrap .i64 (i6+i8)))∧(((IntKind.wrap .i64 (i6+i8))≤(z5.2.1:Int))∧((z5.2.1:Int)≤(z5.2.2:Int)))) <|
 .call 63 #[(.slice (if (z5.2.2=(Int.toNat (IntKind.wrap .i64 (i6+i8)))) then z5.1 else (Option.map (fun (y9:Addr)=>(Addr.add y9 ((Int.toNat (IntKind.wrap .i64 (i6+i8))) * 1))) z5.1)) ((Int.toNat (z5.2.1:Int))-(Int.toNat (IntKind.wrap .i64 (i6+i8)))) (z5.2.2-(Int.toNat (IntKind.wrap .i64 (i6+i8))))),(.string (ByteArray.mk #[(93:UInt8)]))] (.int .i64) fun (i10:Int)=>
 .call 30 #[(.slice q0 q0_len q0_cap),(.slice z5.1 z5.2.1 z5.2.2),(.slice q2 q2_len q2_cap)] (.tuple (.cons .slice (.cons .any .nil))) fun (z11:((Option Addr×Nat×Nat)×(Value×PUnit)))=>
 .leaf 0 [(.slice z11.1.1 z11.1.2.1 z11.1.2.2),z11.2.1])
def jsonparser_Append.t4 (q0:(Option Addr)) (q0_len:Nat) (q0_cap:Nat) (q1:(Option Addr)) (q1_len:Nat) (q1_cap:Nat) (z0:((Option Addr×Nat×Nat)×(Int×(Int×(Int×(Value×PUnit)))))) (z20:(Option Addr×Nat×Nat)) (i25:Int):T:=
 .chk ((0≤i25)∧((i25≤(z20.2.1:Int))∧((z20.2.1:Int)≤(z20.2.2:Int)))) <|
 .eff (Builtin.copy_ (Call.argTypes (Call.mk (Callee.builtin Builtin.copy) #[(Operand.tmp 117),(Operand.tmp 118)] #[59,59])) 3 #[(.slice (if (z20.2.2=(Int.toNat i25)) then z20.1 else (Option.map (fun (y26:Addr)=>(Addr.add y26 ((Int.toNat i25) * 1))) z20.1)) ((Int.toNat (z20.2.1:Int))-(Int.toNat i25)) (z20.2.2-(Int.toNat i25))),(.slice q1 q1_len q1_cap)]) (.int .i64) fun (i27:Int)=>
 .drew <|
 .chk ((0≤(IntKind.wrap .i64 (i25+i27)))∧(((IntKind.wrap .i64 (i25+i27))≤(z20.2.1:Int))∧((z20.2.1:Int)≤(z20.2.2:Int)))) <|
 .chk ((0≤(IntKind.wrap .i64 (z0.2.2.2.1-1)))∧(((IntKind.wrap .i64 (z0.2.2.2.1-1))≤(q0_len:Int))∧((q0_len:Int)≤(q0_cap:Int)))) <|
 .eff (Builtin.copy_ (Call.argTypes (Call.mk (Callee.builtin Builtin.copy) #[(Operand.tmp 123),(Operand.tmp 126)] #[59,59])) 3 #[(.slice (if (z20.2.2=(Int.toNat (IntKind.wrap .i64 (i25+i27)))) then z20.1 else (Option.map (fun (y28:Addr)=>(Addr.add y28 ((Int.toNat (IntKind.wrap .i64 (i25+i27))) * 1))) z20.1)) ((Int.toNat (z20.2.1:Int))-(Int.toNat (IntKind.wrap .i64 (i25+i27)))) (z20.2.2-(Int.toNat (IntKind.wrap .i64 (i25+i27))))),(.slice (if (q0_cap=(Int.toNat (IntKind.wrap .i64 (z0.2.2.2.1-1)))) then q0 else (Option.map (fun (y29:Addr)=>(Addr.add y29 ((Int.toNat (IntKind.wrap .i64 (z0.2.2.2.1-1))) * 1))) q0)) ((Int.toNat (q0_len:Int))-(Int.toNat (IntKind.wrap .i64 (z0.2.2.2.1-1)))) (q0_cap-(Int.toNat (IntKind.wrap .i64 (z0.2.2.2.1-1)))))]) (.int .i64) fun (i30:Int)=>
 .leaf 0 [(.slice z20.1 z20.2.1 z20.2.2),Value.nilIface]
def jsonparser_Append.t3 (q0:(Option Addr)) (q0_len:Nat) (q0_cap:Nat) (q1:(Option Addr)) (q1_len:Nat) (q1_cap:Nat) (z0:((Option Addr×Nat×Nat)×(Int×(Int×(Int×(Value×PUnit)))))) (i18:Int) (i19:Int):T:=
 .eff (Instr.makeSlice 59 (.int .i64 (IntKind.wrap .i64 ((q0_len:Int)+i19))) (.int .i64 (IntKind.wrap .i64 ((q0_len:Int)+i19)))) .slice fun (z20:(Option Addr×Nat×Nat))=>
 .chk (((0 :Int)≤(0 :Int))∧((0≤(IntKind.wrap .i64 (z0.2.2.2.1-1)))∧((IntKind.wrap .i64 (z0.2.2.2.1-1))≤(q0_cap:Int)))) <|
 .eff (Builtin.copy_ (Call.argTypes (Call.mk (Callee.builtin Builtin.copy) #[(Operand.tmp 102),(Operand.tmp 105)] #[59,59])) 3 #[(.slice z20.1 z20.2.1 z20.2.2),(.slice (if (q0_cap=0) then q0 else (Option.map (fun (y21:Addr)=>(Addr.add y21 0)) q0)) ((Int.toNat (IntKind.wrap .i64 (z0.2.2.2.1-1)))-0) (q0_cap-0))]) (.int .i64) fun (i22:Int)=>
 .cut 1 (.cons (.int .i64) .nil) (
 .ite (i18 != (-1)) (
 .chk ((0≤i22)∧((i22≤(z20.2.1:Int))∧((z20.2.1:Int)≤(z20.2.2:Int)))) <|
 .call 63 #[(.slice (if (z20.2.2=(Int.toNat i22)) then z20.1 else (Option.map (fun (y23:Addr)=>(Addr.add y23 ((Int.toNat i22) * 1))) z20.1)) ((Int.toNat (z20.2.1:Int))-(Int.toNat i22)) (z20.2.2-(Int.toNat i22))),(.string (ByteArray.mk #[(44:UInt8)]))] (.int .i64) fun (i24:Int)=>
 .leaf 1 [(.int .i64 (IntKind.wrap .i64 (i22+i24)))]) (
 .leaf 1 [(.int .i64 i22)]))
 (fun z=>jsonparser_Append.t4 q0 q0_len q0_cap q1 q1_len q1_cap z0 z20 z.1)
def jsonparser_Append.t2 (q0:(Option Addr)) (q0_len:Nat) (q0_cap:Nat) (q1:(Option Addr)) (q1_len:Nat) (q1_cap:Nat) (z0:((Option Addr×Nat×Nat)×(Int×(Int×(Int×(Value×PUnit)))))) (b15:Bool):T:=
 .ite b15 (
 .drew <|
 .load (Addr.mk 2 0 Option.none) .any fun (v16:Value)=>
 .leaf 0 [(.slice none 0 0),v16]) (
 .chk ((0≤(IntKind.wrap .i64 (z0.2.2.1+1)))∧(((IntKind.wrap .i64 (z0.2.2.1+1))≤(IntKind.wrap .i64 (z0.2.2.2.1-1)))∧((IntKind.wrap .i64 (z0.2.2.2.1-1))≤(q0_cap:Int)))) <|
 .call 64 #[(.slice (if (q0_cap=(Int.toNat (IntKind.wrap .i64 (z0.2.2.1+1)))) then q0 else (Option.map (fun (y17:Addr)=>(Addr.add y17 ((Int.toNat (IntKind.wrap .i64 (z0.2.2.1+1))) * 1))) q0)) ((Int.toNat (IntKind.wrap .i64 (z0.2.2.2.1-1)))-(Int.toNat (IntKind.wrap .i64 (z0.2.2.1+1)))) (q0_cap-(Int.toNat (IntKind.wrap .i64 (z0.2.2.1+1)))))] (.int .i64) fun (i18:Int)=>
 .cut 1 (.cons (.int .i64) .nil) (
 .ite (i18 != (-1)) (
 .leaf 1 [(.int .i64 (IntKind.wrap .i64 ((q1_len:Int)+1)))]) (
 .leaf 1 [(.int .i64 (q1_len:Int))]))
 (fun z=>jsonparser_Append.t3 q0 q0_len q0_cap q1 q1_len q1_cap z0 i18 z.1))
def jsonparser_Append.t (q0:(Option Addr)) (q0_len:Nat) (q0_cap:Nat) (q1:(Option Addr)) (q1_len:Nat) (q1_cap:Nat) (q2:(Option Addr)) (q2_len:Nat) (q2_cap:Nat):T:=
 .call 50 #[(.slice q0 q0_len q0_cap),(.slice q2 q2_len q2_cap)] (.tuple (.cons .slice (.cons (.int .i64) (.cons (.int .i64) (.cons (.int .i64) (.cons .any .nil)))))) fun (z0:((Option Addr×Nat×Nat)×(Int×(Int×(Int×(Value×PUnit))))))=>
 .chk ((isIface z0.2.2.2.2.1)=true) <|
 .ite (!(isNil z0.2.2.2.2.1)) (
 .cut 1 (.cons .bool .nil) (
 .load (Addr.mk 1 0 Option.none) .any fun (v1:Value)=>
 .eff (Bind.bind (eqGuard BinOp.neq 61 (Operand.tmp 31) (Operand.tmp 32) z0.2.2.2.2.1 v1) (fun (y2:Unit)=>(binOp BinOp.neq 61 z0.2.2.2.2.1 v1))) .bool fun (b3:Bool)=>
 .ite b3 (
 .leaf 1 [(.bool true)]) (
 .leaf 1 [(.bool ((q2_len:Int)==0))]))
 (fun z=>jsonparser_Append.t1 q0 q0_len q0_cap q1 q1_len q1_cap q2 q2_len q2_cap z0 z.1)) (
 .ite (z0.2.1 != 4) (
 .drew <|
 .load (Addr.mk 2 0 Option.none) .any fun (v12:Value)=>
 .leaf 0 [(.slice none 0 0),v12]) (
 .cut 1 (.cons .bool .nil) (
 .ite (decide ((IntKind.wrap .i64 (z0.2.2.2.1-1))≤z0.2.2.1)) (
 .leaf 1 [(.bool true)]) (
 .ite (decide ((IntKind.wrap .i64 (z0.2.2.2.1-1)) ≥ (q0_len:Int))) (
 .leaf 1 [(.bool true)]) (
 .chk ((0≤(IntKind.wrap .i64 (z0.2.2.2.1-1)))∧((IntKind.wrap .i64 (z0.2.2.2.1-1))<(q0_len:Int))) <|
 .ptr q0 fun (z13:Addr)=>
 .load (Addr.add z13 ((Int.toNat (IntKind.wrap .i64 (z0.2.2.2.1-1))) * 1)) (.int .u8) fun (i14:Int)=>
 .leaf 1 [(.bool (i14 != 93))])))
 (fun z=>jsonparser_Append.t2 q0 q0_len q0_cap q1 q1_len q1_cap z0 z.1)))
def jsonparser_Append.h:Hints:=⟨[(94,[(17,(.int .i64))]),(107,[(19,(.int .i64))])],[],[(3,[(38,.bool)]),(13,[(83,.bool)])],[]⟩
noncomputable def jsonparser_Append.c:Code:=(Tryz.f44.body).getD .skip
theorem jsonparser_Append.e (q0:(Option Addr)) (q0_len:Nat) (q0_cap:Nat) (q1:(Option Addr)) (q1_len:Nat) (q1_cap:Nat) (q2:(Option Addr)) (q2_len:Nat) (q2_cap:Nat):fnT Tryz.prog jsonparser_Append.h Tryz.f44 jsonparser_Append.c [.v (.slice q0 q0_len q0_cap),.v (.slice q1 q1_len q1_cap),.v (.slice q2 q2_len q2_cap)]=jsonparser_Append.t q0 q0_len q0_cap q1 q1_len q1_cap q2 q2_len q2_cap:=by kernel_rfl
theorem jsonparser_Append.calls (q0:(Option Addr)) (q0_len:Nat) (q0_cap:Nat) (q1:(Option Addr)) (q1_len:Nat) (q1_cap:Nat) (q2:(Option Addr)) (q2_len:Nat) (q2_cap:Nat) {w:World} {R:Ending→World→Prop} (hs:sat Tryz.prog (jsonparser_Append.t q0 q0_len q0_cap q1 q1_len q1_cap q2 q2_len q2_cap) (fun l vs w'=>l=0∧R (.returned (retVal vs)) w') w):Calls Tryz.prog 44 #[(.slice q0 q0_len q0_cap),(.slice q1 q1_len q1_cap),(.slice q2 q2_len q2_cap)] w R:=
 have h:=calls_of_tree (w:=w) (R:=R) (args:=[.v (.slice q0 q0_len q0_cap),.v (.slice q1 q1_len q1_cap),.v (.slice q2 q2_len q2_cap)]) (c:=jsonparser_Append.c) Tryz.func44 (show Tryz.f44.body=some jsonparser_Append.c by kernel_rfl) (of_decide_eq_true (by kernel_rfl)) (jsonparser_Append.e q0 q0_len q0_cap q1 q1_len q1_cap q2 q2_len q2_cap) hs
 h
end Go.Proofs.YtlfebfkphgelfaaGreatDoor.Tr
