import Derived.Test.YtlfebfkphgelfaaGreatDoorRz
import Derived.Test.YtlfebfkphgelfaaGreatDoorProg
import Derived.KernelRfl
namespace Go.Proofs.YtlfebfkphgelfaaGreatDoor.Tr
open Go Go.Proofs Rx
set_option linter.unusedVariables false
set_option maxRecDepth 100000
def spec_Same.t3 (z0:Addr) (z1:Addr) (i19:Int):T:=
 .load (Addr.add z0 3) .slice fun (z20:(Option Addr×Nat×Nat))=>
 .ite (decide (i19<(z20.2.1:Int))) (
 .drew <|
 .load (Addr.add z0 3) .slice fun (z21:(Option Addr×Nat×Nat))=>
 .chk ((0≤i19)∧(i19<(z21.2.1:Int))) <|
 .ptr z21.1 fun (z22:Addr)=>
 .effS (Instr.loadAt 34 (.pointer (some (Addr.add z22 ((Int.toNat i19) * 4))))) (.agg (.cons (.int .i64) (.cons .str (.cons .slice (.cons .slice .nil))))) fun (z23:(Int×(ByteArray×((Option Addr×Nat×Nat)×((Option Addr×Nat×Nat)×PUnit)))))=>
 .load (Addr.add z1 3) .slice fun (z24:(Option Addr×Nat×Nat))=>
 .chk ((0≤i19)∧(i19<(z24.2.1:Int))) <|
 .ptr z24.1 fun (z25:Addr)=>
 .effS (Instr.loadAt 34 (.pointer (some (Addr.add z25 ((Int.toNat i19) * 4))))) (.agg (.cons (.int .i64) (.cons .str (.cons .slice (.cons .slice .nil))))) fun (z26:(Int×(ByteArray×((Option Addr×Nat×Nat)×((Option Addr×Nat×Nat)×PUnit)))))=>
 .call 14 #[(.agg #[(.int .i64 z23.1),(.string z23.2.1),(.slice z23.2.2.1.1 z23.2.2.1.2.1 z23.2.2.1.2.2),(.slice z23.2.2.2.1.1 z23.2.2.2.1.2.1 z23.2.2.2.1.2.2)]),(.agg #[(.int .i64 z26.1),(.string z26.2.1),(.slice z26.2.2.1.1 z26.2.2.1.2.1 z26.2.2.1.2.2),(.slice z26.2.2.2.1.1 z26.2.2.2.1.2.1 z26.2.2.2.1.2.2)])] .bool fun (b27:Bool)=>
 .ite (!b27) (
 .leaf 0 [(.bool false)]) (
 .leaf 1 [(.int .i64 (IntKind.wrap .i64 (i19+1)))])) (
 .leaf 0 [(.bool true)])
def spec_Same.t2 (z0:Addr) (z1:Addr) (i11:Int):T:=
 .load (Addr.add z0 2) .slice fun (z12:(Option Addr×Nat×Nat))=>
 .ite (decide (i11<(z12.2.1:Int))) (
 .drew <|
 .load (Addr.add z0 2) .slice fun (z13:(Option Addr×Nat×Nat))=>
 .chk ((0≤i11)∧(i11<(z13.2.1:Int))) <|
 .ptr z13.1 fun (z14:Addr)=>
 .load (Addr.add z14 ((Int.toNat i11) * 1)) .str fun (s15:ByteArray)=>
 .load (Addr.add z1 2) .slice fun (z16:(Option Addr×Nat×Nat))=>
 .chk ((0≤i11)∧(i11<(z16.2.1:Int))) <|
 .ptr z16.1 fun (z17:Addr)=>
 .load (Addr.add z17 ((Int.toNat i11) * 1)) .str fun (s18:ByteArray)=>
 .ite (!(strEq s15 s18)) (
 .leaf 0 [(.bool false)]) (
 .leaf 1 [(.int .i64 (IntKind.wrap .i64 (i11+1)))])) (
 .loop 1 (.cons (.int .i64) .nil) [(.int .i64 0)]
 (fun z=>spec_Same.t3 z0 z1 z.1))
def spec_Same.t1 (z0:Addr) (z1:Addr) (b10:Bool):T:=
 .ite b10 (
 .leaf 0 [(.bool false)]) (
 .loop 1 (.cons (.int .i64) .nil) [(.int .i64 0)]
 (fun z=>spec_Same.t2 z0 z1 z.1))
def spec_Same.t (q0_0:Int) (q0_1:ByteArray) (q0_2:(Option Addr)) (q0_2_len:Nat) (q0_2_cap:Nat) (q0_3:(Option Addr)) (q0_3_len:Nat) (q0_3_cap:Nat) (q1_0:Int) (q1_1:ByteArray) (q1_2:(Option Addr)) (q1_2_len:Nat) (q1_2_cap:Nat) (q1_3:(Option Addr)) (q1_3_len:Nat) (q1_3_cap:Nat):T:=
 .alloc (Obj.cells #[(.int .i64 q0_0),(.string q0_1),(.slice q0_2 q0_2_len q0_2_cap),(.slice q0_3 q0_3_len q0_3_cap)] 34 (0,0)) fun (z0:Addr)=>
 .alloc (Obj.cells #[(.int .i64 q1_0),(.string q1_1),(.slice q1_2 q1_2_len q1_2_cap),(.slice q1_3 q1_3_len q1_3_cap)] 34 (0,0)) fun (z1:Addr)=>
 .cut 1 (.cons .bool .nil) (
 .load (Addr.add z0 0) (.int .i64) fun (i2:Int)=>
 .load (Addr.add z1 0) (.int .i64) fun (i3:Int)=>
 .ite (i2 != i3) (
 .leaf 1 [(.bool true)]) (
 .load (Addr.add z0 1) .str fun (s4:ByteArray)=>
 .load (Addr.add z1 1) .str fun (s5:ByteArray)=>
 .ite (!(strEq s4 s5)) (
 .leaf 1 [(.bool true)]) (
 .load (Addr.add z0 2) .slice fun (z6:(Option Addr×Nat×Nat))=>
 .load (Addr.add z1 2) .slice fun (z7:(Option Addr×Nat×Nat))=>
 .ite ((z6.2.1:Int) != (z7.2.1:Int)) (
 .leaf 1 [(.bool true)]) (
 .load (Addr.add z0 3) .slice fun (z8:(Option Addr×Nat×Nat))=>
 .load (Addr.add z1 3) .slice fun (z9:(Option Addr×Nat×Nat))=>
 .leaf 1 [(.bool ((z8.2.1:Int) != (z9.2.1:Int)))]))))
 (fun z=>spec_Same.t1 z0 z1 z.1)
def spec_Same.h:Hints:=⟨[],[],[(1,[(36,.bool)])],[(4,[(5,(.int .i64))]),(9,[(6,(.int .i64))])]⟩
noncomputable def spec_Same.c:Code:=(Tryz.f14.body).getD .skip
theorem spec_Same.e (q0_0:Int) (q0_1:ByteArray) (q0_2:(Option Addr)) (q0_2_len:Nat) (q0_2_cap:Nat) (q0_3:(Option Addr)) (q0_3_len:Nat) (q0_3_cap:Nat) (q1_0:Int) (q1_1:ByteArray) (q1_2:(Option Addr)) (q1_2_len:Nat) (q1_2_cap:Nat) (q1_3:(Option Addr)) (q1_3_len:Nat) (q1_3_cap:Nat):fnT Tryz.prog spec_Same.h Tryz.f14 spec_Same.c [.v (.agg #[(.int .i64 q0_0),(.string q0_1),(.slice q0_2 q0_2_len q0_2_cap),(.slice q0_3 q0_3_len q0_3_cap)]),.v (.agg #[(.int .i64 q1_0),(.string q1_1),(.slice q1_2 q1_2_len q1_2_cap),(.slice q1_3 q1_3_len q1_3_cap)])]=spec_Same.t q0_0 q0_1 q0_2 q0_2_len q0_2_cap q0_3 q0_3_len q0_3_cap q1_0 q1_1 q1_2 q1_2_len q1_2_cap q1_3 q1_3_len q1_3_cap:=by kernel_rfl
theorem spec_Same.calls (q0_0:Int) (q0_1:ByteArray) (q0_2:(Option Addr)) (q0_2_len:Nat) (q0_2_cap:Nat) (q0_3:(Option Addr)) (q0_3_len:Nat) (q0_3_cap:Nat) (q1_0:Int) (q1_1:ByteArray) (q1_2:(Option Addr)) (q1_2_len:Nat) (q1_2_cap:Nat) (q1_3:(Option Addr)) (q1_3_len:Nat) (q1_3_cap:Nat) {w:World} {R:Ending→World→Prop} (hs:sat Tryz.prog (spec_Same.t q0_0 q0_1 q0_2 q0_2_len q0_2_cap q0_3 q0_3_len q0_3_cap q1_0 q1_1 q1_2 q1_2_len q1_2_cap q1_3 q1_3_len q1_3_cap) (fun l vs w'=>l=0∧R (.returned (retVal vs)) w') w):Calls Tryz.prog 14 #[(.agg #[(.int .i64 q0_0),(.string q0_1),(.slice q0_2 q0_2_len q0_2_cap),(.slice q0_3 q0_3_len q0_3_cap)]),(.agg #[(.int .i64 q1_0),(.string q1_1),(.slice q1_2 q1_2_len q1_2_cap),(.slice q1_3 q1_3_len q1_3_cap)])] w R:=
 have h:=calls_of_tree (w:=w) (R:=R) (args:=[.v (.agg #[(.int .i64 q0_0),(.string q0_1),(.slice q0_2 q0_2_len q0_2_cap),(.slice q0_3 q0_3_len q0_3_cap)]),.v (.agg #[(.int .i64 q1_0),(.string q1_1),(.slice q1_2 q1_2_len q1_2_cap),(.slice q1_3 q1_3_len q1_3_cap)])]) (c:=spec_Same.c) Tryz.func14 (show Tryz.f14.body=some spec_Same.c by kernel_rfl) (of_decide_eq_true (by kernel_rfl)) (spec_Same.e q0_0 q0_1 q0_2 q0_2_len q0_2_cap q0_3 q0_3_len q0_3_cap q1_0 q1_1 q1_2 q1_2_len q1_2_cap q1_3 q1_3_len q1_3_cap) hs
 h
def spec_Tight.t2 (text:ByteArray) (i0:Int) (b1:Bool) (b2:Bool):T:=
 .ite b2 (
 .leaf 1 [(.int .i64 (IntKind.wrap .i64 ((IntKind.wrap .i64 (i0+1))+1))),(.bool b1)]) (
 .ite ((bt text i0)==34) (
 .leaf 1 [(.int .i64 (IntKind.wrap .i64 (i0+1))),(.bool (!b1))]) (
 .ite (!b1) (
 .call 32 #[(.int .u8 (bt text i0))] .bool fun (b3:Bool)=>
 .ite b3 (
 .leaf 0 [(.bool false)]) (
 .leaf 1 [(.int .i64 (IntKind.wrap .i64 (i0+1))),(.bool b1)])) (
 .leaf 1 [(.int .i64 (IntKind.wrap .i64 (i0+1))),(.bool b1)])))
def spec_Tight.t1 (text:ByteArray) (i0:Int) (b1:Bool):T:=
 .ite (decide (i0<((ByteArray.size text):Int))) (
 .chk ((0≤i0)∧(i0<((ByteArray.size text):Int))) <|
 .cut 2 (.cons .bool .nil) (
 .ite b1 (
 .leaf 2 [(.bool ((bt text i0)==92))]) (
 .leaf 2 [(.bool false)]))
 (fun z=>spec_Tight.t2 text i0 b1 z.1)) (
 .leaf 0 [(.bool true)])
def spec_Tight.t (text:ByteArray):T:=
 .loop 1 (.cons (.int .i64) (.cons .bool .nil)) [(.int .i64 0),(.bool false)]
 (fun z=>spec_Tight.t1 text z.1 z.2.1)
def spec_Tight.h:Hints:=⟨[],[],[(6,[(15,.bool)])],[(3,[(4,(.int .i64)),(3,.bool)])]⟩
noncomputable def spec_Tight.c:Code:=(Tryz.f15.body).getD .skip
theorem spec_Tight.e (text:ByteArray):fnT Tryz.prog spec_Tight.h Tryz.f15 spec_Tight.c [.v (.string text)]=spec_Tight.t text:=by kernel_rfl
theorem spec_Tight.calls (text:ByteArray) {w:World} {R:Ending→World→Prop} (hs:sat Tryz.prog (spec_Tight.t text) (fun l vs w'=>l=0∧R (.returned (retVal vs)) w') w):Calls Tryz.prog 15 #[(.string text)] w R:=
 have h:=calls_of_tree (w:=w) (R:=R) (args:=[.v (.string text)]) (c:=spec_Tight.c) Tryz.func15 (show Tryz.f15.body=some spec_Tight.c by kernel_rfl) (of_decide_eq_true (by kernel_rfl)) (spec_Tight.e text) hs
 h
def laws_FnJpSetDelete.t4 (q0:ByteArray) (z8:Addr) (z16:(ByteArray×(Bool×PUnit))) (s17:ByteArray) (b20:Bool):T:=
 .call 10 #[(.string s17)] (.tuple (.cons (.agg (.cons (.int .i64) (.cons .str (.cons .slice (.cons .slice .nil))))) (.cons .bool .nil))) fun (z21:((Int×(ByteArray×((Option Addr×Nat×Nat)×((Option Addr×Nat×Nat)×PUnit))))×(Bool×PUnit)))=>
 .alloc (Obj.cells #[(.int .i64 0),(.string (ByteArray.mk #[])),(.slice none 0 0),(.slice none 0 0)] 34 (0,0)) fun (z22:Addr)=>
 .effU (Instr.storeAt 34 (.pointer (some z22)) (.agg #[(.int .i64 z21.1.1),(.string z21.1.2.1),(.slice z21.1.2.2.1.1 z21.1.2.2.1.2.1 z21.1.2.2.1.2.2),(.slice z21.1.2.2.2.1.1 z21.1.2.2.2.1.2.1 z21.1.2.2.2.1.2.2)])) <|
 .ite z16.2.1 (
 .ite z21.2.1 (
 .eff (Instr.loadAt 34 (.pointer (some z22))) (.agg (.cons (.int .i64) (.cons .str (.cons .slice (.cons .slice .nil))))) fun (z23:(Int×(ByteArray×((Option Addr×Nat×Nat)×((Option Addr×Nat×Nat)×PUnit)))))=>
 .eff (Instr.loadAt 34 (.pointer (some z8))) (.agg (.cons (.int .i64) (.cons .str (.cons .slice (.cons .slice .nil))))) fun (z24:(Int×(ByteArray×((Option Addr×Nat×Nat)×((Option Addr×Nat×Nat)×PUnit)))))=>
 .call 14 #[(.agg #[(.int .i64 z23.1),(.string z23.2.1),(.slice z23.2.2.1.1 z23.2.2.1.2.1 z23.2.2.1.2.2),(.slice z23.2.2.2.1.1 z23.2.2.2.1.2.1 z23.2.2.2.1.2.2)]),(.agg #[(.int .i64 z24.1),(.string z24.2.1),(.slice z24.2.2.1.1 z24.2.2.1.2.1 z24.2.2.1.2.2),(.slice z24.2.2.2.1.1 z24.2.2.2.1.2.1 z24.2.2.2.1.2.2)])] .bool fun (b25:Bool)=>
 .ite b25 (
 .call 15 #[(.string q0)] .bool fun (b26:Bool)=>
 .ite (!b26) (
 .leaf 0 [(.bool true)]) (
 .ite (!b20) (
 .leaf 0 [(.bool true)]) (
 .leaf 0 [(.bool (strEq s17 q0))]))) (
 .leaf 0 [(.bool false)])) (
 .leaf 0 [(.bool false)])) (
 .leaf 0 [(.bool false)])
def laws_FnJpSetDelete.t3 (q0:ByteArray) (q1:ByteArray) (q2:(Option Addr)) (q2_len:Nat) (q2_cap:Nat) (z4:Addr) (z8:Addr) (b15:Bool):T:=
 .ite b15 (
 .leaf 0 [(.bool true)]) (
 .call 12 #[(.string q0),(.string q1),(.slice q2 q2_len q2_cap)] (.tuple (.cons .str (.cons .bool .nil))) fun (z16:(ByteArray×(Bool×PUnit)))=>
 .call 13 #[(.string z16.1),(.slice q2 q2_len q2_cap)] .str fun (s17:ByteArray)=>
 .cut 1 (.cons .bool .nil) (
 .load (Addr.add z4 1) (.int .i64) fun (i18:Int)=>
 .ite (i18==0) (
 .load (Addr.add z4 2) (.int .i64) fun (i19:Int)=>
 .leaf 1 [(.bool (i19==((ByteArray.size q1):Int)))]) (
 .leaf 1 [(.bool false)]))
 (fun z=>laws_FnJpSetDelete.t4 q0 z8 z16 s17 z.1))
def laws_FnJpSetDelete.t2 (q0:ByteArray) (q1:ByteArray) (q2:(Option Addr)) (q2_len:Nat) (q2_cap:Nat) (z4:Addr) (b6:Bool):T:=
 .ite b6 (
 .leaf 0 [(.bool true)]) (
 .call 10 #[(.string q0)] (.tuple (.cons (.agg (.cons (.int .i64) (.cons .str (.cons .slice (.cons .slice .nil))))) (.cons .bool .nil))) fun (z7:((Int×(ByteArray×((Option Addr×Nat×Nat)×((Option Addr×Nat×Nat)×PUnit))))×(Bool×PUnit)))=>
 .alloc (Obj.cells #[(.int .i64 0),(.string (ByteArray.mk #[])),(.slice none 0 0),(.slice none 0 0)] 34 (0,0)) fun (z8:Addr)=>
 .effU (Instr.storeAt 34 (.pointer (some z8)) (.agg #[(.int .i64 z7.1.1),(.string z7.1.2.1),(.slice z7.1.2.2.1.1 z7.1.2.2.1.2.1 z7.1.2.2.1.2.2),(.slice z7.1.2.2.2.1.1 z7.1.2.2.2.1.2.1 z7.1.2.2.2.1.2.2)])) <|
 .call 10 #[(.string q1)] (.tuple (.cons (.agg (.cons (.int .i64) (.cons .str (.cons .slice (.cons .slice .nil))))) (.cons .bool .nil))) fun (z9:((Int×(ByteArray×((Option Addr×Nat×Nat)×((Option Addr×Nat×Nat)×PUnit))))×(Bool×PUnit)))=>
 .alloc (Obj.cells #[(.int .i64 0),(.string (ByteArray.mk #[])),(.slice none 0 0),(.slice none 0 0)] 34 (0,0)) fun (z10:Addr)=>
 .effU (Instr.storeAt 34 (.pointer (some z10)) (.agg #[(.int .i64 z9.1.1),(.string z9.1.2.1),(.slice z9.1.2.2.1.1 z9.1.2.2.1.2.1 z9.1.2.2.1.2.2),(.slice z9.1.2.2.2.1.1 z9.1.2.2.2.1.2.1 z9.1.2.2.2.1.2.2)])) <|
 .cut 1 (.cons .bool .nil) (
 .eff (Instr.loadAt 34 (.pointer (some z8))) (.agg (.cons (.int .i64) (.cons .str (.cons .slice (.cons .slice .nil))))) fun (z11:(Int×(ByteArray×((Option Addr×Nat×Nat)×((Option Addr×Nat×Nat)×PUnit)))))=>
 .call 11 #[(.agg #[(.int .i64 z11.1),(.string z11.2.1),(.slice z11.2.2.1.1 z11.2.2.1.2.1 z11.2.2.1.2.2),(.slice z11.2.2.2.1.1 z11.2.2.2.1.2.1 z11.2.2.2.1.2.2)])] .bool fun (b12:Bool)=>
 .ite (!b12) (
 .leaf 1 [(.bool true)]) (
 .eff (Instr.loadAt 34 (.pointer (some z10))) (.agg (.cons (.int .i64) (.cons .str (.cons .slice (.cons .slice .nil))))) fun (z13:(Int×(ByteArray×((Option Addr×Nat×Nat)×((Option Addr×Nat×Nat)×PUnit)))))=>
 .call 11 #[(.agg #[(.int .i64 z13.1),(.string z13.2.1),(.slice z13.2.2.1.1 z13.2.2.1.2.1 z13.2.2.1.2.2),(.slice z13.2.2.2.1.1 z13.2.2.2.1.2.1 z13.2.2.2.1.2.2)])] .bool fun (b14:Bool)=>
 .leaf 1 [(.bool (!b14))]))
 (fun z=>laws_FnJpSetDelete.t3 q0 q1 q2 q2_len q2_cap z4 z8 z.1))
def laws_FnJpSetDelete.t1 (q0:ByteArray) (q1:ByteArray) (q2:(Option Addr)) (q2_len:Nat) (q2_cap:Nat) (b1:Bool):T:=
 .ite b1 (
 .leaf 0 [(.bool true)]) (
 .call 7 #[(.string q0),(.slice q2 q2_len q2_cap)] (.tuple (.cons (.int .i64) (.cons .bool .nil))) fun (z2:(Int×(Bool×PUnit)))=>
 .call 8 #[(.string q1)] (.tuple (.cons (.agg (.cons (.int .i64) (.cons (.int .i64) (.cons (.int .i64) (.cons .slice (.cons .slice .nil)))))) (.cons .bool .nil))) fun (z3:((Int×(Int×(Int×((Option Addr×Nat×Nat)×((Option Addr×Nat×Nat)×PUnit)))))×(Bool×PUnit)))=>
 .alloc (Obj.cells #[(.int .i64 0),(.int .i64 0),(.int .i64 0),(.slice none 0 0),(.slice none 0 0)] 29 (0,0)) fun (z4:Addr)=>
 .effU (Instr.storeAt 29 (.pointer (some z4)) (.agg #[(.int .i64 z3.1.1),(.int .i64 z3.1.2.1),(.int .i64 z3.1.2.2.1),(.slice z3.1.2.2.2.1.1 z3.1.2.2.2.1.2.1 z3.1.2.2.2.1.2.2),(.slice z3.1.2.2.2.2.1.1 z3.1.2.2.2.2.1.2.1 z3.1.2.2.2.2.1.2.2)])) <|
 .cut 1 (.cons .bool .nil) (
 .ite (!z2.2.1) (
 .leaf 1 [(.bool true)]) (
 .ite (!z3.2.1) (
 .leaf 1 [(.bool true)]) (
 .ite (decide ((IntKind.wrap .i64 (z2.1+1))<(q2_len:Int))) (
 .leaf 1 [(.bool true)]) (
 .call 9 #[(.slice q2 q2_len q2_cap)] .bool fun (b5:Bool)=>
 .leaf 1 [(.bool (!b5))]))))
 (fun z=>laws_FnJpSetDelete.t2 q0 q1 q2 q2_len q2_cap z4 z.1))
def laws_FnJpSetDelete.t (q0:ByteArray) (q1:ByteArray) (q2:(Option Addr)) (q2_len:Nat) (q2_cap:Nat):T:=
 .cut 1 (.cons .bool .nil) (
 .ite (decide (((ByteArray.size q0):Int) > 2147483647)) (
 .leaf 1 [(.bool true)]) (
 .ite (decide (((ByteArray.size q1):Int) > 2147483647)) (
 .leaf 1 [(.bool true)]) (
 .call 6 #[(.slice q2 q2_len q2_cap)] .bool fun (b0:Bool)=>
 .leaf 1 [(.bool (!b0))])))
 (fun z=>laws_FnJpSetDelete.t1 q0 q1 q2 q2_len q2_cap z.1)
def laws_FnJpSetDelete.h:Hints:=⟨[],[],[(1,[(33,.bool)]),(5,[(62,.bool)]),(9,[(80,.bool)]),(13,[(18,.bool)])],[]⟩
noncomputable def laws_FnJpSetDelete.c:Code:=(Tryz.f3.body).getD .skip
theorem laws_FnJpSetDelete.e (q0:ByteArray) (q1:ByteArray) (q2:(Option Addr)) (q2_len:Nat) (q2_cap:Nat):fnT Tryz.prog laws_FnJpSetDelete.h Tryz.f3 laws_FnJpSetDelete.c [.v (.string q0),.v (.string q1),.v (.slice q2 q2_len q2_cap)]=laws_FnJpSetDelete.t q0 q1 q2 q2_len q2_cap:=by kernel_rfl
theorem laws_FnJpSetDelete.calls (q0:ByteArray) (q1:ByteArray) (q2:(Option Addr)) (q2_len:Nat) (q2_cap:Nat) {w:World} {R:Ending→World→Prop} (hs:sat Tryz.prog (laws_FnJpSetDelete.t q0 q1 q2 q2_len q2_cap) (fun l vs w'=>l=0∧R (.returned (retVal vs)) w') w):Calls Tryz.prog 3 #[(.string q0),(.string q1),(.slice q2 q2_len q2_cap)] w R:=
 have h:=calls_of_tree (w:=w) (R:=R) (args:=[.v (.string q0),.v (.string q1),.v (.slice q2 q2_len q2_cap)]) (c:=laws_FnJpSetDelete.c) Tryz.func3 (show Tryz.f3.body=some laws_FnJpSetDelete.c by kernel_rfl) (of_decide_eq_true (by kernel_rfl)) (laws_FnJpSetDelete.e q0 q1 q2 q2_len q2_cap) hs
 h
end Go.Proofs.YtlfebfkphgelfaaGreatDoor.Tr
