import Derived.Test.YtlfebfkphgelfaaGreatDoorRz
import Derived.Test.YtlfebfkphgelfaaGreatDoorProg
import Derived.KernelRfl
namespace Go.Proofs.YtlfebfkphgelfaaGreatDoor.Tr
open Go Go.Proofs Rx
set_option linter.unusedVariables false
set_option maxRecDepth 100000
def spec_Same.t3 (z0:Addr) (z1:Addr) (i19:Int):T:=
 .load (Addr.add z0 3) .slice fun (z20:(Option Addr×Nat×Nat))=>
 .ite (decide (i19<(z20.2.1:Int))) (
 .drew <|
 .load (Addr.add z0 3) .slice fun (z21:(Option Addr×Nat×Nat))=>
 .chk ((0≤i19)∧(i19<(z21.2.1:Int))) <|
 .ptr z21.1 fun (z22:Addr)=>
 .effS (Instr.loadAt 34 (.pointer (some (Addr.add z22 ((Int.toNat i19) * 4))))) (.agg (.cons (.int .i64) (.cons .str (.cons .slice (.cons .slice .nil))))) fun (z23:(Int×(ByteArray×((Option Addr×Nat×Nat)×((Option Addr×Nat×Nat)×PUnit)))))=>
 .load (Addr.add z1 3) .slice fun (z24:(Option Addr×Nat×Nat))=>
 .chk ((0≤i19)∧(i19<(z24.2.1:Int))) <|
 .ptr z24.1 fun (z25:Addr)=>
 .effS (Instr.loadAt 34 (.pointer (some (Addr.add z25 ((Int.toNat i19) * 4))))) (.agg (.cons (.int .i64) (.cons .str (.cons .slice (.cons .slice .nil))))) fun (z26:(Int×(ByteArray×((Option Addr×Nat×Nat)×((Option Addr×Nat×Nat)×PUnit)))))=>
 .call 14 #[(.agg #[(.int .i64 z23.1),(.string z23.2.1),(.slice z23.2.2.1.1 z23.2.2.1.2.1 z23.2.2.1.2.2),(.slice z23.2.2.2.1.1 z23.2.2.2.1.2.1 z23.2.2.2.1.2.2)]),(.agg #[(.int .i64 z26.1),(.string z26.2.1),(.slice z26.2.2.1.1 z26.2.2.1.2.1 z26.2.2.1.2.2),(.slice z26.2.2.2.1.1 z26.2.2.2.1.2.1 z26.2.2.2.1.2.2)])] .bool fun (b27:Bool)=>
 .ite (!b27) (
 .leaf 0 [(.bool false)]) (
 .leaf 1 [(.int .i64 (IntKind.wrap .i64 (i19+1)))])) (
 .leaf 0 [(.bool true)])
def spec_Same.t2 (z0:Addr) (z1:Addr) (i11:Int):T:=
 .load (Addr.add z0 2) .slice fun (z12:(Option Addr×Nat×Nat))=>
 .ite (decide (i11<(z12.2.1:Int))) (
 .drew <|
 .load (Addr.add z0 2) .slice fun (z13:(Option Addr×Nat×Nat))=>
 .chk ((0≤i11)∧(i11<(z13.2.1:Int))) <|
 .ptr z13.1 fun (z14:Addr)=>
 .load (Addr.add z14 ((Int.toNat i11) * 1)) .str fun (s15:ByteArray)=>
 .load (Addr.add z1 2) .slice fun (z16:(Option Addr×Nat×Nat))=>
 .chk ((0≤i11)∧(i11<(z16.2.1:Int))) <|
 .ptr z16.1 fun (z17:Addr)=>
 .load (Addr.add z17 ((Int.toNat i11) * 1)) .str fun (s18:ByteArray)=>
 .ite (!(strEq s15 s18)) (
 .leaf 0 [(.bool false)]) (
 .leaf 1 [(.int .i64 (IntKind.wrap .i64 (i11+1)))])) (
 .loop 1 (.cons (.int .i64) .nil) [(.int .i64 0)]
 (fun z=>spec_Same.t3 z0 z1 z.1))
def spec_Same.t1 (z0:Addr) (z1:Addr) (b10:Bool):T:=
 .ite b10 (
 .leaf 0 [(.bool false)]) (
 .loop 1 (.cons (.int .i64) .nil) [(.int .i64 0)]
 (fun z=>spec_Same.t2 z0 z1 z.1))
def spec_Same.t (q0_0:Int) (q0_1:ByteArray) (q0_2:(Option Addr)) (q0_2_len:Nat) (q0_2_cap:Nat) (q0_3:(Option Addr)) (q0_3_len:Nat) (q0_3_cap:Nat) (q1_0:Int) (q1_1:ByteArray) (q1_2:(Option Addr)) (q1_2_len:Nat) (q1_2_cap:Nat) (q1_3:(Option Addr)) (q1_3_len:Nat) (q1_3_cap:Nat):T:=
 .alloc (Obj.cells #[(.int .i64 q0_0),(.string q0_1),(.slice q0_2 q0_2_len q0_2_cap),(.slice q0_3 q0_3_len q0_3_cap)] 34 (0,0)) fun (z0:Addr)=>
 .alloc (Obj.cells #[(.int .i64 q1_0),(.string q1_1),(.slice q1_2 q1_2_len q1_2_cap),(.slice q1_3 q1_3_len q1_3_cap)] 34 (0,0)) fun (z1:Addr)=>
 .cut 1 (.cons .bool .nil) (
 .load (Addr.add z0 0) (.int .i64) fun (i2:Int)=>
 .load (Addr.add z1 0) (.int .i64) fun (i3:Int)=>
 .ite (i2 != i3) (
 .leaf 1 [(.bool true)]) (
 .load (Addr.add z0 1) .str fun (s4:ByteArray)=>
 .load (Addr.add z1 1) .str fun (s5:ByteArray)=>
 .ite (!(strEq s4 s5)) (
 .leaf 1 [(.bool true)]) (
 .load (Addr.add z0 2) .slice fun (z6:(Option Addr×Nat×Nat))=>
 .load (Addr.add z1 2) .slice fun (z7:(Option Addr×Nat×Nat))=>
 .ite ((z6.2.1:Int) != (z7.2.1:Int)) (
 .leaf 1 [(.bool true)]) (
 .load (Addr.add z0 3) .slice fun (z8:(Option Addr×Nat×Nat))=>
 .load (Addr.add z1 3) .slice fun (z9:(Option Addr×Nat×Nat))=>
 .leaf 1 [(.bool ((z8.2.1:Int) != (z9.2.1:Int)))]))))
 (fun z=>spec_Same.t1 z0 z1 z.1)
def spec_Same.h:Hints:=⟨[],[],[(1,[(36,.bool)])],[(4,[(5,(.int .i64))]),(9,[(6,(.int .i64))])]⟩
noncomputable def spec_Same.c:Code:=(Tryz.f14.body).getD .skip
theorem spec_Same.e (q0_0:Int) (q0_1:ByteArray) (q0_2:(Option Addr)) (q0_2_len:Nat) (q0_2_cap:Nat) (q0_3:(Option Addr)) (q0_3_len:Nat) (q0_3_cap:Nat) (q1_0:Int) (q1_1:ByteArray) (q1_2:(Option Addr)) (q1_2_len:Nat) (q1_2_cap:Nat) (q1_3:(Option Addr)) (q1_3_len:Nat) (q1_3_cap:Nat):fnT Tryz.prog spec_Same.h Tryz.f14 spec_Same.c [.v (.agg #[(.int .i64 q0_0),(.string q0_1),(.slice q0_2 q0_2_len q0_2_cap),(.slice q0_3 q0_3_len q0_3_cap)]),.v (.agg #[(.int .i64 q1_0),(.string q1_1),(.slice q1_2 q1_2_len q1_2_cap),(.slice q1_3 q1_3_len q1_3_cap)])]=spec_Same.t q0_0 q0_1 q0_2 q0_2_len q0_2_cap q0_3 q0_3_len q0_3_cap q1_0 q1_1 q1_2 q1_2_len q1_2_cap q1_3 q1_3_len q1_3_cap:=by kernel_rfl
theorem spec_Same.calls (q0_0:Int) (q0_1:ByteArray) (q0_2:(Option Addr)) (q0_2_len:Nat) (q0_2_cap:Nat) (q0_3:(Option Addr)) (q0_3_len:Nat) (q0_3_cap:Nat) (q1_0:Int) (q1_1:ByteArray) (q1_2:(Option Addr)) (q1_2_len:Nat) (q1_2_cap:Nat) (q1_3:(Option Addr)) (q1_3_len:Nat) (q1_3_cap:Nat) {w:World} {R:Ending→World→Prop} (hs:sat Tryz.prog (spec_Same.t q0_0 q0_1 q0_2 q0_2_len q0_2_cap q0_3 q0_3_len q0_3_cap q1_0 q1_1 q1_2 q1_2_len q1_2_cap q1_3 q1_3_len q1_3_cap) (fun l vs w'=>l=0∧R (.returned (retVal vs)) w') w):Calls Tryz.prog 14 #[(.agg #[(.int .i64 q0_0),(.string q0_1),(.slice q0_2 q0_2_len q0_2_cap),(.slice q0_3 q0_3_len q0_3_cap)]),(.agg #[(.int .i64 q1_0),(.string q1_1),(.slice q1_2 q1_2_len q1_2_cap),(.slice q1_3 q1_3_len q1_3_cap)])] w R:=
 have h:=calls_of_tree (w:=w) (R:=R) (args:=[.v (.agg #[(.int .i64 q0_0),(.string q0_1),(.slice q0_2 q0_2_len q0_2_cap),(.slice q0_3 q0_3_len q0_3_cap)]),.v (.agg #[(.int .i64 q1_0),(.string q1_1),(.slice q1_2 q1_2_len q1_2_cap),(.slice q1_3 q1_3_len q1_3_cap)])]) (c:=spec_Same.c) Tryz.func14 (show Tryz.f14.body=some spec_Same.c by kernel_rfl) (of_decide_eq_true (by kernel_rfl)) (spec_Same.e q0_0 q0_1 q0_2 q0_2_len q0_2_cap q0_3 q0_3_len q0_3_cap q1_0 q1_1 q1_2 q1_2_len q1_2_cap q1_3 q1_3_len q1_3_cap) hs
 h
end Go.Proofs.YtlfebfkphgelfaaGreatDoor.Tr
