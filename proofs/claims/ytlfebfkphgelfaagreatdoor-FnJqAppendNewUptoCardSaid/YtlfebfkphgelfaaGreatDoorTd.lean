import Derived.Test.YtlfebfkphgelfaaGreatDoorRz
import Derived.Test.YtlfebfkphgelfaaGreatDoorProg
import Derived.KernelRfl
namespace Go.Proofs.YtlfebfkphgelfaaGreatDoor.Tr
open Go Go.Proofs Rx
set_option linter.unusedVariables false
set_option maxRecDepth 100000
def laws_jpNew.t (text:ByteArray) (keys:(Option Addr)) (keys_len:Nat) (keys_cap:Nat):T:=
 .call 27 #[(.string text),(.slice keys keys_len keys_cap)] (.tuple (.cons (.agg (.cons (.int .i64) (.cons (.int .i64) (.cons (.int .i64) (.cons .slice (.cons .slice .nil)))))) (.cons (.int .i64) (.cons .bool .nil)))) fun (z0:((Int×(Int×(Int×((Option Addr×Nat×Nat)×((Option Addr×Nat×Nat)×PUnit)))))×(Int×(Bool×PUnit))))=>
 .alloc (Obj.cells #[(.int .i64 0),(.int .i64 0),(.int .i64 0),(.slice none 0 0),(.slice none 0 0)] 29 (0,0)) fun (z1:Addr)=>
 .effU (Instr.storeAt 29 (.pointer (some z1)) (.agg #[(.int .i64 z0.1.1),(.int .i64 z0.1.2.1),(.int .i64 z0.1.2.2.1),(.slice z0.1.2.2.2.1.1 z0.1.2.2.2.1.2.1 z0.1.2.2.2.1.2.2),(.slice z0.1.2.2.2.2.1.1 z0.1.2.2.2.2.1.2.1 z0.1.2.2.2.2.1.2.2)])) <|
 .drew <|
 .ite z0.2.2.1 (
 .load (Addr.add z1 0) (.int .i64) fun (i2:Int)=>
 .leaf 0 [(.int .i64 z0.2.1),(.bool (i2==6))]) (
 .leaf 0 [(.int .i64 z0.2.1),(.bool false)])
def laws_jpNew.h:Hints:=⟨[],[],[],[]⟩
noncomputable def laws_jpNew.c:Code:=(Tryz.f7.body).getD .skip
theorem laws_jpNew.e (text:ByteArray) (keys:(Option Addr)) (keys_len:Nat) (keys_cap:Nat):fnT Tryz.prog laws_jpNew.h Tryz.f7 laws_jpNew.c [.v (.string text),.v (.slice keys keys_len keys_cap)]=laws_jpNew.t text keys keys_len keys_cap:=by kernel_rfl
theorem laws_jpNew.calls (text:ByteArray) (keys:(Option Addr)) (keys_len:Nat) (keys_cap:Nat) {w:World} {R:Ending→World→Prop} (hs:sat Tryz.prog (laws_jpNew.t text keys keys_len keys_cap) (fun l vs w'=>l=0∧R (.returned (retVal vs)) w') w):Calls Tryz.prog 7 #[(.string text),(.slice keys keys_len keys_cap)] w R:=
 have h:=calls_of_tree (w:=w) (R:=R) (args:=[.v (.string text),.v (.slice keys keys_len keys_cap)]) (c:=laws_jpNew.c) Tryz.func7 (show Tryz.f7.body=some laws_jpNew.c by kernel_rfl) (of_decide_eq_true (by kernel_rfl)) (laws_jpNew.e text keys keys_len keys_cap) hs
 h
def laws_jpEnd.t3 (q1:(Option Addr)) (q1_len:Nat) (q1_cap:Nat) (z0:Addr) (z8:((Int×(Int×(Int×((Option Addr×Nat×Nat)×((Option Addr×Nat×Nat)×PUnit)))))×(Int×PUnit))) (z9:Addr) (i15:Int):T:=
 .ite (decide (i15<((((Int.toNat (q1_len:Int))-(Int.toNat z8.2.1)):Nat):Int))) (
 .chk ((0≤i15)∧(i15<((((Int.toNat (q1_len:Int))-(Int.toNat z8.2.1)):Nat):Int))) <|
 .ptr (if (q1_cap=(Int.toNat z8.2.1)) then q1 else (Option.map (fun (y21:Addr)=>(Addr.add y21 ((Int.toNat z8.2.1) * 1))) q1)) fun (z16:Addr)=>
 .load (Addr.add z16 ((Int.toNat i15) * 1)) .str fun (s17:ByteArray)=>
 .call 45 #[(.string s17)] .bool fun (b18:Bool)=>
 .ite (!b18) (
 .effU (Instr.storeAt 29 (.pointer (some z0)) (.agg #[(.int .i64 0),(.int .i64 0),(.int .i64 0),(.slice none 0 0),(.slice none 0 0)])) <|
 .effS (Instr.loadAt 29 (.pointer (some z0))) (.agg (.cons (.int .i64) (.cons (.int .i64) (.cons (.int .i64) (.cons .slice (.cons .slice .nil)))))) fun (z19:(Int×(Int×(Int×((Option Addr×Nat×Nat)×((Option Addr×Nat×Nat)×PUnit))))))=>
 .leaf 0 [(.agg #[(.int .i64 z19.1),(.int .i64 z19.2.1),(.int .i64 z19.2.2.1),(.slice z19.2.2.2.1.1 z19.2.2.2.1.2.1 z19.2.2.2.1.2.2),(.slice z19.2.2.2.2.1.1 z19.2.2.2.2.1.2.1 z19.2.2.2.2.1.2.2)]),(.int .i64 0),(.bool false)]) (
 .chk (((0 :Int)≤(0 :Int))∧(0<((ByteArray.size s17):Int))) <|
 .ite ((bt s17 0)==91) (
 .effU (Instr.storeAt 29 (.pointer (some z0)) (.agg #[(.int .i64 0),(.int .i64 0),(.int .i64 0),(.slice none 0 0),(.slice none 0 0)])) <|
 .effS (Instr.loadAt 29 (.pointer (some z0))) (.agg (.cons (.int .i64) (.cons (.int .i64) (.cons (.int .i64) (.cons .slice (.cons .slice .nil)))))) fun (z20:(Int×(Int×(Int×((Option Addr×Nat×Nat)×((Option Addr×Nat×Nat)×PUnit))))))=>
 .leaf 0 [(.agg #[(.int .i64 z20.1),(.int .i64 z20.2.1),(.int .i64 z20.2.2.1),(.slice z20.2.2.2.1.1 z20.2.2.2.1.2.1 z20.2.2.2.1.2.2),(.slice z20.2.2.2.2.1.1 z20.2.2.2.2.1.2.1 z20.2.2.2.2.1.2.2)]),(.int .i64 0),(.bool false)]) (
 .leaf 1 [(.int .i64 (IntKind.wrap .i64 (i15+1)))]))) (
 .eff (Instr.loadAt 29 (.pointer (some z9))) (.agg (.cons (.int .i64) (.cons (.int .i64) (.cons (.int .i64) (.cons .slice (.cons .slice .nil)))))) fun (z22:(Int×(Int×(Int×((Option Addr×Nat×Nat)×((Option Addr×Nat×Nat)×PUnit))))))=>
 .effU (Instr.storeAt 29 (.pointer (some z0)) (.agg #[(.int .i64 z22.1),(.int .i64 z22.2.1),(.int .i64 z22.2.2.1),(.slice z22.2.2.2.1.1 z22.2.2.2.1.2.1 z22.2.2.2.1.2.2),(.slice z22.2.2.2.2.1.1 z22.2.2.2.2.1.2.1 z22.2.2.2.2.1.2.2)])) <|
 .effS (Instr.loadAt 29 (.pointer (some z0))) (.agg (.cons (.int .i64) (.cons (.int .i64) (.cons (.int .i64) (.cons .slice (.cons .slice .nil)))))) fun (z23:(Int×(Int×(Int×((Option Addr×Nat×Nat)×((Option Addr×Nat×Nat)×PUnit))))))=>
 .leaf 0 [(.agg #[(.int .i64 z23.1),(.int .i64 z23.2.1),(.int .i64 z23.2.2.1),(.slice z23.2.2.2.1.1 z23.2.2.2.1.2.1 z23.2.2.2.1.2.2),(.slice z23.2.2.2.2.1.1 z23.2.2.2.2.1.2.1 z23.2.2.2.2.1.2.2)]),(.int .i64 z8.2.1),(.bool true)])
def laws_jpEnd.t2 (q1:(Option Addr)) (q1_len:Nat) (q1_cap:Nat) (z0:Addr) (z8:((Int×(Int×(Int×((Option Addr×Nat×Nat)×((Option Addr×Nat×Nat)×PUnit)))))×(Int×PUnit))) (z9:Addr) (b13:Bool):T:=
 .ite b13 (
 .effU (Instr.storeAt 29 (.pointer (some z0)) (.agg #[(.int .i64 0),(.int .i64 0),(.int .i64 0),(.slice none 0 0),(.slice none 0 0)])) <|
 .effS (Instr.loadAt 29 (.pointer (some z0))) (.agg (.cons (.int .i64) (.cons (.int .i64) (.cons (.int .i64) (.cons .slice (.cons .slice .nil)))))) fun (z14:(Int×(Int×(Int×((Option Addr×Nat×Nat)×((Option Addr×Nat×Nat)×PUnit))))))=>
 .leaf 0 [(.agg #[(.int .i64 z14.1),(.int .i64 z14.2.1),(.int .i64 z14.2.2.1),(.slice z14.2.2.2.1.1 z14.2.2.2.1.2.1 z14.2.2.2.1.2.2),(.slice z14.2.2.2.2.1.1 z14.2.2.2.2.1.2.1 z14.2.2.2.2.1.2.2)]),(.int .i64 0),(.bool false)]) (
 .chk ((0≤z8.2.1)∧((z8.2.1≤(q1_len:Int))∧((q1_len:Int)≤(q1_cap:Int)))) <|
 .loop 1 (.cons (.int .i64) .nil) [(.int .i64 0)]
 (fun z=>laws_jpEnd.t3 q1 q1_len q1_cap z0 z8 z9 z.1))
def laws_jpEnd.t1 (q0:ByteArray) (q1:(Option Addr)) (q1_len:Nat) (q1_cap:Nat) (z0:Addr) (z2:Addr) (b5:Bool):T:=
 .ite b5 (
 .effU (Instr.storeAt 29 (.pointer (some z0)) (.agg #[(.int .i64 0),(.int .i64 0),(.int .i64 0),(.slice none 0 0),(.slice none 0 0)])) <|
 .effS (Instr.loadAt 29 (.pointer (some z0))) (.agg (.cons (.int .i64) (.cons (.int .i64) (.cons (.int .i64) (.cons .slice (.cons .slice .nil)))))) fun (z6:(Int×(Int×(Int×((Option Addr×Nat×Nat)×((Option Addr×Nat×Nat)×PUnit))))))=>
 .leaf 0 [(.agg #[(.int .i64 z6.1),(.int .i64 z6.2.1),(.int .i64 z6.2.2.1),(.slice z6.2.2.2.1.1 z6.2.2.2.1.2.1 z6.2.2.2.1.2.2),(.slice z6.2.2.2.2.1.1 z6.2.2.2.2.1.2.1 z6.2.2.2.2.1.2.2)]),(.int .i64 0),(.bool false)]) (
 .eff (Instr.loadAt 29 (.pointer (some z2))) (.agg (.cons (.int .i64) (.cons (.int .i64) (.cons (.int .i64) (.cons .slice (.cons .slice .nil)))))) fun (z7:(Int×(Int×(Int×((Option Addr×Nat×Nat)×((Option Addr×Nat×Nat)×PUnit))))))=>
 .call 21 #[(.string q0),(.agg #[(.int .i64 z7.1),(.int .i64 z7.2.1),(.int .i64 z7.2.2.1),(.slice z7.2.2.2.1.1 z7.2.2.2.1.2.1 z7.2.2.2.1.2.2),(.slice z7.2.2.2.2.1.1 z7.2.2.2.2.1.2.1 z7.2.2.2.2.1.2.2)]),(.slice q1 q1_len q1_cap)] (.tuple (.cons (.agg (.cons (.int .i64) (.cons (.int .i64) (.cons (.int .i64) (.cons .slice (.cons .slice .nil)))))) (.cons (.int .i64) .nil))) fun (z8:((Int×(Int×(Int×((Option Addr×Nat×Nat)×((Option Addr×Nat×Nat)×PUnit)))))×(Int×PUnit)))=>
 .alloc (Obj.cells #[(.int .i64 0),(.int .i64 0),(.int .i64 0),(.slice none 0 0),(.slice none 0 0)] 29 (0,0)) fun (z9:Addr)=>
 .effU (Instr.storeAt 29 (.pointer (some z9)) (.agg #[(.int .i64 z8.1.1),(.int .i64 z8.1.2.1),(.int .i64 z8.1.2.2.1),(.slice z8.1.2.2.2.1.1 z8.1.2.2.2.1.2.1 z8.1.2.2.2.1.2.2),(.slice z8.1.2.2.2.2.1.1 z8.1.2.2.2.2.1.2.1 z8.1.2.2.2.2.1.2.2)])) <|
 .chk (((0 :Int)≤(0 :Int))∧((0≤z8.2.1)∧(z8.2.1≤(q1_cap:Int)))) <|
 .call 17 #[(.string q0),(.slice (if (q1_cap=0) then q1 else (Option.map (fun (y10:Addr)=>(Addr.add y10 0)) q1)) ((Int.toNat z8.2.1)-0) (q1_cap-0))] (.tuple (.cons (.agg (.cons (.int .i64) (.cons (.int .i64) (.cons (.int .i64) (.cons .slice (.cons .slice .nil)))))) (.cons .bool .nil))) fun (z11:((Int×(Int×(Int×((Option Addr×Nat×Nat)×((Option Addr×Nat×Nat)×PUnit)))))×(Bool×PUnit)))=>
 .alloc (Obj.cells #[(.int .i64 0),(.int .i64 0),(.int .i64 0),(.slice none 0 0),(.slice none 0 0)] 29 (0,0)) fun (z12:Addr)=>
 .effU (Instr.storeAt 29 (.pointer (some z12)) (.agg #[(.int .i64 z11.1.1),(.int .i64 z11.1.2.1),(.int .i64 z11.1.2.2.1),(.slice z11.1.2.2.2.1.1 z11.1.2.2.2.1.2.1 z11.1.2.2.2.1.2.2),(.slice z11.1.2.2.2.2.1.1 z11.1.2.2.2.2.1.2.1 z11.1.2.2.2.2.1.2.2)])) <|
 .cut 1 (.cons .bool .nil) (
 .ite (!z11.2.1) (
 .leaf 1 [(.bool true)]) (
 .leaf 1 [(.bool (z8.2.1==(q1_len:Int)))]))
 (fun z=>laws_jpEnd.t2 q1 q1_len q1_cap z0 z8 z9 z.1))
def laws_jpEnd.t (q0:ByteArray) (q1:(Option Addr)) (q1_len:Nat) (q1_cap:Nat):T:=
 .alloc (Obj.cells #[(.int .i64 0),(.int .i64 0),(.int .i64 0),(.slice none 0 0),(.slice none 0 0)] 29 (0,0)) fun (z0:Addr)=>
 .call 8 #[(.string q0)] (.tuple (.cons (.agg (.cons (.int .i64) (.cons (.int .i64) (.cons (.int .i64) (.cons .slice (.cons .slice .nil)))))) (.cons .bool .nil))) fun (z1:((Int×(Int×(Int×((Option Addr×Nat×Nat)×((Option Addr×Nat×Nat)×PUnit)))))×(Bool×PUnit)))=>
 .alloc (Obj.cells #[(.int .i64 0),(.int .i64 0),(.int .i64 0),(.slice none 0 0),(.slice none 0 0)] 29 (0,0)) fun (z2:Addr)=>
 .effU (Instr.storeAt 29 (.pointer (some z2)) (.agg #[(.int .i64 z1.1.1),(.int .i64 z1.1.2.1),(.int .i64 z1.1.2.2.1),(.slice z1.1.2.2.2.1.1 z1.1.2.2.2.1.2.1 z1.1.2.2.2.1.2.2),(.slice z1.1.2.2.2.2.1.1 z1.1.2.2.2.2.1.2.1 z1.1.2.2.2.2.1.2.2)])) <|
 .cut 1 (.cons .bool .nil) (
 .ite (!z1.2.1) (
 .leaf 1 [(.bool true)]) (
 .eff (Instr.loadAt 29 (.pointer (some z2))) (.agg (.cons (.int .i64) (.cons (.int .i64) (.cons (.int .i64) (.cons .slice (.cons .slice .nil)))))) fun (z3:(Int×(Int×(Int×((Option Addr×Nat×Nat)×((Option Addr×Nat×Nat)×PUnit))))))=>
 .call 33 #[(.string q0),(.agg #[(.int .i64 z3.1),(.int .i64 z3.2.1),(.int .i64 z3.2.2.1),(.slice z3.2.2.2.1.1 z3.2.2.2.1.2.1 z3.2.2.2.1.2.2),(.slice z3.2.2.2.2.1.1 z3.2.2.2.2.1.2.1 z3.2.2.2.2.1.2.2)]),(.slice q1 q1_len q1_cap)] .bool fun (b4:Bool)=>
 .leaf 1 [(.bool (!b4))]))
 (fun z=>laws_jpEnd.t1 q0 q1 q1_len q1_cap z0 z2 z.1)
def laws_jpEnd.h:Hints:=⟨[],[],[(2,[(28,.bool)]),(6,[(52,.bool)])],[(9,[(58,(.int .i64))])]⟩
noncomputable def laws_jpEnd.c:Code:=(Tryz.f27.body).getD .skip
theorem laws_jpEnd.e (q0:ByteArray) (q1:(Option Addr)) (q1_len:Nat) (q1_cap:Nat):fnT Tryz.prog laws_jpEnd.h Tryz.f27 laws_jpEnd.c [.v (.string q0),.v (.slice q1 q1_len q1_cap)]=laws_jpEnd.t q0 q1 q1_len q1_cap:=by kernel_rfl
theorem laws_jpEnd.calls (q0:ByteArray) (q1:(Option Addr)) (q1_len:Nat) (q1_cap:Nat) {w:World} {R:Ending→World→Prop} (hs:sat Tryz.prog (laws_jpEnd.t q0 q1 q1_len q1_cap) (fun l vs w'=>l=0∧R (.returned (retVal vs)) w') w):Calls Tryz.prog 27 #[(.string q0),(.slice q1 q1_len q1_cap)] w R:=
 have h:=calls_of_tree (w:=w) (R:=R) (args:=[.v (.string q0),.v (.slice q1 q1_len q1_cap)]) (c:=laws_jpEnd.c) Tryz.func27 (show Tryz.f27.body=some laws_jpEnd.c by kernel_rfl) (of_decide_eq_true (by kernel_rfl)) (laws_jpEnd.e q0 q1 q1_len q1_cap) hs
 h
def spec_Reach.t1 (text:ByteArray) (keys:(Option Addr)) (keys_len:Nat) (z0:Addr) (z1:Addr) (i2:Int):T:=
 .ite (decide (i2<(keys_len:Int))) (
 .chk ((0≤i2)∧(i2<(keys_len:Int))) <|
 .ptr keys fun (z3:Addr)=>
 .load (Addr.add z3 ((Int.toNat i2) * 1)) .str fun (s4:ByteArray)=>
 .eff (Instr.loadAt 29 (.pointer (some z0))) (.agg (.cons (.int .i64) (.cons (.int .i64) (.cons (.int .i64) (.cons .slice (.cons .slice .nil)))))) fun (z5:(Int×(Int×(Int×((Option Addr×Nat×Nat)×((Option Addr×Nat×Nat)×PUnit))))))=>
 .call 35 #[(.string text),(.agg #[(.int .i64 z5.1),(.int .i64 z5.2.1),(.int .i64 z5.2.2.1),(.slice z5.2.2.2.1.1 z5.2.2.2.1.2.1 z5.2.2.2.1.2.2),(.slice z5.2.2.2.2.1.1 z5.2.2.2.2.1.2.1 z5.2.2.2.2.1.2.2)]),(.string s4)] (.tuple (.cons (.agg (.cons (.int .i64) (.cons (.int .i64) (.cons (.int .i64) (.cons .slice (.cons .slice .nil)))))) (.cons .bool .nil))) fun (z6:((Int×(Int×(Int×((Option Addr×Nat×Nat)×((Option Addr×Nat×Nat)×PUnit)))))×(Bool×PUnit)))=>
 .alloc (Obj.cells #[(.int .i64 0),(.int .i64 0),(.int .i64 0),(.slice none 0 0),(.slice none 0 0)] 29 (0,0)) fun (z7:Addr)=>
 .effU (Instr.storeAt 29 (.pointer (some z7)) (.agg #[(.int .i64 z6.1.1),(.int .i64 z6.1.2.1),(.int .i64 z6.1.2.2.1),(.slice z6.1.2.2.2.1.1 z6.1.2.2.2.1.2.1 z6.1.2.2.2.1.2.2),(.slice z6.1.2.2.2.2.1.1 z6.1.2.2.2.2.1.2.1 z6.1.2.2.2.2.1.2.2)])) <|
 .ite (!z6.2.1) (
 .eff (Instr.loadAt 29 (.pointer (some z0))) (.agg (.cons (.int .i64) (.cons (.int .i64) (.cons (.int .i64) (.cons .slice (.cons .slice .nil)))))) fun (z8:(Int×(Int×(Int×((Option Addr×Nat×Nat)×((Option Addr×Nat×Nat)×PUnit))))))=>
 .effU (Instr.storeAt 29 (.pointer (some z1)) (.agg #[(.int .i64 z8.1),(.int .i64 z8.2.1),(.int .i64 z8.2.2.1),(.slice z8.2.2.2.1.1 z8.2.2.2.1.2.1 z8.2.2.2.1.2.2),(.slice z8.2.2.2.2.1.1 z8.2.2.2.2.1.2.1 z8.2.2.2.2.1.2.2)])) <|
 .effS (Instr.loadAt 29 (.pointer (some z1))) (.agg (.cons (.int .i64) (.cons (.int .i64) (.cons (.int .i64) (.cons .slice (.cons .slice .nil)))))) fun (z9:(Int×(Int×(Int×((Option Addr×Nat×Nat)×((Option Addr×Nat×Nat)×PUnit))))))=>
 .leaf 0 [(.agg #[(.int .i64 z9.1),(.int .i64 z9.2.1),(.int .i64 z9.2.2.1),(.slice z9.2.2.2.1.1 z9.2.2.2.1.2.1 z9.2.2.2.1.2.2),(.slice z9.2.2.2.2.1.1 z9.2.2.2.2.1.2.1 z9.2.2.2.2.1.2.2)]),(.int .i64 i2)]) (
 .eff (Instr.loadAt 29 (.pointer (some z7))) (.agg (.cons (.int .i64) (.cons (.int .i64) (.cons (.int .i64) (.cons .slice (.cons .slice .nil)))))) fun (z10:(Int×(Int×(Int×((Option Addr×Nat×Nat)×((Option Addr×Nat×Nat)×PUnit))))))=>
 .effU (Instr.storeAt 29 (.pointer (some z0)) (.agg #[(.int .i64 z10.1),(.int .i64 z10.2.1),(.int .i64 z10.2.2.1),(.slice z10.2.2.2.1.1 z10.2.2.2.1.2.1 z10.2.2.2.1.2.2),(.slice z10.2.2.2.2.1.1 z10.2.2.2.2.1.2.1 z10.2.2.2.2.1.2.2)])) <|
 .leaf 1 [(.int .i64 (IntKind.wrap .i64 (i2+1)))])) (
 .eff (Instr.loadAt 29 (.pointer (some z0))) (.agg (.cons (.int .i64) (.cons (.int .i64) (.cons (.int .i64) (.cons .slice (.cons .slice .nil)))))) fun (z11:(Int×(Int×(Int×((Option Addr×Nat×Nat)×((Option Addr×Nat×Nat)×PUnit))))))=>
 .effU (Instr.storeAt 29 (.pointer (some z1)) (.agg #[(.int .i64 z11.1),(.int .i64 z11.2.1),(.int .i64 z11.2.2.1),(.slice z11.2.2.2.1.1 z11.2.2.2.1.2.1 z11.2.2.2.1.2.2),(.slice z11.2.2.2.2.1.1 z11.2.2.2.2.1.2.1 z11.2.2.2.2.1.2.2)])) <|
 .effS (Instr.loadAt 29 (.pointer (some z1))) (.agg (.cons (.int .i64) (.cons (.int .i64) (.cons (.int .i64) (.cons .slice (.cons .slice .nil)))))) fun (z12:(Int×(Int×(Int×((Option Addr×Nat×Nat)×((Option Addr×Nat×Nat)×PUnit))))))=>
 .leaf 0 [(.agg #[(.int .i64 z12.1),(.int .i64 z12.2.1),(.int .i64 z12.2.2.1),(.slice z12.2.2.2.1.1 z12.2.2.2.1.2.1 z12.2.2.2.1.2.2),(.slice z12.2.2.2.2.1.1 z12.2.2.2.2.1.2.1 z12.2.2.2.2.1.2.2)]),(.int .i64 (keys_len:Int))])
def spec_Reach.t (text:ByteArray) (p_0:Int) (p_1:Int) (p_2:Int) (p_3:(Option Addr)) (p_3_len:Nat) (p_3_cap:Nat) (p_4:(Option Addr)) (p_4_len:Nat) (p_4_cap:Nat) (keys:(Option Addr)) (keys_len:Nat) (keys_cap:Nat):T:=
 .alloc (Obj.cells #[(.int .i64 p_0),(.int .i64 p_1),(.int .i64 p_2),(.slice p_3 p_3_len p_3_cap),(.slice p_4 p_4_len p_4_cap)] 29 (0,0)) fun (z0:Addr)=>
 .alloc (Obj.cells #[(.int .i64 0),(.int .i64 0),(.int .i64 0),(.slice none 0 0),(.slice none 0 0)] 29 (0,0)) fun (z1:Addr)=>
 .loop 1 (.cons (.int .i64) .nil) [(.int .i64 0)]
 (fun z=>spec_Reach.t1 text keys keys_len z0 z1 z.1)
def spec_Reach.h:Hints:=⟨[],[],[],[(2,[(14,(.int .i64))])]⟩
noncomputable def spec_Reach.c:Code:=(Tryz.f21.body).getD .skip
theorem spec_Reach.e (text:ByteArray) (p_0:Int) (p_1:Int) (p_2:Int) (p_3:(Option Addr)) (p_3_len:Nat) (p_3_cap:Nat) (p_4:(Option Addr)) (p_4_len:Nat) (p_4_cap:Nat) (keys:(Option Addr)) (keys_len:Nat) (keys_cap:Nat):fnT Tryz.prog spec_Reach.h Tryz.f21 spec_Reach.c [.v (.string text),.v (.agg #[(.int .i64 p_0),(.int .i64 p_1),(.int .i64 p_2),(.slice p_3 p_3_len p_3_cap),(.slice p_4 p_4_len p_4_cap)]),.v (.slice keys keys_len keys_cap)]=spec_Reach.t text p_0 p_1 p_2 p_3 p_3_len p_3_cap p_4 p_4_len p_4_cap keys keys_len keys_cap:=by kernel_rfl
theorem spec_Reach.calls (text:ByteArray) (p_0:Int) (p_1:Int) (p_2:Int) (p_3:(Option Addr)) (p_3_len:Nat) (p_3_cap:Nat) (p_4:(Option Addr)) (p_4_len:Nat) (p_4_cap:Nat) (keys:(Option Addr)) (keys_len:Nat) (keys_cap:Nat) {w:World} {R:Ending→World→Prop} (hs:sat Tryz.prog (spec_Reach.t text p_0 p_1 p_2 p_3 p_3_len p_3_cap p_4 p_4_len p_4_cap keys keys_len keys_cap) (fun l vs w'=>l=0∧R (.returned (retVal vs)) w') w):Calls Tryz.prog 21 #[(.string text),(.agg #[(.int .i64 p_0),(.int .i64 p_1),(.int .i64 p_2),(.slice p_3 p_3_len p_3_cap),(.slice p_4 p_4_len p_4_cap)]),(.slice keys keys_len keys_cap)] w R:=
 have h:=calls_of_tree (w:=w) (R:=R) (args:=[.v (.string text),.v (.agg #[(.int .i64 p_0),(.int .i64 p_1),(.int .i64 p_2),(.slice p_3 p_3_len p_3_cap),(.slice p_4 p_4_len p_4_cap)]),.v (.slice keys keys_len keys_cap)]) (c:=spec_Reach.c) Tryz.func21 (show Tryz.f21.body=some spec_Reach.c by kernel_rfl) (of_decide_eq_true (by kernel_rfl)) (spec_Reach.e text p_0 p_1 p_2 p_3 p_3_len p_3_cap p_4 p_4_len p_4_cap keys keys_len keys_cap) hs
 h
def spec_AsIs.t1 (name:ByteArray) (i0:Int):T:=
 .ite (decide (i0<((ByteArray.size name):Int))) (
 .chk ((0≤i0)∧(i0<((ByteArray.size name):Int))) <|
 .ite ((bt name i0)==34) (
 .leaf 0 [(.bool false)]) (
 .ite ((bt name i0)==92) (
 .leaf 0 [(.bool false)]) (
 .ite (decide ((bt name i0)<32)) (
 .leaf 0 [(.bool false)]) (
 .leaf 1 [(.int .i64 (IntKind.wrap .i64 (i0+1)))])))) (
 .leaf 0 [(.bool (!(strEq name (ByteArray.mk #[]))))])
def spec_AsIs.t (name:ByteArray):T:=
 .loop 1 (.cons (.int .i64) .nil) [(.int .i64 0)]
 (fun z=>spec_AsIs.t1 name z.1)
def spec_AsIs.h:Hints:=⟨[],[],[],[(2,[(3,(.int .i64))])]⟩
noncomputable def spec_AsIs.c:Code:=(Tryz.f45.body).getD .skip
theorem spec_AsIs.e (name:ByteArray):fnT Tryz.prog spec_AsIs.h Tryz.f45 spec_AsIs.c [.v (.string name)]=spec_AsIs.t name:=by kernel_rfl
theorem spec_AsIs.calls (name:ByteArray) {w:World} {R:Ending→World→Prop} (hs:sat Tryz.prog (spec_AsIs.t name) (fun l vs w'=>l=0∧R (.returned (retVal vs)) w') w):Calls Tryz.prog 45 #[(.string name)] w R:=
 have h:=calls_of_tree (w:=w) (R:=R) (args:=[.v (.string name)]) (c:=spec_AsIs.c) Tryz.func45 (show Tryz.f45.body=some spec_AsIs.c by kernel_rfl) (of_decide_eq_true (by kernel_rfl)) (spec_AsIs.e name) hs
 h
end Go.Proofs.YtlfebfkphgelfaaGreatDoor.Tr
