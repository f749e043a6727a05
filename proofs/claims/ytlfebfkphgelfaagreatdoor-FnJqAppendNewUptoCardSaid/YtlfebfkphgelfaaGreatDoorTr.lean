import Derived.Test.YtlfebfkphgelfaaGreatDoorRz
import Derived.Test.YtlfebfkphgelfaaGreatDoorProg
import Derived.KernelRfl
namespace Go.Proofs.YtlfebfkphgelfaaGreatDoor.Tr
open Go Go.Proofs Rx
set_option linter.unusedVariables false
set_option maxRecDepth 100000
def laws_zzFits1.t1 (x:(Option Addr)) (x_len:Nat) (i0:Int):T:=
 .ite (decide (i0<(x_len:Int))) (
 .chk ((0≤i0)∧(i0<(x_len:Int))) <|
 .ptr x fun (z1:Addr)=>
 .load (Addr.add z1 ((Int.toNat i0) * 1)) .str fun (s2:ByteArray)=>
 .ite (decide (((ByteArray.size s2):Int) > 2147483647)) (
 .leaf 0 [(.bool false)]) (
 .leaf 1 [(.int .i64 (IntKind.wrap .i64 (i0+1)))])) (
 .leaf 0 [(.bool true)])
def laws_zzFits1.t (x:(Option Addr)) (x_len:Nat) (x_cap:Nat):T:=
 .ite (decide ((x_len:Int) > 2147483647)) (
 .leaf 0 [(.bool false)]) (
 .loop 1 (.cons (.int .i64) .nil) [(.int .i64 0)]
 (fun z=>laws_zzFits1.t1 x x_len z.1))
def laws_zzFits1.h:Hints:=⟨[],[],[],[(4,[(10,(.int .i64))])]⟩
noncomputable def laws_zzFits1.c:Code:=(Tryz.f6.body).getD .skip
theorem laws_zzFits1.e (x:(Option Addr)) (x_len:Nat) (x_cap:Nat):fnT Tryz.prog laws_zzFits1.h Tryz.f6 laws_zzFits1.c [.v (.slice x x_len x_cap)]=laws_zzFits1.t x x_len x_cap:=by kernel_rfl
theorem laws_zzFits1.calls (x:(Option Addr)) (x_len:Nat) (x_cap:Nat) {w:World} {R:Ending→World→Prop} (hs:sat Tryz.prog (laws_zzFits1.t x x_len x_cap) (fun l vs w'=>l=0∧R (.returned (retVal vs)) w') w):Calls Tryz.prog 6 #[(.slice x x_len x_cap)] w R:=
 have h:=calls_of_tree (w:=w) (R:=R) (args:=[.v (.slice x x_len x_cap)]) (c:=laws_zzFits1.c) Tryz.func6 (show Tryz.f6.body=some laws_zzFits1.c by kernel_rfl) (of_decide_eq_true (by kernel_rfl)) (laws_zzFits1.e x x_len x_cap) hs
 h
def laws_jpFound.t3 (text:ByteArray) (z0:Addr) (z2:Addr) (i7:Int) (s9:ByteArray) (b12:Bool):T:=
 .ite b12 (
 .effU (Instr.storeAt 29 (.pointer (some z0)) (.agg #[(.int .i64 0),(.int .i64 0),(.int .i64 0),(.slice none 0 0),(.slice none 0 0)])) <|
 .effS (Instr.loadAt 29 (.pointer (some z0))) (.agg (.cons (.int .i64) (.cons (.int .i64) (.cons (.int .i64) (.cons .slice (.cons .slice .nil)))))) fun (z13:(Int×(Int×(Int×((Option Addr×Nat×Nat)×((Option Addr×Nat×Nat)×PUnit))))))=>
 .leaf 0 [(.agg #[(.int .i64 z13.1),(.int .i64 z13.2.1),(.int .i64 z13.2.2.1),(.slice z13.2.2.2.1.1 z13.2.2.2.1.2.1 z13.2.2.2.1.2.2),(.slice z13.2.2.2.2.1.1 z13.2.2.2.2.1.2.1 z13.2.2.2.2.1.2.2)]),(.bool false)]) (
 .eff (Instr.loadAt 29 (.pointer (some z2))) (.agg (.cons (.int .i64) (.cons (.int .i64) (.cons (.int .i64) (.cons .slice (.cons .slice .nil)))))) fun (z14:(Int×(Int×(Int×((Option Addr×Nat×Nat)×((Option Addr×Nat×Nat)×PUnit))))))=>
 .call 35 #[(.string text),(.agg #[(.int .i64 z14.1),(.int .i64 z14.2.1),(.int .i64 z14.2.2.1),(.slice z14.2.2.2.1.1 z14.2.2.2.1.2.1 z14.2.2.2.1.2.2),(.slice z14.2.2.2.2.1.1 z14.2.2.2.2.1.2.1 z14.2.2.2.2.1.2.2)]),(.string s9)] (.tuple (.cons (.agg (.cons (.int .i64) (.cons (.int .i64) (.cons (.int .i64) (.cons .slice (.cons .slice .nil)))))) (.cons .bool .nil))) fun (z15:((Int×(Int×(Int×((Option Addr×Nat×Nat)×((Option Addr×Nat×Nat)×PUnit)))))×(Bool×PUnit)))=>
 .effU (Instr.storeAt 29 (.pointer (some z2)) (.agg #[(.int .i64 z15.1.1),(.int .i64 z15.1.2.1),(.int .i64 z15.1.2.2.1),(.slice z15.1.2.2.2.1.1 z15.1.2.2.2.1.2.1 z15.1.2.2.2.1.2.2),(.slice z15.1.2.2.2.2.1.1 z15.1.2.2.2.2.1.2.1 z15.1.2.2.2.2.1.2.2)])) <|
 .ite (!z15.2.1) (
 .effU (Instr.storeAt 29 (.pointer (some z0)) (.agg #[(.int .i64 0),(.int .i64 0),(.int .i64 0),(.slice none 0 0),(.slice none 0 0)])) <|
 .effS (Instr.loadAt 29 (.pointer (some z0))) (.agg (.cons (.int .i64) (.cons (.int .i64) (.cons (.int .i64) (.cons .slice (.cons .slice .nil)))))) fun (z16:(Int×(Int×(Int×((Option Addr×Nat×Nat)×((Option Addr×Nat×Nat)×PUnit))))))=>
 .leaf 0 [(.agg #[(.int .i64 z16.1),(.int .i64 z16.2.1),(.int .i64 z16.2.2.1),(.slice z16.2.2.2.1.1 z16.2.2.2.1.2.1 z16.2.2.2.1.2.2),(.slice z16.2.2.2.2.1.1 z16.2.2.2.2.1.2.1 z16.2.2.2.2.1.2.2)]),(.bool false)]) (
 .leaf 1 [(.int .i64 (IntKind.wrap .i64 (i7+1)))]))
def laws_jpFound.t2 (text:ByteArray) (keys:(Option Addr)) (keys_len:Nat) (z0:Addr) (z2:Addr) (i7:Int):T:=
 .ite (decide (i7<(keys_len:Int))) (
 .chk ((0≤i7)∧(i7<(keys_len:Int))) <|
 .ptr keys fun (z8:Addr)=>
 .load (Addr.add z8 ((Int.toNat i7) * 1)) .str fun (s9:ByteArray)=>
 .cut 2 (.cons .bool .nil) (
 .load (Addr.add z2 0) (.int .i64) fun (i10:Int)=>
 .ite (i10==6) (
 .call 34 #[(.string s9)] .bool fun (b11:Bool)=>
 .leaf 2 [(.bool b11)]) (
 .leaf 2 [(.bool false)]))
 (fun z=>laws_jpFound.t3 text z0 z2 i7 s9 z.1)) (
 .eff (Instr.loadAt 29 (.pointer (some z2))) (.agg (.cons (.int .i64) (.cons (.int .i64) (.cons (.int .i64) (.cons .slice (.cons .slice .nil)))))) fun (z17:(Int×(Int×(Int×((Option Addr×Nat×Nat)×((Option Addr×Nat×Nat)×PUnit))))))=>
 .effU (Instr.storeAt 29 (.pointer (some z0)) (.agg #[(.int .i64 z17.1),(.int .i64 z17.2.1),(.int .i64 z17.2.2.1),(.slice z17.2.2.2.1.1 z17.2.2.2.1.2.1 z17.2.2.2.1.2.2),(.slice z17.2.2.2.2.1.1 z17.2.2.2.2.1.2.1 z17.2.2.2.2.1.2.2)])) <|
 .effS (Instr.loadAt 29 (.pointer (some z0))) (.agg (.cons (.int .i64) (.cons (.int .i64) (.cons (.int .i64) (.cons .slice (.cons .slice .nil)))))) fun (z18:(Int×(Int×(Int×((Option Addr×Nat×Nat)×((Option Addr×Nat×Nat)×PUnit))))))=>
 .leaf 0 [(.agg #[(.int .i64 z18.1),(.int .i64 z18.2.1),(.int .i64 z18.2.2.1),(.slice z18.2.2.2.1.1 z18.2.2.2.1.2.1 z18.2.2.2.1.2.2),(.slice z18.2.2.2.2.1.1 z18.2.2.2.2.1.2.1 z18.2.2.2.2.1.2.2)]),(.bool true)])
def laws_jpFound.t1 (text:ByteArray) (keys:(Option Addr)) (keys_len:Nat) (z0:Addr) (z2:Addr) (b5:Bool):T:=
 .ite b5 (
 .effU (Instr.storeAt 29 (.pointer (some z0)) (.agg #[(.int .i64 0),(.int .i64 0),(.int .i64 0),(.slice none 0 0),(.slice none 0 0)])) <|
 .effS (Instr.loadAt 29 (.pointer (some z0))) (.agg (.cons (.int .i64) (.cons (.int .i64) (.cons (.int .i64) (.cons .slice (.cons .slice .nil)))))) fun (z6:(Int×(Int×(Int×((Option Addr×Nat×Nat)×((Option Addr×Nat×Nat)×PUnit))))))=>
 .leaf 0 [(.agg #[(.int .i64 z6.1),(.int .i64 z6.2.1),(.int .i64 z6.2.2.1),(.slice z6.2.2.2.1.1 z6.2.2.2.1.2.1 z6.2.2.2.1.2.2),(.slice z6.2.2.2.2.1.1 z6.2.2.2.2.1.2.1 z6.2.2.2.2.1.2.2)]),(.bool false)]) (
 .loop 1 (.cons (.int .i64) .nil) [(.int .i64 0)]
 (fun z=>laws_jpFound.t2 text keys keys_len z0 z2 z.1))
def laws_jpFound.t (text:ByteArray) (keys:(Option Addr)) (keys_len:Nat) (keys_cap:Nat):T:=
 .alloc (Obj.cells #[(.int .i64 0),(.int .i64 0),(.int .i64 0),(.slice none 0 0),(.slice none 0 0)] 29 (0,0)) fun (z0:Addr)=>
 .call 8 #[(.string text)] (.tuple (.cons (.agg (.cons (.int .i64) (.cons (.int .i64) (.cons (.int .i64) (.cons .slice (.cons .slice .nil)))))) (.cons .bool .nil))) fun (z1:((Int×(Int×(Int×((Option Addr×Nat×Nat)×((Option Addr×Nat×Nat)×PUnit)))))×(Bool×PUnit)))=>
 .alloc (Obj.cells #[(.int .i64 0),(.int .i64 0),(.int .i64 0),(.slice none 0 0),(.slice none 0 0)] 29 (0,0)) fun (z2:Addr)=>
 .effU (Instr.storeAt 29 (.pointer (some z2)) (.agg #[(.int .i64 z1.1.1),(.int .i64 z1.1.2.1),(.int .i64 z1.1.2.2.1),(.slice z1.1.2.2.2.1.1 z1.1.2.2.2.1.2.1 z1.1.2.2.2.1.2.2),(.slice z1.1.2.2.2.2.1.1 z1.1.2.2.2.2.1.2.1 z1.1.2.2.2.2.1.2.2)])) <|
 .cut 1 (.cons .bool .nil) (
 .ite (!z1.2.1) (
 .leaf 1 [(.bool true)]) (
 .eff (Instr.loadAt 29 (.pointer (some z2))) (.agg (.cons (.int .i64) (.cons (.int .i64) (.cons (.int .i64) (.cons .slice (.cons .slice .nil)))))) fun (z3:(Int×(Int×(Int×((Option Addr×Nat×Nat)×((Option Addr×Nat×Nat)×PUnit))))))=>
 .call 33 #[(.string text),(.agg #[(.int .i64 z3.1),(.int .i64 z3.2.1),(.int .i64 z3.2.2.1),(.slice z3.2.2.2.1.1 z3.2.2.2.1.2.1 z3.2.2.2.1.2.2),(.slice z3.2.2.2.2.1.1 z3.2.2.2.2.1.2.1 z3.2.2.2.2.1.2.2)]),(.slice keys keys_len keys_cap)] .bool fun (b4:Bool)=>
 .leaf 1 [(.bool (!b4))]))
 (fun z=>laws_jpFound.t1 text keys keys_len z0 z2 z.1)
def laws_jpFound.h:Hints:=⟨[],[],[(2,[(23,.bool)]),(7,[(37,.bool)])],[(5,[(27,(.int .i64))])]⟩
noncomputable def laws_jpFound.c:Code:=(Tryz.f17.body).getD .skip
theorem laws_jpFound.e (text:ByteArray) (keys:(Option Addr)) (keys_len:Nat) (keys_cap:Nat):fnT Tryz.prog laws_jpFound.h Tryz.f17 laws_jpFound.c [.v (.string text),.v (.slice keys keys_len keys_cap)]=laws_jpFound.t text keys keys_len keys_cap:=by kernel_rfl
theorem laws_jpFound.calls (text:ByteArray) (keys:(Option Addr)) (keys_len:Nat) (keys_cap:Nat) {w:World} {R:Ending→World→Prop} (hs:sat Tryz.prog (laws_jpFound.t text keys keys_len keys_cap) (fun l vs w'=>l=0∧R (.returned (retVal vs)) w') w):Calls Tryz.prog 17 #[(.string text),(.slice keys keys_len keys_cap)] w R:=
 have h:=calls_of_tree (w:=w) (R:=R) (args:=[.v (.string text),.v (.slice keys keys_len keys_cap)]) (c:=laws_jpFound.c) Tryz.func17 (show Tryz.f17.body=some laws_jpFound.c by kernel_rfl) (of_decide_eq_true (by kernel_rfl)) (laws_jpFound.e text keys keys_len keys_cap) hs
 h
def laws_jpPlaces.t (text:ByteArray):T:=
 .alloc (Obj.cells #[(.int .i64 0),(.int .i64 0),(.int .i64 0),(.slice none 0 0),(.slice none 0 0)] 29 (0,0)) fun (z0:Addr)=>
 .ite (decide (((ByteArray.size text):Int) > 65536)) (
 .effU (Instr.storeAt 29 (.pointer (some z0)) (.agg #[(.int .i64 0),(.int .i64 0),(.int .i64 0),(.slice none 0 0),(.slice none 0 0)])) <|
 .effS (Instr.loadAt 29 (.pointer (some z0))) (.agg (.cons (.int .i64) (.cons (.int .i64) (.cons (.int .i64) (.cons .slice (.cons .slice .nil)))))) fun (z1:(Int×(Int×(Int×((Option Addr×Nat×Nat)×((Option Addr×Nat×Nat)×PUnit))))))=>
 .leaf 0 [(.agg #[(.int .i64 z1.1),(.int .i64 z1.2.1),(.int .i64 z1.2.2.1),(.slice z1.2.2.2.1.1 z1.2.2.2.1.2.1 z1.2.2.2.1.2.2),(.slice z1.2.2.2.2.1.1 z1.2.2.2.2.1.2.1 z1.2.2.2.2.1.2.2)]),(.bool false)]) (
 .call 19 #[(.string text)] (.tuple (.cons (.agg (.cons (.int .i64) (.cons (.int .i64) (.cons (.int .i64) (.cons .slice (.cons .slice .nil)))))) (.cons .bool .nil))) fun (z2:((Int×(Int×(Int×((Option Addr×Nat×Nat)×((Option Addr×Nat×Nat)×PUnit)))))×(Bool×PUnit)))=>
 .effU (Instr.storeAt 29 (.pointer (some z0)) (.agg #[(.int .i64 z2.1.1),(.int .i64 z2.1.2.1),(.int .i64 z2.1.2.2.1),(.slice z2.1.2.2.2.1.1 z2.1.2.2.2.1.2.1 z2.1.2.2.2.1.2.2),(.slice z2.1.2.2.2.2.1.1 z2.1.2.2.2.2.1.2.1 z2.1.2.2.2.2.1.2.2)])) <|
 .effS (Instr.loadAt 29 (.pointer (some z0))) (.agg (.cons (.int .i64) (.cons (.int .i64) (.cons (.int .i64) (.cons .slice (.cons .slice .nil)))))) fun (z3:(Int×(Int×(Int×((Option Addr×Nat×Nat)×((Option Addr×Nat×Nat)×PUnit))))))=>
 .leaf 0 [(.agg #[(.int .i64 z3.1),(.int .i64 z3.2.1),(.int .i64 z3.2.2.1),(.slice z3.2.2.2.1.1 z3.2.2.2.1.2.1 z3.2.2.2.1.2.2),(.slice z3.2.2.2.2.1.1 z3.2.2.2.2.1.2.1 z3.2.2.2.2.1.2.2)]),(.bool z2.2.1)])
def laws_jpPlaces.h:Hints:=⟨[],[],[],[]⟩
noncomputable def laws_jpPlaces.c:Code:=(Tryz.f8.body).getD .skip
theorem laws_jpPlaces.e (text:ByteArray):fnT Tryz.prog laws_jpPlaces.h Tryz.f8 laws_jpPlaces.c [.v (.string text)]=laws_jpPlaces.t text:=by kernel_rfl
theorem laws_jpPlaces.calls (text:ByteArray) {w:World} {R:Ending→World→Prop} (hs:sat Tryz.prog (laws_jpPlaces.t text) (fun l vs w'=>l=0∧R (.returned (retVal vs)) w') w):Calls Tryz.prog 8 #[(.string text)] w R:=
 have h:=calls_of_tree (w:=w) (R:=R) (args:=[.v (.string text)]) (c:=laws_jpPlaces.c) Tryz.func8 (show Tryz.f8.body=some laws_jpPlaces.c by kernel_rfl) (of_decide_eq_true (by kernel_rfl)) (laws_jpPlaces.e text) hs
 h
def spec_Places.t (text:ByteArray):T:=
 .alloc (Obj.cells #[(.int .i64 0),(.int .i64 0),(.int .i64 0),(.slice none 0 0),(.slice none 0 0)] 29 (0,0)) fun (z0:Addr)=>
 .alloc (Obj.cells #[(.string (ByteArray.mk #[])),(.int .i64 0)] 71 (0,0)) fun (z1:Addr)=>
 .effU (Instr.storeAt 71 (.pointer (some z1)) (.agg #[(.string text),(.int .i64 0)])) <|
 .call 37 #[(.pointer (some z1))] (.tuple .nil) fun _=>
 .call 38 #[(.pointer (some z1))] (.tuple (.cons (.agg (.cons (.int .i64) (.cons (.int .i64) (.cons (.int .i64) (.cons .slice (.cons .slice .nil)))))) (.cons .bool .nil))) fun (z2:((Int×(Int×(Int×((Option Addr×Nat×Nat)×((Option Addr×Nat×Nat)×PUnit)))))×(Bool×PUnit)))=>
 .alloc (Obj.cells #[(.int .i64 0),(.int .i64 0),(.int .i64 0),(.slice none 0 0),(.slice none 0 0)] 29 (0,0)) fun (z3:Addr)=>
 .effU (Instr.storeAt 29 (.pointer (some z3)) (.agg #[(.int .i64 z2.1.1),(.int .i64 z2.1.2.1),(.int .i64 z2.1.2.2.1),(.slice z2.1.2.2.2.1.1 z2.1.2.2.2.1.2.1 z2.1.2.2.2.1.2.2),(.slice z2.1.2.2.2.2.1.1 z2.1.2.2.2.2.1.2.1 z2.1.2.2.2.2.1.2.2)])) <|
 .ite (!z2.2.1) (
 .effU (Instr.storeAt 29 (.pointer (some z0)) (.agg #[(.int .i64 0),(.int .i64 0),(.int .i64 0),(.slice none 0 0),(.slice none 0 0)])) <|
 .effS (Instr.loadAt 29 (.pointer (some z0))) (.agg (.cons (.int .i64) (.cons (.int .i64) (.cons (.int .i64) (.cons .slice (.cons .slice .nil)))))) fun (z4:(Int×(Int×(Int×((Option Addr×Nat×Nat)×((Option Addr×Nat×Nat)×PUnit))))))=>
 .leaf 0 [(.agg #[(.int .i64 z4.1),(.int .i64 z4.2.1),(.int .i64 z4.2.2.1),(.slice z4.2.2.2.1.1 z4.2.2.2.1.2.1 z4.2.2.2.1.2.2),(.slice z4.2.2.2.2.1.1 z4.2.2.2.2.1.2.1 z4.2.2.2.2.1.2.2)]),(.bool false)]) (
 .call 37 #[(.pointer (some z1))] (.tuple .nil) fun _=>
 .load (Addr.add z1 1) (.int .i64) fun (i5:Int)=>
 .ite (i5 != ((ByteArray.size text):Int)) (
 .effU (Instr.storeAt 29 (.pointer (some z0)) (.agg #[(.int .i64 0),(.int .i64 0),(.int .i64 0),(.slice none 0 0),(.slice none 0 0)])) <|
 .effS (Instr.loadAt 29 (.pointer (some z0))) (.agg (.cons (.int .i64) (.cons (.int .i64) (.cons (.int .i64) (.cons .slice (.cons .slice .nil)))))) fun (z6:(Int×(Int×(Int×((Option Addr×Nat×Nat)×((Option Addr×Nat×Nat)×PUnit))))))=>
 .leaf 0 [(.agg #[(.int .i64 z6.1),(.int .i64 z6.2.1),(.int .i64 z6.2.2.1),(.slice z6.2.2.2.1.1 z6.2.2.2.1.2.1 z6.2.2.2.1.2.2),(.slice z6.2.2.2.2.1.1 z6.2.2.2.2.1.2.1 z6.2.2.2.2.1.2.2)]),(.bool false)]) (
 .eff (Instr.loadAt 29 (.pointer (some z3))) (.agg (.cons (.int .i64) (.cons (.int .i64) (.cons (.int .i64) (.cons .slice (.cons .slice .nil)))))) fun (z7:(Int×(Int×(Int×((Option Addr×Nat×Nat)×((Option Addr×Nat×Nat)×PUnit))))))=>
 .effU (Instr.storeAt 29 (.pointer (some z0)) (.agg #[(.int .i64 z7.1),(.int .i64 z7.2.1),(.int .i64 z7.2.2.1),(.slice z7.2.2.2.1.1 z7.2.2.2.1.2.1 z7.2.2.2.1.2.2),(.slice z7.2.2.2.2.1.1 z7.2.2.2.2.1.2.1 z7.2.2.2.2.1.2.2)])) <|
 .effS (Instr.loadAt 29 (.pointer (some z0))) (.agg (.cons (.int .i64) (.cons (.int .i64) (.cons (.int .i64) (.cons .slice (.cons .slice .nil)))))) fun (z8:(Int×(Int×(Int×((Option Addr×Nat×Nat)×((Option Addr×Nat×Nat)×PUnit))))))=>
 .leaf 0 [(.agg #[(.int .i64 z8.1),(.int .i64 z8.2.1),(.int .i64 z8.2.2.1),(.slice z8.2.2.2.1.1 z8.2.2.2.1.2.1 z8.2.2.2.1.2.2),(.slice z8.2.2.2.2.1.1 z8.2.2.2.2.1.2.1 z8.2.2.2.2.1.2.2)]),(.bool true)]))
def spec_Places.h:Hints:=⟨[],[],[],[]⟩
noncomputable def spec_Places.c:Code:=(Tryz.f19.body).getD .skip
theorem spec_Places.e (text:ByteArray):fnT Tryz.prog spec_Places.h Tryz.f19 spec_Places.c [.v (.string text)]=spec_Places.t text:=by kernel_rfl
theorem spec_Places.calls (text:ByteArray) {w:World} {R:Ending→World→Prop} (hs:sat Tryz.prog (spec_Places.t text) (fun l vs w'=>l=0∧R (.returned (retVal vs)) w') w):Calls Tryz.prog 19 #[(.string text)] w R:=
 have h:=calls_of_tree (w:=w) (R:=R) (args:=[.v (.string text)]) (c:=spec_Places.c) Tryz.func19 (show Tryz.f19.body=some spec_Places.c by kernel_rfl) (of_decide_eq_true (by kernel_rfl)) (spec_Places.e text) hs
 h
def spec_Once.t2 (text:ByteArray) (z0:Addr) (s3:ByteArray) (i5:Int) (i6:Int):T:=
 .load (Addr.add z0 3) .slice fun (z7:(Option Addr×Nat×Nat))=>
 .ite (decide (i5<(z7.2.1:Int))) (
 .drew <|
 .load (Addr.add z0 3) .slice fun (z8:(Option Addr×Nat×Nat))=>
 .chk ((0≤i5)∧(i5<(z8.2.1:Int))) <|
 .ptr z8.1 fun (z9:Addr)=>
 .load (Addr.add (Addr.add z9 ((Int.toNat i5) * 2)) 0) (.int .i64) fun (i10:Int)=>
 .load (Addr.add z0 3) .slice fun (z11:(Option Addr×Nat×Nat))=>
 .chk ((0≤i5)∧(i5<(z11.2.1:Int))) <|
 .ptr z11.1 fun (z12:Addr)=>
 .load (Addr.add (Addr.add z12 ((Int.toNat i5) * 2)) 1) (.int .i64) fun (i13:Int)=>
 .chk ((0≤i10)∧((i10≤i13)∧(i13≤((ByteArray.size text):Int)))) <|
 .call 42 #[(.string (ByteArray.extract text (Int.toNat i10) (Int.toNat i13)))] .str fun (s14:ByteArray)=>
 .ite (strEq s14 s3) (
 .leaf 3 [(.int .i64 (IntKind.wrap .i64 (i5+1))),(.int .i64 (IntKind.wrap .i64 (i6+1)))]) (
 .leaf 3 [(.int .i64 (IntKind.wrap .i64 (i5+1))),(.int .i64 i6)])) (
 .ite (decide (i6 > 1)) (
 .leaf 0 [(.bool false)]) (
 .leaf 2 []))
def spec_Once.t3 (text:ByteArray) (z0:Addr) (i1:Int) (s3:ByteArray):T:=
 .eff (Instr.loadAt 29 (.pointer (some z0))) (.agg (.cons (.int .i64) (.cons (.int .i64) (.cons (.int .i64) (.cons .slice (.cons .slice .nil)))))) fun (z15:(Int×(Int×(Int×((Option Addr×Nat×Nat)×((Option Addr×Nat×Nat)×PUnit))))))=>
 .call 35 #[(.string text),(.agg #[(.int .i64 z15.1),(.int .i64 z15.2.1),(.int .i64 z15.2.2.1),(.slice z15.2.2.2.1.1 z15.2.2.2.1.2.1 z15.2.2.2.1.2.2),(.slice z15.2.2.2.2.1.1 z15.2.2.2.2.1.2.1 z15.2.2.2.2.1.2.2)]),(.string s3)] (.tuple (.cons (.agg (.cons (.int .i64) (.cons (.int .i64) (.cons (.int .i64) (.cons .slice (.cons .slice .nil)))))) (.cons .bool .nil))) fun (z16:((Int×(Int×(Int×((Option Addr×Nat×Nat)×((Option Addr×Nat×Nat)×PUnit)))))×(Bool×PUnit)))=>
 .alloc (Obj.cells #[(.int .i64 0),(.int .i64 0),(.int .i64 0),(.slice none 0 0),(.slice none 0 0)] 29 (0,0)) fun (z17:Addr)=>
 .effU (Instr.storeAt 29 (.pointer (some z17)) (.agg #[(.int .i64 z16.1.1),(.int .i64 z16.1.2.1),(.int .i64 z16.1.2.2.1),(.slice z16.1.2.2.2.1.1 z16.1.2.2.2.1.2.1 z16.1.2.2.2.1.2.2),(.slice z16.1.2.2.2.2.1.1 z16.1.2.2.2.2.1.2.1 z16.1.2.2.2.2.1.2.2)])) <|
 .ite (!z16.2.1) (
 .leaf 0 [(.bool true)]) (
 .eff (Instr.loadAt 29 (.pointer (some z17))) (.agg (.cons (.int .i64) (.cons (.int .i64) (.cons (.int .i64) (.cons .slice (.cons .slice .nil)))))) fun (z18:(Int×(Int×(Int×((Option Addr×Nat×Nat)×((Option Addr×Nat×Nat)×PUnit))))))=>
 .effU (Instr.storeAt 29 (.pointer (some z0)) (.agg #[(.int .i64 z18.1),(.int .i64 z18.2.1),(.int .i64 z18.2.2.1),(.slice z18.2.2.2.1.1 z18.2.2.2.1.2.1 z18.2.2.2.1.2.2),(.slice z18.2.2.2.2.1.1 z18.2.2.2.2.1.2.1 z18.2.2.2.2.1.2.2)])) <|
 .leaf 1 [(.int .i64 (IntKind.wrap .i64 (i1+1)))])
def spec_Once.t1 (text:ByteArray) (keys:(Option Addr)) (keys_len:Nat) (z0:Addr) (i1:Int):T:=
 .ite (decide (i1<(keys_len:Int))) (
 .chk ((0≤i1)∧(i1<(keys_len:Int))) <|
 .ptr keys fun (z2:Addr)=>
 .load (Addr.add z2 ((Int.toNat i1) * 1)) .str fun (s3:ByteArray)=>
 .load (Addr.add z0 0) (.int .i64) fun (i4:Int)=>
 .cut 2 .nil (
 .ite (i4==6) (
 .loop 3 (.cons (.int .i64) (.cons (.int .i64) .nil)) [(.int .i64 0),(.int .i64 0)]
 (fun z=>spec_Once.t2 text z0 s3 z.1 z.2.1)) (
 .leaf 2 []))
 (fun _=>spec_Once.t3 text z0 i1 s3)) (
 .leaf 0 [(.bool true)])
def spec_Once.t (text:ByteArray) (p_0:Int) (p_1:Int) (p_2:Int) (p_3:(Option Addr)) (p_3_len:Nat) (p_3_cap:Nat) (p_4:(Option Addr)) (p_4_len:Nat) (p_4_cap:Nat) (keys:(Option Addr)) (keys_len:Nat) (keys_cap:Nat):T:=
 .alloc (Obj.cells #[(.int .i64 p_0),(.int .i64 p_1),(.int .i64 p_2),(.slice p_3 p_3_len p_3_cap),(.slice p_4 p_4_len p_4_cap)] 29 (0,0)) fun (z0:Addr)=>
 .loop 1 (.cons (.int .i64) .nil) [(.int .i64 0)]
 (fun z=>spec_Once.t1 text keys keys_len z0 z.1)
def spec_Once.h:Hints:=⟨[(21,[])],[],[],[(2,[(15,(.int .i64))]),(7,[(10,(.int .i64)),(9,(.int .i64))])]⟩
noncomputable def spec_Once.c:Code:=(Tryz.f33.body).getD .skip
theorem spec_Once.e (text:ByteArray) (p_0:Int) (p_1:Int) (p_2:Int) (p_3:(Option Addr)) (p_3_len:Nat) (p_3_cap:Nat) (p_4:(Option Addr)) (p_4_len:Nat) (p_4_cap:Nat) (keys:(Option Addr)) (keys_len:Nat) (keys_cap:Nat):fnT Tryz.prog spec_Once.h Tryz.f33 spec_Once.c [.v (.string text),.v (.agg #[(.int .i64 p_0),(.int .i64 p_1),(.int .i64 p_2),(.slice p_3 p_3_len p_3_cap),(.slice p_4 p_4_len p_4_cap)]),.v (.slice keys keys_len keys_cap)]=spec_Once.t text p_0 p_1 p_2 p_3 p_3_len p_3_cap p_4 p_4_len p_4_cap keys keys_len keys_cap:=by kernel_rfl
theorem spec_Once.calls (text:ByteArray) (p_0:Int) (p_1:Int) (p_2:Int) (p_3:(Option Addr)) (p_3_len:Nat) (p_3_cap:Nat) (p_4:(Option Addr)) (p_4_len:Nat) (p_4_cap:Nat) (keys:(Option Addr)) (keys_len:Nat) (keys_cap:Nat) {w:World} {R:Ending→World→Prop} (hs:sat Tryz.prog (spec_Once.t text p_0 p_1 p_2 p_3 p_3_len p_3_cap p_4 p_4_len p_4_cap keys keys_len keys_cap) (fun l vs w'=>l=0∧R (.returned (retVal vs)) w') w):Calls Tryz.prog 33 #[(.string text),(.agg #[(.int .i64 p_0),(.int .i64 p_1),(.int .i64 p_2),(.slice p_3 p_3_len p_3_cap),(.slice p_4 p_4_len p_4_cap)]),(.slice keys keys_len keys_cap)] w R:=
 have h:=calls_of_tree (w:=w) (R:=R) (args:=[.v (.string text),.v (.agg #[(.int .i64 p_0),(.int .i64 p_1),(.int .i64 p_2),(.slice p_3 p_3_len p_3_cap),(.slice p_4 p_4_len p_4_cap)]),.v (.slice keys keys_len keys_cap)]) (c:=spec_Once.c) Tryz.func33 (show Tryz.f33.body=some spec_Once.c by kernel_rfl) (of_decide_eq_true (by kernel_rfl)) (spec_Once.e text p_0 p_1 p_2 p_3 p_3_len p_3_cap p_4 p_4_len p_4_cap keys keys_len keys_cap) hs
 h
def laws_jpIndex.t (key:ByteArray):T:=
 .ite (!(strEq key (ByteArray.mk #[]))) (
 .chk (((0 :Int)≤(0 :Int))∧(0<((ByteArray.size key):Int))) <|
 .leaf 0 [(.bool ((bt key 0)==91))]) (
 .leaf 0 [(.bool false)])
def laws_jpIndex.h:Hints:=⟨[],[],[],[]⟩
noncomputable def laws_jpIndex.c:Code:=(Tryz.f34.body).getD .skip
theorem laws_jpIndex.e (key:ByteArray):fnT Tryz.prog laws_jpIndex.h Tryz.f34 laws_jpIndex.c [.v (.string key)]=laws_jpIndex.t key:=by kernel_rfl
theorem laws_jpIndex.calls (key:ByteArray) {w:World} {R:Ending→World→Prop} (hs:sat Tryz.prog (laws_jpIndex.t key) (fun l vs w'=>l=0∧R (.returned (retVal vs)) w') w):Calls Tryz.prog 34 #[(.string key)] w R:=
 have h:=calls_of_tree (w:=w) (R:=R) (args:=[.v (.string key)]) (c:=laws_jpIndex.c) Tryz.func34 (show Tryz.f34.body=some laws_jpIndex.c by kernel_rfl) (of_decide_eq_true (by kernel_rfl)) (laws_jpIndex.e key) hs
 h
def spec_Step.t2 (i8:Int):T:=
 .leaf 3 [(.int .i64 i8)]
def spec_Step.t1 (z5:(Int×(Bool×PUnit))) (b7:Bool):T:=
 .cut 4 (.cons (.int .i64) .nil) (
 .ite b7 (
 .leaf 4 [(.int .i64 z5.1)]) (
 .leaf 4 [(.int .i64 (-1))]))
 (fun z=>spec_Step.t2 z.1)
def spec_Step.t3 (i9:Int):T:=
 .leaf 2 [(.int .i64 i9)]
def spec_Step.t4 (i10:Int):T:=
 .leaf 1 [(.int .i64 i10)]
def spec_Step.t5 (z0:Addr) (z1:Addr) (i11:Int):T:=
 .ite (decide (i11<0)) (
 .effU (Instr.storeAt 29 (.pointer (some z1)) (.agg #[(.int .i64 0),(.int .i64 0),(.int .i64 0),(.slice none 0 0),(.slice none 0 0)])) <|
 .effS (Instr.loadAt 29 (.pointer (some z1))) (.agg (.cons (.int .i64) (.cons (.int .i64) (.cons (.int .i64) (.cons .slice (.cons .slice .nil)))))) fun (z12:(Int×(Int×(Int×((Option Addr×Nat×Nat)×((Option Addr×Nat×Nat)×PUnit))))))=>
 .leaf 0 [(.agg #[(.int .i64 z12.1),(.int .i64 z12.2.1),(.int .i64 z12.2.2.1),(.slice z12.2.2.2.1.1 z12.2.2.2.1.2.1 z12.2.2.2.1.2.2),(.slice z12.2.2.2.2.1.1 z12.2.2.2.2.1.2.1 z12.2.2.2.2.1.2.2)]),(.bool false)]) (
 .load (Addr.add z0 4) .slice fun (z13:(Option Addr×Nat×Nat))=>
 .chk ((0≤i11)∧(i11<(z13.2.1:Int))) <|
 .ptr z13.1 fun (z14:Addr)=>
 .eff (Instr.loadAt 29 (.pointer (some (Addr.add z14 ((Int.toNat i11) * 5))))) (.agg (.cons (.int .i64) (.cons (.int .i64) (.cons (.int .i64) (.cons .slice (.cons .slice .nil)))))) fun (z15:(Int×(Int×(Int×((Option Addr×Nat×Nat)×((Option Addr×Nat×Nat)×PUnit))))))=>
 .effU (Instr.storeAt 29 (.pointer (some z1)) (.agg #[(.int .i64 z15.1),(.int .i64 z15.2.1),(.int .i64 z15.2.2.1),(.slice z15.2.2.2.1.1 z15.2.2.2.1.2.1 z15.2.2.2.1.2.2),(.slice z15.2.2.2.2.1.1 z15.2.2.2.2.1.2.1 z15.2.2.2.2.1.2.2)])) <|
 .effS (Instr.loadAt 29 (.pointer (some z1))) (.agg (.cons (.int .i64) (.cons (.int .i64) (.cons (.int .i64) (.cons .slice (.cons .slice .nil)))))) fun (z16:(Int×(Int×(Int×((Option Addr×Nat×Nat)×((Option Addr×Nat×Nat)×PUnit))))))=>
 .leaf 0 [(.agg #[(.int .i64 z16.1),(.int .i64 z16.2.1),(.int .i64 z16.2.2.1),(.slice z16.2.2.2.1.1 z16.2.2.2.1.2.1 z16.2.2.2.1.2.2),(.slice z16.2.2.2.2.1.1 z16.2.2.2.2.1.2.1 z16.2.2.2.2.1.2.2)]),(.bool true)])
def spec_Step.t (text:ByteArray) (p_0:Int) (p_1:Int) (p_2:Int) (p_3:(Option Addr)) (p_3_len:Nat) (p_3_cap:Nat) (p_4:(Option Addr)) (p_4_len:Nat) (p_4_cap:Nat) (key:ByteArray):T:=
 .alloc (Obj.cells #[(.int .i64 p_0),(.int .i64 p_1),(.int .i64 p_2),(.slice p_3 p_3_len p_3_cap),(.slice p_4 p_4_len p_4_cap)] 29 (0,0)) fun (z0:Addr)=>
 .alloc (Obj.cells #[(.int .i64 0),(.int .i64 0),(.int .i64 0),(.slice none 0 0),(.slice none 0 0)] 29 (0,0)) fun (z1:Addr)=>
 .load (Addr.add z0 0) (.int .i64) fun (i2:Int)=>
 .cut 1 (.cons (.int .i64) .nil) (
 .cut 2 (.cons (.int .i64) .nil) (
 .ite (i2==6) (
 .eff (Instr.loadAt 29 (.pointer (some z0))) (.agg (.cons (.int .i64) (.cons (.int .i64) (.cons (.int .i64) (.cons .slice (.cons .slice .nil)))))) fun (z3:(Int×(Int×(Int×((Option Addr×Nat×Nat)×((Option Addr×Nat×Nat)×PUnit))))))=>
 .call 48 #[(.string text),(.agg #[(.int .i64 z3.1),(.int .i64 z3.2.1),(.int .i64 z3.2.2.1),(.slice z3.2.2.2.1.1 z3.2.2.2.1.2.1 z3.2.2.2.1.2.2),(.slice z3.2.2.2.2.1.1 z3.2.2.2.2.1.2.1 z3.2.2.2.2.1.2.2)]),(.string key)] (.int .i64) fun (i4:Int)=>
 .leaf 2 [(.int .i64 i4)]) (
 .cut 3 (.cons (.int .i64) .nil) (
 .ite (i2==5) (
 .call 49 #[(.string key)] (.tuple (.cons (.int .i64) (.cons .bool .nil))) fun (z5:(Int×(Bool×PUnit)))=>
 .cut 4 (.cons .bool .nil) (
 .ite z5.2.1 (
 .load (Addr.add z0 4) .slice fun (z6:(Option Addr×Nat×Nat))=>
 .leaf 4 [(.bool (decide (z5.1<(z6.2.1:Int))))]) (
 .leaf 4 [(.bool false)]))
 (fun z=>spec_Step.t1 z5 z.1)) (
 .leaf 3 [(.int .i64 (-1))]))
 (fun z=>spec_Step.t3 z.1)))
 (fun z=>spec_Step.t4 z.1))
 (fun z=>spec_Step.t5 z0 z1 z.1)
def spec_Step.h:Hints:=⟨[(13,[(8,(.int .i64))]),(19,[(8,(.int .i64))]),(33,[(8,(.int .i64))])],[(0,[(8,(.int .i64))])],[(7,[(33,.bool)])],[]⟩
noncomputable def spec_Step.c:Code:=(Tryz.f35.body).getD .skip
theorem spec_Step.e (text:ByteArray) (p_0:Int) (p_1:Int) (p_2:Int) (p_3:(Option Addr)) (p_3_len:Nat) (p_3_cap:Nat) (p_4:(Option Addr)) (p_4_len:Nat) (p_4_cap:Nat) (key:ByteArray):fnT Tryz.prog spec_Step.h Tryz.f35 spec_Step.c [.v (.string text),.v (.agg #[(.int .i64 p_0),(.int .i64 p_1),(.int .i64 p_2),(.slice p_3 p_3_len p_3_cap),(.slice p_4 p_4_len p_4_cap)]),.v (.string key)]=spec_Step.t text p_0 p_1 p_2 p_3 p_3_len p_3_cap p_4 p_4_len p_4_cap key:=by kernel_rfl
theorem spec_Step.calls (text:ByteArray) (p_0:Int) (p_1:Int) (p_2:Int) (p_3:(Option Addr)) (p_3_len:Nat) (p_3_cap:Nat) (p_4:(Option Addr)) (p_4_len:Nat) (p_4_cap:Nat) (key:ByteArray) {w:World} {R:Ending→World→Prop} (hs:sat Tryz.prog (spec_Step.t text p_0 p_1 p_2 p_3 p_3_len p_3_cap p_4 p_4_len p_4_cap key) (fun l vs w'=>l=0∧R (.returned (retVal vs)) w') w):Calls Tryz.prog 35 #[(.string text),(.agg #[(.int .i64 p_0),(.int .i64 p_1),(.int .i64 p_2),(.slice p_3 p_3_len p_3_cap),(.slice p_4 p_4_len p_4_cap)]),(.string key)] w R:=
 have h:=calls_of_tree (w:=w) (R:=R) (args:=[.v (.string text),.v (.agg #[(.int .i64 p_0),(.int .i64 p_1),(.int .i64 p_2),(.slice p_3 p_3_len p_3_cap),(.slice p_4 p_4_len p_4_cap)]),.v (.string key)]) (c:=spec_Step.c) Tryz.func35 (show Tryz.f35.body=some spec_Step.c by kernel_rfl) (of_decide_eq_true (by kernel_rfl)) (spec_Step.e text p_0 p_1 p_2 p_3 p_3_len p_3_cap p_4 p_4_len p_4_cap key) hs
 h
def spec_Named.t1 (text:ByteArray) (name:ByteArray) (z0:Addr) (i1:Int):T:=
 .load (Addr.add z0 3) .slice fun (z2:(Option Addr×Nat×Nat))=>
 .ite (decide (i1<(z2.2.1:Int))) (
 .drew <|
 .load (Addr.add z0 3) .slice fun (z3:(Option Addr×Nat×Nat))=>
 .chk ((0≤i1)∧(i1<(z3.2.1:Int))) <|
 .ptr z3.1 fun (z4:Addr)=>
 .load (Addr.add (Addr.add z4 ((Int.toNat i1) * 2)) 0) (.int .i64) fun (i5:Int)=>
 .load (Addr.add z0 3) .slice fun (z6:(Option Addr×Nat×Nat))=>
 .chk ((0≤i1)∧(i1<(z6.2.1:Int))) <|
 .ptr z6.1 fun (z7:Addr)=>
 .load (Addr.add (Addr.add z7 ((Int.toNat i1) * 2)) 1) (.int .i64) fun (i8:Int)=>
 .chk ((0≤i5)∧((i5≤i8)∧(i8≤((ByteArray.size text):Int)))) <|
 .call 42 #[(.string (ByteArray.extract text (Int.toNat i5) (Int.toNat i8)))] .str fun (s9:ByteArray)=>
 .ite (strEq s9 name) (
 .leaf 0 [(.int .i64 i1)]) (
 .leaf 1 [(.int .i64 (IntKind.wrap .i64 (i1+1)))])) (
 .leaf 0 [(.int .i64 (-1))])
def spec_Named.t (text:ByteArray) (p_0:Int) (p_1:Int) (p_2:Int) (p_3:(Option Addr)) (p_3_len:Nat) (p_3_cap:Nat) (p_4:(Option Addr)) (p_4_len:Nat) (p_4_cap:Nat) (name:ByteArray):T:=
 .alloc (Obj.cells #[(.int .i64 p_0),(.int .i64 p_1),(.int .i64 p_2),(.slice p_3 p_3_len p_3_cap),(.slice p_4 p_4_len p_4_cap)] 29 (0,0)) fun (z0:Addr)=>
 .loop 1 (.cons (.int .i64) .nil) [(.int .i64 0)]
 (fun z=>spec_Named.t1 text name z0 z.1)
def spec_Named.h:Hints:=⟨[],[],[],[(2,[(7,(.int .i64))])]⟩
noncomputable def spec_Named.c:Code:=(Tryz.f48.body).getD .skip
theorem spec_Named.e (text:ByteArray) (p_0:Int) (p_1:Int) (p_2:Int) (p_3:(Option Addr)) (p_3_len:Nat) (p_3_cap:Nat) (p_4:(Option Addr)) (p_4_len:Nat) (p_4_cap:Nat) (name:ByteArray):fnT Tryz.prog spec_Named.h Tryz.f48 spec_Named.c [.v (.string text),.v (.agg #[(.int .i64 p_0),(.int .i64 p_1),(.int .i64 p_2),(.slice p_3 p_3_len p_3_cap),(.slice p_4 p_4_len p_4_cap)]),.v (.string name)]=spec_Named.t text p_0 p_1 p_2 p_3 p_3_len p_3_cap p_4 p_4_len p_4_cap name:=by kernel_rfl
theorem spec_Named.calls (text:ByteArray) (p_0:Int) (p_1:Int) (p_2:Int) (p_3:(Option Addr)) (p_3_len:Nat) (p_3_cap:Nat) (p_4:(Option Addr)) (p_4_len:Nat) (p_4_cap:Nat) (name:ByteArray) {w:World} {R:Ending→World→Prop} (hs:sat Tryz.prog (spec_Named.t text p_0 p_1 p_2 p_3 p_3_len p_3_cap p_4 p_4_len p_4_cap name) (fun l vs w'=>l=0∧R (.returned (retVal vs)) w') w):Calls Tryz.prog 48 #[(.string text),(.agg #[(.int .i64 p_0),(.int .i64 p_1),(.int .i64 p_2),(.slice p_3 p_3_len p_3_cap),(.slice p_4 p_4_len p_4_cap)]),(.string name)] w R:=
 have h:=calls_of_tree (w:=w) (R:=R) (args:=[.v (.string text),.v (.agg #[(.int .i64 p_0),(.int .i64 p_1),(.int .i64 p_2),(.slice p_3 p_3_len p_3_cap),(.slice p_4 p_4_len p_4_cap)]),.v (.string name)]) (c:=spec_Named.c) Tryz.func48 (show Tryz.f48.body=some spec_Named.c by kernel_rfl) (of_decide_eq_true (by kernel_rfl)) (spec_Named.e text p_0 p_1 p_2 p_3 p_3_len p_3_cap p_4 p_4_len p_4_cap name) hs
 h
def spec_Bracket.t1 (key:ByteArray) (b0:Bool):T:=
 .ite b0 (
 .leaf 0 [(.int .i64 0),(.bool false)]) (
 .chk (((0 :Int)≤(1 :Int))∧((1≤(IntKind.wrap .i64 (((ByteArray.size key):Int)-1)))∧((IntKind.wrap .i64 (((ByteArray.size key):Int)-1))≤((ByteArray.size key):Int)))) <|
 .call 62 #[(.string (ByteArray.extract key 1 (Int.toNat (IntKind.wrap .i64 (((ByteArray.size key):Int)-1)))))] (.tuple (.cons (.int .i64) (.cons .bool .nil))) fun (z1:(Int×(Bool×PUnit)))=>
 .leaf 0 [(.int .i64 z1.1),(.bool z1.2.1)])
def spec_Bracket.t (key:ByteArray):T:=
 .cut 1 (.cons .bool .nil) (
 .ite (decide (((ByteArray.size key):Int)<3)) (
 .leaf 1 [(.bool true)]) (
 .chk (((0 :Int)≤(0 :Int))∧(0<((ByteArray.size key):Int))) <|
 .ite ((bt key 0) != 91) (
 .leaf 1 [(.bool true)]) (
 .chk ((0≤(IntKind.wrap .i64 (((ByteArray.size key):Int)-1)))∧((IntKind.wrap .i64 (((ByteArray.size key):Int)-1))<((ByteArray.size key):Int))) <|
 .leaf 1 [(.bool ((bt key (IntKind.wrap .i64 (((ByteArray.size key):Int)-1))) != 93))])))
 (fun z=>spec_Bracket.t1 key z.1)
def spec_Bracket.h:Hints:=⟨[],[],[(1,[(19,.bool)])],[]⟩
noncomputable def spec_Bracket.c:Code:=(Tryz.f49.body).getD .skip
theorem spec_Bracket.e (key:ByteArray):fnT Tryz.prog spec_Bracket.h Tryz.f49 spec_Bracket.c [.v (.string key)]=spec_Bracket.t key:=by kernel_rfl
theorem spec_Bracket.calls (key:ByteArray) {w:World} {R:Ending→World→Prop} (hs:sat Tryz.prog (spec_Bracket.t key) (fun l vs w'=>l=0∧R (.returned (retVal vs)) w') w):Calls Tryz.prog 49 #[(.string key)] w R:=
 have h:=calls_of_tree (w:=w) (R:=R) (args:=[.v (.string key)]) (c:=spec_Bracket.c) Tryz.func49 (show Tryz.f49.body=some spec_Bracket.c by kernel_rfl) (of_decide_eq_true (by kernel_rfl)) (spec_Bracket.e key) hs
 h
def spec_Index.t3 (token:ByteArray) (i1:Int) (i2:Int) (b3:Bool):T:=
 .ite b3 (
 .leaf 0 [(.int .i64 0),(.bool false)]) (
 .ite (decide (i2<288230376151711744)) (
 .leaf 1 [(.int .i64 (IntKind.wrap .i64 (i1+1))),(.int .i64 (IntKind.wrap .i64 ((IntKind.wrap .i64 (i2 * 10))+(IntKind.wrap .i64 (IntKind.wrap .u8 ((bt token i1)-48))))))]) (
 .leaf 1 [(.int .i64 (IntKind.wrap .i64 (i1+1))),(.int .i64 4611686018427387904)]))
def spec_Index.t2 (token:ByteArray) (i1:Int) (i2:Int):T:=
 .ite (decide (i1<((ByteArray.size token):Int))) (
 .chk ((0≤i1)∧(i1<((ByteArray.size token):Int))) <|
 .cut 2 (.cons .bool .nil) (
 .ite (decide ((bt token i1)<48)) (
 .leaf 2 [(.bool true)]) (
 .leaf 2 [(.bool (decide ((bt token i1) > 57)))]))
 (fun z=>spec_Index.t3 token i1 i2 z.1)) (
 .leaf 0 [(.int .i64 i2),(.bool true)])
def spec_Index.t1 (token:ByteArray) (b0:Bool):T:=
 .ite b0 (
 .leaf 0 [(.int .i64 0),(.bool false)]) (
 .loop 1 (.cons (.int .i64) (.cons (.int .i64) .nil)) [(.int .i64 0),(.int .i64 0)]
 (fun z=>spec_Index.t2 token z.1 z.2.1))
def spec_Index.t (token:ByteArray):T:=
 .cut 1 (.cons .bool .nil) (
 .ite (strEq token (ByteArray.mk #[])) (
 .leaf 1 [(.bool true)]) (
 .ite (decide (((ByteArray.size token):Int) > 1)) (
 .chk (((0 :Int)≤(0 :Int))∧(0<((ByteArray.size token):Int))) <|
 .leaf 1 [(.bool ((bt token 0)==48))]) (
 .leaf 1 [(.bool false)])))
 (fun z=>spec_Index.t1 token z.1)
def spec_Index.h:Hints:=⟨[],[],[(1,[(18,.bool)]),(8,[(33,.bool)])],[(5,[(5,(.int .i64)),(4,(.int .i64))])]⟩
noncomputable def spec_Index.c:Code:=(Tryz.f62.body).getD .skip
theorem spec_Index.e (token:ByteArray):fnT Tryz.prog spec_Index.h Tryz.f62 spec_Index.c [.v (.string token)]=spec_Index.t token:=by kernel_rfl
theorem spec_Index.calls (token:ByteArray) {w:World} {R:Ending→World→Prop} (hs:sat Tryz.prog (spec_Index.t token) (fun l vs w'=>l=0∧R (.returned (retVal vs)) w') w):Calls Tryz.prog 62 #[(.string token)] w R:=
 have h:=calls_of_tree (w:=w) (R:=R) (args:=[.v (.string token)]) (c:=spec_Index.c) Tryz.func62 (show Tryz.f62.body=some spec_Index.c by kernel_rfl) (of_decide_eq_true (by kernel_rfl)) (spec_Index.e token) hs
 h
def spec_Unquote.t2 (i0:Int) (z1:(Option Addr×Nat×Nat)) (z4:(Int×(Bool×PUnit))) (z8:(Int×(Bool×PUnit))) (b11:Bool):T:=
 .ite b11 (
 .call 61 #[(.slice z1.1 z1.2.1 z1.2.2),(.int .i64 (IntKind.wrap .i64 ((IntKind.wrap .i64 (65536+(IntKind.wrap .i64 ((IntKind.wrap .i64 (z4.1-55296)) * 1024))))+(IntKind.wrap .i64 (z8.1-56320)))))] .slice fun (z12:(Option Addr×Nat×Nat))=>
 .leaf 1 [(.int .i64 (IntKind.wrap .i64 ((IntKind.wrap .i64 (i0+6))+6))),(.slice z12.1 z12.2.1 z12.2.2)]) (
 .call 61 #[(.slice z1.1 z1.2.1 z1.2.2),(.int .i64 z4.1)] .slice fun (z13:(Option Addr×Nat×Nat))=>
 .leaf 1 [(.int .i64 (IntKind.wrap .i64 (i0+6))),(.slice z13.1 z13.2.1 z13.2.2)])
def spec_Unquote.t1 (q0:ByteArray) (i0:Int) (z1:(Option Addr×Nat×Nat)):T:=
 .ite (decide (i0<(((ByteArray.size (ByteArray.extract q0 1 (Int.toNat (IntKind.wrap .i64 (((ByteArray.size q0):Int)-1))))):Nat):Int))) (
 .chk ((0≤i0)∧(i0<(((ByteArray.size (ByteArray.extract q0 1 (Int.toNat (IntKind.wrap .i64 (((ByteArray.size q0):Int)-1))))):Nat):Int))) <|
 .ite ((bt (ByteArray.extract q0 1 (Int.toNat (IntKind.wrap .i64 (((ByteArray.size q0):Int)-1)))) i0) != 92) (
 .chk ((0≤i0)∧(i0<(((ByteArray.size (ByteArray.extract q0 1 (Int.toNat (IntKind.wrap .i64 (((ByteArray.size q0):Int)-1))))):Nat):Int))) <|
 .eff (Instr.buildSlice 59 1 #[(0,(.int .u8 (bt (ByteArray.extract q0 1 (Int.toNat (IntKind.wrap .i64 (((ByteArray.size q0):Int)-1)))) i0)))]) .slice fun (z2:(Option Addr×Nat×Nat))=>
 .eff (Builtin.append_ (Call.argTypes (Call.mk (Callee.builtin Builtin.append) #[(Operand.tmp 23),(Operand.tmp 27)] #[59,59])) 59 #[(.slice z1.1 z1.2.1 z1.2.2),(.slice z2.1 z2.2.1 z2.2.2)]) .slice fun (z3:(Option Addr×Nat×Nat))=>
 .leaf 1 [(.int .i64 (IntKind.wrap .i64 (i0+1))),(.slice z3.1 z3.2.1 z3.2.2)]) (
 .call 57 #[(.string (ByteArray.extract q0 1 (Int.toNat (IntKind.wrap .i64 (((ByteArray.size q0):Int)-1))))),(.int .i64 i0)] (.tuple (.cons (.int .i64) (.cons .bool .nil))) fun (z4:(Int×(Bool×PUnit)))=>
 .ite (!z4.2.1) (
 .chk ((0≤(IntKind.wrap .i64 (i0+1)))∧((IntKind.wrap .i64 (i0+1))<(((ByteArray.size (ByteArray.extract q0 1 (Int.toNat (IntKind.wrap .i64 (((ByteArray.size q0):Int)-1))))):Nat):Int))) <|
 .call 58 #[(.int .u8 (bt (ByteArray.extract q0 1 (Int.toNat (IntKind.wrap .i64 (((ByteArray.size q0):Int)-1)))) (IntKind.wrap .i64 (i0+1))))] (.int .u8) fun (i5:Int)=>
 .eff (Instr.buildSlice 59 1 #[(0,(.int .u8 i5))]) .slice fun (z6:(Option Addr×Nat×Nat))=>
 .eff (Builtin.append_ (Call.argTypes (Call.mk (Callee.builtin Builtin.append) #[(Operand.tmp 39),(Operand.tmp 45)] #[59,59])) 59 #[(.slice z1.1 z1.2.1 z1.2.2),(.slice z6.1 z6.2.1 z6.2.2)]) .slice fun (z7:(Option Addr×Nat×Nat))=>
 .leaf 1 [(.int .i64 (IntKind.wrap .i64 (i0+2))),(.slice z7.1 z7.2.1 z7.2.2)]) (
 .call 57 #[(.string (ByteArray.extract q0 1 (Int.toNat (IntKind.wrap .i64 (((ByteArray.size q0):Int)-1))))),(.int .i64 (IntKind.wrap .i64 (i0+6)))] (.tuple (.cons (.int .i64) (.cons .bool .nil))) fun (z8:(Int×(Bool×PUnit)))=>
 .cut 2 (.cons .bool .nil) (
 .ite z8.2.1 (
 .call 59 #[(.int .i64 z4.1)] .bool fun (b9:Bool)=>
 .ite b9 (
 .call 60 #[(.int .i64 z8.1)] .bool fun (b10:Bool)=>
 .leaf 2 [(.bool b10)]) (
 .leaf 2 [(.bool false)])) (
 .leaf 2 [(.bool false)]))
 (fun z=>spec_Unquote.t2 i0 z1 z4 z8 z.1)))) (
 .eff (convert 59 9 (.slice z1.1 z1.2.1 z1.2.2)) .str fun (s14:ByteArray)=>
 .leaf 0 [(.string s14)])
def spec_Unquote.t (q0:ByteArray):T:=
 .chk (((0 :Int)≤(1 :Int))∧((1≤(IntKind.wrap .i64 (((ByteArray.size q0):Int)-1)))∧((IntKind.wrap .i64 (((ByteArray.size q0):Int)-1))≤((ByteArray.size q0):Int)))) <|
 .loop 1 (.cons (.int .i64) (.cons .slice .nil)) [(.int .i64 0),(.slice none 0 0)]
 (fun z=>spec_Unquote.t1 q0 z.1 z.2.1)
def spec_Unquote.h:Hints:=⟨[],[],[(14,[(65,.bool)])],[(4,[(5,(.int .i64)),(3,.slice)])]⟩
noncomputable def spec_Unquote.c:Code:=(Tryz.f42.body).getD .skip
theorem spec_Unquote.e (q0:ByteArray):fnT Tryz.prog spec_Unquote.h Tryz.f42 spec_Unquote.c [.v (.string q0)]=spec_Unquote.t q0:=by kernel_rfl
theorem spec_Unquote.calls (q0:ByteArray) {w:World} {R:Ending→World→Prop} (hs:sat Tryz.prog (spec_Unquote.t q0) (fun l vs w'=>l=0∧R (.returned (retVal vs)) w') w):Calls Tryz.prog 42 #[(.string q0)] w R:=
 have h:=calls_of_tree (w:=w) (R:=R) (args:=[.v (.string q0)]) (c:=spec_Unquote.c) Tryz.func42 (show Tryz.f42.body=some spec_Unquote.c by kernel_rfl) (of_decide_eq_true (by kernel_rfl)) (spec_Unquote.e q0) hs
 h
def spec_unit.t2 (s:ByteArray) (at1:Int) (i1:Int) (i2:Int):T:=
 .ite (decide (i1<(IntKind.wrap .i64 (at1+6)))) (
 .chk ((0≤i1)∧(i1<((ByteArray.size s):Int))) <|
 .call 77 #[(.int .u8 (bt s i1))] (.tuple (.cons (.int .i64) (.cons .bool .nil))) fun (z3:(Int×(Bool×PUnit)))=>
 .ite (!z3.2.1) (
 .leaf 0 [(.int .i64 0),(.bool false)]) (
 .leaf 1 [(.int .i64 (IntKind.wrap .i64 (i1+1))),(.int .i64 (IntKind.wrap .i64 ((IntKind.wrap .i64 (i2 * 16))+z3.1)))])) (
 .leaf 0 [(.int .i64 i2),(.bool true)])
def spec_unit.t1 (s:ByteArray) (at1:Int) (b0:Bool):T:=
 .ite b0 (
 .leaf 0 [(.int .i64 0),(.bool false)]) (
 .loop 1 (.cons (.int .i64) (.cons (.int .i64) .nil)) [(.int .i64 (IntKind.wrap .i64 (at1+2))),(.int .i64 0)]
 (fun z=>spec_unit.t2 s at1 z.1 z.2.1))
def spec_unit.t (s:ByteArray) (at1:Int):T:=
 .cut 1 (.cons .bool .nil) (
 .ite (decide ((IntKind.wrap .i64 (((ByteArray.size s):Int)-at1))<6)) (
 .leaf 1 [(.bool true)]) (
 .chk ((0≤at1)∧(at1<((ByteArray.size s):Int))) <|
 .ite ((bt s at1) != 92) (
 .leaf 1 [(.bool true)]) (
 .chk ((0≤(IntKind.wrap .i64 (at1+1)))∧((IntKind.wrap .i64 (at1+1))<((ByteArray.size s):Int))) <|
 .leaf 1 [(.bool ((bt s (IntKind.wrap .i64 (at1+1))) != 117))])))
 (fun z=>spec_unit.t1 s at1 z.1)
def spec_unit.h:Hints:=⟨[],[],[(1,[(27,.bool)])],[(5,[(7,(.int .i64)),(6,(.int .i64))])]⟩
noncomputable def spec_unit.c:Code:=(Tryz.f57.body).getD .skip
theorem spec_unit.e (s:ByteArray) (at1:Int):fnT Tryz.prog spec_unit.h Tryz.f57 spec_unit.c [.v (.string s),.v (.int .i64 at1)]=spec_unit.t s at1:=by kernel_rfl
theorem spec_unit.calls (s:ByteArray) (at1:Int) {w:World} {R:Ending→World→Prop} (hs:sat Tryz.prog (spec_unit.t s at1) (fun l vs w'=>l=0∧R (.returned (retVal vs)) w') w):Calls Tryz.prog 57 #[(.string s),(.int .i64 at1)] w R:=
 have h:=calls_of_tree (w:=w) (R:=R) (args:=[.v (.string s),.v (.int .i64 at1)]) (c:=spec_unit.c) Tryz.func57 (show Tryz.f57.body=some spec_unit.c by kernel_rfl) (of_decide_eq_true (by kernel_rfl)) (spec_unit.e s at1) hs
 h
def spec_short.t (c0:Int):T:=
 .ite (c0==98) (
 .leaf 0 [(.int .u8 8)]) (
 .ite (c0==102) (
 .leaf 0 [(.int .u8 12)]) (
 .ite (c0==110) (
 .leaf 0 [(.int .u8 10)]) (
 .ite (c0==114) (
 .leaf 0 [(.int .u8 13)]) (
 .ite (c0==116) (
 .leaf 0 [(.int .u8 9)]) (
 .leaf 0 [(.int .u8 c0)])))))
def spec_short.h:Hints:=⟨[],[],[],[]⟩
noncomputable def spec_short.c:Code:=(Tryz.f58.body).getD .skip
theorem spec_short.e (c0:Int):fnT Tryz.prog spec_short.h Tryz.f58 spec_short.c [.v (.int .u8 c0)]=spec_short.t c0:=by kernel_rfl
theorem spec_short.calls (c0:Int) {w:World} {R:Ending→World→Prop} (hs:sat Tryz.prog (spec_short.t c0) (fun l vs w'=>l=0∧R (.returned (retVal vs)) w') w):Calls Tryz.prog 58 #[(.int .u8 c0)] w R:=
 have h:=calls_of_tree (w:=w) (R:=R) (args:=[.v (.int .u8 c0)]) (c:=spec_short.c) Tryz.func58 (show Tryz.f58.body=some spec_short.c by kernel_rfl) (of_decide_eq_true (by kernel_rfl)) (spec_short.e c0) hs
 h
def spec_high.t (n:Int):T:=
 .ite (decide (55296≤n)) (
 .leaf 0 [(.bool (decide (n≤56319)))]) (
 .leaf 0 [(.bool false)])
def spec_high.h:Hints:=⟨[],[],[],[]⟩
noncomputable def spec_high.c:Code:=(Tryz.f59.body).getD .skip
theorem spec_high.e (n:Int):fnT Tryz.prog spec_high.h Tryz.f59 spec_high.c [.v (.int .i64 n)]=spec_high.t n:=by kernel_rfl
theorem spec_high.calls (n:Int) {w:World} {R:Ending→World→Prop} (hs:sat Tryz.prog (spec_high.t n) (fun l vs w'=>l=0∧R (.returned (retVal vs)) w') w):Calls Tryz.prog 59 #[(.int .i64 n)] w R:=
 have h:=calls_of_tree (w:=w) (R:=R) (args:=[.v (.int .i64 n)]) (c:=spec_high.c) Tryz.func59 (show Tryz.f59.body=some spec_high.c by kernel_rfl) (of_decide_eq_true (by kernel_rfl)) (spec_high.e n) hs
 h
def spec_low.t (n:Int):T:=
 .ite (decide (56320≤n)) (
 .leaf 0 [(.bool (decide (n≤57343)))]) (
 .leaf 0 [(.bool false)])
def spec_low.h:Hints:=⟨[],[],[],[]⟩
noncomputable def spec_low.c:Code:=(Tryz.f60.body).getD .skip
theorem spec_low.e (n:Int):fnT Tryz.prog spec_low.h Tryz.f60 spec_low.c [.v (.int .i64 n)]=spec_low.t n:=by kernel_rfl
theorem spec_low.calls (n:Int) {w:World} {R:Ending→World→Prop} (hs:sat Tryz.prog (spec_low.t n) (fun l vs w'=>l=0∧R (.returned (retVal vs)) w') w):Calls Tryz.prog 60 #[(.int .i64 n)] w R:=
 have h:=calls_of_tree (w:=w) (R:=R) (args:=[.v (.int .i64 n)]) (c:=spec_low.c) Tryz.func60 (show Tryz.f60.body=some spec_low.c by kernel_rfl) (of_decide_eq_true (by kernel_rfl)) (spec_low.e n) hs
 h
def spec_appendUTF8.t1 (q0:(Option Addr)) (q0_len:Nat) (q0_cap:Nat) (q1:Int) (b6:Bool):T:=
 .ite b6 (
 .eff (Instr.buildSlice 59 3 #[(0,(.int .u8 239)),(1,(.int .u8 191)),(2,(.int .u8 189))]) .slice fun (z7:(Option Addr×Nat×Nat))=>
 .eff (Builtin.append_ (Call.argTypes (Call.mk (Callee.builtin Builtin.append) #[(Operand.tmp 34),(Operand.tmp 35)] #[59,59])) 59 #[(.slice q0 q0_len q0_cap),(.slice z7.1 z7.2.1 z7.2.2)]) .slice fun (z8:(Option Addr×Nat×Nat))=>
 .leaf 0 [(.slice z8.1 z8.2.1 z8.2.2)]) (
 .ite (decide (q1<65536)) (
 .chk ((4096 :Int)≠(0 :Int)) <|
 .chk ((64 :Int)≠(0 :Int)) <|
 .chk ((64 :Int)≠(0 :Int)) <|
 .chk ((64 :Int)≠(0 :Int)) <|
 .eff (Instr.buildSlice 59 3 #[(0,(.int .u8 (IntKind.wrap .u8 (IntKind.wrap .i64 (224+(IntKind.wrap .i64 (Int.tdiv q1 4096))))))),(1,(.int .u8 (IntKind.wrap .u8 (IntKind.wrap .i64 (128+(Int.tmod (IntKind.wrap .i64 (Int.tdiv q1 64)) 64)))))),(2,(.int .u8 (IntKind.wrap .u8 (IntKind.wrap .i64 (128+(Int.tmod q1 64))))))]) .slice fun (z9:(Option Addr×Nat×Nat))=>
 .eff (Builtin.append_ (Call.argTypes (Call.mk (Callee.builtin Builtin.append) #[(Operand.tmp 40),(Operand.tmp 54)] #[59,59])) 59 #[(.slice q0 q0_len q0_cap),(.slice z9.1 z9.2.1 z9.2.2)]) .slice fun (z10:(Option Addr×Nat×Nat))=>
 .leaf 0 [(.slice z10.1 z10.2.1 z10.2.2)]) (
 .chk ((262144 :Int)≠(0 :Int)) <|
 .chk ((4096 :Int)≠(0 :Int)) <|
 .chk ((64 :Int)≠(0 :Int)) <|
 .chk ((64 :Int)≠(0 :Int)) <|
 .chk ((64 :Int)≠(0 :Int)) <|
 .chk ((64 :Int)≠(0 :Int)) <|
 .eff (Instr.buildSlice 59 4 #[(0,(.int .u8 (IntKind.wrap .u8 (IntKind.wrap .i64 (240+(IntKind.wrap .i64 (Int.tdiv q1 262144))))))),(1,(.int .u8 (IntKind.wrap .u8 (IntKind.wrap .i64 (128+(Int.tmod (IntKind.wrap .i64 (Int.tdiv q1 4096)) 64)))))),(2,(.int .u8 (IntKind.wrap .u8 (IntKind.wrap .i64 (128+(Int.tmod (IntKind.wrap .i64 (Int.tdiv q1 64)) 64)))))),(3,(.int .u8 (IntKind.wrap .u8 (IntKind.wrap .i64 (128+(Int.tmod q1 64))))))]) .slice fun (z11:(Option Addr×Nat×Nat))=>
 .eff (Builtin.append_ (Call.argTypes (Call.mk (Callee.builtin Builtin.append) #[(Operand.tmp 56),(Operand.tmp 75)] #[59,59])) 59 #[(.slice q0 q0_len q0_cap),(.slice z11.1 z11.2.1 z11.2.2)]) .slice fun (z12:(Option Addr×Nat×Nat))=>
 .leaf 0 [(.slice z12.1 z12.2.1 z12.2.2)]))
def spec_appendUTF8.t (q0:(Option Addr)) (q0_len:Nat) (q0_cap:Nat) (q1:Int):T:=
 .ite (decide (q1<128)) (
 .eff (Instr.buildSlice 59 1 #[(0,(.int .u8 (IntKind.wrap .u8 q1)))]) .slice fun (z0:(Option Addr×Nat×Nat))=>
 .eff (Builtin.append_ (Call.argTypes (Call.mk (Callee.builtin Builtin.append) #[(Operand.tmp 8),(Operand.tmp 11)] #[59,59])) 59 #[(.slice q0 q0_len q0_cap),(.slice z0.1 z0.2.1 z0.2.2)]) .slice fun (z1:(Option Addr×Nat×Nat))=>
 .leaf 0 [(.slice z1.1 z1.2.1 z1.2.2)]) (
 .ite (decide (q1<2048)) (
 .chk ((64 :Int)≠(0 :Int)) <|
 .chk ((64 :Int)≠(0 :Int)) <|
 .eff (Instr.buildSlice 59 2 #[(0,(.int .u8 (IntKind.wrap .u8 (IntKind.wrap .i64 (192+(IntKind.wrap .i64 (Int.tdiv q1 64))))))),(1,(.int .u8 (IntKind.wrap .u8 (IntKind.wrap .i64 (128+(Int.tmod q1 64))))))]) .slice fun (z2:(Option Addr×Nat×Nat))=>
 .eff (Builtin.append_ (Call.argTypes (Call.mk (Callee.builtin Builtin.append) #[(Operand.tmp 16),(Operand.tmp 25)] #[59,59])) 59 #[(.slice q0 q0_len q0_cap),(.slice z2.1 z2.2.1 z2.2.2)]) .slice fun (z3:(Option Addr×Nat×Nat))=>
 .leaf 0 [(.slice z3.1 z3.2.1 z3.2.2)]) (
 .cut 1 (.cons .bool .nil) (
 .call 59 #[(.int .i64 q1)] .bool fun (b4:Bool)=>
 .ite b4 (
 .leaf 1 [(.bool true)]) (
 .call 60 #[(.int .i64 q1)] .bool fun (b5:Bool)=>
 .leaf 1 [(.bool b5)]))
 (fun z=>spec_appendUTF8.t1 q0 q0_len q0_cap q1 z.1)))
def spec_appendUTF8.h:Hints:=⟨[],[],[(5,[(27,.bool)])],[]⟩
noncomputable def spec_appendUTF8.c:Code:=(Tryz.f61.body).getD .skip
theorem spec_appendUTF8.e (q0:(Option Addr)) (q0_len:Nat) (q0_cap:Nat) (q1:Int):fnT Tryz.prog spec_appendUTF8.h Tryz.f61 spec_appendUTF8.c [.v (.slice q0 q0_len q0_cap),.v (.int .i64 q1)]=spec_appendUTF8.t q0 q0_len q0_cap q1:=by kernel_rfl
theorem spec_appendUTF8.calls (q0:(Option Addr)) (q0_len:Nat) (q0_cap:Nat) (q1:Int) {w:World} {R:Ending→World→Prop} (hs:sat Tryz.prog (spec_appendUTF8.t q0 q0_len q0_cap q1) (fun l vs w'=>l=0∧R (.returned (retVal vs)) w') w):Calls Tryz.prog 61 #[(.slice q0 q0_len q0_cap),(.int .i64 q1)] w R:=
 have h:=calls_of_tree (w:=w) (R:=R) (args:=[.v (.slice q0 q0_len q0_cap),.v (.int .i64 q1)]) (c:=spec_appendUTF8.c) Tryz.func61 (show Tryz.f61.body=some spec_appendUTF8.c by kernel_rfl) (of_decide_eq_true (by kernel_rfl)) (spec_appendUTF8.e q0 q0_len q0_cap q1) hs
 h
def spec_hexDigit.t2 (c0:Int) (b1:Bool):T:=
 .ite b1 (
 .leaf 0 [(.int .i64 (IntKind.wrap .i64 ((IntKind.wrap .i64 (IntKind.wrap .u8 (c0-97)))+10))),(.bool true)]) (
 .ite (decide (65≤c0)) (
 .ite (decide (c0≤70)) (
 .leaf 0 [(.int .i64 (IntKind.wrap .i64 ((IntKind.wrap .i64 (IntKind.wrap .u8 (c0-65)))+10))),(.bool true)]) (
 .leaf 0 [(.int .i64 0),(.bool false)])) (
 .leaf 0 [(.int .i64 0),(.bool false)]))
def spec_hexDigit.t1 (c0:Int) (b0:Bool):T:=
 .ite b0 (
 .leaf 0 [(.int .i64 (IntKind.wrap .i64 (IntKind.wrap .u8 (c0-48)))),(.bool true)]) (
 .cut 1 (.cons .bool .nil) (
 .ite (decide (97≤c0)) (
 .leaf 1 [(.bool (decide (c0≤102)))]) (
 .leaf 1 [(.bool false)]))
 (fun z=>spec_hexDigit.t2 c0 z.1))
def spec_hexDigit.t (c0:Int):T:=
 .cut 1 (.cons .bool .nil) (
 .ite (decide (48≤c0)) (
 .leaf 1 [(.bool (decide (c0≤57)))]) (
 .leaf 1 [(.bool false)]))
 (fun z=>spec_hexDigit.t1 c0 z.1)
def spec_hexDigit.h:Hints:=⟨[],[],[(1,[(4,.bool)]),(3,[(14,.bool)])],[]⟩
noncomputable def spec_hexDigit.c:Code:=(Tryz.f77.body).getD .skip
theorem spec_hexDigit.e (c0:Int):fnT Tryz.prog spec_hexDigit.h Tryz.f77 spec_hexDigit.c [.v (.int .u8 c0)]=spec_hexDigit.t c0:=by kernel_rfl
theorem spec_hexDigit.calls (c0:Int) {w:World} {R:Ending→World→Prop} (hs:sat Tryz.prog (spec_hexDigit.t c0) (fun l vs w'=>l=0∧R (.returned (retVal vs)) w') w):Calls Tryz.prog 77 #[(.int .u8 c0)] w R:=
 have h:=calls_of_tree (w:=w) (R:=R) (args:=[.v (.int .u8 c0)]) (c:=spec_hexDigit.c) Tryz.func77 (show Tryz.f77.body=some spec_hexDigit.c by kernel_rfl) (of_decide_eq_true (by kernel_rfl)) (spec_hexDigit.e c0) hs
 h
def spec_reader_blanks.t1 (r:(Option Addr)):T:=
 .drew <|
 .ptr r fun (z0:Addr)=>
 .load (Addr.add z0 1) (.int .i64) fun (i1:Int)=>
 .ptr r fun (z2:Addr)=>
 .load (Addr.add z2 0) .str fun (s3:ByteArray)=>
 .ite (decide (i1<((ByteArray.size s3):Int))) (
 .ptr r fun (z4:Addr)=>
 .load (Addr.add z4 0) .str fun (s5:ByteArray)=>
 .ptr r fun (z6:Addr)=>
 .load (Addr.add z6 1) (.int .i64) fun (i7:Int)=>
 .chk ((0≤i7)∧(i7<((ByteArray.size s5):Int))) <|
 .call 32 #[(.int .u8 (bt s5 i7))] .bool fun (b8:Bool)=>
 .ite b8 (
 .ptr r fun (z9:Addr)=>
 .load (Addr.add z9 1) (.int .i64) fun (i10:Int)=>
 .ptr r fun (z11:Addr)=>
 .store (Addr.add z11 1) (.int .i64 (IntKind.wrap .i64 (i10+1))) <|
 .leaf 1 []) (
 .leaf 0 [])) (
 .leaf 0 [])
def spec_reader_blanks.t (r:(Option Addr)):T:=
 .loop 1 .nil []
 (fun _=>spec_reader_blanks.t1 r)
def spec_reader_blanks.h:Hints:=⟨[],[],[],[(0,[])]⟩
noncomputable def spec_reader_blanks.c:Code:=(Tryz.f37.body).getD .skip
theorem spec_reader_blanks.e (r:(Option Addr)):fnT Tryz.prog spec_reader_blanks.h Tryz.f37 spec_reader_blanks.c [.v (.pointer r)]=spec_reader_blanks.t r:=by kernel_rfl
theorem spec_reader_blanks.calls (r:(Option Addr)) {w:World} {R:Ending→World→Prop} (hs:sat Tryz.prog (spec_reader_blanks.t r) (fun l vs w'=>l=0∧R (.returned (retVal vs)) w') w):Calls Tryz.prog 37 #[(.pointer r)] w R:=
 have h:=calls_of_tree (w:=w) (R:=R) (args:=[.v (.pointer r)]) (c:=spec_reader_blanks.c) Tryz.func37 (show Tryz.f37.body=some spec_reader_blanks.c by kernel_rfl) (of_decide_eq_true (by kernel_rfl)) (spec_reader_blanks.e r) hs
 h
def spec_reader_here.t (r:(Option Addr)):T:=
 .drew <|
 .ptr r fun (z0:Addr)=>
 .load (Addr.add z0 1) (.int .i64) fun (i1:Int)=>
 .ptr r fun (z2:Addr)=>
 .load (Addr.add z2 0) .str fun (s3:ByteArray)=>
 .ite (decide (i1<((ByteArray.size s3):Int))) (
 .drew <|
 .ptr r fun (z4:Addr)=>
 .load (Addr.add z4 0) .str fun (s5:ByteArray)=>
 .ptr r fun (z6:Addr)=>
 .load (Addr.add z6 1) (.int .i64) fun (i7:Int)=>
 .chk ((0≤i7)∧(i7<((ByteArray.size s5):Int))) <|
 .leaf 0 [(.int .u8 (bt s5 i7))]) (
 .leaf 0 [(.int .u8 0)])
def spec_reader_here.h:Hints:=⟨[],[],[],[]⟩
noncomputable def spec_reader_here.c:Code:=(Tryz.f51.body).getD .skip
theorem spec_reader_here.e (r:(Option Addr)):fnT Tryz.prog spec_reader_here.h Tryz.f51 spec_reader_here.c [.v (.pointer r)]=spec_reader_here.t r:=by kernel_rfl
theorem spec_reader_here.calls (r:(Option Addr)) {w:World} {R:Ending→World→Prop} (hs:sat Tryz.prog (spec_reader_here.t r) (fun l vs w'=>l=0∧R (.returned (retVal vs)) w') w):Calls Tryz.prog 51 #[(.pointer r)] w R:=
 have h:=calls_of_tree (w:=w) (R:=R) (args:=[.v (.pointer r)]) (c:=spec_reader_here.c) Tryz.func51 (show Tryz.f51.body=some spec_reader_here.c by kernel_rfl) (of_decide_eq_true (by kernel_rfl)) (spec_reader_here.e r) hs
 h
def spec_reader_quoted.t1 (r:(Option Addr)):T:=
 .drew <|
 .ptr r fun (z3:Addr)=>
 .load (Addr.add z3 1) (.int .i64) fun (i4:Int)=>
 .ptr r fun (z5:Addr)=>
 .load (Addr.add z5 0) .str fun (s6:ByteArray)=>
 .ite (decide (i4<((ByteArray.size s6):Int))) (
 .drew <|
 .ptr r fun (z7:Addr)=>
 .load (Addr.add z7 0) .str fun (s8:ByteArray)=>
 .ptr r fun (z9:Addr)=>
 .load (Addr.add z9 1) (.int .i64) fun (i10:Int)=>
 .chk ((0≤i10)∧(i10<((ByteArray.size s8):Int))) <|
 .ptr r fun (z11:Addr)=>
 .load (Addr.add z11 1) (.int .i64) fun (i12:Int)=>
 .ptr r fun (z13:Addr)=>
 .store (Addr.add z13 1) (.int .i64 (IntKind.wrap .i64 (i12+1))) <|
 .ite ((bt s8 i10)==34) (
 .leaf 0 [(.bool true)]) (
 .ite (decide ((bt s8 i10)<32)) (
 .leaf 0 [(.bool false)]) (
 .ite ((bt s8 i10)==92) (
 .call 75 #[(.pointer r)] .bool fun (b14:Bool)=>
 .ite (!b14) (
 .leaf 0 [(.bool false)]) (
 .leaf 1 [])) (
 .leaf 1 [])))) (
 .leaf 0 [(.bool false)])
def spec_reader_quoted.t (r:(Option Addr)):T:=
 .ptr r fun (z0:Addr)=>
 .load (Addr.add z0 1) (.int .i64) fun (i1:Int)=>
 .ptr r fun (z2:Addr)=>
 .store (Addr.add z2 1) (.int .i64 (IntKind.wrap .i64 (i1+1))) <|
 .loop 1 .nil []
 (fun _=>spec_reader_quoted.t1 r)
def spec_reader_quoted.h:Hints:=⟨[],[],[],[(2,[])]⟩
noncomputable def spec_reader_quoted.c:Code:=(Tryz.f54.body).getD .skip
theorem spec_reader_quoted.e (r:(Option Addr)):fnT Tryz.prog spec_reader_quoted.h Tryz.f54 spec_reader_quoted.c [.v (.pointer r)]=spec_reader_quoted.t r:=by kernel_rfl
theorem spec_reader_quoted.calls (r:(Option Addr)) {w:World} {R:Ending→World→Prop} (hs:sat Tryz.prog (spec_reader_quoted.t r) (fun l vs w'=>l=0∧R (.returned (retVal vs)) w') w):Calls Tryz.prog 54 #[(.pointer r)] w R:=
 have h:=calls_of_tree (w:=w) (R:=R) (args:=[.v (.pointer r)]) (c:=spec_reader_quoted.c) Tryz.func54 (show Tryz.f54.body=some spec_reader_quoted.c by kernel_rfl) (of_decide_eq_true (by kernel_rfl)) (spec_reader_quoted.e r) hs
 h
def spec_reader_number.t2 (r:(Option Addr)) (b6:Bool):T:=
 .ite b6 (
 .leaf 0 [(.bool false)]) (
 .call 74 #[(.pointer r),(.int .u8 101)] .bool fun (b7:Bool)=>
 .ite b7 (
 .call 74 #[(.pointer r),(.int .u8 43)] .bool fun (b8:Bool)=>
 .ite (!b8) (
 .call 74 #[(.pointer r),(.int .u8 45)] .bool fun (b9:Bool)=>
 .call 76 #[(.pointer r)] .bool fun (b10:Bool)=>
 .leaf 0 [(.bool b10)]) (
 .call 76 #[(.pointer r)] .bool fun (b11:Bool)=>
 .leaf 0 [(.bool b11)])) (
 .call 74 #[(.pointer r),(.int .u8 69)] .bool fun (b12:Bool)=>
 .ite b12 (
 .call 74 #[(.pointer r),(.int .u8 43)] .bool fun (b13:Bool)=>
 .ite (!b13) (
 .call 74 #[(.pointer r),(.int .u8 45)] .bool fun (b14:Bool)=>
 .call 76 #[(.pointer r)] .bool fun (b15:Bool)=>
 .leaf 0 [(.bool b15)]) (
 .call 76 #[(.pointer r)] .bool fun (b16:Bool)=>
 .leaf 0 [(.bool b16)])) (
 .leaf 0 [(.bool true)])))
def spec_reader_number.t1 (r:(Option Addr)) (b3:Bool):T:=
 .ite b3 (
 .leaf 0 [(.bool false)]) (
 .cut 1 (.cons .bool .nil) (
 .call 74 #[(.pointer r),(.int .u8 46)] .bool fun (b4:Bool)=>
 .ite b4 (
 .call 76 #[(.pointer r)] .bool fun (b5:Bool)=>
 .leaf 1 [(.bool (!b5))]) (
 .leaf 1 [(.bool false)]))
 (fun z=>spec_reader_number.t2 r z.1))
def spec_reader_number.t (r:(Option Addr)):T:=
 .call 74 #[(.pointer r),(.int .u8 45)] .bool fun (b0:Bool)=>
 .cut 1 (.cons .bool .nil) (
 .call 74 #[(.pointer r),(.int .u8 48)] .bool fun (b1:Bool)=>
 .ite (!b1) (
 .call 76 #[(.pointer r)] .bool fun (b2:Bool)=>
 .leaf 1 [(.bool (!b2))]) (
 .leaf 1 [(.bool false)]))
 (fun z=>spec_reader_number.t1 r z.1)
def spec_reader_number.h:Hints:=⟨[],[],[(2,[(12,.bool)]),(4,[(19,.bool)])],[]⟩
noncomputable def spec_reader_number.c:Code:=(Tryz.f55.body).getD .skip
theorem spec_reader_number.e (r:(Option Addr)):fnT Tryz.prog spec_reader_number.h Tryz.f55 spec_reader_number.c [.v (.pointer r)]=spec_reader_number.t r:=by kernel_rfl
theorem spec_reader_number.calls (r:(Option Addr)) {w:World} {R:Ending→World→Prop} (hs:sat Tryz.prog (spec_reader_number.t r) (fun l vs w'=>l=0∧R (.returned (retVal vs)) w') w):Calls Tryz.prog 55 #[(.pointer r)] w R:=
 have h:=calls_of_tree (w:=w) (R:=R) (args:=[.v (.pointer r)]) (c:=spec_reader_number.c) Tryz.func55 (show Tryz.f55.body=some spec_reader_number.c by kernel_rfl) (of_decide_eq_true (by kernel_rfl)) (spec_reader_number.e r) hs
 h
def spec_reader_word.t1 (r:(Option Addr)) (w1:ByteArray) (b10:Bool):T:=
 .ite b10 (
 .leaf 0 [(.bool false)]) (
 .ptr r fun (z11:Addr)=>
 .load (Addr.add z11 1) (.int .i64) fun (i12:Int)=>
 .ptr r fun (z13:Addr)=>
 .store (Addr.add z13 1) (.int .i64 (IntKind.wrap .i64 (i12+((ByteArray.size w1):Int)))) <|
 .leaf 0 [(.bool true)])
def spec_reader_word.t (r:(Option Addr)) (w1:ByteArray):T:=
 .cut 1 (.cons .bool .nil) (
 .drew <|
 .ptr r fun (z0:Addr)=>
 .load (Addr.add z0 0) .str fun (s1:ByteArray)=>
 .ptr r fun (z2:Addr)=>
 .load (Addr.add z2 1) (.int .i64) fun (i3:Int)=>
 .ite (decide ((IntKind.wrap .i64 (((ByteArray.size s1):Int)-i3))<((ByteArray.size w1):Int))) (
 .leaf 1 [(.bool true)]) (
 .ptr r fun (z4:Addr)=>
 .load (Addr.add z4 0) .str fun (s5:ByteArray)=>
 .ptr r fun (z6:Addr)=>
 .load (Addr.add z6 1) (.int .i64) fun (i7:Int)=>
 .ptr r fun (z8:Addr)=>
 .load (Addr.add z8 1) (.int .i64) fun (i9:Int)=>
 .chk ((0≤i7)∧((i7≤(IntKind.wrap .i64 (i9+((ByteArray.size w1):Int))))∧((IntKind.wrap .i64 (i9+((ByteArray.size w1):Int)))≤((ByteArray.size s5):Int)))) <|
 .leaf 1 [(.bool (!(strEq (ByteArray.extract s5 (Int.toNat i7) (Int.toNat (IntKind.wrap .i64 (i9+((ByteArray.size w1):Int))))) w1)))]))
 (fun z=>spec_reader_word.t1 r w1 z.1)
def spec_reader_word.h:Hints:=⟨[],[],[(1,[(37,.bool)])],[]⟩
noncomputable def spec_reader_word.c:Code:=(Tryz.f56.body).getD .skip
theorem spec_reader_word.e (r:(Option Addr)) (w1:ByteArray):fnT Tryz.prog spec_reader_word.h Tryz.f56 spec_reader_word.c [.v (.pointer r),.v (.string w1)]=spec_reader_word.t r w1:=by kernel_rfl
theorem spec_reader_word.calls (r:(Option Addr)) (w1:ByteArray) {w:World} {R:Ending→World→Prop} (hs:sat Tryz.prog (spec_reader_word.t r w1) (fun l vs w'=>l=0∧R (.returned (retVal vs)) w') w):Calls Tryz.prog 56 #[(.pointer r),(.string w1)] w R:=
 have h:=calls_of_tree (w:=w) (R:=R) (args:=[.v (.pointer r),.v (.string w1)]) (c:=spec_reader_word.c) Tryz.func56 (show Tryz.f56.body=some spec_reader_word.c by kernel_rfl) (of_decide_eq_true (by kernel_rfl)) (spec_reader_word.e r w1) hs
 h
def spec_reader_take.t (r:(Option Addr)) (c1:Int):T:=
 .drew <|
 .ptr r fun (z0:Addr)=>
 .load (Addr.add z0 1) (.int .i64) fun (i1:Int)=>
 .ptr r fun (z2:Addr)=>
 .load (Addr.add z2 0) .str fun (s3:ByteArray)=>
 .ite (decide (i1<((ByteArray.size s3):Int))) (
 .ptr r fun (z4:Addr)=>
 .load (Addr.add z4 0) .str fun (s5:ByteArray)=>
 .ptr r fun (z6:Addr)=>
 .load (Addr.add z6 1) (.int .i64) fun (i7:Int)=>
 .chk ((0≤i7)∧(i7<((ByteArray.size s5):Int))) <|
 .ite ((bt s5 i7)==c1) (
 .ptr r fun (z8:Addr)=>
 .load (Addr.add z8 1) (.int .i64) fun (i9:Int)=>
 .ptr r fun (z10:Addr)=>
 .store (Addr.add z10 1) (.int .i64 (IntKind.wrap .i64 (i9+1))) <|
 .leaf 0 [(.bool true)]) (
 .leaf 0 [(.bool false)])) (
 .leaf 0 [(.bool false)])
def spec_reader_take.h:Hints:=⟨[],[],[],[]⟩
noncomputable def spec_reader_take.c:Code:=(Tryz.f74.body).getD .skip
theorem spec_reader_take.e (r:(Option Addr)) (c1:Int):fnT Tryz.prog spec_reader_take.h Tryz.f74 spec_reader_take.c [.v (.pointer r),.v (.int .u8 c1)]=spec_reader_take.t r c1:=by kernel_rfl
theorem spec_reader_take.calls (r:(Option Addr)) (c1:Int) {w:World} {R:Ending→World→Prop} (hs:sat Tryz.prog (spec_reader_take.t r c1) (fun l vs w'=>l=0∧R (.returned (retVal vs)) w') w):Calls Tryz.prog 74 #[(.pointer r),(.int .u8 c1)] w R:=
 have h:=calls_of_tree (w:=w) (R:=R) (args:=[.v (.pointer r),.v (.int .u8 c1)]) (c:=spec_reader_take.c) Tryz.func74 (show Tryz.f74.body=some spec_reader_take.c by kernel_rfl) (of_decide_eq_true (by kernel_rfl)) (spec_reader_take.e r c1) hs
 h
def spec_reader_escape.t1 (b1:Bool):T:=
 .leaf 6 [(.bool b1)]
def spec_reader_escape.t2 (b2:Bool):T:=
 .leaf 5 [(.bool b2)]
def spec_reader_escape.t3 (b3:Bool):T:=
 .leaf 4 [(.bool b3)]
def spec_reader_escape.t4 (b4:Bool):T:=
 .leaf 3 [(.bool b4)]
def spec_reader_escape.t5 (b5:Bool):T:=
 .leaf 2 [(.bool b5)]
def spec_reader_escape.t6 (b6:Bool):T:=
 .leaf 1 [(.bool b6)]
def spec_reader_escape.t8 (r:(Option Addr)) (i14:Int):T:=
 .ite (decide (i14<4)) (
 .call 51 #[(.pointer r)] (.int .u8) fun (i15:Int)=>
 .call 77 #[(.int .u8 i15)] (.tuple (.cons (.int .i64) (.cons .bool .nil))) fun (z16:(Int×(Bool×PUnit)))=>
 .ite (!z16.2.1) (
 .leaf 0 [(.bool false)]) (
 .ptr r fun (z17:Addr)=>
 .load (Addr.add z17 1) (.int .i64) fun (i18:Int)=>
 .ptr r fun (z19:Addr)=>
 .store (Addr.add z19 1) (.int .i64 (IntKind.wrap .i64 (i18+1))) <|
 .leaf 2 [(.int .i64 (IntKind.wrap .i64 (i14+1)))])) (
 .leaf 0 [(.bool true)])
def spec_reader_escape.t9:T:=
 .leaf 0 [(.bool false)]
def spec_reader_escape.t7 (r:(Option Addr)) (i0:Int) (b7:Bool):T:=
 .cut 1 (.cons .bool .nil) (
 .ite b7 (
 .ptr r fun (z8:Addr)=>
 .load (Addr.add z8 1) (.int .i64) fun (i9:Int)=>
 .ptr r fun (z10:Addr)=>
 .store (Addr.add z10 1) (.int .i64 (IntKind.wrap .i64 (i9+1))) <|
 .leaf 0 [(.bool true)]) (
 .ite (i0==117) (
 .ptr r fun (z11:Addr)=>
 .load (Addr.add z11 1) (.int .i64) fun (i12:Int)=>
 .ptr r fun (z13:Addr)=>
 .store (Addr.add z13 1) (.int .i64 (IntKind.wrap .i64 (i12+1))) <|
 .loop 2 (.cons (.int .i64) .nil) [(.int .i64 0)]
 (fun z=>spec_reader_escape.t8 r z.1)) (
 .leaf 1 [(.bool b7)])))
 (fun z=>spec_reader_escape.t9)
def spec_reader_escape.t (r:(Option Addr)):T:=
 .call 51 #[(.pointer r)] (.int .u8) fun (i0:Int)=>
 .cut 1 (.cons .bool .nil) (
 .ite (i0==34) (
 .leaf 1 [(.bool (i0==34))]) (
 .cut 2 (.cons .bool .nil) (
 .ite (i0==92) (
 .leaf 2 [(.bool (i0==92))]) (
 .cut 3 (.cons .bool .nil) (
 .ite (i0==47) (
 .leaf 3 [(.bool (i0==47))]) (
 .cut 4 (.cons .bool .nil) (
 .ite (i0==98) (
 .leaf 4 [(.bool (i0==98))]) (
 .cut 5 (.cons .bool .nil) (
 .ite (i0==102) (
 .leaf 5 [(.bool (i0==102))]) (
 .cut 6 (.cons .bool .nil) (
 .ite (i0==110) (
 .leaf 6 [(.bool (i0==110))]) (
 .cut 7 (.cons .bool .nil) (
 .ite (i0==114) (
 .leaf 7 [(.bool (i0==114))]) (
 .leaf 7 [(.bool (i0==116))]))
 (fun z=>spec_reader_escape.t1 z.1)))
 (fun z=>spec_reader_escape.t2 z.1)))
 (fun z=>spec_reader_escape.t3 z.1)))
 (fun z=>spec_reader_escape.t4 z.1)))
 (fun z=>spec_reader_escape.t5 z.1)))
 (fun z=>spec_reader_escape.t6 z.1)))
 (fun z=>spec_reader_escape.t7 r i0 z.1)
def spec_reader_escape.h:Hints:=⟨[(8,[(8,.bool)])],[],[],[(15,[(3,(.int .i64))])]⟩
noncomputable def spec_reader_escape.c:Code:=(Tryz.f75.body).getD .skip
theorem spec_reader_escape.e (r:(Option Addr)):fnT Tryz.prog spec_reader_escape.h Tryz.f75 spec_reader_escape.c [.v (.pointer r)]=spec_reader_escape.t r:=by kernel_rfl
theorem spec_reader_escape.calls (r:(Option Addr)) {w:World} {R:Ending→World→Prop} (hs:sat Tryz.prog (spec_reader_escape.t r) (fun l vs w'=>l=0∧R (.returned (retVal vs)) w') w):Calls Tryz.prog 75 #[(.pointer r)] w R:=
 have h:=calls_of_tree (w:=w) (R:=R) (args:=[.v (.pointer r)]) (c:=spec_reader_escape.c) Tryz.func75 (show Tryz.f75.body=some spec_reader_escape.c by kernel_rfl) (of_decide_eq_true (by kernel_rfl)) (spec_reader_escape.e r) hs
 h
def spec_reader_digits.t1 (r:(Option Addr)) (i1:Int) (i3:Int):T:=
 .ite (decide (48≤i3)) (
 .ite (decide (i3≤57)) (
 .ptr r fun (z4:Addr)=>
 .load (Addr.add z4 1) (.int .i64) fun (i5:Int)=>
 .ptr r fun (z6:Addr)=>
 .store (Addr.add z6 1) (.int .i64 (IntKind.wrap .i64 (i5+1))) <|
 .call 51 #[(.pointer r)] (.int .u8) fun (i7:Int)=>
 .leaf 1 [(.int .u8 i7)]) (
 .ptr r fun (z8:Addr)=>
 .load (Addr.add z8 1) (.int .i64) fun (i9:Int)=>
 .leaf 0 [(.bool (decide (i9 > i1)))])) (
 .ptr r fun (z10:Addr)=>
 .load (Addr.add z10 1) (.int .i64) fun (i11:Int)=>
 .leaf 0 [(.bool (decide (i11 > i1)))])
def spec_reader_digits.t (r:(Option Addr)):T:=
 .ptr r fun (z0:Addr)=>
 .load (Addr.add z0 1) (.int .i64) fun (i1:Int)=>
 .call 51 #[(.pointer r)] (.int .u8) fun (i2:Int)=>
 .loop 1 (.cons (.int .u8) .nil) [(.int .u8 i2)]
 (fun z=>spec_reader_digits.t1 r i1 z.1)
def spec_reader_digits.h:Hints:=⟨[],[],[],[(3,[(4,(.int .u8))])]⟩
noncomputable def spec_reader_digits.c:Code:=(Tryz.f76.body).getD .skip
theorem spec_reader_digits.e (r:(Option Addr)):fnT Tryz.prog spec_reader_digits.h Tryz.f76 spec_reader_digits.c [.v (.pointer r)]=spec_reader_digits.t r:=by kernel_rfl
theorem spec_reader_digits.calls (r:(Option Addr)) {w:World} {R:Ending→World→Prop} (hs:sat Tryz.prog (spec_reader_digits.t r) (fun l vs w'=>l=0∧R (.returned (retVal vs)) w') w):Calls Tryz.prog 76 #[(.pointer r)] w R:=
 have h:=calls_of_tree (w:=w) (R:=R) (args:=[.v (.pointer r)]) (c:=spec_reader_digits.c) Tryz.func76 (show Tryz.f76.body=some spec_reader_digits.c by kernel_rfl) (of_decide_eq_true (by kernel_rfl)) (spec_reader_digits.e r) hs
 h
def spec_Blank.t (c0:Int):T:=
 .ite (c0==32) (
 .leaf 0 [(.bool true)]) (
 .ite (c0==9) (
 .leaf 0 [(.bool true)]) (
 .ite (c0==10) (
 .leaf 0 [(.bool true)]) (
 .leaf 0 [(.bool (c0==13))])))
def spec_Blank.h:Hints:=⟨[],[],[],[]⟩
noncomputable def spec_Blank.c:Code:=(Tryz.f32.body).getD .skip
theorem spec_Blank.e (c0:Int):fnT Tryz.prog spec_Blank.h Tryz.f32 spec_Blank.c [.v (.int .u8 c0)]=spec_Blank.t c0:=by kernel_rfl
theorem spec_Blank.calls (c0:Int) {w:World} {R:Ending→World→Prop} (hs:sat Tryz.prog (spec_Blank.t c0) (fun l vs w'=>l=0∧R (.returned (retVal vs)) w') w):Calls Tryz.prog 32 #[(.int .u8 c0)] w R:=
 have h:=calls_of_tree (w:=w) (R:=R) (args:=[.v (.int .u8 c0)]) (c:=spec_Blank.c) Tryz.func32 (show Tryz.f32.body=some spec_Blank.c by kernel_rfl) (of_decide_eq_true (by kernel_rfl)) (spec_Blank.e c0) hs
 h
def jsonparser_nextTokenConfig.t1 (data:(Option Addr)) (data_len:Nat) (i1:Int):T:=
 .ite (decide (i1<(data_len:Int))) (
 .chk ((0≤i1)∧(i1<(data_len:Int))) <|
 .ptr data fun (z2:Addr)=>
 .load (Addr.add z2 ((Int.toNat i1) * 1)) (.int .u8) fun (i3:Int)=>
 .ite (i3==32) (
 .leaf 1 [(.int .i64 (IntKind.wrap .i64 (i1+1)))]) (
 .ite (i3==10) (
 .leaf 1 [(.int .i64 (IntKind.wrap .i64 (i1+1)))]) (
 .ite (i3==13) (
 .leaf 1 [(.int .i64 (IntKind.wrap .i64 (i1+1)))]) (
 .ite (i3==9) (
 .leaf 1 [(.int .i64 (IntKind.wrap .i64 (i1+1)))]) (
 .leaf 0 [(.int .i64 i1)]))))) (
 .leaf 0 [(.int .i64 (-1))])
def jsonparser_nextTokenConfig.t (x0_0:Bool) (x0_1:Bool) (x0_2:Int) (data:(Option Addr)) (data_len:Nat) (data_cap:Nat):T:=
 .alloc (Obj.cells #[(.bool x0_0),(.bool x0_1),(.int .i64 x0_2)] 81 (0,0)) fun (z0:Addr)=>
 .loop 1 (.cons (.int .i64) .nil) [(.int .i64 0)]
 (fun z=>jsonparser_nextTokenConfig.t1 data data_len z.1)
def jsonparser_nextTokenConfig.h:Hints:=⟨[],[],[],[(2,[(9,(.int .i64))])]⟩
noncomputable def jsonparser_nextTokenConfig.c:Code:=(Tryz.f66.body).getD .skip
theorem jsonparser_nextTokenConfig.e (x0_0:Bool) (x0_1:Bool) (x0_2:Int) (data:(Option Addr)) (data_len:Nat) (data_cap:Nat):fnT Tryz.prog jsonparser_nextTokenConfig.h Tryz.f66 jsonparser_nextTokenConfig.c [.v (.agg #[(.bool x0_0),(.bool x0_1),(.int .i64 x0_2)]),.v (.slice data data_len data_cap)]=jsonparser_nextTokenConfig.t x0_0 x0_1 x0_2 data data_len data_cap:=by kernel_rfl
theorem jsonparser_nextTokenConfig.calls (x0_0:Bool) (x0_1:Bool) (x0_2:Int) (data:(Option Addr)) (data_len:Nat) (data_cap:Nat) {w:World} {R:Ending→World→Prop} (hs:sat Tryz.prog (jsonparser_nextTokenConfig.t x0_0 x0_1 x0_2 data data_len data_cap) (fun l vs w'=>l=0∧R (.returned (retVal vs)) w') w):Calls Tryz.prog 66 #[(.agg #[(.bool x0_0),(.bool x0_1),(.int .i64 x0_2)]),(.slice data data_len data_cap)] w R:=
 have h:=calls_of_tree (w:=w) (R:=R) (args:=[.v (.agg #[(.bool x0_0),(.bool x0_1),(.int .i64 x0_2)]),.v (.slice data data_len data_cap)]) (c:=jsonparser_nextTokenConfig.c) Tryz.func66 (show Tryz.f66.body=some jsonparser_nextTokenConfig.c by kernel_rfl) (of_decide_eq_true (by kernel_rfl)) (jsonparser_nextTokenConfig.e x0_0 x0_1 x0_2 data data_len data_cap) hs
 h
def jsonparser_blockEndConfig.t2 (q1:(Option Addr)) (q1_len:Nat) (q2:Int) (q3:Int) (i3:Int):T:=
 .ite (decide (i3<(q1_len:Int))) (
 .chk ((0≤i3)∧(i3<(q1_len:Int))) <|
 .ptr q1 fun (z4:Addr)=>
 .load (Addr.add z4 ((Int.toNat i3) * 1)) (.int .u8) fun (i5:Int)=>
 .ite (decide (i5≤32)) (
 .leaf 3 [(.int .i64 (IntKind.wrap .i64 (i3+1)))]) (
 .ite (decide (i5 > 92)) (
 .ite (i5 != q2) (
 .ite (i5 != q3) (
 .leaf 3 [(.int .i64 (IntKind.wrap .i64 (i3+1)))]) (
 .leaf 2 [(.int .i64 i3)])) (
 .leaf 2 [(.int .i64 i3)])) (
 .leaf 2 [(.int .i64 i3)]))) (
 .leaf 2 [(.int .i64 i3)])
def jsonparser_blockEndConfig.t5 (q1:(Option Addr)) (q1_len:Nat) (q1_cap:Nat) (z0:Addr) (b9:Bool) (i10:Int) (i11:Int) (i13:Int) (b15:Bool):T:=
 .ite b15 (
 .leaf 1 [(.int .i64 (IntKind.wrap .i64 (i11+1))),(.int .i64 i10)]) (
 .drew <|
 .effQ (Instr.loadAt 81 (.pointer (some z0))) (.agg (.cons .bool (.cons .bool (.cons (.int .i64) .nil)))) fun (z16:(Bool×(Bool×(Int×PUnit))))=>
 .chk ((0≤(IntKind.wrap .i64 (i11+1)))∧(((IntKind.wrap .i64 (i11+1))≤(q1_len:Int))∧((q1_len:Int)≤(q1_cap:Int)))) <|
 .call 80 #[(.agg #[(.bool z16.1),(.bool z16.2.1),(.int .i64 z16.2.2.1)]),(.slice (if (q1_cap=(Int.toNat (IntKind.wrap .i64 (i11+1)))) then q1 else (Option.map (fun (y17:Addr)=>(Addr.add y17 ((Int.toNat (IntKind.wrap .i64 (i11+1))) * 1))) q1)) ((Int.toNat (q1_len:Int))-(Int.toNat (IntKind.wrap .i64 (i11+1)))) (q1_cap-(Int.toNat (IntKind.wrap .i64 (i11+1))))),(.int .u8 i13)] (.tuple (.cons (.int .i64) (.cons .bool .nil))) fun (z18:(Int×(Bool×PUnit)))=>
 .ite (z18.1==(-1)) (
 .leaf 0 [(.int .i64 (-1))]) (
 .leaf 2 [(.bool b9),(.int .i64 i10),(.int .i64 (IntKind.wrap .i64 (i11+z18.1)))]))
def jsonparser_blockEndConfig.t6 (i20:Int) (i21:Int):T:=
 .leaf 1 [(.int .i64 (IntKind.wrap .i64 (i21+1))),(.int .i64 i20)]
def jsonparser_blockEndConfig.t4 (q1:(Option Addr)) (q1_len:Nat) (q1_cap:Nat) (q2:Int) (q3:Int) (z0:Addr) (i8:Int) (b9:Bool) (i10:Int) (i11:Int):T:=
 .cut 2 (.cons .bool (.cons (.int .i64) (.cons (.int .i64) .nil))) (
 .ite b9 (
 .chk ((0≤i11)∧(i11<(q1_len:Int))) <|
 .ptr q1 fun (z12:Addr)=>
 .load (Addr.add z12 ((Int.toNat i11) * 1)) (.int .u8) fun (i13:Int)=>
 .cut 3 (.cons .bool .nil) (
 .ite (i13==39) (
 .load (Addr.add z0 0) .bool fun (b14:Bool)=>
 .leaf 3 [(.bool (!b14))]) (
 .leaf 3 [(.bool false)]))
 (fun z=>jsonparser_blockEndConfig.t5 q1 q1_len q1_cap z0 b9 i10 i11 i13 z.1)) (
 .ite (i8==q2) (
 .leaf 2 [(.bool b9),(.int .i64 (IntKind.wrap .i64 (i10+1))),(.int .i64 i11)]) (
 .ite (i8==q3) (
 .ite ((IntKind.wrap .i64 (i10-1))==0) (
 .leaf 0 [(.int .i64 (IntKind.wrap .i64 (i11+1)))]) (
 .leaf 2 [(.bool b9),(.int .i64 (IntKind.wrap .i64 (i10-1))),(.int .i64 i11)])) (
 .leaf 2 [(.bool b9),(.int .i64 i10),(.int .i64 i11)]))))
 (fun z=>jsonparser_blockEndConfig.t6 z.2.1 z.2.2.1)
def jsonparser_blockEndConfig.t3 (q1:(Option Addr)) (q1_len:Nat) (q1_cap:Nat) (q2:Int) (q3:Int) (z0:Addr) (i2:Int) (i6:Int):T:=
 .ite (decide (i6 ≥ (q1_len:Int))) (
 .leaf 0 [(.int .i64 (-1))]) (
 .chk ((0≤i6)∧(i6<(q1_len:Int))) <|
 .ptr q1 fun (z7:Addr)=>
 .load (Addr.add z7 ((Int.toNat i6) * 1)) (.int .u8) fun (i8:Int)=>
 .cut 2 (.cons .bool (.cons (.int .i64) (.cons (.int .i64) .nil))) (
 .ite (i8==34) (
 .leaf 2 [(.bool (i8==34)),(.int .i64 i2),(.int .i64 i6)]) (
 .leaf 2 [(.bool (i8==39)),(.int .i64 i2),(.int .i64 i6)]))
 (fun z=>jsonparser_blockEndConfig.t4 q1 q1_len q1_cap q2 q3 z0 i8 z.1 z.2.1 z.2.2.1))
def jsonparser_blockEndConfig.t1 (q1:(Option Addr)) (q1_len:Nat) (q1_cap:Nat) (q2:Int) (q3:Int) (z0:Addr) (i1:Int) (i2:Int):T:=
 .ite (decide (i1<(q1_len:Int))) (
 .cut 2 (.cons (.int .i64) .nil) (
 .loop 3 (.cons (.int .i64) .nil) [(.int .i64 i1)]
 (fun z=>jsonparser_blockEndConfig.t2 q1 q1_len q2 q3 z.1))
 (fun z=>jsonparser_blockEndConfig.t3 q1 q1_len q1_cap q2 q3 z0 i2 z.1)) (
 .leaf 0 [(.int .i64 (-1))])
def jsonparser_blockEndConfig.t (q0_0:Bool) (q0_1:Bool) (q0_2:Int) (q1:(Option Addr)) (q1_len:Nat) (q1_cap:Nat) (q2:Int) (q3:Int):T:=
 .alloc (Obj.cells #[(.bool q0_0),(.bool q0_1),(.int .i64 q0_2)] 81 (0,0)) fun (z0:Addr)=>
 .loop 1 (.cons (.int .i64) (.cons (.int .i64) .nil)) [(.int .i64 0),(.int .i64 0)]
 (fun z=>jsonparser_blockEndConfig.t1 q1 q1_len q1_cap q2 q3 z0 z.1 z.2.1)
def jsonparser_blockEndConfig.h:Hints:=⟨[(53,[(53,.bool),(9,(.int .i64)),(10,(.int .i64))])],[(2,[(10,(.int .i64))])],[(16,[(66,.bool)])],[(4,[(10,(.int .i64)),(9,(.int .i64))]),(5,[(10,(.int .i64))])]⟩
noncomputable def jsonparser_blockEndConfig.c:Code:=(Tryz.f68.body).getD .skip
theorem jsonparser_blockEndConfig.e (q0_0:Bool) (q0_1:Bool) (q0_2:Int) (q1:(Option Addr)) (q1_len:Nat) (q1_cap:Nat) (q2:Int) (q3:Int):fnT Tryz.prog jsonparser_blockEndConfig.h Tryz.f68 jsonparser_blockEndConfig.c [.v (.agg #[(.bool q0_0),(.bool q0_1),(.int .i64 q0_2)]),.v (.slice q1 q1_len q1_cap),.v (.int .u8 q2),.v (.int .u8 q3)]=jsonparser_blockEndConfig.t q0_0 q0_1 q0_2 q1 q1_len q1_cap q2 q3:=by kernel_rfl
theorem jsonparser_blockEndConfig.calls (q0_0:Bool) (q0_1:Bool) (q0_2:Int) (q1:(Option Addr)) (q1_len:Nat) (q1_cap:Nat) (q2:Int) (q3:Int) {w:World} {R:Ending→World→Prop} (hs:sat Tryz.prog (jsonparser_blockEndConfig.t q0_0 q0_1 q0_2 q1 q1_len q1_cap q2 q3) (fun l vs w'=>l=0∧R (.returned (retVal vs)) w') w):Calls Tryz.prog 68 #[(.agg #[(.bool q0_0),(.bool q0_1),(.int .i64 q0_2)]),(.slice q1 q1_len q1_cap),(.int .u8 q2),(.int .u8 q3)] w R:=
 have h:=calls_of_tree (w:=w) (R:=R) (args:=[.v (.agg #[(.bool q0_0),(.bool q0_1),(.int .i64 q0_2)]),.v (.slice q1 q1_len q1_cap),.v (.int .u8 q2),.v (.int .u8 q3)]) (c:=jsonparser_blockEndConfig.c) Tryz.func68 (show Tryz.f68.body=some jsonparser_blockEndConfig.c by kernel_rfl) (of_decide_eq_true (by kernel_rfl)) (jsonparser_blockEndConfig.e q0_0 q0_1 q0_2 q1 q1_len q1_cap q2 q3) hs
 h
def jsonparser_stringEndConfig.t1 (q1:(Option Addr)) (q1_len:Nat) (q1_cap:Nat) (q2:Int) (i1:Int):T:=
 .ite (decide ((IntKind.wrap .i64 (i1+8))≤(q1_len:Int))) (
 .drew <|
 .effS (Instr.loadAt 124 (.pointer (some (Addr.mk 7 0 Option.none)))) (.agg .nil) fun _=>
 .chk ((0≤i1)∧((i1≤(q1_len:Int))∧((q1_len:Int)≤(q1_cap:Int)))) <|
 .call 89 #[(.agg #[]),(.slice (if (q1_cap=(Int.toNat i1)) then q1 else (Option.map (fun (y2:Addr)=>(Addr.add y2 ((Int.toNat i1) * 1))) q1)) ((Int.toNat (q1_len:Int))-(Int.toNat i1)) (q1_cap-(Int.toNat i1)))] (.int .u64) fun (i3:Int)=>
 .eff (Op.unary UnOp.xor (.int .u64 (IntKind.wrap .u64 (((BitVec.toNat ((BitVec.ofInt 64 i3) ^^^ (BitVec.ofInt 64 (IntKind.wrap .u64 ((IntKind.wrap .u64 q2) * 72340172838076673))))):Nat):Int)))) (.int .u64) fun (i4:Int)=>
 .eff (Op.unary UnOp.xor (.int .u64 (IntKind.wrap .u64 (((BitVec.toNat ((BitVec.ofInt 64 i3) ^^^ (BitVec.ofInt 64 6655295901103053916))):Nat):Int)))) (.int .u64) fun (i5:Int)=>
 .ite ((IntKind.wrap .u64 (((BitVec.toNat ((BitVec.ofInt 64 (IntKind.wrap .u64 (((BitVec.toNat ((BitVec.ofInt 64 (IntKind.wrap .u64 (((BitVec.toNat ((BitVec.ofInt 64 (IntKind.wrap .u64 ((IntKind.wrap .u64 (((BitVec.toNat ((BitVec.ofInt 64 i3) ^^^ (BitVec.ofInt 64 (IntKind.wrap .u64 ((IntKind.wrap .u64 q2) * 72340172838076673))))):Nat):Int))-72340172838076673))) &&& (BitVec.ofInt 64 i4))):Nat):Int))) &&& (BitVec.ofInt 64 9259542123273814144))):Nat):Int))) ||| (BitVec.ofInt 64 (IntKind.wrap .u64 (((BitVec.toNat ((BitVec.ofInt 64 (IntKind.wrap .u64 (((BitVec.toNat ((BitVec.ofInt 64 (IntKind.wrap .u64 ((IntKind.wrap .u64 (((BitVec.toNat ((BitVec.ofInt 64 i3) ^^^ (BitVec.ofInt 64 6655295901103053916))):Nat):Int))-72340172838076673))) &&& (BitVec.ofInt 64 i5))):Nat):Int))) &&& (BitVec.ofInt 64 9259542123273814144))):Nat):Int))))):Nat):Int))==0) (
 .leaf 2 [(.int .i64 (IntKind.wrap .i64 (i1+8)))]) (
 .leaf 1 [(.int .i64 i1)])) (
 .leaf 1 [(.int .i64 i1)])
def jsonparser_stringEndConfig.t5 (q1:(Option Addr)) (q1_len:Nat) (i7:Int) (b8:Bool) (i13:Int) (b16:Bool):T:=
 .ite b16 (
 .leaf 0 [(.int .i64 (IntKind.wrap .i64 (i7+1))),(.bool true)]) (
 .ite (decide ((IntKind.wrap .i64 (i13-1))<0)) (
 .leaf 1 [(.int .i64 (IntKind.wrap .i64 (i7+1))),(.bool b8)]) (
 .chk ((0≤(IntKind.wrap .i64 (i13-1)))∧((IntKind.wrap .i64 (i13-1))<(q1_len:Int))) <|
 .ptr q1 fun (z17:Addr)=>
 .load (Addr.add z17 ((Int.toNat (IntKind.wrap .i64 (i13-1))) * 1)) (.int .u8) fun (i18:Int)=>
 .ite (i18 != 92) (
 .leaf 1 [(.int .i64 (IntKind.wrap .i64 (i7+1))),(.bool b8)]) (
 .leaf 2 [(.int .i64 (IntKind.wrap .i64 ((IntKind.wrap .i64 (i13-1))-1)))])))
def jsonparser_stringEndConfig.t4 (q1:(Option Addr)) (q1_len:Nat) (i7:Int) (b8:Bool) (i13:Int):T:=
 .cut 3 (.cons .bool .nil) (
 .ite (decide (i13<0)) (
 .leaf 3 [(.bool true)]) (
 .chk ((0≤i13)∧(i13<(q1_len:Int))) <|
 .ptr q1 fun (z14:Addr)=>
 .load (Addr.add z14 ((Int.toNat i13) * 1)) (.int .u8) fun (i15:Int)=>
 .leaf 3 [(.bool (i15 != 92))]))
 (fun z=>jsonparser_stringEndConfig.t5 q1 q1_len i7 b8 i13 z.1)
def jsonparser_stringEndConfig.t3 (q1:(Option Addr)) (q1_len:Nat) (q2:Int) (i7:Int) (b8:Bool):T:=
 .ite (decide (i7<(q1_len:Int))) (
 .chk ((0≤i7)∧(i7<(q1_len:Int))) <|
 .ptr q1 fun (z9:Addr)=>
 .load (Addr.add z9 ((Int.toNat i7) * 1)) (.int .u8) fun (i10:Int)=>
 .ite (decide (i10 > 92)) (
 .leaf 1 [(.int .i64 (IntKind.wrap .i64 (i7+1))),(.bool b8)]) (
 .chk ((0≤i7)∧(i7<(q1_len:Int))) <|
 .ptr q1 fun (z11:Addr)=>
 .load (Addr.add z11 ((Int.toNat i7) * 1)) (.int .u8) fun (i12:Int)=>
 .ite (i12==q2) (
 .ite (!b8) (
 .leaf 0 [(.int .i64 (IntKind.wrap .i64 (i7+1))),(.bool false)]) (
 .loop 2 (.cons (.int .i64) .nil) [(.int .i64 (IntKind.wrap .i64 (i7-1)))]
 (fun z=>jsonparser_stringEndConfig.t4 q1 q1_len i7 b8 z.1))) (
 .ite (i12==92) (
 .leaf 1 [(.int .i64 (IntKind.wrap .i64 (i7+1))),(.bool true)]) (
 .leaf 1 [(.int .i64 (IntKind.wrap .i64 (i7+1))),(.bool b8)])))) (
 .leaf 0 [(.int .i64 (-1)),(.bool b8)])
def jsonparser_stringEndConfig.t2 (q1:(Option Addr)) (q1_len:Nat) (q2:Int) (i6:Int):T:=
 .loop 1 (.cons (.int .i64) (.cons .bool .nil)) [(.int .i64 i6),(.bool false)]
 (fun z=>jsonparser_stringEndConfig.t3 q1 q1_len q2 z.1 z.2.1)
def jsonparser_stringEndConfig.t (q0_0:Bool) (q0_1:Bool) (q0_2:Int) (q1:(Option Addr)) (q1_len:Nat) (q1_cap:Nat) (q2:Int):T:=
 .alloc (Obj.cells #[(.bool q0_0),(.bool q0_1),(.int .i64 q0_2)] 81 (0,0)) fun (z0:Addr)=>
 .cut 1 (.cons (.int .i64) .nil) (
 .loop 2 (.cons (.int .i64) .nil) [(.int .i64 0)]
 (fun z=>jsonparser_stringEndConfig.t1 q1 q1_len q1_cap q2 z.1))
 (fun z=>jsonparser_stringEndConfig.t2 q1 q1_len q2 z.1)
def jsonparser_stringEndConfig.h:Hints:=⟨[],[(0,[(10,(.int .i64))])],[(22,[(89,.bool)])],[(5,[(10,(.int .i64))]),(14,[(10,(.int .i64)),(17,.bool)]),(22,[(19,(.int .i64))])]⟩
noncomputable def jsonparser_stringEndConfig.c:Code:=(Tryz.f80.body).getD .skip
theorem jsonparser_stringEndConfig.e (q0_0:Bool) (q0_1:Bool) (q0_2:Int) (q1:(Option Addr)) (q1_len:Nat) (q1_cap:Nat) (q2:Int):fnT Tryz.prog jsonparser_stringEndConfig.h Tryz.f80 jsonparser_stringEndConfig.c [.v (.agg #[(.bool q0_0),(.bool q0_1),(.int .i64 q0_2)]),.v (.slice q1 q1_len q1_cap),.v (.int .u8 q2)]=jsonparser_stringEndConfig.t q0_0 q0_1 q0_2 q1 q1_len q1_cap q2:=by kernel_rfl
theorem jsonparser_stringEndConfig.calls (q0_0:Bool) (q0_1:Bool) (q0_2:Int) (q1:(Option Addr)) (q1_len:Nat) (q1_cap:Nat) (q2:Int) {w:World} {R:Ending→World→Prop} (hs:sat Tryz.prog (jsonparser_stringEndConfig.t q0_0 q0_1 q0_2 q1 q1_len q1_cap q2) (fun l vs w'=>l=0∧R (.returned (retVal vs)) w') w):Calls Tryz.prog 80 #[(.agg #[(.bool q0_0),(.bool q0_1),(.int .i64 q0_2)]),(.slice q1 q1_len q1_cap),(.int .u8 q2)] w R:=
 have h:=calls_of_tree (w:=w) (R:=R) (args:=[.v (.agg #[(.bool q0_0),(.bool q0_1),(.int .i64 q0_2)]),.v (.slice q1 q1_len q1_cap),.v (.int .u8 q2)]) (c:=jsonparser_stringEndConfig.c) Tryz.func80 (show Tryz.f80.body=some jsonparser_stringEndConfig.c by kernel_rfl) (of_decide_eq_true (by kernel_rfl)) (jsonparser_stringEndConfig.e q0_0 q0_1 q0_2 q1 q1_len q1_cap q2) hs
 h
def jsonparser_getTypeConfig.t3 (q2:Int) (b32:Bool) (b38:Bool):T:=
 .ite b38 (
 .leaf 2 [(.bool b32),(.int .i64 5)]) (
 .drew <|
 .load (Addr.mk 6 0 Option.none) .any fun (v39:Value)=>
 .leaf 0 [(.slice none 0 0),(.int .i64 7),(.int .i64 q2),v39])
def jsonparser_getTypeConfig.t5 (b45:Bool) (i46:Int):T:=
 .leaf 12 [(.bool b45),(.int .i64 i46)]
def jsonparser_getTypeConfig.t6 (b47:Bool) (i48:Int):T:=
 .leaf 11 [(.bool b47),(.int .i64 i48)]
def jsonparser_getTypeConfig.t7 (b49:Bool) (i50:Int):T:=
 .leaf 10 [(.bool b49),(.int .i64 i50)]
def jsonparser_getTypeConfig.t8 (b51:Bool) (i52:Int):T:=
 .leaf 9 [(.bool b51),(.int .i64 i52)]
def jsonparser_getTypeConfig.t9 (b53:Bool) (i54:Int):T:=
 .leaf 8 [(.bool b53),(.int .i64 i54)]
def jsonparser_getTypeConfig.t10 (b55:Bool) (i56:Int):T:=
 .leaf 7 [(.bool b55),(.int .i64 i56)]
def jsonparser_getTypeConfig.t11 (b57:Bool) (i58:Int):T:=
 .leaf 6 [(.bool b57),(.int .i64 i58)]
def jsonparser_getTypeConfig.t12 (b59:Bool) (i60:Int):T:=
 .leaf 5 [(.bool b59),(.int .i64 i60)]
def jsonparser_getTypeConfig.t13 (b61:Bool) (i62:Int):T:=
 .leaf 4 [(.bool b61),(.int .i64 i62)]
def jsonparser_getTypeConfig.t15 (b40:Bool) (i67:Int):T:=
 .leaf 3 [(.bool b40),(.int .i64 i67)]
def jsonparser_getTypeConfig.t14 (q2:Int) (b40:Bool) (b63:Bool):T:=
 .cut 4 (.cons .bool (.cons (.int .i64) .nil)) (
 .ite b63 (
 .leaf 4 [(.bool b63),(.int .i64 2)]) (
 .drew <|
 .load (Addr.mk 6 0 Option.none) .any fun (v65:Value)=>
 .leaf 0 [(.slice none 0 0),(.int .i64 7),(.int .i64 q2),v65]))
 (fun z=>jsonparser_getTypeConfig.t15 b40 z.2.1)
def jsonparser_getTypeConfig.t16 (b32:Bool) (i69:Int):T:=
 .leaf 2 [(.bool b32),(.int .i64 i69)]
def jsonparser_getTypeConfig.t4 (q1:(Option Addr)) (q1_cap:Nat) (q2:Int) (i29:Int) (i31:Int) (b32:Bool) (b40:Bool) (i41:Int):T:=
 .cut 3 (.cons .bool (.cons (.int .i64) .nil)) (
 .ite b40 (
 .eff (convert 59 9 (.slice (if (q1_cap=(Int.toNat q2)) then q1 else (Option.map (fun (y42:Addr)=>(Addr.add y42 ((Int.toNat q2) * 1))) q1)) ((Int.toNat (IntKind.wrap .i64 (q2+i29)))-(Int.toNat q2)) (q1_cap-(Int.toNat q2)))) .str fun (s43:ByteArray)=>
 .ite (strEq s43 (ByteArray.mk #[(110:UInt8),(117:UInt8),(108:UInt8),(108:UInt8)])) (
 .leaf 3 [(.bool b40),(.int .i64 6)]) (
 .drew <|
 .load (Addr.mk 6 0 Option.none) .any fun (v44:Value)=>
 .leaf 0 [(.slice none 0 0),(.int .i64 7),(.int .i64 q2),v44])) (
 .cut 4 (.cons .bool (.cons (.int .i64) .nil)) (
 .ite (i31==48) (
 .leaf 4 [(.bool (i31==48)),(.int .i64 i41)]) (
 .cut 5 (.cons .bool (.cons (.int .i64) .nil)) (
 .ite (i31==49) (
 .leaf 5 [(.bool (i31==49)),(.int .i64 i41)]) (
 .cut 6 (.cons .bool (.cons (.int .i64) .nil)) (
 .ite (i31==50) (
 .leaf 6 [(.bool (i31==50)),(.int .i64 i41)]) (
 .cut 7 (.cons .bool (.cons (.int .i64) .nil)) (
 .ite (i31==51) (
 .leaf 7 [(.bool (i31==51)),(.int .i64 i41)]) (
 .cut 8 (.cons .bool (.cons (.int .i64) .nil)) (
 .ite (i31==52) (
 .leaf 8 [(.bool (i31==52)),(.int .i64 i41)]) (
 .cut 9 (.cons .bool (.cons (.int .i64) .nil)) (
 .ite (i31==53) (
 .leaf 9 [(.bool (i31==53)),(.int .i64 i41)]) (
 .cut 10 (.cons .bool (.cons (.int .i64) .nil)) (
 .ite (i31==54) (
 .leaf 10 [(.bool (i31==54)),(.int .i64 i41)]) (
 .cut 11 (.cons .bool (.cons (.int .i64) .nil)) (
 .ite (i31==55) (
 .leaf 11 [(.bool (i31==55)),(.int .i64 i41)]) (
 .cut 12 (.cons .bool (.cons (.int .i64) .nil)) (
 .ite (i31==56) (
 .leaf 12 [(.bool (i31==56)),(.int .i64 i41)]) (
 .cut 13 (.cons .bool (.cons (.int .i64) .nil)) (
 .ite (i31==57) (
 .leaf 13 [(.bool (i31==57)),(.int .i64 i41)]) (
 .leaf 13 [(.bool (i31==45)),(.int .i64 i41)]))
 (fun z=>jsonparser_getTypeConfig.t5 z.1 z.2.1)))
 (fun z=>jsonparser_getTypeConfig.t6 z.1 z.2.1)))
 (fun z=>jsonparser_getTypeConfig.t7 z.1 z.2.1)))
 (fun z=>jsonparser_getTypeConfig.t8 z.1 z.2.1)))
 (fun z=>jsonparser_getTypeConfig.t9 z.1 z.2.1)))
 (fun z=>jsonparser_getTypeConfig.t10 z.1 z.2.1)))
 (fun z=>jsonparser_getTypeConfig.t11 z.1 z.2.1)))
 (fun z=>jsonparser_getTypeConfig.t12 z.1 z.2.1)))
 (fun z=>jsonparser_getTypeConfig.t13 z.1 z.2.1)))
 (fun z=>jsonparser_getTypeConfig.t14 q2 b40 z.1)))
 (fun z=>jsonparser_getTypeConfig.t16 b32 z.2.1)
def jsonparser_getTypeConfig.t17 (i71:Int):T:=
 .leaf 1 [(.int .i64 i71)]
def jsonparser_getTypeConfig.t2 (q1:(Option Addr)) (q1_cap:Nat) (q2:Int) (i29:Int) (i31:Int) (b32:Bool) (i33:Int):T:=
 .cut 2 (.cons .bool (.cons (.int .i64) .nil)) (
 .ite b32 (
 .cut 3 (.cons .bool .nil) (
 .eff (convert 59 9 (.slice (if (q1_cap=(Int.toNat q2)) then q1 else (Option.map (fun (y34:Addr)=>(Addr.add y34 ((Int.toNat q2) * 1))) q1)) ((Int.toNat (IntKind.wrap .i64 (q2+i29)))-(Int.toNat q2)) (q1_cap-(Int.toNat q2)))) .str fun (s35:ByteArray)=>
 .ite (strEq s35 (ByteArray.mk #[(116:UInt8),(114:UInt8),(117:UInt8),(101:UInt8)])) (
 .leaf 3 [(.bool true)]) (
 .eff (convert 59 9 (.slice (if (q1_cap=(Int.toNat q2)) then q1 else (Option.map (fun (y36:Addr)=>(Addr.add y36 ((Int.toNat q2) * 1))) q1)) ((Int.toNat (IntKind.wrap .i64 (q2+i29)))-(Int.toNat q2)) (q1_cap-(Int.toNat q2)))) .str fun (s37:ByteArray)=>
 .leaf 3 [(.bool (strEq s37 (ByteArray.mk #[(102:UInt8),(97:UInt8),(108:UInt8),(115:UInt8),(101:UInt8)])))]))
 (fun z=>jsonparser_getTypeConfig.t3 q2 b32 z.1)) (
 .cut 3 (.cons .bool (.cons (.int .i64) .nil)) (
 .ite (i31==117) (
 .leaf 3 [(.bool (i31==117)),(.int .i64 i33)]) (
 .leaf 3 [(.bool (i31==110)),(.int .i64 i33)]))
 (fun z=>jsonparser_getTypeConfig.t4 q1 q1_cap q2 i29 i31 b32 z.1 z.2.1)))
 (fun z=>jsonparser_getTypeConfig.t17 z.2.1)
def jsonparser_getTypeConfig.t18 (q1:(Option Addr)) (q1_cap:Nat) (q2:Int) (i29:Int) (i72:Int):T:=
 .chk ((0≤q2)∧((q2≤(IntKind.wrap .i64 (q2+i29)))∧((IntKind.wrap .i64 (q2+i29))≤(q1_cap:Int)))) <|
 .leaf 0 [(.slice (if (q1_cap=(Int.toNat q2)) then q1 else (Option.map (fun (y73:Addr)=>(Addr.add y73 ((Int.toNat q2) * 1))) q1)) ((Int.toNat (IntKind.wrap .i64 (q2+i29)))-(Int.toNat q2)) (q1_cap-(Int.toNat q2))),(.int .i64 i72),(.int .i64 (IntKind.wrap .i64 (q2+i29))),Value.nilIface]
def jsonparser_getTypeConfig.t1 (q1:(Option Addr)) (q1_len:Nat) (q1_cap:Nat) (q2:Int) (z0:Addr) (b6:Bool):T:=
 .ite b6 (
 .drew <|
 .effQ (Instr.loadAt 81 (.pointer (some z0))) (.agg (.cons .bool (.cons .bool (.cons (.int .i64) .nil)))) fun (z7:(Bool×(Bool×(Int×PUnit))))=>
 .chk ((0≤(IntKind.wrap .i64 (q2+1)))∧(((IntKind.wrap .i64 (q2+1))≤(q1_len:Int))∧((q1_len:Int)≤(q1_cap:Int)))) <|
 .chk ((0≤q2)∧(q2<(q1_len:Int))) <|
 .ptr q1 fun (z8:Addr)=>
 .load (Addr.add z8 ((Int.toNat q2) * 1)) (.int .u8) fun (i9:Int)=>
 .call 80 #[(.agg #[(.bool z7.1),(.bool z7.2.1),(.int .i64 z7.2.2.1)]),(.slice (if (q1_cap=(Int.toNat (IntKind.wrap .i64 (q2+1)))) then q1 else (Option.map (fun (y10:Addr)=>(Addr.add y10 ((Int.toNat (IntKind.wrap .i64 (q2+1))) * 1))) q1)) ((Int.toNat (q1_len:Int))-(Int.toNat (IntKind.wrap .i64 (q2+1)))) (q1_cap-(Int.toNat (IntKind.wrap .i64 (q2+1))))),(.int .u8 i9)] (.tuple (.cons (.int .i64) (.cons .bool .nil))) fun (z11:(Int×(Bool×PUnit)))=>
 .ite (z11.1 != (-1)) (
 .chk ((0≤q2)∧((q2≤(IntKind.wrap .i64 (q2+(IntKind.wrap .i64 (z11.1+1)))))∧((IntKind.wrap .i64 (q2+(IntKind.wrap .i64 (z11.1+1))))≤(q1_cap:Int)))) <|
 .leaf 0 [(.slice (if (q1_cap=(Int.toNat q2)) then q1 else (Option.map (fun (y12:Addr)=>(Addr.add y12 ((Int.toNat q2) * 1))) q1)) ((Int.toNat (IntKind.wrap .i64 (q2+(IntKind.wrap .i64 (z11.1+1)))))-(Int.toNat q2)) (q1_cap-(Int.toNat q2))),(.int .i64 1),(.int .i64 (IntKind.wrap .i64 (q2+(IntKind.wrap .i64 (z11.1+1))))),Value.nilIface]) (
 .drew <|
 .load (Addr.mk 4 0 Option.none) .any fun (v13:Value)=>
 .leaf 0 [(.slice none 0 0),(.int .i64 1),(.int .i64 q2),v13])) (
 .chk ((0≤q2)∧(q2<(q1_len:Int))) <|
 .ptr q1 fun (z14:Addr)=>
 .load (Addr.add z14 ((Int.toNat q2) * 1)) (.int .u8) fun (i15:Int)=>
 .ite (i15==91) (
 .drew <|
 .effS (Instr.loadAt 81 (.pointer (some z0))) (.agg (.cons .bool (.cons .bool (.cons (.int .i64) .nil)))) fun (z16:(Bool×(Bool×(Int×PUnit))))=>
 .chk ((0≤q2)∧((q2≤(q1_len:Int))∧((q1_len:Int)≤(q1_cap:Int)))) <|
 .call 68 #[(.agg #[(.bool z16.1),(.bool z16.2.1),(.int .i64 z16.2.2.1)]),(.slice (if (q1_cap=(Int.toNat q2)) then q1 else (Option.map (fun (y17:Addr)=>(Addr.add y17 ((Int.toNat q2) * 1))) q1)) ((Int.toNat (q1_len:Int))-(Int.toNat q2)) (q1_cap-(Int.toNat q2))),(.int .u8 91),(.int .u8 93)] (.int .i64) fun (i18:Int)=>
 .ite (i18==(-1)) (
 .drew <|
 .load (Addr.mk 2 0 Option.none) .any fun (v19:Value)=>
 .leaf 0 [(.slice none 0 0),(.int .i64 4),(.int .i64 q2),v19]) (
 .chk ((0≤q2)∧((q2≤(IntKind.wrap .i64 (i18+q2)))∧((IntKind.wrap .i64 (i18+q2))≤(q1_cap:Int)))) <|
 .leaf 0 [(.slice (if (q1_cap=(Int.toNat q2)) then q1 else (Option.map (fun (y20:Addr)=>(Addr.add y20 ((Int.toNat q2) * 1))) q1)) ((Int.toNat (IntKind.wrap .i64 (i18+q2)))-(Int.toNat q2)) (q1_cap-(Int.toNat q2))),(.int .i64 4),(.int .i64 (IntKind.wrap .i64 (i18+q2))),Value.nilIface])) (
 .chk ((0≤q2)∧(q2<(q1_len:Int))) <|
 .ptr q1 fun (z21:Addr)=>
 .load (Addr.add z21 ((Int.toNat q2) * 1)) (.int .u8) fun (i22:Int)=>
 .ite (i22==123) (
 .drew <|
 .effS (Instr.loadAt 81 (.pointer (some z0))) (.agg (.cons .bool (.cons .bool (.cons (.int .i64) .nil)))) fun (z23:(Bool×(Bool×(Int×PUnit))))=>
 .chk ((0≤q2)∧((q2≤(q1_len:Int))∧((q1_len:Int)≤(q1_cap:Int)))) <|
 .call 68 #[(.agg #[(.bool z23.1),(.bool z23.2.1),(.int .i64 z23.2.2.1)]),(.slice (if (q1_cap=(Int.toNat q2)) then q1 else (Option.map (fun (y24:Addr)=>(Addr.add y24 ((Int.toNat q2) * 1))) q1)) ((Int.toNat (q1_len:Int))-(Int.toNat q2)) (q1_cap-(Int.toNat q2))),(.int .u8 123),(.int .u8 125)] (.int .i64) fun (i25:Int)=>
 .ite (i25==(-1)) (
 .drew <|
 .load (Addr.mk 5 0 Option.none) .any fun (v26:Value)=>
 .leaf 0 [(.slice none 0 0),(.int .i64 3),(.int .i64 q2),v26]) (
 .chk ((0≤q2)∧((q2≤(IntKind.wrap .i64 (i25+q2)))∧((IntKind.wrap .i64 (i25+q2))≤(q1_cap:Int)))) <|
 .leaf 0 [(.slice (if (q1_cap=(Int.toNat q2)) then q1 else (Option.map (fun (y27:Addr)=>(Addr.add y27 ((Int.toNat q2) * 1))) q1)) ((Int.toNat (IntKind.wrap .i64 (i25+q2)))-(Int.toNat q2)) (q1_cap-(Int.toNat q2))),(.int .i64 3),(.int .i64 (IntKind.wrap .i64 (i25+q2))),Value.nilIface])) (
 .chk ((0≤q2)∧((q2≤(q1_len:Int))∧((q1_len:Int)≤(q1_cap:Int)))) <|
 .call 71 #[(.slice (if (q1_cap=(Int.toNat q2)) then q1 else (Option.map (fun (y28:Addr)=>(Addr.add y28 ((Int.toNat q2) * 1))) q1)) ((Int.toNat (q1_len:Int))-(Int.toNat q2)) (q1_cap-(Int.toNat q2)))] (.int .i64) fun (i29:Int)=>
 .chk ((0≤q2)∧((q2≤(IntKind.wrap .i64 (q2+i29)))∧((IntKind.wrap .i64 (q2+i29))≤(q1_cap:Int)))) <|
 .chk ((0≤q2)∧(q2<(q1_len:Int))) <|
 .ptr q1 fun (z30:Addr)=>
 .load (Addr.add z30 ((Int.toNat q2) * 1)) (.int .u8) fun (i31:Int)=>
 .cut 1 (.cons (.int .i64) .nil) (
 .cut 2 (.cons .bool (.cons (.int .i64) .nil)) (
 .ite (i31==116) (
 .leaf 2 [(.bool (i31==116)),(.int .i64 0)]) (
 .leaf 2 [(.bool (i31==102)),(.int .i64 0)]))
 (fun z=>jsonparser_getTypeConfig.t2 q1 q1_cap q2 i29 i31 z.1 z.2.1))
 (fun z=>jsonparser_getTypeConfig.t18 q1 q1_cap q2 i29 z.1))))
def jsonparser_getTypeConfig.t (q0_0:Bool) (q0_1:Bool) (q0_2:Int) (q1:(Option Addr)) (q1_len:Nat) (q1_cap:Nat) (q2:Int):T:=
 .alloc (Obj.cells #[(.bool q0_0),(.bool q0_1),(.int .i64 q0_2)] 81 (0,0)) fun (z0:Addr)=>
 .cut 1 (.cons .bool .nil) (
 .chk ((0≤q2)∧(q2<(q1_len:Int))) <|
 .ptr q1 fun (z1:Addr)=>
 .load (Addr.add z1 ((Int.toNat q2) * 1)) (.int .u8) fun (i2:Int)=>
 .ite (i2==34) (
 .leaf 1 [(.bool true)]) (
 .load (Addr.add z0 0) .bool fun (b3:Bool)=>
 .ite b3 (
 .chk ((0≤q2)∧(q2<(q1_len:Int))) <|
 .ptr q1 fun (z4:Addr)=>
 .load (Addr.add z4 ((Int.toNat q2) * 1)) (.int .u8) fun (i5:Int)=>
 .leaf 1 [(.bool (i5==39))]) (
 .leaf 1 [(.bool false)])))
 (fun z=>jsonparser_getTypeConfig.t1 q1 q1_len q1_cap q2 z0 z.1)
def jsonparser_getTypeConfig.h:Hints:=⟨[(107,[(107,.bool),(10,(.int .i64))]),(120,[(120,.bool),(10,(.int .i64))]),(128,[(128,.bool),(10,(.int .i64))])],[(0,[(10,(.int .i64))])],[(3,[(32,.bool)]),(27,[(117,.bool)])],[]⟩
noncomputable def jsonparser_getTypeConfig.c:Code:=(Tryz.f79.body).getD .skip
theorem jsonparser_getTypeConfig.e (q0_0:Bool) (q0_1:Bool) (q0_2:Int) (q1:(Option Addr)) (q1_len:Nat) (q1_cap:Nat) (q2:Int):fnT Tryz.prog jsonparser_getTypeConfig.h Tryz.f79 jsonparser_getTypeConfig.c [.v (.agg #[(.bool q0_0),(.bool q0_1),(.int .i64 q0_2)]),.v (.slice q1 q1_len q1_cap),.v (.int .i64 q2)]=jsonparser_getTypeConfig.t q0_0 q0_1 q0_2 q1 q1_len q1_cap q2:=by kernel_rfl
theorem jsonparser_getTypeConfig.calls (q0_0:Bool) (q0_1:Bool) (q0_2:Int) (q1:(Option Addr)) (q1_len:Nat) (q1_cap:Nat) (q2:Int) {w:World} {R:Ending→World→Prop} (hs:sat Tryz.prog (jsonparser_getTypeConfig.t q0_0 q0_1 q0_2 q1 q1_len q1_cap q2) (fun l vs w'=>l=0∧R (.returned (retVal vs)) w') w):Calls Tryz.prog 79 #[(.agg #[(.bool q0_0),(.bool q0_1),(.int .i64 q0_2)]),(.slice q1 q1_len q1_cap),(.int .i64 q2)] w R:=
 have h:=calls_of_tree (w:=w) (R:=R) (args:=[.v (.agg #[(.bool q0_0),(.bool q0_1),(.int .i64 q0_2)]),.v (.slice q1 q1_len q1_cap),.v (.int .i64 q2)]) (c:=jsonparser_getTypeConfig.c) Tryz.func79 (show Tryz.f79.body=some jsonparser_getTypeConfig.c by kernel_rfl) (of_decide_eq_true (by kernel_rfl)) (jsonparser_getTypeConfig.e q0_0 q0_1 q0_2 q1 q1_len q1_cap q2) hs
 h
def jsonparser_tokenEnd.t1 (data:(Option Addr)) (data_len:Nat) (i0:Int):T:=
 .ite (decide (i0<(data_len:Int))) (
 .chk ((0≤i0)∧(i0<(data_len:Int))) <|
 .ptr data fun (z1:Addr)=>
 .load (Addr.add z1 ((Int.toNat i0) * 1)) (.int .u8) fun (i2:Int)=>
 .ite (i2 != 32) (
 .ite (i2 != 10) (
 .ite (i2 != 13) (
 .ite (i2 != 9) (
 .ite (i2 != 44) (
 .ite (i2 != 125) (
 .ite (i2 != 93) (
 .leaf 1 [(.int .i64 (IntKind.wrap .i64 (i0+1)))]) (
 .leaf 0 [(.int .i64 i0)])) (
 .leaf 0 [(.int .i64 i0)])) (
 .leaf 0 [(.int .i64 i0)])) (
 .leaf 0 [(.int .i64 i0)])) (
 .leaf 0 [(.int .i64 i0)])) (
 .leaf 0 [(.int .i64 i0)])) (
 .leaf 0 [(.int .i64 i0)])) (
 .leaf 0 [(.int .i64 (data_len:Int))])
def jsonparser_tokenEnd.t (data:(Option Addr)) (data_len:Nat) (data_cap:Nat):T:=
 .loop 1 (.cons (.int .i64) .nil) [(.int .i64 0)]
 (fun z=>jsonparser_tokenEnd.t1 data data_len z.1)
def jsonparser_tokenEnd.h:Hints:=⟨[],[],[],[(2,[(7,(.int .i64))])]⟩
noncomputable def jsonparser_tokenEnd.c:Code:=(Tryz.f71.body).getD .skip
theorem jsonparser_tokenEnd.e (data:(Option Addr)) (data_len:Nat) (data_cap:Nat):fnT Tryz.prog jsonparser_tokenEnd.h Tryz.f71 jsonparser_tokenEnd.c [.v (.slice data data_len data_cap)]=jsonparser_tokenEnd.t data data_len data_cap:=by kernel_rfl
theorem jsonparser_tokenEnd.calls (data:(Option Addr)) (data_len:Nat) (data_cap:Nat) {w:World} {R:Ending→World→Prop} (hs:sat Tryz.prog (jsonparser_tokenEnd.t data data_len data_cap) (fun l vs w'=>l=0∧R (.returned (retVal vs)) w') w):Calls Tryz.prog 71 #[(.slice data data_len data_cap)] w R:=
 have h:=calls_of_tree (w:=w) (R:=R) (args:=[.v (.slice data data_len data_cap)]) (c:=jsonparser_tokenEnd.c) Tryz.func71 (show Tryz.f71.body=some jsonparser_tokenEnd.c by kernel_rfl) (of_decide_eq_true (by kernel_rfl)) (jsonparser_tokenEnd.e data data_len data_cap) hs
 h
def jsonparser_internalGetConfig.t2 (i4:Int) (i7:Int) (z10:((Option Addr×Nat×Nat)×(Int×(Int×(Value×PUnit))))) (z12:(Option Addr×Nat×Nat)):T:=
 .eff (Instr.sliceAt 59 (.slice z12.1 z12.2.1 z12.2.2) none (some (.int .i64 (z12.2.1:Int))) (some (.int .i64 (z12.2.1:Int)))) .slice fun (z13:(Option Addr×Nat×Nat))=>
 .leaf 0 [(.slice z13.1 z13.2.1 z13.2.2),(.int .i64 z10.2.1),(.int .i64 (IntKind.wrap .i64 (i4+i7))),(.int .i64 z10.2.2.1),Value.nilIface]
def jsonparser_internalGetConfig.t1 (q1:(Option Addr)) (q1_len:Nat) (q1_cap:Nat) (z0:Addr) (i4:Int):T:=
 .drew <|
 .effS (Instr.loadAt 81 (.pointer (some z0))) (.agg (.cons .bool (.cons .bool (.cons (.int .i64) .nil)))) fun (z5:(Bool×(Bool×(Int×PUnit))))=>
 .chk ((0≤i4)∧((i4≤(q1_len:Int))∧((q1_len:Int)≤(q1_cap:Int)))) <|
 .call 66 #[(.agg #[(.bool z5.1),(.bool z5.2.1),(.int .i64 z5.2.2.1)]),(.slice (if (q1_cap=(Int.toNat i4)) then q1 else (Option.map (fun (y6:Addr)=>(Addr.add y6 ((Int.toNat i4) * 1))) q1)) ((Int.toNat (q1_len:Int))-(Int.toNat i4)) (q1_cap-(Int.toNat i4)))] (.int .i64) fun (i7:Int)=>
 .ite (i7==(-1)) (
 .drew <|
 .load (Addr.mk 3 0 Option.none) .any fun (v8:Value)=>
 .leaf 0 [(.slice none 0 0),(.int .i64 0),(.int .i64 i4),(.int .i64 (-1)),v8]) (
 .eff (Instr.loadAt 81 (.pointer (some z0))) (.agg (.cons .bool (.cons .bool (.cons (.int .i64) .nil)))) fun (z9:(Bool×(Bool×(Int×PUnit))))=>
 .call 79 #[(.agg #[(.bool z9.1),(.bool z9.2.1),(.int .i64 z9.2.2.1)]),(.slice q1 q1_len q1_cap),(.int .i64 (IntKind.wrap .i64 (i4+i7)))] (.tuple (.cons .slice (.cons (.int .i64) (.cons (.int .i64) (.cons .any .nil))))) fun (z10:((Option Addr×Nat×Nat)×(Int×(Int×(Value×PUnit)))))=>
 .chk ((isIface z10.2.2.2.1)=true) <|
 .ite (!(isNil z10.2.2.2.1)) (
 .leaf 0 [(.slice z10.1.1 z10.1.2.1 z10.1.2.2),(.int .i64 z10.2.1),(.int .i64 (IntKind.wrap .i64 (i4+i7))),(.int .i64 z10.2.2.1),z10.2.2.2.1]) (
 .cut 1 (.cons .slice .nil) (
 .ite (z10.2.1==1) (
 .chk (((0 :Int)≤(1 :Int))∧((1≤(IntKind.wrap .i64 ((z10.1.2.1:Int)-1)))∧((IntKind.wrap .i64 ((z10.1.2.1:Int)-1))≤(z10.1.2.2:Int)))) <|
 .leaf 1 [(.slice (if (z10.1.2.2=1) then z10.1.1 else (Option.map (fun (y11:Addr)=>(Addr.add y11 1)) z10.1.1)) ((Int.toNat (IntKind.wrap .i64 ((z10.1.2.1:Int)-1)))-1) (z10.1.2.2-1))]) (
 .leaf 1 [(.slice z10.1.1 z10.1.2.1 z10.1.2.2)]))
 (fun z=>jsonparser_internalGetConfig.t2 i4 i7 z10 z.1)))
def jsonparser_internalGetConfig.t (q0_0:Bool) (q0_1:Bool) (q0_2:Int) (q1:(Option Addr)) (q1_len:Nat) (q1_cap:Nat) (q2:(Option Addr)) (q2_len:Nat) (q2_cap:Nat):T:=
 .alloc (Obj.cells #[(.bool q0_0),(.bool q0_1),(.int .i64 q0_2)] 81 (0,0)) fun (z0:Addr)=>
 .cut 1 (.cons (.int .i64) .nil) (
 .ite (decide ((q2_len:Int) > 0)) (
 .eff (Instr.loadAt 81 (.pointer (some z0))) (.agg (.cons .bool (.cons .bool (.cons (.int .i64) .nil)))) fun (z1:(Bool×(Bool×(Int×PUnit))))=>
 .call 78 #[(.agg #[(.bool z1.1),(.bool z1.2.1),(.int .i64 z1.2.2.1)]),(.slice q1 q1_len q1_cap),(.slice q2 q2_len q2_cap)] (.int .i64) fun (i2:Int)=>
 .ite (i2==(-1)) (
 .drew <|
 .load (Addr.mk 1 0 Option.none) .any fun (v3:Value)=>
 .leaf 0 [(.slice none 0 0),(.int .i64 0),(.int .i64 (-1)),(.int .i64 (-1)),v3]) (
 .leaf 1 [(.int .i64 i2)])) (
 .leaf 1 [(.int .i64 0)]))
 (fun z=>jsonparser_internalGetConfig.t1 q1 q1_len q1_cap z0 z.1)
def jsonparser_internalGetConfig.h:Hints:=⟨[(14,[(8,(.int .i64))]),(51,[(6,.slice)])],[],[],[]⟩
noncomputable def jsonparser_internalGetConfig.c:Code:=(Tryz.f65.body).getD .skip
theorem jsonparser_internalGetConfig.e (q0_0:Bool) (q0_1:Bool) (q0_2:Int) (q1:(Option Addr)) (q1_len:Nat) (q1_cap:Nat) (q2:(Option Addr)) (q2_len:Nat) (q2_cap:Nat):fnT Tryz.prog jsonparser_internalGetConfig.h Tryz.f65 jsonparser_internalGetConfig.c [.v (.agg #[(.bool q0_0),(.bool q0_1),(.int .i64 q0_2)]),.v (.slice q1 q1_len q1_cap),.v (.slice q2 q2_len q2_cap)]=jsonparser_internalGetConfig.t q0_0 q0_1 q0_2 q1 q1_len q1_cap q2 q2_len q2_cap:=by kernel_rfl
theorem jsonparser_internalGetConfig.calls (q0_0:Bool) (q0_1:Bool) (q0_2:Int) (q1:(Option Addr)) (q1_len:Nat) (q1_cap:Nat) (q2:(Option Addr)) (q2_len:Nat) (q2_cap:Nat) {w:World} {R:Ending→World→Prop} (hs:sat Tryz.prog (jsonparser_internalGetConfig.t q0_0 q0_1 q0_2 q1 q1_len q1_cap q2 q2_len q2_cap) (fun l vs w'=>l=0∧R (.returned (retVal vs)) w') w):Calls Tryz.prog 65 #[(.agg #[(.bool q0_0),(.bool q0_1),(.int .i64 q0_2)]),(.slice q1 q1_len q1_cap),(.slice q2 q2_len q2_cap)] w R:=
 have h:=calls_of_tree (w:=w) (R:=R) (args:=[.v (.agg #[(.bool q0_0),(.bool q0_1),(.int .i64 q0_2)]),.v (.slice q1 q1_len q1_cap),.v (.slice q2 q2_len q2_cap)]) (c:=jsonparser_internalGetConfig.c) Tryz.func65 (show Tryz.f65.body=some jsonparser_internalGetConfig.c by kernel_rfl) (of_decide_eq_true (by kernel_rfl)) (jsonparser_internalGetConfig.e q0_0 q0_1 q0_2 q1 q1_len q1_cap q2 q2_len q2_cap) hs
 h
def jsonparser_Config_Get.t (c0_0:Bool) (c0_1:Bool) (c0_2:Int) (data:(Option Addr)) (data_len:Nat) (data_cap:Nat) (keys:(Option Addr)) (keys_len:Nat) (keys_cap:Nat):T:=
 .alloc (Obj.cells #[(.bool c0_0),(.bool c0_1),(.int .i64 c0_2)] 81 (0,0)) fun (z0:Addr)=>
 .eff (Instr.loadAt 81 (.pointer (some z0))) (.agg (.cons .bool (.cons .bool (.cons (.int .i64) .nil)))) fun (z1:(Bool×(Bool×(Int×PUnit))))=>
 .call 65 #[(.agg #[(.bool z1.1),(.bool z1.2.1),(.int .i64 z1.2.2.1)]),(.slice data data_len data_cap),(.slice keys keys_len keys_cap)] (.tuple (.cons .slice (.cons (.int .i64) (.cons (.int .i64) (.cons (.int .i64) (.cons .any .nil)))))) fun (z2:((Option Addr×Nat×Nat)×(Int×(Int×(Int×(Value×PUnit))))))=>
 .leaf 0 [(.slice z2.1.1 z2.1.2.1 z2.1.2.2),(.int .i64 z2.2.1),(.int .i64 z2.2.2.2.1),z2.2.2.2.2.1]
def jsonparser_Config_Get.h:Hints:=⟨[],[],[],[]⟩
noncomputable def jsonparser_Config_Get.c:Code:=(Tryz.f94.body).getD .skip
theorem jsonparser_Config_Get.e (c0_0:Bool) (c0_1:Bool) (c0_2:Int) (data:(Option Addr)) (data_len:Nat) (data_cap:Nat) (keys:(Option Addr)) (keys_len:Nat) (keys_cap:Nat):fnT Tryz.prog jsonparser_Config_Get.h Tryz.f94 jsonparser_Config_Get.c [.v (.agg #[(.bool c0_0),(.bool c0_1),(.int .i64 c0_2)]),.v (.slice data data_len data_cap),.v (.slice keys keys_len keys_cap)]=jsonparser_Config_Get.t c0_0 c0_1 c0_2 data data_len data_cap keys keys_len keys_cap:=by kernel_rfl
theorem jsonparser_Config_Get.calls (c0_0:Bool) (c0_1:Bool) (c0_2:Int) (data:(Option Addr)) (data_len:Nat) (data_cap:Nat) (keys:(Option Addr)) (keys_len:Nat) (keys_cap:Nat) {w:World} {R:Ending→World→Prop} (hs:sat Tryz.prog (jsonparser_Config_Get.t c0_0 c0_1 c0_2 data data_len data_cap keys keys_len keys_cap) (fun l vs w'=>l=0∧R (.returned (retVal vs)) w') w):Calls Tryz.prog 94 #[(.agg #[(.bool c0_0),(.bool c0_1),(.int .i64 c0_2)]),(.slice data data_len data_cap),(.slice keys keys_len keys_cap)] w R:=
 have h:=calls_of_tree (w:=w) (R:=R) (args:=[.v (.agg #[(.bool c0_0),(.bool c0_1),(.int .i64 c0_2)]),.v (.slice data data_len data_cap),.v (.slice keys keys_len keys_cap)]) (c:=jsonparser_Config_Get.c) Tryz.func94 (show Tryz.f94.body=some jsonparser_Config_Get.c by kernel_rfl) (of_decide_eq_true (by kernel_rfl)) (jsonparser_Config_Get.e c0_0 c0_1 c0_2 data data_len data_cap keys keys_len keys_cap) hs
 h
def jsonparser_arrayEachConfig.t3 (q1:(Option Addr)) (q1_len:Nat) (q1_cap:Nat) (q2:Value) (z0:Addr) (i26:Int):T:=
 .drew <|
 .effQ (Instr.loadAt 81 (.pointer (some z0))) (.agg (.cons .bool (.cons .bool (.cons (.int .i64) .nil)))) fun (z27:(Bool×(Bool×(Int×PUnit))))=>
 .chk ((0≤i26)∧((i26≤(q1_len:Int))∧((q1_len:Int)≤(q1_cap:Int)))) <|
 .call 94 #[(.agg #[(.bool z27.1),(.bool z27.2.1),(.int .i64 z27.2.2.1)]),(.slice (if (q1_cap=(Int.toNat i26)) then q1 else (Option.map (fun (y28:Addr)=>(Addr.add y28 ((Int.toNat i26) * 1))) q1)) ((Int.toNat (q1_len:Int))-(Int.toNat i26)) (q1_cap-(Int.toNat i26))),(.slice none 0 0)] (.tuple (.cons .slice (.cons (.int .i64) (.cons (.int .i64) (.cons .any .nil))))) fun (z29:((Option Addr×Nat×Nat)×(Int×(Int×(Value×PUnit)))))=>
 .ite (z29.2.2.1==0) (
 .leaf 0 [(.int .i64 i26),z29.2.2.2.1]) (
 .callD q2 #[(.slice z29.1.1 z29.1.2.1 z29.1.2.2),(.int .i64 z29.2.1),(.int .i64 (IntKind.wrap .i64 ((IntKind.wrap .i64 (i26+z29.2.2.1))-(z29.1.2.1:Int)))),z29.2.2.2.1] (.tuple .nil) fun _=>
 .chk ((isIface z29.2.2.2.1)=true) <|
 .ite (!(isNil z29.2.2.2.1)) (
 .leaf 0 [(.int .i64 i26),z29.2.2.2.1]) (
 .drew <|
 .effS (Instr.loadAt 81 (.pointer (some z0))) (.agg (.cons .bool (.cons .bool (.cons (.int .i64) .nil)))) fun (z30:(Bool×(Bool×(Int×PUnit))))=>
 .chk ((0≤(IntKind.wrap .i64 (i26+z29.2.2.1)))∧(((IntKind.wrap .i64 (i26+z29.2.2.1))≤(q1_len:Int))∧((q1_len:Int)≤(q1_cap:Int)))) <|
 .call 66 #[(.agg #[(.bool z30.1),(.bool z30.2.1),(.int .i64 z30.2.2.1)]),(.slice (if (q1_cap=(Int.toNat (IntKind.wrap .i64 (i26+z29.2.2.1)))) then q1 else (Option.map (fun (y31:Addr)=>(Addr.add y31 ((Int.toNat (IntKind.wrap .i64 (i26+z29.2.2.1))) * 1))) q1)) ((Int.toNat (q1_len:Int))-(Int.toNat (IntKind.wrap .i64 (i26+z29.2.2.1)))) (q1_cap-(Int.toNat (IntKind.wrap .i64 (i26+z29.2.2.1)))))] (.int .i64) fun (i32:Int)=>
 .ite (i32==(-1)) (
 .drew <|
 .load (Addr.mk 2 0 Option.none) .any fun (v33:Value)=>
 .leaf 0 [(.int .i64 (IntKind.wrap .i64 (i26+z29.2.2.1))),v33]) (
 .chk ((0≤(IntKind.wrap .i64 ((IntKind.wrap .i64 (i26+z29.2.2.1))+i32)))∧((IntKind.wrap .i64 ((IntKind.wrap .i64 (i26+z29.2.2.1))+i32))<(q1_len:Int))) <|
 .ptr q1 fun (z34:Addr)=>
 .load (Addr.add z34 ((Int.toNat (IntKind.wrap .i64 ((IntKind.wrap .i64 (i26+z29.2.2.1))+i32))) * 1)) (.int .u8) fun (i35:Int)=>
 .ite (i35==93) (
 .leaf 0 [(.int .i64 (IntKind.wrap .i64 ((IntKind.wrap .i64 (i26+z29.2.2.1))+i32))),Value.nilIface]) (
 .chk ((0≤(IntKind.wrap .i64 ((IntKind.wrap .i64 (i26+z29.2.2.1))+i32)))∧((IntKind.wrap .i64 ((IntKind.wrap .i64 (i26+z29.2.2.1))+i32))<(q1_len:Int))) <|
 .ptr q1 fun (z36:Addr)=>
 .load (Addr.add z36 ((Int.toNat (IntKind.wrap .i64 ((IntKind.wrap .i64 (i26+z29.2.2.1))+i32))) * 1)) (.int .u8) fun (i37:Int)=>
 .ite (i37 != 44) (
 .drew <|
 .load (Addr.mk 2 0 Option.none) .any fun (v38:Value)=>
 .leaf 0 [(.int .i64 (IntKind.wrap .i64 ((IntKind.wrap .i64 (i26+z29.2.2.1))+i32))),v38]) (
 .leaf 1 [(.int .i64 (IntKind.wrap .i64 ((IntKind.wrap .i64 ((IntKind.wrap .i64 (i26+z29.2.2.1))+i32))+1)))])))))
def jsonparser_arrayEachConfig.t2 (q1:(Option Addr)) (q1_len:Nat) (q1_cap:Nat) (q2:Value) (z0:Addr) (i19:Int):T:=
 .drew <|
 .effS (Instr.loadAt 81 (.pointer (some z0))) (.agg (.cons .bool (.cons .bool (.cons (.int .i64) .nil)))) fun (z20:(Bool×(Bool×(Int×PUnit))))=>
 .chk ((0≤i19)∧((i19≤(q1_len:Int))∧((q1_len:Int)≤(q1_cap:Int)))) <|
 .call 66 #[(.agg #[(.bool z20.1),(.bool z20.2.1),(.int .i64 z20.2.2.1)]),(.slice (if (q1_cap=(Int.toNat i19)) then q1 else (Option.map (fun (y21:Addr)=>(Addr.add y21 ((Int.toNat i19) * 1))) q1)) ((Int.toNat (q1_len:Int))-(Int.toNat i19)) (q1_cap-(Int.toNat i19)))] (.int .i64) fun (i22:Int)=>
 .ite (i22==(-1)) (
 .drew <|
 .load (Addr.mk 3 0 Option.none) .any fun (v23:Value)=>
 .leaf 0 [(.int .i64 i19),v23]) (
 .chk ((0≤(IntKind.wrap .i64 (i19+i22)))∧((IntKind.wrap .i64 (i19+i22))<(q1_len:Int))) <|
 .ptr q1 fun (z24:Addr)=>
 .load (Addr.add z24 ((Int.toNat (IntKind.wrap .i64 (i19+i22))) * 1)) (.int .u8) fun (i25:Int)=>
 .ite (i25==93) (
 .leaf 0 [(.int .i64 (IntKind.wrap .i64 (i19+i22))),Value.nilIface]) (
 .loop 1 (.cons (.int .i64) .nil) [(.int .i64 (IntKind.wrap .i64 (i19+i22)))]
 (fun z=>jsonparser_arrayEachConfig.t3 q1 q1_len q1_cap q2 z0 z.1)))
def jsonparser_arrayEachConfig.t1 (q1:(Option Addr)) (q1_len:Nat) (q1_cap:Nat) (q2:Value) (q3:(Option Addr)) (q3_len:Nat) (q3_cap:Nat) (z0:Addr) (i3:Int) (b7:Bool):T:=
 .ite b7 (
 .drew <|
 .load (Addr.mk 2 0 Option.none) .any fun (v8:Value)=>
 .leaf 0 [(.int .i64 (-1)),v8]) (
 .cut 1 (.cons (.int .i64) .nil) (
 .ite (decide ((q3_len:Int) > 0)) (
 .eff (Instr.loadAt 81 (.pointer (some z0))) (.agg (.cons .bool (.cons .bool (.cons (.int .i64) .nil)))) fun (z9:(Bool×(Bool×(Int×PUnit))))=>
 .call 78 #[(.agg #[(.bool z9.1),(.bool z9.2.1),(.int .i64 z9.2.2.1)]),(.slice q1 q1_len q1_cap),(.slice q3 q3_len q3_cap)] (.int .i64) fun (i10:Int)=>
 .ite (i10==(-1)) (
 .drew <|
 .load (Addr.mk 1 0 Option.none) .any fun (v11:Value)=>
 .leaf 0 [(.int .i64 i10),v11]) (
 .drew <|
 .effS (Instr.loadAt 81 (.pointer (some z0))) (.agg (.cons .bool (.cons .bool (.cons (.int .i64) .nil)))) fun (z12:(Bool×(Bool×(Int×PUnit))))=>
 .chk ((0≤i10)∧((i10≤(q1_len:Int))∧((q1_len:Int)≤(q1_cap:Int)))) <|
 .call 66 #[(.agg #[(.bool z12.1),(.bool z12.2.1),(.int .i64 z12.2.2.1)]),(.slice (if (q1_cap=(Int.toNat i10)) then q1 else (Option.map (fun (y13:Addr)=>(Addr.add y13 ((Int.toNat i10) * 1))) q1)) ((Int.toNat (q1_len:Int))-(Int.toNat i10)) (q1_cap-(Int.toNat i10)))] (.int .i64) fun (i14:Int)=>
 .ite (i14==(-1)) (
 .drew <|
 .load (Addr.mk 3 0 Option.none) .any fun (v15:Value)=>
 .leaf 0 [(.int .i64 i10),v15]) (
 .chk ((0≤(IntKind.wrap .i64 (i10+i14)))∧((IntKind.wrap .i64 (i10+i14))<(q1_len:Int))) <|
 .ptr q1 fun (z16:Addr)=>
 .load (Addr.add z16 ((Int.toNat (IntKind.wrap .i64 (i10+i14))) * 1)) (.int .u8) fun (i17:Int)=>
 .ite (i17 != 91) (
 .drew <|
 .load (Addr.mk 2 0 Option.none) .any fun (v18:Value)=>
 .leaf 0 [(.int .i64 (IntKind.wrap .i64 (i10+i14))),v18]) (
 .leaf 1 [(.int .i64 (IntKind.wrap .i64 ((IntKind.wrap .i64 (i10+i14))+1)))])))) (
 .leaf 1 [(.int .i64 (IntKind.wrap .i64 (i3+1)))]))
 (fun z=>jsonparser_arrayEachConfig.t2 q1 q1_len q1_cap q2 z0 z.1))
def jsonparser_arrayEachConfig.t (q0_0:Bool) (q0_1:Bool) (q0_2:Int) (q1:(Option Addr)) (q1_len:Nat) (q1_cap:Nat) (q2:Value) (q3:(Option Addr)) (q3_len:Nat) (q3_cap:Nat):T:=
 .alloc (Obj.cells #[(.bool q0_0),(.bool q0_1),(.int .i64 q0_2)] 81 (0,0)) fun (z0:Addr)=>
 .ite ((q1_len:Int)==0) (
 .drew <|
 .load (Addr.mk 5 0 Option.none) .any fun (v1:Value)=>
 .leaf 0 [(.int .i64 (-1)),v1]) (
 .eff (Instr.loadAt 81 (.pointer (some z0))) (.agg (.cons .bool (.cons .bool (.cons (.int .i64) .nil)))) fun (z2:(Bool×(Bool×(Int×PUnit))))=>
 .call 66 #[(.agg #[(.bool z2.1),(.bool z2.2.1),(.int .i64 z2.2.2.1)]),(.slice q1 q1_len q1_cap)] (.int .i64) fun (i3:Int)=>
 .ite (i3==(-1)) (
 .drew <|
 .load (Addr.mk 3 0 Option.none) .any fun (v4:Value)=>
 .leaf 0 [(.int .i64 (-1)),v4]) (
 .cut 1 (.cons .bool .nil) (
 .ite ((q3_len:Int)==0) (
 .chk ((0≤i3)∧(i3<(q1_len:Int))) <|
 .ptr q1 fun (z5:Addr)=>
 .load (Addr.add z5 ((Int.toNat i3) * 1)) (.int .u8) fun (i6:Int)=>
 .leaf 1 [(.bool (i6 != 91))]) (
 .leaf 1 [(.bool false)]))
 (fun z=>jsonparser_arrayEachConfig.t1 q1 q1_len q1_cap q2 q3 q3_len q3_cap z0 i3 z.1)))
def jsonparser_arrayEachConfig.h:Hints:=⟨[(43,[(8,(.int .i64))])],[],[(6,[(37,.bool)])],[(26,[(8,(.int .i64))])]⟩
noncomputable def jsonparser_arrayEachConfig.c:Code:=(Tryz.f87.body).getD .skip
theorem jsonparser_arrayEachConfig.e (q0_0:Bool) (q0_1:Bool) (q0_2:Int) (q1:(Option Addr)) (q1_len:Nat) (q1_cap:Nat) (q2:Value) (q3:(Option Addr)) (q3_len:Nat) (q3_cap:Nat):fnT Tryz.prog jsonparser_arrayEachConfig.h Tryz.f87 jsonparser_arrayEachConfig.c [.v (.agg #[(.bool q0_0),(.bool q0_1),(.int .i64 q0_2)]),.v (.slice q1 q1_len q1_cap),.o q2,.v (.slice q3 q3_len q3_cap)]=jsonparser_arrayEachConfig.t q0_0 q0_1 q0_2 q1 q1_len q1_cap q2 q3 q3_len q3_cap:=by kernel_rfl
theorem jsonparser_arrayEachConfig.calls (q0_0:Bool) (q0_1:Bool) (q0_2:Int) (q1:(Option Addr)) (q1_len:Nat) (q1_cap:Nat) (q2:Value) (q3:(Option Addr)) (q3_len:Nat) (q3_cap:Nat) {w:World} {R:Ending→World→Prop} (hs:sat Tryz.prog (jsonparser_arrayEachConfig.t q0_0 q0_1 q0_2 q1 q1_len q1_cap q2 q3 q3_len q3_cap) (fun l vs w'=>l=0∧R (.returned (retVal vs)) w') w):Calls Tryz.prog 87 #[(.agg #[(.bool q0_0),(.bool q0_1),(.int .i64 q0_2)]),(.slice q1 q1_len q1_cap),q2,(.slice q3 q3_len q3_cap)] w R:=
 have h:=calls_of_tree (w:=w) (R:=R) (args:=[.v (.agg #[(.bool q0_0),(.bool q0_1),(.int .i64 q0_2)]),.v (.slice q1 q1_len q1_cap),.o q2,.v (.slice q3 q3_len q3_cap)]) (c:=jsonparser_arrayEachConfig.c) Tryz.func87 (show Tryz.f87.body=some jsonparser_arrayEachConfig.c by kernel_rfl) (of_decide_eq_true (by kernel_rfl)) (jsonparser_arrayEachConfig.e q0_0 q0_1 q0_2 q1 q1_len q1_cap q2 q3 q3_len q3_cap) hs
 h
def jsonparser_searchKeysConfig.t2 (z1:Addr) (z2:(Option Addr×Nat×Nat)) (i8:Int):T:=
 .ite (decide (i8<(z2.2.1:Int))) (
 .load z1 .slice fun (z9:(Option Addr×Nat×Nat))=>
 .chk ((0≤i8)∧(i8<(z9.2.1:Int))) <|
 .ptr z9.1 fun (z10:Addr)=>
 .load (Addr.add z10 ((Int.toNat i8) * 1)) (.int .u8) fun (i11:Int)=>
 .ite (decide (i11≤32)) (
 .leaf 3 [(.int .i64 (IntKind.wrap .i64 (i8+1)))]) (
 .ite (decide (i11 > 92)) (
 .ite (i11 != 123) (
 .ite (i11 != 125) (
 .leaf 3 [(.int .i64 (IntKind.wrap .i64 (i8+1)))]) (
 .leaf 2 [(.int .i64 i8)])) (
 .leaf 2 [(.int .i64 i8)])) (
 .leaf 2 [(.int .i64 i8)]))) (
 .leaf 2 [(.int .i64 i8)])
def jsonparser_searchKeysConfig.t6 (q2:(Option Addr)) (q2_len:Nat) (b16:Bool) (i17:Int) (i18:Int) (i20:Int) (z29:(Int×(Bool×PUnit))) (i33:Int) (z38:Addr):T:=
 .ite (decide (i18≤(q2_len:Int))) (
 .chk ((0≤(IntKind.wrap .i64 (i18-1)))∧((IntKind.wrap .i64 (i18-1))<(q2_len:Int))) <|
 .ptr q2 fun (z44:Addr)=>
 .load (Addr.add z44 ((Int.toNat (IntKind.wrap .i64 (i18-1))) * 1)) .str fun (s45:ByteArray)=>
 .call 85 #[(.pointer (some z38)),(.string s45)] .bool fun (b46:Bool)=>
 .ite b46 (
 .ite (i17==(IntKind.wrap .i64 (i18-1))) (
 .ite ((IntKind.wrap .i64 (i17+1))==(q2_len:Int)) (
 .leaf 0 [(.int .i64 (IntKind.wrap .i64 ((IntKind.wrap .i64 ((IntKind.wrap .i64 ((IntKind.wrap .i64 (i20+1))+z29.1))+i33))+1)))]) (
 .leaf 2 [(.bool b16),(.int .i64 (IntKind.wrap .i64 (i17+1))),(.int .i64 i18),(.bool true),(.int .i64 (IntKind.wrap .i64 ((IntKind.wrap .i64 ((IntKind.wrap .i64 (i20+1))+z29.1))+i33)))])) (
 .leaf 2 [(.bool b16),(.int .i64 i17),(.int .i64 i18),(.bool true),(.int .i64 (IntKind.wrap .i64 ((IntKind.wrap .i64 ((IntKind.wrap .i64 (i20+1))+z29.1))+i33)))])) (
 .leaf 2 [(.bool b16),(.int .i64 i17),(.int .i64 i18),(.bool false),(.int .i64 (IntKind.wrap .i64 ((IntKind.wrap .i64 ((IntKind.wrap .i64 (i20+1))+z29.1))+i33)))])) (
 .leaf 0 [(.int .i64 (-1))])
def jsonparser_searchKeysConfig.t5 (q2:(Option Addr)) (q2_len:Nat) (z0:Addr) (z1:Addr) (z3:Addr) (b16:Bool) (i17:Int) (i18:Int) (b19:Bool) (i20:Int) (i23:Int) (b25:Bool):T:=
 .ite b25 (
 .leaf 1 [(.int .i64 (IntKind.wrap .i64 (i20+1))),(.int .i64 i17),(.int .i64 i18),(.bool b19)]) (
 .drew <|
 .effQ (Instr.loadAt 81 (.pointer (some z0))) (.agg (.cons .bool (.cons .bool (.cons (.int .i64) .nil)))) fun (z26:(Bool×(Bool×(Int×PUnit))))=>
 .load z1 .slice fun (z27:(Option Addr×Nat×Nat))=>
 .chk ((0≤(IntKind.wrap .i64 (i20+1)))∧(((IntKind.wrap .i64 (i20+1))≤(z27.2.1:Int))∧((z27.2.1:Int)≤(z27.2.2:Int)))) <|
 .call 80 #[(.agg #[(.bool z26.1),(.bool z26.2.1),(.int .i64 z26.2.2.1)]),(.slice (if (z27.2.2=(Int.toNat (IntKind.wrap .i64 (i20+1)))) then z27.1 else (Option.map (fun (y28:Addr)=>(Addr.add y28 ((Int.toNat (IntKind.wrap .i64 (i20+1))) * 1))) z27.1)) ((Int.toNat (z27.2.1:Int))-(Int.toNat (IntKind.wrap .i64 (i20+1)))) (z27.2.2-(Int.toNat (IntKind.wrap .i64 (i20+1))))),(.int .u8 i23)] (.tuple (.cons (.int .i64) (.cons .bool .nil))) fun (z29:(Int×(Bool×PUnit)))=>
 .ite (z29.1==(-1)) (
 .leaf 0 [(.int .i64 (-1))]) (
 .drew <|
 .effS (Instr.loadAt 81 (.pointer (some z0))) (.agg (.cons .bool (.cons .bool (.cons (.int .i64) .nil)))) fun (z30:(Bool×(Bool×(Int×PUnit))))=>
 .load z1 .slice fun (z31:(Option Addr×Nat×Nat))=>
 .chk ((0≤(IntKind.wrap .i64 ((IntKind.wrap .i64 (i20+1))+z29.1)))∧(((IntKind.wrap .i64 ((IntKind.wrap .i64 (i20+1))+z29.1))≤(z31.2.1:Int))∧((z31.2.1:Int)≤(z31.2.2:Int)))) <|
 .call 66 #[(.agg #[(.bool z30.1),(.bool z30.2.1),(.int .i64 z30.2.2.1)]),(.slice (if (z31.2.2=(Int.toNat (IntKind.wrap .i64 ((IntKind.wrap .i64 (i20+1))+z29.1)))) then z31.1 else (Option.map (fun (y32:Addr)=>(Addr.add y32 ((Int.toNat (IntKind.wrap .i64 ((IntKind.wrap .i64 (i20+1))+z29.1))) * 1))) z31.1)) ((Int.toNat (z31.2.1:Int))-(Int.toNat (IntKind.wrap .i64 ((IntKind.wrap .i64 (i20+1))+z29.1)))) (z31.2.2-(Int.toNat (IntKind.wrap .i64 ((IntKind.wrap .i64 (i20+1))+z29.1)))))] (.int .i64) fun (i33:Int)=>
 .ite (i33==(-1)) (
 .leaf 0 [(.int .i64 (-1))]) (
 .load z1 .slice fun (z34:(Option Addr×Nat×Nat))=>
 .chk ((0≤(IntKind.wrap .i64 ((IntKind.wrap .i64 ((IntKind.wrap .i64 (i20+1))+z29.1))+i33)))∧((IntKind.wrap .i64 ((IntKind.wrap .i64 ((IntKind.wrap .i64 (i20+1))+z29.1))+i33))<(z34.2.1:Int))) <|
 .ptr z34.1 fun (z35:Addr)=>
 .load (Addr.add z35 ((Int.toNat (IntKind.wrap .i64 ((IntKind.wrap .i64 ((IntKind.wrap .i64 (i20+1))+z29.1))+i33))) * 1)) (.int .u8) fun (i36:Int)=>
 .ite (i36==58) (
 .ite (decide (i18<1)) (
 .leaf 0 [(.int .i64 (-1))]) (
 .load z1 .slice fun (z37:(Option Addr×Nat×Nat))=>
 .chk ((0≤(IntKind.wrap .i64 (i20+1)))∧(((IntKind.wrap .i64 (i20+1))≤(IntKind.wrap .i64 ((IntKind.wrap .i64 ((IntKind.wrap .i64 (i20+1))+z29.1))-1)))∧((IntKind.wrap .i64 ((IntKind.wrap .i64 ((IntKind.wrap .i64 (i20+1))+z29.1))-1))≤(z37.2.2:Int)))) <|
 .alloc (Obj.cells #[(.slice none 0 0)] 59 (0,0)) fun (z38:Addr)=>
 .cut 3 .nil (
 .ite (!z29.2.1) (
 .store z38 (.slice (if (z37.2.2=(Int.toNat (IntKind.wrap .i64 (i20+1)))) then z37.1 else (Option.map (fun (y39:Addr)=>(Addr.add y39 ((Int.toNat (IntKind.wrap .i64 (i20+1))) * 1))) z37.1)) ((Int.toNat (IntKind.wrap .i64 ((IntKind.wrap .i64 ((IntKind.wrap .i64 (i20+1))+z29.1))-1)))-(Int.toNat (IntKind.wrap .i64 (i20+1)))) (z37.2.2-(Int.toNat (IntKind.wrap .i64 (i20+1))))) <|
 .leaf 3 []) (
 .drew <|
 .effQ (Instr.loadAt 81 (.pointer (some z0))) (.agg (.cons .bool (.cons .bool (.cons (.int .i64) .nil)))) fun (z40:(Bool×(Bool×(Int×PUnit))))=>
 .effQ (Instr.sliceAt 113 (.pointer (some z3)) none none none) .slice fun (z41:(Option Addr×Nat×Nat))=>
 .call 82 #[(.agg #[(.bool z40.1),(.bool z40.2.1),(.int .i64 z40.2.2.1)]),(.slice (if (z37.2.2=(Int.toNat (IntKind.wrap .i64 (i20+1)))) then z37.1 else (Option.map (fun (y42:Addr)=>(Addr.add y42 ((Int.toNat (IntKind.wrap .i64 (i20+1))) * 1))) z37.1)) ((Int.toNat (IntKind.wrap .i64 ((IntKind.wrap .i64 ((IntKind.wrap .i64 (i20+1))+z29.1))-1)))-(Int.toNat (IntKind.wrap .i64 (i20+1)))) (z37.2.2-(Int.toNat (IntKind.wrap .i64 (i20+1))))),(.slice z41.1 z41.2.1 z41.2.2)] (.tuple (.cons .slice (.cons .any .nil))) fun (z43:((Option Addr×Nat×Nat)×(Value×PUnit)))=>
 .chk ((isIface z43.2.1)=true) <|
 .ite (!(isNil z43.2.1)) (
 .leaf 0 [(.int .i64 (-1))]) (
 .store z38 (.slice z43.1.1 z43.1.2.1 z43.1.2.2) <|
 .leaf 3 [])))
 (fun _=>jsonparser_searchKeysConfig.t6 q2 q2_len b16 i17 i18 i20 z29 i33 z38))) (
 .leaf 2 [(.bool b16),(.int .i64 i17),(.int .i64 i18),(.bool b19),(.int .i64 (IntKind.wrap .i64 ((IntKind.wrap .i64 ((IntKind.wrap .i64 ((IntKind.wrap .i64 (i20+1))+z29.1))+i33))-1)))]))))
def jsonparser_searchKeysConfig.t8 (q2:(Option Addr)) (q2_len:Nat) (q2_cap:Nat) (z0:Addr) (z1:Addr) (i18:Int) (i20:Int) (s57:ByteArray) (b62:Bool):T:=
 .ite b62 (
 .leaf 0 [(.int .i64 (-1))]) (
 .chk ((0≤i18)∧(i18<(q2_len:Int))) <|
 .ptr q2 fun (z63:Addr)=>
 .load (Addr.add z63 ((Int.toNat i18) * 1)) .str fun (s64:ByteArray)=>
 .chk (((0 :Int)≤(1 :Int))∧((1≤(IntKind.wrap .i64 (((ByteArray.size s57):Int)-1)))∧((IntKind.wrap .i64 (((ByteArray.size s57):Int)-1))≤((ByteArray.size s64):Int)))) <|
 .call 86 #[(.string (ByteArray.extract s64 1 (Int.toNat (IntKind.wrap .i64 (((ByteArray.size s57):Int)-1)))))] (.tuple (.cons (.int .i64) (.cons .any .nil))) fun (z65:(Int×(Value×PUnit)))=>
 .alloc (Obj.cells #[(.int .i64 0)] 3 (0,0)) fun (z66:Addr)=>
 .store z66 (.int .i64 z65.1) <|
 .chk ((isIface z65.2.1)=true) <|
 .ite (!(isNil z65.2.1)) (
 .leaf 0 [(.int .i64 (-1))]) (
 .alloc (Obj.cells #[(.int .i64 0)] 3 (0,0)) fun (z67:Addr)=>
 .alloc (Obj.cells #[(.slice none 0 0)] 59 (0,0)) fun (z68:Addr)=>
 .alloc (Obj.cells #[(.int .i64 0)] 3 (0,0)) fun (z69:Addr)=>
 .alloc (Obj.cells #[(.int .i64 0)] 3 (0,0)) fun (z70:Addr)=>
 .store z70 (.int .i64 i20) <|
 .drew <|
 .effS (Instr.loadAt 81 (.pointer (some z0))) (.agg (.cons .bool (.cons .bool (.cons (.int .i64) .nil)))) fun (z71:(Bool×(Bool×(Int×PUnit))))=>
 .load z1 .slice fun (z72:(Option Addr×Nat×Nat))=>
 .chk ((0≤i20)∧((i20≤(z72.2.1:Int))∧((z72.2.1:Int)≤(z72.2.2:Int)))) <|
 .call 87 #[(.agg #[(.bool z71.1),(.bool z71.2.1),(.int .i64 z71.2.2.1)]),(.slice (if (z72.2.2=(Int.toNat i20)) then z72.1 else (Option.map (fun (y73:Addr)=>(Addr.add y73 ((Int.toNat i20) * 1))) z72.1)) ((Int.toNat (z72.2.1:Int))-(Int.toNat i20)) (z72.2.2-(Int.toNat i20))),(Value.func (.func 88) #[] #[(.pointer (some z67)),(.pointer (some z66)),(.pointer (some z68)),(.pointer (some z69)),(.pointer (some z1)),(.pointer (some z70))]),(.slice none 0 0)] (.tuple (.cons (.int .i64) (.cons .any .nil))) fun (z74:(Int×(Value×PUnit)))=>
 .load z68 .slice fun (z75:(Option Addr×Nat×Nat))=>
 .ite (Option.isNone z75.1) (
 .leaf 0 [(.int .i64 (-1))]) (
 .drew <|
 .effS (Instr.loadAt 81 (.pointer (some z0))) (.agg (.cons .bool (.cons .bool (.cons (.int .i64) .nil)))) fun (z76:(Bool×(Bool×(Int×PUnit))))=>
 .load z68 .slice fun (z77:(Option Addr×Nat×Nat))=>
 .chk ((0≤(IntKind.wrap .i64 (i18+1)))∧(((IntKind.wrap .i64 (i18+1))≤(q2_len:Int))∧((q2_len:Int)≤(q2_cap:Int)))) <|
 .call 78 #[(.agg #[(.bool z76.1),(.bool z76.2.1),(.int .i64 z76.2.2.1)]),(.slice z77.1 z77.2.1 z77.2.2),(.slice (if (q2_cap=(Int.toNat (IntKind.wrap .i64 (i18+1)))) then q2 else (Option.map (fun (y78:Addr)=>(Addr.add y78 ((Int.toNat (IntKind.wrap .i64 (i18+1))) * 1))) q2)) ((Int.toNat (q2_len:Int))-(Int.toNat (IntKind.wrap .i64 (i18+1)))) (q2_cap-(Int.toNat (IntKind.wrap .i64 (i18+1)))))] (.int .i64) fun (i79:Int)=>
 .ite (decide (i79<0)) (
 .leaf 0 [(.int .i64 (-1))]) (
 .load z69 (.int .i64) fun (i80:Int)=>
 .leaf 0 [(.int .i64 (IntKind.wrap .i64 ((IntKind.wrap .i64 (i20+i80))+i79)))]))))
def jsonparser_searchKeysConfig.t7 (q2:(Option Addr)) (q2_len:Nat) (q2_cap:Nat) (z0:Addr) (z1:Addr) (b16:Bool) (i17:Int) (i18:Int) (b19:Bool) (i20:Int) (b55:Bool):T:=
 .ite b55 (
 .chk ((0≤i18)∧(i18<(q2_len:Int))) <|
 .ptr q2 fun (z56:Addr)=>
 .load (Addr.add z56 ((Int.toNat i18) * 1)) .str fun (s57:ByteArray)=>
 .cut 3 (.cons .bool .nil) (
 .chk ((0≤i18)∧(i18<(q2_len:Int))) <|
 .ptr q2 fun (z58:Addr)=>
 .load (Addr.add z58 ((Int.toNat i18) * 1)) .str fun (s59:ByteArray)=>
 .ite (decide (((ByteArray.size s59):Int)<3)) (
 .leaf 3 [(.bool true)]) (
 .chk ((0≤i18)∧(i18<(q2_len:Int))) <|
 .ptr q2 fun (z60:Addr)=>
 .load (Addr.add z60 ((Int.toNat i18) * 1)) .str fun (s61:ByteArray)=>
 .chk ((0≤(IntKind.wrap .i64 (((ByteArray.size s57):Int)-1)))∧((IntKind.wrap .i64 (((ByteArray.size s57):Int)-1))<((ByteArray.size s61):Int))) <|
 .leaf 3 [(.bool ((bt s61 (IntKind.wrap .i64 (((ByteArray.size s57):Int)-1))) != 93))]))
 (fun z=>jsonparser_searchKeysConfig.t8 q2 q2_len q2_cap z0 z1 i18 i20 s57 z.1)) (
 .drew <|
 .effS (Instr.loadAt 81 (.pointer (some z0))) (.agg (.cons .bool (.cons .bool (.cons (.int .i64) .nil)))) fun (z81:(Bool×(Bool×(Int×PUnit))))=>
 .load z1 .slice fun (z82:(Option Addr×Nat×Nat))=>
 .chk ((0≤i20)∧((i20≤(z82.2.1:Int))∧((z82.2.1:Int)≤(z82.2.2:Int)))) <|
 .call 68 #[(.agg #[(.bool z81.1),(.bool z81.2.1),(.int .i64 z81.2.2.1)]),(.slice (if (z82.2.2=(Int.toNat i20)) then z82.1 else (Option.map (fun (y83:Addr)=>(Addr.add y83 ((Int.toNat i20) * 1))) z82.1)) ((Int.toNat (z82.2.1:Int))-(Int.toNat i20)) (z82.2.2-(Int.toNat i20))),(.int .u8 91),(.int .u8 93)] (.int .i64) fun (i84:Int)=>
 .ite (i84==(-1)) (
 .leaf 0 [(.int .i64 (-1))]) (
 .leaf 2 [(.bool b16),(.int .i64 i17),(.int .i64 i18),(.bool b19),(.int .i64 (IntKind.wrap .i64 (i20+(IntKind.wrap .i64 (i84-1)))))]))
def jsonparser_searchKeysConfig.t9 (i86:Int) (i87:Int) (b88:Bool) (i89:Int):T:=
 .leaf 1 [(.int .i64 (IntKind.wrap .i64 (i89+1))),(.int .i64 i86),(.int .i64 i87),(.bool b88)]
def jsonparser_searchKeysConfig.t4 (q2:(Option Addr)) (q2_len:Nat) (q2_cap:Nat) (z0:Addr) (z1:Addr) (z3:Addr) (i15:Int) (b16:Bool) (i17:Int) (i18:Int) (b19:Bool) (i20:Int):T:=
 .cut 2 (.cons .bool (.cons (.int .i64) (.cons (.int .i64) (.cons .bool (.cons (.int .i64) .nil))))) (
 .ite b16 (
 .load z1 .slice fun (z21:(Option Addr×Nat×Nat))=>
 .chk ((0≤i20)∧(i20<(z21.2.1:Int))) <|
 .ptr z21.1 fun (z22:Addr)=>
 .load (Addr.add z22 ((Int.toNat i20) * 1)) (.int .u8) fun (i23:Int)=>
 .cut 3 (.cons .bool .nil) (
 .ite (i23==39) (
 .load (Addr.add z0 0) .bool fun (b24:Bool)=>
 .leaf 3 [(.bool (!b24))]) (
 .leaf 3 [(.bool false)]))
 (fun z=>jsonparser_searchKeysConfig.t5 q2 q2_len z0 z1 z3 b16 i17 i18 b19 i20 i23 z.1)) (
 .ite (i15==123) (
 .ite (!b19) (
 .drew <|
 .effS (Instr.loadAt 81 (.pointer (some z0))) (.agg (.cons .bool (.cons .bool (.cons (.int .i64) .nil)))) fun (z47:(Bool×(Bool×(Int×PUnit))))=>
 .load z1 .slice fun (z48:(Option Addr×Nat×Nat))=>
 .chk ((0≤i20)∧((i20≤(z48.2.1:Int))∧((z48.2.1:Int)≤(z48.2.2:Int)))) <|
 .call 68 #[(.agg #[(.bool z47.1),(.bool z47.2.1),(.int .i64 z47.2.2.1)]),(.slice (if (z48.2.2=(Int.toNat i20)) then z48.1 else (Option.map (fun (y49:Addr)=>(Addr.add y49 ((Int.toNat i20) * 1))) z48.1)) ((Int.toNat (z48.2.1:Int))-(Int.toNat i20)) (z48.2.2-(Int.toNat i20))),(.int .u8 123),(.int .u8 125)] (.int .i64) fun (i50:Int)=>
 .ite (i50==(-1)) (
 .leaf 0 [(.int .i64 (-1))]) (
 .leaf 2 [(.bool b16),(.int .i64 i17),(.int .i64 i18),(.bool b19),(.int .i64 (IntKind.wrap .i64 (i20+(IntKind.wrap .i64 (i50-1)))))])) (
 .leaf 2 [(.bool b16),(.int .i64 i17),(.int .i64 (IntKind.wrap .i64 (i18+1))),(.bool b19),(.int .i64 i20)])) (
 .ite (i15==125) (
 .ite ((IntKind.wrap .i64 (i18-1))==i17) (
 .leaf 2 [(.bool b16),(.int .i64 (IntKind.wrap .i64 (i17-1))),(.int .i64 (IntKind.wrap .i64 (i18-1))),(.bool b19),(.int .i64 i20)]) (
 .leaf 2 [(.bool b16),(.int .i64 i17),(.int .i64 (IntKind.wrap .i64 (i18-1))),(.bool b19),(.int .i64 i20)])) (
 .ite (i15==91) (
 .cut 3 (.cons .bool .nil) (
 .ite (i17==i18) (
 .chk ((0≤i18)∧(i18<(q2_len:Int))) <|
 .ptr q2 fun (z51:Addr)=>
 .load (Addr.add z51 ((Int.toNat i18) * 1)) .str fun (s52:ByteArray)=>
 .ite (decide (((ByteArray.size s52):Int) > 0)) (
 .chk ((0≤i18)∧(i18<(q2_len:Int))) <|
 .ptr q2 fun (z53:Addr)=>
 .load (Addr.add z53 ((Int.toNat i18) * 1)) .str fun (s54:ByteArray)=>
 .chk (((0 :Int)≤(0 :Int))∧(0<((ByteArray.size s54):Int))) <|
 .leaf 3 [(.bool ((bt s54 0)==91))]) (
 .leaf 3 [(.bool false)])) (
 .leaf 3 [(.bool false)]))
 (fun z=>jsonparser_searchKeysConfig.t7 q2 q2_len q2_cap z0 z1 b16 i17 i18 b19 i20 z.1)) (
 .ite (i15==58) (
 .leaf 0 [(.int .i64 (-1))]) (
 .leaf 2 [(.bool b16),(.int .i64 i17),(.int .i64 i18),(.bool b19),(.int .i64 i20)]))))))
 (fun z=>jsonparser_searchKeysConfig.t9 z.2.1 z.2.2.1 z.2.2.2.1 z.2.2.2.2.1)
def jsonparser_searchKeysConfig.t3 (q2:(Option Addr)) (q2_len:Nat) (q2_cap:Nat) (z0:Addr) (z1:Addr) (z2:(Option Addr×Nat×Nat)) (z3:Addr) (i5:Int) (i6:Int) (b7:Bool) (i12:Int):T:=
 .ite (decide (i12 ≥ (z2.2.1:Int))) (
 .leaf 0 [(.int .i64 (-1))]) (
 .load z1 .slice fun (z13:(Option Addr×Nat×Nat))=>
 .chk ((0≤i12)∧(i12<(z13.2.1:Int))) <|
 .ptr z13.1 fun (z14:Addr)=>
 .load (Addr.add z14 ((Int.toNat i12) * 1)) (.int .u8) fun (i15:Int)=>
 .cut 2 (.cons .bool (.cons (.int .i64) (.cons (.int .i64) (.cons .bool (.cons (.int .i64) .nil))))) (
 .ite (i15==34) (
 .leaf 2 [(.bool (i15==34)),(.int .i64 i5),(.int .i64 i6),(.bool b7),(.int .i64 i12)]) (
 .leaf 2 [(.bool (i15==39)),(.int .i64 i5),(.int .i64 i6),(.bool b7),(.int .i64 i12)]))
 (fun z=>jsonparser_searchKeysConfig.t4 q2 q2_len q2_cap z0 z1 z3 i15 z.1 z.2.1 z.2.2.1 z.2.2.2.1 z.2.2.2.2.1))
def jsonparser_searchKeysConfig.t1 (q2:(Option Addr)) (q2_len:Nat) (q2_cap:Nat) (z0:Addr) (z1:Addr) (z2:(Option Addr×Nat×Nat)) (z3:Addr) (i4:Int) (i5:Int) (i6:Int) (b7:Bool):T:=
 .ite (decide (i4<(z2.2.1:Int))) (
 .cut 2 (.cons (.int .i64) .nil) (
 .loop 3 (.cons (.int .i64) .nil) [(.int .i64 i4)]
 (fun z=>jsonparser_searchKeysConfig.t2 z1 z2 z.1))
 (fun z=>jsonparser_searchKeysConfig.t3 q2 q2_len q2_cap z0 z1 z2 z3 i5 i6 b7 z.1)) (
 .leaf 0 [(.int .i64 (-1))])
def jsonparser_searchKeysConfig.t (q0_0:Bool) (q0_1:Bool) (q0_2:Int) (q1:(Option Addr)) (q1_len:Nat) (q1_cap:Nat) (q2:(Option Addr)) (q2_len:Nat) (q2_cap:Nat):T:=
 .alloc (Obj.cells #[(.bool q0_0),(.bool q0_1),(.int .i64 q0_2)] 81 (0,0)) fun (z0:Addr)=>
 .alloc (Obj.cells #[(.slice q1 q1_len q1_cap)] 59 (0,0)) fun (z1:Addr)=>
 .load z1 .slice fun (z2:(Option Addr×Nat×Nat))=>
 .ite ((q2_len:Int)==0) (
 .leaf 0 [(.int .i64 0)]) (
 .alloc (Obj.cells #[(.int .u8 0),(.int .u8 0),(.int .u8 0),(.int .u8 0),(.int .u8 0),(.int .u8 0),(.int .u8 0),(.int .u8 0),(.int .u8 0),(.int .u8 0),(.int .u8 0),(.int .u8 0),(.int .u8 0),(.int .u8 0),(.int .u8 0),(.int .u8 0),(.int .u8 0),(.int .u8 0),(.int .u8 0),(.int .u8 0),(.int .u8 0),(.int .u8 0),(.int .u8 0),(.int .u8 0),(.int .u8 0),(.int .u8 0),(.int .u8 0),(.int .u8 0),(.int .u8 0),(.int .u8 0),(.int .u8 0),(.int .u8 0),(.int .u8 0),(.int .u8 0),(.int .u8 0),(.int .u8 0),(.int .u8 0),(.int .u8 0),(.int .u8 0),(.int .u8 0),(.int .u8 0),(.int .u8 0),(.int .u8 0),(.int .u8 0),(.int .u8 0),(.int .u8 0),(.int .u8 0),(.int .u8 0),(.int .u8 0),(.int .u8 0),(.int .u8 0),(.int .u8 0),(.int .u8 0),(.int .u8 0),(.int .u8 0),(.int .u8 0),(.int .u8 0),(.int .u8 0),(.int .u8 0),(.int .u8 0),(.int .u8 0),(.int .u8 0),(.int .u8 0),(.int .u8 0)] 113 (0,0)) fun (z3:Addr)=>
 .loop 1 (.cons (.int .i64) (.cons (.int .i64) (.cons (.int .i64) (.cons .bool .nil)))) [(.int .i64 0),(.int .i64 0),(.int .i64 0),(.bool true)]
 (fun z=>jsonparser_searchKeysConfig.t1 q2 q2_len q2_cap z0 z1 z2 z3 z.1 z.2.1 z.2.2.1 z.2.2.2.1))
def jsonparser_searchKeysConfig.h:Hints:=⟨[(74,[(74,.bool),(7,(.int .i64)),(8,(.int .i64)),(12,.bool),(9,(.int .i64))]),(129,[])],[(2,[(9,(.int .i64))])],[(22,[(87,.bool)]),(67,[(210,.bool)]),(69,[(231,.bool)])],[(10,[(9,(.int .i64)),(7,(.int .i64)),(8,(.int .i64)),(12,.bool)]),(11,[(9,(.int .i64))])]⟩
noncomputable def jsonparser_searchKeysConfig.c:Code:=(Tryz.f78.body).getD .skip
theorem jsonparser_searchKeysConfig.e (q0_0:Bool) (q0_1:Bool) (q0_2:Int) (q1:(Option Addr)) (q1_len:Nat) (q1_cap:Nat) (q2:(Option Addr)) (q2_len:Nat) (q2_cap:Nat):fnT Tryz.prog jsonparser_searchKeysConfig.h Tryz.f78 jsonparser_searchKeysConfig.c [.v (.agg #[(.bool q0_0),(.bool q0_1),(.int .i64 q0_2)]),.v (.slice q1 q1_len q1_cap),.v (.slice q2 q2_len q2_cap)]=jsonparser_searchKeysConfig.t q0_0 q0_1 q0_2 q1 q1_len q1_cap q2 q2_len q2_cap:=by kernel_rfl
theorem jsonparser_searchKeysConfig.calls (q0_0:Bool) (q0_1:Bool) (q0_2:Int) (q1:(Option Addr)) (q1_len:Nat) (q1_cap:Nat) (q2:(Option Addr)) (q2_len:Nat) (q2_cap:Nat) {w:World} {R:Ending→World→Prop} (hs:sat Tryz.prog (jsonparser_searchKeysConfig.t q0_0 q0_1 q0_2 q1 q1_len q1_cap q2 q2_len q2_cap) (fun l vs w'=>l=0∧R (.returned (retVal vs)) w') w):Calls Tryz.prog 78 #[(.agg #[(.bool q0_0),(.bool q0_1),(.int .i64 q0_2)]),(.slice q1 q1_len q1_cap),(.slice q2 q2_len q2_cap)] w R:=
 have h:=calls_of_tree (w:=w) (R:=R) (args:=[.v (.agg #[(.bool q0_0),(.bool q0_1),(.int .i64 q0_2)]),.v (.slice q1 q1_len q1_cap),.v (.slice q2 q2_len q2_cap)]) (c:=jsonparser_searchKeysConfig.c) Tryz.func78 (show Tryz.f78.body=some jsonparser_searchKeysConfig.c by kernel_rfl) (of_decide_eq_true (by kernel_rfl)) (jsonparser_searchKeysConfig.e q0_0 q0_1 q0_2 q1 q1_len q1_cap q2 q2_len q2_cap) hs
 h
def jsonparser_searchKeysConfig_1.t (value:(Option Addr)) (value_len:Nat) (value_cap:Nat) (dataType:Int) (offset:Int) (err:Value) (fv0:(Option Addr)) (fv1:(Option Addr)) (fv2:(Option Addr)) (fv3:(Option Addr)) (fv4:(Option Addr)) (fv5:(Option Addr)):T:=
 .ptr fv0 fun (z0:Addr)=>
 .load z0 (.int .i64) fun (i1:Int)=>
 .ptr fv1 fun (z2:Addr)=>
 .load z2 (.int .i64) fun (i3:Int)=>
 .ite (i1==i3) (
 .ptr fv2 fun (z4:Addr)=>
 .store z4 (.slice value value_len value_cap) <|
 .ptr fv3 fun (z5:Addr)=>
 .store z5 (.int .i64 offset) <|
 .ite (dataType==1) (
 .ptr fv3 fun (z6:Addr)=>
 .load z6 (.int .i64) fun (i7:Int)=>
 .ptr fv3 fun (z8:Addr)=>
 .store z8 (.int .i64 (IntKind.wrap .i64 (i7-2))) <|
 .ptr fv4 fun (z9:Addr)=>
 .load z9 .slice fun (z10:(Option Addr×Nat×Nat))=>
 .ptr fv5 fun (z11:Addr)=>
 .load z11 (.int .i64) fun (i12:Int)=>
 .ptr fv3 fun (z13:Addr)=>
 .load z13 (.int .i64) fun (i14:Int)=>
 .ptr fv5 fun (z15:Addr)=>
 .load z15 (.int .i64) fun (i16:Int)=>
 .ptr fv3 fun (z17:Addr)=>
 .load z17 (.int .i64) fun (i18:Int)=>
 .chk ((0≤(IntKind.wrap .i64 (i12+i14)))∧(((IntKind.wrap .i64 (i12+i14))≤(IntKind.wrap .i64 ((IntKind.wrap .i64 ((IntKind.wrap .i64 (i16+i18))+(value_len:Int)))+2)))∧((IntKind.wrap .i64 ((IntKind.wrap .i64 ((IntKind.wrap .i64 (i16+i18))+(value_len:Int)))+2))≤(z10.2.2:Int)))) <|
 .ptr fv2 fun (z19:Addr)=>
 .store z19 (.slice (if (z10.2.2=(Int.toNat (IntKind.wrap .i64 (i12+i14)))) then z10.1 else (Option.map (fun (y20:Addr)=>(Addr.add y20 ((Int.toNat (IntKind.wrap .i64 (i12+i14))) * 1))) z10.1)) ((Int.toNat (IntKind.wrap .i64 ((IntKind.wrap .i64 ((IntKind.wrap .i64 (i16+i18))+(value_len:Int)))+2)))-(Int.toNat (IntKind.wrap .i64 (i12+i14)))) (z10.2.2-(Int.toNat (IntKind.wrap .i64 (i12+i14))))) <|
 .ptr fv0 fun (z21:Addr)=>
 .load z21 (.int .i64) fun (i22:Int)=>
 .ptr fv0 fun (z23:Addr)=>
 .store z23 (.int .i64 (IntKind.wrap .i64 (i22+1))) <|
 .leaf 0 []) (
 .ptr fv0 fun (z24:Addr)=>
 .load z24 (.int .i64) fun (i25:Int)=>
 .ptr fv0 fun (z26:Addr)=>
 .store z26 (.int .i64 (IntKind.wrap .i64 (i25+1))) <|
 .leaf 0 [])) (
 .ptr fv0 fun (z27:Addr)=>
 .load z27 (.int .i64) fun (i28:Int)=>
 .ptr fv0 fun (z29:Addr)=>
 .store z29 (.int .i64 (IntKind.wrap .i64 (i28+1))) <|
 .leaf 0 [])
def jsonparser_searchKeysConfig_1.h:Hints:=⟨[],[],[],[]⟩
noncomputable def jsonparser_searchKeysConfig_1.c:Code:=(Tryz.f88.body).getD .skip
theorem jsonparser_searchKeysConfig_1.e (value:(Option Addr)) (value_len:Nat) (value_cap:Nat) (dataType:Int) (offset:Int) (err:Value) (fv0:(Option Addr)) (fv1:(Option Addr)) (fv2:(Option Addr)) (fv3:(Option Addr)) (fv4:(Option Addr)) (fv5:(Option Addr)):fnT Tryz.prog jsonparser_searchKeysConfig_1.h Tryz.f88 jsonparser_searchKeysConfig_1.c [.v (.slice value value_len value_cap),.v (.int .i64 dataType),.v (.int .i64 offset),.o err,.v (.pointer fv0),.v (.pointer fv1),.v (.pointer fv2),.v (.pointer fv3),.v (.pointer fv4),.v (.pointer fv5)]=jsonparser_searchKeysConfig_1.t value value_len value_cap dataType offset err fv0 fv1 fv2 fv3 fv4 fv5:=by kernel_rfl
theorem jsonparser_searchKeysConfig_1.calls (value:(Option Addr)) (value_len:Nat) (value_cap:Nat) (dataType:Int) (offset:Int) (err:Value) (fv0:(Option Addr)) (fv1:(Option Addr)) (fv2:(Option Addr)) (fv3:(Option Addr)) (fv4:(Option Addr)) (fv5:(Option Addr)) {w:World} {R:Ending→World→Prop} (hs:sat Tryz.prog (jsonparser_searchKeysConfig_1.t value value_len value_cap dataType offset err fv0 fv1 fv2 fv3 fv4 fv5) (fun l vs w'=>l=0∧R (.returned (retVal vs)) w') w):Calls Tryz.prog 88 #[(.slice value value_len value_cap),(.int .i64 dataType),(.int .i64 offset),err,(.pointer fv0),(.pointer fv1),(.pointer fv2),(.pointer fv3),(.pointer fv4),(.pointer fv5)] w R:=
 have h:=calls_of_tree (w:=w) (R:=R) (args:=[.v (.slice value value_len value_cap),.v (.int .i64 dataType),.v (.int .i64 offset),.o err,.v (.pointer fv0),.v (.pointer fv1),.v (.pointer fv2),.v (.pointer fv3),.v (.pointer fv4),.v (.pointer fv5)]) (c:=jsonparser_searchKeysConfig_1.c) Tryz.func88 (show Tryz.f88.body=some jsonparser_searchKeysConfig_1.c by kernel_rfl) (of_decide_eq_true (by kernel_rfl)) (jsonparser_searchKeysConfig_1.e value value_len value_cap dataType offset err fv0 fv1 fv2 fv3 fv4 fv5) hs
 h
def jsonparser_equalStr.t (b:(Option Addr)) (s:ByteArray):T:=
 .ptr b fun (z0:Addr)=>
 .load z0 .slice fun (z1:(Option Addr×Nat×Nat))=>
 .eff (convert 59 9 (.slice z1.1 z1.2.1 z1.2.2)) .str fun (s2:ByteArray)=>
 .leaf 0 [(.bool (strEq s2 s))]
def jsonparser_equalStr.h:Hints:=⟨[],[],[],[]⟩
noncomputable def jsonparser_equalStr.c:Code:=(Tryz.f85.body).getD .skip
theorem jsonparser_equalStr.e (b:(Option Addr)) (s:ByteArray):fnT Tryz.prog jsonparser_equalStr.h Tryz.f85 jsonparser_equalStr.c [.v (.pointer b),.v (.string s)]=jsonparser_equalStr.t b s:=by kernel_rfl
theorem jsonparser_equalStr.calls (b:(Option Addr)) (s:ByteArray) {w:World} {R:Ending→World→Prop} (hs:sat Tryz.prog (jsonparser_equalStr.t b s) (fun l vs w'=>l=0∧R (.returned (retVal vs)) w') w):Calls Tryz.prog 85 #[(.pointer b),(.string s)] w R:=
 have h:=calls_of_tree (w:=w) (R:=R) (args:=[.v (.pointer b),.v (.string s)]) (c:=jsonparser_equalStr.c) Tryz.func85 (show Tryz.f85.body=some jsonparser_equalStr.c by kernel_rfl) (of_decide_eq_true (by kernel_rfl)) (jsonparser_equalStr.e b s) hs
 h
def jsonparser_unescapeConfig.t2 (z0:Addr) (z4:(Option Addr×Nat×Nat)) (z9:(Option Addr×Nat×Nat)) (z10:(Option Addr×Nat×Nat)):T:=
 .eff (Instr.loadAt 81 (.pointer (some z0))) (.agg (.cons .bool (.cons .bool (.cons (.int .i64) .nil)))) fun (z11:(Bool×(Bool×(Int×PUnit))))=>
 .call 91 #[(.agg #[(.bool z11.1),(.bool z11.2.1),(.int .i64 z11.2.2.1)]),(.slice z10.1 z10.2.1 z10.2.2),(.slice z9.1 z9.2.1 z9.2.2)] (.tuple (.cons (.int .i64) (.cons (.int .i64) .nil))) fun (z12:(Int×(Int×PUnit)))=>
 .ite (z12.1==(-1)) (
 .drew <|
 .load (Addr.mk 8 0 Option.none) .any fun (v13:Value)=>
 .leaf 0 [(.slice none 0 0),v13]) (
 .chk ((0≤z12.1)∧((z12.1≤(z10.2.1:Int))∧((z10.2.1:Int)≤(z10.2.2:Int)))) <|
 .chk ((0≤z12.2.1)∧((z12.2.1≤(z9.2.1:Int))∧((z9.2.1:Int)≤(z9.2.2:Int)))) <|
 .call 90 #[(.slice (if (z10.2.2=(Int.toNat z12.1)) then z10.1 else (Option.map (fun (y14:Addr)=>(Addr.add y14 ((Int.toNat z12.1) * 1))) z10.1)) ((Int.toNat (z10.2.1:Int))-(Int.toNat z12.1)) (z10.2.2-(Int.toNat z12.1))),(.int .u8 92)] (.int .i64) fun (i15:Int)=>
 .ite (i15==(-1)) (
 .eff (Builtin.copy_ (Call.argTypes (Call.mk (Callee.builtin Builtin.copy) #[(Operand.tmp 61),(Operand.tmp 62)] #[59,59])) 3 #[(.slice (if (z9.2.2=(Int.toNat z12.2.1)) then z9.1 else (Option.map (fun (y16:Addr)=>(Addr.add y16 ((Int.toNat z12.2.1) * 1))) z9.1)) ((Int.toNat (z9.2.1:Int))-(Int.toNat z12.2.1)) (z9.2.2-(Int.toNat z12.2.1))),(.slice (if (z10.2.2=(Int.toNat z12.1)) then z10.1 else (Option.map (fun (y17:Addr)=>(Addr.add y17 ((Int.toNat z12.1) * 1))) z10.1)) ((Int.toNat (z10.2.1:Int))-(Int.toNat z12.1)) (z10.2.2-(Int.toNat z12.1)))]) (.int .i64) fun (i18:Int)=>
 .chk ((0≤((((Int.toNat (z10.2.1:Int))-(Int.toNat z12.1)):Nat):Int))∧((((((Int.toNat (z10.2.1:Int))-(Int.toNat z12.1)):Nat):Int)≤((((Int.toNat (z9.2.1:Int))-(Int.toNat z12.2.1)):Nat):Int))∧(((((Int.toNat (z9.2.1:Int))-(Int.toNat z12.2.1)):Nat):Int)≤(((z9.2.2-(Int.toNat z12.2.1)):Nat):Int)))) <|
 .chk (((0 :Int)≤(0 :Int))∧((0≤(IntKind.wrap .i64 ((z4.2.1:Int)-((((Int.toNat ((((Int.toNat (z9.2.1:Int))-(Int.toNat z12.2.1)):Nat):Int))-(Int.toNat ((((Int.toNat (z10.2.1:Int))-(Int.toNat z12.1)):Nat):Int))):Nat):Int))))∧((IntKind.wrap .i64 ((z4.2.1:Int)-((((Int.toNat ((((Int.toNat (z9.2.1:Int))-(Int.toNat z12.2.1)):Nat):Int))-(Int.toNat ((((Int.toNat (z10.2.1:Int))-(Int.toNat z12.1)):Nat):Int))):Nat):Int)))≤(z4.2.2:Int)))) <|
 .leaf 0 [(.slice (if (z4.2.2=0) then z4.1 else (Option.map (fun (y19:Addr)=>(Addr.add y19 0)) z4.1)) ((Int.toNat (IntKind.wrap .i64 ((z4.2.1:Int)-((((Int.toNat ((((Int.toNat (z9.2.1:Int))-(Int.toNat z12.2.1)):Nat):Int))-(Int.toNat ((((Int.toNat (z10.2.1:Int))-(Int.toNat z12.1)):Nat):Int))):Nat):Int))))-0) (z4.2.2-0)),Value.nilIface]) (
 .chk (((0 :Int)≤(0 :Int))∧((0≤i15)∧(i15≤(((z10.2.2-(Int.toNat z12.1)):Nat):Int)))) <|
 .eff (Builtin.copy_ (Call.argTypes (Call.mk (Callee.builtin Builtin.copy) #[(Operand.tmp 68),(Operand.tmp 71)] #[59,59])) 3 #[(.slice (if (z9.2.2=(Int.toNat z12.2.1)) then z9.1 else (Option.map (fun (y20:Addr)=>(Addr.add y20 ((Int.toNat z12.2.1) * 1))) z9.1)) ((Int.toNat (z9.2.1:Int))-(Int.toNat z12.2.1)) (z9.2.2-(Int.toNat z12.2.1))),(.slice (if ((z10.2.2-(Int.toNat z12.1))=0) then (if (z10.2.2=(Int.toNat z12.1)) then z10.1 else (Option.map (fun (y21:Addr)=>(Addr.add y21 ((Int.toNat z12.1) * 1))) z10.1)) else (Option.map (fun (y22:Addr)=>(Addr.add y22 0)) (if (z10.2.2=(Int.toNat z12.1)) then z10.1 else (Option.map (fun (y23:Addr)=>(Addr.add y23 ((Int.toNat z12.1) * 1))) z10.1)))) ((Int.toNat i15)-0) ((z10.2.2-(Int.toNat z12.1))-0))]) (.int .i64) fun (i24:Int)=>
 .chk ((0≤i15)∧((i15≤((((Int.toNat (z9.2.1:Int))-(Int.toNat z12.2.1)):Nat):Int))∧(((((Int.toNat (z9.2.1:Int))-(Int.toNat z12.2.1)):Nat):Int)≤(((z9.2.2-(Int.toNat z12.2.1)):Nat):Int)))) <|
 .chk ((0≤i15)∧((i15≤((((Int.toNat (z10.2.1:Int))-(Int.toNat z12.1)):Nat):Int))∧(((((Int.toNat (z10.2.1:Int))-(Int.toNat z12.1)):Nat):Int)≤(((z10.2.2-(Int.toNat z12.1)):Nat):Int)))) <|
 .leaf 1 [(.slice (if ((z9.2.2-(Int.toNat z12.2.1))=(Int.toNat i15)) then (if (z9.2.2=(Int.toNat z12.2.1)) then z9.1 else (Option.map (fun (y25:Addr)=>(Addr.add y25 ((Int.toNat z12.2.1) * 1))) z9.1)) else (Option.map (fun (y26:Addr)=>(Addr.add y26 ((Int.toNat i15) * 1))) (if (z9.2.2=(Int.toNat z12.2.1)) then z9.1 else (Option.map (fun (y27:Addr)=>(Addr.add y27 ((Int.toNat z12.2.1) * 1))) z9.1)))) ((Int.toNat ((((Int.toNat (z9.2.1:Int))-(Int.toNat z12.2.1)):Nat):Int))-(Int.toNat i15)) ((z9.2.2-(Int.toNat z12.2.1))-(Int.toNat i15))),(.slice (if ((z10.2.2-(Int.toNat z12.1))=(Int.toNat i15)) then (if (z10.2.2=(Int.toNat z12.1)) then z10.1 else (Option.map (fun (y28:Addr)=>(Addr.add y28 ((Int.toNat z12.1) * 1))) z10.1)) else (Option.map (fun (y29:Addr)=>(Addr.add y29 ((Int.toNat i15) * 1))) (if (z10.2.2=(Int.toNat z12.1)) then z10.1 else (Option.map (fun (y30:Addr)=>(Addr.add y30 ((Int.toNat z12.1) * 1))) z10.1)))) ((Int.toNat ((((Int.toNat (z10.2.1:Int))-(Int.toNat z12.1)):Nat):Int))-(Int.toNat i15)) ((z10.2.2-(Int.toNat z12.1))-(Int.toNat i15)))]))
def jsonparser_unescapeConfig.t1 (q1:(Option Addr)) (q1_len:Nat) (q1_cap:Nat) (z0:Addr) (i1:Int) (z4:(Option Addr×Nat×Nat)):T:=
 .chk (((0 :Int)≤(0 :Int))∧((0≤i1)∧(i1≤(q1_cap:Int)))) <|
 .eff (Builtin.copy_ (Call.argTypes (Call.mk (Callee.builtin Builtin.copy) #[(Operand.tmp 30),(Operand.tmp 33)] #[59,59])) 3 #[(.slice z4.1 z4.2.1 z4.2.2),(.slice (if (q1_cap=0) then q1 else (Option.map (fun (y5:Addr)=>(Addr.add y5 0)) q1)) ((Int.toNat i1)-0) (q1_cap-0))]) (.int .i64) fun (i6:Int)=>
 .chk ((0≤i1)∧((i1≤(q1_len:Int))∧((q1_len:Int)≤(q1_cap:Int)))) <|
 .chk ((0≤i1)∧((i1≤(z4.2.1:Int))∧((z4.2.1:Int)≤(z4.2.2:Int)))) <|
 .loop 1 (.cons .slice (.cons .slice .nil)) [(.slice (if (z4.2.2=(Int.toNat i1)) then z4.1 else (Option.map (fun (y7:Addr)=>(Addr.add y7 ((Int.toNat i1) * 1))) z4.1)) ((Int.toNat (z4.2.1:Int))-(Int.toNat i1)) (z4.2.2-(Int.toNat i1))),(.slice (if (q1_cap=(Int.toNat i1)) then q1 else (Option.map (fun (y8:Addr)=>(Addr.add y8 ((Int.toNat i1) * 1))) q1)) ((Int.toNat (q1_len:Int))-(Int.toNat i1)) (q1_cap-(Int.toNat i1)))]
 (fun z=>jsonparser_unescapeConfig.t2 z0 z4 z.1 z.2.1)
def jsonparser_unescapeConfig.t (q0_0:Bool) (q0_1:Bool) (q0_2:Int) (q1:(Option Addr)) (q1_len:Nat) (q1_cap:Nat) (q2:(Option Addr)) (q2_len:Nat) (q2_cap:Nat):T:=
 .alloc (Obj.cells #[(.bool q0_0),(.bool q0_1),(.int .i64 q0_2)] 81 (0,0)) fun (z0:Addr)=>
 .call 90 #[(.slice q1 q1_len q1_cap),(.int .u8 92)] (.int .i64) fun (i1:Int)=>
 .ite (i1==(-1)) (
 .leaf 0 [(.slice q1 q1_len q1_cap),Value.nilIface]) (
 .cut 1 (.cons .slice .nil) (
 .ite (decide ((q2_cap:Int)<(q1_len:Int))) (
 .eff (Instr.makeSlice 59 (.int .i64 (q1_len:Int)) (.int .i64 (q1_len:Int))) .slice fun (z2:(Option Addr×Nat×Nat))=>
 .leaf 1 [(.slice z2.1 z2.2.1 z2.2.2)]) (
 .chk (((0 :Int)≤(0 :Int))∧((0≤(q1_len:Int))∧((q1_len:Int)≤(q2_cap:Int)))) <|
 .leaf 1 [(.slice (if (q2_cap=0) then q2 else (Option.map (fun (y3:Addr)=>(Addr.add y3 0)) q2)) ((Int.toNat (q1_len:Int))-0) (q2_cap-0))]))
 (fun z=>jsonparser_unescapeConfig.t1 q1 q1_len q1_cap z0 i1 z.1))
def jsonparser_unescapeConfig.h:Hints:=⟨[(22,[(2,.slice)])],[],[],[(10,[(9,.slice),(1,.slice)])]⟩
noncomputable def jsonparser_unescapeConfig.c:Code:=(Tryz.f82.body).getD .skip
theorem jsonparser_unescapeConfig.e (q0_0:Bool) (q0_1:Bool) (q0_2:Int) (q1:(Option Addr)) (q1_len:Nat) (q1_cap:Nat) (q2:(Option Addr)) (q2_len:Nat) (q2_cap:Nat):fnT Tryz.prog jsonparser_unescapeConfig.h Tryz.f82 jsonparser_unescapeConfig.c [.v (.agg #[(.bool q0_0),(.bool q0_1),(.int .i64 q0_2)]),.v (.slice q1 q1_len q1_cap),.v (.slice q2 q2_len q2_cap)]=jsonparser_unescapeConfig.t q0_0 q0_1 q0_2 q1 q1_len q1_cap q2 q2_len q2_cap:=by kernel_rfl
theorem jsonparser_unescapeConfig.calls (q0_0:Bool) (q0_1:Bool) (q0_2:Int) (q1:(Option Addr)) (q1_len:Nat) (q1_cap:Nat) (q2:(Option Addr)) (q2_len:Nat) (q2_cap:Nat) {w:World} {R:Ending→World→Prop} (hs:sat Tryz.prog (jsonparser_unescapeConfig.t q0_0 q0_1 q0_2 q1 q1_len q1_cap q2 q2_len q2_cap) (fun l vs w'=>l=0∧R (.returned (retVal vs)) w') w):Calls Tryz.prog 82 #[(.agg #[(.bool q0_0),(.bool q0_1),(.int .i64 q0_2)]),(.slice q1 q1_len q1_cap),(.slice q2 q2_len q2_cap)] w R:=
 have h:=calls_of_tree (w:=w) (R:=R) (args:=[.v (.agg #[(.bool q0_0),(.bool q0_1),(.int .i64 q0_2)]),.v (.slice q1 q1_len q1_cap),.v (.slice q2 q2_len q2_cap)]) (c:=jsonparser_unescapeConfig.c) Tryz.func82 (show Tryz.f82.body=some jsonparser_unescapeConfig.c by kernel_rfl) (of_decide_eq_true (by kernel_rfl)) (jsonparser_unescapeConfig.e q0_0 q0_1 q0_2 q1 q1_len q1_cap q2 q2_len q2_cap) hs
 h
def jsonparser_unescapeToUTF8Config.t2 (b6:Bool):T:=
 .leaf 7 [(.bool b6)]
def jsonparser_unescapeToUTF8Config.t3 (b7:Bool):T:=
 .leaf 6 [(.bool b7)]
def jsonparser_unescapeToUTF8Config.t4 (b8:Bool):T:=
 .leaf 5 [(.bool b8)]
def jsonparser_unescapeToUTF8Config.t5 (b9:Bool):T:=
 .leaf 4 [(.bool b9)]
def jsonparser_unescapeToUTF8Config.t6 (b10:Bool):T:=
 .leaf 3 [(.bool b10)]
def jsonparser_unescapeToUTF8Config.t7 (b11:Bool):T:=
 .leaf 2 [(.bool b11)]
def jsonparser_unescapeToUTF8Config.t9 (b12:Bool):T:=
 .leaf 2 [(.bool b12)]
def jsonparser_unescapeToUTF8Config.t10:T:=
 .leaf 1 []
def jsonparser_unescapeToUTF8Config.t8 (q1:(Option Addr)) (q1_len:Nat) (q1_cap:Nat) (q2:(Option Addr)) (q2_len:Nat) (q2_cap:Nat) (z0:Addr) (i5:Int) (b12:Bool):T:=
 .cut 2 (.cons .bool .nil) (
 .ite b12 (
 .chk ((0≤i5)∧(i5<117)) <|
 .load (Addr.add (Addr.mk 9 0 Option.none) ((Int.toNat i5) * 1)) (.int .u8) fun (i13:Int)=>
 .chk (((0 :Int)≤(0 :Int))∧(0<(q2_len:Int))) <|
 .ptr q2 fun (z14:Addr)=>
 .store (Addr.add z14 0) (.int .u8 i13) <|
 .leaf 0 [(.int .i64 2),(.int .i64 1)]) (
 .cut 3 .nil (
 .ite (i5==39) (
 .load (Addr.add z0 0) .bool fun (b15:Bool)=>
 .ite b15 (
 .chk (((0 :Int)≤(0 :Int))∧(0<(q2_len:Int))) <|
 .ptr q2 fun (z16:Addr)=>
 .store (Addr.add z16 0) (.int .u8 i5) <|
 .leaf 0 [(.int .i64 2),(.int .i64 1)]) (
 .leaf 3 [])) (
 .ite (i5==117) (
 .call 96 #[(.slice q1 q1_len q1_cap)] (.tuple (.cons (.int .i32) (.cons (.int .i64) .nil))) fun (z17:(Int×(Int×PUnit)))=>
 .ite (z17.2.1==(-1)) (
 .leaf 0 [(.int .i64 (-1)),(.int .i64 (-1))]) (
 .call 97 #[(.slice q2 q2_len q2_cap),(.int .i32 z17.1)] (.int .i64) fun (i18:Int)=>
 .leaf 0 [(.int .i64 z17.2.1),(.int .i64 i18)])) (
 .leaf 3 [])))
 (fun _=>jsonparser_unescapeToUTF8Config.t9 b12)))
 (fun z=>jsonparser_unescapeToUTF8Config.t10)
def jsonparser_unescapeToUTF8Config.t11 (q1:(Option Addr)) (q1_len:Nat) (q2:(Option Addr)) (q2_len:Nat) (z0:Addr):T:=
 .load (Addr.add z0 1) .bool fun (b20:Bool)=>
 .ite b20 (
 .chk (((0 :Int)≤(1 :Int))∧(1<(q1_len:Int))) <|
 .ptr q1 fun (z21:Addr)=>
 .load (Addr.add z21 1) (.int .u8) fun (i22:Int)=>
 .chk (((0 :Int)≤(0 :Int))∧(0<(q2_len:Int))) <|
 .ptr q2 fun (z23:Addr)=>
 .store (Addr.add z23 0) (.int .u8 i22) <|
 .leaf 0 [(.int .i64 2),(.int .i64 1)]) (
 .leaf 0 [(.int .i64 (-1)),(.int .i64 (-1))])
def jsonparser_unescapeToUTF8Config.t1 (q1:(Option Addr)) (q1_len:Nat) (q1_cap:Nat) (q2:(Option Addr)) (q2_len:Nat) (q2_cap:Nat) (z0:Addr) (b3:Bool):T:=
 .ite b3 (
 .leaf 0 [(.int .i64 (-1)),(.int .i64 (-1))]) (
 .chk (((0 :Int)≤(1 :Int))∧(1<(q1_len:Int))) <|
 .ptr q1 fun (z4:Addr)=>
 .load (Addr.add z4 1) (.int .u8) fun (i5:Int)=>
 .cut 1 .nil (
 .cut 2 (.cons .bool .nil) (
 .ite (i5==34) (
 .leaf 2 [(.bool (i5==34))]) (
 .cut 3 (.cons .bool .nil) (
 .ite (i5==92) (
 .leaf 3 [(.bool (i5==92))]) (
 .cut 4 (.cons .bool .nil) (
 .ite (i5==47) (
 .leaf 4 [(.bool (i5==47))]) (
 .cut 5 (.cons .bool .nil) (
 .ite (i5==98) (
 .leaf 5 [(.bool (i5==98))]) (
 .cut 6 (.cons .bool .nil) (
 .ite (i5==102) (
 .leaf 6 [(.bool (i5==102))]) (
 .cut 7 (.cons .bool .nil) (
 .ite (i5==110) (
 .leaf 7 [(.bool (i5==110))]) (
 .cut 8 (.cons .bool .nil) (
 .ite (i5==114) (
 .leaf 8 [(.bool (i5==114))]) (
 .leaf 8 [(.bool (i5==116))]))
 (fun z=>jsonparser_unescapeToUTF8Config.t2 z.1)))
 (fun z=>jsonparser_unescapeToUTF8Config.t3 z.1)))
 (fun z=>jsonparser_unescapeToUTF8Config.t4 z.1)))
 (fun z=>jsonparser_unescapeToUTF8Config.t5 z.1)))
 (fun z=>jsonparser_unescapeToUTF8Config.t6 z.1)))
 (fun z=>jsonparser_unescapeToUTF8Config.t7 z.1)))
 (fun z=>jsonparser_unescapeToUTF8Config.t8 q1 q1_len q1_cap q2 q2_len q2_cap z0 i5 z.1))
 (fun _=>jsonparser_unescapeToUTF8Config.t11 q1 q1_len q2 q2_len z0))
def jsonparser_unescapeToUTF8Config.t (q0_0:Bool) (q0_1:Bool) (q0_2:Int) (q1:(Option Addr)) (q1_len:Nat) (q1_cap:Nat) (q2:(Option Addr)) (q2_len:Nat) (q2_cap:Nat):T:=
 .alloc (Obj.cells #[(.bool q0_0),(.bool q0_1),(.int .i64 q0_2)] 81 (0,0)) fun (z0:Addr)=>
 .cut 1 (.cons .bool .nil) (
 .ite (decide ((q1_len:Int)<2)) (
 .leaf 1 [(.bool true)]) (
 .chk (((0 :Int)≤(0 :Int))∧(0<(q1_len:Int))) <|
 .ptr q1 fun (z1:Addr)=>
 .load (Addr.add z1 0) (.int .u8) fun (i2:Int)=>
 .leaf 1 [(.bool (i2 != 92))]))
 (fun z=>jsonparser_unescapeToUTF8Config.t1 q1 q1_len q1_cap q2 q2_len q2_cap z0 z.1)
def jsonparser_unescapeToUTF8Config.h:Hints:=⟨[(25,[(25,.bool)]),(39,[])],[(0,[])],[(1,[(20,.bool)])],[]⟩
noncomputable def jsonparser_unescapeToUTF8Config.c:Code:=(Tryz.f91.body).getD .skip
theorem jsonparser_unescapeToUTF8Config.e (q0_0:Bool) (q0_1:Bool) (q0_2:Int) (q1:(Option Addr)) (q1_len:Nat) (q1_cap:Nat) (q2:(Option Addr)) (q2_len:Nat) (q2_cap:Nat):fnT Tryz.prog jsonparser_unescapeToUTF8Config.h Tryz.f91 jsonparser_unescapeToUTF8Config.c [.v (.agg #[(.bool q0_0),(.bool q0_1),(.int .i64 q0_2)]),.v (.slice q1 q1_len q1_cap),.v (.slice q2 q2_len q2_cap)]=jsonparser_unescapeToUTF8Config.t q0_0 q0_1 q0_2 q1 q1_len q1_cap q2 q2_len q2_cap:=by kernel_rfl
theorem jsonparser_unescapeToUTF8Config.calls (q0_0:Bool) (q0_1:Bool) (q0_2:Int) (q1:(Option Addr)) (q1_len:Nat) (q1_cap:Nat) (q2:(Option Addr)) (q2_len:Nat) (q2_cap:Nat) {w:World} {R:Ending→World→Prop} (hs:sat Tryz.prog (jsonparser_unescapeToUTF8Config.t q0_0 q0_1 q0_2 q1 q1_len q1_cap q2 q2_len q2_cap) (fun l vs w'=>l=0∧R (.returned (retVal vs)) w') w):Calls Tryz.prog 91 #[(.agg #[(.bool q0_0),(.bool q0_1),(.int .i64 q0_2)]),(.slice q1 q1_len q1_cap),(.slice q2 q2_len q2_cap)] w R:=
 have h:=calls_of_tree (w:=w) (R:=R) (args:=[.v (.agg #[(.bool q0_0),(.bool q0_1),(.int .i64 q0_2)]),.v (.slice q1 q1_len q1_cap),.v (.slice q2 q2_len q2_cap)]) (c:=jsonparser_unescapeToUTF8Config.c) Tryz.func91 (show Tryz.f91.body=some jsonparser_unescapeToUTF8Config.c by kernel_rfl) (of_decide_eq_true (by kernel_rfl)) (jsonparser_unescapeToUTF8Config.e q0_0 q0_1 q0_2 q1 q1_len q1_cap q2 q2_len q2_cap) hs
 h
def jsonparser_decodeUnicodeEscape.t1 (in0:(Option Addr)) (in0_len:Nat) (in0_cap:Nat) (z0:(Int×(Bool×PUnit))) (b6:Bool):T:=
 .ite b6 (
 .leaf 0 [(.int .i32 65533),(.int .i64 6)]) (
 .chk (((0 :Int)≤(6 :Int))∧((6≤(in0_len:Int))∧((in0_len:Int)≤(in0_cap:Int)))) <|
 .call 103 #[(.slice (if (in0_cap=6) then in0 else (Option.map (fun (y7:Addr)=>(Addr.add y7 6)) in0)) ((Int.toNat (in0_len:Int))-6) (in0_cap-6))] (.tuple (.cons (.int .i32) (.cons .bool .nil))) fun (z8:(Int×(Bool×PUnit)))=>
 .ite (!z8.2.1) (
 .leaf 0 [(.int .i32 65533),(.int .i64 (-1))]) (
 .ite (decide (z8.1<56320)) (
 .leaf 0 [(.int .i32 65533),(.int .i64 6)]) (
 .ite (decide (z8.1 > 57343)) (
 .leaf 0 [(.int .i32 65533),(.int .i64 6)]) (
 .call 105 #[(.int .i32 z0.1),(.int .i32 z8.1)] (.int .i32) fun (i9:Int)=>
 .leaf 0 [(.int .i32 i9),(.int .i64 12)]))))
def jsonparser_decodeUnicodeEscape.t (in0:(Option Addr)) (in0_len:Nat) (in0_cap:Nat):T:=
 .call 103 #[(.slice in0 in0_len in0_cap)] (.tuple (.cons (.int .i32) (.cons .bool .nil))) fun (z0:(Int×(Bool×PUnit)))=>
 .ite (!z0.2.1) (
 .leaf 0 [(.int .i32 65533),(.int .i64 (-1))]) (
 .call 104 #[(.int .i32 z0.1)] .bool fun (b1:Bool)=>
 .ite (!b1) (
 .leaf 0 [(.int .i32 z0.1),(.int .i64 6)]) (
 .ite (decide (z0.1 ≥ 56320)) (
 .leaf 0 [(.int .i32 65533),(.int .i64 6)]) (
 .cut 1 (.cons .bool .nil) (
 .ite (decide ((in0_len:Int)<8)) (
 .leaf 1 [(.bool true)]) (
 .chk (((0 :Int)≤(6 :Int))∧(6<(in0_len:Int))) <|
 .ptr in0 fun (z2:Addr)=>
 .load (Addr.add z2 6) (.int .u8) fun (i3:Int)=>
 .ite (i3 != 92) (
 .leaf 1 [(.bool true)]) (
 .chk (((0 :Int)≤(7 :Int))∧(7<(in0_len:Int))) <|
 .ptr in0 fun (z4:Addr)=>
 .load (Addr.add z4 7) (.int .u8) fun (i5:Int)=>
 .leaf 1 [(.bool (i5 != 117))])))
 (fun z=>jsonparser_decodeUnicodeEscape.t1 in0 in0_len in0_cap z0 z.1))))
def jsonparser_decodeUnicodeEscape.h:Hints:=⟨[],[],[(8,[(35,.bool)])],[]⟩
noncomputable def jsonparser_decodeUnicodeEscape.c:Code:=(Tryz.f96.body).getD .skip
theorem jsonparser_decodeUnicodeEscape.e (in0:(Option Addr)) (in0_len:Nat) (in0_cap:Nat):fnT Tryz.prog jsonparser_decodeUnicodeEscape.h Tryz.f96 jsonparser_decodeUnicodeEscape.c [.v (.slice in0 in0_len in0_cap)]=jsonparser_decodeUnicodeEscape.t in0 in0_len in0_cap:=by kernel_rfl
theorem jsonparser_decodeUnicodeEscape.calls (in0:(Option Addr)) (in0_len:Nat) (in0_cap:Nat) {w:World} {R:Ending→World→Prop} (hs:sat Tryz.prog (jsonparser_decodeUnicodeEscape.t in0 in0_len in0_cap) (fun l vs w'=>l=0∧R (.returned (retVal vs)) w') w):Calls Tryz.prog 96 #[(.slice in0 in0_len in0_cap)] w R:=
 have h:=calls_of_tree (w:=w) (R:=R) (args:=[.v (.slice in0 in0_len in0_cap)]) (c:=jsonparser_decodeUnicodeEscape.c) Tryz.func96 (show Tryz.f96.body=some jsonparser_decodeUnicodeEscape.c by kernel_rfl) (of_decide_eq_true (by kernel_rfl)) (jsonparser_decodeUnicodeEscape.e in0 in0_len in0_cap) hs
 h
def jsonparser_decodeSingleUnicodeEscape.t1 (i9:Int) (i11:Int) (i13:Int) (i14:Int) (b15:Bool):T:=
 .ite b15 (
 .leaf 0 [(.int .i32 65533),(.bool false)]) (
 .chk ((0 :Int)≤(12 :Int)) <|
 .chk ((0 :Int)≤(8 :Int)) <|
 .chk ((0 :Int)≤(4 :Int)) <|
 .leaf 0 [(.int .i32 (IntKind.wrap .i32 (IntKind.wrap .i64 ((IntKind.wrap .i64 ((IntKind.wrap .i64 ((IntKind.wrap .i64 (i9 * 4096))+(IntKind.wrap .i64 (i11 * 256))))+(IntKind.wrap .i64 (i13 * 16))))+i14)))),(.bool true)])
def jsonparser_decodeSingleUnicodeEscape.t (in0:(Option Addr)) (in0_len:Nat) (in0_cap:Nat):T:=
 .ite (decide ((in0_len:Int)<6)) (
 .leaf 0 [(.int .i32 65533),(.bool false)]) (
 .drew <|
 .chk (((0 :Int)≤(2 :Int))∧(2<(in0_len:Int))) <|
 .ptr in0 fun (z0:Addr)=>
 .load (Addr.add z0 2) (.int .u8) fun (i1:Int)=>
 .chk (((0 :Int)≤(3 :Int))∧(3<(in0_len:Int))) <|
 .ptr in0 fun (z2:Addr)=>
 .load (Addr.add z2 3) (.int .u8) fun (i3:Int)=>
 .chk (((0 :Int)≤(4 :Int))∧(4<(in0_len:Int))) <|
 .ptr in0 fun (z4:Addr)=>
 .load (Addr.add z4 4) (.int .u8) fun (i5:Int)=>
 .chk (((0 :Int)≤(5 :Int))∧(5<(in0_len:Int))) <|
 .ptr in0 fun (z6:Addr)=>
 .load (Addr.add z6 5) (.int .u8) fun (i7:Int)=>
 .here fun (z8:World)=>
 .call 111 #[(.int .u8 i1)] (.int .i64) fun (i9:Int)=>
 .grew z8 <|
 .here fun (z10:World)=>
 .call 111 #[(.int .u8 i3)] (.int .i64) fun (i11:Int)=>
 .grew z10 <|
 .here fun (z12:World)=>
 .call 111 #[(.int .u8 i5)] (.int .i64) fun (i13:Int)=>
 .grew z12 <|
 .call 111 #[(.int .u8 i7)] (.int .i64) fun (i14:Int)=>
 .cut 1 (.cons .bool .nil) (
 .ite (i9==(-1)) (
 .leaf 1 [(.bool true)]) (
 .ite (i11==(-1)) (
 .leaf 1 [(.bool true)]) (
 .ite (i13==(-1)) (
 .leaf 1 [(.bool true)]) (
 .leaf 1 [(.bool (i14==(-1)))]))))
 (fun z=>jsonparser_decodeSingleUnicodeEscape.t1 i9 i11 i13 i14 z.1))
def jsonparser_decodeSingleUnicodeEscape.h:Hints:=⟨[],[],[(4,[(40,.bool)])],[]⟩
noncomputable def jsonparser_decodeSingleUnicodeEscape.c:Code:=(Tryz.f103.body).getD .skip
theorem jsonparser_decodeSingleUnicodeEscape.e (in0:(Option Addr)) (in0_len:Nat) (in0_cap:Nat):fnT Tryz.prog jsonparser_decodeSingleUnicodeEscape.h Tryz.f103 jsonparser_decodeSingleUnicodeEscape.c [.v (.slice in0 in0_len in0_cap)]=jsonparser_decodeSingleUnicodeEscape.t in0 in0_len in0_cap:=by kernel_rfl
theorem jsonparser_decodeSingleUnicodeEscape.calls (in0:(Option Addr)) (in0_len:Nat) (in0_cap:Nat) {w:World} {R:Ending→World→Prop} (hs:sat Tryz.prog (jsonparser_decodeSingleUnicodeEscape.t in0 in0_len in0_cap) (fun l vs w'=>l=0∧R (.returned (retVal vs)) w') w):Calls Tryz.prog 103 #[(.slice in0 in0_len in0_cap)] w R:=
 have h:=calls_of_tree (w:=w) (R:=R) (args:=[.v (.slice in0 in0_len in0_cap)]) (c:=jsonparser_decodeSingleUnicodeEscape.c) Tryz.func103 (show Tryz.f103.body=some jsonparser_decodeSingleUnicodeEscape.c by kernel_rfl) (of_decide_eq_true (by kernel_rfl)) (jsonparser_decodeSingleUnicodeEscape.e in0 in0_len in0_cap) hs
 h
def jsonparser_isUTF16EncodedRune.t (r:Int):T:=
 .ite (decide (55296≤r)) (
 .leaf 0 [(.bool (decide (r≤57343)))]) (
 .leaf 0 [(.bool false)])
def jsonparser_isUTF16EncodedRune.h:Hints:=⟨[],[],[],[]⟩
noncomputable def jsonparser_isUTF16EncodedRune.c:Code:=(Tryz.f104.body).getD .skip
theorem jsonparser_isUTF16EncodedRune.e (r:Int):fnT Tryz.prog jsonparser_isUTF16EncodedRune.h Tryz.f104 jsonparser_isUTF16EncodedRune.c [.v (.int .i32 r)]=jsonparser_isUTF16EncodedRune.t r:=by kernel_rfl
theorem jsonparser_isUTF16EncodedRune.calls (r:Int) {w:World} {R:Ending→World→Prop} (hs:sat Tryz.prog (jsonparser_isUTF16EncodedRune.t r) (fun l vs w'=>l=0∧R (.returned (retVal vs)) w') w):Calls Tryz.prog 104 #[(.int .i32 r)] w R:=
 have h:=calls_of_tree (w:=w) (R:=R) (args:=[.v (.int .i32 r)]) (c:=jsonparser_isUTF16EncodedRune.c) Tryz.func104 (show Tryz.f104.body=some jsonparser_isUTF16EncodedRune.c by kernel_rfl) (of_decide_eq_true (by kernel_rfl)) (jsonparser_isUTF16EncodedRune.e r) hs
 h
def jsonparser_combineUTF16Surrogates.t (high:Int) (low:Int):T:=
 .chk ((0 :Int)≤(10 :Int)) <|
 .leaf 0 [(.int .i32 (IntKind.wrap .i32 ((IntKind.wrap .i32 (65536+(IntKind.wrap .i32 ((IntKind.wrap .i32 (high-55296)) * 1024))))+(IntKind.wrap .i32 (low-56320)))))]
def jsonparser_combineUTF16Surrogates.h:Hints:=⟨[],[],[],[]⟩
noncomputable def jsonparser_combineUTF16Surrogates.c:Code:=(Tryz.f105.body).getD .skip
theorem jsonparser_combineUTF16Surrogates.e (high:Int) (low:Int):fnT Tryz.prog jsonparser_combineUTF16Surrogates.h Tryz.f105 jsonparser_combineUTF16Surrogates.c [.v (.int .i32 high),.v (.int .i32 low)]=jsonparser_combineUTF16Surrogates.t high low:=by kernel_rfl
theorem jsonparser_combineUTF16Surrogates.calls (high:Int) (low:Int) {w:World} {R:Ending→World→Prop} (hs:sat Tryz.prog (jsonparser_combineUTF16Surrogates.t high low) (fun l vs w'=>l=0∧R (.returned (retVal vs)) w') w):Calls Tryz.prog 105 #[(.int .i32 high),(.int .i32 low)] w R:=
 have h:=calls_of_tree (w:=w) (R:=R) (args:=[.v (.int .i32 high),.v (.int .i32 low)]) (c:=jsonparser_combineUTF16Surrogates.c) Tryz.func105 (show Tryz.f105.body=some jsonparser_combineUTF16Surrogates.c by kernel_rfl) (of_decide_eq_true (by kernel_rfl)) (jsonparser_combineUTF16Surrogates.e high low) hs
 h
def jsonparser_h2I.t2 (c0:Int) (b1:Bool):T:=
 .ite b1 (
 .leaf 0 [(.int .i64 (IntKind.wrap .i64 ((IntKind.wrap .i64 (IntKind.wrap .u8 (c0-65)))+10)))]) (
 .ite (decide (c0 ≥ 97)) (
 .ite (decide (c0≤102)) (
 .leaf 0 [(.int .i64 (IntKind.wrap .i64 ((IntKind.wrap .i64 (IntKind.wrap .u8 (c0-97)))+10)))]) (
 .leaf 0 [(.int .i64 (-1))])) (
 .leaf 0 [(.int .i64 (-1))]))
def jsonparser_h2I.t1 (c0:Int) (b0:Bool):T:=
 .ite b0 (
 .leaf 0 [(.int .i64 (IntKind.wrap .i64 (IntKind.wrap .u8 (c0-48))))]) (
 .cut 1 (.cons .bool .nil) (
 .ite (decide (c0 ≥ 65)) (
 .leaf 1 [(.bool (decide (c0≤70)))]) (
 .leaf 1 [(.bool false)]))
 (fun z=>jsonparser_h2I.t2 c0 z.1))
def jsonparser_h2I.t (c0:Int):T:=
 .cut 1 (.cons .bool .nil) (
 .ite (decide (c0 ≥ 48)) (
 .leaf 1 [(.bool (decide (c0≤57)))]) (
 .leaf 1 [(.bool false)]))
 (fun z=>jsonparser_h2I.t1 c0 z.1)
def jsonparser_h2I.h:Hints:=⟨[],[],[(1,[(8,.bool)]),(3,[(17,.bool)])],[]⟩
noncomputable def jsonparser_h2I.c:Code:=(Tryz.f111.body).getD .skip
theorem jsonparser_h2I.e (c0:Int):fnT Tryz.prog jsonparser_h2I.h Tryz.f111 jsonparser_h2I.c [.v (.int .u8 c0)]=jsonparser_h2I.t c0:=by kernel_rfl
theorem jsonparser_h2I.calls (c0:Int) {w:World} {R:Ending→World→Prop} (hs:sat Tryz.prog (jsonparser_h2I.t c0) (fun l vs w'=>l=0∧R (.returned (retVal vs)) w') w):Calls Tryz.prog 111 #[(.int .u8 c0)] w R:=
 have h:=calls_of_tree (w:=w) (R:=R) (args:=[.v (.int .u8 c0)]) (c:=jsonparser_h2I.c) Tryz.func111 (show Tryz.f111.body=some jsonparser_h2I.c by kernel_rfl) (of_decide_eq_true (by kernel_rfl)) (jsonparser_h2I.e c0) hs
 h
def binary_littleEndian_Uint64.t (b:(Option Addr)) (b_len:Nat) (b_cap:Nat):T:=
 .alloc (Obj.cells #[] 124 (0,0)) fun (z0:Addr)=>
 .chk (((0 :Int)≤(7 :Int))∧(7<(b_len:Int))) <|
 .ptr b fun (z1:Addr)=>
 .load (Addr.add z1 7) (.int .u8) fun (i2:Int)=>
 .drew <|
 .chk (((0 :Int)≤(0 :Int))∧(0<(b_len:Int))) <|
 .ptr b fun (z3:Addr)=>
 .load (Addr.add z3 0) (.int .u8) fun (i4:Int)=>
 .chk (((0 :Int)≤(1 :Int))∧(1<(b_len:Int))) <|
 .ptr b fun (z5:Addr)=>
 .load (Addr.add z5 1) (.int .u8) fun (i6:Int)=>
 .chk ((0 :Int)≤(8 :Int)) <|
 .chk (((0 :Int)≤(2 :Int))∧(2<(b_len:Int))) <|
 .ptr b fun (z7:Addr)=>
 .load (Addr.add z7 2) (.int .u8) fun (i8:Int)=>
 .chk ((0 :Int)≤(16 :Int)) <|
 .chk (((0 :Int)≤(3 :Int))∧(3<(b_len:Int))) <|
 .ptr b fun (z9:Addr)=>
 .load (Addr.add z9 3) (.int .u8) fun (i10:Int)=>
 .chk ((0 :Int)≤(24 :Int)) <|
 .chk (((0 :Int)≤(4 :Int))∧(4<(b_len:Int))) <|
 .ptr b fun (z11:Addr)=>
 .load (Addr.add z11 4) (.int .u8) fun (i12:Int)=>
 .chk ((0 :Int)≤(32 :Int)) <|
 .chk (((0 :Int)≤(5 :Int))∧(5<(b_len:Int))) <|
 .ptr b fun (z13:Addr)=>
 .load (Addr.add z13 5) (.int .u8) fun (i14:Int)=>
 .chk ((0 :Int)≤(40 :Int)) <|
 .chk (((0 :Int)≤(6 :Int))∧(6<(b_len:Int))) <|
 .ptr b fun (z15:Addr)=>
 .load (Addr.add z15 6) (.int .u8) fun (i16:Int)=>
 .chk ((0 :Int)≤(48 :Int)) <|
 .chk (((0 :Int)≤(7 :Int))∧(7<(b_len:Int))) <|
 .ptr b fun (z17:Addr)=>
 .load (Addr.add z17 7) (.int .u8) fun (i18:Int)=>
 .chk ((0 :Int)≤(56 :Int)) <|
 .leaf 0 [(.int .u64 (IntKind.wrap .u64 (((BitVec.toNat ((BitVec.ofInt 64 (IntKind.wrap .u64 (((BitVec.toNat ((BitVec.ofInt 64 (IntKind.wrap .u64 (((BitVec.toNat ((BitVec.ofInt 64 (IntKind.wrap .u64 (((BitVec.toNat ((BitVec.ofInt 64 (IntKind.wrap .u64 (((BitVec.toNat ((BitVec.ofInt 64 (IntKind.wrap .u64 (((BitVec.toNat ((BitVec.ofInt 64 (IntKind.wrap .u64 (((BitVec.toNat ((BitVec.ofInt 64 (IntKind.wrap .u64 i4)) ||| (BitVec.ofInt 64 (IntKind.wrap .u64 ((IntKind.wrap .u64 i6) * 256))))):Nat):Int))) ||| (BitVec.ofInt 64 (IntKind.wrap .u64 ((IntKind.wrap .u64 i8) * 65536))))):Nat):Int))) ||| (BitVec.ofInt 64 (IntKind.wrap .u64 ((IntKind.wrap .u64 i10) * 16777216))))):Nat):Int))) ||| (BitVec.ofInt 64 (IntKind.wrap .u64 ((IntKind.wrap .u64 i12) * 4294967296))))):Nat):Int))) ||| (BitVec.ofInt 64 (IntKind.wrap .u64 ((IntKind.wrap .u64 i14) * 1099511627776))))):Nat):Int))) ||| (BitVec.ofInt 64 (IntKind.wrap .u64 ((IntKind.wrap .u64 i16) * 281474976710656))))):Nat):Int))) ||| (BitVec.ofInt 64 (IntKind.wrap .u64 ((IntKind.wrap .u64 i18) * 72057594037927936))))):Nat):Int)))]
def binary_littleEndian_Uint64.h:Hints:=⟨[],[],[],[]⟩
noncomputable def binary_littleEndian_Uint64.c:Code:=(Tryz.f89.body).getD .skip
theorem binary_littleEndian_Uint64.e (b:(Option Addr)) (b_len:Nat) (b_cap:Nat):fnT Tryz.prog binary_littleEndian_Uint64.h Tryz.f89 binary_littleEndian_Uint64.c [.v (.agg #[]),.v (.slice b b_len b_cap)]=binary_littleEndian_Uint64.t b b_len b_cap:=by kernel_rfl
theorem binary_littleEndian_Uint64.calls (b:(Option Addr)) (b_len:Nat) (b_cap:Nat) {w:World} {R:Ending→World→Prop} (hs:sat Tryz.prog (binary_littleEndian_Uint64.t b b_len b_cap) (fun l vs w'=>l=0∧R (.returned (retVal vs)) w') w):Calls Tryz.prog 89 #[(.agg #[]),(.slice b b_len b_cap)] w R:=
 have h:=calls_of_tree (w:=w) (R:=R) (args:=[.v (.agg #[]),.v (.slice b b_len b_cap)]) (c:=binary_littleEndian_Uint64.c) Tryz.func89 (show Tryz.f89.body=some binary_littleEndian_Uint64.c by kernel_rfl) (of_decide_eq_true (by kernel_rfl)) (binary_littleEndian_Uint64.e b b_len b_cap) hs
 h
end Go.Proofs.YtlfebfkphgelfaaGreatDoor.Tr
