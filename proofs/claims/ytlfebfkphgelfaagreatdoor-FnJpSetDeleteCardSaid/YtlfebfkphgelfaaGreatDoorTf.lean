import Derived.Test.YtlfebfkphgelfaaGreatDoorRz
import Derived.Test.YtlfebfkphgelfaaGreatDoorProg
import Derived.KernelRfl
namespace Go.Proofs.YtlfebfkphgelfaaGreatDoor.Tr
open Go Go.Proofs Rx
set_option linter.unusedVariables false
set_option maxRecDepth 100000
def jsonparser_deleteFoundConfig.t8 (i12:Int) (z28:((Option Addr×Nat×Nat)×(Int×(Int×(Int×(Value×PUnit)))))) (i48:Int):T:=
 .leaf 3 [(.int .i64 (IntKind.wrap .i64 (i12+z28.2.2.2.1))),(.int .i64 i48)]
def jsonparser_deleteFoundConfig.t7 (i12:Int) (z18:(Int×(Value×PUnit))) (z28:((Option Addr×Nat×Nat)×(Int×(Int×(Int×(Value×PUnit)))))) (i32:Int) (b47:Bool):T:=
 .cut 4 (.cons (.int .i64) .nil) (
 .ite b47 (
 .leaf 4 [(.int .i64 i32)]) (
 .leaf 4 [(.int .i64 (IntKind.wrap .i64 (z18.1+i12)))]))
 (fun z=>jsonparser_deleteFoundConfig.t8 i12 z28 z.1)
def jsonparser_deleteFoundConfig.t9 (i49:Int) (i50:Int):T:=
 .leaf 2 [(.int .i64 i49),(.int .i64 i50)]
def jsonparser_deleteFoundConfig.t6 (q1:(Option Addr)) (q1_len:Nat) (i12:Int) (z18:(Int×(Value×PUnit))) (z28:((Option Addr×Nat×Nat)×(Int×(Int×(Int×(Value×PUnit)))))) (i30:Int) (i32:Int) (i33:Int) (b42:Bool):T:=
 .cut 3 (.cons (.int .i64) (.cons (.int .i64) .nil)) (
 .ite b42 (
 .leaf 3 [(.int .i64 (IntKind.wrap .i64 ((IntKind.wrap .i64 (i12+z28.2.2.2.1))+(IntKind.wrap .i64 ((IntKind.wrap .i64 ((IntKind.wrap .i64 (i33-(IntKind.wrap .i64 ((IntKind.wrap .i64 (i12+z28.2.2.2.1))+i30))))+i30))+1))))),(.int .i64 (IntKind.wrap .i64 (z18.1+i12)))]) (
 .cut 4 (.cons .bool .nil) (
 .ite (decide ((q1_len:Int) > (IntKind.wrap .i64 ((IntKind.wrap .i64 (i12+z28.2.2.2.1))+i30)))) (
 .chk ((0≤(IntKind.wrap .i64 ((IntKind.wrap .i64 (i12+z28.2.2.2.1))+i30)))∧((IntKind.wrap .i64 ((IntKind.wrap .i64 (i12+z28.2.2.2.1))+i30))<(q1_len:Int))) <|
 .ptr q1 fun (z43:Addr)=>
 .load (Addr.add z43 ((Int.toNat (IntKind.wrap .i64 ((IntKind.wrap .i64 (i12+z28.2.2.2.1))+i30))) * 1)) (.int .u8) fun (i44:Int)=>
 .ite (i44==125) (
 .chk ((0≤i32)∧(i32<(q1_len:Int))) <|
 .ptr q1 fun (z45:Addr)=>
 .load (Addr.add z45 ((Int.toNat i32) * 1)) (.int .u8) fun (i46:Int)=>
 .leaf 4 [(.bool (i46==44))]) (
 .leaf 4 [(.bool false)])) (
 .leaf 4 [(.bool false)]))
 (fun z=>jsonparser_deleteFoundConfig.t7 i12 z18 z28 i32 z.1)))
 (fun z=>jsonparser_deleteFoundConfig.t9 z.1 z.2.1)
def jsonparser_deleteFoundConfig.t10 (i51:Int) (i52:Int):T:=
 .leaf 1 [(.int .i64 i51),(.int .i64 i52)]
def jsonparser_deleteFoundConfig.t5 (q1:(Option Addr)) (q1_len:Nat) (i12:Int) (z18:(Int×(Value×PUnit))) (z28:((Option Addr×Nat×Nat)×(Int×(Int×(Int×(Value×PUnit)))))) (i30:Int) (i32:Int) (i33:Int) (b39:Bool):T:=
 .cut 2 (.cons (.int .i64) (.cons (.int .i64) .nil)) (
 .ite b39 (
 .leaf 2 [(.int .i64 (IntKind.wrap .i64 ((IntKind.wrap .i64 (i12+z28.2.2.2.1))+(IntKind.wrap .i64 (i30+1))))),(.int .i64 (IntKind.wrap .i64 (z18.1+i12)))]) (
 .cut 3 (.cons .bool .nil) (
 .ite (decide ((q1_len:Int) > i33)) (
 .chk ((0≤i33)∧(i33<(q1_len:Int))) <|
 .ptr q1 fun (z40:Addr)=>
 .load (Addr.add z40 ((Int.toNat i33) * 1)) (.int .u8) fun (i41:Int)=>
 .leaf 3 [(.bool (i41==44))]) (
 .leaf 3 [(.bool false)]))
 (fun z=>jsonparser_deleteFoundConfig.t6 q1 q1_len i12 z18 z28 i30 i32 i33 z.1)))
 (fun z=>jsonparser_deleteFoundConfig.t10 z.1 z.2.1)
def jsonparser_deleteFoundConfig.t14 (i12:Int) (z28:((Option Addr×Nat×Nat)×(Int×(Int×(Int×(Value×PUnit)))))) (i64:Int):T:=
 .leaf 3 [(.int .i64 (IntKind.wrap .i64 (i12+z28.2.2.2.1))),(.int .i64 i64)]
def jsonparser_deleteFoundConfig.t13 (i12:Int) (z18:(Int×(Value×PUnit))) (z28:((Option Addr×Nat×Nat)×(Int×(Int×(Int×(Value×PUnit)))))) (i32:Int) (b63:Bool):T:=
 .cut 4 (.cons (.int .i64) .nil) (
 .ite b63 (
 .leaf 4 [(.int .i64 i32)]) (
 .leaf 4 [(.int .i64 (IntKind.wrap .i64 (z18.1+i12)))]))
 (fun z=>jsonparser_deleteFoundConfig.t14 i12 z28 z.1)
def jsonparser_deleteFoundConfig.t15 (i65:Int) (i66:Int):T:=
 .leaf 2 [(.int .i64 i65),(.int .i64 i66)]
def jsonparser_deleteFoundConfig.t12 (q1:(Option Addr)) (q1_len:Nat) (i12:Int) (z18:(Int×(Value×PUnit))) (z28:((Option Addr×Nat×Nat)×(Int×(Int×(Int×(Value×PUnit)))))) (i30:Int) (i32:Int) (i33:Int) (b58:Bool):T:=
 .cut 3 (.cons (.int .i64) (.cons (.int .i64) .nil)) (
 .ite b58 (
 .leaf 3 [(.int .i64 (IntKind.wrap .i64 ((IntKind.wrap .i64 (i12+z28.2.2.2.1))+(IntKind.wrap .i64 ((IntKind.wrap .i64 ((IntKind.wrap .i64 (i33-(IntKind.wrap .i64 ((IntKind.wrap .i64 (i12+z28.2.2.2.1))+i30))))+i30))+1))))),(.int .i64 (IntKind.wrap .i64 (z18.1+i12)))]) (
 .cut 4 (.cons .bool .nil) (
 .ite (decide ((q1_len:Int) > (IntKind.wrap .i64 ((IntKind.wrap .i64 (i12+z28.2.2.2.1))+i30)))) (
 .chk ((0≤(IntKind.wrap .i64 ((IntKind.wrap .i64 (i12+z28.2.2.2.1))+i30)))∧((IntKind.wrap .i64 ((IntKind.wrap .i64 (i12+z28.2.2.2.1))+i30))<(q1_len:Int))) <|
 .ptr q1 fun (z59:Addr)=>
 .load (Addr.add z59 ((Int.toNat (IntKind.wrap .i64 ((IntKind.wrap .i64 (i12+z28.2.2.2.1))+i30))) * 1)) (.int .u8) fun (i60:Int)=>
 .ite (i60==125) (
 .chk ((0≤i32)∧(i32<(q1_len:Int))) <|
 .ptr q1 fun (z61:Addr)=>
 .load (Addr.add z61 ((Int.toNat i32) * 1)) (.int .u8) fun (i62:Int)=>
 .leaf 4 [(.bool (i62==44))]) (
 .leaf 4 [(.bool false)])) (
 .leaf 4 [(.bool false)]))
 (fun z=>jsonparser_deleteFoundConfig.t13 i12 z18 z28 i32 z.1)))
 (fun z=>jsonparser_deleteFoundConfig.t15 z.1 z.2.1)
def jsonparser_deleteFoundConfig.t16 (i67:Int) (i68:Int):T:=
 .leaf 1 [(.int .i64 i67),(.int .i64 i68)]
def jsonparser_deleteFoundConfig.t11 (q1:(Option Addr)) (q1_len:Nat) (i12:Int) (z18:(Int×(Value×PUnit))) (z28:((Option Addr×Nat×Nat)×(Int×(Int×(Int×(Value×PUnit)))))) (i30:Int) (i32:Int) (i33:Int) (b55:Bool):T:=
 .cut 2 (.cons (.int .i64) (.cons (.int .i64) .nil)) (
 .ite b55 (
 .leaf 2 [(.int .i64 (IntKind.wrap .i64 ((IntKind.wrap .i64 (i12+z28.2.2.2.1))+(IntKind.wrap .i64 (i30+1))))),(.int .i64 (IntKind.wrap .i64 (z18.1+i12)))]) (
 .cut 3 (.cons .bool .nil) (
 .ite (decide ((q1_len:Int) > i33)) (
 .chk ((0≤i33)∧(i33<(q1_len:Int))) <|
 .ptr q1 fun (z56:Addr)=>
 .load (Addr.add z56 ((Int.toNat i33) * 1)) (.int .u8) fun (i57:Int)=>
 .leaf 3 [(.bool (i57==44))]) (
 .leaf 3 [(.bool false)]))
 (fun z=>jsonparser_deleteFoundConfig.t12 q1 q1_len i12 z18 z28 i30 i32 i33 z.1)))
 (fun z=>jsonparser_deleteFoundConfig.t16 z.1 z.2.1)
def jsonparser_deleteFoundConfig.t4 (q1:(Option Addr)) (q1_len:Nat) (i12:Int) (z18:(Int×(Value×PUnit))) (z28:((Option Addr×Nat×Nat)×(Int×(Int×(Int×(Value×PUnit)))))) (i30:Int) (i32:Int) (i33:Int):T:=
 .ite (decide (i33<(q1_len:Int))) (
 .chk ((0≤i33)∧(i33<(q1_len:Int))) <|
 .ptr q1 fun (z34:Addr)=>
 .load (Addr.add z34 ((Int.toNat i33) * 1)) (.int .u8) fun (i35:Int)=>
 .call 73 #[(.int .u8 i35)] .bool fun (b36:Bool)=>
 .ite b36 (
 .leaf 2 [(.int .i64 (IntKind.wrap .i64 (i33+1)))]) (
 .cut 2 (.cons .bool .nil) (
 .ite (decide ((q1_len:Int) > (IntKind.wrap .i64 ((IntKind.wrap .i64 (i12+z28.2.2.2.1))+i30)))) (
 .chk ((0≤(IntKind.wrap .i64 ((IntKind.wrap .i64 (i12+z28.2.2.2.1))+i30)))∧((IntKind.wrap .i64 ((IntKind.wrap .i64 (i12+z28.2.2.2.1))+i30))<(q1_len:Int))) <|
 .ptr q1 fun (z37:Addr)=>
 .load (Addr.add z37 ((Int.toNat (IntKind.wrap .i64 ((IntKind.wrap .i64 (i12+z28.2.2.2.1))+i30))) * 1)) (.int .u8) fun (i38:Int)=>
 .leaf 2 [(.bool (i38==44))]) (
 .leaf 2 [(.bool false)]))
 (fun z=>jsonparser_deleteFoundConfig.t5 q1 q1_len i12 z18 z28 i30 i32 i33 z.1))) (
 .cut 2 (.cons .bool .nil) (
 .ite (decide ((q1_len:Int) > (IntKind.wrap .i64 ((IntKind.wrap .i64 (i12+z28.2.2.2.1))+i30)))) (
 .chk ((0≤(IntKind.wrap .i64 ((IntKind.wrap .i64 (i12+z28.2.2.2.1))+i30)))∧((IntKind.wrap .i64 ((IntKind.wrap .i64 (i12+z28.2.2.2.1))+i30))<(q1_len:Int))) <|
 .ptr q1 fun (z53:Addr)=>
 .load (Addr.add z53 ((Int.toNat (IntKind.wrap .i64 ((IntKind.wrap .i64 (i12+z28.2.2.2.1))+i30))) * 1)) (.int .u8) fun (i54:Int)=>
 .leaf 2 [(.bool (i54==44))]) (
 .leaf 2 [(.bool false)]))
 (fun z=>jsonparser_deleteFoundConfig.t11 q1 q1_len i12 z18 z28 i30 i32 i33 z.1))
def jsonparser_deleteFoundConfig.t3 (q1:(Option Addr)) (q1_len:Nat) (q1_cap:Nat) (q2:(Option Addr)) (q2_len:Nat) (z0:Addr) (i12:Int) (i13:Int):T:=
 .drew <|
 .effQ (Instr.loadAt 81 (.pointer (some z0))) (.agg (.cons .bool (.cons .bool (.cons (.int .i64) .nil)))) fun (z14:(Bool×(Bool×(Int×PUnit))))=>
 .chk ((0≤i12)∧((i12≤i13)∧(i13≤(q1_cap:Int)))) <|
 .chk ((0≤(IntKind.wrap .i64 ((q2_len:Int)-1)))∧((IntKind.wrap .i64 ((q2_len:Int)-1))<(q2_len:Int))) <|
 .ptr q2 fun (z15:Addr)=>
 .load (Addr.add z15 ((Int.toNat (IntKind.wrap .i64 ((q2_len:Int)-1))) * 1)) .str fun (s16:ByteArray)=>
 .call 70 #[(.agg #[(.bool z14.1),(.bool z14.2.1),(.int .i64 z14.2.2.1)]),(.slice (if (q1_cap=(Int.toNat i12)) then q1 else (Option.map (fun (y17:Addr)=>(Addr.add y17 ((Int.toNat i12) * 1))) q1)) ((Int.toNat i13)-(Int.toNat i12)) (q1_cap-(Int.toNat i12))),(.string s16)] (.tuple (.cons (.int .i64) (.cons .any .nil))) fun (z18:(Int×(Value×PUnit)))=>
 .load (Addr.mk 1 0 Option.none) .any fun (v19:Value)=>
 .eff (Bind.bind (eqGuard BinOp.eql 61 (Operand.tmp 86) (Operand.tmp 87) z18.2.1 v19) (fun (y20:Unit)=>(binOp BinOp.eql 61 z18.2.1 v19))) .bool fun (b21:Bool)=>
 .ite b21 (
 .leaf 0 [(.slice q1 q1_len q1_cap),(.bool false)]) (
 .drew <|
 .effQ (Instr.loadAt 81 (.pointer (some z0))) (.agg (.cons .bool (.cons .bool (.cons (.int .i64) .nil)))) fun (z22:(Bool×(Bool×(Int×PUnit))))=>
 .chk ((0≤i12)∧((i12≤i13)∧(i13≤(q1_cap:Int)))) <|
 .chk ((0≤(IntKind.wrap .i64 ((q2_len:Int)-1)))∧((IntKind.wrap .i64 ((q2_len:Int)-1))<(q2_len:Int))) <|
 .ptr q2 fun (z23:Addr)=>
 .load (Addr.add z23 ((Int.toNat (IntKind.wrap .i64 ((q2_len:Int)-1))) * 1)) .str fun (s24:ByteArray)=>
 .here fun (z25:World)=>
 .eff (Instr.buildSlice 22 1 #[(0,(.string s24))]) .slice fun (z26:(Option Addr×Nat×Nat))=>
 .grew z25 <|
 .call 65 #[(.agg #[(.bool z22.1),(.bool z22.2.1),(.int .i64 z22.2.2.1)]),(.slice (if (q1_cap=(Int.toNat i12)) then q1 else (Option.map (fun (y27:Addr)=>(Addr.add y27 ((Int.toNat i12) * 1))) q1)) ((Int.toNat i13)-(Int.toNat i12)) (q1_cap-(Int.toNat i12))),(.slice z26.1 z26.2.1 z26.2.2)] (.tuple (.cons .slice (.cons (.int .i64) (.cons (.int .i64) (.cons (.int .i64) (.cons .any .nil)))))) fun (z28:((Option Addr×Nat×Nat)×(Int×(Int×(Int×(Value×PUnit))))))=>
 .chk ((isIface z28.2.2.2.2.1)=true) <|
 .ite (!(isNil z28.2.2.2.2.1)) (
 .leaf 0 [(.slice q1 q1_len q1_cap),(.bool false)]) (
 .chk ((0≤(IntKind.wrap .i64 (i12+z28.2.2.2.1)))∧(((IntKind.wrap .i64 (i12+z28.2.2.2.1))≤(q1_len:Int))∧((q1_len:Int)≤(q1_cap:Int)))) <|
 .call 71 #[(.slice (if (q1_cap=(Int.toNat (IntKind.wrap .i64 (i12+z28.2.2.2.1)))) then q1 else (Option.map (fun (y29:Addr)=>(Addr.add y29 ((Int.toNat (IntKind.wrap .i64 (i12+z28.2.2.2.1))) * 1))) q1)) ((Int.toNat (q1_len:Int))-(Int.toNat (IntKind.wrap .i64 (i12+z28.2.2.2.1)))) (q1_cap-(Int.toNat (IntKind.wrap .i64 (i12+z28.2.2.2.1)))))] (.int .i64) fun (i30:Int)=>
 .drew <|
 .chk (((0 :Int)≤(0 :Int))∧((0≤(IntKind.wrap .i64 (z18.1+i12)))∧((IntKind.wrap .i64 (z18.1+i12))≤(q1_cap:Int)))) <|
 .chk (((0 :Int)≤(0 :Int))∧((0 :Int)<(1 :Int))) <|
 .call 72 #[(.slice (if (q1_cap=0) then q1 else (Option.map (fun (y31:Addr)=>(Addr.add y31 0)) q1)) ((Int.toNat (IntKind.wrap .i64 (z18.1+i12)))-0) (q1_cap-0)),(.int .u8 44)] (.int .i64) fun (i32:Int)=>
 .ite (decide ((IntKind.wrap .i64 ((IntKind.wrap .i64 (i12+z28.2.2.2.1))+i30)) ≥ (q1_len:Int))) (
 .leaf 0 [(.slice q1 q1_len q1_cap),(.bool false)]) (
 .loop 2 (.cons (.int .i64) .nil) [(.int .i64 (IntKind.wrap .i64 ((IntKind.wrap .i64 (i12+z28.2.2.2.1))+i30)))]
 (fun z=>jsonparser_deleteFoundConfig.t4 q1 q1_len i12 z18 z28 i30 i32 z.1))))
def jsonparser_deleteFoundConfig.t21 (z70:((Option Addr×Nat×Nat)×(Int×(Int×(Int×(Value×PUnit)))))) (i90:Int):T:=
 .leaf 3 [(.int .i64 z70.2.2.2.1),(.int .i64 i90)]
def jsonparser_deleteFoundConfig.t20 (z70:((Option Addr×Nat×Nat)×(Int×(Int×(Int×(Value×PUnit)))))) (i74:Int) (b89:Bool):T:=
 .cut 4 (.cons (.int .i64) .nil) (
 .ite b89 (
 .leaf 4 [(.int .i64 i74)]) (
 .leaf 4 [(.int .i64 z70.2.2.1)]))
 (fun z=>jsonparser_deleteFoundConfig.t21 z70 z.1)
def jsonparser_deleteFoundConfig.t22 (i91:Int) (i92:Int):T:=
 .leaf 2 [(.int .i64 i91),(.int .i64 i92)]
def jsonparser_deleteFoundConfig.t19 (q1:(Option Addr)) (q1_len:Nat) (z70:((Option Addr×Nat×Nat)×(Int×(Int×(Int×(Value×PUnit)))))) (i72:Int) (i74:Int) (i75:Int) (b84:Bool):T:=
 .cut 3 (.cons (.int .i64) (.cons (.int .i64) .nil)) (
 .ite b84 (
 .leaf 3 [(.int .i64 (IntKind.wrap .i64 (z70.2.2.2.1+(IntKind.wrap .i64 ((IntKind.wrap .i64 ((IntKind.wrap .i64 (i75-(IntKind.wrap .i64 (z70.2.2.2.1+i72))))+i72))+1))))),(.int .i64 z70.2.2.1)]) (
 .cut 4 (.cons .bool .nil) (
 .ite (decide ((q1_len:Int) > (IntKind.wrap .i64 (z70.2.2.2.1+i72)))) (
 .chk ((0≤(IntKind.wrap .i64 (z70.2.2.2.1+i72)))∧((IntKind.wrap .i64 (z70.2.2.2.1+i72))<(q1_len:Int))) <|
 .ptr q1 fun (z85:Addr)=>
 .load (Addr.add z85 ((Int.toNat (IntKind.wrap .i64 (z70.2.2.2.1+i72))) * 1)) (.int .u8) fun (i86:Int)=>
 .ite (i86==93) (
 .chk ((0≤i74)∧(i74<(q1_len:Int))) <|
 .ptr q1 fun (z87:Addr)=>
 .load (Addr.add z87 ((Int.toNat i74) * 1)) (.int .u8) fun (i88:Int)=>
 .leaf 4 [(.bool (i88==44))]) (
 .leaf 4 [(.bool false)])) (
 .leaf 4 [(.bool false)]))
 (fun z=>jsonparser_deleteFoundConfig.t20 z70 i74 z.1)))
 (fun z=>jsonparser_deleteFoundConfig.t22 z.1 z.2.1)
def jsonparser_deleteFoundConfig.t23 (i93:Int) (i94:Int):T:=
 .leaf 1 [(.int .i64 i93),(.int .i64 i94)]
def jsonparser_deleteFoundConfig.t18 (q1:(Option Addr)) (q1_len:Nat) (z70:((Option Addr×Nat×Nat)×(Int×(Int×(Int×(Value×PUnit)))))) (i72:Int) (i74:Int) (i75:Int) (b81:Bool):T:=
 .cut 2 (.cons (.int .i64) (.cons (.int .i64) .nil)) (
 .ite b81 (
 .leaf 2 [(.int .i64 (IntKind.wrap .i64 (z70.2.2.2.1+(IntKind.wrap .i64 (i72+1))))),(.int .i64 z70.2.2.1)]) (
 .cut 3 (.cons .bool .nil) (
 .ite (decide ((q1_len:Int) > i75)) (
 .chk ((0≤i75)∧(i75<(q1_len:Int))) <|
 .ptr q1 fun (z82:Addr)=>
 .load (Addr.add z82 ((Int.toNat i75) * 1)) (.int .u8) fun (i83:Int)=>
 .leaf 3 [(.bool (i83==44))]) (
 .leaf 3 [(.bool false)]))
 (fun z=>jsonparser_deleteFoundConfig.t19 q1 q1_len z70 i72 i74 i75 z.1)))
 (fun z=>jsonparser_deleteFoundConfig.t23 z.1 z.2.1)
def jsonparser_deleteFoundConfig.t27 (z70:((Option Addr×Nat×Nat)×(Int×(Int×(Int×(Value×PUnit)))))) (i106:Int):T:=
 .leaf 3 [(.int .i64 z70.2.2.2.1),(.int .i64 i106)]
def jsonparser_deleteFoundConfig.t26 (z70:((Option Addr×Nat×Nat)×(Int×(Int×(Int×(Value×PUnit)))))) (i74:Int) (b105:Bool):T:=
 .cut 4 (.cons (.int .i64) .nil) (
 .ite b105 (
 .leaf 4 [(.int .i64 i74)]) (
 .leaf 4 [(.int .i64 z70.2.2.1)]))
 (fun z=>jsonparser_deleteFoundConfig.t27 z70 z.1)
def jsonparser_deleteFoundConfig.t28 (i107:Int) (i108:Int):T:=
 .leaf 2 [(.int .i64 i107),(.int .i64 i108)]
def jsonparser_deleteFoundConfig.t25 (q1:(Option Addr)) (q1_len:Nat) (z70:((Option Addr×Nat×Nat)×(Int×(Int×(Int×(Value×PUnit)))))) (i72:Int) (i74:Int) (i75:Int) (b100:Bool):T:=
 .cut 3 (.cons (.int .i64) (.cons (.int .i64) .nil)) (
 .ite b100 (
 .leaf 3 [(.int .i64 (IntKind.wrap .i64 (z70.2.2.2.1+(IntKind.wrap .i64 ((IntKind.wrap .i64 ((IntKind.wrap .i64 (i75-(IntKind.wrap .i64 (z70.2.2.2.1+i72))))+i72))+1))))),(.int .i64 z70.2.2.1)]) (
 .cut 4 (.cons .bool .nil) (
 .ite (decide ((q1_len:Int) > (IntKind.wrap .i64 (z70.2.2.2.1+i72)))) (
 .chk ((0≤(IntKind.wrap .i64 (z70.2.2.2.1+i72)))∧((IntKind.wrap .i64 (z70.2.2.2.1+i72))<(q1_len:Int))) <|
 .ptr q1 fun (z101:Addr)=>
 .load (Addr.add z101 ((Int.toNat (IntKind.wrap .i64 (z70.2.2.2.1+i72))) * 1)) (.int .u8) fun (i102:Int)=>
 .ite (i102==93) (
 .chk ((0≤i74)∧(i74<(q1_len:Int))) <|
 .ptr q1 fun (z103:Addr)=>
 .load (Addr.add z103 ((Int.toNat i74) * 1)) (.int .u8) fun (i104:Int)=>
 .leaf 4 [(.bool (i104==44))]) (
 .leaf 4 [(.bool false)])) (
 .leaf 4 [(.bool false)]))
 (fun z=>jsonparser_deleteFoundConfig.t26 z70 i74 z.1)))
 (fun z=>jsonparser_deleteFoundConfig.t28 z.1 z.2.1)
def jsonparser_deleteFoundConfig.t29 (i109:Int) (i110:Int):T:=
 .leaf 1 [(.int .i64 i109),(.int .i64 i110)]
def jsonparser_deleteFoundConfig.t24 (q1:(Option Addr)) (q1_len:Nat) (z70:((Option Addr×Nat×Nat)×(Int×(Int×(Int×(Value×PUnit)))))) (i72:Int) (i74:Int) (i75:Int) (b97:Bool):T:=
 .cut 2 (.cons (.int .i64) (.cons (.int .i64) .nil)) (
 .ite b97 (
 .leaf 2 [(.int .i64 (IntKind.wrap .i64 (z70.2.2.2.1+(IntKind.wrap .i64 (i72+1))))),(.int .i64 z70.2.2.1)]) (
 .cut 3 (.cons .bool .nil) (
 .ite (decide ((q1_len:Int) > i75)) (
 .chk ((0≤i75)∧(i75<(q1_len:Int))) <|
 .ptr q1 fun (z98:Addr)=>
 .load (Addr.add z98 ((Int.toNat i75) * 1)) (.int .u8) fun (i99:Int)=>
 .leaf 3 [(.bool (i99==44))]) (
 .leaf 3 [(.bool false)]))
 (fun z=>jsonparser_deleteFoundConfig.t25 q1 q1_len z70 i72 i74 i75 z.1)))
 (fun z=>jsonparser_deleteFoundConfig.t29 z.1 z.2.1)
def jsonparser_deleteFoundConfig.t17 (q1:(Option Addr)) (q1_len:Nat) (z70:((Option Addr×Nat×Nat)×(Int×(Int×(Int×(Value×PUnit)))))) (i72:Int) (i74:Int) (i75:Int):T:=
 .ite (decide (i75<(q1_len:Int))) (
 .chk ((0≤i75)∧(i75<(q1_len:Int))) <|
 .ptr q1 fun (z76:Addr)=>
 .load (Addr.add z76 ((Int.toNat i75) * 1)) (.int .u8) fun (i77:Int)=>
 .call 73 #[(.int .u8 i77)] .bool fun (b78:Bool)=>
 .ite b78 (
 .leaf 2 [(.int .i64 (IntKind.wrap .i64 (i75+1)))]) (
 .cut 2 (.cons .bool .nil) (
 .ite (decide ((q1_len:Int) > (IntKind.wrap .i64 (z70.2.2.2.1+i72)))) (
 .chk ((0≤(IntKind.wrap .i64 (z70.2.2.2.1+i72)))∧((IntKind.wrap .i64 (z70.2.2.2.1+i72))<(q1_len:Int))) <|
 .ptr q1 fun (z79:Addr)=>
 .load (Addr.add z79 ((Int.toNat (IntKind.wrap .i64 (z70.2.2.2.1+i72))) * 1)) (.int .u8) fun (i80:Int)=>
 .leaf 2 [(.bool (i80==44))]) (
 .leaf 2 [(.bool false)]))
 (fun z=>jsonparser_deleteFoundConfig.t18 q1 q1_len z70 i72 i74 i75 z.1))) (
 .cut 2 (.cons .bool .nil) (
 .ite (decide ((q1_len:Int) > (IntKind.wrap .i64 (z70.2.2.2.1+i72)))) (
 .chk ((0≤(IntKind.wrap .i64 (z70.2.2.2.1+i72)))∧((IntKind.wrap .i64 (z70.2.2.2.1+i72))<(q1_len:Int))) <|
 .ptr q1 fun (z95:Addr)=>
 .load (Addr.add z95 ((Int.toNat (IntKind.wrap .i64 (z70.2.2.2.1+i72))) * 1)) (.int .u8) fun (i96:Int)=>
 .leaf 2 [(.bool (i96==44))]) (
 .leaf 2 [(.bool false)]))
 (fun z=>jsonparser_deleteFoundConfig.t24 q1 q1_len z70 i72 i74 i75 z.1))
def jsonparser_deleteFoundConfig.t32 (i129:Int):T:=
 .leaf 1 [(.int .i64 i129)]
def jsonparser_deleteFoundConfig.t33 (q1:(Option Addr)) (q1_len:Nat) (q1_cap:Nat) (i111:Int) (i130:Int):T:=
 .eff (Instr.makeSlice 59 (.int .i64 (IntKind.wrap .i64 ((IntKind.wrap .i64 (i130+(q1_len:Int)))-i111))) (.int .i64 (IntKind.wrap .i64 ((IntKind.wrap .i64 (i130+(q1_len:Int)))-i111)))) .slice fun (z131:(Option Addr×Nat×Nat))=>
 .chk (((0 :Int)≤(0 :Int))∧((0≤i130)∧(i130≤(q1_cap:Int)))) <|
 .eff (Builtin.copy_ (Call.argTypes (Call.mk (Callee.builtin Builtin.copy) #[(Operand.tmp 351),(Operand.tmp 354)] #[59,59])) 3 #[(.slice z131.1 z131.2.1 z131.2.2),(.slice (if (q1_cap=0) then q1 else (Option.map (fun (y132:Addr)=>(Addr.add y132 0)) q1)) ((Int.toNat i130)-0) (q1_cap-0))]) (.int .i64) fun (i133:Int)=>
 .drew <|
 .chk ((0≤i130)∧((i130≤(z131.2.1:Int))∧((z131.2.1:Int)≤(z131.2.2:Int)))) <|
 .chk ((0≤i111)∧((i111≤(q1_len:Int))∧((q1_len:Int)≤(q1_cap:Int)))) <|
 .eff (Builtin.copy_ (Call.argTypes (Call.mk (Callee.builtin Builtin.copy) #[(Operand.tmp 358),(Operand.tmp 361)] #[59,59])) 3 #[(.slice (if (z131.2.2=(Int.toNat i130)) then z131.1 else (Option.map (fun (y134:Addr)=>(Addr.add y134 ((Int.toNat i130) * 1))) z131.1)) ((Int.toNat (z131.2.1:Int))-(Int.toNat i130)) (z131.2.2-(Int.toNat i130))),(.slice (if (q1_cap=(Int.toNat i111)) then q1 else (Option.map (fun (y135:Addr)=>(Addr.add y135 ((Int.toNat i111) * 1))) q1)) ((Int.toNat (q1_len:Int))-(Int.toNat i111)) (q1_cap-(Int.toNat i111)))]) (.int .i64) fun (i136:Int)=>
 .leaf 0 [(.slice z131.1 z131.2.1 z131.2.2),(.bool true)]
def jsonparser_deleteFoundConfig.t31 (q1:(Option Addr)) (q1_len:Nat) (q1_cap:Nat) (i111:Int) (i114:Int) (b128:Bool):T:=
 .cut 1 (.cons (.int .i64) .nil) (
 .ite b128 (
 .leaf 1 [(.int .i64 i114)]) (
 .cut 2 (.cons (.int .i64) .nil) (
 .ite (decide (i114 > (-1))) (
 .leaf 2 [(.int .i64 (IntKind.wrap .i64 (i114+1)))]) (
 .leaf 2 [(.int .i64 0)]))
 (fun z=>jsonparser_deleteFoundConfig.t32 z.1)))
 (fun z=>jsonparser_deleteFoundConfig.t33 q1 q1_len q1_cap i111 z.1)
def jsonparser_deleteFoundConfig.t30 (q1:(Option Addr)) (q1_len:Nat) (q1_cap:Nat) (z0:Addr) (i111:Int) (i112:Int):T:=
 .chk (((0 :Int)≤(0 :Int))∧((0≤i112)∧(i112≤(q1_cap:Int)))) <|
 .call 67 #[(.slice (if (q1_cap=0) then q1 else (Option.map (fun (y113:Addr)=>(Addr.add y113 0)) q1)) ((Int.toNat i112)-0) (q1_cap-0))] (.int .i64) fun (i114:Int)=>
 .chk ((0≤i111)∧((i111≤(q1_len:Int))∧((q1_len:Int)≤(q1_cap:Int)))) <|
 .eff (Instr.loadAt 81 (.pointer (some z0))) (.agg (.cons .bool (.cons .bool (.cons (.int .i64) .nil)))) fun (z115:(Bool×(Bool×(Int×PUnit))))=>
 .call 66 #[(.agg #[(.bool z115.1),(.bool z115.2.1),(.int .i64 z115.2.2.1)]),(.slice (if (q1_cap=(Int.toNat i111)) then q1 else (Option.map (fun (y116:Addr)=>(Addr.add y116 ((Int.toNat i111) * 1))) q1)) ((Int.toNat (q1_len:Int))-(Int.toNat i111)) (q1_cap-(Int.toNat i111)))] (.int .i64) fun (i117:Int)=>
 .cut 1 (.cons .bool .nil) (
 .ite (decide (i114 > (-1))) (
 .ite (decide (i117 > (-1))) (
 .chk ((0≤i117)∧(i117<((((Int.toNat (q1_len:Int))-(Int.toNat i111)):Nat):Int))) <|
 .ptr (if (q1_cap=(Int.toNat i111)) then q1 else (Option.map (fun (y127:Addr)=>(Addr.add y127 ((Int.toNat i111) * 1))) q1)) fun (z118:Addr)=>
 .load (Addr.add z118 ((Int.toNat i117) * 1)) (.int .u8) fun (i119:Int)=>
 .ite (i119==125) (
 .chk ((0≤i114)∧(i114<(q1_len:Int))) <|
 .ptr q1 fun (z120:Addr)=>
 .load (Addr.add z120 ((Int.toNat i114) * 1)) (.int .u8) fun (i121:Int)=>
 .leaf 1 [(.bool (i121==44))]) (
 .chk ((0≤i117)∧(i117<((((Int.toNat (q1_len:Int))-(Int.toNat i111)):Nat):Int))) <|
 .ptr (if (q1_cap=(Int.toNat i111)) then q1 else (Option.map (fun (y126:Addr)=>(Addr.add y126 ((Int.toNat i111) * 1))) q1)) fun (z122:Addr)=>
 .load (Addr.add z122 ((Int.toNat i117) * 1)) (.int .u8) fun (i123:Int)=>
 .ite (i123==93) (
 .chk ((0≤i114)∧(i114<(q1_len:Int))) <|
 .ptr q1 fun (z124:Addr)=>
 .load (Addr.add z124 ((Int.toNat i114) * 1)) (.int .u8) fun (i125:Int)=>
 .leaf 1 [(.bool (i125==44))]) (
 .leaf 1 [(.bool false)]))) (
 .leaf 1 [(.bool false)])) (
 .leaf 1 [(.bool false)]))
 (fun z=>jsonparser_deleteFoundConfig.t31 q1 q1_len q1_cap i111 i114 z.1)
def jsonparser_deleteFoundConfig.t2 (q1:(Option Addr)) (q1_len:Nat) (q1_cap:Nat) (q2:(Option Addr)) (q2_len:Nat) (q2_cap:Nat) (z0:Addr) (b8:Bool):T:=
 .cut 1 (.cons (.int .i64) (.cons (.int .i64) .nil)) (
 .ite (!b8) (
 .cut 2 (.cons (.int .i64) (.cons (.int .i64) .nil)) (
 .ite (decide ((q2_len:Int) > 1)) (
 .drew <|
 .effQ (Instr.loadAt 81 (.pointer (some z0))) (.agg (.cons .bool (.cons .bool (.cons (.int .i64) .nil)))) fun (z9:(Bool×(Bool×(Int×PUnit))))=>
 .chk (((0 :Int)≤(0 :Int))∧((0≤(IntKind.wrap .i64 ((q2_len:Int)-1)))∧((IntKind.wrap .i64 ((q2_len:Int)-1))≤(q2_cap:Int)))) <|
 .call 65 #[(.agg #[(.bool z9.1),(.bool z9.2.1),(.int .i64 z9.2.2.1)]),(.slice q1 q1_len q1_cap),(.slice (if (q2_cap=0) then q2 else (Option.map (fun (y10:Addr)=>(Addr.add y10 0)) q2)) ((Int.toNat (IntKind.wrap .i64 ((q2_len:Int)-1)))-0) (q2_cap-0))] (.tuple (.cons .slice (.cons (.int .i64) (.cons (.int .i64) (.cons (.int .i64) (.cons .any .nil)))))) fun (z11:((Option Addr×Nat×Nat)×(Int×(Int×(Int×(Value×PUnit))))))=>
 .chk ((isIface z11.2.2.2.2.1)=true) <|
 .ite (!(isNil z11.2.2.2.2.1)) (
 .leaf 0 [(.slice q1 q1_len q1_cap),(.bool false)]) (
 .leaf 2 [(.int .i64 z11.2.2.1),(.int .i64 z11.2.2.2.1)])) (
 .leaf 2 [(.int .i64 0),(.int .i64 (q1_len:Int))]))
 (fun z=>jsonparser_deleteFoundConfig.t3 q1 q1_len q1_cap q2 q2_len z0 z.1 z.2.1)) (
 .eff (Instr.loadAt 81 (.pointer (some z0))) (.agg (.cons .bool (.cons .bool (.cons (.int .i64) .nil)))) fun (z69:(Bool×(Bool×(Int×PUnit))))=>
 .call 65 #[(.agg #[(.bool z69.1),(.bool z69.2.1),(.int .i64 z69.2.2.1)]),(.slice q1 q1_len q1_cap),(.slice q2 q2_len q2_cap)] (.tuple (.cons .slice (.cons (.int .i64) (.cons (.int .i64) (.cons (.int .i64) (.cons .any .nil)))))) fun (z70:((Option Addr×Nat×Nat)×(Int×(Int×(Int×(Value×PUnit))))))=>
 .chk ((isIface z70.2.2.2.2.1)=true) <|
 .ite (!(isNil z70.2.2.2.2.1)) (
 .leaf 0 [(.slice q1 q1_len q1_cap),(.bool false)]) (
 .chk ((0≤z70.2.2.2.1)∧((z70.2.2.2.1≤(q1_len:Int))∧((q1_len:Int)≤(q1_cap:Int)))) <|
 .call 71 #[(.slice (if (q1_cap=(Int.toNat z70.2.2.2.1)) then q1 else (Option.map (fun (y71:Addr)=>(Addr.add y71 ((Int.toNat z70.2.2.2.1) * 1))) q1)) ((Int.toNat (q1_len:Int))-(Int.toNat z70.2.2.2.1)) (q1_cap-(Int.toNat z70.2.2.2.1)))] (.int .i64) fun (i72:Int)=>
 .drew <|
 .chk (((0 :Int)≤(0 :Int))∧((0≤z70.2.2.1)∧(z70.2.2.1≤(q1_cap:Int)))) <|
 .chk (((0 :Int)≤(0 :Int))∧((0 :Int)<(1 :Int))) <|
 .call 72 #[(.slice (if (q1_cap=0) then q1 else (Option.map (fun (y73:Addr)=>(Addr.add y73 0)) q1)) ((Int.toNat z70.2.2.1)-0) (q1_cap-0)),(.int .u8 44)] (.int .i64) fun (i74:Int)=>
 .ite (decide ((IntKind.wrap .i64 (z70.2.2.2.1+i72)) ≥ (q1_len:Int))) (
 .leaf 0 [(.slice q1 q1_len q1_cap),(.bool false)]) (
 .loop 2 (.cons (.int .i64) .nil) [(.int .i64 (IntKind.wrap .i64 (z70.2.2.2.1+i72)))]
 (fun z=>jsonparser_deleteFoundConfig.t17 q1 q1_len z70 i72 i74 z.1)))))
 (fun z=>jsonparser_deleteFoundConfig.t30 q1 q1_len q1_cap z0 z.1 z.2.1)
def jsonparser_deleteFoundConfig.t1 (q1:(Option Addr)) (q1_len:Nat) (q1_cap:Nat) (q2:(Option Addr)) (q2_len:Nat) (q2_cap:Nat) (z0:Addr) (b7:Bool):T:=
 .cut 1 (.cons .bool .nil) (
 .ite b7 (
 .leaf 1 [(.bool true)]) (
 .leaf 1 [(.bool false)]))
 (fun z=>jsonparser_deleteFoundConfig.t2 q1 q1_len q1_cap q2 q2_len q2_cap z0 z.1)
def jsonparser_deleteFoundConfig.t (q0_0:Bool) (q0_1:Bool) (q0_2:Int) (q1:(Option Addr)) (q1_len:Nat) (q1_cap:Nat) (q2:(Option Addr)) (q2_len:Nat) (q2_cap:Nat):T:=
 .alloc (Obj.cells #[(.bool q0_0),(.bool q0_1),(.int .i64 q0_2)] 81 (0,0)) fun (z0:Addr)=>
 .ite ((q2_len:Int)==0) (
 .eff (Instr.makeSlice 59 (.int .i64 0) (.int .i64 0)) .slice fun (z1:(Option Addr×Nat×Nat))=>
 .leaf 0 [(.slice z1.1 z1.2.1 z1.2.2),(.bool true)]) (
 .cut 1 (.cons .bool .nil) (
 .chk ((0≤(IntKind.wrap .i64 ((q2_len:Int)-1)))∧((IntKind.wrap .i64 ((q2_len:Int)-1))<(q2_len:Int))) <|
 .ptr q2 fun (z2:Addr)=>
 .load (Addr.add z2 ((Int.toNat (IntKind.wrap .i64 ((q2_len:Int)-1))) * 1)) .str fun (s3:ByteArray)=>
 .ite (decide (((ByteArray.size s3):Int) > 0)) (
 .chk ((0≤(IntKind.wrap .i64 ((q2_len:Int)-1)))∧((IntKind.wrap .i64 ((q2_len:Int)-1))<(q2_len:Int))) <|
 .ptr q2 fun (z4:Addr)=>
 .load (Addr.add z4 ((Int.toNat (IntKind.wrap .i64 ((q2_len:Int)-1))) * 1)) .str fun (s5:ByteArray)=>
 .chk (((0 :Int)≤(0 :Int))∧(0<((ByteArray.size s5):Int))) <|
 .eff (convert 5 9 (.int .u8 (bt s5 0))) .str fun (s6:ByteArray)=>
 .leaf 1 [(.bool (strEq s6 (ByteArray.mk #[(91:UInt8)])))]) (
 .leaf 1 [(.bool false)]))
 (fun z=>jsonparser_deleteFoundConfig.t1 q1 q1_len q1_cap q2 q2_len q2_cap z0 z.1))
def jsonparser_deleteFoundConfig.h:Hints:=⟨[(48,[(9,.bool)]),(52,[(12,(.int .i64)),(11,(.int .i64))]),(55,[(10,(.int .i64)),(12,(.int .i64))]),(160,[(12,(.int .i64)),(11,(.int .i64))]),(175,[(12,(.int .i64)),(11,(.int .i64))]),(201,[(11,(.int .i64))]),(259,[(12,(.int .i64)),(11,(.int .i64))]),(274,[(12,(.int .i64)),(11,(.int .i64))]),(300,[(11,(.int .i64))]),(338,[(26,(.int .i64))]),(341,[(26,(.int .i64))])],[],[(5,[(48,.bool)]),(32,[(160,.bool)]),(34,[(175,.bool)]),(36,[(201,.bool)]),(49,[(259,.bool)]),(51,[(274,.bool)]),(53,[(300,.bool)]),(59,[(338,.bool)])],[(30,[(18,(.int .i64))]),(47,[(22,(.int .i64))])]⟩
noncomputable def jsonparser_deleteFoundConfig.c:Code:=(Tryz.f47.body).getD .skip
theorem jsonparser_deleteFoundConfig.e (q0_0:Bool) (q0_1:Bool) (q0_2:Int) (q1:(Option Addr)) (q1_len:Nat) (q1_cap:Nat) (q2:(Option Addr)) (q2_len:Nat) (q2_cap:Nat):fnT Tryz.prog jsonparser_deleteFoundConfig.h Tryz.f47 jsonparser_deleteFoundConfig.c [.v (.agg #[(.bool q0_0),(.bool q0_1),(.int .i64 q0_2)]),.v (.slice q1 q1_len q1_cap),.v (.slice q2 q2_len q2_cap)]=jsonparser_deleteFoundConfig.t q0_0 q0_1 q0_2 q1 q1_len q1_cap q2 q2_len q2_cap:=by kernel_rfl
theorem jsonparser_deleteFoundConfig.calls (q0_0:Bool) (q0_1:Bool) (q0_2:Int) (q1:(Option Addr)) (q1_len:Nat) (q1_cap:Nat) (q2:(Option Addr)) (q2_len:Nat) (q2_cap:Nat) {w:World} {R:Ending→World→Prop} (hs:sat Tryz.prog (jsonparser_deleteFoundConfig.t q0_0 q0_1 q0_2 q1 q1_len q1_cap q2 q2_len q2_cap) (fun l vs w'=>l=0∧R (.returned (retVal vs)) w') w):Calls Tryz.prog 47 #[(.agg #[(.bool q0_0),(.bool q0_1),(.int .i64 q0_2)]),(.slice q1 q1_len q1_cap),(.slice q2 q2_len q2_cap)] w R:=
 have h:=calls_of_tree (w:=w) (R:=R) (args:=[.v (.agg #[(.bool q0_0),(.bool q0_1),(.int .i64 q0_2)]),.v (.slice q1 q1_len q1_cap),.v (.slice q2 q2_len q2_cap)]) (c:=jsonparser_deleteFoundConfig.c) Tryz.func47 (show Tryz.f47.body=some jsonparser_deleteFoundConfig.c by kernel_rfl) (of_decide_eq_true (by kernel_rfl)) (jsonparser_deleteFoundConfig.e q0_0 q0_1 q0_2 q1 q1_len q1_cap q2 q2_len q2_cap) hs
 h
def jsonparser_findKeyStartConfig.t7 (q1:(Option Addr)) (q1_len:Nat) (s18:ByteArray) (b22:Bool) (i23:Int) (z30:(Int×(Bool×PUnit))) (i33:Int) (z34:Addr):T:=
 .chk ((0≤(IntKind.wrap .i64 ((IntKind.wrap .i64 ((IntKind.wrap .i64 (i23+1))+z30.1))+i33)))∧((IntKind.wrap .i64 ((IntKind.wrap .i64 ((IntKind.wrap .i64 (i23+1))+z30.1))+i33))<(q1_len:Int))) <|
 .ptr q1 fun (z40:Addr)=>
 .load (Addr.add z40 ((Int.toNat (IntKind.wrap .i64 ((IntKind.wrap .i64 ((IntKind.wrap .i64 (i23+1))+z30.1))+i33))) * 1)) (.int .u8) fun (i41:Int)=>
 .ite (i41==58) (
 .load z34 .slice fun (z42:(Option Addr×Nat×Nat))=>
 .ite (((ByteArray.size s18):Int)==(z42.2.1:Int)) (
 .call 84 #[(.pointer (some z34))] .str fun (s43:ByteArray)=>
 .ite (strEq s43 s18) (
 .leaf 0 [(.int .i64 (IntKind.wrap .i64 ((IntKind.wrap .i64 (i23+1))-1))),Value.nilIface]) (
 .leaf 2 [(.bool b22),(.int .i64 (IntKind.wrap .i64 ((IntKind.wrap .i64 ((IntKind.wrap .i64 (i23+1))+z30.1))+i33)))])) (
 .leaf 2 [(.bool b22),(.int .i64 (IntKind.wrap .i64 ((IntKind.wrap .i64 ((IntKind.wrap .i64 (i23+1))+z30.1))+i33)))])) (
 .leaf 2 [(.bool b22),(.int .i64 (IntKind.wrap .i64 ((IntKind.wrap .i64 ((IntKind.wrap .i64 (i23+1))+z30.1))+i33)))])
def jsonparser_findKeyStartConfig.t6 (q1:(Option Addr)) (q1_len:Nat) (q1_cap:Nat) (z0:Addr) (z10:Addr) (s18:ByteArray) (b22:Bool) (i23:Int) (i25:Int) (b27:Bool):T:=
 .ite b27 (
 .leaf 1 [(.int .i64 (IntKind.wrap .i64 (i23+1)))]) (
 .drew <|
 .effQ (Instr.loadAt 81 (.pointer (some z0))) (.agg (.cons .bool (.cons .bool (.cons (.int .i64) .nil)))) fun (z28:(Bool×(Bool×(Int×PUnit))))=>
 .chk ((0≤(IntKind.wrap .i64 (i23+1)))∧(((IntKind.wrap .i64 (i23+1))≤(q1_len:Int))∧((q1_len:Int)≤(q1_cap:Int)))) <|
 .call 80 #[(.agg #[(.bool z28.1),(.bool z28.2.1),(.int .i64 z28.2.2.1)]),(.slice (if (q1_cap=(Int.toNat (IntKind.wrap .i64 (i23+1)))) then q1 else (Option.map (fun (y29:Addr)=>(Addr.add y29 ((Int.toNat (IntKind.wrap .i64 (i23+1))) * 1))) q1)) ((Int.toNat (q1_len:Int))-(Int.toNat (IntKind.wrap .i64 (i23+1)))) (q1_cap-(Int.toNat (IntKind.wrap .i64 (i23+1))))),(.int .u8 i25)] (.tuple (.cons (.int .i64) (.cons .bool .nil))) fun (z30:(Int×(Bool×PUnit)))=>
 .ite (z30.1==(-1)) (
 .leaf 1 [(.int .i64 (IntKind.wrap .i64 ((IntKind.wrap .i64 (i23+1))+1)))]) (
 .drew <|
 .effS (Instr.loadAt 81 (.pointer (some z0))) (.agg (.cons .bool (.cons .bool (.cons (.int .i64) .nil)))) fun (z31:(Bool×(Bool×(Int×PUnit))))=>
 .chk ((0≤(IntKind.wrap .i64 ((IntKind.wrap .i64 (i23+1))+z30.1)))∧(((IntKind.wrap .i64 ((IntKind.wrap .i64 (i23+1))+z30.1))≤(q1_len:Int))∧((q1_len:Int)≤(q1_cap:Int)))) <|
 .call 66 #[(.agg #[(.bool z31.1),(.bool z31.2.1),(.int .i64 z31.2.2.1)]),(.slice (if (q1_cap=(Int.toNat (IntKind.wrap .i64 ((IntKind.wrap .i64 (i23+1))+z30.1)))) then q1 else (Option.map (fun (y32:Addr)=>(Addr.add y32 ((Int.toNat (IntKind.wrap .i64 ((IntKind.wrap .i64 (i23+1))+z30.1))) * 1))) q1)) ((Int.toNat (q1_len:Int))-(Int.toNat (IntKind.wrap .i64 ((IntKind.wrap .i64 (i23+1))+z30.1)))) (q1_cap-(Int.toNat (IntKind.wrap .i64 ((IntKind.wrap .i64 (i23+1))+z30.1)))))] (.int .i64) fun (i33:Int)=>
 .ite (i33==(-1)) (
 .leaf 1 [(.int .i64 (IntKind.wrap .i64 ((IntKind.wrap .i64 ((IntKind.wrap .i64 (i23+1))+z30.1))+1)))]) (
 .chk ((0≤(IntKind.wrap .i64 (i23+1)))∧(((IntKind.wrap .i64 (i23+1))≤(IntKind.wrap .i64 ((IntKind.wrap .i64 ((IntKind.wrap .i64 (i23+1))+z30.1))-1)))∧((IntKind.wrap .i64 ((IntKind.wrap .i64 ((IntKind.wrap .i64 (i23+1))+z30.1))-1))≤(q1_cap:Int)))) <|
 .alloc (Obj.cells #[(.slice none 0 0)] 59 (0,0)) fun (z34:Addr)=>
 .store z34 (.slice (if (q1_cap=(Int.toNat (IntKind.wrap .i64 (i23+1)))) then q1 else (Option.map (fun (y35:Addr)=>(Addr.add y35 ((Int.toNat (IntKind.wrap .i64 (i23+1))) * 1))) q1)) ((Int.toNat (IntKind.wrap .i64 ((IntKind.wrap .i64 ((IntKind.wrap .i64 (i23+1))+z30.1))-1)))-(Int.toNat (IntKind.wrap .i64 (i23+1)))) (q1_cap-(Int.toNat (IntKind.wrap .i64 (i23+1))))) <|
 .cut 3 .nil (
 .ite z30.2.1 (
 .drew <|
 .effQ (Instr.loadAt 81 (.pointer (some z0))) (.agg (.cons .bool (.cons .bool (.cons (.int .i64) .nil)))) fun (z36:(Bool×(Bool×(Int×PUnit))))=>
 .load z34 .slice fun (z37:(Option Addr×Nat×Nat))=>
 .effQ (Instr.sliceAt 113 (.pointer (some z10)) none none none) .slice fun (z38:(Option Addr×Nat×Nat))=>
 .call 82 #[(.agg #[(.bool z36.1),(.bool z36.2.1),(.int .i64 z36.2.2.1)]),(.slice z37.1 z37.2.1 z37.2.2),(.slice z38.1 z38.2.1 z38.2.2)] (.tuple (.cons .slice (.cons .any .nil))) fun (z39:((Option Addr×Nat×Nat)×(Value×PUnit)))=>
 .chk ((isIface z39.2.1)=true) <|
 .ite (!(isNil z39.2.1)) (
 .leaf 1 [(.int .i64 (IntKind.wrap .i64 ((IntKind.wrap .i64 ((IntKind.wrap .i64 ((IntKind.wrap .i64 (i23+1))+z30.1))+i33))+1)))]) (
 .store z34 (.slice z39.1.1 z39.1.2.1 z39.1.2.2) <|
 .leaf 3 [])) (
 .leaf 3 []))
 (fun _=>jsonparser_findKeyStartConfig.t7 q1 q1_len s18 b22 i23 z30 i33 z34))))
def jsonparser_findKeyStartConfig.t8 (i55:Int):T:=
 .leaf 1 [(.int .i64 (IntKind.wrap .i64 (i55+1)))]
def jsonparser_findKeyStartConfig.t5 (q1:(Option Addr)) (q1_len:Nat) (q1_cap:Nat) (z0:Addr) (z10:Addr) (s18:ByteArray) (i21:Int) (b22:Bool) (i23:Int):T:=
 .cut 2 (.cons .bool (.cons (.int .i64) .nil)) (
 .ite b22 (
 .chk ((0≤i23)∧(i23<(q1_len:Int))) <|
 .ptr q1 fun (z24:Addr)=>
 .load (Addr.add z24 ((Int.toNat i23) * 1)) (.int .u8) fun (i25:Int)=>
 .cut 3 (.cons .bool .nil) (
 .ite (i25==39) (
 .load (Addr.add z0 0) .bool fun (b26:Bool)=>
 .leaf 3 [(.bool (!b26))]) (
 .leaf 3 [(.bool false)]))
 (fun z=>jsonparser_findKeyStartConfig.t6 q1 q1_len q1_cap z0 z10 s18 b22 i23 i25 z.1)) (
 .ite (i21==91) (
 .drew <|
 .effS (Instr.loadAt 81 (.pointer (some z0))) (.agg (.cons .bool (.cons .bool (.cons (.int .i64) .nil)))) fun (z44:(Bool×(Bool×(Int×PUnit))))=>
 .chk ((0≤i23)∧((i23≤(q1_len:Int))∧((q1_len:Int)≤(q1_cap:Int)))) <|
 .chk ((0≤i23)∧(i23<(q1_len:Int))) <|
 .ptr q1 fun (z45:Addr)=>
 .load (Addr.add z45 ((Int.toNat i23) * 1)) (.int .u8) fun (i46:Int)=>
 .call 68 #[(.agg #[(.bool z44.1),(.bool z44.2.1),(.int .i64 z44.2.2.1)]),(.slice (if (q1_cap=(Int.toNat i23)) then q1 else (Option.map (fun (y47:Addr)=>(Addr.add y47 ((Int.toNat i23) * 1))) q1)) ((Int.toNat (q1_len:Int))-(Int.toNat i23)) (q1_cap-(Int.toNat i23))),(.int .u8 i46),(.int .u8 93)] (.int .i64) fun (i48:Int)=>
 .ite (i48 != (-1)) (
 .leaf 2 [(.bool b22),(.int .i64 (IntKind.wrap .i64 (i23+i48)))]) (
 .leaf 2 [(.bool b22),(.int .i64 i23)])) (
 .ite (i21==123) (
 .drew <|
 .effS (Instr.loadAt 81 (.pointer (some z0))) (.agg (.cons .bool (.cons .bool (.cons (.int .i64) .nil)))) fun (z49:(Bool×(Bool×(Int×PUnit))))=>
 .chk ((0≤i23)∧((i23≤(q1_len:Int))∧((q1_len:Int)≤(q1_cap:Int)))) <|
 .chk ((0≤i23)∧(i23<(q1_len:Int))) <|
 .ptr q1 fun (z50:Addr)=>
 .load (Addr.add z50 ((Int.toNat i23) * 1)) (.int .u8) fun (i51:Int)=>
 .call 68 #[(.agg #[(.bool z49.1),(.bool z49.2.1),(.int .i64 z49.2.2.1)]),(.slice (if (q1_cap=(Int.toNat i23)) then q1 else (Option.map (fun (y52:Addr)=>(Addr.add y52 ((Int.toNat i23) * 1))) q1)) ((Int.toNat (q1_len:Int))-(Int.toNat i23)) (q1_cap-(Int.toNat i23))),(.int .u8 i51),(.int .u8 125)] (.int .i64) fun (i53:Int)=>
 .ite (i53 != (-1)) (
 .leaf 2 [(.bool b22),(.int .i64 (IntKind.wrap .i64 (i23+i53)))]) (
 .leaf 2 [(.bool b22),(.int .i64 i23)])) (
 .leaf 2 [(.bool b22),(.int .i64 i23)]))))
 (fun z=>jsonparser_findKeyStartConfig.t8 z.2.1)
def jsonparser_findKeyStartConfig.t4 (q1:(Option Addr)) (q1_len:Nat) (q1_cap:Nat) (z0:Addr) (z10:Addr) (s18:ByteArray) (i19:Int):T:=
 .ite (decide (i19<(q1_len:Int))) (
 .chk ((0≤i19)∧(i19<(q1_len:Int))) <|
 .ptr q1 fun (z20:Addr)=>
 .load (Addr.add z20 ((Int.toNat i19) * 1)) (.int .u8) fun (i21:Int)=>
 .cut 2 (.cons .bool (.cons (.int .i64) .nil)) (
 .ite (i21==34) (
 .leaf 2 [(.bool (i21==34)),(.int .i64 i19)]) (
 .leaf 2 [(.bool (i21==39)),(.int .i64 i19)]))
 (fun z=>jsonparser_findKeyStartConfig.t5 q1 q1_len q1_cap z0 z10 s18 i21 z.1 z.2.1)) (
 .drew <|
 .load (Addr.mk 1 0 Option.none) .any fun (v56:Value)=>
 .leaf 0 [(.int .i64 (-1)),v56])
def jsonparser_findKeyStartConfig.t3 (q1:(Option Addr)) (q1_len:Nat) (q1_cap:Nat) (z0:Addr) (i9:Int) (z10:Addr) (s18:ByteArray):T:=
 .loop 1 (.cons (.int .i64) .nil) [(.int .i64 i9)]
 (fun z=>jsonparser_findKeyStartConfig.t4 q1 q1_len q1_cap z0 z10 s18 z.1)
def jsonparser_findKeyStartConfig.t13 (q1:(Option Addr)) (q1_len:Nat) (s61:ByteArray) (b65:Bool) (i66:Int) (z73:(Int×(Bool×PUnit))) (i76:Int) (z77:Addr):T:=
 .chk ((0≤(IntKind.wrap .i64 ((IntKind.wrap .i64 ((IntKind.wrap .i64 (i66+1))+z73.1))+i76)))∧((IntKind.wrap .i64 ((IntKind.wrap .i64 ((IntKind.wrap .i64 (i66+1))+z73.1))+i76))<(q1_len:Int))) <|
 .ptr q1 fun (z83:Addr)=>
 .load (Addr.add z83 ((Int.toNat (IntKind.wrap .i64 ((IntKind.wrap .i64 ((IntKind.wrap .i64 (i66+1))+z73.1))+i76))) * 1)) (.int .u8) fun (i84:Int)=>
 .ite (i84==58) (
 .load z77 .slice fun (z85:(Option Addr×Nat×Nat))=>
 .ite (((ByteArray.size s61):Int)==(z85.2.1:Int)) (
 .call 84 #[(.pointer (some z77))] .str fun (s86:ByteArray)=>
 .ite (strEq s86 s61) (
 .leaf 0 [(.int .i64 (IntKind.wrap .i64 ((IntKind.wrap .i64 (i66+1))-1))),Value.nilIface]) (
 .leaf 2 [(.bool b65),(.int .i64 (IntKind.wrap .i64 ((IntKind.wrap .i64 ((IntKind.wrap .i64 (i66+1))+z73.1))+i76)))])) (
 .leaf 2 [(.bool b65),(.int .i64 (IntKind.wrap .i64 ((IntKind.wrap .i64 ((IntKind.wrap .i64 (i66+1))+z73.1))+i76)))])) (
 .leaf 2 [(.bool b65),(.int .i64 (IntKind.wrap .i64 ((IntKind.wrap .i64 ((IntKind.wrap .i64 (i66+1))+z73.1))+i76)))])
def jsonparser_findKeyStartConfig.t12 (q1:(Option Addr)) (q1_len:Nat) (q1_cap:Nat) (z0:Addr) (z10:Addr) (s61:ByteArray) (b65:Bool) (i66:Int) (i68:Int) (b70:Bool):T:=
 .ite b70 (
 .leaf 1 [(.int .i64 (IntKind.wrap .i64 (i66+1)))]) (
 .drew <|
 .effQ (Instr.loadAt 81 (.pointer (some z0))) (.agg (.cons .bool (.cons .bool (.cons (.int .i64) .nil)))) fun (z71:(Bool×(Bool×(Int×PUnit))))=>
 .chk ((0≤(IntKind.wrap .i64 (i66+1)))∧(((IntKind.wrap .i64 (i66+1))≤(q1_len:Int))∧((q1_len:Int)≤(q1_cap:Int)))) <|
 .call 80 #[(.agg #[(.bool z71.1),(.bool z71.2.1),(.int .i64 z71.2.2.1)]),(.slice (if (q1_cap=(Int.toNat (IntKind.wrap .i64 (i66+1)))) then q1 else (Option.map (fun (y72:Addr)=>(Addr.add y72 ((Int.toNat (IntKind.wrap .i64 (i66+1))) * 1))) q1)) ((Int.toNat (q1_len:Int))-(Int.toNat (IntKind.wrap .i64 (i66+1)))) (q1_cap-(Int.toNat (IntKind.wrap .i64 (i66+1))))),(.int .u8 i68)] (.tuple (.cons (.int .i64) (.cons .bool .nil))) fun (z73:(Int×(Bool×PUnit)))=>
 .ite (z73.1==(-1)) (
 .leaf 1 [(.int .i64 (IntKind.wrap .i64 ((IntKind.wrap .i64 (i66+1))+1)))]) (
 .drew <|
 .effS (Instr.loadAt 81 (.pointer (some z0))) (.agg (.cons .bool (.cons .bool (.cons (.int .i64) .nil)))) fun (z74:(Bool×(Bool×(Int×PUnit))))=>
 .chk ((0≤(IntKind.wrap .i64 ((IntKind.wrap .i64 (i66+1))+z73.1)))∧(((IntKind.wrap .i64 ((IntKind.wrap .i64 (i66+1))+z73.1))≤(q1_len:Int))∧((q1_len:Int)≤(q1_cap:Int)))) <|
 .call 66 #[(.agg #[(.bool z74.1),(.bool z74.2.1),(.int .i64 z74.2.2.1)]),(.slice (if (q1_cap=(Int.toNat (IntKind.wrap .i64 ((IntKind.wrap .i64 (i66+1))+z73.1)))) then q1 else (Option.map (fun (y75:Addr)=>(Addr.add y75 ((Int.toNat (IntKind.wrap .i64 ((IntKind.wrap .i64 (i66+1))+z73.1))) * 1))) q1)) ((Int.toNat (q1_len:Int))-(Int.toNat (IntKind.wrap .i64 ((IntKind.wrap .i64 (i66+1))+z73.1)))) (q1_cap-(Int.toNat (IntKind.wrap .i64 ((IntKind.wrap .i64 (i66+1))+z73.1)))))] (.int .i64) fun (i76:Int)=>
 .ite (i76==(-1)) (
 .leaf 1 [(.int .i64 (IntKind.wrap .i64 ((IntKind.wrap .i64 ((IntKind.wrap .i64 (i66+1))+z73.1))+1)))]) (
 .chk ((0≤(IntKind.wrap .i64 (i66+1)))∧(((IntKind.wrap .i64 (i66+1))≤(IntKind.wrap .i64 ((IntKind.wrap .i64 ((IntKind.wrap .i64 (i66+1))+z73.1))-1)))∧((IntKind.wrap .i64 ((IntKind.wrap .i64 ((IntKind.wrap .i64 (i66+1))+z73.1))-1))≤(q1_cap:Int)))) <|
 .alloc (Obj.cells #[(.slice none 0 0)] 59 (0,0)) fun (z77:Addr)=>
 .store z77 (.slice (if (q1_cap=(Int.toNat (IntKind.wrap .i64 (i66+1)))) then q1 else (Option.map (fun (y78:Addr)=>(Addr.add y78 ((Int.toNat (IntKind.wrap .i64 (i66+1))) * 1))) q1)) ((Int.toNat (IntKind.wrap .i64 ((IntKind.wrap .i64 ((IntKind.wrap .i64 (i66+1))+z73.1))-1)))-(Int.toNat (IntKind.wrap .i64 (i66+1)))) (q1_cap-(Int.toNat (IntKind.wrap .i64 (i66+1))))) <|
 .cut 3 .nil (
 .ite z73.2.1 (
 .drew <|
 .effQ (Instr.loadAt 81 (.pointer (some z0))) (.agg (.cons .bool (.cons .bool (.cons (.int .i64) .nil)))) fun (z79:(Bool×(Bool×(Int×PUnit))))=>
 .load z77 .slice fun (z80:(Option Addr×Nat×Nat))=>
 .effQ (Instr.sliceAt 113 (.pointer (some z10)) none none none) .slice fun (z81:(Option Addr×Nat×Nat))=>
 .call 82 #[(.agg #[(.bool z79.1),(.bool z79.2.1),(.int .i64 z79.2.2.1)]),(.slice z80.1 z80.2.1 z80.2.2),(.slice z81.1 z81.2.1 z81.2.2)] (.tuple (.cons .slice (.cons .any .nil))) fun (z82:((Option Addr×Nat×Nat)×(Value×PUnit)))=>
 .chk ((isIface z82.2.1)=true) <|
 .ite (!(isNil z82.2.1)) (
 .leaf 1 [(.int .i64 (IntKind.wrap .i64 ((IntKind.wrap .i64 ((IntKind.wrap .i64 ((IntKind.wrap .i64 (i66+1))+z73.1))+i76))+1)))]) (
 .store z77 (.slice z82.1.1 z82.1.2.1 z82.1.2.2) <|
 .leaf 3 [])) (
 .leaf 3 []))
 (fun _=>jsonparser_findKeyStartConfig.t13 q1 q1_len s61 b65 i66 z73 i76 z77))))
def jsonparser_findKeyStartConfig.t14 (i98:Int):T:=
 .leaf 1 [(.int .i64 (IntKind.wrap .i64 (i98+1)))]
def jsonparser_findKeyStartConfig.t11 (q1:(Option Addr)) (q1_len:Nat) (q1_cap:Nat) (z0:Addr) (z10:Addr) (s61:ByteArray) (i64:Int) (b65:Bool) (i66:Int):T:=
 .cut 2 (.cons .bool (.cons (.int .i64) .nil)) (
 .ite b65 (
 .chk ((0≤i66)∧(i66<(q1_len:Int))) <|
 .ptr q1 fun (z67:Addr)=>
 .load (Addr.add z67 ((Int.toNat i66) * 1)) (.int .u8) fun (i68:Int)=>
 .cut 3 (.cons .bool .nil) (
 .ite (i68==39) (
 .load (Addr.add z0 0) .bool fun (b69:Bool)=>
 .leaf 3 [(.bool (!b69))]) (
 .leaf 3 [(.bool false)]))
 (fun z=>jsonparser_findKeyStartConfig.t12 q1 q1_len q1_cap z0 z10 s61 b65 i66 i68 z.1)) (
 .ite (i64==91) (
 .drew <|
 .effS (Instr.loadAt 81 (.pointer (some z0))) (.agg (.cons .bool (.cons .bool (.cons (.int .i64) .nil)))) fun (z87:(Bool×(Bool×(Int×PUnit))))=>
 .chk ((0≤i66)∧((i66≤(q1_len:Int))∧((q1_len:Int)≤(q1_cap:Int)))) <|
 .chk ((0≤i66)∧(i66<(q1_len:Int))) <|
 .ptr q1 fun (z88:Addr)=>
 .load (Addr.add z88 ((Int.toNat i66) * 1)) (.int .u8) fun (i89:Int)=>
 .call 68 #[(.agg #[(.bool z87.1),(.bool z87.2.1),(.int .i64 z87.2.2.1)]),(.slice (if (q1_cap=(Int.toNat i66)) then q1 else (Option.map (fun (y90:Addr)=>(Addr.add y90 ((Int.toNat i66) * 1))) q1)) ((Int.toNat (q1_len:Int))-(Int.toNat i66)) (q1_cap-(Int.toNat i66))),(.int .u8 i89),(.int .u8 93)] (.int .i64) fun (i91:Int)=>
 .ite (i91 != (-1)) (
 .leaf 2 [(.bool b65),(.int .i64 (IntKind.wrap .i64 (i66+i91)))]) (
 .leaf 2 [(.bool b65),(.int .i64 i66)])) (
 .ite (i64==123) (
 .drew <|
 .effS (Instr.loadAt 81 (.pointer (some z0))) (.agg (.cons .bool (.cons .bool (.cons (.int .i64) .nil)))) fun (z92:(Bool×(Bool×(Int×PUnit))))=>
 .chk ((0≤i66)∧((i66≤(q1_len:Int))∧((q1_len:Int)≤(q1_cap:Int)))) <|
 .chk ((0≤i66)∧(i66<(q1_len:Int))) <|
 .ptr q1 fun (z93:Addr)=>
 .load (Addr.add z93 ((Int.toNat i66) * 1)) (.int .u8) fun (i94:Int)=>
 .call 68 #[(.agg #[(.bool z92.1),(.bool z92.2.1),(.int .i64 z92.2.2.1)]),(.slice (if (q1_cap=(Int.toNat i66)) then q1 else (Option.map (fun (y95:Addr)=>(Addr.add y95 ((Int.toNat i66) * 1))) q1)) ((Int.toNat (q1_len:Int))-(Int.toNat i66)) (q1_cap-(Int.toNat i66))),(.int .u8 i94),(.int .u8 125)] (.int .i64) fun (i96:Int)=>
 .ite (i96 != (-1)) (
 .leaf 2 [(.bool b65),(.int .i64 (IntKind.wrap .i64 (i66+i96)))]) (
 .leaf 2 [(.bool b65),(.int .i64 i66)])) (
 .leaf 2 [(.bool b65),(.int .i64 i66)]))))
 (fun z=>jsonparser_findKeyStartConfig.t14 z.2.1)
def jsonparser_findKeyStartConfig.t10 (q1:(Option Addr)) (q1_len:Nat) (q1_cap:Nat) (z0:Addr) (z10:Addr) (s61:ByteArray) (i62:Int):T:=
 .ite (decide (i62<(q1_len:Int))) (
 .chk ((0≤i62)∧(i62<(q1_len:Int))) <|
 .ptr q1 fun (z63:Addr)=>
 .load (Addr.add z63 ((Int.toNat i62) * 1)) (.int .u8) fun (i64:Int)=>
 .cut 2 (.cons .bool (.cons (.int .i64) .nil)) (
 .ite (i64==34) (
 .leaf 2 [(.bool (i64==34)),(.int .i64 i62)]) (
 .leaf 2 [(.bool (i64==39)),(.int .i64 i62)]))
 (fun z=>jsonparser_findKeyStartConfig.t11 q1 q1_len q1_cap z0 z10 s61 i64 z.1 z.2.1)) (
 .drew <|
 .load (Addr.mk 1 0 Option.none) .any fun (v99:Value)=>
 .leaf 0 [(.int .i64 (-1)),v99])
def jsonparser_findKeyStartConfig.t9 (q1:(Option Addr)) (q1_len:Nat) (q1_cap:Nat) (z0:Addr) (i9:Int) (z10:Addr) (s61:ByteArray):T:=
 .loop 1 (.cons (.int .i64) .nil) [(.int .i64 i9)]
 (fun z=>jsonparser_findKeyStartConfig.t10 q1 q1_len q1_cap z0 z10 s61 z.1)
def jsonparser_findKeyStartConfig.t19 (q1:(Option Addr)) (q1_len:Nat) (s106:ByteArray) (b110:Bool) (i111:Int) (z118:(Int×(Bool×PUnit))) (i121:Int) (z122:Addr):T:=
 .chk ((0≤(IntKind.wrap .i64 ((IntKind.wrap .i64 ((IntKind.wrap .i64 (i111+1))+z118.1))+i121)))∧((IntKind.wrap .i64 ((IntKind.wrap .i64 ((IntKind.wrap .i64 (i111+1))+z118.1))+i121))<(q1_len:Int))) <|
 .ptr q1 fun (z128:Addr)=>
 .load (Addr.add z128 ((Int.toNat (IntKind.wrap .i64 ((IntKind.wrap .i64 ((IntKind.wrap .i64 (i111+1))+z118.1))+i121))) * 1)) (.int .u8) fun (i129:Int)=>
 .ite (i129==58) (
 .load z122 .slice fun (z130:(Option Addr×Nat×Nat))=>
 .ite (((ByteArray.size s106):Int)==(z130.2.1:Int)) (
 .call 84 #[(.pointer (some z122))] .str fun (s131:ByteArray)=>
 .ite (strEq s131 s106) (
 .leaf 0 [(.int .i64 (IntKind.wrap .i64 ((IntKind.wrap .i64 (i111+1))-1))),Value.nilIface]) (
 .leaf 2 [(.bool b110),(.int .i64 (IntKind.wrap .i64 ((IntKind.wrap .i64 ((IntKind.wrap .i64 (i111+1))+z118.1))+i121)))])) (
 .leaf 2 [(.bool b110),(.int .i64 (IntKind.wrap .i64 ((IntKind.wrap .i64 ((IntKind.wrap .i64 (i111+1))+z118.1))+i121)))])) (
 .leaf 2 [(.bool b110),(.int .i64 (IntKind.wrap .i64 ((IntKind.wrap .i64 ((IntKind.wrap .i64 (i111+1))+z118.1))+i121)))])
def jsonparser_findKeyStartConfig.t18 (q1:(Option Addr)) (q1_len:Nat) (q1_cap:Nat) (z0:Addr) (z10:Addr) (s106:ByteArray) (b110:Bool) (i111:Int) (i113:Int) (b115:Bool):T:=
 .ite b115 (
 .leaf 1 [(.int .i64 (IntKind.wrap .i64 (i111+1)))]) (
 .drew <|
 .effQ (Instr.loadAt 81 (.pointer (some z0))) (.agg (.cons .bool (.cons .bool (.cons (.int .i64) .nil)))) fun (z116:(Bool×(Bool×(Int×PUnit))))=>
 .chk ((0≤(IntKind.wrap .i64 (i111+1)))∧(((IntKind.wrap .i64 (i111+1))≤(q1_len:Int))∧((q1_len:Int)≤(q1_cap:Int)))) <|
 .call 80 #[(.agg #[(.bool z116.1),(.bool z116.2.1),(.int .i64 z116.2.2.1)]),(.slice (if (q1_cap=(Int.toNat (IntKind.wrap .i64 (i111+1)))) then q1 else (Option.map (fun (y117:Addr)=>(Addr.add y117 ((Int.toNat (IntKind.wrap .i64 (i111+1))) * 1))) q1)) ((Int.toNat (q1_len:Int))-(Int.toNat (IntKind.wrap .i64 (i111+1)))) (q1_cap-(Int.toNat (IntKind.wrap .i64 (i111+1))))),(.int .u8 i113)] (.tuple (.cons (.int .i64) (.cons .bool .nil))) fun (z118:(Int×(Bool×PUnit)))=>
 .ite (z118.1==(-1)) (
 .leaf 1 [(.int .i64 (IntKind.wrap .i64 ((IntKind.wrap .i64 (i111+1))+1)))]) (
 .drew <|
 .effS (Instr.loadAt 81 (.pointer (some z0))) (.agg (.cons .bool (.cons .bool (.cons (.int .i64) .nil)))) fun (z119:(Bool×(Bool×(Int×PUnit))))=>
 .chk ((0≤(IntKind.wrap .i64 ((IntKind.wrap .i64 (i111+1))+z118.1)))∧(((IntKind.wrap .i64 ((IntKind.wrap .i64 (i111+1))+z118.1))≤(q1_len:Int))∧((q1_len:Int)≤(q1_cap:Int)))) <|
 .call 66 #[(.agg #[(.bool z119.1),(.bool z119.2.1),(.int .i64 z119.2.2.1)]),(.slice (if (q1_cap=(Int.toNat (IntKind.wrap .i64 ((IntKind.wrap .i64 (i111+1))+z118.1)))) then q1 else (Option.map (fun (y120:Addr)=>(Addr.add y120 ((Int.toNat (IntKind.wrap .i64 ((IntKind.wrap .i64 (i111+1))+z118.1))) * 1))) q1)) ((Int.toNat (q1_len:Int))-(Int.toNat (IntKind.wrap .i64 ((IntKind.wrap .i64 (i111+1))+z118.1)))) (q1_cap-(Int.toNat (IntKind.wrap .i64 ((IntKind.wrap .i64 (i111+1))+z118.1)))))] (.int .i64) fun (i121:Int)=>
 .ite (i121==(-1)) (
 .leaf 1 [(.int .i64 (IntKind.wrap .i64 ((IntKind.wrap .i64 ((IntKind.wrap .i64 (i111+1))+z118.1))+1)))]) (
 .chk ((0≤(IntKind.wrap .i64 (i111+1)))∧(((IntKind.wrap .i64 (i111+1))≤(IntKind.wrap .i64 ((IntKind.wrap .i64 ((IntKind.wrap .i64 (i111+1))+z118.1))-1)))∧((IntKind.wrap .i64 ((IntKind.wrap .i64 ((IntKind.wrap .i64 (i111+1))+z118.1))-1))≤(q1_cap:Int)))) <|
 .alloc (Obj.cells #[(.slice none 0 0)] 59 (0,0)) fun (z122:Addr)=>
 .store z122 (.slice (if (q1_cap=(Int.toNat (IntKind.wrap .i64 (i111+1)))) then q1 else (Option.map (fun (y123:Addr)=>(Addr.add y123 ((Int.toNat (IntKind.wrap .i64 (i111+1))) * 1))) q1)) ((Int.toNat (IntKind.wrap .i64 ((IntKind.wrap .i64 ((IntKind.wrap .i64 (i111+1))+z118.1))-1)))-(Int.toNat (IntKind.wrap .i64 (i111+1)))) (q1_cap-(Int.toNat (IntKind.wrap .i64 (i111+1))))) <|
 .cut 3 .nil (
 .ite z118.2.1 (
 .drew <|
 .effQ (Instr.loadAt 81 (.pointer (some z0))) (.agg (.cons .bool (.cons .bool (.cons (.int .i64) .nil)))) fun (z124:(Bool×(Bool×(Int×PUnit))))=>
 .load z122 .slice fun (z125:(Option Addr×Nat×Nat))=>
 .effQ (Instr.sliceAt 113 (.pointer (some z10)) none none none) .slice fun (z126:(Option Addr×Nat×Nat))=>
 .call 82 #[(.agg #[(.bool z124.1),(.bool z124.2.1),(.int .i64 z124.2.2.1)]),(.slice z125.1 z125.2.1 z125.2.2),(.slice z126.1 z126.2.1 z126.2.2)] (.tuple (.cons .slice (.cons .any .nil))) fun (z127:((Option Addr×Nat×Nat)×(Value×PUnit)))=>
 .chk ((isIface z127.2.1)=true) <|
 .ite (!(isNil z127.2.1)) (
 .leaf 1 [(.int .i64 (IntKind.wrap .i64 ((IntKind.wrap .i64 ((IntKind.wrap .i64 ((IntKind.wrap .i64 (i111+1))+z118.1))+i121))+1)))]) (
 .store z122 (.slice z127.1.1 z127.1.2.1 z127.1.2.2) <|
 .leaf 3 [])) (
 .leaf 3 []))
 (fun _=>jsonparser_findKeyStartConfig.t19 q1 q1_len s106 b110 i111 z118 i121 z122))))
def jsonparser_findKeyStartConfig.t20 (i143:Int):T:=
 .leaf 1 [(.int .i64 (IntKind.wrap .i64 (i143+1)))]
def jsonparser_findKeyStartConfig.t17 (q1:(Option Addr)) (q1_len:Nat) (q1_cap:Nat) (z0:Addr) (z10:Addr) (s106:ByteArray) (i109:Int) (b110:Bool) (i111:Int):T:=
 .cut 2 (.cons .bool (.cons (.int .i64) .nil)) (
 .ite b110 (
 .chk ((0≤i111)∧(i111<(q1_len:Int))) <|
 .ptr q1 fun (z112:Addr)=>
 .load (Addr.add z112 ((Int.toNat i111) * 1)) (.int .u8) fun (i113:Int)=>
 .cut 3 (.cons .bool .nil) (
 .ite (i113==39) (
 .load (Addr.add z0 0) .bool fun (b114:Bool)=>
 .leaf 3 [(.bool (!b114))]) (
 .leaf 3 [(.bool false)]))
 (fun z=>jsonparser_findKeyStartConfig.t18 q1 q1_len q1_cap z0 z10 s106 b110 i111 i113 z.1)) (
 .ite (i109==91) (
 .drew <|
 .effS (Instr.loadAt 81 (.pointer (some z0))) (.agg (.cons .bool (.cons .bool (.cons (.int .i64) .nil)))) fun (z132:(Bool×(Bool×(Int×PUnit))))=>
 .chk ((0≤i111)∧((i111≤(q1_len:Int))∧((q1_len:Int)≤(q1_cap:Int)))) <|
 .chk ((0≤i111)∧(i111<(q1_len:Int))) <|
 .ptr q1 fun (z133:Addr)=>
 .load (Addr.add z133 ((Int.toNat i111) * 1)) (.int .u8) fun (i134:Int)=>
 .call 68 #[(.agg #[(.bool z132.1),(.bool z132.2.1),(.int .i64 z132.2.2.1)]),(.slice (if (q1_cap=(Int.toNat i111)) then q1 else (Option.map (fun (y135:Addr)=>(Addr.add y135 ((Int.toNat i111) * 1))) q1)) ((Int.toNat (q1_len:Int))-(Int.toNat i111)) (q1_cap-(Int.toNat i111))),(.int .u8 i134),(.int .u8 93)] (.int .i64) fun (i136:Int)=>
 .ite (i136 != (-1)) (
 .leaf 2 [(.bool b110),(.int .i64 (IntKind.wrap .i64 (i111+i136)))]) (
 .leaf 2 [(.bool b110),(.int .i64 i111)])) (
 .ite (i109==123) (
 .drew <|
 .effS (Instr.loadAt 81 (.pointer (some z0))) (.agg (.cons .bool (.cons .bool (.cons (.int .i64) .nil)))) fun (z137:(Bool×(Bool×(Int×PUnit))))=>
 .chk ((0≤i111)∧((i111≤(q1_len:Int))∧((q1_len:Int)≤(q1_cap:Int)))) <|
 .chk ((0≤i111)∧(i111<(q1_len:Int))) <|
 .ptr q1 fun (z138:Addr)=>
 .load (Addr.add z138 ((Int.toNat i111) * 1)) (.int .u8) fun (i139:Int)=>
 .call 68 #[(.agg #[(.bool z137.1),(.bool z137.2.1),(.int .i64 z137.2.2.1)]),(.slice (if (q1_cap=(Int.toNat i111)) then q1 else (Option.map (fun (y140:Addr)=>(Addr.add y140 ((Int.toNat i111) * 1))) q1)) ((Int.toNat (q1_len:Int))-(Int.toNat i111)) (q1_cap-(Int.toNat i111))),(.int .u8 i139),(.int .u8 125)] (.int .i64) fun (i141:Int)=>
 .ite (i141 != (-1)) (
 .leaf 2 [(.bool b110),(.int .i64 (IntKind.wrap .i64 (i111+i141)))]) (
 .leaf 2 [(.bool b110),(.int .i64 i111)])) (
 .leaf 2 [(.bool b110),(.int .i64 i111)]))))
 (fun z=>jsonparser_findKeyStartConfig.t20 z.2.1)
def jsonparser_findKeyStartConfig.t16 (q1:(Option Addr)) (q1_len:Nat) (q1_cap:Nat) (z0:Addr) (z10:Addr) (s106:ByteArray) (i107:Int):T:=
 .ite (decide (i107<(q1_len:Int))) (
 .chk ((0≤i107)∧(i107<(q1_len:Int))) <|
 .ptr q1 fun (z108:Addr)=>
 .load (Addr.add z108 ((Int.toNat i107) * 1)) (.int .u8) fun (i109:Int)=>
 .cut 2 (.cons .bool (.cons (.int .i64) .nil)) (
 .ite (i109==34) (
 .leaf 2 [(.bool (i109==34)),(.int .i64 i107)]) (
 .leaf 2 [(.bool (i109==39)),(.int .i64 i107)]))
 (fun z=>jsonparser_findKeyStartConfig.t17 q1 q1_len q1_cap z0 z10 s106 i109 z.1 z.2.1)) (
 .drew <|
 .load (Addr.mk 1 0 Option.none) .any fun (v144:Value)=>
 .leaf 0 [(.int .i64 (-1)),v144])
def jsonparser_findKeyStartConfig.t15 (q1:(Option Addr)) (q1_len:Nat) (q1_cap:Nat) (z0:Addr) (i9:Int) (z10:Addr) (s106:ByteArray):T:=
 .loop 1 (.cons (.int .i64) .nil) [(.int .i64 i9)]
 (fun z=>jsonparser_findKeyStartConfig.t16 q1 q1_len q1_cap z0 z10 s106 z.1)
def jsonparser_findKeyStartConfig.t2 (q1:(Option Addr)) (q1_len:Nat) (q1_cap:Nat) (q2:ByteArray) (z0:Addr) (i9:Int):T:=
 .alloc (Obj.cells #[(.int .u8 0),(.int .u8 0),(.int .u8 0),(.int .u8 0),(.int .u8 0),(.int .u8 0),(.int .u8 0),(.int .u8 0),(.int .u8 0),(.int .u8 0),(.int .u8 0),(.int .u8 0),(.int .u8 0),(.int .u8 0),(.int .u8 0),(.int .u8 0),(.int .u8 0),(.int .u8 0),(.int .u8 0),(.int .u8 0),(.int .u8 0),(.int .u8 0),(.int .u8 0),(.int .u8 0),(.int .u8 0),(.int .u8 0),(.int .u8 0),(.int .u8 0),(.int .u8 0),(.int .u8 0),(.int .u8 0),(.int .u8 0),(.int .u8 0),(.int .u8 0),(.int .u8 0),(.int .u8 0),(.int .u8 0),(.int .u8 0),(.int .u8 0),(.int .u8 0),(.int .u8 0),(.int .u8 0),(.int .u8 0),(.int .u8 0),(.int .u8 0),(.int .u8 0),(.int .u8 0),(.int .u8 0),(.int .u8 0),(.int .u8 0),(.int .u8 0),(.int .u8 0),(.int .u8 0),(.int .u8 0),(.int .u8 0),(.int .u8 0),(.int .u8 0),(.int .u8 0),(.int .u8 0),(.int .u8 0),(.int .u8 0),(.int .u8 0),(.int .u8 0),(.int .u8 0)] 113 (0,0)) fun (z10:Addr)=>
 .drew <|
 .effQ (Instr.loadAt 81 (.pointer (some z0))) (.agg (.cons .bool (.cons .bool (.cons (.int .i64) .nil)))) fun (z11:(Bool×(Bool×(Int×PUnit))))=>
 .effQ (Instr.sliceAt 113 (.pointer (some z10)) none none none) .slice fun (z12:(Option Addr×Nat×Nat))=>
 .both (
 .here fun (z13:World)=>
 .call 83 #[(.string q2)] .slice fun (z14:(Option Addr×Nat×Nat))=>
 .grew z13 <|
 .both (
 .call 82 #[(.agg #[(.bool z11.1),(.bool z11.2.1),(.int .i64 z11.2.2.1)]),(.slice z14.1 z14.2.1 z14.2.2),(.slice z12.1 z12.2.1 z12.2.2)] (.tuple (.cons .slice (.cons .any .nil))) fun (z15:((Option Addr×Nat×Nat)×(Value×PUnit)))=>
 .alloc (Obj.cells #[(.slice none 0 0)] 59 (0,0)) fun (z16:Addr)=>
 .store z16 (.slice z15.1.1 z15.1.2.1 z15.1.2.2) <|
 .chk ((isIface z15.2.1)=true) <|
 .cut 1 (.cons .str .nil) (
 .ite (isNil z15.2.1) (
 .call 84 #[(.pointer (some z16))] .str fun (s17:ByteArray)=>
 .leaf 1 [(.string s17)]) (
 .leaf 1 [(.string q2)]))
 (fun z=>jsonparser_findKeyStartConfig.t3 q1 q1_len q1_cap z0 i9 z10 z.1)) (
 .here fun (z57:World)=>
 .alloc (Obj.cells #[(.slice none 0 0)] 59 (0,0)) fun (z58:Addr)=>
 .grew z57 <|
 .call 82 #[(.agg #[(.bool z11.1),(.bool z11.2.1),(.int .i64 z11.2.2.1)]),(.slice z14.1 z14.2.1 z14.2.2),(.slice z12.1 z12.2.1 z12.2.2)] (.tuple (.cons .slice (.cons .any .nil))) fun (z59:((Option Addr×Nat×Nat)×(Value×PUnit)))=>
 .store z58 (.slice z59.1.1 z59.1.2.1 z59.1.2.2) <|
 .chk ((isIface z59.2.1)=true) <|
 .cut 1 (.cons .str .nil) (
 .ite (isNil z59.2.1) (
 .call 84 #[(.pointer (some z58))] .str fun (s60:ByteArray)=>
 .leaf 1 [(.string s60)]) (
 .leaf 1 [(.string q2)]))
 (fun z=>jsonparser_findKeyStartConfig.t9 q1 q1_len q1_cap z0 i9 z10 z.1))) (
 .here fun (z100:World)=>
 .alloc (Obj.cells #[(.slice none 0 0)] 59 (0,0)) fun (z101:Addr)=>
 .grew z100 <|
 .here fun (z102:World)=>
 .call 83 #[(.string q2)] .slice fun (z103:(Option Addr×Nat×Nat))=>
 .grew z102 <|
 .call 82 #[(.agg #[(.bool z11.1),(.bool z11.2.1),(.int .i64 z11.2.2.1)]),(.slice z103.1 z103.2.1 z103.2.2),(.slice z12.1 z12.2.1 z12.2.2)] (.tuple (.cons .slice (.cons .any .nil))) fun (z104:((Option Addr×Nat×Nat)×(Value×PUnit)))=>
 .store z101 (.slice z104.1.1 z104.1.2.1 z104.1.2.2) <|
 .chk ((isIface z104.2.1)=true) <|
 .cut 1 (.cons .str .nil) (
 .ite (isNil z104.2.1) (
 .call 84 #[(.pointer (some z101))] .str fun (s105:ByteArray)=>
 .leaf 1 [(.string s105)]) (
 .leaf 1 [(.string q2)]))
 (fun z=>jsonparser_findKeyStartConfig.t15 q1 q1_len q1_cap z0 i9 z10 z.1))
def jsonparser_findKeyStartConfig.t1 (q1:(Option Addr)) (q1_len:Nat) (q1_cap:Nat) (q2:ByteArray) (z0:Addr) (i2:Int) (b8:Bool):T:=
 .cut 1 (.cons (.int .i64) .nil) (
 .ite b8 (
 .leaf 1 [(.int .i64 (IntKind.wrap .i64 (i2+1)))]) (
 .leaf 1 [(.int .i64 i2)]))
 (fun z=>jsonparser_findKeyStartConfig.t2 q1 q1_len q1_cap q2 z0 z.1)
def jsonparser_findKeyStartConfig.t (q0_0:Bool) (q0_1:Bool) (q0_2:Int) (q1:(Option Addr)) (q1_len:Nat) (q1_cap:Nat) (q2:ByteArray):T:=
 .alloc (Obj.cells #[(.bool q0_0),(.bool q0_1),(.int .i64 q0_2)] 81 (0,0)) fun (z0:Addr)=>
 .eff (Instr.loadAt 81 (.pointer (some z0))) (.agg (.cons .bool (.cons .bool (.cons (.int .i64) .nil)))) fun (z1:(Bool×(Bool×(Int×PUnit))))=>
 .call 66 #[(.agg #[(.bool z1.1),(.bool z1.2.1),(.int .i64 z1.2.2.1)]),(.slice q1 q1_len q1_cap)] (.int .i64) fun (i2:Int)=>
 .ite (i2==(-1)) (
 .drew <|
 .load (Addr.mk 1 0 Option.none) .any fun (v3:Value)=>
 .leaf 0 [(.int .i64 i2),v3]) (
 .cut 1 (.cons .bool .nil) (
 .chk ((0≤i2)∧(i2<(q1_len:Int))) <|
 .ptr q1 fun (z4:Addr)=>
 .load (Addr.add z4 ((Int.toNat i2) * 1)) (.int .u8) fun (i5:Int)=>
 .ite (i5==123) (
 .leaf 1 [(.bool true)]) (
 .chk ((0≤i2)∧(i2<(q1_len:Int))) <|
 .ptr q1 fun (z6:Addr)=>
 .load (Addr.add z6 ((Int.toNat i2) * 1)) (.int .u8) fun (i7:Int)=>
 .leaf 1 [(.bool (i7==91))]))
 (fun z=>jsonparser_findKeyStartConfig.t1 q1 q1_len q1_cap q2 z0 i2 z.1))
def jsonparser_findKeyStartConfig.h:Hints:=⟨[(44,[(8,(.int .i64))]),(56,[(2,.str)]),(65,[(65,.bool),(8,(.int .i64))]),(112,[])],[],[(5,[(44,.bool)]),(16,[(78,.bool)])],[(11,[(8,(.int .i64))])]⟩
noncomputable def jsonparser_findKeyStartConfig.c:Code:=(Tryz.f70.body).getD .skip
theorem jsonparser_findKeyStartConfig.e (q0_0:Bool) (q0_1:Bool) (q0_2:Int) (q1:(Option Addr)) (q1_len:Nat) (q1_cap:Nat) (q2:ByteArray):fnT Tryz.prog jsonparser_findKeyStartConfig.h Tryz.f70 jsonparser_findKeyStartConfig.c [.v (.agg #[(.bool q0_0),(.bool q0_1),(.int .i64 q0_2)]),.v (.slice q1 q1_len q1_cap),.v (.string q2)]=jsonparser_findKeyStartConfig.t q0_0 q0_1 q0_2 q1 q1_len q1_cap q2:=by kernel_rfl
theorem jsonparser_findKeyStartConfig.calls (q0_0:Bool) (q0_1:Bool) (q0_2:Int) (q1:(Option Addr)) (q1_len:Nat) (q1_cap:Nat) (q2:ByteArray) {w:World} {R:Ending→World→Prop} (hs:sat Tryz.prog (jsonparser_findKeyStartConfig.t q0_0 q0_1 q0_2 q1 q1_len q1_cap q2) (fun l vs w'=>l=0∧R (.returned (retVal vs)) w') w):Calls Tryz.prog 70 #[(.agg #[(.bool q0_0),(.bool q0_1),(.int .i64 q0_2)]),(.slice q1 q1_len q1_cap),(.string q2)] w R:=
 have h:=calls_of_tree (w:=w) (R:=R) (args:=[.v (.agg #[(.bool q0_0),(.bool q0_1),(.int .i64 q0_2)]),.v (.slice q1 q1_len q1_cap),.v (.string q2)]) (c:=jsonparser_findKeyStartConfig.c) Tryz.func70 (show Tryz.f70.body=some jsonparser_findKeyStartConfig.c by kernel_rfl) (of_decide_eq_true (by kernel_rfl)) (jsonparser_findKeyStartConfig.e q0_0 q0_1 q0_2 q1 q1_len q1_cap q2) hs
 h
def jsonparser_findTokenStart.t1 (data:(Option Addr)) (data_len:Nat) (token:Int) (i0:Int):T:=
 .ite (decide (i0 ≥ 0)) (
 .chk ((0≤i0)∧(i0<(data_len:Int))) <|
 .ptr data fun (z1:Addr)=>
 .load (Addr.add z1 ((Int.toNat i0) * 1)) (.int .u8) fun (i2:Int)=>
 .ite (i2==token) (
 .leaf 0 [(.int .i64 i0)]) (
 .ite (i2==91) (
 .ite (i2==91) (
 .leaf 0 [(.int .i64 0)]) (
 .leaf 1 [(.int .i64 (IntKind.wrap .i64 (i0-1)))])) (
 .ite (i2==123) (
 .leaf 0 [(.int .i64 0)]) (
 .leaf 1 [(.int .i64 (IntKind.wrap .i64 (i0-1)))])))) (
 .leaf 0 [(.int .i64 0)])
def jsonparser_findTokenStart.t (data:(Option Addr)) (data_len:Nat) (data_cap:Nat) (token:Int):T:=
 .loop 1 (.cons (.int .i64) .nil) [(.int .i64 (IntKind.wrap .i64 ((data_len:Int)-1)))]
 (fun z=>jsonparser_findTokenStart.t1 data data_len token z.1)
def jsonparser_findTokenStart.h:Hints:=⟨[],[],[],[(2,[(5,(.int .i64))])]⟩
noncomputable def jsonparser_findTokenStart.c:Code:=(Tryz.f72.body).getD .skip
theorem jsonparser_findTokenStart.e (data:(Option Addr)) (data_len:Nat) (data_cap:Nat) (token:Int):fnT Tryz.prog jsonparser_findTokenStart.h Tryz.f72 jsonparser_findTokenStart.c [.v (.slice data data_len data_cap),.v (.int .u8 token)]=jsonparser_findTokenStart.t data data_len data_cap token:=by kernel_rfl
theorem jsonparser_findTokenStart.calls (data:(Option Addr)) (data_len:Nat) (data_cap:Nat) (token:Int) {w:World} {R:Ending→World→Prop} (hs:sat Tryz.prog (jsonparser_findTokenStart.t data data_len data_cap token) (fun l vs w'=>l=0∧R (.returned (retVal vs)) w') w):Calls Tryz.prog 72 #[(.slice data data_len data_cap),(.int .u8 token)] w R:=
 have h:=calls_of_tree (w:=w) (R:=R) (args:=[.v (.slice data data_len data_cap),.v (.int .u8 token)]) (c:=jsonparser_findTokenStart.c) Tryz.func72 (show Tryz.f72.body=some jsonparser_findTokenStart.c by kernel_rfl) (of_decide_eq_true (by kernel_rfl)) (jsonparser_findTokenStart.e data data_len data_cap token) hs
 h
def jsonparser_isJSONWhitespace.t (b:Int):T:=
 .ite (b==32) (
 .leaf 0 [(.bool true)]) (
 .ite (b==9) (
 .leaf 0 [(.bool true)]) (
 .ite (b==10) (
 .leaf 0 [(.bool true)]) (
 .leaf 0 [(.bool (b==13))])))
def jsonparser_isJSONWhitespace.h:Hints:=⟨[],[],[],[]⟩
noncomputable def jsonparser_isJSONWhitespace.c:Code:=(Tryz.f73.body).getD .skip
theorem jsonparser_isJSONWhitespace.e (b:Int):fnT Tryz.prog jsonparser_isJSONWhitespace.h Tryz.f73 jsonparser_isJSONWhitespace.c [.v (.int .u8 b)]=jsonparser_isJSONWhitespace.t b:=by kernel_rfl
theorem jsonparser_isJSONWhitespace.calls (b:Int) {w:World} {R:Ending→World→Prop} (hs:sat Tryz.prog (jsonparser_isJSONWhitespace.t b) (fun l vs w'=>l=0∧R (.returned (retVal vs)) w') w):Calls Tryz.prog 73 #[(.int .u8 b)] w R:=
 have h:=calls_of_tree (w:=w) (R:=R) (args:=[.v (.int .u8 b)]) (c:=jsonparser_isJSONWhitespace.c) Tryz.func73 (show Tryz.f73.body=some jsonparser_isJSONWhitespace.c by kernel_rfl) (of_decide_eq_true (by kernel_rfl)) (jsonparser_isJSONWhitespace.e b) hs
 h
def jsonparser_StringToBytes.t (s:ByteArray):T:=
 .eff (convert 9 59 (.string s)) .slice fun (z0:(Option Addr×Nat×Nat))=>
 .leaf 0 [(.slice z0.1 z0.2.1 z0.2.2)]
def jsonparser_StringToBytes.h:Hints:=⟨[],[],[],[]⟩
noncomputable def jsonparser_StringToBytes.c:Code:=(Tryz.f83.body).getD .skip
theorem jsonparser_StringToBytes.e (s:ByteArray):fnT Tryz.prog jsonparser_StringToBytes.h Tryz.f83 jsonparser_StringToBytes.c [.v (.string s)]=jsonparser_StringToBytes.t s:=by kernel_rfl
theorem jsonparser_StringToBytes.calls (s:ByteArray) {w:World} {R:Ending→World→Prop} (hs:sat Tryz.prog (jsonparser_StringToBytes.t s) (fun l vs w'=>l=0∧R (.returned (retVal vs)) w') w):Calls Tryz.prog 83 #[(.string s)] w R:=
 have h:=calls_of_tree (w:=w) (R:=R) (args:=[.v (.string s)]) (c:=jsonparser_StringToBytes.c) Tryz.func83 (show Tryz.f83.body=some jsonparser_StringToBytes.c by kernel_rfl) (of_decide_eq_true (by kernel_rfl)) (jsonparser_StringToBytes.e s) hs
 h
def jsonparser_bytesToString.t (b:(Option Addr)):T:=
 .ptr b fun (z0:Addr)=>
 .load z0 .slice fun (z1:(Option Addr×Nat×Nat))=>
 .eff (convert 59 9 (.slice z1.1 z1.2.1 z1.2.2)) .str fun (s2:ByteArray)=>
 .leaf 0 [(.string s2)]
def jsonparser_bytesToString.h:Hints:=⟨[],[],[],[]⟩
noncomputable def jsonparser_bytesToString.c:Code:=(Tryz.f84.body).getD .skip
theorem jsonparser_bytesToString.e (b:(Option Addr)):fnT Tryz.prog jsonparser_bytesToString.h Tryz.f84 jsonparser_bytesToString.c [.v (.pointer b)]=jsonparser_bytesToString.t b:=by kernel_rfl
theorem jsonparser_bytesToString.calls (b:(Option Addr)) {w:World} {R:Ending→World→Prop} (hs:sat Tryz.prog (jsonparser_bytesToString.t b) (fun l vs w'=>l=0∧R (.returned (retVal vs)) w') w):Calls Tryz.prog 84 #[(.pointer b)] w R:=
 have h:=calls_of_tree (w:=w) (R:=R) (args:=[.v (.pointer b)]) (c:=jsonparser_bytesToString.c) Tryz.func84 (show Tryz.f84.body=some jsonparser_bytesToString.c by kernel_rfl) (of_decide_eq_true (by kernel_rfl)) (jsonparser_bytesToString.e b) hs
 h
def jsonparser_Delete.t (data:(Option Addr)) (data_len:Nat) (data_cap:Nat) (keys:(Option Addr)) (keys_len:Nat) (keys_cap:Nat):T:=
 .eff (Instr.loadAt 81 (.pointer (some (Addr.mk 0 0 Option.none)))) (.agg (.cons .bool (.cons .bool (.cons (.int .i64) .nil)))) fun (z0:(Bool×(Bool×(Int×PUnit))))=>
 .call 47 #[(.agg #[(.bool z0.1),(.bool z0.2.1),(.int .i64 z0.2.2.1)]),(.slice data data_len data_cap),(.slice keys keys_len keys_cap)] (.tuple (.cons .slice (.cons .bool .nil))) fun (z1:((Option Addr×Nat×Nat)×(Bool×PUnit)))=>
 .leaf 0 [(.slice z1.1.1 z1.1.2.1 z1.1.2.2)]
def jsonparser_Delete.h:Hints:=⟨[],[],[],[]⟩
noncomputable def jsonparser_Delete.c:Code:=(Tryz.f31.body).getD .skip
theorem jsonparser_Delete.e (data:(Option Addr)) (data_len:Nat) (data_cap:Nat) (keys:(Option Addr)) (keys_len:Nat) (keys_cap:Nat):fnT Tryz.prog jsonparser_Delete.h Tryz.f31 jsonparser_Delete.c [.v (.slice data data_len data_cap),.v (.slice keys keys_len keys_cap)]=jsonparser_Delete.t data data_len data_cap keys keys_len keys_cap:=by kernel_rfl
theorem jsonparser_Delete.calls (data:(Option Addr)) (data_len:Nat) (data_cap:Nat) (keys:(Option Addr)) (keys_len:Nat) (keys_cap:Nat) {w:World} {R:Ending→World→Prop} (hs:sat Tryz.prog (jsonparser_Delete.t data data_len data_cap keys keys_len keys_cap) (fun l vs w'=>l=0∧R (.returned (retVal vs)) w') w):Calls Tryz.prog 31 #[(.slice data data_len data_cap),(.slice keys keys_len keys_cap)] w R:=
 have h:=calls_of_tree (w:=w) (R:=R) (args:=[.v (.slice data data_len data_cap),.v (.slice keys keys_len keys_cap)]) (c:=jsonparser_Delete.c) Tryz.func31 (show Tryz.f31.body=some jsonparser_Delete.c by kernel_rfl) (of_decide_eq_true (by kernel_rfl)) (jsonparser_Delete.e data data_len data_cap keys keys_len keys_cap) hs
 h
def impl_JpDelete.t (text:ByteArray) (keys:(Option Addr)) (keys_len:Nat) (keys_cap:Nat):T:=
 .eff (convert 9 59 (.string text)) .slice fun (z0:(Option Addr×Nat×Nat))=>
 .call 31 #[(.slice z0.1 z0.2.1 z0.2.2),(.slice keys keys_len keys_cap)] .slice fun (z1:(Option Addr×Nat×Nat))=>
 .eff (convert 59 9 (.slice z1.1 z1.2.1 z1.2.2)) .str fun (s2:ByteArray)=>
 .leaf 0 [(.string s2)]
def impl_JpDelete.h:Hints:=⟨[],[],[],[]⟩
noncomputable def impl_JpDelete.c:Code:=(Tryz.f13.body).getD .skip
theorem impl_JpDelete.e (text:ByteArray) (keys:(Option Addr)) (keys_len:Nat) (keys_cap:Nat):fnT Tryz.prog impl_JpDelete.h Tryz.f13 impl_JpDelete.c [.v (.string text),.v (.slice keys keys_len keys_cap)]=impl_JpDelete.t text keys keys_len keys_cap:=by kernel_rfl
theorem impl_JpDelete.calls (text:ByteArray) (keys:(Option Addr)) (keys_len:Nat) (keys_cap:Nat) {w:World} {R:Ending→World→Prop} (hs:sat Tryz.prog (impl_JpDelete.t text keys keys_len keys_cap) (fun l vs w'=>l=0∧R (.returned (retVal vs)) w') w):Calls Tryz.prog 13 #[(.string text),(.slice keys keys_len keys_cap)] w R:=
 have h:=calls_of_tree (w:=w) (R:=R) (args:=[.v (.string text),.v (.slice keys keys_len keys_cap)]) (c:=impl_JpDelete.c) Tryz.func13 (show Tryz.f13.body=some impl_JpDelete.c by kernel_rfl) (of_decide_eq_true (by kernel_rfl)) (impl_JpDelete.e text keys keys_len keys_cap) hs
 h
end Go.Proofs.YtlfebfkphgelfaaGreatDoor.Tr
