import Derived.Test.YtlfebfkphgelfaaGreatDoorRz
import Derived.Test.YtlfebfkphgelfaaGreatDoorProg
import Derived.KernelRfl
namespace Go.Proofs.YtlfebfkphgelfaaGreatDoor.Tr
open Go Go.Proofs Rx
set_option linter.unusedVariables false
set_option maxRecDepth 100000
def jsonparser_Set.t (data:(Option Addr)) (data_len:Nat) (data_cap:Nat) (setValue:(Option Addr)) (setValue_len:Nat) (setValue_cap:Nat) (keys:(Option Addr)) (keys_len:Nat) (keys_cap:Nat):T:=
 .eff (Instr.loadAt 81 (.pointer (some (Addr.mk 0 0 Option.none)))) (.agg (.cons .bool (.cons .bool (.cons (.int .i64) .nil)))) fun (z0:(Bool×(Bool×(Int×PUnit))))=>
 .call 46 #[(.agg #[(.bool z0.1),(.bool z0.2.1),(.int .i64 z0.2.2.1)]),(.slice data data_len data_cap),(.slice setValue setValue_len setValue_cap),(.slice keys keys_len keys_cap)] (.tuple (.cons .slice (.cons .any .nil))) fun (z1:((Option Addr×Nat×Nat)×(Value×PUnit)))=>
 .leaf 0 [(.slice z1.1.1 z1.1.2.1 z1.1.2.2),z1.2.1]
def jsonparser_Set.h:Hints:=⟨[],[],[],[]⟩
noncomputable def jsonparser_Set.c:Code:=(Tryz.f30.body).getD .skip
theorem jsonparser_Set.e (data:(Option Addr)) (data_len:Nat) (data_cap:Nat) (setValue:(Option Addr)) (setValue_len:Nat) (setValue_cap:Nat) (keys:(Option Addr)) (keys_len:Nat) (keys_cap:Nat):fnT Tryz.prog jsonparser_Set.h Tryz.f30 jsonparser_Set.c [.v (.slice data data_len data_cap),.v (.slice setValue setValue_len setValue_cap),.v (.slice keys keys_len keys_cap)]=jsonparser_Set.t data data_len data_cap setValue setValue_len setValue_cap keys keys_len keys_cap:=by kernel_rfl
theorem jsonparser_Set.calls (data:(Option Addr)) (data_len:Nat) (data_cap:Nat) (setValue:(Option Addr)) (setValue_len:Nat) (setValue_cap:Nat) (keys:(Option Addr)) (keys_len:Nat) (keys_cap:Nat) {w:World} {R:Ending→World→Prop} (hs:sat Tryz.prog (jsonparser_Set.t data data_len data_cap setValue setValue_len setValue_cap keys keys_len keys_cap) (fun l vs w'=>l=0∧R (.returned (retVal vs)) w') w):Calls Tryz.prog 30 #[(.slice data data_len data_cap),(.slice setValue setValue_len setValue_cap),(.slice keys keys_len keys_cap)] w R:=
 have h:=calls_of_tree (w:=w) (R:=R) (args:=[.v (.slice data data_len data_cap),.v (.slice setValue setValue_len setValue_cap),.v (.slice keys keys_len keys_cap)]) (c:=jsonparser_Set.c) Tryz.func30 (show Tryz.f30.body=some jsonparser_Set.c by kernel_rfl) (of_decide_eq_true (by kernel_rfl)) (jsonparser_Set.e data data_len data_cap setValue setValue_len setValue_cap keys keys_len keys_cap) hs
 h
def jsonparser_setConfig.t1 (q1:(Option Addr)) (q1_len:Nat) (q1_cap:Nat) (q3:(Option Addr)) (q3_len:Nat) (q3_cap:Nat) (z0:Addr) (i7:Int) (i8:Int) (i9:Int) (i10:Int):T:=
 .ite (decide (i10<(q3_len:Int))) (
 .drew <|
 .effQ (Instr.loadAt 81 (.pointer (some z0))) (.agg (.cons .bool (.cons .bool (.cons (.int .i64) .nil)))) fun (z11:(Bool×(Bool×(Int×PUnit))))=>
 .chk (((0 :Int)≤(0 :Int))∧((0≤(IntKind.wrap .i64 (i10+1)))∧((IntKind.wrap .i64 (i10+1))≤(q3_cap:Int)))) <|
 .call 65 #[(.agg #[(.bool z11.1),(.bool z11.2.1),(.int .i64 z11.2.2.1)]),(.slice q1 q1_len q1_cap),(.slice (if (q3_cap=0) then q3 else (Option.map (fun (y12:Addr)=>(Addr.add y12 0)) q3)) ((Int.toNat (IntKind.wrap .i64 (i10+1)))-0) (q3_cap-0))] (.tuple (.cons .slice (.cons (.int .i64) (.cons (.int .i64) (.cons (.int .i64) (.cons .any .nil)))))) fun (z13:((Option Addr×Nat×Nat)×(Int×(Int×(Int×(Value×PUnit))))))=>
 .chk ((isIface z13.2.2.2.2.1)=true) <|
 .ite (!(isNil z13.2.2.2.2.1)) (
 .leaf 1 [(.int .i64 i7),(.int .i64 i8),(.int .i64 i9)]) (
 .leaf 2 [(.int .i64 z13.2.2.1),(.int .i64 (IntKind.wrap .i64 (i8+1))),(.int .i64 z13.2.2.2.1),(.int .i64 (IntKind.wrap .i64 (i10+1)))])) (
 .leaf 1 [(.int .i64 i7),(.int .i64 i8),(.int .i64 i9)])
def jsonparser_setConfig.t7 (b47:Bool) (i48:Int) (b49:Bool):T:=
 .leaf 5 [(.bool b47),(.int .i64 i48),(.bool b49)]
def jsonparser_setConfig.t8 (b50:Bool) (i51:Int) (b52:Bool):T:=
 .leaf 4 [(.bool b50),(.int .i64 i51),(.bool b52)]
def jsonparser_setConfig.t9 (i18:Int) (i37:Int) (b54:Bool) (i55:Int) (b56:Bool):T:=
 .leaf 3 [(.bool b54),(.int .i64 (IntKind.wrap .i64 ((IntKind.wrap .i64 (i18+i37))-1))),(.int .i64 i18),(.int .i64 i55),(.bool b56),(.bool true)]
def jsonparser_setConfig.t10 (q1:(Option Addr)) (q1_len:Nat) (q1_cap:Nat) (b64:Bool):T:=
 .call 67 #[(.slice q1 q1_len q1_cap)] (.int .i64) fun (i65:Int)=>
 .leaf 3 [(.bool b64),(.int .i64 i65),(.int .i64 0),(.int .i64 0),(.bool false),(.bool false)]
def jsonparser_setConfig.t11 (b66:Bool) (i67:Int) (i68:Int) (i69:Int) (b70:Bool) (b71:Bool):T:=
 .leaf 2 [(.bool false),(.bool b66),(.int .i64 i67),(.int .i64 0),(.int .i64 i68),(.int .i64 i69),(.bool b70),(.bool b71),(.bool false)]
def jsonparser_setConfig.t6 (q1:(Option Addr)) (q1_len:Nat) (q1_cap:Nat) (z0:Addr) (i18:Int) (i29:Int) (b34:Bool):T:=
 .cut 3 (.cons .bool (.cons (.int .i64) (.cons (.int .i64) (.cons (.int .i64) (.cons .bool (.cons .bool .nil)))))) (
 .ite b34 (
 .drew <|
 .effS (Instr.loadAt 81 (.pointer (some z0))) (.agg (.cons .bool (.cons .bool (.cons (.int .i64) .nil)))) fun (z35:(Bool×(Bool×(Int×PUnit))))=>
 .chk ((0≤i18)∧((i18≤(q1_len:Int))∧((q1_len:Int)≤(q1_cap:Int)))) <|
 .call 68 #[(.agg #[(.bool z35.1),(.bool z35.2.1),(.int .i64 z35.2.2.1)]),(.slice (if (q1_cap=(Int.toNat i18)) then q1 else (Option.map (fun (y36:Addr)=>(Addr.add y36 ((Int.toNat i18) * 1))) q1)) ((Int.toNat (q1_len:Int))-(Int.toNat i18)) (q1_cap-(Int.toNat i18))),(.int .u8 91),(.int .u8 93)] (.int .i64) fun (i37:Int)=>
 .ite (i37==(-1)) (
 .drew <|
 .load (Addr.mk 2 0 Option.none) .any fun (v38:Value)=>
 .leaf 0 [(.slice none 0 0),v38]) (
 .chk ((0≤(IntKind.wrap .i64 (i18+1)))∧(((IntKind.wrap .i64 (i18+1))≤(IntKind.wrap .i64 ((IntKind.wrap .i64 (i18+i37))-1)))∧((IntKind.wrap .i64 ((IntKind.wrap .i64 (i18+i37))-1))≤(q1_cap:Int)))) <|
 .call 67 #[(.slice (if (q1_cap=(Int.toNat (IntKind.wrap .i64 (i18+1)))) then q1 else (Option.map (fun (y39:Addr)=>(Addr.add y39 ((Int.toNat (IntKind.wrap .i64 (i18+1))) * 1))) q1)) ((Int.toNat (IntKind.wrap .i64 ((IntKind.wrap .i64 (i18+i37))-1)))-(Int.toNat (IntKind.wrap .i64 (i18+1)))) (q1_cap-(Int.toNat (IntKind.wrap .i64 (i18+1)))))] (.int .i64) fun (i40:Int)=>
 .cut 4 (.cons .bool (.cons (.int .i64) (.cons .bool .nil))) (
 .ite (i40==(-1)) (
 .leaf 4 [(.bool false),(.int .i64 (IntKind.wrap .i64 ((IntKind.wrap .i64 (i18+i37))-1))),(.bool true)]) (
 .chk ((0≤i40)∧(i40<((((Int.toNat (IntKind.wrap .i64 ((IntKind.wrap .i64 (i18+i37))-1)))-(Int.toNat (IntKind.wrap .i64 (i18+1)))):Nat):Int))) <|
 .ptr (if (q1_cap=(Int.toNat (IntKind.wrap .i64 (i18+1)))) then q1 else (Option.map (fun (y53:Addr)=>(Addr.add y53 ((Int.toNat (IntKind.wrap .i64 (i18+1))) * 1))) q1)) fun (z41:Addr)=>
 .load (Addr.add z41 ((Int.toNat i40) * 1)) (.int .u8) fun (i42:Int)=>
 .cut 5 (.cons .bool (.cons (.int .i64) (.cons .bool .nil))) (
 .ite (i42==44) (
 .chk (((0 :Int)≤(0 :Int))∧((0≤i40)∧(i40≤(((q1_cap-(Int.toNat (IntKind.wrap .i64 (i18+1)))):Nat):Int)))) <|
 .call 67 #[(.slice (if ((q1_cap-(Int.toNat (IntKind.wrap .i64 (i18+1))))=0) then (if (q1_cap=(Int.toNat (IntKind.wrap .i64 (i18+1)))) then q1 else (Option.map (fun (y43:Addr)=>(Addr.add y43 ((Int.toNat (IntKind.wrap .i64 (i18+1))) * 1))) q1)) else (Option.map (fun (y44:Addr)=>(Addr.add y44 0)) (if (q1_cap=(Int.toNat (IntKind.wrap .i64 (i18+1)))) then q1 else (Option.map (fun (y45:Addr)=>(Addr.add y45 ((Int.toNat (IntKind.wrap .i64 (i18+1))) * 1))) q1)))) ((Int.toNat i40)-0) ((q1_cap-(Int.toNat (IntKind.wrap .i64 (i18+1))))-0))] (.int .i64) fun (i46:Int)=>
 .cut 6 (.cons .bool (.cons (.int .i64) (.cons .bool .nil))) (
 .ite (i46==(-1)) (
 .leaf 6 [(.bool false),(.int .i64 (IntKind.wrap .i64 ((IntKind.wrap .i64 (i18+i37))-1))),(.bool true)]) (
 .leaf 6 [(.bool true),(.int .i64 (IntKind.wrap .i64 ((IntKind.wrap .i64 (i18+1))+i40))),(.bool false)]))
 (fun z=>jsonparser_setConfig.t7 z.1 z.2.1 z.2.2.1)) (
 .leaf 5 [(.bool true),(.int .i64 (IntKind.wrap .i64 ((IntKind.wrap .i64 (i18+i37))-1))),(.bool false)]))
 (fun z=>jsonparser_setConfig.t8 z.1 z.2.1 z.2.2.1)))
 (fun z=>jsonparser_setConfig.t9 i18 i37 z.1 z.2.1 z.2.2.1))) (
 .ite (!(i29==123)) (
 .drew <|
 .load (Addr.mk 1 0 Option.none) .any fun (v57:Value)=>
 .leaf 0 [(.slice none 0 0),v57]) (
 .drew <|
 .effQ (Instr.loadAt 81 (.pointer (some z0))) (.agg (.cons .bool (.cons .bool (.cons (.int .i64) .nil)))) fun (z58:(Bool×(Bool×(Int×PUnit))))=>
 .chk ((0≤(IntKind.wrap .i64 (i18+1)))∧(((IntKind.wrap .i64 (i18+1))≤(q1_len:Int))∧((q1_len:Int)≤(q1_cap:Int)))) <|
 .here fun (z59:World)=>
 .call 66 #[(.agg #[(.bool z58.1),(.bool z58.2.1),(.int .i64 z58.2.2.1)]),(.slice (if (q1_cap=(Int.toNat (IntKind.wrap .i64 (i18+1)))) then q1 else (Option.map (fun (y60:Addr)=>(Addr.add y60 ((Int.toNat (IntKind.wrap .i64 (i18+1))) * 1))) q1)) ((Int.toNat (q1_len:Int))-(Int.toNat (IntKind.wrap .i64 (i18+1)))) (q1_cap-(Int.toNat (IntKind.wrap .i64 (i18+1)))))] (.int .i64) fun (i61:Int)=>
 .grew z59 <|
 .chk ((0≤(IntKind.wrap .i64 ((IntKind.wrap .i64 (i18+1))+i61)))∧((IntKind.wrap .i64 ((IntKind.wrap .i64 (i18+1))+i61))<(q1_len:Int))) <|
 .ptr q1 fun (z62:Addr)=>
 .load (Addr.add z62 ((Int.toNat (IntKind.wrap .i64 ((IntKind.wrap .i64 (i18+1))+i61))) * 1)) (.int .u8) fun (i63:Int)=>
 .cut 4 (.cons .bool .nil) (
 .ite (i63==125) (
 .leaf 4 [(.bool false)]) (
 .leaf 4 [(.bool true)]))
 (fun z=>jsonparser_setConfig.t10 q1 q1_len q1_cap z.1))))
 (fun z=>jsonparser_setConfig.t11 z.1 z.2.1 z.2.2.1 z.2.2.2.1 z.2.2.2.2.1 z.2.2.2.2.2.1)
def jsonparser_setConfig.t12 (b72:Bool) (b73:Bool) (i74:Int) (i75:Int) (i76:Int) (i77:Int) (b78:Bool) (b79:Bool) (b80:Bool):T:=
 .leaf 1 [(.bool b72),(.bool b73),(.int .i64 i74),(.int .i64 i75),(.int .i64 i76),(.int .i64 i77),(.bool b78),(.bool b79),(.bool b80)]
def jsonparser_setConfig.t5 (q1:(Option Addr)) (q1_len:Nat) (q1_cap:Nat) (z0:Addr) (i18:Int) (b24:Bool) (i29:Int) (i31:Int) (b32:Bool):T:=
 .cut 2 (.cons .bool (.cons .bool (.cons (.int .i64) (.cons (.int .i64) (.cons (.int .i64) (.cons (.int .i64) (.cons .bool (.cons .bool (.cons .bool .nil))))))))) (
 .ite b32 (
 .call 67 #[(.slice q1 q1_len q1_cap)] (.int .i64) fun (i33:Int)=>
 .leaf 2 [(.bool (!b24)),(.bool false),(.int .i64 i33),(.int .i64 i18),(.int .i64 0),(.int .i64 0),(.bool false),(.bool false),(.bool true)]) (
 .cut 3 (.cons .bool .nil) (
 .ite b24 (
 .leaf 3 [(.bool (i31==91))]) (
 .leaf 3 [(.bool false)]))
 (fun z=>jsonparser_setConfig.t6 q1 q1_len q1_cap z0 i18 i29 z.1)))
 (fun z=>jsonparser_setConfig.t12 z.1 z.2.1 z.2.2.1 z.2.2.2.1 z.2.2.2.2.1 z.2.2.2.2.2.1 z.2.2.2.2.2.2.1 z.2.2.2.2.2.2.2.1 z.2.2.2.2.2.2.2.2.1)
def jsonparser_setConfig.t4 (q1:(Option Addr)) (q1_len:Nat) (q1_cap:Nat) (z0:Addr) (i18:Int) (b24:Bool) (b27:Bool):T:=
 .chk ((0≤i18)∧(i18<(q1_len:Int))) <|
 .ptr q1 fun (z28:Addr)=>
 .load (Addr.add z28 ((Int.toNat i18) * 1)) (.int .u8) fun (i29:Int)=>
 .chk ((0≤i18)∧(i18<(q1_len:Int))) <|
 .ptr q1 fun (z30:Addr)=>
 .load (Addr.add z30 ((Int.toNat i18) * 1)) (.int .u8) fun (i31:Int)=>
 .cut 2 (.cons .bool .nil) (
 .ite b24 (
 .ite (i29==123) (
 .leaf 2 [(.bool true)]) (
 .ite b27 (
 .leaf 2 [(.bool (i31==91))]) (
 .leaf 2 [(.bool false)]))) (
 .ite b27 (
 .leaf 2 [(.bool (i31==91))]) (
 .leaf 2 [(.bool false)])))
 (fun z=>jsonparser_setConfig.t5 q1 q1_len q1_cap z0 i18 b24 i29 i31 z.1)
def jsonparser_setConfig.t3 (q1:(Option Addr)) (q1_len:Nat) (q1_cap:Nat) (q3:(Option Addr)) (q3_len:Nat) (z0:Addr) (i18:Int) (b24:Bool):T:=
 .cut 2 (.cons .bool .nil) (
 .chk (((0 :Int)≤(0 :Int))∧(0<(q3_len:Int))) <|
 .ptr q3 fun (z25:Addr)=>
 .load (Addr.add z25 0) .str fun (s26:ByteArray)=>
 .ite (decide (((ByteArray.size s26):Int) > 0)) (
 .leaf 2 [(.bool (!b24))]) (
 .leaf 2 [(.bool false)]))
 (fun z=>jsonparser_setConfig.t4 q1 q1_len q1_cap z0 i18 b24 z.1)
def jsonparser_setConfig.t17 (i117:Int) (i118:Int) (b119:Bool) (b120:Bool):T:=
 .leaf 2 [(.int .i64 i117),(.int .i64 i118),(.bool b119),(.bool b120)]
def jsonparser_setConfig.t16 (i14:Int) (b81:Bool) (b82:Bool) (i83:Int) (b116:Bool):T:=
 .cut 3 (.cons (.int .i64) (.cons (.int .i64) (.cons .bool (.cons .bool .nil)))) (
 .ite b116 (
 .leaf 3 [(.int .i64 (IntKind.wrap .i64 (i83-1))),(.int .i64 (IntKind.wrap .i64 (i83-1))),(.bool b81),(.bool b82)]) (
 .leaf 3 [(.int .i64 i83),(.int .i64 i14),(.bool true),(.bool false)]))
 (fun z=>jsonparser_setConfig.t17 z.1 z.2.1 z.2.2.1 z.2.2.2.1)
def jsonparser_setConfig.t18 (i121:Int) (i122:Int) (b123:Bool) (b124:Bool):T:=
 .leaf 1 [(.int .i64 i121),(.int .i64 i122),(.bool b123),(.bool b124)]
def jsonparser_setConfig.t15 (q1:(Option Addr)) (q1_len:Nat) (q1_cap:Nat) (z0:Addr) (i14:Int) (b81:Bool) (b82:Bool) (i83:Int) (b96:Bool) (i98:Int) (i100:Int) (b101:Bool):T:=
 .cut 2 (.cons (.int .i64) (.cons (.int .i64) (.cons .bool (.cons .bool .nil)))) (
 .ite b101 (
 .leaf 2 [(.int .i64 i83),(.int .i64 i14),(.bool (!b96)),(.bool false)]) (
 .drew <|
 .effQ (Instr.loadAt 81 (.pointer (some z0))) (.agg (.cons .bool (.cons .bool (.cons (.int .i64) .nil)))) fun (z102:(Bool×(Bool×(Int×PUnit))))=>
 .chk ((0≤(IntKind.wrap .i64 (i14+1)))∧(((IntKind.wrap .i64 (i14+1))≤(q1_len:Int))∧((q1_len:Int)≤(q1_cap:Int)))) <|
 .here fun (z103:World)=>
 .call 66 #[(.agg #[(.bool z102.1),(.bool z102.2.1),(.int .i64 z102.2.2.1)]),(.slice (if (q1_cap=(Int.toNat (IntKind.wrap .i64 (i14+1)))) then q1 else (Option.map (fun (y104:Addr)=>(Addr.add y104 ((Int.toNat (IntKind.wrap .i64 (i14+1))) * 1))) q1)) ((Int.toNat (q1_len:Int))-(Int.toNat (IntKind.wrap .i64 (i14+1)))) (q1_cap-(Int.toNat (IntKind.wrap .i64 (i14+1)))))] (.int .i64) fun (i105:Int)=>
 .grew z103 <|
 .cut 3 (.cons .bool .nil) (
 .ite (i98==123) (
 .ite (decide ((IntKind.wrap .i64 ((IntKind.wrap .i64 (i14+1))+i105)) ≥ 0)) (
 .ite (decide ((IntKind.wrap .i64 ((IntKind.wrap .i64 (i14+1))+i105))<(q1_len:Int))) (
 .chk ((0≤(IntKind.wrap .i64 ((IntKind.wrap .i64 (i14+1))+i105)))∧((IntKind.wrap .i64 ((IntKind.wrap .i64 (i14+1))+i105))<(q1_len:Int))) <|
 .ptr q1 fun (z106:Addr)=>
 .load (Addr.add z106 ((Int.toNat (IntKind.wrap .i64 ((IntKind.wrap .i64 (i14+1))+i105))) * 1)) (.int .u8) fun (i107:Int)=>
 .ite (i107 != 125) (
 .leaf 3 [(.bool true)]) (
 .ite (i100==91) (
 .ite (decide ((IntKind.wrap .i64 ((IntKind.wrap .i64 (i14+1))+i105)) ≥ 0)) (
 .ite (decide ((IntKind.wrap .i64 ((IntKind.wrap .i64 (i14+1))+i105))<(q1_len:Int))) (
 .chk ((0≤(IntKind.wrap .i64 ((IntKind.wrap .i64 (i14+1))+i105)))∧((IntKind.wrap .i64 ((IntKind.wrap .i64 (i14+1))+i105))<(q1_len:Int))) <|
 .ptr q1 fun (z108:Addr)=>
 .load (Addr.add z108 ((Int.toNat (IntKind.wrap .i64 ((IntKind.wrap .i64 (i14+1))+i105))) * 1)) (.int .u8) fun (i109:Int)=>
 .ite (i109 != 93) (
 .leaf 3 [(.bool b96)]) (
 .leaf 3 [(.bool false)])) (
 .leaf 3 [(.bool false)])) (
 .leaf 3 [(.bool false)])) (
 .leaf 3 [(.bool false)]))) (
 .ite (i100==91) (
 .ite (decide ((IntKind.wrap .i64 ((IntKind.wrap .i64 (i14+1))+i105)) ≥ 0)) (
 .ite (decide ((IntKind.wrap .i64 ((IntKind.wrap .i64 (i14+1))+i105))<(q1_len:Int))) (
 .chk ((0≤(IntKind.wrap .i64 ((IntKind.wrap .i64 (i14+1))+i105)))∧((IntKind.wrap .i64 ((IntKind.wrap .i64 (i14+1))+i105))<(q1_len:Int))) <|
 .ptr q1 fun (z110:Addr)=>
 .load (Addr.add z110 ((Int.toNat (IntKind.wrap .i64 ((IntKind.wrap .i64 (i14+1))+i105))) * 1)) (.int .u8) fun (i111:Int)=>
 .ite (i111 != 93) (
 .leaf 3 [(.bool b96)]) (
 .leaf 3 [(.bool false)])) (
 .leaf 3 [(.bool false)])) (
 .leaf 3 [(.bool false)])) (
 .leaf 3 [(.bool false)]))) (
 .ite (i100==91) (
 .ite (decide ((IntKind.wrap .i64 ((IntKind.wrap .i64 (i14+1))+i105)) ≥ 0)) (
 .ite (decide ((IntKind.wrap .i64 ((IntKind.wrap .i64 (i14+1))+i105))<(q1_len:Int))) (
 .chk ((0≤(IntKind.wrap .i64 ((IntKind.wrap .i64 (i14+1))+i105)))∧((IntKind.wrap .i64 ((IntKind.wrap .i64 (i14+1))+i105))<(q1_len:Int))) <|
 .ptr q1 fun (z112:Addr)=>
 .load (Addr.add z112 ((Int.toNat (IntKind.wrap .i64 ((IntKind.wrap .i64 (i14+1))+i105))) * 1)) (.int .u8) fun (i113:Int)=>
 .ite (i113 != 93) (
 .leaf 3 [(.bool b96)]) (
 .leaf 3 [(.bool false)])) (
 .leaf 3 [(.bool false)])) (
 .leaf 3 [(.bool false)])) (
 .leaf 3 [(.bool false)]))) (
 .ite (i100==91) (
 .ite (decide ((IntKind.wrap .i64 ((IntKind.wrap .i64 (i14+1))+i105)) ≥ 0)) (
 .ite (decide ((IntKind.wrap .i64 ((IntKind.wrap .i64 (i14+1))+i105))<(q1_len:Int))) (
 .chk ((0≤(IntKind.wrap .i64 ((IntKind.wrap .i64 (i14+1))+i105)))∧((IntKind.wrap .i64 ((IntKind.wrap .i64 (i14+1))+i105))<(q1_len:Int))) <|
 .ptr q1 fun (z114:Addr)=>
 .load (Addr.add z114 ((Int.toNat (IntKind.wrap .i64 ((IntKind.wrap .i64 (i14+1))+i105))) * 1)) (.int .u8) fun (i115:Int)=>
 .ite (i115 != 93) (
 .leaf 3 [(.bool b96)]) (
 .leaf 3 [(.bool false)])) (
 .leaf 3 [(.bool false)])) (
 .leaf 3 [(.bool false)])) (
 .leaf 3 [(.bool false)])))
 (fun z=>jsonparser_setConfig.t16 i14 b81 b82 i83 z.1)))
 (fun z=>jsonparser_setConfig.t18 z.1 z.2.1 z.2.2.1 z.2.2.2.1)
def jsonparser_setConfig.t14 (q1:(Option Addr)) (q1_len:Nat) (q1_cap:Nat) (z0:Addr) (i14:Int) (b81:Bool) (b82:Bool) (i83:Int) (b96:Bool):T:=
 .chk ((0≤i14)∧(i14<(q1_len:Int))) <|
 .ptr q1 fun (z97:Addr)=>
 .load (Addr.add z97 ((Int.toNat i14) * 1)) (.int .u8) fun (i98:Int)=>
 .chk ((0≤i14)∧(i14<(q1_len:Int))) <|
 .ptr q1 fun (z99:Addr)=>
 .load (Addr.add z99 ((Int.toNat i14) * 1)) (.int .u8) fun (i100:Int)=>
 .cut 2 (.cons .bool .nil) (
 .ite b96 (
 .ite (i98==123) (
 .leaf 2 [(.bool true)]) (
 .ite (!b96) (
 .leaf 2 [(.bool (i100==91))]) (
 .leaf 2 [(.bool false)]))) (
 .ite (!b96) (
 .leaf 2 [(.bool (i100==91))]) (
 .leaf 2 [(.bool false)])))
 (fun z=>jsonparser_setConfig.t15 q1 q1_len q1_cap z0 i14 b81 b82 i83 b96 i98 i100 z.1)
def jsonparser_setConfig.t19 (i125:Int) (i126:Int):T:=
 .leaf 3 [(.int .i64 i125),(.int .i64 i126)]
def jsonparser_setConfig.t20 (i127:Int) (i128:Int):T:=
 .leaf 2 [(.int .i64 i127),(.int .i64 i128)]
def jsonparser_setConfig.t21 (b81:Bool) (b82:Bool) (i129:Int) (i130:Int):T:=
 .leaf 1 [(.int .i64 i129),(.int .i64 i130),(.bool b81),(.bool b82)]
def jsonparser_setConfig.t22 (q1:(Option Addr)) (q1_len:Nat) (q1_cap:Nat) (q2:(Option Addr)) (q2_len:Nat) (q2_cap:Nat) (q3:(Option Addr)) (q3_len:Nat) (q3_cap:Nat) (i15:Int) (i131:Int) (i132:Int) (b133:Bool) (b134:Bool):T:=
 .chk ((0≤i15)∧((i15≤(q3_len:Int))∧((q3_len:Int)≤(q3_cap:Int)))) <|
 .call 69 #[(.slice (if (q3_cap=(Int.toNat i15)) then q3 else (Option.map (fun (y135:Addr)=>(Addr.add y135 ((Int.toNat i15) * 1))) q3)) ((Int.toNat (q3_len:Int))-(Int.toNat i15)) (q3_cap-(Int.toNat i15))),(.slice q2 q2_len q2_cap),(.bool b134),(.bool b133)] .slice fun (z136:(Option Addr×Nat×Nat))=>
 .eff (Instr.makeSlice 59 (.int .i64 (IntKind.wrap .i64 ((IntKind.wrap .i64 ((IntKind.wrap .i64 (i132+(z136.2.1:Int)))+(q1_len:Int)))-i131))) (.int .i64 (IntKind.wrap .i64 ((IntKind.wrap .i64 ((IntKind.wrap .i64 (i132+(z136.2.1:Int)))+(q1_len:Int)))-i131)))) .slice fun (z137:(Option Addr×Nat×Nat))=>
 .chk (((0 :Int)≤(0 :Int))∧((0≤i132)∧(i132≤(q1_cap:Int)))) <|
 .eff (Builtin.copy_ (Call.argTypes (Call.mk (Callee.builtin Builtin.copy) #[(Operand.tmp 337),(Operand.tmp 340)] #[59,59])) 3 #[(.slice z137.1 z137.2.1 z137.2.2),(.slice (if (q1_cap=0) then q1 else (Option.map (fun (y138:Addr)=>(Addr.add y138 0)) q1)) ((Int.toNat i132)-0) (q1_cap-0))]) (.int .i64) fun (i139:Int)=>
 .chk ((0≤i139)∧((i139≤(z137.2.1:Int))∧((z137.2.1:Int)≤(z137.2.2:Int)))) <|
 .eff (Builtin.copy_ (Call.argTypes (Call.mk (Callee.builtin Builtin.copy) #[(Operand.tmp 345),(Operand.tmp 346)] #[59,59])) 3 #[(.slice (if (z137.2.2=(Int.toNat i139)) then z137.1 else (Option.map (fun (y140:Addr)=>(Addr.add y140 ((Int.toNat i139) * 1))) z137.1)) ((Int.toNat (z137.2.1:Int))-(Int.toNat i139)) (z137.2.2-(Int.toNat i139))),(.slice z136.1 z136.2.1 z136.2.2)]) (.int .i64) fun (i141:Int)=>
 .drew <|
 .chk ((0≤(IntKind.wrap .i64 (i139+i141)))∧(((IntKind.wrap .i64 (i139+i141))≤(z137.2.1:Int))∧((z137.2.1:Int)≤(z137.2.2:Int)))) <|
 .chk ((0≤i131)∧((i131≤(q1_len:Int))∧((q1_len:Int)≤(q1_cap:Int)))) <|
 .eff (Builtin.copy_ (Call.argTypes (Call.mk (Callee.builtin Builtin.copy) #[(Operand.tmp 351),(Operand.tmp 354)] #[59,59])) 3 #[(.slice (if (z137.2.2=(Int.toNat (IntKind.wrap .i64 (i139+i141)))) then z137.1 else (Option.map (fun (y142:Addr)=>(Addr.add y142 ((Int.toNat (IntKind.wrap .i64 (i139+i141))) * 1))) z137.1)) ((Int.toNat (z137.2.1:Int))-(Int.toNat (IntKind.wrap .i64 (i139+i141)))) (z137.2.2-(Int.toNat (IntKind.wrap .i64 (i139+i141))))),(.slice (if (q1_cap=(Int.toNat i131)) then q1 else (Option.map (fun (y143:Addr)=>(Addr.add y143 ((Int.toNat i131) * 1))) q1)) ((Int.toNat (q1_len:Int))-(Int.toNat i131)) (q1_cap-(Int.toNat i131)))]) (.int .i64) fun (i144:Int)=>
 .leaf 0 [(.slice z137.1 z137.2.1 z137.2.2),Value.nilIface]
def jsonparser_setConfig.t13 (q1:(Option Addr)) (q1_len:Nat) (q1_cap:Nat) (q2:(Option Addr)) (q2_len:Nat) (q2_cap:Nat) (q3:(Option Addr)) (q3_len:Nat) (q3_cap:Nat) (z0:Addr) (i14:Int) (i15:Int) (b81:Bool) (b82:Bool) (i83:Int) (i84:Int) (i85:Int) (i86:Int) (b87:Bool) (b88:Bool) (b89:Bool):T:=
 .cut 1 (.cons (.int .i64) (.cons (.int .i64) (.cons .bool (.cons .bool .nil)))) (
 .ite (i15 != 0) (
 .chk ((0≤i15)∧((i15≤(q3_len:Int))∧((q3_len:Int)≤(q3_cap:Int)))) <|
 .cut 2 (.cons .bool .nil) (
 .ite (decide (((((Int.toNat (q3_len:Int))-(Int.toNat i15)):Nat):Int) > 0)) (
 .chk (((0 :Int)≤(0 :Int))∧(0<((((Int.toNat (q3_len:Int))-(Int.toNat i15)):Nat):Int))) <|
 .ptr (if (q3_cap=(Int.toNat i15)) then q3 else (Option.map (fun (y95:Addr)=>(Addr.add y95 ((Int.toNat i15) * 1))) q3)) fun (z90:Addr)=>
 .load (Addr.add z90 0) .str fun (s91:ByteArray)=>
 .ite (decide (((ByteArray.size s91):Int) > 0)) (
 .chk (((0 :Int)≤(0 :Int))∧(0<((((Int.toNat (q3_len:Int))-(Int.toNat i15)):Nat):Int))) <|
 .ptr (if (q3_cap=(Int.toNat i15)) then q3 else (Option.map (fun (y94:Addr)=>(Addr.add y94 ((Int.toNat i15) * 1))) q3)) fun (z92:Addr)=>
 .load (Addr.add z92 0) .str fun (s93:ByteArray)=>
 .chk (((0 :Int)≤(0 :Int))∧(0<((ByteArray.size s93):Int))) <|
 .leaf 2 [(.bool ((bt s93 0)==91))]) (
 .leaf 2 [(.bool false)])) (
 .leaf 2 [(.bool false)]))
 (fun z=>jsonparser_setConfig.t14 q1 q1_len q1_cap z0 i14 b81 b82 i83 z.1)) (
 .cut 2 (.cons (.int .i64) (.cons (.int .i64) .nil)) (
 .ite b89 (
 .leaf 2 [(.int .i64 (IntKind.wrap .i64 (i83+1))),(.int .i64 i84)]) (
 .cut 3 (.cons (.int .i64) (.cons (.int .i64) .nil)) (
 .ite b88 (
 .cut 4 (.cons (.int .i64) (.cons (.int .i64) .nil)) (
 .ite b87 (
 .leaf 4 [(.int .i64 (IntKind.wrap .i64 (i83+1))),(.int .i64 i85)]) (
 .leaf 4 [(.int .i64 i83),(.int .i64 i86)]))
 (fun z=>jsonparser_setConfig.t19 z.1 z.2.1)) (
 .leaf 3 [(.int .i64 i83),(.int .i64 i83)]))
 (fun z=>jsonparser_setConfig.t20 z.1 z.2.1)))
 (fun z=>jsonparser_setConfig.t21 b81 b82 z.1 z.2.1)))
 (fun z=>jsonparser_setConfig.t22 q1 q1_len q1_cap q2 q2_len q2_cap q3 q3_len q3_cap i15 z.1 z.2.1 z.2.2.1 z.2.2.2.1)
def jsonparser_setConfig.t2 (q1:(Option Addr)) (q1_len:Nat) (q1_cap:Nat) (q2:(Option Addr)) (q2_len:Nat) (q2_cap:Nat) (q3:(Option Addr)) (q3_len:Nat) (q3_cap:Nat) (z0:Addr) (i14:Int) (i15:Int) (i16:Int):T:=
 .cut 1 (.cons .bool (.cons .bool (.cons (.int .i64) (.cons (.int .i64) (.cons (.int .i64) (.cons (.int .i64) (.cons .bool (.cons .bool (.cons .bool .nil))))))))) (
 .ite (i16==(-1)) (
 .eff (Instr.loadAt 81 (.pointer (some z0))) (.agg (.cons .bool (.cons .bool (.cons (.int .i64) .nil)))) fun (z17:(Bool×(Bool×(Int×PUnit))))=>
 .call 66 #[(.agg #[(.bool z17.1),(.bool z17.2.1),(.int .i64 z17.2.2.1)]),(.slice q1 q1_len q1_cap)] (.int .i64) fun (i18:Int)=>
 .ite (decide (i18<0)) (
 .drew <|
 .load (Addr.mk 1 0 Option.none) .any fun (v19:Value)=>
 .leaf 0 [(.slice none 0 0),v19]) (
 .cut 2 (.cons .bool .nil) (
 .chk (((0 :Int)≤(0 :Int))∧(0<(q3_len:Int))) <|
 .ptr q3 fun (z20:Addr)=>
 .load (Addr.add z20 0) .str fun (s21:ByteArray)=>
 .ite (decide (((ByteArray.size s21):Int) > 0)) (
 .chk (((0 :Int)≤(0 :Int))∧(0<(q3_len:Int))) <|
 .ptr q3 fun (z22:Addr)=>
 .load (Addr.add z22 0) .str fun (s23:ByteArray)=>
 .chk (((0 :Int)≤(0 :Int))∧(0<((ByteArray.size s23):Int))) <|
 .leaf 2 [(.bool ((bt s23 0)==91))]) (
 .leaf 2 [(.bool false)]))
 (fun z=>jsonparser_setConfig.t3 q1 q1_len q1_cap q3 q3_len z0 i18 z.1))) (
 .leaf 1 [(.bool false),(.bool true),(.int .i64 i16),(.int .i64 0),(.int .i64 0),(.int .i64 0),(.bool false),(.bool false),(.bool false)]))
 (fun z=>jsonparser_setConfig.t13 q1 q1_len q1_cap q2 q2_len q2_cap q3 q3_len q3_cap z0 i14 i15 z.1 z.2.1 z.2.2.1 z.2.2.2.1 z.2.2.2.2.1 z.2.2.2.2.2.1 z.2.2.2.2.2.2.1 z.2.2.2.2.2.2.2.1 z.2.2.2.2.2.2.2.2.1)
def jsonparser_setConfig.t (q0_0:Bool) (q0_1:Bool) (q0_2:Int) (q1:(Option Addr)) (q1_len:Nat) (q1_cap:Nat) (q2:(Option Addr)) (q2_len:Nat) (q2_cap:Nat) (q3:(Option Addr)) (q3_len:Nat) (q3_cap:Nat):T:=
 .alloc (Obj.cells #[(.bool q0_0),(.bool q0_1),(.int .i64 q0_2)] 81 (0,0)) fun (z0:Addr)=>
 .ite ((q3_len:Int)==0) (
 .drew <|
 .load (Addr.mk 1 0 Option.none) .any fun (v1:Value)=>
 .leaf 0 [(.slice none 0 0),v1]) (
 .eff (Instr.loadAt 81 (.pointer (some z0))) (.agg (.cons .bool (.cons .bool (.cons (.int .i64) .nil)))) fun (z2:(Bool×(Bool×(Int×PUnit))))=>
 .call 65 #[(.agg #[(.bool z2.1),(.bool z2.2.1),(.int .i64 z2.2.2.1)]),(.slice q1 q1_len q1_cap),(.slice q3 q3_len q3_cap)] (.tuple (.cons .slice (.cons (.int .i64) (.cons (.int .i64) (.cons (.int .i64) (.cons .any .nil)))))) fun (z3:((Option Addr×Nat×Nat)×(Int×(Int×(Int×(Value×PUnit))))))=>
 .chk ((isIface z3.2.2.2.2.1)=true) <|
 .ite (!(isNil z3.2.2.2.2.1)) (
 .load (Addr.mk 1 0 Option.none) .any fun (v4:Value)=>
 .eff (Bind.bind (eqGuard BinOp.neq 61 (Operand.tmp 66) (Operand.tmp 67) z3.2.2.2.2.1 v4) (fun (y5:Unit)=>(binOp BinOp.neq 61 z3.2.2.2.2.1 v4))) .bool fun (b6:Bool)=>
 .ite b6 (
 .leaf 0 [(.slice none 0 0),z3.2.2.2.2.1]) (
 .cut 1 (.cons (.int .i64) (.cons (.int .i64) (.cons (.int .i64) .nil))) (
 .loop 2 (.cons (.int .i64) (.cons (.int .i64) (.cons (.int .i64) (.cons (.int .i64) .nil)))) [(.int .i64 z3.2.2.1),(.int .i64 0),(.int .i64 z3.2.2.2.1),(.int .i64 0)]
 (fun z=>jsonparser_setConfig.t1 q1 q1_len q1_cap q3 q3_len q3_cap z0 z.1 z.2.1 z.2.2.1 z.2.2.2.1))
 (fun z=>jsonparser_setConfig.t2 q1 q1_len q1_cap q2 q2_len q2_cap q3 q3_len q3_cap z0 z.1 z.2.1 z.2.2.1))) (
 .chk (((0 :Int)≤(0 :Int))∧((0≤z3.2.2.1)∧(z3.2.2.1≤(q1_cap:Int)))) <|
 .chk ((0≤z3.2.2.2.1)∧((z3.2.2.2.1≤(q1_len:Int))∧((q1_len:Int)≤(q1_cap:Int)))) <|
 .eff (Instr.makeSlice 59 (.int .i64 (IntKind.wrap .i64 ((IntKind.wrap .i64 (((((Int.toNat z3.2.2.1)-0):Nat):Int)+((((Int.toNat (q1_len:Int))-(Int.toNat z3.2.2.2.1)):Nat):Int)))+(q2_len:Int)))) (.int .i64 (IntKind.wrap .i64 ((IntKind.wrap .i64 (((((Int.toNat z3.2.2.1)-0):Nat):Int)+((((Int.toNat (q1_len:Int))-(Int.toNat z3.2.2.2.1)):Nat):Int)))+(q2_len:Int))))) .slice fun (z145:(Option Addr×Nat×Nat))=>
 .chk (((0 :Int)≤(0 :Int))∧((0≤z3.2.2.1)∧(z3.2.2.1≤(z145.2.2:Int)))) <|
 .eff (Builtin.copy_ (Call.argTypes (Call.mk (Callee.builtin Builtin.copy) #[(Operand.tmp 377),(Operand.tmp 378)] #[59,59])) 3 #[(.slice (if (z145.2.2=0) then z145.1 else (Option.map (fun (y146:Addr)=>(Addr.add y146 0)) z145.1)) ((Int.toNat z3.2.2.1)-0) (z145.2.2-0)),(.slice (if (q1_cap=0) then q1 else (Option.map (fun (y147:Addr)=>(Addr.add y147 0)) q1)) ((Int.toNat z3.2.2.1)-0) (q1_cap-0))]) (.int .i64) fun (i148:Int)=>
 .chk ((0≤z3.2.2.1)∧((z3.2.2.1≤(IntKind.wrap .i64 (z3.2.2.1+(q2_len:Int))))∧((IntKind.wrap .i64 (z3.2.2.1+(q2_len:Int)))≤(z145.2.2:Int)))) <|
 .eff (Builtin.copy_ (Call.argTypes (Call.mk (Callee.builtin Builtin.copy) #[(Operand.tmp 383),(Operand.tmp 384)] #[59,59])) 3 #[(.slice (if (z145.2.2=(Int.toNat z3.2.2.1)) then z145.1 else (Option.map (fun (y149:Addr)=>(Addr.add y149 ((Int.toNat z3.2.2.1) * 1))) z145.1)) ((Int.toNat (IntKind.wrap .i64 (z3.2.2.1+(q2_len:Int))))-(Int.toNat z3.2.2.1)) (z145.2.2-(Int.toNat z3.2.2.1))),(.slice q2 q2_len q2_cap)]) (.int .i64) fun (i150:Int)=>
 .chk ((0≤(IntKind.wrap .i64 (z3.2.2.1+(q2_len:Int))))∧(((IntKind.wrap .i64 (z3.2.2.1+(q2_len:Int)))≤(z145.2.1:Int))∧((z145.2.1:Int)≤(z145.2.2:Int)))) <|
 .eff (Builtin.copy_ (Call.argTypes (Call.mk (Callee.builtin Builtin.copy) #[(Operand.tmp 388),(Operand.tmp 389)] #[59,59])) 3 #[(.slice (if (z145.2.2=(Int.toNat (IntKind.wrap .i64 (z3.2.2.1+(q2_len:Int))))) then z145.1 else (Option.map (fun (y151:Addr)=>(Addr.add y151 ((Int.toNat (IntKind.wrap .i64 (z3.2.2.1+(q2_len:Int)))) * 1))) z145.1)) ((Int.toNat (z145.2.1:Int))-(Int.toNat (IntKind.wrap .i64 (z3.2.2.1+(q2_len:Int))))) (z145.2.2-(Int.toNat (IntKind.wrap .i64 (z3.2.2.1+(q2_len:Int)))))),(.slice (if (q1_cap=(Int.toNat z3.2.2.2.1)) then q1 else (Option.map (fun (y152:Addr)=>(Addr.add y152 ((Int.toNat z3.2.2.2.1) * 1))) q1)) ((Int.toNat (q1_len:Int))-(Int.toNat z3.2.2.2.1)) (q1_cap-(Int.toNat z3.2.2.2.1)))]) (.int .i64) fun (i153:Int)=>
 .leaf 0 [(.slice z145.1 z145.2.1 z145.2.2),Value.nilIface]))
def jsonparser_setConfig.h:Hints:=⟨[(96,[(22,.bool),(21,.bool),(13,(.int .i64)),(24,(.int .i64)),(27,(.int .i64)),(28,(.int .i64)),(26,.bool),(25,.bool),(23,.bool)]),(143,[(22,.bool),(21,.bool),(13,(.int .i64)),(24,(.int .i64)),(27,(.int .i64)),(28,(.int .i64)),(26,.bool),(25,.bool),(23,.bool)]),(152,[(21,.bool),(13,(.int .i64)),(27,(.int .i64)),(28,(.int .i64)),(26,.bool),(25,.bool)]),(175,[(21,.bool),(28,(.int .i64)),(26,.bool)]),(180,[(21,.bool),(28,(.int .i64)),(26,.bool)]),(186,[(21,.bool),(28,(.int .i64)),(26,.bool)]),(207,[(21,.bool)]),(212,[(39,(.int .i64)),(12,(.int .i64)),(22,.bool),(21,.bool)]),(253,[(39,(.int .i64)),(12,(.int .i64)),(22,.bool),(21,.bool)]),(305,[(39,(.int .i64)),(12,(.int .i64)),(22,.bool),(21,.bool)]),(309,[(39,(.int .i64)),(12,(.int .i64))]),(313,[(39,(.int .i64)),(12,(.int .i64))]),(314,[(39,(.int .i64)),(12,(.int .i64))])],[(0,[(12,(.int .i64)),(14,(.int .i64)),(13,(.int .i64))])],[(29,[(30,.bool)]),(30,[(31,.bool)]),(33,[(143,.bool)]),(39,[(152,.bool)]),(67,[(41,.bool)]),(70,[(253,.bool)]),(74,[(305,.bool)])],[(9,[(12,(.int .i64)),(14,(.int .i64)),(13,(.int .i64)),(72,(.int .i64))])]⟩
noncomputable def jsonparser_setConfig.c:Code:=(Tryz.f46.body).getD .skip
theorem jsonparser_setConfig.e (q0_0:Bool) (q0_1:Bool) (q0_2:Int) (q1:(Option Addr)) (q1_len:Nat) (q1_cap:Nat) (q2:(Option Addr)) (q2_len:Nat) (q2_cap:Nat) (q3:(Option Addr)) (q3_len:Nat) (q3_cap:Nat):fnT Tryz.prog jsonparser_setConfig.h Tryz.f46 jsonparser_setConfig.c [.v (.agg #[(.bool q0_0),(.bool q0_1),(.int .i64 q0_2)]),.v (.slice q1 q1_len q1_cap),.v (.slice q2 q2_len q2_cap),.v (.slice q3 q3_len q3_cap)]=jsonparser_setConfig.t q0_0 q0_1 q0_2 q1 q1_len q1_cap q2 q2_len q2_cap q3 q3_len q3_cap:=by kernel_rfl
theorem jsonparser_setConfig.calls (q0_0:Bool) (q0_1:Bool) (q0_2:Int) (q1:(Option Addr)) (q1_len:Nat) (q1_cap:Nat) (q2:(Option Addr)) (q2_len:Nat) (q2_cap:Nat) (q3:(Option Addr)) (q3_len:Nat) (q3_cap:Nat) {w:World} {R:Ending→World→Prop} (hs:sat Tryz.prog (jsonparser_setConfig.t q0_0 q0_1 q0_2 q1 q1_len q1_cap q2 q2_len q2_cap q3 q3_len q3_cap) (fun l vs w'=>l=0∧R (.returned (retVal vs)) w') w):Calls Tryz.prog 46 #[(.agg #[(.bool q0_0),(.bool q0_1),(.int .i64 q0_2)]),(.slice q1 q1_len q1_cap),(.slice q2 q2_len q2_cap),(.slice q3 q3_len q3_cap)] w R:=
 have h:=calls_of_tree (w:=w) (R:=R) (args:=[.v (.agg #[(.bool q0_0),(.bool q0_1),(.int .i64 q0_2)]),.v (.slice q1 q1_len q1_cap),.v (.slice q2 q2_len q2_cap),.v (.slice q3 q3_len q3_cap)]) (c:=jsonparser_setConfig.c) Tryz.func46 (show Tryz.f46.body=some jsonparser_setConfig.c by kernel_rfl) (of_decide_eq_true (by kernel_rfl)) (jsonparser_setConfig.e q0_0 q0_1 q0_2 q1 q1_len q1_cap q2 q2_len q2_cap q3 q3_len q3_cap) hs
 h
end Go.Proofs.YtlfebfkphgelfaaGreatDoor.Tr
