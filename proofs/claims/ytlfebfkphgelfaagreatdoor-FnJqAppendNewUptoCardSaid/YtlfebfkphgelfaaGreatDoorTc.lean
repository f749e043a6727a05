import Derived.Test.YtlfebfkphgelfaaGreatDoorRz
import Derived.Test.YtlfebfkphgelfaaGreatDoorProg
import Derived.KernelRfl
namespace Go.Proofs.YtlfebfkphgelfaaGreatDoor.Tr
open Go Go.Proofs Rx
set_option linter.unusedVariables false
set_option maxRecDepth 100000
def jsonparser_lastToken.t1 (data:(Option Addr)) (data_len:Nat) (i0:Int):T:=
 .ite (decide (i0 ≥ 0)) (
 .chk ((0≤i0)∧(i0<(data_len:Int))) <|
 .ptr data fun (z1:Addr)=>
 .load (Addr.add z1 ((Int.toNat i0) * 1)) (.int .u8) fun (i2:Int)=>
 .ite (i2==32) (
 .leaf 1 [(.int .i64 (IntKind.wrap .i64 (i0-1)))]) (
 .ite (i2==10) (
 .leaf 1 [(.int .i64 (IntKind.wrap .i64 (i0-1)))]) (
 .ite (i2==13) (
 .leaf 1 [(.int .i64 (IntKind.wrap .i64 (i0-1)))]) (
 .ite (i2==9) (
 .leaf 1 [(.int .i64 (IntKind.wrap .i64 (i0-1)))]) (
 .leaf 0 [(.int .i64 i0)]))))) (
 .leaf 0 [(.int .i64 (-1))])
def jsonparser_lastToken.t (data:(Option Addr)) (data_len:Nat) (data_cap:Nat):T:=
 .loop 1 (.cons (.int .i64) .nil) [(.int .i64 (IntKind.wrap .i64 ((data_len:Int)-1)))]
 (fun z=>jsonparser_lastToken.t1 data data_len z.1)
def jsonparser_lastToken.h:Hints:=⟨[],[],[],[(2,[(3,(.int .i64))])]⟩
noncomputable def jsonparser_lastToken.c:Code:=(Tryz.f67.body).getD .skip
theorem jsonparser_lastToken.e (data:(Option Addr)) (data_len:Nat) (data_cap:Nat):fnT Tryz.prog jsonparser_lastToken.h Tryz.f67 jsonparser_lastToken.c [.v (.slice data data_len data_cap)]=jsonparser_lastToken.t data data_len data_cap:=by kernel_rfl
theorem jsonparser_lastToken.calls (data:(Option Addr)) (data_len:Nat) (data_cap:Nat) {w:World} {R:Ending→World→Prop} (hs:sat Tryz.prog (jsonparser_lastToken.t data data_len data_cap) (fun l vs w'=>l=0∧R (.returned (retVal vs)) w') w):Calls Tryz.prog 67 #[(.slice data data_len data_cap)] w R:=
 have h:=calls_of_tree (w:=w) (R:=R) (args:=[.v (.slice data data_len data_cap)]) (c:=jsonparser_lastToken.c) Tryz.func67 (show Tryz.f67.body=some jsonparser_lastToken.c by kernel_rfl) (of_decide_eq_true (by kernel_rfl)) (jsonparser_lastToken.e data data_len data_cap) hs
 h
def jsonparser_createInsertComponent.t5 (i25:Int):T:=
 .leaf 1 [(.int .i64 i25)]
def jsonparser_createInsertComponent.t4 (q0:(Option Addr)) (q0_len:Nat) (b5:Bool) (z7:(Option Addr×Nat×Nat)) (i16:Int):T:=
 .cut 2 (.cons (.int .i64) .nil) (
 .ite (!b5) (
 .chk ((0≤i16)∧((i16≤(z7.2.1:Int))∧((z7.2.1:Int)≤(z7.2.2:Int)))) <|
 .call 63 #[(.slice (if (z7.2.2=(Int.toNat i16)) then z7.1 else (Option.map (fun (y17:Addr)=>(Addr.add y17 ((Int.toNat i16) * 1))) z7.1)) ((Int.toNat (z7.2.1:Int))-(Int.toNat i16)) (z7.2.2-(Int.toNat i16))),(.string (ByteArray.mk #[(34:UInt8)]))] (.int .i64) fun (i18:Int)=>
 .drew <|
 .chk ((0≤(IntKind.wrap .i64 (i16+i18)))∧(((IntKind.wrap .i64 (i16+i18))≤(z7.2.1:Int))∧((z7.2.1:Int)≤(z7.2.2:Int)))) <|
 .chk (((0 :Int)≤(0 :Int))∧(0<(q0_len:Int))) <|
 .ptr q0 fun (z19:Addr)=>
 .load (Addr.add z19 0) .str fun (s20:ByteArray)=>
 .call 63 #[(.slice (if (z7.2.2=(Int.toNat (IntKind.wrap .i64 (i16+i18)))) then z7.1 else (Option.map (fun (y21:Addr)=>(Addr.add y21 ((Int.toNat (IntKind.wrap .i64 (i16+i18))) * 1))) z7.1)) ((Int.toNat (z7.2.1:Int))-(Int.toNat (IntKind.wrap .i64 (i16+i18)))) (z7.2.2-(Int.toNat (IntKind.wrap .i64 (i16+i18))))),(.string s20)] (.int .i64) fun (i22:Int)=>
 .chk ((0≤(IntKind.wrap .i64 ((IntKind.wrap .i64 (i16+i18))+i22)))∧(((IntKind.wrap .i64 ((IntKind.wrap .i64 (i16+i18))+i22))≤(z7.2.1:Int))∧((z7.2.1:Int)≤(z7.2.2:Int)))) <|
 .call 63 #[(.slice (if (z7.2.2=(Int.toNat (IntKind.wrap .i64 ((IntKind.wrap .i64 (i16+i18))+i22)))) then z7.1 else (Option.map (fun (y23:Addr)=>(Addr.add y23 ((Int.toNat (IntKind.wrap .i64 ((IntKind.wrap .i64 (i16+i18))+i22))) * 1))) z7.1)) ((Int.toNat (z7.2.1:Int))-(Int.toNat (IntKind.wrap .i64 ((IntKind.wrap .i64 (i16+i18))+i22)))) (z7.2.2-(Int.toNat (IntKind.wrap .i64 ((IntKind.wrap .i64 (i16+i18))+i22))))),(.string (ByteArray.mk #[(34:UInt8),(58:UInt8)]))] (.int .i64) fun (i24:Int)=>
 .leaf 2 [(.int .i64 (IntKind.wrap .i64 ((IntKind.wrap .i64 ((IntKind.wrap .i64 (i16+i18))+i22))+i24)))]) (
 .leaf 2 [(.int .i64 i16)]))
 (fun z=>jsonparser_createInsertComponent.t5 z.1)
def jsonparser_createInsertComponent.t8 (q0:(Option Addr)) (q0_len:Nat) (z7:(Option Addr×Nat×Nat)) (i27:Int) (i28:Int) (b34:Bool):T:=
 .ite b34 (
 .chk ((0≤i28)∧((i28≤(z7.2.1:Int))∧((z7.2.1:Int)≤(z7.2.2:Int)))) <|
 .call 63 #[(.slice (if (z7.2.2=(Int.toNat i28)) then z7.1 else (Option.map (fun (y35:Addr)=>(Addr.add y35 ((Int.toNat i28) * 1))) z7.1)) ((Int.toNat (z7.2.1:Int))-(Int.toNat i28)) (z7.2.2-(Int.toNat i28))),(.string (ByteArray.mk #[(91:UInt8)]))] (.int .i64) fun (i36:Int)=>
 .leaf 1 [(.int .i64 (IntKind.wrap .i64 (i27+1))),(.int .i64 (IntKind.wrap .i64 (i28+i36)))]) (
 .chk ((0≤i28)∧((i28≤(z7.2.1:Int))∧((z7.2.1:Int)≤(z7.2.2:Int)))) <|
 .call 63 #[(.slice (if (z7.2.2=(Int.toNat i28)) then z7.1 else (Option.map (fun (y37:Addr)=>(Addr.add y37 ((Int.toNat i28) * 1))) z7.1)) ((Int.toNat (z7.2.1:Int))-(Int.toNat i28)) (z7.2.2-(Int.toNat i28))),(.string (ByteArray.mk #[(123:UInt8),(34:UInt8)]))] (.int .i64) fun (i38:Int)=>
 .drew <|
 .chk ((0≤(IntKind.wrap .i64 (i28+i38)))∧(((IntKind.wrap .i64 (i28+i38))≤(z7.2.1:Int))∧((z7.2.1:Int)≤(z7.2.2:Int)))) <|
 .chk ((0≤i27)∧(i27<(q0_len:Int))) <|
 .ptr q0 fun (z39:Addr)=>
 .load (Addr.add z39 ((Int.toNat i27) * 1)) .str fun (s40:ByteArray)=>
 .call 63 #[(.slice (if (z7.2.2=(Int.toNat (IntKind.wrap .i64 (i28+i38)))) then z7.1 else (Option.map (fun (y41:Addr)=>(Addr.add y41 ((Int.toNat (IntKind.wrap .i64 (i28+i38))) * 1))) z7.1)) ((Int.toNat (z7.2.1:Int))-(Int.toNat (IntKind.wrap .i64 (i28+i38)))) (z7.2.2-(Int.toNat (IntKind.wrap .i64 (i28+i38))))),(.string s40)] (.int .i64) fun (i42:Int)=>
 .chk ((0≤(IntKind.wrap .i64 ((IntKind.wrap .i64 (i28+i38))+i42)))∧(((IntKind.wrap .i64 ((IntKind.wrap .i64 (i28+i38))+i42))≤(z7.2.1:Int))∧((z7.2.1:Int)≤(z7.2.2:Int)))) <|
 .call 63 #[(.slice (if (z7.2.2=(Int.toNat (IntKind.wrap .i64 ((IntKind.wrap .i64 (i28+i38))+i42)))) then z7.1 else (Option.map (fun (y43:Addr)=>(Addr.add y43 ((Int.toNat (IntKind.wrap .i64 ((IntKind.wrap .i64 (i28+i38))+i42))) * 1))) z7.1)) ((Int.toNat (z7.2.1:Int))-(Int.toNat (IntKind.wrap .i64 ((IntKind.wrap .i64 (i28+i38))+i42)))) (z7.2.2-(Int.toNat (IntKind.wrap .i64 ((IntKind.wrap .i64 (i28+i38))+i42))))),(.string (ByteArray.mk #[(34:UInt8),(58:UInt8)]))] (.int .i64) fun (i44:Int)=>
 .leaf 1 [(.int .i64 (IntKind.wrap .i64 (i27+1))),(.int .i64 (IntKind.wrap .i64 ((IntKind.wrap .i64 ((IntKind.wrap .i64 (i28+i38))+i42))+i44)))])
def jsonparser_createInsertComponent.t10 (z7:(Option Addr×Nat×Nat)) (i47:Int) (i48:Int) (b54:Bool):T:=
 .ite b54 (
 .chk ((0≤i48)∧((i48≤(z7.2.1:Int))∧((z7.2.1:Int)≤(z7.2.2:Int)))) <|
 .call 63 #[(.slice (if (z7.2.2=(Int.toNat i48)) then z7.1 else (Option.map (fun (y55:Addr)=>(Addr.add y55 ((Int.toNat i48) * 1))) z7.1)) ((Int.toNat (z7.2.1:Int))-(Int.toNat i48)) (z7.2.2-(Int.toNat i48))),(.string (ByteArray.mk #[(93:UInt8)]))] (.int .i64) fun (i56:Int)=>
 .leaf 1 [(.int .i64 (IntKind.wrap .i64 (i47-1))),(.int .i64 (IntKind.wrap .i64 (i48+i56)))]) (
 .chk ((0≤i48)∧((i48≤(z7.2.1:Int))∧((z7.2.1:Int)≤(z7.2.2:Int)))) <|
 .call 63 #[(.slice (if (z7.2.2=(Int.toNat i48)) then z7.1 else (Option.map (fun (y57:Addr)=>(Addr.add y57 ((Int.toNat i48) * 1))) z7.1)) ((Int.toNat (z7.2.1:Int))-(Int.toNat i48)) (z7.2.2-(Int.toNat i48))),(.string (ByteArray.mk #[(125:UInt8)]))] (.int .i64) fun (i58:Int)=>
 .leaf 1 [(.int .i64 (IntKind.wrap .i64 (i47-1))),(.int .i64 (IntKind.wrap .i64 (i48+i58)))])
def jsonparser_createInsertComponent.t12 (q3:Bool) (b5:Bool) (z7:(Option Addr×Nat×Nat)) (i62:Int):T:=
 .ite q3 (
 .ite (!b5) (
 .chk ((0≤i62)∧((i62≤(z7.2.1:Int))∧((z7.2.1:Int)≤(z7.2.2:Int)))) <|
 .call 63 #[(.slice (if (z7.2.2=(Int.toNat i62)) then z7.1 else (Option.map (fun (y63:Addr)=>(Addr.add y63 ((Int.toNat i62) * 1))) z7.1)) ((Int.toNat (z7.2.1:Int))-(Int.toNat i62)) (z7.2.2-(Int.toNat i62))),(.string (ByteArray.mk #[(125:UInt8)]))] (.int .i64) fun (i64:Int)=>
 .leaf 0 [(.slice z7.1 z7.2.1 z7.2.2)]) (
 .leaf 0 [(.slice z7.1 z7.2.1 z7.2.2)])) (
 .leaf 0 [(.slice z7.1 z7.2.1 z7.2.2)])
def jsonparser_createInsertComponent.t11 (q3:Bool) (b5:Bool) (z7:(Option Addr×Nat×Nat)) (i48:Int) (b59:Bool):T:=
 .cut 1 (.cons (.int .i64) .nil) (
 .ite b59 (
 .chk ((0≤i48)∧((i48≤(z7.2.1:Int))∧((z7.2.1:Int)≤(z7.2.2:Int)))) <|
 .call 63 #[(.slice (if (z7.2.2=(Int.toNat i48)) then z7.1 else (Option.map (fun (y60:Addr)=>(Addr.add y60 ((Int.toNat i48) * 1))) z7.1)) ((Int.toNat (z7.2.1:Int))-(Int.toNat i48)) (z7.2.2-(Int.toNat i48))),(.string (ByteArray.mk #[(93:UInt8)]))] (.int .i64) fun (i61:Int)=>
 .leaf 1 [(.int .i64 (IntKind.wrap .i64 (i48+i61)))]) (
 .leaf 1 [(.int .i64 i48)]))
 (fun z=>jsonparser_createInsertComponent.t12 q3 b5 z7 z.1)
def jsonparser_createInsertComponent.t9 (q0:(Option Addr)) (q0_len:Nat) (q2:Bool) (q3:Bool) (b5:Bool) (z7:(Option Addr×Nat×Nat)) (i47:Int) (i48:Int):T:=
 .ite (decide (i47 > 0)) (
 .cut 2 (.cons .bool .nil) (
 .chk ((0≤i47)∧(i47<(q0_len:Int))) <|
 .ptr q0 fun (z49:Addr)=>
 .load (Addr.add z49 ((Int.toNat i47) * 1)) .str fun (s50:ByteArray)=>
 .ite (decide (((ByteArray.size s50):Int) > 0)) (
 .chk ((0≤i47)∧(i47<(q0_len:Int))) <|
 .ptr q0 fun (z51:Addr)=>
 .load (Addr.add z51 ((Int.toNat i47) * 1)) .str fun (s52:ByteArray)=>
 .chk (((0 :Int)≤(0 :Int))∧(0<((ByteArray.size s52):Int))) <|
 .eff (convert 5 9 (.int .u8 (bt s52 0))) .str fun (s53:ByteArray)=>
 .leaf 2 [(.bool (strEq s53 (ByteArray.mk #[(91:UInt8)])))]) (
 .leaf 2 [(.bool false)]))
 (fun z=>jsonparser_createInsertComponent.t10 z7 i47 i48 z.1)) (
 .cut 1 (.cons .bool .nil) (
 .ite b5 (
 .leaf 1 [(.bool (!q2))]) (
 .leaf 1 [(.bool false)]))
 (fun z=>jsonparser_createInsertComponent.t11 q3 b5 z7 i48 z.1))
def jsonparser_createInsertComponent.t7 (q0:(Option Addr)) (q0_len:Nat) (q1:(Option Addr)) (q1_len:Nat) (q1_cap:Nat) (q2:Bool) (q3:Bool) (b5:Bool) (z7:(Option Addr×Nat×Nat)) (i27:Int) (i28:Int):T:=
 .ite (decide (i27<(q0_len:Int))) (
 .cut 2 (.cons .bool .nil) (
 .chk ((0≤i27)∧(i27<(q0_len:Int))) <|
 .ptr q0 fun (z29:Addr)=>
 .load (Addr.add z29 ((Int.toNat i27) * 1)) .str fun (s30:ByteArray)=>
 .ite (decide (((ByteArray.size s30):Int) > 0)) (
 .chk ((0≤i27)∧(i27<(q0_len:Int))) <|
 .ptr q0 fun (z31:Addr)=>
 .load (Addr.add z31 ((Int.toNat i27) * 1)) .str fun (s32:ByteArray)=>
 .chk (((0 :Int)≤(0 :Int))∧(0<((ByteArray.size s32):Int))) <|
 .eff (convert 5 9 (.int .u8 (bt s32 0))) .str fun (s33:ByteArray)=>
 .leaf 2 [(.bool (strEq s33 (ByteArray.mk #[(91:UInt8)])))]) (
 .leaf 2 [(.bool false)]))
 (fun z=>jsonparser_createInsertComponent.t8 q0 q0_len z7 i27 i28 z.1)) (
 .chk ((0≤i28)∧((i28≤(z7.2.1:Int))∧((z7.2.1:Int)≤(z7.2.2:Int)))) <|
 .eff (Builtin.copy_ (Call.argTypes (Call.mk (Callee.builtin Builtin.copy) #[(Operand.tmp 136),(Operand.tmp 137)] #[59,59])) 3 #[(.slice (if (z7.2.2=(Int.toNat i28)) then z7.1 else (Option.map (fun (y45:Addr)=>(Addr.add y45 ((Int.toNat i28) * 1))) z7.1)) ((Int.toNat (z7.2.1:Int))-(Int.toNat i28)) (z7.2.2-(Int.toNat i28))),(.slice q1 q1_len q1_cap)]) (.int .i64) fun (i46:Int)=>
 .loop 1 (.cons (.int .i64) (.cons (.int .i64) .nil)) [(.int .i64 (IntKind.wrap .i64 ((q0_len:Int)-1))),(.int .i64 (IntKind.wrap .i64 (i28+i46)))]
 (fun z=>jsonparser_createInsertComponent.t9 q0 q0_len q2 q3 b5 z7 z.1 z.2.1))
def jsonparser_createInsertComponent.t6 (q0:(Option Addr)) (q0_len:Nat) (q1:(Option Addr)) (q1_len:Nat) (q1_cap:Nat) (q2:Bool) (q3:Bool) (b5:Bool) (z7:(Option Addr×Nat×Nat)) (i26:Int):T:=
 .loop 1 (.cons (.int .i64) (.cons (.int .i64) .nil)) [(.int .i64 1),(.int .i64 i26)]
 (fun z=>jsonparser_createInsertComponent.t7 q0 q0_len q1 q1_len q1_cap q2 q3 b5 z7 z.1 z.2.1)
def jsonparser_createInsertComponent.t3 (q0:(Option Addr)) (q0_len:Nat) (q1:(Option Addr)) (q1_len:Nat) (q1_cap:Nat) (q2:Bool) (q3:Bool) (b5:Bool) (z7:(Option Addr×Nat×Nat)) (i10:Int) (b11:Bool):T:=
 .cut 1 (.cons (.int .i64) .nil) (
 .ite b11 (
 .chk ((0≤i10)∧((i10≤(z7.2.1:Int))∧((z7.2.1:Int)≤(z7.2.2:Int)))) <|
 .call 63 #[(.slice (if (z7.2.2=(Int.toNat i10)) then z7.1 else (Option.map (fun (y12:Addr)=>(Addr.add y12 ((Int.toNat i10) * 1))) z7.1)) ((Int.toNat (z7.2.1:Int))-(Int.toNat i10)) (z7.2.2-(Int.toNat i10))),(.string (ByteArray.mk #[(91:UInt8)]))] (.int .i64) fun (i13:Int)=>
 .leaf 1 [(.int .i64 (IntKind.wrap .i64 (i10+i13)))]) (
 .cut 2 (.cons (.int .i64) .nil) (
 .ite q3 (
 .chk ((0≤i10)∧((i10≤(z7.2.1:Int))∧((z7.2.1:Int)≤(z7.2.2:Int)))) <|
 .call 63 #[(.slice (if (z7.2.2=(Int.toNat i10)) then z7.1 else (Option.map (fun (y14:Addr)=>(Addr.add y14 ((Int.toNat i10) * 1))) z7.1)) ((Int.toNat (z7.2.1:Int))-(Int.toNat i10)) (z7.2.2-(Int.toNat i10))),(.string (ByteArray.mk #[(123:UInt8)]))] (.int .i64) fun (i15:Int)=>
 .leaf 2 [(.int .i64 (IntKind.wrap .i64 (i10+i15)))]) (
 .leaf 2 [(.int .i64 i10)]))
 (fun z=>jsonparser_createInsertComponent.t4 q0 q0_len b5 z7 z.1)))
 (fun z=>jsonparser_createInsertComponent.t6 q0 q0_len q1 q1_len q1_cap q2 q3 b5 z7 z.1)
def jsonparser_createInsertComponent.t2 (q0:(Option Addr)) (q0_len:Nat) (q1:(Option Addr)) (q1_len:Nat) (q1_cap:Nat) (q2:Bool) (q3:Bool) (b5:Bool) (z7:(Option Addr×Nat×Nat)) (i10:Int):T:=
 .cut 1 (.cons .bool .nil) (
 .ite b5 (
 .leaf 1 [(.bool (!q2))]) (
 .leaf 1 [(.bool false)]))
 (fun z=>jsonparser_createInsertComponent.t3 q0 q0_len q1 q1_len q1_cap q2 q3 b5 z7 i10 z.1)
def jsonparser_createInsertComponent.t1 (q0:(Option Addr)) (q0_len:Nat) (q0_cap:Nat) (q1:(Option Addr)) (q1_len:Nat) (q1_cap:Nat) (q2:Bool) (q3:Bool) (b5:Bool):T:=
 .call 81 #[(.slice q0 q0_len q0_cap),(.slice q1 q1_len q1_cap),(.bool q2),(.bool q3)] (.int .i64) fun (i6:Int)=>
 .eff (Instr.makeSlice 59 (.int .i64 i6) (.int .i64 i6)) .slice fun (z7:(Option Addr×Nat×Nat))=>
 .cut 1 (.cons (.int .i64) .nil) (
 .ite q2 (
 .chk (((0 :Int)≤(0 :Int))∧((0≤(z7.2.1:Int))∧((z7.2.1:Int)≤(z7.2.2:Int)))) <|
 .call 63 #[(.slice (if (z7.2.2=0) then z7.1 else (Option.map (fun (y8:Addr)=>(Addr.add y8 0)) z7.1)) ((Int.toNat (z7.2.1:Int))-0) (z7.2.2-0)),(.string (ByteArray.mk #[(44:UInt8)]))] (.int .i64) fun (i9:Int)=>
 .leaf 1 [(.int .i64 (IntKind.wrap .i64 (0+i9)))]) (
 .leaf 1 [(.int .i64 0)]))
 (fun z=>jsonparser_createInsertComponent.t2 q0 q0_len q1 q1_len q1_cap q2 q3 b5 z7 z.1)
def jsonparser_createInsertComponent.t (q0:(Option Addr)) (q0_len:Nat) (q0_cap:Nat) (q1:(Option Addr)) (q1_len:Nat) (q1_cap:Nat) (q2:Bool) (q3:Bool):T:=
 .cut 1 (.cons .bool .nil) (
 .chk (((0 :Int)≤(0 :Int))∧(0<(q0_len:Int))) <|
 .ptr q0 fun (z0:Addr)=>
 .load (Addr.add z0 0) .str fun (s1:ByteArray)=>
 .ite (decide (((ByteArray.size s1):Int) > 0)) (
 .chk (((0 :Int)≤(0 :Int))∧(0<(q0_len:Int))) <|
 .ptr q0 fun (z2:Addr)=>
 .load (Addr.add z2 0) .str fun (s3:ByteArray)=>
 .chk (((0 :Int)≤(0 :Int))∧(0<((ByteArray.size s3):Int))) <|
 .eff (convert 5 9 (.int .u8 (bt s3 0))) .str fun (s4:ByteArray)=>
 .leaf 1 [(.bool (strEq s4 (ByteArray.mk #[(91:UInt8)])))]) (
 .leaf 1 [(.bool false)]))
 (fun z=>jsonparser_createInsertComponent.t1 q0 q0_len q0_cap q1 q1_len q1_cap q2 q3 z.1)
def jsonparser_createInsertComponent.h:Hints:=⟨[(36,[(10,(.int .i64))]),(47,[(10,(.int .i64))]),(54,[(10,(.int .i64))]),(62,[(10,(.int .i64))]),(178,[(10,(.int .i64))])],[],[(1,[(9,.bool)]),(7,[(47,.bool)]),(18,[(104,.bool)]),(27,[(161,.bool)]),(30,[(178,.bool)])],[(16,[(13,(.int .i64)),(10,(.int .i64))]),(25,[(14,(.int .i64)),(10,(.int .i64))])]⟩
noncomputable def jsonparser_createInsertComponent.c:Code:=(Tryz.f69.body).getD .skip
theorem jsonparser_createInsertComponent.e (q0:(Option Addr)) (q0_len:Nat) (q0_cap:Nat) (q1:(Option Addr)) (q1_len:Nat) (q1_cap:Nat) (q2:Bool) (q3:Bool):fnT Tryz.prog jsonparser_createInsertComponent.h Tryz.f69 jsonparser_createInsertComponent.c [.v (.slice q0 q0_len q0_cap),.v (.slice q1 q1_len q1_cap),.v (.bool q2),.v (.bool q3)]=jsonparser_createInsertComponent.t q0 q0_len q0_cap q1 q1_len q1_cap q2 q3:=by kernel_rfl
theorem jsonparser_createInsertComponent.calls (q0:(Option Addr)) (q0_len:Nat) (q0_cap:Nat) (q1:(Option Addr)) (q1_len:Nat) (q1_cap:Nat) (q2:Bool) (q3:Bool) {w:World} {R:Ending→World→Prop} (hs:sat Tryz.prog (jsonparser_createInsertComponent.t q0 q0_len q0_cap q1 q1_len q1_cap q2 q3) (fun l vs w'=>l=0∧R (.returned (retVal vs)) w') w):Calls Tryz.prog 69 #[(.slice q0 q0_len q0_cap),(.slice q1 q1_len q1_cap),(.bool q2),(.bool q3)] w R:=
 have h:=calls_of_tree (w:=w) (R:=R) (args:=[.v (.slice q0 q0_len q0_cap),.v (.slice q1 q1_len q1_cap),.v (.bool q2),.v (.bool q3)]) (c:=jsonparser_createInsertComponent.c) Tryz.func69 (show Tryz.f69.body=some jsonparser_createInsertComponent.c by kernel_rfl) (of_decide_eq_true (by kernel_rfl)) (jsonparser_createInsertComponent.e q0 q0_len q0_cap q1 q1_len q1_cap q2 q3) hs
 h
def jsonparser_calcAllocateSpace.t5 (i11:Int):T:=
 .leaf 1 [(.int .i64 i11)]
def jsonparser_calcAllocateSpace.t4 (q0:(Option Addr)) (q0_len:Nat) (b5:Bool) (i8:Int):T:=
 .cut 2 (.cons (.int .i64) .nil) (
 .ite (!b5) (
 .chk (((0 :Int)≤(0 :Int))∧(0<(q0_len:Int))) <|
 .ptr q0 fun (z9:Addr)=>
 .load (Addr.add z9 0) .str fun (s10:ByteArray)=>
 .leaf 2 [(.int .i64 (IntKind.wrap .i64 (i8+(IntKind.wrap .i64 (((ByteArray.size s10):Int)+3)))))]) (
 .leaf 2 [(.int .i64 i8)]))
 (fun z=>jsonparser_calcAllocateSpace.t5 z.1)
def jsonparser_calcAllocateSpace.t8 (q0:(Option Addr)) (q0_len:Nat) (i13:Int) (i14:Int) (b20:Bool):T:=
 .ite b20 (
 .leaf 1 [(.int .i64 (IntKind.wrap .i64 (i13+1))),(.int .i64 (IntKind.wrap .i64 (i14+2)))]) (
 .chk ((0≤i13)∧(i13<(q0_len:Int))) <|
 .ptr q0 fun (z21:Addr)=>
 .load (Addr.add z21 ((Int.toNat i13) * 1)) .str fun (s22:ByteArray)=>
 .leaf 1 [(.int .i64 (IntKind.wrap .i64 (i13+1))),(.int .i64 (IntKind.wrap .i64 (i14+(IntKind.wrap .i64 (((ByteArray.size s22):Int)+5)))))])
def jsonparser_calcAllocateSpace.t7 (q0:(Option Addr)) (q0_len:Nat) (q3:Bool) (b5:Bool) (i13:Int) (i14:Int):T:=
 .ite (decide (i13<(q0_len:Int))) (
 .cut 2 (.cons .bool .nil) (
 .chk ((0≤i13)∧(i13<(q0_len:Int))) <|
 .ptr q0 fun (z15:Addr)=>
 .load (Addr.add z15 ((Int.toNat i13) * 1)) .str fun (s16:ByteArray)=>
 .ite (decide (((ByteArray.size s16):Int) > 0)) (
 .chk ((0≤i13)∧(i13<(q0_len:Int))) <|
 .ptr q0 fun (z17:Addr)=>
 .load (Addr.add z17 ((Int.toNat i13) * 1)) .str fun (s18:ByteArray)=>
 .chk (((0 :Int)≤(0 :Int))∧(0<((ByteArray.size s18):Int))) <|
 .eff (convert 5 9 (.int .u8 (bt s18 0))) .str fun (s19:ByteArray)=>
 .leaf 2 [(.bool (strEq s19 (ByteArray.mk #[(91:UInt8)])))]) (
 .leaf 2 [(.bool false)]))
 (fun z=>jsonparser_calcAllocateSpace.t8 q0 q0_len i13 i14 z.1)) (
 .ite q3 (
 .ite (!b5) (
 .leaf 0 [(.int .i64 (IntKind.wrap .i64 (i14+1)))]) (
 .leaf 0 [(.int .i64 i14)])) (
 .leaf 0 [(.int .i64 i14)]))
def jsonparser_calcAllocateSpace.t6 (q0:(Option Addr)) (q0_len:Nat) (q1_len:Nat) (q3:Bool) (b5:Bool) (i12:Int):T:=
 .loop 1 (.cons (.int .i64) (.cons (.int .i64) .nil)) [(.int .i64 1),(.int .i64 (IntKind.wrap .i64 (i12+(q1_len:Int))))]
 (fun z=>jsonparser_calcAllocateSpace.t7 q0 q0_len q3 b5 z.1 z.2.1)
def jsonparser_calcAllocateSpace.t3 (q0:(Option Addr)) (q0_len:Nat) (q1_len:Nat) (q3:Bool) (b5:Bool) (i6:Int) (b7:Bool):T:=
 .cut 1 (.cons (.int .i64) .nil) (
 .ite b7 (
 .leaf 1 [(.int .i64 (IntKind.wrap .i64 (i6+2)))]) (
 .cut 2 (.cons (.int .i64) .nil) (
 .ite q3 (
 .leaf 2 [(.int .i64 (IntKind.wrap .i64 (i6+1)))]) (
 .leaf 2 [(.int .i64 i6)]))
 (fun z=>jsonparser_calcAllocateSpace.t4 q0 q0_len b5 z.1)))
 (fun z=>jsonparser_calcAllocateSpace.t6 q0 q0_len q1_len q3 b5 z.1)
def jsonparser_calcAllocateSpace.t2 (q0:(Option Addr)) (q0_len:Nat) (q1_len:Nat) (q2:Bool) (q3:Bool) (b5:Bool) (i6:Int):T:=
 .cut 1 (.cons .bool .nil) (
 .ite b5 (
 .leaf 1 [(.bool (!q2))]) (
 .leaf 1 [(.bool false)]))
 (fun z=>jsonparser_calcAllocateSpace.t3 q0 q0_len q1_len q3 b5 i6 z.1)
def jsonparser_calcAllocateSpace.t1 (q0:(Option Addr)) (q0_len:Nat) (q1_len:Nat) (q2:Bool) (q3:Bool) (b5:Bool):T:=
 .cut 1 (.cons (.int .i64) .nil) (
 .ite q2 (
 .leaf 1 [(.int .i64 1)]) (
 .leaf 1 [(.int .i64 0)]))
 (fun z=>jsonparser_calcAllocateSpace.t2 q0 q0_len q1_len q2 q3 b5 z.1)
def jsonparser_calcAllocateSpace.t (q0:(Option Addr)) (q0_len:Nat) (q0_cap:Nat) (q1:(Option Addr)) (q1_len:Nat) (q1_cap:Nat) (q2:Bool) (q3:Bool):T:=
 .cut 1 (.cons .bool .nil) (
 .chk (((0 :Int)≤(0 :Int))∧(0<(q0_len:Int))) <|
 .ptr q0 fun (z0:Addr)=>
 .load (Addr.add z0 0) .str fun (s1:ByteArray)=>
 .ite (decide (((ByteArray.size s1):Int) > 0)) (
 .chk (((0 :Int)≤(0 :Int))∧(0<(q0_len:Int))) <|
 .ptr q0 fun (z2:Addr)=>
 .load (Addr.add z2 0) .str fun (s3:ByteArray)=>
 .chk (((0 :Int)≤(0 :Int))∧(0<((ByteArray.size s3):Int))) <|
 .eff (convert 5 9 (.int .u8 (bt s3 0))) .str fun (s4:ByteArray)=>
 .leaf 1 [(.bool (strEq s4 (ByteArray.mk #[(91:UInt8)])))]) (
 .leaf 1 [(.bool false)]))
 (fun z=>jsonparser_calcAllocateSpace.t1 q0 q0_len q1_len q2 q3 z.1)
def jsonparser_calcAllocateSpace.h:Hints:=⟨[(25,[(10,(.int .i64))]),(32,[(10,(.int .i64))]),(35,[(10,(.int .i64))]),(39,[(10,(.int .i64))])],[],[(1,[(9,.bool)]),(5,[(32,.bool)]),(15,[(71,.bool)])],[(13,[(11,(.int .i64)),(10,(.int .i64))])]⟩
noncomputable def jsonparser_calcAllocateSpace.c:Code:=(Tryz.f81.body).getD .skip
theorem jsonparser_calcAllocateSpace.e (q0:(Option Addr)) (q0_len:Nat) (q0_cap:Nat) (q1:(Option Addr)) (q1_len:Nat) (q1_cap:Nat) (q2:Bool) (q3:Bool):fnT Tryz.prog jsonparser_calcAllocateSpace.h Tryz.f81 jsonparser_calcAllocateSpace.c [.v (.slice q0 q0_len q0_cap),.v (.slice q1 q1_len q1_cap),.v (.bool q2),.v (.bool q3)]=jsonparser_calcAllocateSpace.t q0 q0_len q0_cap q1 q1_len q1_cap q2 q3:=by kernel_rfl
theorem jsonparser_calcAllocateSpace.calls (q0:(Option Addr)) (q0_len:Nat) (q0_cap:Nat) (q1:(Option Addr)) (q1_len:Nat) (q1_cap:Nat) (q2:Bool) (q3:Bool) {w:World} {R:Ending→World→Prop} (hs:sat Tryz.prog (jsonparser_calcAllocateSpace.t q0 q0_len q0_cap q1 q1_len q1_cap q2 q3) (fun l vs w'=>l=0∧R (.returned (retVal vs)) w') w):Calls Tryz.prog 81 #[(.slice q0 q0_len q0_cap),(.slice q1 q1_len q1_cap),(.bool q2),(.bool q3)] w R:=
 have h:=calls_of_tree (w:=w) (R:=R) (args:=[.v (.slice q0 q0_len q0_cap),.v (.slice q1 q1_len q1_cap),.v (.bool q2),.v (.bool q3)]) (c:=jsonparser_calcAllocateSpace.c) Tryz.func81 (show Tryz.f81.body=some jsonparser_calcAllocateSpace.c by kernel_rfl) (of_decide_eq_true (by kernel_rfl)) (jsonparser_calcAllocateSpace.e q0 q0_len q0_cap q1 q1_len q1_cap q2 q3) hs
 h
def jsonparser_WriteToBuffer.t (buffer:(Option Addr)) (buffer_len:Nat) (buffer_cap:Nat) (str:ByteArray):T:=
 .eff (Builtin.copy_ (Call.argTypes (Call.mk (Callee.builtin Builtin.copy) #[(Operand.tmp 5),(Operand.tmp 6)] #[59,9])) 3 #[(.slice buffer buffer_len buffer_cap),(.string str)]) (.int .i64) fun (i0:Int)=>
 .leaf 0 [(.int .i64 ((ByteArray.size str):Int))]
def jsonparser_WriteToBuffer.h:Hints:=⟨[],[],[],[]⟩
noncomputable def jsonparser_WriteToBuffer.c:Code:=(Tryz.f63.body).getD .skip
theorem jsonparser_WriteToBuffer.e (buffer:(Option Addr)) (buffer_len:Nat) (buffer_cap:Nat) (str:ByteArray):fnT Tryz.prog jsonparser_WriteToBuffer.h Tryz.f63 jsonparser_WriteToBuffer.c [.v (.slice buffer buffer_len buffer_cap),.v (.string str)]=jsonparser_WriteToBuffer.t buffer buffer_len buffer_cap str:=by kernel_rfl
theorem jsonparser_WriteToBuffer.calls (buffer:(Option Addr)) (buffer_len:Nat) (buffer_cap:Nat) (str:ByteArray) {w:World} {R:Ending→World→Prop} (hs:sat Tryz.prog (jsonparser_WriteToBuffer.t buffer buffer_len buffer_cap str) (fun l vs w'=>l=0∧R (.returned (retVal vs)) w') w):Calls Tryz.prog 63 #[(.slice buffer buffer_len buffer_cap),(.string str)] w R:=
 have h:=calls_of_tree (w:=w) (R:=R) (args:=[.v (.slice buffer buffer_len buffer_cap),.v (.string str)]) (c:=jsonparser_WriteToBuffer.c) Tryz.func63 (show Tryz.f63.body=some jsonparser_WriteToBuffer.c by kernel_rfl) (of_decide_eq_true (by kernel_rfl)) (jsonparser_WriteToBuffer.e buffer buffer_len buffer_cap str) hs
 h
end Go.Proofs.YtlfebfkphgelfaaGreatDoor.Tr
