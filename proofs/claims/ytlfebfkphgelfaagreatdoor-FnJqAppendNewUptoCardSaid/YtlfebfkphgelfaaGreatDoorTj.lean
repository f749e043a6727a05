import Derived.Test.YtlfebfkphgelfaaGreatDoorRz
import Derived.Test.YtlfebfkphgelfaaGreatDoorProg
import Derived.KernelRfl
namespace Go.Proofs.YtlfebfkphgelfaaGreatDoor.Tr
open Go Go.Proofs Rx
set_option linter.unusedVariables false
set_option maxRecDepth 100000
def laws_FnJqAppendNew.t4 (q0:ByteArray) (q1:ByteArray) (q2:(Option Addr)) (q2_len:Nat) (q2_cap:Nat) (p92:(Option Addr)):T:=
 .call 26 #[(.string q0),(.string q1),(.slice q2 q2_len q2_cap)] (.tuple (.cons .str (.cons .bool .nil))) fun (z93:(ByteArray×(Bool×PUnit)))=>
 .call 10 #[(.string z93.1)] (.tuple (.cons (.agg (.cons (.int .i64) (.cons .str (.cons .slice (.cons .slice .nil))))) (.cons .bool .nil))) fun (z94:((Int×(ByteArray×((Option Addr×Nat×Nat)×((Option Addr×Nat×Nat)×PUnit))))×(Bool×PUnit)))=>
 .alloc (Obj.cells #[(.int .i64 0),(.string (ByteArray.mk #[])),(.slice none 0 0),(.slice none 0 0)] 34 (0,0)) fun (z95:Addr)=>
 .effU (Instr.storeAt 34 (.pointer (some z95)) (.agg #[(.int .i64 z94.1.1),(.string z94.1.2.1),(.slice z94.1.2.2.1.1 z94.1.2.2.1.2.1 z94.1.2.2.1.2.2),(.slice z94.1.2.2.2.1.1 z94.1.2.2.2.1.2.1 z94.1.2.2.2.1.2.2)])) <|
 .ite z93.2.1 (
 .ite z94.2.1 (
 .eff (Instr.loadAt 34 (.pointer (some z95))) (.agg (.cons (.int .i64) (.cons .str (.cons .slice (.cons .slice .nil))))) fun (z96:(Int×(ByteArray×((Option Addr×Nat×Nat)×((Option Addr×Nat×Nat)×PUnit)))))=>
 .ptr p92 fun (z97:Addr)=>
 .eff (Instr.loadAt 34 (.pointer (some z97))) (.agg (.cons (.int .i64) (.cons .str (.cons .slice (.cons .slice .nil))))) fun (z98:(Int×(ByteArray×((Option Addr×Nat×Nat)×((Option Addr×Nat×Nat)×PUnit)))))=>
 .call 14 #[(.agg #[(.int .i64 z96.1),(.string z96.2.1),(.slice z96.2.2.1.1 z96.2.2.1.2.1 z96.2.2.1.2.2),(.slice z96.2.2.2.1.1 z96.2.2.2.1.2.1 z96.2.2.2.1.2.2)]),(.agg #[(.int .i64 z98.1),(.string z98.2.1),(.slice z98.2.2.1.1 z98.2.2.1.2.1 z98.2.2.1.2.2),(.slice z98.2.2.2.1.1 z98.2.2.2.1.2.1 z98.2.2.2.1.2.2)])] .bool fun (b99:Bool)=>
 .leaf 0 [(.bool b99)]) (
 .leaf 0 [(.bool false)])) (
 .leaf 0 [(.bool false)])
def laws_FnJqAppendNew.t3 (q0:ByteArray) (q1:ByteArray) (q2:(Option Addr)) (q2_len:Nat) (q2_cap:Nat) (z2:(Int×(Bool×PUnit))) (z7:Addr) (p63:(Option Addr)):T:=
 .cut 1 (.cons .ptr .nil) (
 .drew <|
 .effQ (Instr.loadAt 29 (.pointer (some z7))) (.agg (.cons (.int .i64) (.cons (.int .i64) (.cons (.int .i64) (.cons .slice (.cons .slice .nil)))))) fun (z64:(Int×(Int×(Int×((Option Addr×Nat×Nat)×((Option Addr×Nat×Nat)×PUnit))))))=>
 .effQ (Instr.loadAt 29 (.pointer (some z7))) (.agg (.cons (.int .i64) (.cons (.int .i64) (.cons (.int .i64) (.cons .slice (.cons .slice .nil)))))) fun (z65:(Int×(Int×(Int×((Option Addr×Nat×Nat)×((Option Addr×Nat×Nat)×PUnit))))))=>
 .chk (((0 :Int)≤(0 :Int))∧((0≤z2.1)∧(z2.1≤(q2_cap:Int)))) <|
 .ptr p63 fun (z66:Addr)=>
 .effQ (Instr.loadAt 34 (.pointer (some z66))) (.agg (.cons (.int .i64) (.cons .str (.cons .slice (.cons .slice .nil))))) fun (z67:(Int×(ByteArray×((Option Addr×Nat×Nat)×((Option Addr×Nat×Nat)×PUnit)))))=>
 .both (
 .here fun (z68:World)=>
 .call 23 #[(.string q0),(.agg #[(.int .i64 z64.1),(.int .i64 z64.2.1),(.int .i64 z64.2.2.1),(.slice z64.2.2.2.1.1 z64.2.2.2.1.2.1 z64.2.2.2.1.2.2),(.slice z64.2.2.2.2.1.1 z64.2.2.2.2.1.2.1 z64.2.2.2.2.1.2.2)])] (.agg (.cons (.int .i64) (.cons .str (.cons .slice (.cons .slice .nil))))) fun (z69:(Int×(ByteArray×((Option Addr×Nat×Nat)×((Option Addr×Nat×Nat)×PUnit)))))=>
 .grew z68 <|
 .both (
 .here fun (z70:World)=>
 .call 25 #[(.string q0),(.agg #[(.int .i64 z65.1),(.int .i64 z65.2.1),(.int .i64 z65.2.2.1),(.slice z65.2.2.2.1.1 z65.2.2.2.1.2.1 z65.2.2.2.1.2.2),(.slice z65.2.2.2.2.1.1 z65.2.2.2.2.1.2.1 z65.2.2.2.2.1.2.2)]),(.slice (if (q2_cap=0) then q2 else (Option.map (fun (y71:Addr)=>(Addr.add y71 0)) q2)) ((Int.toNat z2.1)-0) (q2_cap-0))] .slice fun (z72:(Option Addr×Nat×Nat))=>
 .grew z70 <|
 .both (
 .call 24 #[(.agg #[(.int .i64 z69.1),(.string z69.2.1),(.slice z69.2.2.1.1 z69.2.2.1.2.1 z69.2.2.1.2.2),(.slice z69.2.2.2.1.1 z69.2.2.2.1.2.1 z69.2.2.2.1.2.2)]),(.slice z72.1 z72.2.1 z72.2.2),(.agg #[(.int .i64 z67.1),(.string z67.2.1),(.slice z67.2.2.1.1 z67.2.2.1.2.1 z67.2.2.1.2.2),(.slice z67.2.2.2.1.1 z67.2.2.2.1.2.1 z67.2.2.2.1.2.2)])] (.tuple (.cons (.agg (.cons (.int .i64) (.cons .str (.cons .slice (.cons .slice .nil))))) (.cons .bool .nil))) fun (z73:((Int×(ByteArray×((Option Addr×Nat×Nat)×((Option Addr×Nat×Nat)×PUnit))))×(Bool×PUnit)))=>
 .alloc (Obj.cells #[(.int .i64 0),(.string (ByteArray.mk #[])),(.slice none 0 0),(.slice none 0 0)] 34 (0,0)) fun (z74:Addr)=>
 .effU (Instr.storeAt 34 (.pointer (some z74)) (.agg #[(.int .i64 z73.1.1),(.string z73.1.2.1),(.slice z73.1.2.2.1.1 z73.1.2.2.1.2.1 z73.1.2.2.1.2.2),(.slice z73.1.2.2.2.1.1 z73.1.2.2.2.1.2.1 z73.1.2.2.2.1.2.2)])) <|
 .leaf 1 [(.pointer (some z74))]) (
 .here fun (z75:World)=>
 .alloc (Obj.cells #[(.int .i64 0),(.string (ByteArray.mk #[])),(.slice none 0 0),(.slice none 0 0)] 34 (0,0)) fun (z76:Addr)=>
 .grew z75 <|
 .call 24 #[(.agg #[(.int .i64 z69.1),(.string z69.2.1),(.slice z69.2.2.1.1 z69.2.2.1.2.1 z69.2.2.1.2.2),(.slice z69.2.2.2.1.1 z69.2.2.2.1.2.1 z69.2.2.2.1.2.2)]),(.slice z72.1 z72.2.1 z72.2.2),(.agg #[(.int .i64 z67.1),(.string z67.2.1),(.slice z67.2.2.1.1 z67.2.2.1.2.1 z67.2.2.1.2.2),(.slice z67.2.2.2.1.1 z67.2.2.2.1.2.1 z67.2.2.2.1.2.2)])] (.tuple (.cons (.agg (.cons (.int .i64) (.cons .str (.cons .slice (.cons .slice .nil))))) (.cons .bool .nil))) fun (z77:((Int×(ByteArray×((Option Addr×Nat×Nat)×((Option Addr×Nat×Nat)×PUnit))))×(Bool×PUnit)))=>
 .effU (Instr.storeAt 34 (.pointer (some z76)) (.agg #[(.int .i64 z77.1.1),(.string z77.1.2.1),(.slice z77.1.2.2.1.1 z77.1.2.2.1.2.1 z77.1.2.2.1.2.2),(.slice z77.1.2.2.2.1.1 z77.1.2.2.2.1.2.1 z77.1.2.2.2.1.2.2)])) <|
 .leaf 1 [(.pointer (some z76))])) (
 .here fun (z78:World)=>
 .alloc (Obj.cells #[(.int .i64 0),(.string (ByteArray.mk #[])),(.slice none 0 0),(.slice none 0 0)] 34 (0,0)) fun (z79:Addr)=>
 .grew z78 <|
 .here fun (z80:World)=>
 .call 25 #[(.string q0),(.agg #[(.int .i64 z65.1),(.int .i64 z65.2.1),(.int .i64 z65.2.2.1),(.slice z65.2.2.2.1.1 z65.2.2.2.1.2.1 z65.2.2.2.1.2.2),(.slice z65.2.2.2.2.1.1 z65.2.2.2.2.1.2.1 z65.2.2.2.2.1.2.2)]),(.slice (if (q2_cap=0) then q2 else (Option.map (fun (y81:Addr)=>(Addr.add y81 0)) q2)) ((Int.toNat z2.1)-0) (q2_cap-0))] .slice fun (z82:(Option Addr×Nat×Nat))=>
 .grew z80 <|
 .call 24 #[(.agg #[(.int .i64 z69.1),(.string z69.2.1),(.slice z69.2.2.1.1 z69.2.2.1.2.1 z69.2.2.1.2.2),(.slice z69.2.2.2.1.1 z69.2.2.2.1.2.1 z69.2.2.2.1.2.2)]),(.slice z82.1 z82.2.1 z82.2.2),(.agg #[(.int .i64 z67.1),(.string z67.2.1),(.slice z67.2.2.1.1 z67.2.2.1.2.1 z67.2.2.1.2.2),(.slice z67.2.2.2.1.1 z67.2.2.2.1.2.1 z67.2.2.2.1.2.2)])] (.tuple (.cons (.agg (.cons (.int .i64) (.cons .str (.cons .slice (.cons .slice .nil))))) (.cons .bool .nil))) fun (z83:((Int×(ByteArray×((Option Addr×Nat×Nat)×((Option Addr×Nat×Nat)×PUnit))))×(Bool×PUnit)))=>
 .effU (Instr.storeAt 34 (.pointer (some z79)) (.agg #[(.int .i64 z83.1.1),(.string z83.1.2.1),(.slice z83.1.2.2.1.1 z83.1.2.2.1.2.1 z83.1.2.2.1.2.2),(.slice z83.1.2.2.2.1.1 z83.1.2.2.2.1.2.1 z83.1.2.2.2.1.2.2)])) <|
 .leaf 1 [(.pointer (some z79))])) (
 .here fun (z84:World)=>
 .alloc (Obj.cells #[(.int .i64 0),(.string (ByteArray.mk #[])),(.slice none 0 0),(.slice none 0 0)] 34 (0,0)) fun (z85:Addr)=>
 .grew z84 <|
 .here fun (z86:World)=>
 .call 23 #[(.string q0),(.agg #[(.int .i64 z64.1),(.int .i64 z64.2.1),(.int .i64 z64.2.2.1),(.slice z64.2.2.2.1.1 z64.2.2.2.1.2.1 z64.2.2.2.1.2.2),(.slice z64.2.2.2.2.1.1 z64.2.2.2.2.1.2.1 z64.2.2.2.2.1.2.2)])] (.agg (.cons (.int .i64) (.cons .str (.cons .slice (.cons .slice .nil))))) fun (z87:(Int×(ByteArray×((Option Addr×Nat×Nat)×((Option Addr×Nat×Nat)×PUnit)))))=>
 .grew z86 <|
 .here fun (z88:World)=>
 .call 25 #[(.string q0),(.agg #[(.int .i64 z65.1),(.int .i64 z65.2.1),(.int .i64 z65.2.2.1),(.slice z65.2.2.2.1.1 z65.2.2.2.1.2.1 z65.2.2.2.1.2.2),(.slice z65.2.2.2.2.1.1 z65.2.2.2.2.1.2.1 z65.2.2.2.2.1.2.2)]),(.slice (if (q2_cap=0) then q2 else (Option.map (fun (y89:Addr)=>(Addr.add y89 0)) q2)) ((Int.toNat z2.1)-0) (q2_cap-0))] .slice fun (z90:(Option Addr×Nat×Nat))=>
 .grew z88 <|
 .call 24 #[(.agg #[(.int .i64 z87.1),(.string z87.2.1),(.slice z87.2.2.1.1 z87.2.2.1.2.1 z87.2.2.1.2.2),(.slice z87.2.2.2.1.1 z87.2.2.2.1.2.1 z87.2.2.2.1.2.2)]),(.slice z90.1 z90.2.1 z90.2.2),(.agg #[(.int .i64 z67.1),(.string z67.2.1),(.slice z67.2.2.1.1 z67.2.2.1.2.1 z67.2.2.1.2.2),(.slice z67.2.2.2.1.1 z67.2.2.2.1.2.1 z67.2.2.2.1.2.2)])] (.tuple (.cons (.agg (.cons (.int .i64) (.cons .str (.cons .slice (.cons .slice .nil))))) (.cons .bool .nil))) fun (z91:((Int×(ByteArray×((Option Addr×Nat×Nat)×((Option Addr×Nat×Nat)×PUnit))))×(Bool×PUnit)))=>
 .effU (Instr.storeAt 34 (.pointer (some z85)) (.agg #[(.int .i64 z91.1.1),(.string z91.1.2.1),(.slice z91.1.2.2.1.1 z91.1.2.2.1.2.1 z91.1.2.2.1.2.2),(.slice z91.1.2.2.2.1.1 z91.1.2.2.2.1.2.1 z91.1.2.2.2.1.2.2)])) <|
 .leaf 1 [(.pointer (some z85))]))
 (fun z=>laws_FnJqAppendNew.t4 q0 q1 q2 q2_len q2_cap z.1)
def laws_FnJqAppendNew.t2 (q0:ByteArray) (q1:ByteArray) (q2:(Option Addr)) (q2_len:Nat) (q2_cap:Nat) (z2:(Int×(Bool×PUnit))) (z4:Addr) (b5:Bool):T:=
 .ite b5 (
 .leaf 0 [(.bool true)]) (
 .call 19 #[(.string q0)] (.tuple (.cons (.agg (.cons (.int .i64) (.cons (.int .i64) (.cons (.int .i64) (.cons .slice (.cons .slice .nil)))))) (.cons .bool .nil))) fun (z6:((Int×(Int×(Int×((Option Addr×Nat×Nat)×((Option Addr×Nat×Nat)×PUnit)))))×(Bool×PUnit)))=>
 .alloc (Obj.cells #[(.int .i64 0),(.int .i64 0),(.int .i64 0),(.slice none 0 0),(.slice none 0 0)] 29 (0,0)) fun (z7:Addr)=>
 .effU (Instr.storeAt 29 (.pointer (some z7)) (.agg #[(.int .i64 z6.1.1),(.int .i64 z6.1.2.1),(.int .i64 z6.1.2.2.1),(.slice z6.1.2.2.2.1.1 z6.1.2.2.2.1.2.1 z6.1.2.2.2.1.2.2),(.slice z6.1.2.2.2.2.1.1 z6.1.2.2.2.2.1.2.1 z6.1.2.2.2.2.1.2.2)])) <|
 .eff (Instr.loadAt 29 (.pointer (some z7))) (.agg (.cons (.int .i64) (.cons (.int .i64) (.cons (.int .i64) (.cons .slice (.cons .slice .nil)))))) fun (z8:(Int×(Int×(Int×((Option Addr×Nat×Nat)×((Option Addr×Nat×Nat)×PUnit))))))=>
 .call 20 #[(.string q0),(.agg #[(.int .i64 z8.1),(.int .i64 z8.2.1),(.int .i64 z8.2.2.1),(.slice z8.2.2.2.1.1 z8.2.2.2.1.2.1 z8.2.2.2.1.2.2),(.slice z8.2.2.2.2.1.1 z8.2.2.2.2.1.2.1 z8.2.2.2.2.1.2.2)]),(.slice q2 q2_len q2_cap)] .bool fun (b9:Bool)=>
 .ite (!b9) (
 .leaf 0 [(.bool true)]) (
 .eff (Instr.loadAt 29 (.pointer (some z7))) (.agg (.cons (.int .i64) (.cons (.int .i64) (.cons (.int .i64) (.cons .slice (.cons .slice .nil)))))) fun (z10:(Int×(Int×(Int×((Option Addr×Nat×Nat)×((Option Addr×Nat×Nat)×PUnit))))))=>
 .call 21 #[(.string q0),(.agg #[(.int .i64 z10.1),(.int .i64 z10.2.1),(.int .i64 z10.2.2.1),(.slice z10.2.2.2.1.1 z10.2.2.2.1.2.1 z10.2.2.2.1.2.2),(.slice z10.2.2.2.2.1.1 z10.2.2.2.2.1.2.1 z10.2.2.2.2.1.2.2)]),(.slice q2 q2_len q2_cap)] (.tuple (.cons (.agg (.cons (.int .i64) (.cons (.int .i64) (.cons (.int .i64) (.cons .slice (.cons .slice .nil)))))) (.cons (.int .i64) .nil))) fun (z11:((Int×(Int×(Int×((Option Addr×Nat×Nat)×((Option Addr×Nat×Nat)×PUnit)))))×(Int×PUnit)))=>
 .alloc (Obj.cells #[(.int .i64 0),(.int .i64 0),(.int .i64 0),(.slice none 0 0),(.slice none 0 0)] 29 (0,0)) fun (z12:Addr)=>
 .effU (Instr.storeAt 29 (.pointer (some z12)) (.agg #[(.int .i64 z11.1.1),(.int .i64 z11.1.2.1),(.int .i64 z11.1.2.2.1),(.slice z11.1.2.2.2.1.1 z11.1.2.2.2.1.2.1 z11.1.2.2.2.1.2.2),(.slice z11.1.2.2.2.2.1.1 z11.1.2.2.2.2.1.2.1 z11.1.2.2.2.2.1.2.2)])) <|
 .cut 1 (.cons .ptr .nil) (
 .drew <|
 .effQ (Instr.loadAt 29 (.pointer (some z12))) (.agg (.cons (.int .i64) (.cons (.int .i64) (.cons (.int .i64) (.cons .slice (.cons .slice .nil)))))) fun (z13:(Int×(Int×(Int×((Option Addr×Nat×Nat)×((Option Addr×Nat×Nat)×PUnit))))))=>
 .chk ((0≤z2.1)∧((z2.1≤(q2_len:Int))∧((q2_len:Int)≤(q2_cap:Int)))) <|
 .effQ (Instr.loadAt 34 (.pointer (some z4))) (.agg (.cons (.int .i64) (.cons .str (.cons .slice (.cons .slice .nil))))) fun (z14:(Int×(ByteArray×((Option Addr×Nat×Nat)×((Option Addr×Nat×Nat)×PUnit)))))=>
 .both (
 .here fun (z15:World)=>
 .call 23 #[(.string q0),(.agg #[(.int .i64 z13.1),(.int .i64 z13.2.1),(.int .i64 z13.2.2.1),(.slice z13.2.2.2.1.1 z13.2.2.2.1.2.1 z13.2.2.2.1.2.2),(.slice z13.2.2.2.2.1.1 z13.2.2.2.2.1.2.1 z13.2.2.2.2.1.2.2)])] (.agg (.cons (.int .i64) (.cons .str (.cons .slice (.cons .slice .nil))))) fun (z16:(Int×(ByteArray×((Option Addr×Nat×Nat)×((Option Addr×Nat×Nat)×PUnit)))))=>
 .grew z15 <|
 .both (
 .here fun (z17:World)=>
 .eff (Instr.buildSlice 32 1 #[(0,(.agg #[(.int .i64 z14.1),(.string z14.2.1),(.slice z14.2.2.1.1 z14.2.2.1.2.1 z14.2.2.1.2.2),(.slice z14.2.2.2.1.1 z14.2.2.2.1.2.1 z14.2.2.2.1.2.2)]))]) .slice fun (z18:(Option Addr×Nat×Nat))=>
 .grew z17 <|
 .both (
 .call 22 #[(.agg #[(.int .i64 z16.1),(.string z16.2.1),(.slice z16.2.2.1.1 z16.2.2.1.2.1 z16.2.2.1.2.2),(.slice z16.2.2.2.1.1 z16.2.2.2.1.2.1 z16.2.2.2.1.2.2)]),(.slice (if (q2_cap=(Int.toNat z2.1)) then q2 else (Option.map (fun (y19:Addr)=>(Addr.add y19 ((Int.toNat z2.1) * 1))) q2)) ((Int.toNat (q2_len:Int))-(Int.toNat z2.1)) (q2_cap-(Int.toNat z2.1))),(.agg #[(.int .i64 5),(.string (ByteArray.mk #[])),(.slice none 0 0),(.slice z18.1 z18.2.1 z18.2.2)])] (.tuple (.cons (.agg (.cons (.int .i64) (.cons .str (.cons .slice (.cons .slice .nil))))) (.cons .bool .nil))) fun (z20:((Int×(ByteArray×((Option Addr×Nat×Nat)×((Option Addr×Nat×Nat)×PUnit))))×(Bool×PUnit)))=>
 .alloc (Obj.cells #[(.int .i64 0),(.string (ByteArray.mk #[])),(.slice none 0 0),(.slice none 0 0)] 34 (0,0)) fun (z21:Addr)=>
 .effU (Instr.storeAt 34 (.pointer (some z21)) (.agg #[(.int .i64 z20.1.1),(.string z20.1.2.1),(.slice z20.1.2.2.1.1 z20.1.2.2.1.2.1 z20.1.2.2.1.2.2),(.slice z20.1.2.2.2.1.1 z20.1.2.2.2.1.2.1 z20.1.2.2.2.1.2.2)])) <|
 .leaf 1 [(.pointer (some z21))]) (
 .here fun (z22:World)=>
 .alloc (Obj.cells #[(.int .i64 0),(.string (ByteArray.mk #[])),(.slice none 0 0),(.slice none 0 0)] 34 (0,0)) fun (z23:Addr)=>
 .grew z22 <|
 .call 22 #[(.agg #[(.int .i64 z16.1),(.string z16.2.1),(.slice z16.2.2.1.1 z16.2.2.1.2.1 z16.2.2.1.2.2),(.slice z16.2.2.2.1.1 z16.2.2.2.1.2.1 z16.2.2.2.1.2.2)]),(.slice (if (q2_cap=(Int.toNat z2.1)) then q2 else (Option.map (fun (y24:Addr)=>(Addr.add y24 ((Int.toNat z2.1) * 1))) q2)) ((Int.toNat (q2_len:Int))-(Int.toNat z2.1)) (q2_cap-(Int.toNat z2.1))),(.agg #[(.int .i64 5),(.string (ByteArray.mk #[])),(.slice none 0 0),(.slice z18.1 z18.2.1 z18.2.2)])] (.tuple (.cons (.agg (.cons (.int .i64) (.cons .str (.cons .slice (.cons .slice .nil))))) (.cons .bool .nil))) fun (z25:((Int×(ByteArray×((Option Addr×Nat×Nat)×((Option Addr×Nat×Nat)×PUnit))))×(Bool×PUnit)))=>
 .effU (Instr.storeAt 34 (.pointer (some z23)) (.agg #[(.int .i64 z25.1.1),(.string z25.1.2.1),(.slice z25.1.2.2.1.1 z25.1.2.2.1.2.1 z25.1.2.2.1.2.2),(.slice z25.1.2.2.2.1.1 z25.1.2.2.2.1.2.1 z25.1.2.2.2.1.2.2)])) <|
 .leaf 1 [(.pointer (some z23))])) (
 .here fun (z26:World)=>
 .alloc (Obj.cells #[(.int .i64 0),(.string (ByteArray.mk #[])),(.slice none 0 0),(.slice none 0 0)] 34 (0,0)) fun (z27:Addr)=>
 .grew z26 <|
 .here fun (z28:World)=>
 .eff (Instr.buildSlice 32 1 #[(0,(.agg #[(.int .i64 z14.1),(.string z14.2.1),(.slice z14.2.2.1.1 z14.2.2.1.2.1 z14.2.2.1.2.2),(.slice z14.2.2.2.1.1 z14.2.2.2.1.2.1 z14.2.2.2.1.2.2)]))]) .slice fun (z29:(Option Addr×Nat×Nat))=>
 .grew z28 <|
 .call 22 #[(.agg #[(.int .i64 z16.1),(.string z16.2.1),(.slice z16.2.2.1.1 z16.2.2.1.2.1 z16.2.2.1.2.2),(.slice z16.2.2.2.1.1 z16.2.2.2.1.2.1 z16.2.2.2.1.2.2)]),(.slice (if (q2_cap=(Int.toNat z2.1)) then q2 else (Option.map (fun (y30:Addr)=>(Addr.add y30 ((Int.toNat z2.1) * 1))) q2)) ((Int.toNat (q2_len:Int))-(Int.toNat z2.1)) (q2_cap-(Int.toNat z2.1))),(.agg #[(.int .i64 5),(.string (ByteArray.mk #[])),(.slice none 0 0),(.slice z29.1 z29.2.1 z29.2.2)])] (.tuple (.cons (.agg (.cons (.int .i64) (.cons .str (.cons .slice (.cons .slice .nil))))) (.cons .bool .nil))) fun (z31:((Int×(ByteArray×((Option Addr×Nat×Nat)×((Option Addr×Nat×Nat)×PUnit))))×(Bool×PUnit)))=>
 .effU (Instr.storeAt 34 (.pointer (some z27)) (.agg #[(.int .i64 z31.1.1),(.string z31.1.2.1),(.slice z31.1.2.2.1.1 z31.1.2.2.1.2.1 z31.1.2.2.1.2.2),(.slice z31.1.2.2.2.1.1 z31.1.2.2.2.1.2.1 z31.1.2.2.2.1.2.2)])) <|
 .leaf 1 [(.pointer (some z27))])) (
 .both (
 .here fun (z32:World)=>
 .eff (Instr.buildSlice 32 1 #[(0,(.agg #[(.int .i64 z14.1),(.string z14.2.1),(.slice z14.2.2.1.1 z14.2.2.1.2.1 z14.2.2.1.2.2),(.slice z14.2.2.2.1.1 z14.2.2.2.1.2.1 z14.2.2.2.1.2.2)]))]) .slice fun (z33:(Option Addr×Nat×Nat))=>
 .grew z32 <|
 .both (
 .here fun (z34:World)=>
 .call 23 #[(.string q0),(.agg #[(.int .i64 z13.1),(.int .i64 z13.2.1),(.int .i64 z13.2.2.1),(.slice z13.2.2.2.1.1 z13.2.2.2.1.2.1 z13.2.2.2.1.2.2),(.slice z13.2.2.2.2.1.1 z13.2.2.2.2.1.2.1 z13.2.2.2.2.1.2.2)])] (.agg (.cons (.int .i64) (.cons .str (.cons .slice (.cons .slice .nil))))) fun (z35:(Int×(ByteArray×((Option Addr×Nat×Nat)×((Option Addr×Nat×Nat)×PUnit)))))=>
 .grew z34 <|
 .both (
 .call 22 #[(.agg #[(.int .i64 z35.1),(.string z35.2.1),(.slice z35.2.2.1.1 z35.2.2.1.2.1 z35.2.2.1.2.2),(.slice z35.2.2.2.1.1 z35.2.2.2.1.2.1 z35.2.2.2.1.2.2)]),(.slice (if (q2_cap=(Int.toNat z2.1)) then q2 else (Option.map (fun (y36:Addr)=>(Addr.add y36 ((Int.toNat z2.1) * 1))) q2)) ((Int.toNat (q2_len:Int))-(Int.toNat z2.1)) (q2_cap-(Int.toNat z2.1))),(.agg #[(.int .i64 5),(.string (ByteArray.mk #[])),(.slice none 0 0),(.slice z33.1 z33.2.1 z33.2.2)])] (.tuple (.cons (.agg (.cons (.int .i64) (.cons .str (.cons .slice (.cons .slice .nil))))) (.cons .bool .nil))) fun (z37:((Int×(ByteArray×((Option Addr×Nat×Nat)×((Option Addr×Nat×Nat)×PUnit))))×(Bool×PUnit)))=>
 .alloc (Obj.cells #[(.int .i64 0),(.string (ByteArray.mk #[])),(.slice none 0 0),(.slice none 0 0)] 34 (0,0)) fun (z38:Addr)=>
 .effU (Instr.storeAt 34 (.pointer (some z38)) (.agg #[(.int .i64 z37.1.1),(.string z37.1.2.1),(.slice z37.1.2.2.1.1 z37.1.2.2.1.2.1 z37.1.2.2.1.2.2),(.slice z37.1.2.2.2.1.1 z37.1.2.2.2.1.2.1 z37.1.2.2.2.1.2.2)])) <|
 .leaf 1 [(.pointer (some z38))]) (
 .here fun (z39:World)=>
 .alloc (Obj.cells #[(.int .i64 0),(.string (ByteArray.mk #[])),(.slice none 0 0),(.slice none 0 0)] 34 (0,0)) fun (z40:Addr)=>
 .grew z39 <|
 .call 22 #[(.agg #[(.int .i64 z35.1),(.string z35.2.1),(.slice z35.2.2.1.1 z35.2.2.1.2.1 z35.2.2.1.2.2),(.slice z35.2.2.2.1.1 z35.2.2.2.1.2.1 z35.2.2.2.1.2.2)]),(.slice (if (q2_cap=(Int.toNat z2.1)) then q2 else (Option.map (fun (y41:Addr)=>(Addr.add y41 ((Int.toNat z2.1) * 1))) q2)) ((Int.toNat (q2_len:Int))-(Int.toNat z2.1)) (q2_cap-(Int.toNat z2.1))),(.agg #[(.int .i64 5),(.string (ByteArray.mk #[])),(.slice none 0 0),(.slice z33.1 z33.2.1 z33.2.2)])] (.tuple (.cons (.agg (.cons (.int .i64) (.cons .str (.cons .slice (.cons .slice .nil))))) (.cons .bool .nil))) fun (z42:((Int×(ByteArray×((Option Addr×Nat×Nat)×((Option Addr×Nat×Nat)×PUnit))))×(Bool×PUnit)))=>
 .effU (Instr.storeAt 34 (.pointer (some z40)) (.agg #[(.int .i64 z42.1.1),(.string z42.1.2.1),(.slice z42.1.2.2.1.1 z42.1.2.2.1.2.1 z42.1.2.2.1.2.2),(.slice z42.1.2.2.2.1.1 z42.1.2.2.2.1.2.1 z42.1.2.2.2.1.2.2)])) <|
 .leaf 1 [(.pointer (some z40))])) (
 .here fun (z43:World)=>
 .alloc (Obj.cells #[(.int .i64 0),(.string (ByteArray.mk #[])),(.slice none 0 0),(.slice none 0 0)] 34 (0,0)) fun (z44:Addr)=>
 .grew z43 <|
 .here fun (z45:World)=>
 .call 23 #[(.string q0),(.agg #[(.int .i64 z13.1),(.int .i64 z13.2.1),(.int .i64 z13.2.2.1),(.slice z13.2.2.2.1.1 z13.2.2.2.1.2.1 z13.2.2.2.1.2.2),(.slice z13.2.2.2.2.1.1 z13.2.2.2.2.1.2.1 z13.2.2.2.2.1.2.2)])] (.agg (.cons (.int .i64) (.cons .str (.cons .slice (.cons .slice .nil))))) fun (z46:(Int×(ByteArray×((Option Addr×Nat×Nat)×((Option Addr×Nat×Nat)×PUnit)))))=>
 .grew z45 <|
 .call 22 #[(.agg #[(.int .i64 z46.1),(.string z46.2.1),(.slice z46.2.2.1.1 z46.2.2.1.2.1 z46.2.2.1.2.2),(.slice z46.2.2.2.1.1 z46.2.2.2.1.2.1 z46.2.2.2.1.2.2)]),(.slice (if (q2_cap=(Int.toNat z2.1)) then q2 else (Option.map (fun (y47:Addr)=>(Addr.add y47 ((Int.toNat z2.1) * 1))) q2)) ((Int.toNat (q2_len:Int))-(Int.toNat z2.1)) (q2_cap-(Int.toNat z2.1))),(.agg #[(.int .i64 5),(.string (ByteArray.mk #[])),(.slice none 0 0),(.slice z33.1 z33.2.1 z33.2.2)])] (.tuple (.cons (.agg (.cons (.int .i64) (.cons .str (.cons .slice (.cons .slice .nil))))) (.cons .bool .nil))) fun (z48:((Int×(ByteArray×((Option Addr×Nat×Nat)×((Option Addr×Nat×Nat)×PUnit))))×(Bool×PUnit)))=>
 .effU (Instr.storeAt 34 (.pointer (some z44)) (.agg #[(.int .i64 z48.1.1),(.string z48.1.2.1),(.slice z48.1.2.2.1.1 z48.1.2.2.1.2.1 z48.1.2.2.1.2.2),(.slice z48.1.2.2.2.1.1 z48.1.2.2.2.1.2.1 z48.1.2.2.2.1.2.2)])) <|
 .leaf 1 [(.pointer (some z44))])) (
 .here fun (z49:World)=>
 .alloc (Obj.cells #[(.int .i64 0),(.string (ByteArray.mk #[])),(.slice none 0 0),(.slice none 0 0)] 34 (0,0)) fun (z50:Addr)=>
 .grew z49 <|
 .both (
 .here fun (z51:World)=>
 .call 23 #[(.string q0),(.agg #[(.int .i64 z13.1),(.int .i64 z13.2.1),(.int .i64 z13.2.2.1),(.slice z13.2.2.2.1.1 z13.2.2.2.1.2.1 z13.2.2.2.1.2.2),(.slice z13.2.2.2.2.1.1 z13.2.2.2.2.1.2.1 z13.2.2.2.2.1.2.2)])] (.agg (.cons (.int .i64) (.cons .str (.cons .slice (.cons .slice .nil))))) fun (z52:(Int×(ByteArray×((Option Addr×Nat×Nat)×((Option Addr×Nat×Nat)×PUnit)))))=>
 .grew z51 <|
 .here fun (z53:World)=>
 .eff (Instr.buildSlice 32 1 #[(0,(.agg #[(.int .i64 z14.1),(.string z14.2.1),(.slice z14.2.2.1.1 z14.2.2.1.2.1 z14.2.2.1.2.2),(.slice z14.2.2.2.1.1 z14.2.2.2.1.2.1 z14.2.2.2.1.2.2)]))]) .slice fun (z54:(Option Addr×Nat×Nat))=>
 .grew z53 <|
 .call 22 #[(.agg #[(.int .i64 z52.1),(.string z52.2.1),(.slice z52.2.2.1.1 z52.2.2.1.2.1 z52.2.2.1.2.2),(.slice z52.2.2.2.1.1 z52.2.2.2.1.2.1 z52.2.2.2.1.2.2)]),(.slice (if (q2_cap=(Int.toNat z2.1)) then q2 else (Option.map (fun (y55:Addr)=>(Addr.add y55 ((Int.toNat z2.1) * 1))) q2)) ((Int.toNat (q2_len:Int))-(Int.toNat z2.1)) (q2_cap-(Int.toNat z2.1))),(.agg #[(.int .i64 5),(.string (ByteArray.mk #[])),(.slice none 0 0),(.slice z54.1 z54.2.1 z54.2.2)])] (.tuple (.cons (.agg (.cons (.int .i64) (.cons .str (.cons .slice (.cons .slice .nil))))) (.cons .bool .nil))) fun (z56:((Int×(ByteArray×((Option Addr×Nat×Nat)×((Option Addr×Nat×Nat)×PUnit))))×(Bool×PUnit)))=>
 .effU (Instr.storeAt 34 (.pointer (some z50)) (.agg #[(.int .i64 z56.1.1),(.string z56.1.2.1),(.slice z56.1.2.2.1.1 z56.1.2.2.1.2.1 z56.1.2.2.1.2.2),(.slice z56.1.2.2.2.1.1 z56.1.2.2.2.1.2.1 z56.1.2.2.2.1.2.2)])) <|
 .leaf 1 [(.pointer (some z50))]) (
 .here fun (z57:World)=>
 .eff (Instr.buildSlice 32 1 #[(0,(.agg #[(.int .i64 z14.1),(.string z14.2.1),(.slice z14.2.2.1.1 z14.2.2.1.2.1 z14.2.2.1.2.2),(.slice z14.2.2.2.1.1 z14.2.2.2.1.2.1 z14.2.2.2.1.2.2)]))]) .slice fun (z58:(Option Addr×Nat×Nat))=>
 .grew z57 <|
 .here fun (z59:World)=>
 .call 23 #[(.string q0),(.agg #[(.int .i64 z13.1),(.int .i64 z13.2.1),(.int .i64 z13.2.2.1),(.slice z13.2.2.2.1.1 z13.2.2.2.1.2.1 z13.2.2.2.1.2.2),(.slice z13.2.2.2.2.1.1 z13.2.2.2.2.1.2.1 z13.2.2.2.2.1.2.2)])] (.agg (.cons (.int .i64) (.cons .str (.cons .slice (.cons .slice .nil))))) fun (z60:(Int×(ByteArray×((Option Addr×Nat×Nat)×((Option Addr×Nat×Nat)×PUnit)))))=>
 .grew z59 <|
 .call 22 #[(.agg #[(.int .i64 z60.1),(.string z60.2.1),(.slice z60.2.2.1.1 z60.2.2.1.2.1 z60.2.2.1.2.2),(.slice z60.2.2.2.1.1 z60.2.2.2.1.2.1 z60.2.2.2.1.2.2)]),(.slice (if (q2_cap=(Int.toNat z2.1)) then q2 else (Option.map (fun (y61:Addr)=>(Addr.add y61 ((Int.toNat z2.1) * 1))) q2)) ((Int.toNat (q2_len:Int))-(Int.toNat z2.1)) (q2_cap-(Int.toNat z2.1))),(.agg #[(.int .i64 5),(.string (ByteArray.mk #[])),(.slice none 0 0),(.slice z58.1 z58.2.1 z58.2.2)])] (.tuple (.cons (.agg (.cons (.int .i64) (.cons .str (.cons .slice (.cons .slice .nil))))) (.cons .bool .nil))) fun (z62:((Int×(ByteArray×((Option Addr×Nat×Nat)×((Option Addr×Nat×Nat)×PUnit))))×(Bool×PUnit)))=>
 .effU (Instr.storeAt 34 (.pointer (some z50)) (.agg #[(.int .i64 z62.1.1),(.string z62.1.2.1),(.slice z62.1.2.2.1.1 z62.1.2.2.1.2.1 z62.1.2.2.1.2.2),(.slice z62.1.2.2.2.1.1 z62.1.2.2.2.1.2.1 z62.1.2.2.2.1.2.2)])) <|
 .leaf 1 [(.pointer (some z50))]))))
 (fun z=>laws_FnJqAppendNew.t3 q0 q1 q2 q2_len q2_cap z2 z7 z.1)))
def laws_FnJqAppendNew.t1 (q0:ByteArray) (q1:ByteArray) (q2:(Option Addr)) (q2_len:Nat) (q2_cap:Nat) (b1:Bool):T:=
 .ite b1 (
 .leaf 0 [(.bool true)]) (
 .call 7 #[(.string q0),(.slice q2 q2_len q2_cap)] (.tuple (.cons (.int .i64) (.cons .bool .nil))) fun (z2:(Int×(Bool×PUnit)))=>
 .call 10 #[(.string q1)] (.tuple (.cons (.agg (.cons (.int .i64) (.cons .str (.cons .slice (.cons .slice .nil))))) (.cons .bool .nil))) fun (z3:((Int×(ByteArray×((Option Addr×Nat×Nat)×((Option Addr×Nat×Nat)×PUnit))))×(Bool×PUnit)))=>
 .alloc (Obj.cells #[(.int .i64 0),(.string (ByteArray.mk #[])),(.slice none 0 0),(.slice none 0 0)] 34 (0,0)) fun (z4:Addr)=>
 .effU (Instr.storeAt 34 (.pointer (some z4)) (.agg #[(.int .i64 z3.1.1),(.string z3.1.2.1),(.slice z3.1.2.2.1.1 z3.1.2.2.1.2.1 z3.1.2.2.1.2.2),(.slice z3.1.2.2.2.1.1 z3.1.2.2.2.1.2.1 z3.1.2.2.2.1.2.2)])) <|
 .cut 1 (.cons .bool .nil) (
 .ite (!z2.2.1) (
 .leaf 1 [(.bool true)]) (
 .ite (!z3.2.1) (
 .leaf 1 [(.bool true)]) (
 .ite (decide (((ByteArray.size q1):Int) > 1000)) (
 .leaf 1 [(.bool true)]) (
 .leaf 1 [(.bool (decide (((ByteArray.size q0):Int) > 16384)))]))))
 (fun z=>laws_FnJqAppendNew.t2 q0 q1 q2 q2_len q2_cap z2 z4 z.1))
def laws_FnJqAppendNew.t (q0:ByteArray) (q1:ByteArray) (q2:(Option Addr)) (q2_len:Nat) (q2_cap:Nat):T:=
 .cut 1 (.cons .bool .nil) (
 .ite (decide (((ByteArray.size q0):Int) > 2147483647)) (
 .leaf 1 [(.bool true)]) (
 .ite (decide (((ByteArray.size q1):Int) > 2147483647)) (
 .leaf 1 [(.bool true)]) (
 .call 6 #[(.slice q2 q2_len q2_cap)] .bool fun (b0:Bool)=>
 .leaf 1 [(.bool (!b0))])))
 (fun z=>laws_FnJqAppendNew.t1 q0 q1 q2 q2_len q2_cap z.1)
def laws_FnJqAppendNew.h:Hints:=⟨[],[],[(1,[(35,.bool)]),(5,[(62,.bool)]),(11,[(15,.ptr)]),(12,[(17,.ptr)])],[]⟩
noncomputable def laws_FnJqAppendNew.c:Code:=(Tryz.f5.body).getD .skip
theorem laws_FnJqAppendNew.e (q0:ByteArray) (q1:ByteArray) (q2:(Option Addr)) (q2_len:Nat) (q2_cap:Nat):fnT Tryz.prog laws_FnJqAppendNew.h Tryz.f5 laws_FnJqAppendNew.c [.v (.string q0),.v (.string q1),.v (.slice q2 q2_len q2_cap)]=laws_FnJqAppendNew.t q0 q1 q2 q2_len q2_cap:=by kernel_rfl
theorem laws_FnJqAppendNew.calls (q0:ByteArray) (q1:ByteArray) (q2:(Option Addr)) (q2_len:Nat) (q2_cap:Nat) {w:World} {R:Ending→World→Prop} (hs:sat Tryz.prog (laws_FnJqAppendNew.t q0 q1 q2 q2_len q2_cap) (fun l vs w'=>l=0∧R (.returned (retVal vs)) w') w):Calls Tryz.prog 5 #[(.string q0),(.string q1),(.slice q2 q2_len q2_cap)] w R:=
 have h:=calls_of_tree (w:=w) (R:=R) (args:=[.v (.string q0),.v (.string q1),.v (.slice q2 q2_len q2_cap)]) (c:=laws_FnJqAppendNew.c) Tryz.func5 (show Tryz.f5.body=some laws_FnJqAppendNew.c by kernel_rfl) (of_decide_eq_true (by kernel_rfl)) (laws_FnJqAppendNew.e q0 q1 q2 q2_len q2_cap) hs
 h
end Go.Proofs.YtlfebfkphgelfaaGreatDoor.Tr
