import Derived.Test.YtlfebfkphgelfaaGreatDoorRz
import Derived.Test.YtlfebfkphgelfaaGreatDoorProg
import Derived.KernelRfl
namespace Go.Proofs.YtlfebfkphgelfaaGreatDoor.Tr
open Go Go.Proofs Rx
set_option linter.unusedVariables false
set_option maxRecDepth 100000
def jsonparser_internalGet.t (data:(Option Addr)) (data_len:Nat) (data_cap:Nat) (keys:(Option Addr)) (keys_len:Nat) (keys_cap:Nat):T:=
 .eff (Instr.loadAt 81 (.pointer (some (Addr.mk 0 0 Option.none)))) (.agg (.cons .bool (.cons .bool (.cons (.int .i64) .nil)))) fun (z0:(Bool×(Bool×(Int×PUnit))))=>
 .call 65 #[(.agg #[(.bool z0.1),(.bool z0.2.1),(.int .i64 z0.2.2.1)]),(.slice data data_len data_cap),(.slice keys keys_len keys_cap)] (.tuple (.cons .slice (.cons (.int .i64) (.cons (.int .i64) (.cons (.int .i64) (.cons .any .nil)))))) fun (z1:((Option Addr×Nat×Nat)×(Int×(Int×(Int×(Value×PUnit))))))=>
 .leaf 0 [(.slice z1.1.1 z1.1.2.1 z1.1.2.2),(.int .i64 z1.2.1),(.int .i64 z1.2.2.1),(.int .i64 z1.2.2.2.1),z1.2.2.2.2.1]
def jsonparser_internalGet.h:Hints:=⟨[],[],[],[]⟩
noncomputable def jsonparser_internalGet.c:Code:=(Tryz.f50.body).getD .skip
theorem jsonparser_internalGet.e (data:(Option Addr)) (data_len:Nat) (data_cap:Nat) (keys:(Option Addr)) (keys_len:Nat) (keys_cap:Nat):fnT Tryz.prog jsonparser_internalGet.h Tryz.f50 jsonparser_internalGet.c [.v (.slice data data_len data_cap),.v (.slice keys keys_len keys_cap)]=jsonparser_internalGet.t data data_len data_cap keys keys_len keys_cap:=by kernel_rfl
theorem jsonparser_internalGet.calls (data:(Option Addr)) (data_len:Nat) (data_cap:Nat) (keys:(Option Addr)) (keys_len:Nat) (keys_cap:Nat) {w:World} {R:Ending→World→Prop} (hs:sat Tryz.prog (jsonparser_internalGet.t data data_len data_cap keys keys_len keys_cap) (fun l vs w'=>l=0∧R (.returned (retVal vs)) w') w):Calls Tryz.prog 50 #[(.slice data data_len data_cap),(.slice keys keys_len keys_cap)] w R:=
 have h:=calls_of_tree (w:=w) (R:=R) (args:=[.v (.slice data data_len data_cap),.v (.slice keys keys_len keys_cap)]) (c:=jsonparser_internalGet.c) Tryz.func50 (show Tryz.f50.body=some jsonparser_internalGet.c by kernel_rfl) (of_decide_eq_true (by kernel_rfl)) (jsonparser_internalGet.e data data_len data_cap keys keys_len keys_cap) hs
 h
end Go.Proofs.YtlfebfkphgelfaaGreatDoor.Tr
