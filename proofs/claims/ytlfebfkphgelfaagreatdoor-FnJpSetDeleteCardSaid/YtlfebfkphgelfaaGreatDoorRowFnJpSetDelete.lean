import Derived.Test.YtlfebfkphgelfaaGreatDoorRows
import Derived.Test.YtlfebfkphgelfaaGreatDoorLawJpSetDelete
import Derived.Test.YtlfebfkphgelfaaGreatDoorTie
import Derived.Test.YtlfebfkphgelfaaGreatDoorCards
import Derived.LaidMore
import Derived.Stop.Joined
import Derived.Lay
import Derived.MakeChecks
import Derived.WalkKit
import Derived.ProofKit
import Derived.OpenShut
import Derived.ShutString
import Derived.ChangeOld
import Derived.Below
import Derived.SizedLaws
import Derived.Carry
namespace Go.Proofs.YtlfebfkphgelfaaGreatDoor.fnJpSetDelete
open Go.ChangeShapes Go.WideShapes Go.ChangeAt Go.RowKit
open Go.ChangeMaps (open_string shut_string)
set_option linter.unusedVariables false
theorem laid:laidOutB Tryz.prog=true:=by kernel_rfl
theorem own:ownKnob Tryz.prog.godebug=none:=by kernel_rfl
abbrev laidL:=Rows.fnJpSetDeleteRow.laid
theorem door_met (os:Os) (args:Array Value):laidMetH Tryz.prog laidL ((World.laidAll Tryz.prog os laidL).forCall (fun _ _=>0) ⟨#[],args,[]⟩).memory:=by
  rw [MakeChecks.laidMetH_plain _ _ _ (by kernel_rfl)];exact laidMet_laidAll _ (by kernel_rfl) (by kernel_rfl)
set_option maxRecDepth 100000 in
theorem lifted (os:Os) (started:os.Started) (H:Type) (enc:TypeId×Value→H) :
    ReturnsInHanded {} Tryz.checked os 3 .any (fun w args=>(Rows.fnJpSetDeleteSpec.pre enc Tryz.prog Tryz.f3 [] false w args∧laidMetH Tryz.prog laidL w)∧sizedMet enc Tryz.prog Tryz.f3 (OpenSpec.ofChange Rows.fnJpSetDeleteSpec) false w args)
      (Rows.fnJpSetDeleteSpec.post enc Tryz.prog Tryz.f3 false true false false):=by
  refine returnsInHanded_of_change_and (C:=Tryz.checked) (X:=fun w _=>laidMetH Tryz.prog laidL w) (fun _ _ _ hh h=>h.of_heap hh) own started (by kernel_rfl) Tryz.func3
    (ChangeSpec.witness_shaped (enc:=enc) (C:=Tryz.checked) (os:=os) (X:=fun w _=>laidMetH Tryz.prog laidL w) false (World.laidAll Tryz.prog os laidL) #[.string ByteArray.empty,.string ByteArray.empty,((Tryz.prog.info? 22).bind (·.zero)).getD (.bool false)] 8 (World.laidAll_os _ _ _) (World.shaped_of_ZipB (by kernel_rfl) (by kernel_rfl)) (by kernel_rfl) (by kernel_rfl) (by kernel_rfl) (door_met os _)) ?_
  intro W base args ds gs before hval0 hW hcnd hsz0 hL _
  have hsz:(DataW.weightsEach Tryz.prog (Tryz.f3.params.toList++Rows.fnJpSetDeleteSpec.plain.varTypes Tryz.prog) (ds++gs)).all (· ≤ reachBytes)=true:=hsz0
  have hval : ∀ (j:Nat) t v,Tryz.f3.params[j]?=some t→args[j]?=some v→Value.okWide Tryz.prog W .any base t v:=hval0
  have hW':=hW
  obtain ⟨p,q,hA0,hV,rfl,hfz,hnd⟩:=hW
  have hA:DataW.TrodAll enc Tryz.prog W 0 (fun _=>true) true Tryz.f3.params.toList args.toList ds p:=hA0
  rw [Tryz.params3] at hA hval hsz
  obtain ⟨v0,vs0,d0,ds0,p0,q0,hargs,rfl,rfl,h0,r0⟩:=trodAll_cons hA
  obtain ⟨v1,vs1,d1,ds1,p1,q1,rfl,rfl,rfl,h1,r1⟩:=trodAll_cons r0
  obtain ⟨v2,vs2,d2,ds2,p2,q2,rfl,rfl,rfl,h2,r2⟩:=trodAll_cons r1
  obtain ⟨rfl,rfl,rfl⟩:=trodAll_nil r2
  obtain rfl:args = #[v0,v1,v2]:=by cases args;simp_all
  obtain ⟨rfl,rfl⟩:=trodVars_none hV
  obtain ⟨a0,rfl,rfl,rfl,y0⟩:=open_string Tryz.underlying9 (hval 0 9 v0 rfl rfl) h0
  have w0:a0.size≤140737488351232:=by
    have z:=sized_string hsz (j:=0) (t:=9) rfl rfl
    rw [Array.length_toList] at z
    exact z
  obtain ⟨a1,rfl,rfl,rfl,y1⟩:=open_string Tryz.underlying9 (hval 1 9 v1 rfl rfl) h1
  have w1:a1.size≤140737488351232:=by
    have z:=sized_string hsz (j:=1) (t:=9) rfl rfl
    rw [Array.length_toList] at z
    exact z
  have hv2:=(hval 2 22 v2 rfl rfl)
  have lt2 : ∀ x ∈ p2,x.block<W.heap.size:=fun x hx=>hW'.lt x (by simp [hx])
  clear hA0 hval0 hsz0 hsz
  refine (Go.Proofs.YtlfebfkphgelfaaGreatDoor.LawJpSetDelete.walk a0 a1 v2 W w0 w1 hv2 h2 hL).mono fun e W' ⟨he,bel⟩ => ?_
  subst he
  exact ⟨_,rfl,_,_,_,[],_,[],hW',trodAll_mk1 (shut_bool Tryz.underlying4 _),(trodAll_cons_mk (shut_string Tryz.underlying9 y0) (trodAll_cons_mk (shut_string Tryz.underlying9 y1) (trodAll_cons_mk (Below.trod laid (by kernel_rfl) (of_decide_eq_true (by kernel_rfl)) h2 bel lt2) trodAll_mk0))),rfl,bel.frame _,fun h=>by cases h⟩
theorem over:Rows.fnJpSetDeleteRow.holds Tryz.pinned (OpenSpec.ofChange Rows.fnJpSetDeleteSpec):=
  OpenClaim.holds_of_wide 3 Tryz.f3 rfl rfl rfl rfl rfl rfl rfl ⟨rfl,rfl,rfl,rfl,rfl⟩ rfl rfl rfl rfl rfl (by kernel_rfl) Tryz.func3 (by kernel_rfl)
    (of_decide_eq_true (by kernel_rfl)) (by unfold Func.isWrapper;first | (rw [if_pos (by decide +kernel)];kernel_rfl) | (rw [if_neg (by decide +kernel)];exact ⟨rfl,rfl⟩))
    (fun os started H enc _=>lifted os started H enc)
theorem card:Rows.FnJpSetDeleteCardSaid:=
  Claim7.holds_tied_plain_at .later [] _ true _ true over (fun _ h=>by cases h) (by kernel_rfl) (fun _ h=>by cases h) fnJpSetDelete_row_tie rfl ⟨rfl,rfl⟩ (by kernel_rfl) rfl
    (fun f fn hf hfn=>by
      obtain rfl : f = 3 := Option.some.inj ((show Tryz.prog.funcNamed "pub-tetrapla/laws.FnJpSetDelete" = some 3 by kernel_rfl).symm.trans hf) |>.symm
      obtain rfl:fn=Tryz.f3:=(Option.some.inj (Tryz.func3.symm.trans hfn)).symm
      exact ⟨by kernel_rfl,fun j t ht=>by
        rw [Tryz.params3] at ht
        have hm:t ∈ [9,9,22]:=by simpa using Array.mem_of_getElem? ht
        have hall:([9,9,22].all fun u => !Tryz.prog.wantsStandIn u)=true:=by kernel_rfl
        exact (show Tryz.prog.wantsStandIn t=false by simpa using List.all_eq_true.1 hall t hm)⟩)
    (by kernel_rfl)
#print axioms card
end Go.Proofs.YtlfebfkphgelfaaGreatDoor.fnJpSetDelete
namespace Go.Proofs.YtlfebfkphgelfaaGreatDoor
theorem fnJpSetDelete_holds:Rows.FnJpSetDeleteCardSaid:=fnJpSetDelete.card
end Go.Proofs.YtlfebfkphgelfaaGreatDoor
