import Derived.Test.YtlfebfkphgelfaaGreatDoorMI
import Derived.Test.YtlfebfkphgelfaaGreatDoorWE
import Derived.Test.YtlfebfkphgelfaaGreatDoorWA
import Derived.Test.YtlfebfkphgelfaaGreatDoorWC
import Derived.Test.YtlfebfkphgelfaaGreatDoorWB
import Derived.Test.YtlfebfkphgelfaaGreatDoorTh
namespace Go.Proofs.YtlfebfkphgelfaaGreatDoor.Sr
open Go Rx Pl Pw Sk
variable {s:ByteArray}
theorem first_nb {p:PT} (h:WfV s p):bt s (p.b:Int)≠93∧bt s (p.b:Int)≠125∧bt s (p.b:Int)≠44:=by
  obtain ⟨k,b,e',ns,ks⟩:=p
  have hlt:=h.lt
  have hlt1:b<e':=hlt.1
  show bt s (b:Int)≠93∧bt s (b:Int)≠125∧bt s (b:Int)≠44
  unfold WfV at h
  obtain ⟨_,_,⟨rfl,rfl,hL,h⟩ | ⟨rfl,rfl,rfl,h1,h2⟩ | ⟨rfl,rfl,h1,h2⟩ | ⟨rfl,h1,h2⟩⟩:=h
  · have h0:=isL_iff.1 (hL b (Nat.le_refl _) hlt1)
    omega
  · omega
  · omega
  · omega
theorem num_not {c:Int} (h:c=110∨c=102∨c=116):numOk c=false:=by rcases h with rfl | rfl | rfl <;> decide
theorem lit_val {k b e:Nat} (h:Pw.Lit s k b e) (hlt:b<e):val s b=some (.mk k b e [] []):=by
  obtain ⟨hL,hk⟩:=h
  have h0:=isL_iff.1 (hL b (Nat.le_refl _) hlt)
  have n1:bt s b≠123:=by omega
  have n2:bt s b≠91:=by omega
  have n3:bt s b≠34:=by omega
  rcases hk with ⟨rfl,h1,h2⟩ | ⟨rfl,h1,h2⟩ | ⟨rfl,h1,h2⟩ | ⟨rfl,h1,h2⟩
  · rw [val_num h1,h2];rfl
  · have c:bt s (b:Int)=110:=wordB_at h1 0 (by decide)
    rw [val_word n1 n2 n3 (num_not (.inl c)),if_pos h1,h2]
  · have c:bt s (b:Int)=102:=wordB_at h1 0 (by decide)
    have x1:wordB s b nullW=false:=by
      cases h:wordB s b nullW with
      | false=>rfl
      | true=>have:bt s (b:Int)=110:=wordB_at h 0 (by decide);omega
    rw [val_word n1 n2 n3 (num_not (.inr (.inl c))),x1,if_neg (by decide),if_pos h1,h2]
  · have c:bt s (b:Int)=116:=wordB_at h1 0 (by decide)
    have x1:wordB s b nullW=false:=by
      cases h:wordB s b nullW with
      | false=>rfl
      | true=>have:bt s (b:Int)=110:=wordB_at h 0 (by decide);omega
    have x2:wordB s b falseW=false:=by
      cases h:wordB s b falseW with
      | false=>rfl
      | true=>have:bt s (b:Int)=102:=wordB_at h 0 (by decide);omega
    rw [val_word n1 n2 n3 (num_not (.inr (.inr c))),x1,if_neg (by decide),x2,if_neg (by decide),if_pos h1,h2]
def ElOk (s:ByteArray) (e:Nat):List PT→Prop
  | []=>True
  | p :: ks=>elems s p.b=some (p :: ks,e)
def MeOk (s:ByteArray) (ns:List (Nat×Nat)) (e:Nat):List PT→Prop
  | []=>True
  | p :: ks => ∃ n ns',ns=n :: ns'∧mems s n.1=some (n :: ns',p :: ks,e)
mutual
theorem of_wf : ∀ p:PT,WfV s p→val s p.b=some p
  | .mk k b e ns ks,h=>by
    have hlt:=h.lt
    have hlt1:b<e:=hlt.1
    show val s b=some (.mk k b e ns ks)
    unfold WfV at h
    obtain ⟨_,hes,⟨h3,h4,h5⟩ | ⟨h3,h4,h6,h1,h2⟩ | ⟨h3,h4,h1,h2⟩ | ⟨h3,h1,h2⟩⟩:=h
    · rw [h3,h4];exact lit_val h5 hlt1
    · rw [h3,h4,h6,val_str h1,h2];rfl
    · have hE:=of_wfE ks true (b+1) e h2
      rw [h3,h4,val_arr h1,elems0]
      cases ks with
      | nil=>
        unfold WfE at h2
        obtain ⟨c1,c2⟩:=h2
        rw [if_pos c1,c2];rfl
      | cons p ks=>
        have hE:elems s p.b=some (p :: ks,e):=hE
        have h0:p.b=bl s (b+1):=by unfold WfE at h2;exact h2.1
        have hv:WfV s p:=by unfold WfE at h2;exact h2.2.1
        have hn:bt s (bl s (b+1):Int)≠93:=by
          rw [← h0]
          intro c
          have:=first_nb hv
          omega
        rw [if_neg hn,← h0,hE];rfl
    · have hM:=of_wfM ks ns true (b+1) e h2
      rw [h3,val_obj h1,mems0]
      cases ks with
      | nil=>
        unfold WfM at h2
        obtain ⟨c0,c1,c2⟩:=h2
        subst c0
        rw [if_pos c1,c2];rfl
      | cons p ks=>
        obtain ⟨n,ns',rfl,hM⟩:=hM
        have h0:n.1=bl s (b+1)∧bt s (n.1:Int)=34:=by
          unfold WfM at h2
          obtain ⟨n',ns'',e1,g,q,_⟩:=h2
          cases e1
          exact ⟨g,q⟩
        rw [if_neg (by rw [← h0.1,h0.2];decide),← h0.1,hM];rfl
theorem of_wfE : ∀ (ks:List PT) (first:Bool) (j e:Nat),WfE s first j ks e→ElOk s e ks
  | [],_,_,_,_=>trivial
  | p :: ks,first,j,e,h=>by
    unfold WfE at h
    obtain ⟨_,hv,h2⟩:=h
    have hl:=hv.lt
    have hp:=of_wf p hv
    have ih:=of_wfE ks false p.e e h2
    show elems s p.b=some (p :: ks,e)
    cases ks with
    | nil=>
      unfold WfE at h2
      rw [elems_last hp h2.1,h2.2]
    | cons q ks=>
      have ih:elems s q.b=some (q :: ks,e):=ih
      unfold WfE at h2
      obtain ⟨h3,_,_⟩:=h2
      have h3:bt s (bl s p.e:Int)=44∧q.b=bl s (bl s p.e+1):=h3
      rw [elems_more (by omega) hp h3.1,← h3.2,ih];rfl
theorem of_wfM : ∀ (ks:List PT) (ns:List (Nat×Nat)) (first:Bool) (j e:Nat),WfM s first j ns ks e→MeOk s ns e ks
  | [],_,_,_,_,_=>trivial
  | p :: ks,ns,first,j,e,h=>by
    unfold WfM at h
    obtain ⟨n,ns',e0,_,hq,hs,hc,hb,hv,h2⟩:=h
    have hl:=hv.lt
    have hp:=of_wf p hv
    have ih:=of_wfM ks ns' false p.e e h2
    refine ⟨n,ns',e0,?_⟩
    cases ks with
    | nil=>
      unfold WfM at h2
      obtain ⟨rfl,h3,h4⟩:=h2
      have e0:bl s p.e+1=e:=h4.symm
      rw [mems_v hq hs hc,← hb,hp]
      show (if bt s (bl s p.e)=125 then some ([(n.1,n.2)],[p],bl s p.e+1) else _)=_
      rw [if_pos h3,e0]
    | cons q ks=>
      obtain ⟨m,ns'',rfl,ih⟩:=ih
      have h3:bt s (bl s p.e:Int)=44∧m.1=bl s (bl s p.e+1):=by
        unfold WfM at h2
        obtain ⟨n',_,e1,g,_⟩:=h2
        cases e1
        exact g
      rw [mems_v hq hs hc,← hb,hp]
      show (if bt s (bl s p.e)=125 then _ else if bt s (bl s p.e)=44 then (mems s (bl s (bl s p.e+1))).map (fun x=>((n.1,n.2) :: x.1,p :: x.2.1,x.2.2)) else none)=_
      rw [if_neg (by rw [h3.1];decide),if_pos h3.1,← h3.2,ih];rfl
end
theorem places_of_wf {p:PT} (h0:bl s 0=p.b) (hw:WfV s p) (hf:bl s p.e=s.size):places s=some p:=by
  unfold places
  rw [h0,of_wf p hw]
  show (if bl s p.e=s.size then some p else none)=some p
  rw [if_pos hf]
end Go.Proofs.YtlfebfkphgelfaaGreatDoor.Sr
namespace Go.Proofs.YtlfebfkphgelfaaGreatDoor.Ed
open Go Go.Proofs Go.RowKit Rx Pl Pw Sk
open Ka (nmS ixS Led)
open Nt (treeN treeL NT kid_in str_ok)
variable {s s':ByteArray} {p p':PT} {u v e:Nat}
theorem tree_eq (s:ByteArray) (p:PT):treeN s p = .mk p.k (if p.k=3 then s.extract p.b p.e else if p.k=4 then nmS s (p.b,p.e) else ByteArray.mk #[]) (p.ns.map (nmS s)) (treeL s p.ks):=by
  cases p;simp only [treeN];rfl
theorem agL (_:Ag s s' u v e) : ∀ ks:List PT,(∀ c ∈ ks,treeN s' (mvP u v c)=treeN s c)→treeL s' (mvL u v ks)=treeL s ks
  | [],_=>by simp only [mvL,treeL]
  | c :: ks,h=>by
    simp only [mvL,treeL]
    rw [h c (List.mem_cons_self ..),agL ‹_› ks fun d hd=>h d (List.mem_cons_of_mem _ hd)]
theorem mem_kid {ks:List PT} {ns:List (Nat×Nat)} {first:Bool} {j r t:Nat} {c:PT} (h:WfM s first j ns ks r) (hc:ks[t]?=some c):WfV s c∧j≤c.b∧c.e<r:=by
  have hl:=wfM_lens _ _ _ _ _ h
  have ht:=(List.getElem?_eq_some_iff.1 hc).1
  obtain ⟨_,_,_,_,a5,a6,a7⟩:=Gk.mem_at ks ns first j r t ns[t] c h (List.getElem?_eq_getElem (by omega)) hc
  exact ⟨a5,a7,a6⟩
theorem name_in (hw:WfV s p) {n:Nat×Nat} (hn:n ∈ p.ns):p.b≤n.1∧n.1+2≤n.2∧n.2≤p.e:=by
  obtain ⟨k,b,e,ns,ks⟩:=p
  have hn:n ∈ ns:=hn
  unfold WfV at hw
  obtain ⟨_,_,⟨rfl,rfl,_⟩ | ⟨rfl,rfl,rfl,_⟩ | ⟨rfl,rfl,h1,h2⟩ | ⟨rfl,h1,h2⟩⟩:=hw
  · cases hn
  · cases hn
  · cases hn
  · obtain ⟨t,ht⟩:=List.mem_iff_getElem?.1 hn
    obtain ⟨s1,s2,s3⟩:=mem_span _ _ _ _ _ _ _ h2 ht
    exact ⟨by show b≤n.1;omega,s2,by show n.2≤e;omega⟩
theorem ag_tree (h:Ag s s' u v e) (hes:e≤s.size) : ∀ (N:Nat) (p:PT),p.e-p.b<N→WfV s p→u≤p.b→p.e≤e→treeN s' (mvP u v p)=treeN s p
  | 0,p,hN,_,_,_=>absurd hN (Nat.not_lt_zero _)
  | N+1,p,hN,hw,hu,he=>by
    have hl:=hw.lt
    have hend:=h.end'
    have ek:(mvP u v p).k=p.k:=mvP_k u v p
    have ens:(mvP u v p).ns=p.ns.map fun n=>(sh u v n.1,sh u v n.2):=by cases p;rw [mvP_mk];rfl
    have eks:(mvP u v p).ks=mvL u v p.ks:=by cases p;rw [mvP_mk];rfl
    rw [tree_eq,tree_eq,ek,ens,eks,mvP_b,mvP_e]
    have e1:(if p.k=3 then s'.extract (sh u v p.b) (sh u v p.e) else if p.k=4 then nmS s' (sh u v p.b,sh u v p.e) else ByteArray.mk #[])=(if p.k=3 then s.extract p.b p.e else if p.k=4 then nmS s (p.b,p.e) else ByteArray.mk #[]):=by
      by_cases h3:p.k=3
      · rw [if_pos h3,if_pos h3]
        have x1:p.e=p.b+(p.e-p.b):=by omega
        have x2:sh u v p.e=sh u v p.b+(p.e-p.b):=by unfold sh;omega
        have:=ext_eq (s:=s) (s':=s') (a:=p.b) (a':=sh u v p.b) (n:=p.e-p.b) (by omega) (by unfold sh at hend ⊢;omega) (fun j hj=>by
          have:=h.at' (p.b+j) (by omega) (by omega)
          rw [sh_add hu] at this
          exact this)
        rw [← x1,← x2] at this
        exact this
      · rw [if_neg h3,if_neg h3]
        by_cases h4:p.k=4
        · rw [if_pos h4,if_pos h4]
          have hs:=strE_le (str_ok hw h4)
          exact h.nm (n:=(p.b,p.e)) hes hu (by show p.b+2≤p.e;omega) he
        · rw [if_neg h4,if_neg h4]
    have e2:(p.ns.map fun n=>(sh u v n.1,sh u v n.2)).map (nmS s')=p.ns.map (nmS s):=by
      rw [List.map_map]
      refine List.map_congr_left fun n hn => ?_
      obtain ⟨s1,s2,s3⟩:=name_in hw hn
      exact h.nm hes (by omega) s2 (by omega)
    have e3:treeL s' (mvL u v p.ks)=treeL s p.ks:=agL h p.ks fun c hc=>by
      obtain ⟨i,hi⟩:=List.mem_iff_getElem?.1 hc
      obtain ⟨c1,c2,c3⟩:=kid_in hw hi
      have:=c1.lt
      exact ag_tree h hes N c (by omega) c1 (by omega) (by omega)
    rw [e1,e2,e3]
theorem memsT (h:Sw s s' p p') {q q':PT} (hwq:WfV s q) (hT:treeN s' q'=treeN s q) (hqb:q.b≤p.b) (hqe:p.e≤q.e) (hw':WfV s' q') (hb':q'.b=q.b) (he':q'.e=sh p.e p'.e q.e) : ∀ (ks:List PT) (ns:List (Nat×Nat)) (first:Bool) (j r t:Nat),WfM s first j ns ks r→ks[t]?=some q→r≤s.size →
    ∃ ns' ks',WfM s' first j ns' ks' (sh p.e p'.e r)∧ks'[t]?=some q'∧(∀ t',t'≤t→ns'[t']?=ns[t']?)∧(∀ t' n,t'≤t→ns[t']?=some n→n.2<p.b)∧(∀ t' n',t<t'→ns'[t']?=some n' → ∃ n,ns[t']?=some n∧n'=(sh p.e p'.e n.1,sh p.e p'.e n.2))∧ns'.map (nmS s')=ns.map (nmS s)∧treeL s' ks'=treeL s ks
  | [],ns,first,j,r,t,hM,hk,hr=>by simp at hk
  | p0 :: ks,ns,first,j,r,t,hM,hk,hr=>by
    have hlo:=mem_lo _ _ _ _ _ _ _ hM hk
    unfold WfM at hM
    obtain ⟨n0,ns0,rfl,h0,hq,hs,hc,hb,hv,hM⟩:=hM
    have a1:=hv.lt
    have a2:=strE_le hs
    have a3:=bl_ge s n0.2
    have a4:=bl_ge s (bl s n0.2+1)
    have g:=bl_ge s j
    have g2:=bl_ge s (bl s j+1)
    have hj:bl s j≤n0.1:=by split at h0 <;> omega
    have hp0:p0.b≤q.b:=by
      cases t with
      | zero=>
        simp only [List.getElem?_cons_zero,Option.some.injEq] at hk
        subst hk;exact Nat.le_refl _
      | succ t=>
        simp only [List.getElem?_cons_succ] at hk
        have:=mem_lo _ _ _ _ _ _ _ hM hk
        omega
    have head:(if first then n0.1=bl s' j else bt s' (bl s' j:Int)=44∧n0.1=bl s' (bl s' j+1))∧bt s' (n0.1:Int)=34∧strE s' (n0.1+1)=some n0.2∧bt s' (bl s' n0.2:Int)=58∧bl s' n0.2=bl s n0.2:=by
      have e1:bl s' j=bl s j:=h.blQ rfl (by omega)
      have e2:bl s' n0.2=bl s n0.2:=h.blQ rfl (by omega)
      refine ⟨?_,by rw [h.pre _ (by omega)];exact hq,?_,by rw [e2,h.pre _ (by omega)];exact hc,e2⟩
      · cases first with
        | true=>
          have h0:n0.1=bl s j:=h0
          show n0.1=bl s' j
          rw [e1];exact h0
        | false=>
          obtain ⟨c1,c2⟩:bt s (bl s j:Int)=44∧n0.1=bl s (bl s j+1):=h0
          show bt s' (bl s' j:Int)=44∧n0.1=bl s' (bl s' j+1)
          rw [e1,h.pre _ (by omega)]
          exact ⟨c1,(h.blQ c2.symm (by omega)).symm⟩
      · have:=h.agP.m_strE (Nat.le_refl _) (Nat.zero_le _) hs (by omega)
        exact this
    obtain ⟨d1,d2,d3,d4,d5⟩:=head
    cases t with
    | zero=>
      simp only [List.getElem?_cons_zero,Option.some.injEq] at hk
      subst hk
      refine ⟨n0 :: ns0.map fun n=>(sh p.e p'.e n.1,sh p.e p'.e n.2),q' :: mvL p.e p'.e ks,?_,rfl,?_,?_,?_,?_,?_⟩
      · unfold WfM
        refine ⟨n0,_,rfl,d1,d2,d3,d4,?_,hw',?_⟩
        · rw [hb',d5]
          exact (h.blP hb.symm hqb (by rw [← hb'];exact wf_nb hw')).symm
        · rw [he']
          exact h.agS.wfM ks ns0 false p0.e r hM hqe hr
      · intro t' ht
        have:t'=0:=by omega
        subst this;rfl
      · intro t' n ht hn
        have:t'=0:=by omega
        subst this
        cases hn;omega
      · intro t' n' ht hn
        cases t' with
        | zero=>omega
        | succ t'=>
          simp only [List.getElem?_cons_succ,List.getElem?_map,Option.map_eq_some_iff] at hn ⊢
          obtain ⟨n,h1,rfl⟩:=hn
          exact ⟨n,h1,rfl⟩
      · rw [List.map_cons,List.map_cons,h.name (by omega),List.map_map]
        congr 1
        refine List.map_congr_left fun n hn => ?_
        obtain ⟨t',ht⟩:=List.mem_iff_getElem?.1 hn
        obtain ⟨s1,s2,s3⟩:=mem_span _ _ _ _ _ _ _ hM ht
        exact h.agS.nm (Nat.le_refl _) (by omega) s2 (by omega)
      · simp only [treeL,hT]
        congr 1
        refine agL h.agS ks fun c hc => ?_
        obtain ⟨t',ht⟩:=List.mem_iff_getElem?.1 hc
        obtain ⟨c1,c2,c3⟩:=mem_kid hM ht
        exact ag_tree h.agS (Nat.le_refl _) _ c (Nat.lt_succ_self _) c1 (by omega) (by have:=c1.lt;omega)
    | succ t=>
      simp only [List.getElem?_cons_succ] at hk
      have hlo2:=mem_lo _ _ _ _ _ _ _ hM hk
      obtain ⟨ns1,ks1,e1,e2,e3,e4,e5,e6,e7⟩:=memsT h hwq hT hqb hqe hw' hb' he' ks ns0 false p0.e r t hM hk hr
      refine ⟨n0 :: ns1,p0 :: ks1,?_,e2,?_,?_,?_,?_,?_⟩
      · unfold WfM
        refine ⟨n0,_,rfl,d1,d2,d3,d4,?_,h.before hv (by omega),e1⟩
        rw [d5]
        exact (h.blQ hb.symm (by omega)).symm
      · intro t' ht
        cases t' with
        | zero=>rfl
        | succ t'=>exact e3 t' (by omega)
      · intro t' n ht hn
        cases t' with
        | zero=>cases hn;omega
        | succ t'=>exact e4 t' n (by omega) hn
      · intro t' n' ht hn
        cases t' with
        | zero=>omega
        | succ t'=>exact e5 t' n' (by omega) (by simpa using hn)
      · rw [List.map_cons,List.map_cons,h.name (by omega),e6]
      · simp only [treeL,e7]
        have:=ag_tree h.agP (by have:=h.lt;have:=h.le;omega) _ p0 (Nat.lt_succ_self _) hv (Nat.zero_le _) (by omega)
        rw [mvP_id] at this
        rw [this]
theorem eltsT (h:Sw s s' p p') {q q':PT} (hT:treeN s' q'=treeN s q) (hqb:q.b≤p.b) (hqe:p.e≤q.e) (hw':WfV s' q') (hb':q'.b=q.b) (he':q'.e=sh p.e p'.e q.e) : ∀ (ks:List PT) (first:Bool) (j r t:Nat),WfE s first j ks r→ks[t]?=some q→r≤s.size →
    ∃ ks',WfE s' first j ks' (sh p.e p'.e r)∧ks'[t]?=some q'∧treeL s' ks'=treeL s ks
  | [],first,j,r,t,hM,hk,hr=>by simp at hk
  | p0 :: ks,first,j,r,t,hM,hk,hr=>by
    unfold WfE at hM
    obtain ⟨h0,hv,hM⟩:=hM
    have a1:=hv.lt
    have g:=bl_ge s j
    have g2:=bl_ge s (bl s j+1)
    have hp0:p0.b≤q.b:=by
      cases t with
      | zero=>
        simp only [List.getElem?_cons_zero,Option.some.injEq] at hk
        subst hk;exact Nat.le_refl _
      | succ t=>
        simp only [List.getElem?_cons_succ] at hk
        have:=elt_lo _ _ _ _ _ hM hk
        omega
    have head:isB (bt s' (p0.b:Int))=false→(if first then p0.b=bl s' j else bt s' (bl s' j:Int)=44∧p0.b=bl s' (bl s' j+1)):=by
      intro hnb
      cases first with
      | true=>
        have h0:p0.b=bl s j:=h0
        exact (h.blP h0.symm (by omega) hnb).symm
      | false=>
        obtain ⟨c1,c2⟩:bt s (bl s j:Int)=44∧p0.b=bl s (bl s j+1):=h0
        have e1:bl s' j=bl s j:=h.blQ rfl (by omega)
        show bt s' (bl s' j:Int)=44∧p0.b=bl s' (bl s' j+1)
        rw [e1,h.pre _ (by omega)]
        exact ⟨c1,(h.blP c2.symm (by omega) hnb).symm⟩
    cases t with
    | zero=>
      simp only [List.getElem?_cons_zero,Option.some.injEq] at hk
      subst hk
      refine ⟨q' :: mvL p.e p'.e ks,?_,rfl,?_⟩
      · unfold WfE
        refine ⟨by rw [hb'];exact head (by rw [← hb'];exact wf_nb hw'),hw',?_⟩
        rw [he']
        exact h.agS.wfE ks false p0.e r hM hqe hr
      · simp only [treeL,hT]
        congr 1
        refine agL h.agS ks fun c hc => ?_
        obtain ⟨t',ht⟩:=List.mem_iff_getElem?.1 hc
        obtain ⟨c1,c2,c3,_⟩:=Gk.elt_at _ _ _ _ _ _ hM ht
        exact ag_tree h.agS (Nat.le_refl _) _ c (Nat.lt_succ_self _) c1 (by omega) (by have:=c1.lt;omega)
    | succ t=>
      simp only [List.getElem?_cons_succ] at hk
      have hlo2:=elt_lo _ _ _ _ _ hM hk
      obtain ⟨ks1,e1,e2,e3⟩:=eltsT h hT hqb hqe hw' hb' he' ks false p0.e r t hM hk hr
      have hv':=h.before hv (by omega)
      refine ⟨p0 :: ks1,?_,e2,?_⟩
      · unfold WfE
        exact ⟨head (wf_nb hv'),hv',e1⟩
      · simp only [treeL,e3]
        have:=ag_tree h.agP (by have:=h.lt;have:=h.le;omega) _ p0 (Nat.lt_succ_self _) hv (Nat.zero_le _) (by omega)
        rw [mvP_id] at this
        rw [this]
theorem tree_sw {q:PT} {keys:List ByteArray} (hL:Gk.Lead (nmS s) ixS q keys p) (h:Sw s s' p p') (hq:WfV s q) (hT:treeN s' p'=treeN s p) : ∃ q',WfV s' q'∧q'.b=q.b∧q'.e=sh p.e p'.e q.e∧treeN s' q'=treeN s q:=by
  induction hL with
  | @nil p=>exact ⟨p',h.wf,h.b',by unfold sh;omega,hT⟩
  | @mem b e' ns ks t n p1 p key rest h1 h2 h3 h4 h5 ih=>
    obtain ⟨w1,w2,w3,w4⟩:=Gk.wf_obj hq
    obtain ⟨m1,m2,m3,m4,m5,m6,m7⟩:=Gk.mem_at ks ns true (b+1) e' t n p1 w4 h1 h2
    obtain ⟨q1,a1,a2,a3,a4⟩:=ih h m5 hT
    obtain ⟨c1,c2,c3,c4⟩:=Ka.Lead.wf h5 m5
    obtain ⟨ns',ks',d1,d2,d3,d4,d5,d6,d7⟩:=memsT h m5 a4 c2 c3 a1 a2 a3 ks ns true (b+1) e' t w4 h2 w2
    refine ⟨.mk 6 b (sh p.e p'.e e') ns' ks',?_,rfl,rfl,?_⟩
    · unfold WfV
      have:=h.lt'
      have hz:=h.size
      exact ⟨by unfold sh;omega,by rw [hz];unfold sh;omega,.inr (.inr (.inr ⟨rfl,by rw [h.pre _ (by omega)];exact w3,d1⟩))⟩
    · simp only [treeN,d6,d7]
      rfl
  | @elt b e' ns ks t p1 p key rest h1 h2 h5 ih=>
    obtain ⟨w1,w2,w3,w4⟩:=Gk.wf_arr hq
    have hns:ns=[]:=by
      have hq:=hq
      unfold WfV at hq
      obtain ⟨_,_,⟨_,_,_,g⟩ | ⟨g,_⟩ | ⟨_,g,_⟩ | ⟨g,_⟩⟩:=hq
      · rcases g with ⟨g,_⟩ | ⟨g,_⟩ | ⟨g,_⟩ | ⟨g,_⟩ <;> omega
      · omega
      · exact g
      · omega
    obtain ⟨m1,m2,m3,m4⟩:=Gk.elt_at ks true (b+1) e' t p1 w4 h2
    obtain ⟨q1,a1,a2,a3,a4⟩:=ih h m1 hT
    obtain ⟨c1,c2,c3,c4⟩:=Ka.Lead.wf h5 m1
    obtain ⟨ks',d1,d2,d7⟩:=eltsT h a4 c2 c3 a1 a2 a3 ks true (b+1) e' t w4 h2 w2
    refine ⟨.mk 5 b (sh p.e p'.e e') [] ks',?_,rfl,rfl,?_⟩
    · unfold WfV
      have:=h.lt'
      have hz:=h.size
      exact ⟨by unfold sh;omega,by rw [hz];unfold sh;omega,.inr (.inr (.inl ⟨rfl,rfl,by rw [h.pre _ (by omega)];exact w3,d1⟩))⟩
    · subst hns
      simp only [treeN,d7]
      rfl
end Go.Proofs.YtlfebfkphgelfaaGreatDoor.Ed
namespace Go.Proofs.YtlfebfkphgelfaaGreatDoor.Ed
open Go Go.Proofs Go.RowKit Rx Pl Pw Sk
open Ka (nmS ixS Led)
open Nt (treeN treeL)
open Sr (places places_of_wf)
variable {s s':ByteArray} {A C D:Nat}
structure Gap (s s':ByteArray) (A C D:Nat):Prop where
  pre : ∀ j,j<A→bt s' (j:Int)=bt s (j:Int)
  suf : ∀ j,C≤j→bt s' (sh C D j:Int)=bt s (j:Int)
  size:s'.size=sh C D s.size
  le:A≤C
  le':A≤D
  es:C<s.size
  bs : ∀ j,A≤j→j<C→isB (bt s (j:Int))=true
  bd : ∀ j,A≤j→j<D→isB (bt s' (j:Int))=true
  cl:bt s (C:Int)=125
theorem Gap.agP (h:Gap s s' A C D):Ag s s' 0 0 A:=⟨fun j _ g=>h.pre j g,by have:=h.size;have:=h.es;have:=h.le';show A≤s'.size;unfold sh at *;omega,Nat.zero_le _⟩
theorem Gap.cl' (h:Gap s s' A C D):bt s' (D:Int)=125:=by
  have:=h.suf C (Nat.le_refl _)
  have e:sh C D C=D:=by unfold sh;omega
  rw [e,h.cl] at this
  exact this
theorem Gap.stop (h:Gap s s' A C D):Nst (bt s' (A:Int)):=by
  rcases Nat.lt_or_ge A D with g | g
  · have:=isB_iff.1 (h.bd A (Nat.le_refl _) g)
    exact nst_of (by omega)
  · have:A=D:=by have:=h.le';omega
    rw [this,h.cl']
    exact nst_of (.inr rfl)
theorem Gap.mems (h:Gap s s' A C D) : ∀ (ks:List PT) (ns:List (Nat×Nat)) (first:Bool) (j:Nat),WfM s first j ns ks (C+1)→j≤A →
    WfM s' first j ns ks (D+1)∧(∀ n ∈ ns,n.2≤A)∧(∀ c ∈ ks,WfV s c∧c.e≤A)
  | [],ns,first,j,hM,hj=>by
    unfold WfM at hM
    obtain ⟨rfl,h1,h2⟩:=hM
    have hg:=bl_ge s j
    have e:bl s' j=D:=bl_eq rfl (by have:=h.le';omega) (fun i g1 g2=>by
      rcases Nat.lt_or_ge i A with g | g
      · rw [h.pre i g];exact bl_blank s j i g1 (by have:=h.le;omega)
      · exact h.bd i g g2) (by rw [h.cl'];rfl)
    refine ⟨?_,(fun n hn=>by cases hn),(fun c hc=>by cases hc)⟩
    unfold WfM
    rw [e]
    exact ⟨rfl,h.cl',rfl⟩
  | p0 :: ks,ns,first,j,hM,hj=>by
    unfold WfM at hM
    obtain ⟨n0,ns0,rfl,h0,hq,hs,hc,hb,hv,hM⟩:=hM
    have w5:=Gk.wfM_bl _ _ _ _ _ hM
    have a1:=hv.lt
    have a2:=strE_le hs
    have a3:=bl_ge s n0.2
    have a4:=bl_ge s (bl s n0.2+1)
    have a5:=bl_ge s p0.e
    have g:=bl_ge s j
    have g2:=bl_ge s (bl s j+1)
    have hle:=h.le
    have hjn:bl s j≤n0.1:=by split at h0 <;> omega
    have hpe:p0.e≤A:=by
      rcases Nat.lt_or_ge A p0.e with g3 | g3
      · obtain ⟨l1,l2,_⟩:=last_byte hv
        have:=h.bs (p0.e-1) (by omega) (by omega)
        rw [l2] at this;cases this
      · exact g3
    obtain ⟨i1,i2,i3⟩:=Gap.mems h ks ns0 false p0.e hM hpe
    have hA:=h.agP
    have e1:bl s' j=bl s j:=hA.m_bl (i:=j) (Nat.zero_le _) (by omega)
    have e2:bl s' n0.2=bl s n0.2:=hA.m_bl (i:=n0.2) (Nat.zero_le _) (by omega)
    have e3:bl s' (bl s n0.2+1)=bl s (bl s n0.2+1):=hA.m_bl (i:=bl s n0.2+1) (Nat.zero_le _) (by omega)
    have hst:Stop s' 0 0 A p0.e:=by
      rcases Nat.lt_or_ge p0.e A with g3 | g3
      · exact .inl g3
      · exact .inr ⟨by omega,h.stop⟩
    have hv':=hA.wfV p0 hv (Nat.zero_le _) hst
    rw [mvP_id] at hv'
    refine ⟨?_,fun n hn => ?_,fun c hc => ?_⟩
    · unfold WfM
      refine ⟨n0,ns0,rfl,?_,by rw [h.pre _ (by omega)];exact hq,hA.m_strE (i:=n0.1+1) (m:=n0.2) (Nat.le_refl _) (Nat.zero_le _) hs (by omega),by rw [e2,h.pre _ (by omega)];exact hc,by rw [e2,e3];exact hb,hv',i1⟩
      cases first with
      | true=>
        have h0:n0.1=bl s j:=h0
        show n0.1=bl s' j
        rw [e1];exact h0
      | false=>
        obtain ⟨c1,c2⟩:bt s (bl s j:Int)=44∧n0.1=bl s (bl s j+1):=h0
        have e4:bl s' (bl s j+1)=bl s (bl s j+1):=hA.m_bl (i:=bl s j+1) (Nat.zero_le _) (by omega)
        show bt s' (bl s' j:Int)=44∧n0.1=bl s' (bl s' j+1)
        rw [e1,h.pre _ (by omega),e4]
        exact ⟨c1,c2⟩
    · rcases List.mem_cons.1 hn with rfl | hn
      · omega
      · exact i2 n hn
    · rcases List.mem_cons.1 hc with rfl | hc
      · exact ⟨hv,hpe⟩
      · exact i3 c hc
theorem Gap.obj (h:Gap s s' A C D) {b:Nat} {ns:List (Nat×Nat)} {ks:List PT} (hw:WfV s (.mk 6 b (C+1) ns ks)) (hb:b<A) :
    WfV s' (.mk 6 b (D+1) ns ks)∧Sw s s' (.mk 6 b (C+1) ns ks) (.mk 6 b (D+1) ns ks)∧treeN s' (.mk 6 b (D+1) ns ks)=treeN s (.mk 6 b (C+1) ns ks):=by
  obtain ⟨w1,w2,w3,w4⟩:=Gk.wf_obj hw
  obtain ⟨m1,m2,m3⟩:=h.mems ks ns true (b+1) w4 (by omega)
  have hz:=h.size
  have hes:=h.es
  have hle':=h.le'
  have hle:=h.le
  have hv:WfV s' (.mk 6 b (D+1) ns ks):=by
    unfold WfV
    exact ⟨by omega,by rw [hz];unfold sh;omega,.inr (.inr (.inr ⟨rfl,by rw [h.pre _ hb];exact w3,m1⟩))⟩
  refine ⟨hv,⟨fun j hj=>h.pre j (by have hj:j<b:=hj;omega),fun j hj => ?_,?_,hv,rfl,w1,w2⟩,?_⟩
  · have hj:C+1≤j:=hj
    have e:sh (PT.mk 6 b (C+1) ns ks).e (PT.mk 6 b (D+1) ns ks).e j=sh C D j:=by
      show sh (C+1) (D+1) j=sh C D j
      unfold sh;omega
    rw [e];exact h.suf j (by omega)
  · rw [hz]
    show sh C D s.size=sh (C+1) (D+1) s.size
    unfold sh;omega
  · simp only [treeN]
    have e1:ns.map (nmS s')=ns.map (nmS s):=List.map_congr_left fun n hn=>by
      have:=m2 n hn
      unfold nmS
      rw [ext_same (by omega) (by rw [hz];unfold sh;omega) (fun j hj=>h.pre j (by omega))]
    have e2:treeL s' ks=treeL s ks:=by
      have:=agL h.agP ks fun c hc=>by
        obtain ⟨c1,c2⟩:=m3 c hc
        have:=ag_tree h.agP (by omega) _ c (Nat.lt_succ_self _) c1 (Nat.zero_le _) c2
        exact this
      rwa [mvL_id] at this
    rw [e1,e2]
    rfl
theorem gap_read (h:Gap s s' A C D) {p0:PT} {ks1:List ByteArray} {b:Nat} {ns:List (Nat×Nat)} {ks:List PT} (hL:Led s p0 ks1 (.mk 6 b (C+1) ns ks)) (hb:b<A) : ∃ q',places s'=some q'∧WfV s' q'∧treeN s' q'=treeN s p0:=by
  obtain ⟨o1,o2,o3⟩:=h.obj hL.wfp hb
  obtain ⟨q',a1,a2,a3,a4⟩:=tree_sw hL.lead o2 hL.wf o3
  have c:=Ka.Lead.wf hL.lead hL.wf
  have hl:=hL.wf.lt
  refine ⟨q',places_of_wf ?_ a1 ?_,a1,a4⟩
  · rw [a2]
    exact o2.blP hL.at0 c.2.1 (by rw [← a2];exact wf_nb a1)
  · rw [a3,o2.size]
    refine bl_eq rfl (by unfold sh;omega) (fun j g1 g2 => ?_) (by rw [← o2.size,bt_end (Nat.le_refl _)];rfl)
    obtain ⟨k,hk,rfl⟩:=sh_back (u:=(PT.mk 6 b (C+1) ns ks).e) (v:=(PT.mk 6 b (D+1) ns ks).e) (j:=j) (by have:=c.2.2.1;unfold sh at g1;omega)
    have g2:k<s.size:=(sh_lt hk).1 g2
    rw [o2.suf k hk]
    exact bl_blank s p0.e k (by have:=c.2.2.1;unfold sh at g1;omega) (by rw [hL.fin];exact g2)
end Go.Proofs.YtlfebfkphgelfaaGreatDoor.Ed
namespace Go.Proofs.YtlfebfkphgelfaaGreatDoor.Ed
open Go Go.Proofs Go.RowKit Rx Pl Pw Sk Ut Bw Uq Ql
open Ka (nmS ixS Led DelC New newT compL)
open Gk (Lead)
variable {s s' o T k X:ByteArray} {u v e:Nat} {c:Bool}
theorem Ins.memsP (h:Ins o T k X c) (hk:AsIs k) {pv:PT} (hv:WfV T pv) (hb:bl T (inI o c+k.size+3)=pv.b) (he:bl T pv.e=inI o c+k.size+3+X.size) : ∀ (ks:List PT) (ns:List (Nat×Nat)) (first:Bool) (j:Nat),WfM o first j ns ks o.size→(c=false↔ks=[]∧first=true) →
    WfM T first j (ns++[(inI o c,inI o c+1+k.size+1)]) (ks++[pv]) T.size
  | [],ns,first,j,hM,hc=>by
    have hz:=h.size
    have ho:=h.one
    unfold WfM at hM
    obtain ⟨rfl,h1,h2⟩:=hM
    have hg:=bl_ge o j
    have hpre : ∀ i,j≤i→i<o.size-1→isB (bt T (i:Int))=true:=fun i g1 g2=>by
      rw [h.pre i g2];exact bl_blank o j i g1 (by omega)
    show WfM T first j [(inI o c,inI o c+1+k.size+1)] [pv] T.size
    unfold WfM
    refine ⟨(inI o c,inI o c+1+k.size+1),[],rfl,?_,h.q1,h.str hk k.size 0 (by omega) (by omega),?_,?_,hv,?_⟩
    · cases first with
      | true=>
        have:c=false:=hc.2 ⟨rfl,rfl⟩
        subst this
        have e:inI o false=o.size-1:=rfl
        show inI o false=bl T j
        exact (bl_eq rfl (by omega) (fun i g1 g2=>hpre i g1 (by omega)) (by rw [h.q1];rfl)).symm
      | false=>
        have hct:c=true:=by
          cases c with
          | true=>rfl
          | false=>have:=(hc.1 rfl).2;cases this
        subst hct
        have e:inI o true=o.size-1+1:=rfl
        have e1:bl T j=o.size-1:=bl_eq rfl (by omega) hpre (by rw [h.com rfl];rfl)
        show bt T (bl T j:Int)=44∧inI o true=bl T (bl T j+1)
        rw [e1]
        refine ⟨h.com rfl,?_⟩
        have e2:bl T (o.size-1+1)=o.size-1+1:=bl_no (by rw [← e,h.q1];rfl)
        rw [e2];exact e
    · show bt T (bl T (inI o c+1+k.size+1):Int)=58
      rw [bl_no (by rw [h.col];rfl)];exact h.col
    · show pv.b=bl T (bl T (inI o c+1+k.size+1)+1)
      rw [bl_no (i:=inI o c+1+k.size+1) (by rw [h.col];rfl)]
      have e:inI o c+1+k.size+1+1=inI o c+k.size+3:=by omega
      rw [e]
      exact hb.symm
    · unfold WfM
      rw [he]
      exact ⟨rfl,h.cl,by omega⟩
  | p0 :: ks,ns,first,j,hM,hc=>by
    have hz:=h.size
    have ho:=h.one
    have hct:c=true:=by
      cases c with
      | true=>rfl
      | false=>have:=(hc.1 rfl).1;cases this
    have hlen:=Gk.wfM_le _ _ _ _ _ hM
    unfold WfM at hM
    obtain ⟨n,ns',rfl,h0,hq,hs,hcl,hb',hv',hM⟩:=hM
    have a0:=Gk.wfM_bl ks ns' false p0.e o.size hM
    have a1:=hv'.lt
    have a2:=strE_le hs
    have a3:=bl_ge o n.2
    have a4:=bl_ge o (bl o n.2+1)
    have a5:=bl_ge o p0.e
    have g:=bl_ge o j
    have g2:=bl_ge o (bl o j+1)
    have hA:=h.ag
    have hjn:bl o j≤n.1:=by split at h0 <;> omega
    have e1:bl T j=bl o j:=hA.m_bl (i:=j) (Nat.zero_le _) (by omega)
    have e2:bl T n.2=bl o n.2:=hA.m_bl (i:=n.2) (Nat.zero_le _) (by omega)
    have ihM:=Ins.memsP h hk hv hb he ks ns' false p0.e hM (by rw [hct];simp)
    show WfM T first j (n :: (ns'++[(inI o c,inI o c+1+k.size+1)])) (p0 :: (ks++[pv])) T.size
    unfold WfM
    refine ⟨n,_,rfl,?_,by rw [h.pre _ (by omega)];exact hq,hA.m_strE (i:=n.1+1) (m:=n.2) (Nat.le_refl _) (Nat.zero_le _) hs (by omega),by rw [e2,h.pre _ (by omega)];exact hcl,?_,?_,ihM⟩
    · cases first with
      | true=>
        have h0:n.1=bl o j:=h0
        show n.1=bl T j
        rw [e1];exact h0
      | false=>
        obtain ⟨c1,c2⟩:bt o (bl o j:Int)=44∧n.1=bl o (bl o j+1):=h0
        have e3:bl T (bl o j+1)=bl o (bl o j+1):=hA.m_bl (i:=bl o j+1) (Nat.zero_le _) (by omega)
        show bt T (bl T j:Int)=44∧n.1=bl T (bl T j+1)
        rw [e1,h.pre _ (by omega),e3]
        exact ⟨c1,c2⟩
    · have e3:bl T (bl o n.2+1)=bl o (bl o n.2+1):=hA.m_bl (i:=bl o n.2+1) (Nat.zero_le _) (by omega)
      rw [e2,e3];exact hb'
    · have hst:Stop T 0 0 (o.size-1) p0.e:=by
        rcases Nat.lt_or_ge p0.e (o.size-1) with g3 | g3
        · exact .inl g3
        · refine .inr ⟨by omega,?_⟩
          have e4:sh 0 0 (o.size-1)=o.size-1:=rfl
          rw [e4,h.com hct]
          exact ⟨rfl,by decide,by decide,by decide⟩
      have:=hA.wfV p0 hv' (Nat.zero_le _) hst
      rwa [mvP_id] at this
theorem Ins.wfP (h:Ins o T k X c) (hk:AsIs k) {px:PT} (hX:WfV X px) (hb:bl X 0=px.b) (he:bl X px.e=X.size) {ns:List (Nat×Nat)} {ks:List PT} (ho:WfV o (.mk 6 0 o.size ns ks)) (hc:c=false↔ks=[]) :
    WfV T (.mk 6 0 T.size (ns++[(inI o c,inI o c+1+k.size+1)]) (ks++[mvP 0 (inI o c+k.size+3) px]))∧bl T (sh 0 (inI o c+k.size+3) px.e)=inI o c+k.size+3+X.size:=by
  obtain ⟨w1,w2,w3,w4⟩:=Gk.wf_obj ho
  have w5:=Gk.wfM_bl _ _ _ _ _ w4
  have w6:=bl_ge o (0+1)
  have hz:=h.size
  have hl:=hX.lt
  have hg:=bl_ge X px.e
  have eX : ∀ j,sh 0 (inI o c+k.size+3) j=inI o c+k.size+3+j:=fun j=>by unfold sh;omega
  have hbX:bl T (inI o c+k.size+3)=(mvP 0 (inI o c+k.size+3) px).b:=by
    rw [mvP_b]
    have:=h.agX.m_bl (i:=0) (Nat.le_refl _) (by omega)
    rw [eX 0,hb] at this
    exact this
  have heX:bl T (sh 0 (inI o c+k.size+3) px.e)=inI o c+k.size+3+X.size:=by
    rw [eX]
    refine bl_eq rfl (by omega) (fun j g1 g2 => ?_) (by rw [h.cl];rfl)
    have:=h.val (j-(inI o c+k.size+3)) (by omega)
    rw [show inI o c+k.size+3+(j-(inI o c+k.size+3))=j by omega] at this
    rw [this]
    exact bl_blank X px.e _ (by omega) (by omega)
  have hwX:WfV T (mvP 0 (inI o c+k.size+3) px):=by
    refine h.agX.wfV px hX (Nat.zero_le _) ?_
    rcases Nat.lt_or_ge px.e X.size with g | g
    · exact .inl g
    · refine .inr ⟨by omega,?_⟩
      rw [eX,h.cl]
      exact ⟨rfl,by decide,by decide,by decide⟩
  have hm:=h.memsP hk hwX hbX (by rw [mvP_e];exact heX) ks ns true (0+1) w4 (by rw [hc];simp)
  refine ⟨?_,heX⟩
  unfold WfV
  refine ⟨by omega,Nat.le_refl _,.inr (.inr (.inr ⟨rfl,?_,hm⟩))⟩
  rw [h.pre 0 (by omega)];exact w3
theorem del_mk {p0 p:PT} {ks1:List ByteArray} {b r t:Nat} {ns:List (Nat×Nat)} {ks:List PT} {n:Nat×Nat} (h1:Led s p0 ks1 (.mk 6 b r ns ks)) (a1:ns[t]?=some n) (a2:ks[t]?=some p) (a3:nmS s n=k) (a4 : ∀ (t':Nat) (n':Nat×Nat),t'<t→ns[t']?=some n'→nmS s n'≠k) :
    ∃ (f:Bool) (jt:Nat),DelC s p0 ks1 k b r ns ks t n p f jt:=by
  obtain ⟨w1,w2,w3,w4⟩:=Gk.wf_obj h1.wfp
  obtain ⟨f,jt,c1,c2,c3,c4,c5,c6,_⟩:=hole_ctx ks ns true (b+1) r t n p w4 a1 a2
  refine ⟨f,jt,h1,a1,a2,a3,a4,c2,fun hf=>(c3 hf).2,fun hf => ?_⟩
  rcases c4 hf with ⟨g,_⟩ | g
  · cases g
  · exact g
theorem ins_del (h:Ins o T k X c) (hk:AsIs k) {px p0:PT} {ks1:List ByteArray} {b e:Nat} {ns nso:List (Nat×Nat)} {ks kso:List PT} (hL:Led s p0 ks1 (.mk 6 b e ns ks)) (hX:WfV X px) (hb:bl X 0=px.b) (he:bl X px.e=X.size) (ho:WfV o (.mk 6 0 o.size nso kso)) (hc:c=false↔kso=[]) (hne : ∀ n ∈ nso,nmS o n≠k) :
    ∃ (p0':PT) (ns':List (Nat×Nat)) (ks':List PT) (t:Nat) (n:Nat×Nat) (p:PT) (f:Bool) (jt:Nat),DelC (put s b e T) p0' ks1 k b (b+T.size) ns' ks' t n p f jt∧ks'.drop (t+1)=[]∧n.1=b+inI o c∧p.e=b+(inI o c+k.size+3+px.e) ∧
      Sw s (put s b e T) (.mk 6 b e ns ks) (.mk 6 b (b+T.size) ns' ks'):=by
  obtain ⟨hwT,_⟩:=h.wfP hk hX hb he ho hc
  obtain ⟨_,_,_,w4⟩:=Gk.wf_obj ho
  have hlen:=wfM_lens _ _ _ _ _ w4
  have hsw:=sw_put hL hwT rfl rfl
  have hsw:Sw s (put s b e T) (.mk 6 b e ns ks) (mvP 0 b (.mk 6 0 T.size (nso++[(inI o c,inI o c+1+k.size+1)]) (kso++[mvP 0 (inI o c+k.size+3) px]))):=hsw
  have hl:=hL.wfp.lt
  have hl1:b<e∧e≤s.size:=hl
  have hA:Ag T (put s b e T) 0 b T.size:=⟨fun j _ g=>by
    have:sh 0 b j=b+j:=by unfold sh;omega
    rw [this];exact put_mid (by omega) hl1.2 g,by rw [put_size (by omega) hl1.2];unfold sh;omega,Nat.zero_le _⟩
  obtain ⟨p0',hL'⟩:=led_sw hL hsw
  have e0:sh 0 b 0=b:=by unfold sh;omega
  have eT:sh 0 b T.size=b+T.size:=by unfold sh;omega
  rw [mvP_mk,e0,eT] at hsw hL'
  have hz:=h.size
  have ho1:=h.one
  have hkl:(kso++[mvP 0 (inI o c+k.size+3) px]).length=kso.length+1:=by rw [List.length_append];rfl
  have hnmk:nmS (put s b e T) (sh 0 b (inI o c),sh 0 b (inI o c+1+k.size+1))=k:=by
    rw [hA.nm (n:=(inI o c,inI o c+1+k.size+1)) (Nat.le_refl _) (Nat.zero_le _) (by show inI o c+2≤inI o c+1+k.size+1;omega) (by show inI o c+1+k.size+1≤T.size;omega)]
    exact h.name hk
  have hfst : ∀ (t':Nat) (n':Nat×Nat),t'<kso.length→((nso++[(inI o c,inI o c+1+k.size+1)]).map fun n=>(sh 0 b n.1,sh 0 b n.2))[t']?=some n'→nmS (put s b e T) n'≠k:=by
    intro t' n' ht hn'
    rw [List.getElem?_map] at hn'
    obtain ⟨m,hm,rfl⟩:=Option.map_eq_some_iff.1 hn'
    rw [List.getElem?_append_left (by omega)] at hm
    obtain ⟨s1,s2,s3⟩:=mem_span _ _ _ _ _ _ _ w4 hm
    rw [hA.nm (Nat.le_refl _) (Nat.zero_le _) s2 (by unfold inI at hz;omega)]
    have em:nmS T m=nmS o m:=by
      have:=h.ag.nm (n:=m) (by omega) (Nat.zero_le _) s2 (by omega)
      exact this
    rw [em]
    exact hne m (List.mem_of_getElem? hm)
  obtain ⟨f,jt,hD⟩:=del_mk (t:=kso.length) (n:=(sh 0 b (inI o c),sh 0 b (inI o c+1+k.size+1))) (p:=mvP 0 b (mvP 0 (inI o c+k.size+3) px)) hL'
    (by rw [List.getElem?_map,List.getElem?_append_right (by omega),hlen,Nat.sub_self];rfl) (by rw [mvL_get,List.getElem?_append_right (Nat.le_refl _),Nat.sub_self];rfl) hnmk hfst
  refine ⟨p0',_,_,_,_,_,f,jt,hD,?_,?_,?_,hsw⟩
  · have:=mvL_len 0 b (kso++[mvP 0 (inI o c+k.size+3) px])
    exact List.drop_eq_nil_of_le (by omega)
  · show sh 0 b (inI o c)=b+inI o c
    unfold sh;omega
  · rw [mvP_e,mvP_e]
    unfold sh;omega
end Go.Proofs.YtlfebfkphgelfaaGreatDoor.Ed
namespace Go.Proofs.YtlfebfkphgelfaaGreatDoor.Ed
open Go Go.Proofs Go.RowKit Rx Pl Pw Sk
open Ka (nmS ixS Led DelC New newT compL)
open Gk (Lead)
variable {s out:ByteArray} {A E:Nat}
theorem put_gap {b e r:Nat} {ns ns':List (Nat×Nat)} {ks ks':List PT} (hsw:Sw s out (.mk 6 b e ns ks) (.mk 6 b r ns' ks')) (hw:WfV s (.mk 6 b e ns ks)) (hpre : ∀ j,j<A→bt out (j:Int)=bt s (j:Int)) (hA:A+1≤e) (hbk : ∀ j,A≤j→j<e-1→isB (bt s (j:Int))=true)
    (hAE:A≤E) (hE:bt out (bl out E:Int)=125) (hr:r=bl out E+1):Gap s (put out A E (ByteArray.mk #[])) A (e-1) (A+(bl out E-E)):=by
  obtain ⟨w1,w2,w3,w4⟩:=Gk.wf_obj hw
  obtain ⟨x1,x2⟩:=Gk.wfM_end _ _ _ _ _ w4
  have hg:=bl_ge out E
  have hlo:bl out E<out.size:=lt_of_bt (by omega)
  have hEs:E≤out.size:=by omega
  have hz:=put_size (t:=ByteArray.mk #[]) hAE hEs
  have hz0:(ByteArray.mk #[]).size=0:=rfl
  have hsz:out.size=sh e r s.size:=hsw.size
  have hsuf : ∀ y,E≤y→bt (put out A E (ByteArray.mk #[])) ((A+(y-E):Nat):Int)=bt out (y:Int):=fun y hy=>by
    have:=put_suf (t:=ByteArray.mk #[]) hAE hEs hy
    rw [show A+(ByteArray.mk #[]).size+(y-E)=A+(y-E) by omega] at this
    exact this
  refine ⟨fun j hj=>by rw [put_pre hAE hEs hj];exact hpre j hj,fun j hj => ?_,?_,by omega,by omega,by omega,hbk,fun j h1 h2 => ?_,x2⟩
  · rcases Nat.lt_or_ge j e with g | g
    · have:j=e-1:=by omega
      subst this
      have e1:sh (e-1) (A+(bl out E-E)) (e-1)=A+(bl out E-E):=by unfold sh;omega
      rw [e1,hsuf _ hg,hE,x2]
    · have h1:bt out (sh e r j:Int)=bt s (j:Int):=hsw.suf j g
      have e1:sh (e-1) (A+(bl out E-E)) j=A+(sh e r j-E):=by unfold sh;omega
      rw [e1,hsuf _ (by unfold sh;omega)]
      exact h1
  · rw [hz,hsz];unfold sh;omega
  · have h3:=hsuf (E+(j-A)) (by omega)
    rw [show A+(E+(j-A)-E)=j by omega] at h3
    rw [h3]
    exact bl_blank out E _ (by omega) (by omega)
theorem gap_same {s':ByteArray} (h:Gap s s' A A A):s'=s:=by
  have hz:s'.size=s.size:=by have:=h.size;unfold sh at this;omega
  have h1:=ext_eq (s:=s) (s':=s') (a:=0) (a':=0) (n:=s.size) (by omega) (by omega) (fun j hj=>by
    rw [Nat.zero_add]
    rcases Nat.lt_or_ge j A with g | g
    · exact h.pre j g
    · have:=h.suf j g
      rw [show sh A A j=j by unfold sh;omega] at this
      exact this)
  rw [Nat.zero_add] at h1
  have e1 : ∀ x:ByteArray,x.extract 0 x.size=x:=fun x=>by
    apply ByteArray.ext
    show (x.extract 0 x.size).data=x.data
    rw [ByteArray.data_extract]
    exact Array.extract_size
  rw [← e1 s,← h1,← hz,e1]
theorem setdel {a k:ByteArray} {p0 pa:PT} {ks1:List ByteArray} {b e:Nat} {ns:List (Nat×Nat)} {ks:List PT} (hL:Led s p0 ks1 (.mk 6 b e ns ks)) (hne : ∀ n ∈ ns,nmS s n≠k) (hk:AsIs k) (ha:WfV a pa) (hab:bl a 0=pa.b) (hae:bl a pa.e=a.size) :
    ∃ (p0':PT) (r:Nat) (ns':List (Nat×Nat)) (ks':List PT) (t:Nat) (n:Nat×Nat) (p:PT) (f:Bool) (jt:Nat),DelC (newT s ks1 b e ks k [] a.data.toList) p0' ks1 k b r ns' ks' t n p f jt ∧
      ∀ A E,Hole (newT s ks1 b e ks k [] a.data.toList) f jt (ks'.drop (t+1)) p A E→A≤E → ∃ D,Gap s (put (newT s ks1 b e ks k [] a.data.toList) A E (ByteArray.mk #[])) A (e-1) D∧b<A∧(pa.e=a.size→D=A)∧D≤A+a.size:=by
  have hw:=hL.wfp
  obtain ⟨w1,w2,w3,w4⟩:=Gk.wf_obj hw
  obtain ⟨x1,x2⟩:=Gk.wfM_end _ _ _ _ _ w4
  obtain ⟨hA,hz,hO,hnm⟩:=obj_own hw
  have hla:=ha.lt
  have hgb1:=Gk.wfM_bl _ _ _ _ _ w4
  have hgb2:=bl_ge s (b+1)
  have hiO : ∀ c,(s.extract b e).size-1≤inI (s.extract b e) c:=fun c=>by unfold inI;omega
  have eX:mkB (nstL [] a.data.toList)=a:=by
    have:nstL [] a.data.toList=a.data.toList:=by show []++(a.data.toList++[])=_;rw [List.nil_append,List.append_nil]
    rw [this,mkB_of]
  have main : ∀ (o T:ByteArray) (c:Bool) (nso:List (Nat×Nat)) (kso:List PT),newT s ks1 b e ks k [] a.data.toList=put s b e T→Ins o T k a c→WfV o (.mk 6 0 o.size nso kso)→(c=false↔kso=[])→(∀ n ∈ nso,nmS o n≠k) →
      ((o=s.extract b e∧(c=false↔ks=[]))∨(o=eO∧c=false∧ks=[])) →
      ∃ (p0':PT) (r:Nat) (ns':List (Nat×Nat)) (ks':List PT) (t:Nat) (n:Nat×Nat) (p:PT) (f:Bool) (jt:Nat),DelC (newT s ks1 b e ks k [] a.data.toList) p0' ks1 k b r ns' ks' t n p f jt ∧
        ∀ A E,Hole (newT s ks1 b e ks k [] a.data.toList) f jt (ks'.drop (t+1)) p A E→A≤E → ∃ D,Gap s (put (newT s ks1 b e ks k [] a.data.toList) A E (ByteArray.mk #[])) A (e-1) D∧b<A∧(pa.e=a.size→D=A)∧D≤A+a.size:=by
    intro o T c nso kso hT hI ho hc hno hcase
    rw [hT]
    obtain ⟨p0',ns',ks',t,n,p,f,jt,hD,hrest,hn1,hpe,hsw⟩:=ins_del hI hk hL ha hab hae ho hc hno
    have hTz:=hI.size
    have hos:=hI.one
    refine ⟨p0',b+T.size,ns',ks',t,n,p,f,jt,hD,fun A E hH hAE => ?_⟩
    have hHE:E=p.e∧(if f then A=jt else jt≤A∧A≤bl (put s b e T) jt):=by
      rcases hH with ⟨g,_⟩ | ⟨_,g1,g2⟩
      · exact absurd hrest g
      · exact ⟨g1,g2⟩
    obtain ⟨hE,hAf⟩:=hHE
    obtain ⟨d1,d2,d3,d4,d5,d6,d7,d8⟩:=hD.dims
    obtain ⟨c1,c2⟩:=hD.ctx.lst hrest
    have hpre0 : ∀ j,j<b→bt (put s b e T) (j:Int)=bt s (j:Int):=fun j hj=>put_pre (by omega) w2 hj
    have hmid : ∀ j,j<T.size→bt (put s b e T) ((b+j:Nat):Int)=bt T (j:Int):=fun j hj=>put_mid (by omega) w2 hj
    have hxp:=hD.ctx.pre
    have fin:b<A→A+1≤e→(∀ j,j<A→bt (put s b e T) (j:Int)=bt s (j:Int))→(∀ j,A≤j→j<e-1→isB (bt s (j:Int))=true) → ∃ D,Gap s (put (put s b e T) A E (ByteArray.mk #[])) A (e-1) D∧b<A∧(pa.e=a.size→D=A)∧D≤A+a.size:=by
      intro g1 g2 g3 g4
      refine ⟨_,put_gap hsw hw g3 g2 g4 hAE (by rw [hE];exact c1) (by rw [hE];exact c2),g1,fun hpa => ?_,?_⟩
      rotate_left
      · have h1:b+T.size=bl (put s b e T) E+1:=by rw [hE];exact c2
        omega
      have e1:bl (put s b e T) E=E:=by
        refine bl_no ?_
        have:E=b+(inI o c+k.size+3+a.size):=by omega
        rw [this,hmid _ (by omega),hI.cl];rfl
      omega
    rcases hcase with ⟨rfl,hck⟩ | ⟨rfl,rfl,hks⟩
    · have hiO1:=hiO c
      have hpreO : ∀ j,j<e-1→bt (put s b e T) (j:Int)=bt s (j:Int):=fun j hj=>by
        rcases Nat.lt_or_ge j b with g | g
        · exact hpre0 j g
        · have h1:=hmid (j-b) (by omega)
          rw [show b+(j-b)=j by omega] at h1
          rw [h1,hI.pre _ (by omega),bt_extract w2 (by omega),show b+(j-b)=j by omega]
      cases hcc:c with
      | true=>
        subst hcc
        have hi:inI (s.extract b e) true=(s.extract b e).size-1+1:=rfl
        have hn:n.1=e:=by omega
        have h44:bt (put s b e T) ((e-1:Nat):Int)=44:=by
          have h1:=hmid ((s.extract b e).size-1) (by omega)
          rw [show b+((s.extract b e).size-1)=e-1 by omega] at h1
          rw [h1];exact hI.com rfl
        have nb44:isB (bt (put s b e T) ((e-1:Nat):Int))=true→False:=fun g=>by rw [h44] at g;cases g
        cases hf:f with
        | true=>
          exfalso
          rw [hf] at hxp
          have hxp:n.1=bl (put s b e T) jt:=hxp
          exact nb44 (bl_blank _ jt (e-1) (by have:=hD.ft hf;omega) (by omega))
        | false=>
          rw [hf] at hxp hAf
          obtain ⟨y1,y2⟩:bt (put s b e T) (bl (put s b e T) jt:Int)=44∧n.1=bl (put s b e T) (bl (put s b e T) jt+1):=hxp
          have hAf:jt≤A∧A≤bl (put s b e T) jt:=hAf
          have g1:=bl_ge (put s b e T) jt
          have g2:=bl_ge (put s b e T) (bl (put s b e T) jt+1)
          have hx:bl (put s b e T) jt=e-1:=by
            rcases Nat.lt_or_ge (bl (put s b e T) jt) (e-1) with g | g
            · exact (nb44 (bl_blank _ (bl (put s b e T) jt+1) (e-1) (by omega) (by omega))).elim
            · omega
          exact fin (by omega) (by omega) (fun j hj=>hpreO j (by omega)) (fun j h1 h2=>by
            rw [← hpreO j h2]
            exact bl_blank _ jt j (by omega) (by omega))
      | false=>
        have hks:ks=[]:=hck.1 hcc
        subst hks
        rw [hcc] at hn1
        have hi:inI (s.extract b e) false=(s.extract b e).size-1:=rfl
        have hn:n.1=e-1:=by omega
        have hbs:bl s (b+1)=e-1:=by
          unfold WfM at w4
          have:=w4.2.2
          omega
        cases hf:f with
        | true=>
          rw [hf] at hAf
          have hAf:A=jt:=hAf
          have hj:=hD.ft hf
          exact fin (by omega) (by omega) (fun j hj=>hpreO j (by omega)) (fun j h1 h2=>bl_blank s (b+1) j (by omega) (by omega))
        | false=>
          exfalso
          rw [hf] at hxp
          obtain ⟨y1,y2⟩:bt (put s b e T) (bl (put s b e T) jt:Int)=44∧n.1=bl (put s b e T) (bl (put s b e T) jt+1):=hxp
          have g1:=bl_ge (put s b e T) jt
          have g2:=bl_ge (put s b e T) (bl (put s b e T) jt+1)
          rw [hpreO _ (by omega)] at y1
          have:=isB_iff.1 (bl_blank s (b+1) (bl (put s b e T) jt) (by omega) (by omega))
          omega
    · subst hks
      have hi:inI eO false=1:=rfl
      have hez:eO.size=2:=rfl
      have hn:n.1=b+1:=by omega
      have hbs:bl s (b+1)=e-1:=by
        unfold WfM at w4
        have:=w4.2.2
        omega
      cases hf:f with
      | true=>
        rw [hf] at hAf
        have hAf:A=jt:=hAf
        have hj:=hD.ft hf
        have hgb:=bl_ge s (b+1)
        refine fin (by omega) (by omega) (fun j hj => ?_) (fun j h1 h2=>bl_blank s (b+1) j (by omega) (by omega))
        rcases Nat.lt_or_ge j b with g | g
        · exact hpre0 j g
        · have:j=b:=by omega
          subst this
          have h1:=hmid 0 (by omega)
          rw [Nat.add_zero] at h1
          rw [h1,hI.pre 0 (by omega),w3];rfl
      | false=>
        exfalso
        rw [hf] at hxp
        obtain ⟨y1,y2⟩:bt (put s b e T) (bl (put s b e T) jt:Int)=44∧n.1=bl (put s b e T) (bl (put s b e T) jt+1):=hxp
        have g1:=bl_ge (put s b e T) jt
        have g2:=bl_ge (put s b e T) (bl (put s b e T) jt+1)
        omega
  have hnoO : ∀ n ∈ (ns.map fun n=>(sh b 0 n.1,sh b 0 n.2)),nmS (s.extract b e) n≠k:=fun n hn=>by
    obtain ⟨n0,hn0,rfl⟩:=List.mem_map.1 hn
    rw [hnm n0 hn0];exact hne n0 hn0
  have hmv:mvL b 0 ks=[]↔ks=[]:=by
    have:=mvL_len b 0 ks
    constructor
    · intro h;rw [h] at this;exact List.eq_nil_of_length_eq_zero this.symm
    · intro h;subst h;unfold mvL;rfl
  by_cases hks:ks=[]
  · by_cases hk1:ks1=[]
    · have hT:newT s ks1 b e ks k [] a.data.toList=put s b e (mkB (insL (s.extract b e) false k (mkB (nstL [] a.data.toList)))):=by
        unfold newT;rw [if_neg (fun g=>g hks),if_pos hk1,Ka.put_ins w1 w2 x2]
      rw [eX] at hT
      exact main _ _ false _ _ hT (ins_of (by omega)) hO ⟨fun _=>hmv.2 hks,fun _=>rfl⟩ hnoO (.inl ⟨rfl,⟨fun _=>hks,fun _=>rfl⟩⟩)
    · have hT:newT s ks1 b e ks k [] a.data.toList=put s b e (mkB (insL eO false k (mkB (nstL [] a.data.toList)))):=by
        unfold newT;rw [if_neg (fun g=>g hks),if_neg hk1,Ka.comp_nst,nst_cons]
      rw [eX] at hT
      exact main _ _ false [] [] hT (ins_of (by decide)) eO_wf ⟨fun _=>rfl,fun _=>rfl⟩ (fun n hn=>by cases hn) (.inr ⟨rfl,rfl,hks⟩)
  · have hT:newT s ks1 b e ks k [] a.data.toList=put s b e (mkB (insL (s.extract b e) true k (mkB (nstL [] a.data.toList)))):=by
      unfold newT;rw [if_pos hks,Ka.put_ins w1 w2 x2]
    rw [eX] at hT
    exact main _ _ true _ _ hT (ins_of (by omega)) hO ⟨(fun g=>by cases g),fun g=>absurd (hmv.1 g) hks⟩ hnoO (.inl ⟨rfl,⟨(fun g=>by cases g),fun g=>absurd g hks⟩⟩)
end Go.Proofs.YtlfebfkphgelfaaGreatDoor.Ed
namespace Go.Proofs.YtlfebfkphgelfaaGreatDoor.Nt
open Go Go.Proofs Go.RowKit Rx Tr Pl Pw
open Sr (Sl slV RowIn)
open Lj (Any)
theorem nc_inj {k:Int} {t:ByteArray} {a b a' b':Sl} (h:nc k t a b=nc k t a' b'):a=a'∧b=b':=by
  unfold nc at h
  simp only [List.cons.injEq,Value.slice.injEq,true_and,and_true] at h
  obtain ⟨⟨x1,x2,x3⟩,y1,y2,y3⟩:=h
  exact ⟨Prod.ext x1 (Prod.ext x2 x3),Prod.ext y1 (Prod.ext y2 y3)⟩
theorem NdAt.rows {B:Nat→Prop} {w:World} {n:NT} {a b:Sl} (h:NdAt B w n (nc n.k n.t a b)) : ∃ xs:List Value,RowIn B w a n.keys.length (n.keys.map strV) 1∧RowIn B w b n.kids.length xs 4∧AllN B w n.kids xs:=by
  obtain ⟨a',b',xs,he,h1,h2,h3⟩:=h.inv
  obtain ⟨rfl,rfl⟩:=nc_inj he
  exact ⟨xs,h1,h2,h3⟩
theorem same_any : ∀ (N:Nat) (n:NT) (w:World) (B B':Nat→Prop) (a b a' b':Sl),SizeOf.sizeOf n<N→Sm n→NdAt B w n (nc n.k n.t a b)→NdAt B' w n (nc n.k n.t a' b') →
    Calls Tryz.prog 14 #[.agg (nc n.k n.t a b).toArray,.agg (nc n.k n.t a' b').toArray] w fun e w'=>e = .returned (.bool true)∧Kp Off w w'
  | 0,n,w,B,B',a,b,a',b',h,_,_,_=>absurd h (Nat.not_lt_zero _)
  | N+1,n,w,B,B',a,b,a',b',hN,hsm,hn,hn'=>by
    obtain ⟨m1,m2,m3⟩:=hsm.inv
    obtain ⟨xs,hr1,hr2,hall⟩:=hn.rows
    obtain ⟨xs',hr1',hr2',hall'⟩:=hn'.rows
    refine spec_Same.calls _ _ _ _ _ _ _ _ _ _ _ _ _ _ _ _ ?_
    unfold spec_Same.t
    refine s_alloc ?_
    have b0:=Blk.new w (nc n.k n.t a b) tN
    have k0:Kp Off w (w.alloc (.cells (nc n.k n.t a b).toArray tN (0,0))):=(Kp.refl Off w).alloc _
    have z0:(w.alloc (.cells (nc n.k n.t a b).toArray tN (0,0))).heap.size=w.heap.size+1:=by simp
    show sat _ _ _ (w.alloc (.cells (nc n.k n.t a b).toArray tN (0,0)))
    generalize w.alloc (.cells (nc n.k n.t a b).toArray tN (0,0))=w1 at k0 b0 z0
    refine s_alloc ?_
    have b1:=Blk.new w1 (nc n.k n.t a' b') tN
    have k1:Kp Off w1 (w1.alloc (.cells (nc n.k n.t a' b').toArray tN (0,0))):=(Kp.refl Off w1).alloc _
    rw [z0] at b1 ⊢
    show sat _ _ _ (w1.alloc (.cells (nc n.k n.t a' b').toArray tN (0,0)))
    generalize w1.alloc (.cells (nc n.k n.t a' b').toArray tN (0,0))=w2 at k1 b1
    have b0:=k1.blk b0 id
    have k0:=k0.trans k1
    have hl1:=hr1.1
    have hl2:=hr2.1
    have hl1':=hr1'.1
    have hl2':=hr2'.1
    clear k1 z0
    refine s_cut (fun z w'=>z.1=false∧w2=w') ?_ ?_
    · refine s_load (n.k:Int) (by rw [addr_add,Nat.zero_add,b0.cell];rfl) (s_load (n.k:Int) (by rw [addr_add,Nat.zero_add,b1.cell];rfl) (s_iteN (fun g=>absurd rfl g) fun _ => ?_))
      refine s_load n.t (by rw [addr_add,Nat.zero_add,b0.cell];rfl) (s_load n.t (by rw [addr_add,Nat.zero_add,b1.cell];rfl) ?_)
      rw [strEq_iff.2 rfl]
      refine sat_iteF.2 (s_load a (by rw [addr_add,Nat.zero_add,b0.cell];rfl) (s_load a' (by rw [addr_add,Nat.zero_add,b1.cell];rfl) (s_iteN (fun g=>absurd (by rw [hl1,hl1']) g) fun _ => ?_)))
      refine s_load b (by rw [addr_add,Nat.zero_add,b0.cell];rfl) (s_load b' (by rw [addr_add,Nat.zero_add,b1.cell];rfl) (s_leaf ?_))
      rw [if_pos rfl]
      refine ⟨(false,()),?_,rfl,rfl⟩
      rw [hl2,hl2']
      have:(((n.kids.length:Nat):Int) != ((n.kids.length:Nat):Int))=false:=by simp
      rw [this];rfl
    rintro ⟨bb,u⟩ w' ⟨hbb,rfl⟩
    have hbb:bb=false:=hbb
    subst hbb
    show sat _ (spec_Same.t1 ⟨w.heap.size,0,none⟩ ⟨w.heap.size+1,0,none⟩ false) _ _
    unfold spec_Same.t1
    refine sat_iteF.2 (s_loop (fun m z w' => ∃ i:Nat,m=n.keys.length-i∧z=((i:Int),())∧i≤n.keys.length∧Blk w' w.heap.size (nc n.k n.t a b) tN∧Blk w' (w.heap.size+1) (nc n.k n.t a' b') tN∧Kp Off w w') n.keys.length ((0:Int),()) rfl ⟨0,rfl,rfl,Nat.zero_le _,b0,b1,k0⟩ ?_)
    clear b0 b1 k0
    rintro m z w3 ⟨i,rfl,rfl,hi,b0,b1,k3⟩
    show sat _ (spec_Same.t2 ⟨w.heap.size,0,none⟩ ⟨w.heap.size+1,0,none⟩ (i:Int)) _ _
    unfold spec_Same.t2
    refine s_load a (by rw [addr_add,Nat.zero_add,b0.cell];rfl) (s_iteD (fun hlt=>s_drew ?_) (fun hge => ?_))
    · have hin:i<n.keys.length:=by omega
      have kd:Kp Off w3 w3.drew:=(Kp.refl Off w3).drew
      have b0:=kd.blk b0 id
      have b1:=kd.blk b1 id
      have k3:=k3.trans kd
      generalize w3.drew=w4 at kd b0 b1 k3
      have hk:(n.keys.map strV)[i]?=some (strV n.keys[i]):=by rw [List.getElem?_map,List.getElem?_eq_getElem hin];rfl
      obtain ⟨l1,l2,l3⟩:=Lj.RowIn.any hr1 k3
      rcases l3 with l3 | ⟨g,a1,_,_,a4⟩
      · omega
      obtain ⟨l1',l2',l3'⟩:=Lj.RowIn.any hr1' k3
      rcases l3' with l3' | ⟨g',a1',_,_,a4'⟩
      · omega
      refine s_load a (by rw [addr_add,Nat.zero_add,b0.cell];rfl) (s_chk ⟨by omega,by omega⟩ ⟨_,a1,?_⟩)
      refine s_load n.keys[i] (by rw [addr_add,Int.toNat_natCast,Nat.zero_add,Nat.mul_one];exact a4 _ _ hk) ?_
      refine s_load a' (by rw [addr_add,Nat.zero_add,b1.cell];rfl) (s_chk ⟨by omega,by omega⟩ ⟨_,a1',?_⟩)
      refine s_load n.keys[i] (by rw [addr_add,Int.toNat_natCast,Nat.zero_add,Nat.mul_one];exact a4' _ _ hk) ?_
      rw [strEq_iff.2 rfl]
      refine sat_iteF.2 (s_leaf ?_)
      rw [if_pos rfl]
      have w1':IntKind.wrap IntKind.i64 ((i:Int)+1)=((i+1:Nat):Int):=by rw [wrap_in (by omega) (by omega)];omega
      rw [w1']
      exact ⟨n.keys.length-(i+1),(((i+1:Nat):Int),()),rfl,by omega,i+1,rfl,rfl,hin,b0,b1,k3⟩
    · refine s_loop (fun m z w' => ∃ i:Nat,m=n.kids.length-i∧z=((i:Int),())∧i≤n.kids.length∧Blk w' w.heap.size (nc n.k n.t a b) tN∧Blk w' (w.heap.size+1) (nc n.k n.t a' b') tN∧Kp Off w w') n.kids.length ((0:Int),()) rfl ⟨0,rfl,rfl,Nat.zero_le _,b0,b1,k3⟩ ?_
      clear b0 b1 k3 hge
      rintro m z w3 ⟨j,rfl,rfl,hj,b0,b1,k3⟩
      show sat _ (spec_Same.t3 ⟨w.heap.size,0,none⟩ ⟨w.heap.size+1,0,none⟩ (j:Int)) _ _
      unfold spec_Same.t3
      refine s_load b (by rw [addr_add,Nat.zero_add,b0.cell];rfl) (s_iteD (fun hlt=>s_drew ?_) (fun hge=>s_leaf ?_))
      · have hin:j<n.kids.length:=by omega
        have hc:n.kids[j]?=some n.kids[j]:=List.getElem?_eq_getElem hin
        generalize n.kids[j]=c at hc
        have kd:Kp Off w3 w3.drew:=(Kp.refl Off w3).drew
        have b0:=kd.blk b0 id
        have b1:=kd.blk b1 id
        have k3:=k3.trans kd
        generalize w3.drew=w4 at kd b0 b1 k3
        obtain ⟨l1,l2,l3⟩:=Lj.RowIn.any hr2 k3
        rcases l3 with l3 | ⟨g,a1,_,_,a4⟩
        · omega
        obtain ⟨l1',l2',l3'⟩:=Lj.RowIn.any hr2' k3
        rcases l3' with l3' | ⟨g',a1',_,_,a4'⟩
        · omega
        obtain ⟨cs,hcn,hcs⟩:=all_getN n.kids xs j c hall hc
        obtain ⟨cs',hcn',hcs'⟩:=all_getN n.kids xs' j c hall' hc
        have hcn0:=hcn
        have hcn0':=hcn'
        obtain ⟨ac,bc,_,rfl,_⟩:=hcn0.inv
        obtain ⟨ac',bc',_,rfl,_⟩:=hcn0'.inv
        refine s_load b (by rw [addr_add,Nat.zero_add,b0.cell];rfl) (s_chk ⟨by omega,by omega⟩ ⟨_,a1,?_⟩)
        refine s_effS ((c.k:Int),c.t,ac,bc,()) (by
          rw [addr_add,Int.toNat_natCast]
          refine node_run fun q hq => ?_
          have h1:=hcs q hq
          obtain ⟨y,hy⟩ : ∃ y,(nc c.k c.t ac bc)[q]?=some y:=⟨_,List.getElem?_eq_getElem (show q<4 from hq)⟩
          rw [hy] at h1 ⊢
          rw [Nat.zero_add]
          exact a4 _ _ h1) ?_
        refine s_load b' (by rw [addr_add,Nat.zero_add,b1.cell];rfl) (s_chk ⟨by omega,by omega⟩ ⟨_,a1',?_⟩)
        refine s_effS ((c.k:Int),c.t,ac',bc',()) (by
          rw [addr_add,Int.toNat_natCast]
          refine node_run fun q hq => ?_
          have h1:=hcs' q hq
          obtain ⟨y,hy⟩ : ∃ y,(nc c.k c.t ac' bc')[q]?=some y:=⟨_,List.getElem?_eq_getElem (show q<4 from hq)⟩
          rw [hy] at h1 ⊢
          rw [Nat.zero_add]
          exact a4' _ _ h1) ?_
        have hcn4:NdAt Any w4 c (nc c.k c.t ac bc):=hcn.kp k3 fun q _ _=>⟨trivial,id⟩
        have hcn4':NdAt Any w4 c (nc c.k c.t ac' bc'):=hcn'.kp k3 fun q _ _=>⟨trivial,id⟩
        have:=size_kid hc
        refine s_call (same_any N c w4 Any Any ac bc ac' bc' (by omega) (m3.get hc) hcn4 hcn4') ?_
        rintro e w5 ⟨rfl,k5⟩
        refine ⟨true,rfl,sat_iteF.2 (s_leaf ?_)⟩
        rw [if_pos rfl]
        have w1':IntKind.wrap IntKind.i64 ((j:Int)+1)=((j+1:Nat):Int):=by rw [wrap_in (by omega) (by omega)];omega
        rw [w1']
        exact ⟨n.kids.length-(j+1),(((j+1:Nat):Int),()),rfl,by omega,j+1,rfl,rfl,hin,k5.blk b0 id,k5.blk b1 id,k3.trans k5⟩
      · rw [if_neg (by decide)];exact ⟨rfl,rfl,k3⟩
end Go.Proofs.YtlfebfkphgelfaaGreatDoor.Nt
namespace Go.Proofs.YtlfebfkphgelfaaGreatDoor.Ed
open Go Go.Proofs Go.RowKit Rx Tr Pl Pw Sk
open Ka (nmS ixS Led)
open Sr (Blank_any)
variable {s:ByteArray}
inductive Tg (s:ByteArray):Nat→Bool→Prop
  | fin {i:Nat} {b:Bool}:s.size≤i→Tg s i b
  | go {i:Nat} {b:Bool}:(b=true→bt s (i:Int)=92→Tg s (i+2) true)→(bt s (i:Int)=34→Tg s (i+1) (!b))→(b=true→bt s (i:Int)≠92→bt s (i:Int)≠34→Tg s (i+1) true) →
      (b=false→bt s (i:Int)≠34→isB (bt s (i:Int))=false)→(b=false→bt s (i:Int)≠34→Tg s (i+1) false)→Tg s i b
theorem Tg.out {i:Nat} (h:Tg s i false) (h0:bt s (i:Int)≠0) (h34:bt s (i:Int)≠34):isB (bt s (i:Int))=false∧Tg s (i+1) false:=by
  have hlt:=lt_of_bt h0
  cases h with
  | fin g=>omega
  | go h1 h2 h3 h4 h5=>exact ⟨h4 rfl h34,h5 rfl h34⟩
theorem Tg.mark {i:Nat} {b:Bool} (h:Tg s i b) (h34:bt s (i:Int)=34):Tg s (i+1) (!b):=by
  have hlt:i<s.size:=lt_of_bt (by omega)
  cases h with
  | fin g=>omega
  | go h1 h2 h3 h4 h5=>exact h2 h34
theorem Tg.esc {i:Nat} (h:Tg s i true) (h92:bt s (i:Int)=92):Tg s (i+2) true:=by
  have hlt:i<s.size:=lt_of_bt (by omega)
  cases h with
  | fin g=>omega
  | go h1 h2 h3 h4 h5=>exact h1 rfl h92
theorem Tg.ins {i:Nat} (h:Tg s i true) (hlt:i<s.size) (h92:bt s (i:Int)≠92) (h34:bt s (i:Int)≠34):Tg s (i+1) true:=by
  cases h with
  | fin g=>omega
  | go h1 h2 h3 h4 h5=>exact h3 rfl h92 h34
theorem Tg.nb {i:Nat} (h:Tg s i false):bl s i=i:=by
  refine bl_no ?_
  by_cases h0:bt s (i:Int)=0
  · rw [h0];rfl
  by_cases h34:bt s (i:Int)=34
  · rw [h34];rfl
  exact (h.out h0 h34).1
theorem Tg.lits : ∀ {n a b:Nat},b-a=n→a≤b→allL s a b→Tg s a false→Tg s b false
  | 0,a,b,hn,hab,_,h=>by
    have:a=b:=by omega
    subst this;exact h
  | n+1,a,b,hn,hab,hb,h=>by
    have h0:=isL_iff.1 (hb a (Nat.le_refl a) (by omega))
    exact Tg.lits (n:=n) (by omega) (by omega) (fun j g1 g2=>hb j (by omega) g2) (h.out (by omega) (by omega)).2
theorem Tg.str : ∀ (n i e:Nat),s.size-i≤n→strE s i=some e→Tg s i true→Tg s e false
  | 0,i,e,hn,h,_=>by rw [strE_end (by omega)] at h;cases h
  | n+1,i,e,hn,h,ht=>by
    have hlt:i<s.size:=by
      rcases Nat.lt_or_ge i s.size with g | g
      · exact g
      · rw [strE_end g] at h;cases h
    by_cases h34:bt s (i:Int)=34
    · rw [strE_q h34] at h
      cases h
      exact ht.mark h34
    by_cases h32:bt s (i:Int)<32
    · rw [strE_ctl h32] at h;cases h
    by_cases h92:bt s (i:Int)=92
    · rw [strE_esc h92] at h
      have ht:=ht.esc h92
      cases he:escE s (i+1) with
      | none=>rw [he] at h;cases h
      | some j=>
        rw [he] at h
        have h:strE s j=some e:=h
        unfold escE at he
        split at he
        · cases he
          exact Tg.str n (i+2) e (by omega) h ht
        · split at he
          · obtain ⟨rfl,hh⟩:=hexE_ok he
            have step : ∀ m,m≤4→Tg s (i+2+m) true:=by
              intro m
              induction m with
              | zero=>exact fun _=>ht
              | succ m ih=>
                intro hm
                have h1:=isH_iff.1 (hh m (by omega))
                have e1:i+1+1+m=i+2+m:=by omega
                rw [e1] at h1
                exact (ih (by omega)).ins (lt_of_bt (by omega)) (by omega) (by omega)
            exact Tg.str n (i+1+1+4) e (by omega) h (step 4 (Nat.le_refl _))
          · cases he
    · rw [strE_plain hlt h34 h32 h92] at h
      exact Tg.str n (i+1) e (by omega) h (ht.ins hlt h92 h34)
theorem Tg.quo {i e:Nat} (h34:bt s (i:Int)=34) (hs:strE s (i+1)=some e) (h:Tg s i false):Tg s e false:=
  Tg.str _ (i+1) e (Nat.le_refl _) hs (h.mark h34)
mutual
theorem tg_val : ∀ (p:PT),WfV s p→Tg s p.b false→Tg s p.e false
  | .mk k b e ns ks,h,ht=>by
    unfold WfV at h
    have hz:Tg s b false:=ht
    show Tg s e false
    obtain ⟨hlt,hle,⟨rfl,rfl,hL,h⟩ | ⟨rfl,rfl,rfl,h1,h2⟩ | ⟨rfl,rfl,h1,h2⟩ | ⟨rfl,h1,h2⟩⟩:=h
    · exact Tg.lits rfl (Nat.le_of_lt hlt) hL hz
    · exact Tg.quo h1 h2 hz
    · exact tg_E true ks (b+1) e h2 (hz.out (by rw [h1];decide) (by rw [h1];decide)).2
    · exact tg_M true ks (b+1) e ns h2 (hz.out (by rw [h1];decide) (by rw [h1];decide)).2
theorem tg_E : ∀ (first:Bool) (ks:List PT) (j e:Nat),WfE s first j ks e→Tg s j false→Tg s e false
  | first,[],j,e,h,ht=>by
    unfold WfE at h
    obtain ⟨h1,rfl⟩:=h
    rw [ht.nb] at h1 ⊢
    exact (ht.out (by omega) (by omega)).2
  | first,p :: ks,j,e,h,ht=>by
    unfold WfE at h
    obtain ⟨h1,h2,h3⟩:=h
    rw [ht.nb] at h1
    refine tg_E false ks p.e e h3 (tg_val p h2 ?_)
    cases first with
    | true=>
      simp only [if_true] at h1
      rw [h1];exact ht
    | false=>
      simp only [Bool.false_eq_true,if_false] at h1
      have h4:=(ht.out (by omega) (by omega)).2
      rw [h1.2,h4.nb];exact h4
theorem tg_M : ∀ (first:Bool) (ks:List PT) (j e:Nat) (ns:List (Nat×Nat)),WfM s first j ns ks e→Tg s j false→Tg s e false
  | first,[],j,e,ns,h,ht=>by
    unfold WfM at h
    obtain ⟨_,h1,rfl⟩:=h
    rw [ht.nb] at h1 ⊢
    exact (ht.out (by omega) (by omega)).2
  | first,p :: ks,j,e,ns,h,ht=>by
    unfold WfM at h
    obtain ⟨n,ns',rfl,h1,hq,hs,hc,hb,h2,h3⟩:=h
    rw [ht.nb] at h1
    have hn:Tg s n.1 false:=by
      cases first with
      | true=>
        simp only [if_true] at h1
        rw [h1];exact ht
      | false=>
        simp only [Bool.false_eq_true,if_false] at h1
        have h4:=(ht.out (by omega) (by omega)).2
        rw [h1.2,h4.nb];exact h4
    have h5:=Tg.quo hq hs hn
    rw [h5.nb] at hc hb
    have h6:=(h5.out (by omega) (by omega)).2
    rw [h6.nb] at hb
    exact tg_M false ks p.e e ns' h3 (tg_val p h2 (by rw [hb];exact h6))
end
theorem tg_mem : ∀ (ks:List PT) (ns:List (Nat×Nat)) (first:Bool) (j e t:Nat) (n:Nat×Nat) (p:PT),WfM s first j ns ks e→Tg s j false→ns[t]?=some n→ks[t]?=some p→Tg s p.b false
  | [],ns,first,j,e,t,n,p,h,ht,h1,h2=>by simp at h2
  | p0 :: ks,ns,first,j,e,t,n,p,h,ht,h1,h2=>by
    unfold WfM at h
    obtain ⟨n0,ns',rfl,h0,hq,hs,hc,hb,hv,hM⟩:=h
    rw [ht.nb] at h0
    have hn:Tg s n0.1 false:=by
      cases first with
      | true=>
        simp only [if_true] at h0
        rw [h0];exact ht
      | false=>
        simp only [Bool.false_eq_true,if_false] at h0
        have h4:=(ht.out (by omega) (by omega)).2
        rw [h0.2,h4.nb];exact h4
    have h5:=Tg.quo hq hs hn
    rw [h5.nb] at hc hb
    have h6:=(h5.out (by omega) (by omega)).2
    rw [h6.nb] at hb
    have h7:Tg s p0.b false:=by rw [hb];exact h6
    cases t with
    | zero=>
      simp only [List.getElem?_cons_zero,Option.some.injEq] at h2
      subst h2
      exact h7
    | succ t=>
      simp only [List.getElem?_cons_succ] at h1 h2
      exact tg_mem ks ns' false p0.e e t n p hM (tg_val p0 hv h7) h1 h2
theorem tg_elt : ∀ (ks:List PT) (first:Bool) (j e t:Nat) (p:PT),WfE s first j ks e→Tg s j false→ks[t]?=some p→Tg s p.b false
  | [],first,j,e,t,p,h,ht,h2=>by simp at h2
  | p0 :: ks,first,j,e,t,p,h,ht,h2=>by
    unfold WfE at h
    obtain ⟨h0,hv,hE⟩:=h
    rw [ht.nb] at h0
    have h7:Tg s p0.b false:=by
      cases first with
      | true=>
        simp only [if_true] at h0
        rw [h0];exact ht
      | false=>
        simp only [Bool.false_eq_true,if_false] at h0
        have h4:=(ht.out (by omega) (by omega)).2
        rw [h0.2,h4.nb];exact h4
    cases t with
    | zero=>
      simp only [List.getElem?_cons_zero,Option.some.injEq] at h2
      subst h2
      exact h7
    | succ t=>
      simp only [List.getElem?_cons_succ] at h2
      exact tg_elt ks false p0.e e t p hE (tg_val p0 hv h7) h2
theorem tg_lead {nm:Nat×Nat→ByteArray} {ix:ByteArray→Option Nat} {p q:PT} {keys:List ByteArray} (h:Gk.Lead nm ix p keys q):WfV s p→Tg s p.b false→Tg s q.b false:=by
  induction h with
  | nil=>exact fun _ h=>h
  | @mem b e ns ks j n p q key rest a1 a2 _ _ _ ih=>
    intro hw ht
    obtain ⟨_,_,h3,h4⟩:=Gk.wf_obj hw
    have ht:Tg s b false:=ht
    have h5:=(ht.out (by omega) (by omega)).2
    exact ih (Gk.mem_at ks ns true (b+1) e j n p h4 a1 a2).2.2.2.2.1 (tg_mem ks ns true (b+1) e j n p h4 h5 a1 a2)
  | @elt b e ns ks j p q key rest _ a2 _ ih=>
    intro hw ht
    obtain ⟨_,_,h3,h4⟩:=Gk.wf_arr hw
    have ht:Tg s b false:=ht
    have h5:=(ht.out (by omega) (by omega)).2
    exact ih (Gk.elt_at ks true (b+1) e j p h4 a2).1 (tg_elt ks true (b+1) e j p h4 h5 a2)
theorem last_nb {p:PT} (h:WfV s p):isB (bt s ((p.e-1:Nat):Int))=false:=by
  obtain ⟨k,b,e,ns,ks⟩:=p
  show isB (bt s ((e-1:Nat):Int))=false
  have no : ∀ c:Int,¬ (c=32∨c=9∨c=10∨c=13)→isB c=false:=fun c hc=>by
    cases hh:isB c with
    | false=>rfl
    | true=>have:=isB_iff.1 hh;omega
  have h0:=h
  unfold WfV at h
  obtain ⟨hlt,hle,⟨rfl,rfl,hL,h⟩ | ⟨rfl,rfl,rfl,h1,h2⟩ | ⟨rfl,rfl,h1,h2⟩ | ⟨rfl,h1,h2⟩⟩:=h
  · have h1:=isL_iff.1 (hL (e-1) (by omega) (by omega))
    exact no _ (by omega)
  · obtain ⟨k,he,hq⟩:=strE_QE h2
    have h3:=hq.mark
    have e1:e-1=b+1+k:=by omega
    rw [e1]
    exact no _ (by omega)
  · obtain ⟨x1,x2⟩:=Ed.wfE_end ks true (b+1) e h2
    exact no _ (by omega)
  · obtain ⟨x1,x2⟩:=Gk.wfM_end ks ns true (b+1) e h2
    exact no _ (by omega)
theorem tg_end : ∀ (ks:List PT) (ns:List (Nat×Nat)) (first:Bool) (j e:Nat),WfM s first j ns ks e→Tg s j false→1≤j→isB (bt s ((j-1:Nat):Int))=false→isB (bt s ((e-2:Nat):Int))=false
  | [],ns,first,j,e,h,ht,hj,hb=>by
    unfold WfM at h
    obtain ⟨_,h1,rfl⟩:=h
    rw [ht.nb]
    exact hb
  | p0 :: ks,ns,first,j,e,h,ht,hj,hb=>by
    have h':=h
    unfold WfM at h
    obtain ⟨n0,ns',rfl,h0,hq,hs,hc,hb0,hv,hM⟩:=h
    have h7:=tg_mem (p0 :: ks) (n0 :: ns') first j e 0 n0 p0 h' ht rfl rfl
    have hl:=hv.lt
    exact tg_end ks ns' false p0.e e hM (tg_val p0 hv h7) (by omega) (last_nb hv)
theorem tg_gap {s':ByteArray} {p0:PT} {ks1:List ByteArray} {b e A D:Nat} {ns:List (Nat×Nat)} {ks:List PT} (hL:Led s p0 ks1 (.mk 6 b e ns ks)) (ht:Tg s 0 false) (hg:Gap s s' A (e-1) D):A=e-1:=by
  have h0:p0.b=0:=by rw [← hL.at0,ht.nb]
  have h1:Tg s b false:=tg_lead hL.lead hL.wf (by rw [h0];exact ht)
  obtain ⟨w1,w2,w3,w4⟩:=Gk.wf_obj hL.wfp
  have h2:=(h1.out (by omega) (by omega)).2
  have h3:=tg_end ks ns true (b+1) e w4 h2 (by omega) (by rw [Nat.add_sub_cancel,w3];rfl)
  have hle:=hg.le
  have hw:=Gk.wfM_bl _ _ _ _ _ w4
  rcases Nat.lt_or_ge A (e-1) with g | g
  · have h4:=hg.bs (e-2) (by omega) (by omega)
    rw [h3] at h4;cases h4
  · omega
theorem tight_any {w:World} (hs:s.size≤140737488351232):Calls Tryz.prog 15 #[.string s] w fun e w'=>(∃ r:Bool,e = .returned (.bool r)∧(r=true→Tg s 0 false))∧w'=w:=by
  refine spec_Tight.calls _ ?_
  unfold spec_Tight.t
  refine s_loop (fun n z w' => ∃ (i:Nat) (b:Bool),n=s.size+2-i∧z=((i:Int),b,())∧i≤s.size+1∧(Tg s i b→Tg s 0 false)∧w=w') (s.size+2) ((0:Int),false,()) rfl ⟨0,false,rfl,rfl,by omega,id,rfl⟩ ?_
  rintro n z w1 ⟨i,b,rfl,rfl,hi,ht,rfl⟩
  show sat _ (spec_Tight.t1 s (i:Int) b) _ _
  unfold spec_Tight.t1
  have w1':i<s.size→IntKind.wrap IntKind.i64 ((i:Int)+1)=((i+1:Nat):Int):=fun _=>by rw [wrap_in (by omega) (by omega)];omega
  have w2':i<s.size→IntKind.wrap IntKind.i64 (((i+1:Nat):Int)+1)=((i+2:Nat):Int):=fun _=>by rw [wrap_in (by omega) (by omega)];omega
  refine s_iteD (fun hlt=>s_chk ⟨by omega,hlt⟩ ?_) (fun hge=>s_leaf ?_)
  · have hlt:i<s.size:=by omega
    refine s_cut (fun z w'=>z.1=(b&&(bt s (i:Int)==92))∧w=w') ?_ ?_
    · cases b with
      | true=>exact sat_iteT.2 (s_leaf (by rw [if_pos rfl];exact ⟨(_,()),rfl,rfl,rfl⟩))
      | false=>exact sat_iteF.2 (s_leaf (by rw [if_pos rfl];exact ⟨(_,()),rfl,rfl,rfl⟩))
    rintro ⟨bb,u⟩ w' ⟨hbb,rfl⟩
    have hbb:bb=(b&&(bt s (i:Int)==92)):=hbb
    show sat _ (spec_Tight.t2 s (i:Int) b bb) _ _
    unfold spec_Tight.t2
    rw [w1' hlt,w2' hlt]
    refine s_ite (fun g=>s_leaf ?_) (fun g=>s_iteE (fun h34=>s_leaf ?_) (fun h34 => ?_))
    · rw [if_pos rfl]
      rw [hbb] at g
      obtain ⟨g1,g2⟩:=Bool.and_eq_true_iff.1 g
      have g2:bt s (i:Int)=92:=by simpa using g2
      subst g1
      exact ⟨s.size+2-(i+2),(((i+2:Nat):Int),true,()),rfl,by omega,i+2,true,rfl,rfl,by omega,fun h=>ht (.go (fun _ _=>h) (fun g=>by omega) (fun _ g=>absurd g2 g) (fun g=>by cases g) (fun g=>by cases g)),rfl⟩
    · rw [if_pos rfl]
      exact ⟨s.size+2-(i+1),(((i+1:Nat):Int),(!b),()),rfl,by omega,i+1,!b,rfl,rfl,by omega,fun h=>ht (.go (fun _ g=>by omega) (fun _=>h) (fun _ _ g=>absurd h34 g) (fun _ g=>absurd h34 g) (fun _ g=>absurd h34 g)),rfl⟩
    · cases b with
      | false=>
        refine sat_iteT.2 (s_call (Blank_any (bt s (i:Int)) _) ?_)
        rintro e w2 ⟨rfl,rfl⟩
        refine ⟨isB (bt s (i:Int)),rfl,s_ite (fun g=>s_leaf ?_) (fun g=>s_leaf ?_)⟩
        · rw [if_neg (by decide)];exact ⟨rfl,⟨false,rfl,fun h=>by cases h⟩,rfl⟩
        · rw [if_pos rfl]
          exact ⟨s.size+2-(i+1),(((i+1:Nat):Int),false,()),rfl,by omega,i+1,false,rfl,rfl,by omega,fun h=>ht (.go (fun g=>by cases g) (fun g=>absurd g h34) (fun g=>by cases g) (fun _ _=>g) (fun _ _=>h)),rfl⟩
      | true=>
        have h92:bt s (i:Int)≠92:=fun h=>by rw [hbb,h] at g;cases g
        refine sat_iteF.2 (s_leaf ?_)
        rw [if_pos rfl]
        exact ⟨s.size+2-(i+1),(((i+1:Nat):Int),true,()),rfl,by omega,i+1,true,rfl,rfl,by omega,fun h=>ht (.go (fun _ g=>absurd g h92) (fun g=>absurd g h34) (fun _ _ _=>h) (fun g=>by cases g) (fun g=>by cases g)),rfl⟩
  · rw [if_neg (by decide)]
    exact ⟨rfl,⟨true,rfl,fun _=>ht (.fin (by omega))⟩,rfl⟩
end Go.Proofs.YtlfebfkphgelfaaGreatDoor.Ed
namespace Go.Proofs.YtlfebfkphgelfaaGreatDoor.Lj
open Go Go.Proofs Go.RowKit Rx Tr Pl Pw
open Ka (Kx s_key)
variable {w w':World}
theorem fits1s_any {q:Ka.Sl} {keys:List ByteArray} (hK:Kx w q keys) :
    Calls Tryz.prog 6 #[Ka.slV q] w fun e w'=>(∃ b:Bool,e = .returned (.bool b)∧(b=true→keys.length≤2147483647 ∧ ∀ key ∈ keys,key.size≤2147483647))∧w'=w:=by
  refine laws_zzFits1.calls _ _ _ ?_
  unfold laws_zzFits1.t
  have hql:=hK.len
  refine s_iteD (fun _=>s_leaf ⟨rfl,⟨false,rfl,fun g=>by cases g⟩,rfl⟩) (fun hq => ?_)
  refine s_loop (fun m z w' => ∃ i:Nat,m=keys.length-i∧z=((i:Int),())∧i≤keys.length∧(∀ j key,j<i→keys[j]?=some key→key.size≤2147483647)∧w=w') keys.length ((0:Int),()) rfl ⟨0,rfl,rfl,Nat.zero_le _,fun _ _ h=>absurd h (Nat.not_lt_zero _),rfl⟩ ?_
  rintro m z w1 ⟨i,rfl,rfl,hi,hj,rfl⟩
  show sat _ (laws_zzFits1.t1 q.1 q.2.1 (i:Int)) _ _
  unfold laws_zzFits1.t1
  refine s_iteD (fun hlt => ?_) (fun hge=>s_leaf ?_)
  · have hin:i<keys.length:=by omega
    have hkey:keys[i]?=some keys[i]:=List.getElem?_eq_getElem hin
    refine s_key hK hkey (s_iteD (fun _=>s_leaf ?_) (fun hsz=>s_leaf ?_))
    · rw [if_neg (by decide)];exact ⟨rfl,⟨false,rfl,fun g=>by cases g⟩,rfl⟩
    · rw [if_pos rfl]
      have w1':IntKind.wrap IntKind.i64 ((i:Int)+1)=((i+1:Nat):Int):=by rw [wrap_in (by omega) (by omega)];omega
      rw [w1']
      refine ⟨keys.length-(i+1),(((i+1:Nat):Int),()),rfl,by omega,i+1,rfl,rfl,hin,fun j key hji hjk => ?_,rfl⟩
      rcases Nat.lt_or_ge j i with g | g
      · exact hj j key g hjk
      · have:j=i:=by omega
        subst this
        rw [hkey] at hjk
        cases hjk
        omega
  · rw [if_neg (by decide)]
    refine ⟨rfl,⟨true,rfl,fun _=>⟨by omega,fun key hk => ?_⟩⟩,rfl⟩
    obtain ⟨j,hj1,rfl⟩:=List.mem_iff_getElem.1 hk
    exact hj j _ (by omega) (List.getElem?_eq_getElem hj1)
end Go.Proofs.YtlfebfkphgelfaaGreatDoor.Lj
