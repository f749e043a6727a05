import Derived.Test.YtlfebfkphgelfaaGreatDoorMI
import Derived.Test.YtlfebfkphgelfaaGreatDoorWE
import Derived.Test.YtlfebfkphgelfaaGreatDoorWA
import Derived.Test.YtlfebfkphgelfaaGreatDoorWC
import Derived.Test.YtlfebfkphgelfaaGreatDoorWB
import Derived.Test.YtlfebfkphgelfaaGreatDoorTh
namespace Go.Proofs.YtlfebfkphgelfaaGreatDoor.Sr
open Go Rx Pl Pw Sk
variable {s:ByteArray}
theorem first_nb {p:PT} (h:WfV s p):bt s (p.b:Int)≠93∧bt s (p.b:Int)≠125∧bt s (p.b:Int)≠44:=by
  obtain ⟨k,b,e',ns,ks⟩:=p
  have hlt:=h.lt
  have hlt1:b<e':=hlt.1
  show bt s (b:Int)≠93∧bt s (b:Int)≠125∧bt s (b:Int)≠44
  unfold WfV at h
  obtain ⟨_,_,⟨rfl,rfl,hL,h⟩ | ⟨rfl,rfl,rfl,h1,h2⟩ | ⟨rfl,rfl,h1,h2⟩ | ⟨rfl,h1,h2⟩⟩:=h
  · have h0:=isL_iff.1 (hL b (Nat.le_refl _) hlt1)
    omega
  · omega
  · omega
  · omega
theorem num_not {c:Int} (h:c=110∨c=102∨c=116):numOk c=false:=by rcases h with rfl | rfl | rfl <;> decide
theorem lit_val {k b e:Nat} (h:Pw.Lit s k b e) (hlt:b<e):val s b=some (.mk k b e [] []):=by
  obtain ⟨hL,hk⟩:=h
  have h0:=isL_iff.1 (hL b (Nat.le_refl _) hlt)
  have n1:bt s b≠123:=by omega
  have n2:bt s b≠91:=by omega
  have n3:bt s b≠34:=by omega
  rcases hk with ⟨rfl,h1,h2⟩ | ⟨rfl,h1,h2⟩ | ⟨rfl,h1,h2⟩ | ⟨rfl,h1,h2⟩
  · rw [val_num h1,h2];rfl
  · have c:bt s (b:Int)=110:=wordB_at h1 0 (by decide)
    rw [val_word n1 n2 n3 (num_not (.inl c)),if_pos h1,h2]
  · have c:bt s (b:Int)=102:=wordB_at h1 0 (by decide)
    have x1:wordB s b nullW=false:=by
      cases h:wordB s b nullW with
      | false=>rfl
      | true=>have:bt s (b:Int)=110:=wordB_at h 0 (by decide);omega
    rw [val_word n1 n2 n3 (num_not (.inr (.inl c))),x1,if_neg (by decide),if_pos h1,h2]
  · have c:bt s (b:Int)=116:=wordB_at h1 0 (by decide)
    have x1:wordB s b nullW=false:=by
      cases h:wordB s b nullW with
      | false=>rfl
      | true=>have:bt s (b:Int)=110:=wordB_at h 0 (by decide);omega
    have x2:wordB s b falseW=false:=by
      cases h:wordB s b falseW with
      | false=>rfl
      | true=>have:bt s (b:Int)=102:=wordB_at h 0 (by decide);omega
    rw [val_word n1 n2 n3 (num_not (.inr (.inr c))),x1,if_neg (by decide),x2,if_neg (by decide),if_pos h1,h2]
def ElOk (s:ByteArray) (e:Nat):List PT→Prop
  | []=>True
  | p :: ks=>elems s p.b=some (p :: ks,e)
def MeOk (s:ByteArray) (ns:List (Nat×Nat)) (e:Nat):List PT→Prop
  | []=>True
  | p :: ks => ∃ n ns',ns=n :: ns'∧mems s n.1=some (n :: ns',p :: ks,e)
mutual
theorem of_wf : ∀ p:PT,WfV s p→val s p.b=some p
  | .mk k b e ns ks,h=>by
    have hlt:=h.lt
    have hlt1:b<e:=hlt.1
    show val s b=some (.mk k b e ns ks)
    unfold WfV at h
    obtain ⟨_,hes,⟨h3,h4,h5⟩ | ⟨h3,h4,h6,h1,h2⟩ | ⟨h3,h4,h1,h2⟩ | ⟨h3,h1,h2⟩⟩:=h
    · rw [h3,h4];exact lit_val h5 hlt1
    · rw [h3,h4,h6,val_str h1,h2];rfl
    · have hE:=of_wfE ks true (b+1) e h2
      rw [h3,h4,val_arr h1,elems0]
      cases ks with
      | nil=>
        unfold WfE at h2
        obtain ⟨c1,c2⟩:=h2
        rw [if_pos c1,c2];rfl
      | cons p ks=>
        have hE:elems s p.b=some (p :: ks,e):=hE
        have h0:p.b=bl s (b+1):=by unfold WfE at h2;exact h2.1
        have hv:WfV s p:=by unfold WfE at h2;exact h2.2.1
        have hn:bt s (bl s (b+1):Int)≠93:=by
          rw [← h0]
          intro c
          have:=first_nb hv
          omega
        rw [if_neg hn,← h0,hE];rfl
    · have hM:=of_wfM ks ns true (b+1) e h2
      rw [h3,val_obj h1,mems0]
      cases ks with
      | nil=>
        unfold WfM at h2
        obtain ⟨c0,c1,c2⟩:=h2
        subst c0
        rw [if_pos c1,c2];rfl
      | cons p ks=>
        obtain ⟨n,ns',rfl,hM⟩:=hM
        have h0:n.1=bl s (b+1)∧bt s (n.1:Int)=34:=by
          unfold WfM at h2
          obtain ⟨n',ns'',e1,g,q,_⟩:=h2
          cases e1
          exact ⟨g,q⟩
        rw [if_neg (by rw [← h0.1,h0.2];decide),← h0.1,hM];rfl
theorem of_wfE : ∀ (ks:List PT) (first:Bool) (j e:Nat),WfE s first j ks e→ElOk s e ks
  | [],_,_,_,_=>trivial
  | p :: ks,first,j,e,h=>by
    unfold WfE at h
    obtain ⟨_,hv,h2⟩:=h
    have hl:=hv.lt
    have hp:=of_wf p hv
    have ih:=of_wfE ks false p.e e h2
    show elems s p.b=some (p :: ks,e)
    cases ks with
    | nil=>
      unfold WfE at h2
      rw [elems_last hp h2.1,h2.2]
    | cons q ks=>
      have ih:elems s q.b=some (q :: ks,e):=ih
      unfold WfE at h2
      obtain ⟨h3,_,_⟩:=h2
      have h3:bt s (bl s p.e:Int)=44∧q.b=bl s (bl s p.e+1):=h3
      rw [elems_more (by omega) hp h3.1,← h3.2,ih];rfl
theorem of_wfM : ∀ (ks:List PT) (ns:List (Nat×Nat)) (first:Bool) (j e:Nat),WfM s first j ns ks e→MeOk s ns e ks
  | [],_,_,_,_,_=>trivial
  | p :: ks,ns,first,j,e,h=>by
    unfold WfM at h
    obtain ⟨n,ns',e0,_,hq,hs,hc,hb,hv,h2⟩:=h
    have hl:=hv.lt
    have hp:=of_wf p hv
    have ih:=of_wfM ks ns' false p.e e h2
    refine ⟨n,ns',e0,?_⟩
    cases ks with
    | nil=>
      unfold WfM at h2
      obtain ⟨rfl,h3,h4⟩:=h2
      have e0:bl s p.e+1=e:=h4.symm
      rw [mems_v hq hs hc,← hb,hp]
      show (if bt s (bl s p.e)=125 then some ([(n.1,n.2)],[p],bl s p.e+1) else _)=_
      rw [if_pos h3,e0]
    | cons q ks=>
      obtain ⟨m,ns'',rfl,ih⟩:=ih
      have h3:bt s (bl s p.e:Int)=44∧m.1=bl s (bl s p.e+1):=by
        unfold WfM at h2
        obtain ⟨n',_,e1,g,_⟩:=h2
        cases e1
        exact g
      rw [mems_v hq hs hc,← hb,hp]
      show (if bt s (bl s p.e)=125 then _ else if bt s (bl s p.e)=44 then (mems s (bl s (bl s p.e+1))).map (fun x=>((n.1,n.2) :: x.1,p :: x.2.1,x.2.2)) else none)=_
      rw [if_neg (by rw [h3.1];decide),if_pos h3.1,← h3.2,ih];rfl
end
theorem places_of_wf {p:PT} (h0:bl s 0=p.b) (hw:WfV s p) (hf:bl s p.e=s.size):places s=some p:=by
  unfold places
  rw [h0,of_wf p hw]
  show (if bl s p.e=s.size then some p else none)=some p
  rw [if_pos hf]
end Go.Proofs.YtlfebfkphgelfaaGreatDoor.Sr
namespace Go.Proofs.YtlfebfkphgelfaaGreatDoor.Ed
open Go Go.Proofs Go.RowKit Rx Pl Pw Sk
open Ka (nmS ixS Led)
open Nt (treeN treeL NT kid_in str_ok)
variable {s s':ByteArray} {p p':PT} {u v e:Nat}
theorem tree_eq (s:ByteArray) (p:PT):treeN s p = .mk p.k (if p.k=3 then s.extract p.b p.e else if p.k=4 then nmS s (p.b,p.e) else ByteArray.mk #[]) (p.ns.map (nmS s)) (treeL s p.ks):=by
  cases p;simp only [treeN];rfl
theorem agL (_:Ag s s' u v e) : ∀ ks:List PT,(∀ c ∈ ks,treeN s' (mvP u v c)=treeN s c)→treeL s' (mvL u v ks)=treeL s ks
  | [],_=>by simp only [mvL,treeL]
  | c :: ks,h=>by
    simp only [mvL,treeL]
    rw [h c (List.mem_cons_self ..),agL ‹_› ks fun d hd=>h d (List.mem_cons_of_mem _ hd)]
theorem mem_kid {ks:List PT} {ns:List (Nat×Nat)} {first:Bool} {j r t:Nat} {c:PT} (h:WfM s first j ns ks r) (hc:ks[t]?=some c):WfV s c∧j≤c.b∧c.e<r:=by
  have hl:=wfM_lens _ _ _ _ _ h
  have ht:=(List.getElem?_eq_some_iff.1 hc).1
  obtain ⟨_,_,_,_,a5,a6,a7⟩:=Gk.mem_at ks ns first j r t ns[t] c h (List.getElem?_eq_getElem (by omega)) hc
  exact ⟨a5,a7,a6⟩
theorem name_in (hw:WfV s p) {n:Nat×Nat} (hn:n ∈ p.ns):p.b≤n.1∧n.1+2≤n.2∧n.2≤p.e:=by
  obtain ⟨k,b,e,ns,ks⟩:=p
  have hn:n ∈ ns:=hn
  unfold WfV at hw
  obtain ⟨_,_,⟨rfl,rfl,_⟩ | ⟨rfl,rfl,rfl,_⟩ | ⟨rfl,rfl,h1,h2⟩ | ⟨rfl,h1,h2⟩⟩:=hw
  · cases hn
  · cases hn
  · cases hn
  · obtain ⟨t,ht⟩:=List.mem_iff_getElem?.1 hn
    obtain ⟨s1,s2,s3⟩:=mem_span _ _ _ _ _ _ _ h2 ht
    exact ⟨by show b≤n.1;omega,s2,by show n.2≤e;omega⟩
theorem ag_tree (h:Ag s s' u v e) (hes:e≤s.size) : ∀ (N:Nat) (p:PT),p.e-p.b<N→WfV s p→u≤p.b→p.e≤e→treeN s' (mvP u v p)=treeN s p
  | 0,p,hN,_,_,_=>absurd hN (Nat.not_lt_zero _)
  | N+1,p,hN,hw,hu,he=>by
    have hl:=hw.lt
    have hend:=h.end'
    have ek:(mvP u v p).k=p.k:=mvP_k u v p
    have ens:(mvP u v p).ns=p.ns.map fun n=>(sh u v n.1,sh u v n.2):=by cases p;rw [mvP_mk];rfl
    have eks:(mvP u v p).ks=mvL u v p.ks:=by cases p;rw [mvP_mk];rfl
    rw [tree_eq,tree_eq,ek,ens,eks,mvP_b,mvP_e]
    have e1:(if p.k=3 then s'.extract (sh u v p.b) (sh u v p.e) else if p.k=4 then nmS s' (sh u v p.b,sh u v p.e) else ByteArray.mk #[])=(if p.k=3 then s.extract p.b p.e else if p.k=4 then nmS s (p.b,p.e) else ByteArray.mk #[]):=by
      by_cases h3:p.k=3
      · rw [if_pos h3,if_pos h3]
        have x1:p.e=p.b+(p.e-p.b):=by omega
        have x2:sh u v p.e=sh u v p.b+(p.e-p.b):=by unfold sh;omega
        have:=ext_eq (s:=s) (s':=s') (a:=p.b) (a':=sh u v p.b) (n:=p.e-p.b) (by omega) (by unfold sh at hend ⊢;omega) (fun j hj=>by
          have:=h.at' (p.b+j) (by omega) (by omega)
          rw [sh_add hu] at this
          exact this)
        rw [← x1,← x2] at this
        exact this
      · rw [if_neg h3,if_neg h3]
        by_cases h4:p.k=4
        · rw [if_pos h4,if_pos h4]
          have hs:=strE_le (str_ok hw h4)
          exact h.nm (n:=(p.b,p.e)) hes hu (by show p.b+2≤p.e;omega) he
        · rw [if_neg h4,if_neg h4]
    have e2:(p.ns.map fun n=>(sh u v n.1,sh u v n.2)).map (nmS s')=p.ns.map (nmS s):=by
      rw [List.map_map]
      refine List.map_congr_left fun n hn => ?_
      obtain ⟨s1,s2,s3⟩:=name_in hw hn
      exact h.nm hes (by omega) s2 (by omega)
    have e3:treeL s' (mvL u v p.ks)=treeL s p.ks:=agL h p.ks fun c hc=>by
      obtain ⟨i,hi⟩:=List.mem_iff_getElem?.1 hc
      obtain ⟨c1,c2,c3⟩:=kid_in hw hi
      have:=c1.lt
      exact ag_tree h hes N c (by omega) c1 (by omega) (by omega)
    rw [e1,e2,e3]
end Go.Proofs.YtlfebfkphgelfaaGreatDoor.Ed
namespace Go.Proofs.YtlfebfkphgelfaaGreatDoor.Ed
open Go Go.Proofs Go.RowKit Rx Pl Pw Sk
open Ka (nmS ixS Led)
open Nt (treeN treeL)
open Sr (places places_of_wf)
variable {s s':ByteArray} {A C D:Nat}
end Go.Proofs.YtlfebfkphgelfaaGreatDoor.Ed
namespace Go.Proofs.YtlfebfkphgelfaaGreatDoor.Ed
open Go Go.Proofs Go.RowKit Rx Pl Pw Sk Ut Bw Uq Ql
open Ka (nmS ixS Led New newT compL)
open Gk (Lead)
variable {s s' o T k X:ByteArray} {u v e:Nat} {c:Bool}
theorem Ins.memsP (h:Ins o T k X c) (hk:AsIs k) {pv:PT} (hv:WfV T pv) (hb:bl T (inI o c+k.size+3)=pv.b) (he:bl T pv.e=inI o c+k.size+3+X.size) : ∀ (ks:List PT) (ns:List (Nat×Nat)) (first:Bool) (j:Nat),WfM o first j ns ks o.size→(c=false↔ks=[]∧first=true) →
    WfM T first j (ns++[(inI o c,inI o c+1+k.size+1)]) (ks++[pv]) T.size
  | [],ns,first,j,hM,hc=>by
    have hz:=h.size
    have ho:=h.one
    unfold WfM at hM
    obtain ⟨rfl,h1,h2⟩:=hM
    have hg:=bl_ge o j
    have hpre : ∀ i,j≤i→i<o.size-1→isB (bt T (i:Int))=true:=fun i g1 g2=>by
      rw [h.pre i g2];exact bl_blank o j i g1 (by omega)
    show WfM T first j [(inI o c,inI o c+1+k.size+1)] [pv] T.size
    unfold WfM
    refine ⟨(inI o c,inI o c+1+k.size+1),[],rfl,?_,h.q1,h.str hk k.size 0 (by omega) (by omega),?_,?_,hv,?_⟩
    · cases first with
      | true=>
        have:c=false:=hc.2 ⟨rfl,rfl⟩
        subst this
        have e:inI o false=o.size-1:=rfl
        show inI o false=bl T j
        exact (bl_eq rfl (by omega) (fun i g1 g2=>hpre i g1 (by omega)) (by rw [h.q1];rfl)).symm
      | false=>
        have hct:c=true:=by
          cases c with
          | true=>rfl
          | false=>have:=(hc.1 rfl).2;cases this
        subst hct
        have e:inI o true=o.size-1+1:=rfl
        have e1:bl T j=o.size-1:=bl_eq rfl (by omega) hpre (by rw [h.com rfl];rfl)
        show bt T (bl T j:Int)=44∧inI o true=bl T (bl T j+1)
        rw [e1]
        refine ⟨h.com rfl,?_⟩
        have e2:bl T (o.size-1+1)=o.size-1+1:=bl_no (by rw [← e,h.q1];rfl)
        rw [e2];exact e
    · show bt T (bl T (inI o c+1+k.size+1):Int)=58
      rw [bl_no (by rw [h.col];rfl)];exact h.col
    · show pv.b=bl T (bl T (inI o c+1+k.size+1)+1)
      rw [bl_no (i:=inI o c+1+k.size+1) (by rw [h.col];rfl)]
      have e:inI o c+1+k.size+1+1=inI o c+k.size+3:=by omega
      rw [e]
      exact hb.symm
    · unfold WfM
      rw [he]
      exact ⟨rfl,h.cl,by omega⟩
  | p0 :: ks,ns,first,j,hM,hc=>by
    have hz:=h.size
    have ho:=h.one
    have hct:c=true:=by
      cases c with
      | true=>rfl
      | false=>have:=(hc.1 rfl).1;cases this
    have hlen:=Gk.wfM_le _ _ _ _ _ hM
    unfold WfM at hM
    obtain ⟨n,ns',rfl,h0,hq,hs,hcl,hb',hv',hM⟩:=hM
    have a0:=Gk.wfM_bl ks ns' false p0.e o.size hM
    have a1:=hv'.lt
    have a2:=strE_le hs
    have a3:=bl_ge o n.2
    have a4:=bl_ge o (bl o n.2+1)
    have a5:=bl_ge o p0.e
    have g:=bl_ge o j
    have g2:=bl_ge o (bl o j+1)
    have hA:=h.ag
    have hjn:bl o j≤n.1:=by split at h0 <;> omega
    have e1:bl T j=bl o j:=hA.m_bl (i:=j) (Nat.zero_le _) (by omega)
    have e2:bl T n.2=bl o n.2:=hA.m_bl (i:=n.2) (Nat.zero_le _) (by omega)
    have ihM:=Ins.memsP h hk hv hb he ks ns' false p0.e hM (by rw [hct];simp)
    show WfM T first j (n :: (ns'++[(inI o c,inI o c+1+k.size+1)])) (p0 :: (ks++[pv])) T.size
    unfold WfM
    refine ⟨n,_,rfl,?_,by rw [h.pre _ (by omega)];exact hq,hA.m_strE (i:=n.1+1) (m:=n.2) (Nat.le_refl _) (Nat.zero_le _) hs (by omega),by rw [e2,h.pre _ (by omega)];exact hcl,?_,?_,ihM⟩
    · cases first with
      | true=>
        have h0:n.1=bl o j:=h0
        show n.1=bl T j
        rw [e1];exact h0
      | false=>
        obtain ⟨c1,c2⟩:bt o (bl o j:Int)=44∧n.1=bl o (bl o j+1):=h0
        have e3:bl T (bl o j+1)=bl o (bl o j+1):=hA.m_bl (i:=bl o j+1) (Nat.zero_le _) (by omega)
        show bt T (bl T j:Int)=44∧n.1=bl T (bl T j+1)
        rw [e1,h.pre _ (by omega),e3]
        exact ⟨c1,c2⟩
    · have e3:bl T (bl o n.2+1)=bl o (bl o n.2+1):=hA.m_bl (i:=bl o n.2+1) (Nat.zero_le _) (by omega)
      rw [e2,e3];exact hb'
    · have hst:Stop T 0 0 (o.size-1) p0.e:=by
        rcases Nat.lt_or_ge p0.e (o.size-1) with g3 | g3
        · exact .inl g3
        · refine .inr ⟨by omega,?_⟩
          have e4:sh 0 0 (o.size-1)=o.size-1:=rfl
          rw [e4,h.com hct]
          exact ⟨rfl,by decide,by decide,by decide⟩
      have:=hA.wfV p0 hv' (Nat.zero_le _) hst
      rwa [mvP_id] at this
theorem Ins.wfP (h:Ins o T k X c) (hk:AsIs k) {px:PT} (hX:WfV X px) (hb:bl X 0=px.b) (he:bl X px.e=X.size) {ns:List (Nat×Nat)} {ks:List PT} (ho:WfV o (.mk 6 0 o.size ns ks)) (hc:c=false↔ks=[]) :
    WfV T (.mk 6 0 T.size (ns++[(inI o c,inI o c+1+k.size+1)]) (ks++[mvP 0 (inI o c+k.size+3) px]))∧bl T (sh 0 (inI o c+k.size+3) px.e)=inI o c+k.size+3+X.size:=by
  obtain ⟨w1,w2,w3,w4⟩:=Gk.wf_obj ho
  have w5:=Gk.wfM_bl _ _ _ _ _ w4
  have w6:=bl_ge o (0+1)
  have hz:=h.size
  have hl:=hX.lt
  have hg:=bl_ge X px.e
  have eX : ∀ j,sh 0 (inI o c+k.size+3) j=inI o c+k.size+3+j:=fun j=>by unfold sh;omega
  have hbX:bl T (inI o c+k.size+3)=(mvP 0 (inI o c+k.size+3) px).b:=by
    rw [mvP_b]
    have:=h.agX.m_bl (i:=0) (Nat.le_refl _) (by omega)
    rw [eX 0,hb] at this
    exact this
  have heX:bl T (sh 0 (inI o c+k.size+3) px.e)=inI o c+k.size+3+X.size:=by
    rw [eX]
    refine bl_eq rfl (by omega) (fun j g1 g2 => ?_) (by rw [h.cl];rfl)
    have:=h.val (j-(inI o c+k.size+3)) (by omega)
    rw [show inI o c+k.size+3+(j-(inI o c+k.size+3))=j by omega] at this
    rw [this]
    exact bl_blank X px.e _ (by omega) (by omega)
  have hwX:WfV T (mvP 0 (inI o c+k.size+3) px):=by
    refine h.agX.wfV px hX (Nat.zero_le _) ?_
    rcases Nat.lt_or_ge px.e X.size with g | g
    · exact .inl g
    · refine .inr ⟨by omega,?_⟩
      rw [eX,h.cl]
      exact ⟨rfl,by decide,by decide,by decide⟩
  have hm:=h.memsP hk hwX hbX (by rw [mvP_e];exact heX) ks ns true (0+1) w4 (by rw [hc];simp)
  refine ⟨?_,heX⟩
  unfold WfV
  refine ⟨by omega,Nat.le_refl _,.inr (.inr (.inr ⟨rfl,?_,hm⟩))⟩
  rw [h.pre 0 (by omega)];exact w3
end Go.Proofs.YtlfebfkphgelfaaGreatDoor.Ed
namespace Go.Proofs.YtlfebfkphgelfaaGreatDoor.Nt
open Go Go.Proofs Go.RowKit Rx Tr Pl Pw
open Sr (Sl slV RowIn)
open Lj (Any)
theorem nc_inj {k:Int} {t:ByteArray} {a b a' b':Sl} (h:nc k t a b=nc k t a' b'):a=a'∧b=b':=by
  unfold nc at h
  simp only [List.cons.injEq,Value.slice.injEq,true_and,and_true] at h
  obtain ⟨⟨x1,x2,x3⟩,y1,y2,y3⟩:=h
  exact ⟨Prod.ext x1 (Prod.ext x2 x3),Prod.ext y1 (Prod.ext y2 y3)⟩
theorem NdAt.rows {B:Nat→Prop} {w:World} {n:NT} {a b:Sl} (h:NdAt B w n (nc n.k n.t a b)) : ∃ xs:List Value,RowIn B w a n.keys.length (n.keys.map strV) 1∧RowIn B w b n.kids.length xs 4∧AllN B w n.kids xs:=by
  obtain ⟨a',b',xs,he,h1,h2,h3⟩:=h.inv
  obtain ⟨rfl,rfl⟩:=nc_inj he
  exact ⟨xs,h1,h2,h3⟩
theorem same_any : ∀ (N:Nat) (n:NT) (w:World) (B B':Nat→Prop) (a b a' b':Sl),SizeOf.sizeOf n<N→Sm n→NdAt B w n (nc n.k n.t a b)→NdAt B' w n (nc n.k n.t a' b') →
    Calls Tryz.prog 14 #[.agg (nc n.k n.t a b).toArray,.agg (nc n.k n.t a' b').toArray] w fun e w'=>e = .returned (.bool true)∧Kp Off w w'
  | 0,n,w,B,B',a,b,a',b',h,_,_,_=>absurd h (Nat.not_lt_zero _)
  | N+1,n,w,B,B',a,b,a',b',hN,hsm,hn,hn'=>by
    obtain ⟨m1,m2,m3⟩:=hsm.inv
    obtain ⟨xs,hr1,hr2,hall⟩:=hn.rows
    obtain ⟨xs',hr1',hr2',hall'⟩:=hn'.rows
    refine spec_Same.calls _ _ _ _ _ _ _ _ _ _ _ _ _ _ _ _ ?_
    unfold spec_Same.t
    refine s_alloc ?_
    have b0:=Blk.new w (nc n.k n.t a b) tN
    have k0:Kp Off w (w.alloc (.cells (nc n.k n.t a b).toArray tN (0,0))):=(Kp.refl Off w).alloc _
    have z0:(w.alloc (.cells (nc n.k n.t a b).toArray tN (0,0))).heap.size=w.heap.size+1:=by simp
    show sat _ _ _ (w.alloc (.cells (nc n.k n.t a b).toArray tN (0,0)))
    generalize w.alloc (.cells (nc n.k n.t a b).toArray tN (0,0))=w1 at k0 b0 z0
    refine s_alloc ?_
    have b1:=Blk.new w1 (nc n.k n.t a' b') tN
    have k1:Kp Off w1 (w1.alloc (.cells (nc n.k n.t a' b').toArray tN (0,0))):=(Kp.refl Off w1).alloc _
    rw [z0] at b1 ⊢
    show sat _ _ _ (w1.alloc (.cells (nc n.k n.t a' b').toArray tN (0,0)))
    generalize w1.alloc (.cells (nc n.k n.t a' b').toArray tN (0,0))=w2 at k1 b1
    have b0:=k1.blk b0 id
    have k0:=k0.trans k1
    have hl1:=hr1.1
    have hl2:=hr2.1
    have hl1':=hr1'.1
    have hl2':=hr2'.1
    clear k1 z0
    refine s_cut (fun z w'=>z.1=false∧w2=w') ?_ ?_
    · refine s_load (n.k:Int) (by rw [addr_add,Nat.zero_add,b0.cell];rfl) (s_load (n.k:Int) (by rw [addr_add,Nat.zero_add,b1.cell];rfl) (s_iteN (fun g=>absurd rfl g) fun _ => ?_))
      refine s_load n.t (by rw [addr_add,Nat.zero_add,b0.cell];rfl) (s_load n.t (by rw [addr_add,Nat.zero_add,b1.cell];rfl) ?_)
      rw [strEq_iff.2 rfl]
      refine sat_iteF.2 (s_load a (by rw [addr_add,Nat.zero_add,b0.cell];rfl) (s_load a' (by rw [addr_add,Nat.zero_add,b1.cell];rfl) (s_iteN (fun g=>absurd (by rw [hl1,hl1']) g) fun _ => ?_)))
      refine s_load b (by rw [addr_add,Nat.zero_add,b0.cell];rfl) (s_load b' (by rw [addr_add,Nat.zero_add,b1.cell];rfl) (s_leaf ?_))
      rw [if_pos rfl]
      refine ⟨(false,()),?_,rfl,rfl⟩
      rw [hl2,hl2']
      have:(((n.kids.length:Nat):Int) != ((n.kids.length:Nat):Int))=false:=by simp
      rw [this];rfl
    rintro ⟨bb,u⟩ w' ⟨hbb,rfl⟩
    have hbb:bb=false:=hbb
    subst hbb
    show sat _ (spec_Same.t1 ⟨w.heap.size,0,none⟩ ⟨w.heap.size+1,0,none⟩ false) _ _
    unfold spec_Same.t1
    refine sat_iteF.2 (s_loop (fun m z w' => ∃ i:Nat,m=n.keys.length-i∧z=((i:Int),())∧i≤n.keys.length∧Blk w' w.heap.size (nc n.k n.t a b) tN∧Blk w' (w.heap.size+1) (nc n.k n.t a' b') tN∧Kp Off w w') n.keys.length ((0:Int),()) rfl ⟨0,rfl,rfl,Nat.zero_le _,b0,b1,k0⟩ ?_)
    clear b0 b1 k0
    rintro m z w3 ⟨i,rfl,rfl,hi,b0,b1,k3⟩
    show sat _ (spec_Same.t2 ⟨w.heap.size,0,none⟩ ⟨w.heap.size+1,0,none⟩ (i:Int)) _ _
    unfold spec_Same.t2
    refine s_load a (by rw [addr_add,Nat.zero_add,b0.cell];rfl) (s_iteD (fun hlt=>s_drew ?_) (fun hge => ?_))
    · have hin:i<n.keys.length:=by omega
      have kd:Kp Off w3 w3.drew:=(Kp.refl Off w3).drew
      have b0:=kd.blk b0 id
      have b1:=kd.blk b1 id
      have k3:=k3.trans kd
      generalize w3.drew=w4 at kd b0 b1 k3
      have hk:(n.keys.map strV)[i]?=some (strV n.keys[i]):=by rw [List.getElem?_map,List.getElem?_eq_getElem hin];rfl
      obtain ⟨l1,l2,l3⟩:=Lj.RowIn.any hr1 k3
      rcases l3 with l3 | ⟨g,a1,_,_,a4⟩
      · omega
      obtain ⟨l1',l2',l3'⟩:=Lj.RowIn.any hr1' k3
      rcases l3' with l3' | ⟨g',a1',_,_,a4'⟩
      · omega
      refine s_load a (by rw [addr_add,Nat.zero_add,b0.cell];rfl) (s_chk ⟨by omega,by omega⟩ ⟨_,a1,?_⟩)
      refine s_load n.keys[i] (by rw [addr_add,Int.toNat_natCast,Nat.zero_add,Nat.mul_one];exact a4 _ _ hk) ?_
      refine s_load a' (by rw [addr_add,Nat.zero_add,b1.cell];rfl) (s_chk ⟨by omega,by omega⟩ ⟨_,a1',?_⟩)
      refine s_load n.keys[i] (by rw [addr_add,Int.toNat_natCast,Nat.zero_add,Nat.mul_one];exact a4' _ _ hk) ?_
      rw [strEq_iff.2 rfl]
      refine sat_iteF.2 (s_leaf ?_)
      rw [if_pos rfl]
      have w1':IntKind.wrap IntKind.i64 ((i:Int)+1)=((i+1:Nat):Int):=by rw [wrap_in (by omega) (by omega)];omega
      rw [w1']
      exact ⟨n.keys.length-(i+1),(((i+1:Nat):Int),()),rfl,by omega,i+1,rfl,rfl,hin,b0,b1,k3⟩
    · refine s_loop (fun m z w' => ∃ i:Nat,m=n.kids.length-i∧z=((i:Int),())∧i≤n.kids.length∧Blk w' w.heap.size (nc n.k n.t a b) tN∧Blk w' (w.heap.size+1) (nc n.k n.t a' b') tN∧Kp Off w w') n.kids.length ((0:Int),()) rfl ⟨0,rfl,rfl,Nat.zero_le _,b0,b1,k3⟩ ?_
      clear b0 b1 k3 hge
      rintro m z w3 ⟨j,rfl,rfl,hj,b0,b1,k3⟩
      show sat _ (spec_Same.t3 ⟨w.heap.size,0,none⟩ ⟨w.heap.size+1,0,none⟩ (j:Int)) _ _
      unfold spec_Same.t3
      refine s_load b (by rw [addr_add,Nat.zero_add,b0.cell];rfl) (s_iteD (fun hlt=>s_drew ?_) (fun hge=>s_leaf ?_))
      · have hin:j<n.kids.length:=by omega
        have hc:n.kids[j]?=some n.kids[j]:=List.getElem?_eq_getElem hin
        generalize n.kids[j]=c at hc
        have kd:Kp Off w3 w3.drew:=(Kp.refl Off w3).drew
        have b0:=kd.blk b0 id
        have b1:=kd.blk b1 id
        have k3:=k3.trans kd
        generalize w3.drew=w4 at kd b0 b1 k3
        obtain ⟨l1,l2,l3⟩:=Lj.RowIn.any hr2 k3
        rcases l3 with l3 | ⟨g,a1,_,_,a4⟩
        · omega
        obtain ⟨l1',l2',l3'⟩:=Lj.RowIn.any hr2' k3
        rcases l3' with l3' | ⟨g',a1',_,_,a4'⟩
        · omega
        obtain ⟨cs,hcn,hcs⟩:=all_getN n.kids xs j c hall hc
        obtain ⟨cs',hcn',hcs'⟩:=all_getN n.kids xs' j c hall' hc
        have hcn0:=hcn
        have hcn0':=hcn'
        obtain ⟨ac,bc,_,rfl,_⟩:=hcn0.inv
        obtain ⟨ac',bc',_,rfl,_⟩:=hcn0'.inv
        refine s_load b (by rw [addr_add,Nat.zero_add,b0.cell];rfl) (s_chk ⟨by omega,by omega⟩ ⟨_,a1,?_⟩)
        refine s_effS ((c.k:Int),c.t,ac,bc,()) (by
          rw [addr_add,Int.toNat_natCast]
          refine node_run fun q hq => ?_
          have h1:=hcs q hq
          obtain ⟨y,hy⟩ : ∃ y,(nc c.k c.t ac bc)[q]?=some y:=⟨_,List.getElem?_eq_getElem (show q<4 from hq)⟩
          rw [hy] at h1 ⊢
          rw [Nat.zero_add]
          exact a4 _ _ h1) ?_
        refine s_load b' (by rw [addr_add,Nat.zero_add,b1.cell];rfl) (s_chk ⟨by omega,by omega⟩ ⟨_,a1',?_⟩)
        refine s_effS ((c.k:Int),c.t,ac',bc',()) (by
          rw [addr_add,Int.toNat_natCast]
          refine node_run fun q hq => ?_
          have h1:=hcs' q hq
          obtain ⟨y,hy⟩ : ∃ y,(nc c.k c.t ac' bc')[q]?=some y:=⟨_,List.getElem?_eq_getElem (show q<4 from hq)⟩
          rw [hy] at h1 ⊢
          rw [Nat.zero_add]
          exact a4' _ _ h1) ?_
        have hcn4:NdAt Any w4 c (nc c.k c.t ac bc):=hcn.kp k3 fun q _ _=>⟨trivial,id⟩
        have hcn4':NdAt Any w4 c (nc c.k c.t ac' bc'):=hcn'.kp k3 fun q _ _=>⟨trivial,id⟩
        have:=size_kid hc
        refine s_call (same_any N c w4 Any Any ac bc ac' bc' (by omega) (m3.get hc) hcn4 hcn4') ?_
        rintro e w5 ⟨rfl,k5⟩
        refine ⟨true,rfl,sat_iteF.2 (s_leaf ?_)⟩
        rw [if_pos rfl]
        have w1':IntKind.wrap IntKind.i64 ((j:Int)+1)=((j+1:Nat):Int):=by rw [wrap_in (by omega) (by omega)];omega
        rw [w1']
        exact ⟨n.kids.length-(j+1),(((j+1:Nat):Int),()),rfl,by omega,j+1,rfl,rfl,hin,k5.blk b0 id,k5.blk b1 id,k3.trans k5⟩
      · rw [if_neg (by decide)];exact ⟨rfl,rfl,k3⟩
end Go.Proofs.YtlfebfkphgelfaaGreatDoor.Nt
