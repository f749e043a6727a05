import Derived.Test.YtlfebfkphgelfaaGreatDoorWF
import Derived.Test.YtlfebfkphgelfaaGreatDoorWB
import Derived.Test.YtlfebfkphgelfaaGreatDoorWE
import Derived.Test.YtlfebfkphgelfaaGreatDoorTi
import Derived.Room.AppendAny
import Derived.Deep.Upon
import Derived.Maps.AppendAt
import Derived.Laws.IdiomCopy
import Derived.Test.YtlfebfkphgelfaaGreatDoorTf
namespace Go.Proofs.YtlfebfkphgelfaaGreatDoor.Ed
open Go Go.Proofs Go.RowKit Rx Pl Pw Sk
open Ka (nmS ixS Led)
open Nt (treeN treeL NT kid_in str_ok)
variable {s s':ByteArray} {p p':PT} {u v e:Nat}
def Plc (n:NT) (tok:ByteArray) (i:Nat):Prop:=
  (n.k=6∧n.keys[i]?=some tok ∧ ∀ (j:Nat) (x:ByteArray),j<i→n.keys[j]?=some x→x≠tok)∨(n.k=5∧Lib.decNat tok.data.toList=some i∧(1<tok.size→bt tok 0≠48)∧tok.size≤18)
inductive Pth:NT→List ByteArray→List Nat→Prop
  | nil {n:NT}:Pth n [] []
  | cons {n c:NT} {tok:ByteArray} {toks:List ByteArray} {i:Nat} {is:List Nat}:Plc n tok i→n.kids[i]?=some c→Pth c toks is→Pth n (tok :: toks) (i :: is)
def repl (x:NT):List Nat→NT→NT
  | [],_=>x
  | i :: is,.mk k t keys kids => .mk k t keys (match kids[i]? with | some c=>kids.set i (repl x is c) | none=>kids)
theorem repl_cons {x n c:NT} {i:Nat} {is:List Nat} (h:n.kids[i]?=some c):repl x (i :: is) n = .mk n.k n.t n.keys (n.kids.set i (repl x is c)):=by
  obtain ⟨k,t,keys,kids⟩:=n
  have h:kids[i]?=some c:=h
  have e:repl x (i :: is) (.mk k t keys kids) = .mk k t keys (match kids[i]? with | some c=>kids.set i (repl x is c) | none=>kids):=by simp only [repl]
  rw [e,h];rfl
inductive Way (s:ByteArray):PT→List ByteArray→List ByteArray→List Nat→PT→Prop
  | nil {p:PT}:Way s p [] [] [] p
  | mem {b e:Nat} {ns:List (Nat×Nat)} {ks:List PT} {j:Nat} {n:Nat×Nat} {p q:PT} {key:ByteArray} {rest toks:List ByteArray} {is:List Nat} :
      ns[j]?=some n→ks[j]?=some p→nmS s n=key→(∀ (j':Nat) (n':Nat×Nat),j'<j→ns[j']?=some n'→nmS s n'≠key)→Way s p rest toks is q→Way s (.mk 6 b e ns ks) (key :: rest) (key :: toks) (j :: is) q
  | elt {b e:Nat} {ns:List (Nat×Nat)} {ks:List PT} {j:Nat} {p q:PT} {key:ByteArray} {rest toks:List ByteArray} {is:List Nat} :
      ixS key=some j→ks[j]?=some p→Way s p rest toks is q→Way s (.mk 5 b e ns ks) (key :: rest) (key.extract 1 (key.size-1) :: toks) (j :: is) q
theorem way_of {p q:PT} {keys:List ByteArray} (h:Gk.Lead (nmS s) ixS p keys q) : ∃ toks is,Way s p keys toks is q:=by
  induction h with
  | nil=>exact ⟨_,_,.nil⟩
  | mem h1 h2 h3 h4 _ ih=>obtain ⟨toks,is,h⟩:=ih;exact ⟨_,_,.mem h1 h2 h3 h4 h⟩
  | elt h1 h2 _ ih=>obtain ⟨toks,is,h⟩:=ih;exact ⟨_,_,.elt h1 h2 h⟩
theorem Way.lead {p q:PT} {keys toks:List ByteArray} {is:List Nat} (h:Way s p keys toks is q):Gk.Lead (nmS s) ixS p keys q:=by
  induction h with
  | nil=>exact .nil
  | mem h1 h2 h3 h4 _ ih=>exact .mem h1 h2 h3 h4 ih
  | elt h1 h2 _ ih=>exact .elt h1 h2 ih
theorem Way.len {p q:PT} {keys toks:List ByteArray} {is:List Nat} (h:Way s p keys toks is q):toks.length=keys.length:=by
  induction h with
  | nil=>rfl
  | mem _ _ _ _ _ ih=>rw [List.length_cons,List.length_cons,ih]
  | elt _ _ _ ih=>rw [List.length_cons,List.length_cons,ih]
theorem ix_facts {key:ByteArray} {j:Nat} (h:ixS key=some j):3≤key.size∧key.size≤20∧Lib.decNat (key.extract 1 (key.size-1)).data.toList=some j∧(key.extract 1 (key.size-1)).size=key.size-2∧(1<(key.extract 1 (key.size-1)).size→bt (key.extract 1 (key.size-1)) 0≠48):=by
  unfold ixS at h
  split at h
  · rename_i g
    obtain ⟨g1,g2,g3,g4,g5⟩:=g
    have hz:(key.extract 1 (key.size-1)).size=key.size-2:=by rw [ByteArray.size_extract];omega
    refine ⟨g1,g4,h,hz,fun hl => ?_⟩
    have:=bt_extract (s:=key) (a:=1) (b:=key.size-1) (j:=0) (by omega) (by omega)
    have e0:bt (key.extract 1 (key.size-1)) 0=bt key 1:=this
    rw [e0]
    exact g5 (by omega)
  · cases h
theorem treeL_get {ks:List PT} {i:Nat} {p:PT} (h:ks[i]?=some p):(treeL s ks)[i]?=some (treeN s p):=by
  induction ks generalizing i with
  | nil=>simp at h
  | cons c ks ih=>
    simp only [treeL]
    cases i with
    | zero=>
      simp only [List.getElem?_cons_zero,Option.some.injEq] at h
      subst h;rfl
    | succ i=>
      simp only [List.getElem?_cons_succ] at h ⊢
      exact ih h
theorem Way.pth {p q:PT} {keys toks:List ByteArray} {is:List Nat} (h:Way s p keys toks is q):Pth (treeN s p) toks is:=by
  induction h with
  | nil=>exact .nil
  | @mem b e ns ks j n p q key rest toks is h1 h2 h3 h4 _ ih=>
    refine .cons (c:=treeN s p) (.inl ⟨by rw [tree_eq];rfl,?_,fun j' x hj hx => ?_⟩) (by rw [tree_eq];exact treeL_get h2) ih
    · rw [tree_eq]
      show (ns.map (nmS s))[j]?=some key
      rw [List.getElem?_map,h1]
      show some (nmS s n)=some key
      rw [h3]
    · rw [tree_eq] at hx
      have hx:(ns.map (nmS s))[j']?=some x:=hx
      rw [List.getElem?_map] at hx
      cases hn:ns[j']? with
      | none=>rw [hn] at hx;cases hx
      | some n'=>
        rw [hn] at hx
        cases hx
        exact h4 j' n' hj hn
  | @elt b e ns ks j p q key rest toks is h1 h2 _ ih=>
    obtain ⟨c1,c2,c3,c4,c5⟩:=ix_facts h1
    exact .cons (c:=treeN s p) (.inr ⟨by rw [tree_eq];rfl,c3,c5,by omega⟩) (by rw [tree_eq];exact treeL_get h2) ih
theorem memsT2 (h:Sw s s' p p') {q q':PT} (hqb:q.b≤p.b) (hqe:p.e≤q.e) (hw':WfV s' q') (hb':q'.b=q.b) (he':q'.e=sh p.e p'.e q.e) : ∀ (ks:List PT) (ns:List (Nat×Nat)) (first:Bool) (j r t:Nat),WfM s first j ns ks r→ks[t]?=some q→r≤s.size →
    ∃ ns' ks',WfM s' first j ns' ks' (sh p.e p'.e r)∧ks'[t]?=some q'∧(∀ t',t'≤t→ns'[t']?=ns[t']?)∧(∀ t' n,t'≤t→ns[t']?=some n→n.2<p.b)∧(∀ t' n',t<t'→ns'[t']?=some n' → ∃ n,ns[t']?=some n∧n'=(sh p.e p'.e n.1,sh p.e p'.e n.2))∧ns'.map (nmS s')=ns.map (nmS s)∧treeL s' ks'=(treeL s ks).set t (treeN s' q')
  | [],ns,first,j,r,t,hM,hk,hr=>by simp at hk
  | p0 :: ks,ns,first,j,r,t,hM,hk,hr=>by
    have hlo:=mem_lo _ _ _ _ _ _ _ hM hk
    unfold WfM at hM
    obtain ⟨n0,ns0,rfl,h0,hq,hs,hc,hb,hv,hM⟩:=hM
    have a1:=hv.lt
    have a2:=strE_le hs
    have a3:=bl_ge s n0.2
    have a4:=bl_ge s (bl s n0.2+1)
    have g:=bl_ge s j
    have g2:=bl_ge s (bl s j+1)
    have hj:bl s j≤n0.1:=by split at h0 <;> omega
    have hp0:p0.b≤q.b:=by
      cases t with
      | zero=>
        simp only [List.getElem?_cons_zero,Option.some.injEq] at hk
        subst hk;exact Nat.le_refl _
      | succ t=>
        simp only [List.getElem?_cons_succ] at hk
        have:=mem_lo _ _ _ _ _ _ _ hM hk
        omega
    have head:(if first then n0.1=bl s' j else bt s' (bl s' j:Int)=44∧n0.1=bl s' (bl s' j+1))∧bt s' (n0.1:Int)=34∧strE s' (n0.1+1)=some n0.2∧bt s' (bl s' n0.2:Int)=58∧bl s' n0.2=bl s n0.2:=by
      have e1:bl s' j=bl s j:=h.blQ rfl (by omega)
      have e2:bl s' n0.2=bl s n0.2:=h.blQ rfl (by omega)
      refine ⟨?_,by rw [h.pre _ (by omega)];exact hq,?_,by rw [e2,h.pre _ (by omega)];exact hc,e2⟩
      · cases first with
        | true=>
          have h0:n0.1=bl s j:=h0
          show n0.1=bl s' j
          rw [e1];exact h0
        | false=>
          obtain ⟨c1,c2⟩:bt s (bl s j:Int)=44∧n0.1=bl s (bl s j+1):=h0
          show bt s' (bl s' j:Int)=44∧n0.1=bl s' (bl s' j+1)
          rw [e1,h.pre _ (by omega)]
          exact ⟨c1,(h.blQ c2.symm (by omega)).symm⟩
      · have:=h.agP.m_strE (Nat.le_refl _) (Nat.zero_le _) hs (by omega)
        exact this
    obtain ⟨d1,d2,d3,d4,d5⟩:=head
    cases t with
    | zero=>
      simp only [List.getElem?_cons_zero,Option.some.injEq] at hk
      subst hk
      refine ⟨n0 :: ns0.map fun n=>(sh p.e p'.e n.1,sh p.e p'.e n.2),q' :: mvL p.e p'.e ks,?_,rfl,?_,?_,?_,?_,?_⟩
      · unfold WfM
        refine ⟨n0,_,rfl,d1,d2,d3,d4,?_,hw',?_⟩
        · rw [hb',d5]
          exact (h.blP hb.symm hqb (by rw [← hb'];exact wf_nb hw')).symm
        · rw [he']
          exact h.agS.wfM ks ns0 false p0.e r hM hqe hr
      · intro t' ht
        have:t'=0:=by omega
        subst this;rfl
      · intro t' n ht hn
        have:t'=0:=by omega
        subst this
        cases hn;omega
      · intro t' n' ht hn
        cases t' with
        | zero=>omega
        | succ t'=>
          simp only [List.getElem?_cons_succ,List.getElem?_map,Option.map_eq_some_iff] at hn ⊢
          obtain ⟨n,h1,rfl⟩:=hn
          exact ⟨n,h1,rfl⟩
      · rw [List.map_cons,List.map_cons,h.name (by omega),List.map_map]
        congr 1
        refine List.map_congr_left fun n hn => ?_
        obtain ⟨t',ht⟩:=List.mem_iff_getElem?.1 hn
        obtain ⟨s1,s2,s3⟩:=mem_span _ _ _ _ _ _ _ hM ht
        exact h.agS.nm (Nat.le_refl _) (by omega) s2 (by omega)
      · simp only [treeL,List.set_cons_zero]
        congr 1
        refine agL h.agS ks fun c hc => ?_
        obtain ⟨t',ht⟩:=List.mem_iff_getElem?.1 hc
        obtain ⟨c1,c2,c3⟩:=mem_kid hM ht
        exact ag_tree h.agS (Nat.le_refl _) _ c (Nat.lt_succ_self _) c1 (by omega) (by have:=c1.lt;omega)
    | succ t=>
      simp only [List.getElem?_cons_succ] at hk
      have hlo2:=mem_lo _ _ _ _ _ _ _ hM hk
      obtain ⟨ns1,ks1,e1,e2,e3,e4,e5,e6,e7⟩:=memsT2 h hqb hqe hw' hb' he' ks ns0 false p0.e r t hM hk hr
      refine ⟨n0 :: ns1,p0 :: ks1,?_,e2,?_,?_,?_,?_,?_⟩
      · unfold WfM
        refine ⟨n0,_,rfl,d1,d2,d3,d4,?_,h.before hv (by omega),e1⟩
        rw [d5]
        exact (h.blQ hb.symm (by omega)).symm
      · intro t' ht
        cases t' with
        | zero=>rfl
        | succ t'=>exact e3 t' (by omega)
      · intro t' n ht hn
        cases t' with
        | zero=>cases hn;omega
        | succ t'=>exact e4 t' n (by omega) hn
      · intro t' n' ht hn
        cases t' with
        | zero=>omega
        | succ t'=>exact e5 t' n' (by omega) (by simpa using hn)
      · rw [List.map_cons,List.map_cons,h.name (by omega),e6]
      · simp only [treeL,e7,List.set_cons_succ]
        have:=ag_tree h.agP (by have:=h.lt;have:=h.le;omega) _ p0 (Nat.lt_succ_self _) hv (Nat.zero_le _) (by omega)
        rw [mvP_id] at this
        rw [this]
theorem eltsT2 (h:Sw s s' p p') {q q':PT} (hqb:q.b≤p.b) (hqe:p.e≤q.e) (hw':WfV s' q') (hb':q'.b=q.b) (he':q'.e=sh p.e p'.e q.e) : ∀ (ks:List PT) (first:Bool) (j r t:Nat),WfE s first j ks r→ks[t]?=some q→r≤s.size →
    ∃ ks',WfE s' first j ks' (sh p.e p'.e r)∧ks'[t]?=some q'∧treeL s' ks'=(treeL s ks).set t (treeN s' q')
  | [],first,j,r,t,hM,hk,hr=>by simp at hk
  | p0 :: ks,first,j,r,t,hM,hk,hr=>by
    unfold WfE at hM
    obtain ⟨h0,hv,hM⟩:=hM
    have a1:=hv.lt
    have g:=bl_ge s j
    have g2:=bl_ge s (bl s j+1)
    have hp0:p0.b≤q.b:=by
      cases t with
      | zero=>
        simp only [List.getElem?_cons_zero,Option.some.injEq] at hk
        subst hk;exact Nat.le_refl _
      | succ t=>
        simp only [List.getElem?_cons_succ] at hk
        have:=elt_lo _ _ _ _ _ hM hk
        omega
    have head:isB (bt s' (p0.b:Int))=false→(if first then p0.b=bl s' j else bt s' (bl s' j:Int)=44∧p0.b=bl s' (bl s' j+1)):=by
      intro hnb
      cases first with
      | true=>
        have h0:p0.b=bl s j:=h0
        exact (h.blP h0.symm (by omega) hnb).symm
      | false=>
        obtain ⟨c1,c2⟩:bt s (bl s j:Int)=44∧p0.b=bl s (bl s j+1):=h0
        have e1:bl s' j=bl s j:=h.blQ rfl (by omega)
        show bt s' (bl s' j:Int)=44∧p0.b=bl s' (bl s' j+1)
        rw [e1,h.pre _ (by omega)]
        exact ⟨c1,(h.blP c2.symm (by omega) hnb).symm⟩
    cases t with
    | zero=>
      simp only [List.getElem?_cons_zero,Option.some.injEq] at hk
      subst hk
      refine ⟨q' :: mvL p.e p'.e ks,?_,rfl,?_⟩
      · unfold WfE
        refine ⟨by rw [hb'];exact head (by rw [← hb'];exact wf_nb hw'),hw',?_⟩
        rw [he']
        exact h.agS.wfE ks false p0.e r hM hqe hr
      · simp only [treeL,List.set_cons_zero]
        congr 1
        refine agL h.agS ks fun c hc => ?_
        obtain ⟨t',ht⟩:=List.mem_iff_getElem?.1 hc
        obtain ⟨c1,c2,c3,_⟩:=Gk.elt_at _ _ _ _ _ _ hM ht
        exact ag_tree h.agS (Nat.le_refl _) _ c (Nat.lt_succ_self _) c1 (by omega) (by have:=c1.lt;omega)
    | succ t=>
      simp only [List.getElem?_cons_succ] at hk
      have hlo2:=elt_lo _ _ _ _ _ hM hk
      obtain ⟨ks1,e1,e2,e3⟩:=eltsT2 h hqb hqe hw' hb' he' ks false p0.e r t hM hk hr
      have hv':=h.before hv (by omega)
      refine ⟨p0 :: ks1,?_,e2,?_⟩
      · unfold WfE
        exact ⟨head (wf_nb hv'),hv',e1⟩
      · simp only [treeL,e3,List.set_cons_succ]
        have:=ag_tree h.agP (by have:=h.lt;have:=h.le;omega) _ p0 (Nat.lt_succ_self _) hv (Nat.zero_le _) (by omega)
        rw [mvP_id] at this
        rw [this]
theorem tree_sw2 {q:PT} {keys toks:List ByteArray} {is:List Nat} (hL:Way s q keys toks is p) (h:Sw s s' p p') (hq:WfV s q) : ∃ q',WfV s' q'∧q'.b=q.b∧q'.e=sh p.e p'.e q.e∧treeN s' q'=repl (treeN s' p') is (treeN s q):=by
  induction hL with
  | @nil p=>exact ⟨p',h.wf,h.b',by unfold sh;omega,rfl⟩
  | @mem b e' ns ks t n p1 p key rest toks is h1 h2 h3 h4 h5 ih=>
    obtain ⟨w1,w2,w3,w4⟩:=Gk.wf_obj hq
    obtain ⟨m1,m2,m3,m4,m5,m6,m7⟩:=Gk.mem_at ks ns true (b+1) e' t n p1 w4 h1 h2
    obtain ⟨q1,a1,a2,a3,a4⟩:=ih h m5
    obtain ⟨c1,c2,c3,c4⟩:=Ka.Lead.wf h5.lead m5
    obtain ⟨ns',ks',d1,d2,d3,d4,d5,d6,d7⟩:=memsT2 h c2 c3 a1 a2 a3 ks ns true (b+1) e' t w4 h2 w2
    refine ⟨.mk 6 b (sh p.e p'.e e') ns' ks',?_,rfl,rfl,?_⟩
    · unfold WfV
      have:=h.lt'
      have hz:=h.size
      exact ⟨by unfold sh;omega,by rw [hz];unfold sh;omega,.inr (.inr (.inr ⟨rfl,by rw [h.pre _ (by omega)];exact w3,d1⟩))⟩
    · have hk:(treeN s (.mk 6 b e' ns ks)).kids[t]?=some (treeN s p1):=by rw [tree_eq];exact treeL_get h2
      rw [repl_cons hk,← a4,tree_eq s',tree_eq s]
      show NT.mk 6 _ (ns'.map (nmS s')) (treeL s' ks')=NT.mk 6 _ (ns.map (nmS s)) _
      rw [d6,d7];rfl
  | @elt b e' ns ks t p1 p key rest toks is h1 h2 h5 ih=>
    obtain ⟨w1,w2,w3,w4⟩:=Gk.wf_arr hq
    have hns:ns=[]:=by
      have hq:=hq
      unfold WfV at hq
      obtain ⟨_,_,⟨_,_,_,g⟩ | ⟨g,_⟩ | ⟨_,g,_⟩ | ⟨g,_⟩⟩:=hq
      · rcases g with ⟨g,_⟩ | ⟨g,_⟩ | ⟨g,_⟩ | ⟨g,_⟩ <;> omega
      · omega
      · exact g
      · omega
    obtain ⟨m1,m2,m3,m4⟩:=Gk.elt_at ks true (b+1) e' t p1 w4 h2
    obtain ⟨q1,a1,a2,a3,a4⟩:=ih h m1
    obtain ⟨c1,c2,c3,c4⟩:=Ka.Lead.wf h5.lead m1
    obtain ⟨ks',d1,d2,d7⟩:=eltsT2 h c2 c3 a1 a2 a3 ks true (b+1) e' t w4 h2 w2
    refine ⟨.mk 5 b (sh p.e p'.e e') [] ks',?_,rfl,rfl,?_⟩
    · unfold WfV
      have:=h.lt'
      have hz:=h.size
      exact ⟨by unfold sh;omega,by rw [hz];unfold sh;omega,.inr (.inr (.inl ⟨rfl,rfl,by rw [h.pre _ (by omega)];exact w3,d1⟩))⟩
    · subst hns
      have hk:(treeN s (.mk 5 b e' [] ks)).kids[t]?=some (treeN s p1):=by rw [tree_eq];exact treeL_get h2
      rw [repl_cons hk,← a4,tree_eq s',tree_eq s]
      show NT.mk 5 _ [] (treeL s' ks')=NT.mk 5 _ [] _
      rw [d7];rfl
end Go.Proofs.YtlfebfkphgelfaaGreatDoor.Ed
namespace Go.Proofs.YtlfebfkphgelfaaGreatDoor.Ed
open Go Go.Proofs Go.RowKit Rx Pl Pw Sk
open Ka (nmS ixS Led New newT)
open Nt (NT treeN treeL treeL_snoc)
open Sr (places places_of_wf)
variable {s s' o T k X:ByteArray} {c:Bool}
def chain (x:NT):List ByteArray→NT
  | []=>x
  | r :: rs => .mk 6 (ByteArray.mk #[]) [r] [chain x rs]
theorem treeL_congr {s s':ByteArray} : ∀ {ks:List PT},(∀ c ∈ ks,treeN s' c=treeN s c)→treeL s' ks=treeL s ks
  | [],_=>by simp only [treeL]
  | c :: ks,h=>by
    simp only [treeL]
    rw [h c (List.mem_cons_self ..),treeL_congr fun c' hc=>h c' (List.mem_cons_of_mem _ hc)]
theorem ins_tree (h:Ins o T k X c) (hk:AsIs k) {px:PT} (hX:WfV X px) (hb:bl X 0=px.b) (he:bl X px.e=X.size) {ns:List (Nat×Nat)} {ks:List PT} (ho:WfV o (.mk 6 0 o.size ns ks)) (hc:c=false↔ks=[]) :
    ∃ pt,WfV T pt∧pt.b=0∧pt.e=T.size∧treeN T pt = .mk 6 (ByteArray.mk #[]) (ns.map (nmS o)++[k]) (treeL o ks++[treeN X px]):=by
  obtain ⟨hw,_⟩:=h.wfP hk hX hb he ho hc
  obtain ⟨w1,w2,w3,w4⟩:=Gk.wf_obj ho
  have hX':=hX.lt
  have ho1:=h.one
  refine ⟨_,hw,rfl,rfl,?_⟩
  have e1:ns.map (nmS T)=ns.map (nmS o):=List.map_congr_left fun n hn=>by
    obtain ⟨t',ht⟩:=List.mem_iff_getElem?.1 hn
    obtain ⟨s1,s2,s3⟩:=mem_span _ _ _ _ _ _ _ w4 ht
    have:=h.ag.nm (n:=n) (by omega) (Nat.zero_le _) s2 (by omega)
    exact this
  have e2:treeL T ks=treeL o ks:=treeL_congr fun c hc=>by
    obtain ⟨t',ht⟩:=List.mem_iff_getElem?.1 hc
    obtain ⟨c1,c2,c3⟩:=mem_kid w4 ht
    have:=ag_tree h.ag (by omega) _ c (Nat.lt_succ_self _) c1 (Nat.zero_le _) (by omega)
    rw [mvP_id] at this
    exact this
  have e3:treeN T (mvP 0 (inI o c+k.size+3) px)=treeN X px:=ag_tree h.agX (Nat.le_refl _) _ px (Nat.lt_succ_self _) hX (Nat.zero_le _) hX'.2
  rw [tree_eq]
  show NT.mk 6 (ByteArray.mk #[]) ((ns++[(inI o c,inI o c+1+k.size+1)]).map (nmS T)) (treeL T (ks++[mvP 0 (inI o c+k.size+3) px]))=_
  rw [List.map_append,treeL_snoc,e1,e2,e3]
  show NT.mk 6 _ (_++[nmS T (inI o c,inI o c+1+k.size+1)]) _=_
  rw [h.name hk]
theorem nst_tree {v:ByteArray} {pv:PT} (hv:WfV v pv) (hb:pv.b=0) (he:pv.e=v.size) : ∀ rs:List ByteArray,(∀ r ∈ rs,AsIs r) → ∃ px,WfV (mkB (nstL rs v.data.toList)) px∧px.b=0∧px.e=(mkB (nstL rs v.data.toList)).size∧treeN (mkB (nstL rs v.data.toList)) px=chain (treeN v pv) rs
  | [],_=>by
    have e:mkB (nstL [] v.data.toList)=v:=by
      have:nstL [] v.data.toList=v.data.toList:=by show []++(v.data.toList++[])=_;rw [List.nil_append,List.append_nil]
      rw [this,mkB_of]
    rw [e]
    exact ⟨pv,hv,hb,he,rfl⟩
  | r :: rs,hr=>by
    obtain ⟨px,a1,a2,a3,a4⟩:=nst_tree hv hb he rs fun r' h=>hr r' (List.mem_cons_of_mem _ h)
    have hI:=ins_of (o:=eO) (k:=r) (X:=mkB (nstL rs v.data.toList)) (c:=false) (by decide)
    have hk:=hr r (by simp)
    have hnb:=wf_nb a1
    rw [a2] at hnb
    have h0:bl (mkB (nstL rs v.data.toList)) 0=px.b:=by rw [a2];exact bl_no hnb
    have h1:bl (mkB (nstL rs v.data.toList)) px.e=(mkB (nstL rs v.data.toList)).size:=by rw [a3];exact bl_end (Nat.le_refl _)
    obtain ⟨pt,c1,c2,c3,c4⟩:=ins_tree hI hk a1 h0 h1 eO_wf (by simp)
    rw [nst_cons]
    refine ⟨pt,c1,c2,c3,?_⟩
    rw [c4,a4]
    simp only [treeL]
    rfl
theorem places_sw {p0 p p' q':PT} {keys:List ByteArray} (hL:Led s p0 keys p) (h:Sw s s' p p') (a1:WfV s' q') (a2:q'.b=p0.b) (a3:q'.e=sh p.e p'.e p0.e):places s'=some q':=by
  have c:=Ka.Lead.wf hL.lead hL.wf
  have hl:=hL.wf.lt
  have hlp:=h.lt
  have hle:=h.le
  refine places_of_wf ?_ a1 ?_
  · rw [a2]
    exact h.blP hL.at0 c.2.1 (by rw [← a2];exact wf_nb a1)
  · rw [a3,h.size]
    refine bl_eq rfl (by unfold sh;omega) (fun j g1 g2 => ?_) (by rw [← h.size,bt_end (Nat.le_refl _)];rfl)
    obtain ⟨k,hk,rfl⟩:=sh_back (u:=p.e) (v:=p'.e) (j:=j) (by have:=c.2.2.1;unfold sh at g1;omega)
    have g2:k<s.size:=(sh_lt hk).1 g2
    rw [h.suf k hk]
    exact bl_blank s p0.e k (by have:=c.2.2.1;unfold sh at g1;omega) (by rw [hL.fin];exact g2)
theorem newT_tree {v:ByteArray} {pv p0:PT} {ks1 toks:List ByteArray} {is:List Nat} {b e:Nat} {ns:List (Nat×Nat)} {ks:List PT} {rs:List ByteArray} (hL:Led s p0 ks1 (.mk 6 b e ns ks)) (hW:Way s p0 ks1 toks is (.mk 6 b e ns ks)) (hk:AsIs k) (hr : ∀ r ∈ rs,AsIs r)
    (hv:WfV v pv) (hvb:pv.b=0) (hve:pv.e=v.size) :
    ∃ q',places (newT s ks1 b e ks k rs v.data.toList)=some q'∧WfV (newT s ks1 b e ks k rs v.data.toList) q' ∧
      treeN (newT s ks1 b e ks k rs v.data.toList) q'=repl (.mk 6 (ByteArray.mk #[]) (ns.map (nmS s)++[k]) (treeL s ks++[chain (treeN v pv) rs])) is (treeN s p0):=by
  have hw:=hL.wfp
  obtain ⟨w1,w2,w3,w4⟩:=Gk.wf_obj hw
  obtain ⟨x1,x2⟩:=Gk.wfM_end _ _ _ _ _ w4
  obtain ⟨hA,hz,hO,hnm⟩:=obj_own hw
  obtain ⟨px,a1,a2,a3,a4⟩:=nst_tree hv hvb hve rs hr
  have hnb:=wf_nb a1
  rw [a2] at hnb
  have h0:bl (mkB (nstL rs v.data.toList)) 0=px.b:=by rw [a2];exact bl_no hnb
  have h1:bl (mkB (nstL rs v.data.toList)) px.e=(mkB (nstL rs v.data.toList)).size:=by rw [a3];exact bl_end (Nat.le_refl _)
  have main : ∀ (o T:ByteArray) (c:Bool) (nso:List (Nat×Nat)) (kso:List PT),newT s ks1 b e ks k rs v.data.toList=put s b e T→Ins o T k (mkB (nstL rs v.data.toList)) c→WfV o (.mk 6 0 o.size nso kso)→(c=false↔kso=[]) →
      nso.map (nmS o)=ns.map (nmS s)→treeL o kso=treeL s ks →
      ∃ q',places (newT s ks1 b e ks k rs v.data.toList)=some q'∧WfV (newT s ks1 b e ks k rs v.data.toList) q' ∧
        treeN (newT s ks1 b e ks k rs v.data.toList) q'=repl (.mk 6 (ByteArray.mk #[]) (ns.map (nmS s)++[k]) (treeL s ks++[chain (treeN v pv) rs])) is (treeN s p0):=by
    intro o T c nso kso hT hI ho hc hn hkk
    rw [hT]
    obtain ⟨pt,c1,c2,c3,c4⟩:=ins_tree hI hk a1 h0 h1 ho hc
    have hsw:=sw_put hL c1 c2 c3
    have hsw:Sw s (put s b e T) (.mk 6 b e ns ks) (mvP 0 b pt):=hsw
    have hAT:Ag T (put s b e T) 0 b T.size:=⟨fun j _ g=>by
      have:sh 0 b j=b+j:=by unfold sh;omega
      rw [this];exact put_mid (by omega) w2 g,by rw [put_size (by omega) w2];unfold sh;omega,Nat.zero_le _⟩
    have ht:=ag_tree hAT (Nat.le_refl _) _ pt (Nat.lt_succ_self _) c1 (Nat.zero_le _) (by omega)
    obtain ⟨q',d1,d2,d3,d4⟩:=tree_sw2 hW hsw hL.wf
    refine ⟨q',places_sw hL hsw d1 d2 d3,d1,?_⟩
    rw [d4,ht,c4,hn,hkk,a4]
  have hnO:(ns.map fun n=>(sh b 0 n.1,sh b 0 n.2)).map (nmS (s.extract b e))=ns.map (nmS s):=by
    rw [List.map_map]
    exact List.map_congr_left fun n hn=>hnm n hn
  have hkO:treeL (s.extract b e) (mvL b 0 ks)=treeL s ks:=agL hA ks fun c hc=>by
    obtain ⟨t',ht⟩:=List.mem_iff_getElem?.1 hc
    obtain ⟨c1,c2,c3⟩:=mem_kid w4 ht
    exact ag_tree hA (by omega) _ c (Nat.lt_succ_self _) c1 (by omega) (by omega)
  have hmv:mvL b 0 ks=[]↔ks=[]:=by
    have:=mvL_len b 0 ks
    constructor
    · intro h;rw [h] at this;exact List.eq_nil_of_length_eq_zero this.symm
    · intro h;subst h;unfold mvL;rfl
  by_cases hks:ks=[]
  · by_cases hk1:ks1=[]
    · have hT:newT s ks1 b e ks k rs v.data.toList=put s b e (mkB (insL (s.extract b e) false k (mkB (nstL rs v.data.toList)))):=by
        unfold newT;rw [if_neg (fun g=>g hks),if_pos hk1,Ka.put_ins w1 w2 x2]
      exact main _ _ false _ _ hT (ins_of (by omega)) hO ⟨fun _=>hmv.2 hks,fun _=>rfl⟩ hnO hkO
    · have hT:newT s ks1 b e ks k rs v.data.toList=put s b e (mkB (insL eO false k (mkB (nstL rs v.data.toList)))):=by
        unfold newT;rw [if_neg (fun g=>g hks),if_neg hk1,Ka.comp_nst,nst_cons]
      have hns:ns=[]:=by
        have:=wfM_lens _ _ _ _ _ w4
        rw [hks] at this
        exact List.eq_nil_of_length_eq_zero this
      exact main _ _ false [] [] hT (ins_of (by decide)) eO_wf ⟨fun _=>rfl,fun _=>rfl⟩ (by rw [hns];rfl) (by rw [hks];simp only [treeL])
  · have hT:newT s ks1 b e ks k rs v.data.toList=put s b e (mkB (insL (s.extract b e) true k (mkB (nstL rs v.data.toList)))):=by
      unfold newT;rw [if_pos hks,Ka.put_ins w1 w2 x2]
    exact main _ _ true _ _ hT (ins_of (by omega)) hO ⟨(fun g=>by cases g),fun g=>absurd (hmv.1 g) hks⟩ hnO hkO
theorem arr_one {a v:ByteArray} {pa:PT} (ha:WfV a pa) (hab:bl a 0=pa.b) (hae:bl a pa.e=a.size) (hv:v=mkB ([91]++(a.data.toList++[93]))) :
    ∃ pv,WfV v pv∧pv.b=0∧pv.e=v.size∧treeN v pv = .mk 5 (ByteArray.mk #[]) [] [treeN a pa]:=by
  have hl:=ha.lt
  have hg:=bl_ge a pa.e
  have hz:v.size=a.size+2:=by rw [hv,mkB_size];simp only [List.length_append,List.length_cons,List.length_nil,len_of];omega
  have b0:bt v ((0:Nat):Int)=91:=by rw [hv];rfl
  have bm : ∀ j,j<a.size→bt v ((1+j:Nat):Int)=bt a (j:Int):=fun j hj=>by
    rw [hv,bt_ap2 (a:=[91]) (i:=1+j) (j:=j) rfl,bt_ap1 (by rw [len_of];exact hj),mkB_of]
  have be:bt v ((1+a.size:Nat):Int)=93:=by
    rw [hv,bt_ap2 (a:=[91]) (i:=1+a.size) (j:=a.size) rfl,bt_ap2 (a:=a.data.toList) (i:=a.size) (j:=0) (by rw [len_of];omega)];rfl
  have e1 : ∀ j,sh 0 1 j=1+j:=fun j=>by unfold sh;omega
  have hA:Ag a v 0 1 a.size:=⟨fun j _ g=>by rw [e1];exact bm j g,by rw [e1];omega,Nat.zero_le _⟩
  have hw:WfV v (mvP 0 1 pa):=by
    refine hA.wfV pa ha (Nat.zero_le _) ?_
    rcases Nat.lt_or_ge pa.e a.size with g | g
    · exact .inl g
    · refine .inr ⟨by omega,?_⟩
      rw [e1,be]
      exact ⟨rfl,by decide,by decide,by decide⟩
  have hb1:bl v 1=1+pa.b:=by
    have:=hA.m_bl (i:=0) (Nat.le_refl _) (by omega)
    rw [e1,e1,hab] at this
    exact this
  have hb2:bl v (1+pa.e)=1+a.size:=by
    refine bl_eq rfl (by omega) (fun j g1 g2 => ?_) (by rw [be];rfl)
    have:=bm (j-1) (by omega)
    rw [show 1+(j-1)=j by omega] at this
    rw [this]
    exact bl_blank a pa.e _ (by omega) (by omega)
  refine ⟨.mk 5 0 v.size [] [mvP 0 1 pa],?_,rfl,rfl,?_⟩
  · unfold WfV WfE WfE
    refine ⟨by omega,Nat.le_refl _,.inr (.inr (.inl ⟨rfl,rfl,b0,?_,hw,?_,?_⟩))⟩
    · show (mvP 0 1 pa).b=bl v (0+1)
      rw [mvP_b,e1];exact hb1.symm
    · rw [mvP_e,e1,hb2];exact be
    · rw [mvP_e,e1,hb2];omega
  · rw [tree_eq]
    show NT.mk 5 (ByteArray.mk #[]) [] (treeL v [mvP 0 1 pa])=_
    simp only [treeL]
    rw [ag_tree hA (Nat.le_refl _) _ pa (Nat.lt_succ_self _) ha (Nat.zero_le _) hl.2]
end Go.Proofs.YtlfebfkphgelfaaGreatDoor.Ed
namespace Go.Proofs.YtlfebfkphgelfaaGreatDoor.Nt
open Go Go.Proofs Go.RowKit Rx Tr Pl Pw
open Sr (Sl slV RowIn)
open Lj (Any index_any)
open Ed (Plc Pth repl repl_cons)
variable {w w':World} {B B':Nat→Prop}
theorem build0 {P:Program} {t e:TypeId} {i:TypeInfo} (ht:P.underlying t=some (.slice e)) (hi:P.info? e=some i) :
    (Instr.buildSlice t 0 #[]).run P w = .ok (.slice (some ⟨w.heap.size,0,none⟩) 0 0) (w.alloc (.cells #[] e)):=by
  simp [Instr.buildSlice,run_underlying ht,Go.sizeOf,typeInfo,hi,Instr.fill,newRow]
  congr 2
  exact Array.eq_empty_of_size_eq_zero (by simp)
theorem own0 {e:TypeId} {size:Nat} (w:World) (base:Nat) (hb:base≤w.heap.size):(w.alloc (.cells #[] e)).ownsRow base e size (.slice (some ⟨w.heap.size,0,none⟩) 0 0) 0 []:=
  World.ownsRow_lit w #[] 0 hb (Nat.zero_le _) (by simp)
theorem copy_run {P:Program} {base:Nat} {t e:TypeId} {i:TypeInfo} {z0:Value} {size:Nat} (ht:P.underlying t=some (.slice e)) (hi:P.info? e=some i) (hz:i.zero=some z0)
    (hsize:i.size=size) (hby:i.bytes≤1024) (hzs:z0.cells.size=size) (h0:0<size) {v:Sl} {n:Nat} {xs:List Value} (hr:RowIn B w v n xs size) (h1 : ∀ u ∈ xs,u.oneCell'=true) (hn:n≤4294967295) {g0:Nat}
    (hown:w.ownsRow base e size (.slice (some ⟨g0,0,none⟩) 0 0) 0 []) (hbase:base≤w.heap.size) :
    ∃ (v':Sl) (w2:World),(Builtin.append_ #[t,t] t #[.slice (some ⟨g0,0,none⟩) 0 0,slV v]).run P w = .ok (slV v') w2∧w2.ownsRow base e size (slV v') n xs∧Kp Off w w2∧v'.2.1=n∧(∀ b,some b=(slV v').ownBlock→b=g0∨w.heap.size≤b):=by
  obtain ⟨a,l,c⟩:=v
  obtain ⟨hl,hx,hr⟩:=hr
  have hl:l=n:=hl
  subst hl
  rcases Nat.eq_zero_or_pos l with h | h
  · subst h
    have hx0:xs=[]:=List.eq_nil_of_length_eq_zero (by rw [hx,Nat.zero_mul])
    subst hx0
    refine ⟨(some ⟨g0,0,none⟩,0,0),w,?_,hown,Kp.refl _ _,rfl,fun b hb => .inl (Option.some.inj hb)⟩
    show (Builtin.append_ #[t,t] t #[.slice (some ⟨g0,0,none⟩) 0 0,.slice a 0 c]).run P w=_
    cases a <;> simp [Builtin.append_,run_underlying ht,Go.sizeOf,typeInfo,hi,Builtin.lenOf,Builtin.firstCells,loadCells,loadCellsFrom,storeCells,slV]
  · rcases hr with hr | ⟨g,hg,_,_,hc⟩
    · omega
    have hg:a=some ⟨g,0,none⟩:=hg
    subst hg
    subst hsize
    have hbytes:(0+l) * i.bytes≤140737488355328:=by
      have:(0+l) * i.bytes≤4294967295 * 1024:=Nat.mul_le_mul (by omega) hby
      omega
    obtain ⟨v',w2,h2,h3,h4,h5,h6⟩:=run_append_own_at (P:=P) (w:=w) base t t e i z0 i.size i.bytes ht hi hz rfl rfl hzs h0 _ 0 [] hown ⟨g,0,none⟩ l c xs (by rw [hx]) (fun j u hj=>by
      rw [addr_add,Nat.zero_add];exact hc j u hj) h1 (by simp only [maxLen];omega) hbytes hbase
    rw [Nat.zero_add,List.nil_append] at h3
    have hko:Kp Off w w2:=by
      have hr:=run_append_grow (P:=P) (w:=w) t t e i z0 ht hi hz ⟨g0,0,none⟩ 0 0 [] (by simp) (fun j u hj=>by simp at hj) ⟨g,0,none⟩ l c xs (by rw [hx]) (fun j u hj=>by
        rw [addr_add,Nat.zero_add];exact hc j u hj) (by omega) (by omega) (growslice_fits (by omega) hbytes)
      have hr:=(Result.ok.inj (h2.symm.trans hr)).2
      subst hr
      exact ((Kp.refl Off w).drew).alloc _
    obtain ⟨q1,⟨rfl,q2⟩ | ⟨g2,cap,cur,rfl,q3,q4,q5,q6,q7,q8⟩⟩:=h3
    · omega
    · refine ⟨(some ⟨g2,0,none⟩,l,cap),w2,h2,⟨q1,.inr ⟨g2,cap,cur,rfl,q3,q4,q5,q6,q7,q8⟩⟩,hko,rfl,fun b hb => ?_⟩
      · have hb:b=g2:=by simpa [slV,Value.ownBlock] using hb
        subst hb
        rcases h6 with h6 | h6
        · left;simpa [Value.ownBlock] using h6
        · right
          have:b=w.heap.size:=by simpa [Value.ownBlock] using h6
          omega
end Go.Proofs.YtlfebfkphgelfaaGreatDoor.Nt
namespace Go.Proofs.YtlfebfkphgelfaaGreatDoor.Nt
open Go Go.Proofs Go.RowKit Rx Tr Pl Pw
open Sr (Sl slV RowIn)
open Lj (Any index_any)
open Ed (Plc Pth repl repl_cons)
variable {w w':World} {B B':Nat→Prop}
def Ext (B:Nat→Prop) (w:World) (q:Nat):Prop:=(q<w.heap.size∧B q)∨w.heap.size≤q
def NdX (B:Nat→Prop) (w:World) (nt:NT) (e:Ending) (w':World):Prop := ∃ (a b:Sl),e = .returned (.agg (nc nt.k nt.t a b).toArray)∧NdAt (Ext B w) w' nt (nc nt.k nt.t a b)∧Kp Off w w'
theorem NdAt.to {n:NT} {cs:List Value} (h:NdAt B w n cs) (k:Kp Off w w') (f : ∀ q,q<w.heap.size→B q→B' q):NdAt B' w' n cs:=h.kp k fun q hq hB=>⟨f q hq hB,id⟩
theorem NdAt.any {n:NT} {cs:List Value} (h:NdAt B w n cs) (k:Kp Off w w'):NdAt Any w' n cs:=h.kp k fun _ _ _=>⟨trivial,id⟩
theorem AllN.len : ∀ {kids:List NT} {xs:List Value},AllN B w kids xs→xs.length=kids.length * 4
  | [],xs,h=>by unfold AllN at h;subst h;rfl
  | n :: kids,xs,h=>by
    unfold AllN at h
    obtain ⟨cs,ys,rfl,h1,h2⟩:=h
    obtain ⟨a,b,_,rfl,_⟩:=h1.inv
    rw [List.length_append,AllN.len h2,List.length_cons]
    show 4+_=_
    omega
theorem AllN.one : ∀ {kids:List NT} {xs:List Value},AllN B w kids xs → ∀ u ∈ xs,u.oneCell'=true
  | [],xs,h=>by unfold AllN at h;subst h;intro u hu;cases hu
  | n :: kids,xs,h=>by
    unfold AllN at h
    obtain ⟨cs,ys,rfl,h1,h2⟩:=h
    obtain ⟨a,b,_,rfl,_⟩:=h1.inv
    intro u hu
    rcases List.mem_append.1 hu with hu | hu
    · exact nc_oneC _ _ _ _ u hu
    · exact AllN.one h2 u hu
theorem AllN.set {x:NT} {cs:List Value} (hx:NdAt B w x cs) : ∀ {kids:List NT} {xs:List Value} {i:Nat},AllN B w kids xs→i<kids.length→AllN B w (kids.set i x) (xs.take (i * 4)++(cs++xs.drop (i * 4+4)))
  | [],_,_,_,h=>absurd h (Nat.not_lt_zero _)
  | n :: kids,xs,i,h,hi=>by
    unfold AllN at h
    obtain ⟨cn,ys,rfl,h1,h2⟩:=h
    have hl:cn.length=4:=by
      obtain ⟨a,b,_,rfl,_⟩:=h1.inv
      rfl
    cases i with
    | zero=>
      have e1:(cn++ys).drop (0 * 4+4)=ys:=by rw [Nat.zero_mul,Nat.zero_add,← hl];exact List.drop_left
      rw [e1,Nat.zero_mul,List.take_zero,List.nil_append,List.set_cons_zero]
      unfold AllN
      exact ⟨cs,ys,rfl,hx,h2⟩
    | succ i=>
      have e1:(cn++ys).drop ((i+1) * 4+4)=ys.drop (i * 4+4):=by
        rw [show (i+1) * 4+4=cn.length+(i * 4+4) by omega,List.drop_append]
        simp
      have e2:(cn++ys).take ((i+1) * 4)=cn++ys.take (i * 4):=by
        rw [show (i+1) * 4=cn.length+i * 4 by omega,List.take_append,List.take_of_length_le (by omega),Nat.add_sub_cancel_left]
      rw [e1,e2,List.set_cons_succ,List.append_assoc]
      unfold AllN
      exact ⟨cn,_,rfl,h1,AllN.set hx h2 (by simpa using hi)⟩
theorem put_elem {base n cap i g:Nat} {xs cs:List Value} (h:w.ownsRow base tN 4 (.slice (some ⟨g,0,none⟩) n cap) n xs) (hi:i<n) (hc:cs.length=4) (h1 : ∀ u ∈ cs,u.oneCell'=true) :
    ∃ w',(Instr.storeAt tN (.pointer (some ⟨g,i * 4,none⟩)) (.agg cs.toArray)).run Tryz.prog w = .ok () w'∧RowIn (fun q=>q=g) w' (some ⟨g,0,none⟩,n,cap) n (xs.take (i * 4)++(cs++xs.drop (i * 4+4))) 4∧Kp (On g) w w':=by
  have hxl:xs.length=n * 4:=h.1
  have hcell:=fun j hj=>World.ownsRow.cellAt h j hj
  obtain ⟨_,⟨q,_⟩ | ⟨g',cap',cur,hv,hbg,hg,hnc,hcm,hcs,htake⟩⟩:=id h
  · cases q
  have hv':g'=g∧cap'=cap:=by
    simp only [Value.slice.injEq,Option.some.injEq,Addr.mk.injEq,and_true,true_and] at hv
    exact ⟨hv.1.symm,hv.2.symm⟩
  obtain ⟨rfl,rfl⟩:=hv'
  have hsome : ∀ j,j<cs.length→(w.cell? ⟨g',i * 4+0+j,none⟩).isSome=true:=fun j hj=>by
    rw [hcell _ (by omega),List.getElem?_eq_getElem (by omega)];rfl
  have hfz : ∀ j,j<cs.length→w.frozen? ⟨g',i * 4+0+j,none⟩=false:=fun j hj=>by
    simp [World.frozen?,hg]
  have hst:=run_storeCells_cells (P:=Tryz.prog) g' (i * 4) cs 0 w hsome hfz h1
  rw [Nat.add_zero] at hst
  have hin:=fun j hj=>World.cell?_setCells_in g' cs (i * 4) w (fun j hj=>by have:=hsome j hj;rwa [Nat.add_zero] at this) j hj
  have hout:=fun j hj=>World.cell?_setCells_out g' cs (i * 4) w ⟨g',j,none⟩ hj
  have hgl:g'<w.heap.size:=(Array.getElem?_eq_some_iff.1 hg).1
  have kk:=Ka.kp_set g' cs (i * 4) w
  refine ⟨w.setCells g' (i * 4) cs,?_,⟨rfl,?_,.inr ⟨g',rfl,rfl,Nat.lt_of_lt_of_le hgl kk.size,fun j u hj => ?_⟩⟩,kk⟩
  · have hti:=info_some (P:=Tryz.prog) (t:=tN) (by kernel_rfl)
    have hs:((Tryz.prog.info? tN).get (by kernel_rfl)).size=4:=by kernel_rfl
    simp only [Instr.storeAt,Instr.sureAddr,storeVar,Sem.run_bind,Sem.run_pure,Result.andThen_ok,run_size hti,Value.cells]
    simp [hs,hc]
    exact hst
  · rw [List.length_append,List.length_append,List.length_take,List.length_drop];omega
  · rcases Nat.lt_or_ge j (i * 4) with g1 | g1
    · rw [List.getElem?_append_left (by rw [List.length_take];omega),List.getElem?_take,if_pos g1] at hj
      rw [hout j (fun _ _ => .inl g1),hcell j (by omega)]
      exact hj
    · rw [List.getElem?_append_right (by rw [List.length_take];omega)] at hj
      have e0:(xs.take (i * 4)).length=i * 4:=by rw [List.length_take];omega
      rw [e0] at hj
      rcases Nat.lt_or_ge (j-i * 4) cs.length with g2 | g2
      · rw [List.getElem?_append_left g2,List.getElem?_eq_getElem g2] at hj
        have:=hin (j-i * 4) g2
        rw [show i * 4+(j-i * 4)=j by omega] at this
        rw [this];exact hj
      · rw [List.getElem?_append_right g2,List.getElem?_drop] at hj
        have e1:i * 4+4+(j-i * 4-cs.length)=j:=by omega
        rw [e1] at hj
        have hjx:=(List.getElem?_eq_some_iff.1 hj).1
        rw [hout j (fun _ _ => .inr (show i * 4+cs.length≤j by omega)),hcell j (by omega)]
        exact hj
theorem member_any {n:NT} {a b:Sl} {name:ByteArray} (hn:NdAt B w n (nc n.k n.t a b)) (hl:n.keys.length≤4294967296) :
    Calls Tryz.prog 39 #[.agg (nc n.k n.t a b).toArray,.string name] w fun e w'=>(∃ r:Int,e = .returned (.int .i64 r)∧((r = -1 ∧ ∀ (j:Nat) (x:ByteArray),n.keys[j]?=some x→x≠name) ∨ ∃ i:Nat,r=(i:Int)∧n.keys[i]?=some name ∧ ∀ (j:Nat) (x:ByteArray),j<i→n.keys[j]?=some x→x≠name))∧Kp Off w w':=by
  obtain ⟨xs,hr1,hr2,hall⟩:=hn.rows
  refine spec_Member.calls _ _ _ _ _ _ _ _ _ ?_
  unfold spec_Member.t
  refine s_alloc ?_
  have b0:=Blk.new w (nc n.k n.t a b) tN
  have k0:Kp Off w (w.alloc (.cells (nc n.k n.t a b).toArray tN (0,0))):=(Kp.refl Off w).alloc _
  show sat _ _ _ (w.alloc (.cells (nc n.k n.t a b).toArray tN (0,0)))
  generalize w.alloc (.cells (nc n.k n.t a b).toArray tN (0,0))=w1 at k0 b0
  obtain ⟨l1,l2,l3⟩:=Lj.RowIn.any hr1 k0
  refine s_load a (by rw [addr_add,Nat.zero_add,b0.cell];rfl) ?_
  refine s_loop (fun m z w' => ∃ i:Nat,m=n.keys.length-i∧z=((i:Int),())∧i≤n.keys.length∧(∀ (j:Nat) (x:ByteArray),j<i→n.keys[j]?=some x→x≠name)∧w1=w') n.keys.length ((0:Int),()) rfl ⟨0,rfl,rfl,Nat.zero_le _,fun j x h=>absurd h (Nat.not_lt_zero _),rfl⟩ ?_
  rintro m z w2 ⟨i,rfl,rfl,hi,hj,rfl⟩
  show sat _ (spec_Member.t1 name a (i:Int)) _ _
  unfold spec_Member.t1
  refine s_iteD (fun hlt => ?_) (fun hge=>s_leaf ?_)
  · have hin:i<n.keys.length:=by omega
    rcases l3 with l3 | ⟨g,a1,_,_,a4⟩
    · omega
    have hk:(n.keys.map strV)[i]?=some (strV n.keys[i]):=by rw [List.getElem?_map,List.getElem?_eq_getElem hin];rfl
    refine s_chk ⟨by omega,by omega⟩ ⟨_,a1,?_⟩
    refine s_load n.keys[i] (by rw [addr_add,Int.toNat_natCast,Nat.zero_add,Nat.mul_one];exact a4 _ _ hk) ?_
    refine s_ite (fun h=>s_leaf ?_) (fun h=>s_leaf ?_)
    · rw [if_neg (by decide)]
      have h:=strEq_iff.1 h
      exact ⟨rfl,⟨(i:Int),rfl,.inr ⟨i,rfl,by rw [← h];exact List.getElem?_eq_getElem hin,hj⟩⟩,k0⟩
    · rw [if_pos rfl]
      have w1':IntKind.wrap IntKind.i64 ((i:Int)+1)=((i+1:Nat):Int):=by rw [wrap_in (by omega) (by omega)];omega
      rw [w1']
      refine ⟨n.keys.length-(i+1),(((i+1:Nat):Int),()),rfl,by omega,i+1,rfl,rfl,hin,fun j x hji hx => ?_,rfl⟩
      rcases Nat.lt_or_ge j i with g1 | g1
      · exact hj j x g1 hx
      · have:j=i:=by omega
        subst this
        rw [List.getElem?_eq_getElem hin] at hx
        cases hx
        intro hc
        rw [strEq_iff.2 hc] at h;cases h
  · rw [if_neg (by decide)]
    refine ⟨rfl,⟨-1,rfl,.inl ⟨rfl,fun j x hx => ?_⟩⟩,k0⟩
    have:=(List.getElem?_eq_some_iff.1 hx).1
    exact hj j x (by omega) hx
theorem place_any {n:NT} {a b:Sl} {tok:ByteArray} {i:Nat} (hn:NdAt B w n (nc n.k n.t a b)) (hsm:Sm n) (hp:Plc n tok i) (hi:i<n.kids.length) :
    Calls Tryz.prog 43 #[.agg (nc n.k n.t a b).toArray,.string tok] w fun e w'=>e = .returned (.tuple #[.int .i64 (i:Int),.bool true])∧Kp Off w w':=by
  obtain ⟨m1,m2,m3⟩:=hsm.inv
  obtain ⟨xs,hr1,hr2,hall⟩:=hn.rows
  refine spec_place.calls _ _ _ _ _ _ _ _ _ ?_
  unfold spec_place.t
  refine s_alloc ?_
  have b0:=Blk.new w (nc n.k n.t a b) tN
  have k0:Kp Off w (w.alloc (.cells (nc n.k n.t a b).toArray tN (0,0))):=(Kp.refl Off w).alloc _
  show sat _ _ _ (w.alloc (.cells (nc n.k n.t a b).toArray tN (0,0)))
  generalize w.alloc (.cells (nc n.k n.t a b).toArray tN (0,0))=w1 at k0 b0
  refine s_load (n.k:Int) (by rw [addr_add,Nat.zero_add,b0.cell];rfl) ?_
  rcases hp with ⟨h6,hk,hf⟩ | ⟨h5,hd,h48,hz⟩
  · refine s_iteE (fun _ => ?_) (fun g=>absurd (by omega) g)
    refine s_eff (w':=w1) ((n.k:Int),n.t,a,b,()) (loadN b0) (s_call (member_any (hn.any k0) (by omega)) ?_)
    rintro e w2 ⟨⟨r,rfl,hr⟩,k2⟩
    have hri:r=(i:Int):=by
      rcases hr with ⟨_,h⟩ | ⟨i',rfl,h1,h2⟩
      · exact absurd rfl (h i _ hk)
      · rcases Nat.lt_trichotomy i i' with g | g | g
        · exact absurd rfl (h2 i _ g hk)
        · rw [g]
        · exact absurd rfl (hf i' _ g h1)
    subst hri
    refine ⟨(i:Int),rfl,s_leaf ⟨rfl,?_,k0.trans k2⟩⟩
    have:decide ((i:Int) ≥ (0:Int))=true:=decide_eq_true (by omega)
    show Ending.returned (retVal [.int .i64 (i:Int),.bool (decide ((i:Int) ≥ (0:Int)))])=_
    rw [this];rfl
  · refine s_iteE (fun g=>absurd g (by omega)) (fun _=>s_iteE (fun _ => ?_) (fun g=>absurd (by omega) g))
    refine s_call (index_any (by omega)) ?_
    rintro e w2 ⟨⟨i',bb,rfl,_,h2⟩,rfl⟩
    obtain ⟨rfl,rfl⟩:=h2 i hd h48 hz
    refine ⟨((i':Int),true,()),rfl,s_drew ?_⟩
    have kd:Kp Off w2 w2.drew:=(Kp.refl Off w2).drew
    have b1:=kd.blk b0 id
    refine sat_iteT.2 (s_load b (by rw [addr_add,Nat.zero_add,b1.cell];rfl) (s_leaf ⟨rfl,?_,k0.trans kd⟩))
    have:decide ((i':Int)<((b.2.1:Nat):Int))=true:=decide_eq_true (by have:=hr2.1;omega)
    show Ending.returned (retVal [.int .i64 (i':Int),.bool (decide ((i':Int)<((b.2.1:Nat):Int)))])=_
    rw [this];rfl
theorem with_any {n x:NT} {a b a' b':Sl} {i:Nat} (hn:NdAt B w n (nc n.k n.t a b)) (hx:NdAt B w x (nc x.k x.t a' b')) (hsm:Sm n) (hi:i<n.kids.length) :
    Calls Tryz.prog 41 #[.agg (nc n.k n.t a b).toArray,.int .i64 (i:Int),.agg (nc x.k x.t a' b').toArray] w (NdX B w (.mk n.k n.t n.keys (n.kids.set i x))):=by
  obtain ⟨m1,m2,m3⟩:=hsm.inv
  obtain ⟨xs,hr1,hr2,hall⟩:=hn.rows
  refine spec_with.calls _ _ _ _ _ _ _ _ _ _ _ _ _ _ _ _ _ ?_
  unfold spec_with.t
  refine s_alloc ?_
  have b0:=Blk.new w (nc n.k n.t a b) tN
  have k0:Kp Off w (w.alloc (.cells (nc n.k n.t a b).toArray tN (0,0))):=(Kp.refl Off w).alloc _
  have z0:(w.alloc (.cells (nc n.k n.t a b).toArray tN (0,0))).heap.size=w.heap.size+1:=by simp
  show sat _ _ _ (w.alloc (.cells (nc n.k n.t a b).toArray tN (0,0)))
  generalize w.alloc (.cells (nc n.k n.t a b).toArray tN (0,0))=w1 at k0 b0 z0
  refine s_alloc ?_
  have b1:=Blk.new w1 (nc x.k x.t a' b') tN
  have k1:Kp Off w1 (w1.alloc (.cells (nc x.k x.t a' b').toArray tN (0,0))):=(Kp.refl Off w1).alloc _
  have z1:(w1.alloc (.cells (nc x.k x.t a' b').toArray tN (0,0))).heap.size=w1.heap.size+1:=by simp
  show sat _ _ _ (w1.alloc (.cells (nc x.k x.t a' b').toArray tN (0,0)))
  generalize w1.alloc (.cells (nc x.k x.t a' b').toArray tN (0,0))=w2 at k1 b1 z1
  refine s_alloc ?_
  have b2:=Blk.new w2 zn tN
  have k2:Kp Off w2 (w2.alloc (.cells zn.toArray tN (0,0))):=(Kp.refl Off w2).alloc _
  have z2:(w2.alloc (.cells zn.toArray tN (0,0))).heap.size=w2.heap.size+1:=by simp
  show sat _ _ _ (w2.alloc (.cells zn.toArray tN (0,0)))
  generalize w2.alloc (.cells zn.toArray tN (0,0))=w3 at k2 b2 z2
  rw [z1,z0] at b2
  rw [z0] at b1
  rw [show (w2.heap.size)=w.heap.size+2 by omega,show w1.heap.size=w.heap.size+1 by omega]
  have b03:=k2.blk (k1.blk b0 id) id
  have b13:=k2.blk b1 id
  have k03:=(k0.trans k1).trans k2
  have z3:w3.heap.size=w.heap.size+3:=by omega
  clear b0 b1 k0 k1 k2 z0 z1 z2
  have hti:=info_some (P:=Tryz.prog) (t:=tN) (by kernel_rfl)
  refine s_eff (w':=w3.alloc (.cells #[] tN)) (some ⟨w3.heap.size,0,none⟩,0,0) (build0 Tryz.underlying32 hti) ?_
  have ho:=own0 (e:=tN) (size:=4) w3 w3.heap.size (Nat.le_refl _)
  have k4:Kp Off w3 (w3.alloc (.cells #[] tN)):=(Kp.refl Off w3).alloc _
  have z4:(w3.alloc (.cells #[] tN)).heap.size=w3.heap.size+1:=by simp
  generalize w3.alloc (.cells #[] tN)=w4 at ho k4 z4
  have b04:=k4.blk b03 id
  have b14:=k4.blk b13 id
  have b24:=k4.blk b2 id
  have k04:=k03.trans k4
  refine s_load b (by rw [addr_add,Nat.zero_add,b04.cell];rfl) ?_
  obtain ⟨v',w5,h5,hrow,k5,hlen,hblk⟩:=copy_run (P:=Tryz.prog) (t:=tNs) (z0 := .agg zn.toArray) Tryz.underlying32 hti (by kernel_rfl) (by kernel_rfl) (of_decide_eq_true (by kernel_rfl)) rfl (by decide) (Lj.RowIn.any hr2 k04) hall.one (by omega) ho (by omega)
  refine s_eff v' h5 ?_
  have k45:Kp (On w3.heap.size) w4 w5:=k5.mono fun q _ h=>h.elim
  have b05:=k45.blk b04 (fun h=>by have h:w.heap.size=w3.heap.size:=h;omega)
  have b15:=k45.blk b14 (fun h=>by have h:w.heap.size+1=w3.heap.size:=h;omega)
  have b25:=k45.blk b24 (fun h=>by have h:w.heap.size+2=w3.heap.size:=h;omega)
  have k05:Kp Off w w5:=k04.then k45 fun q hq h=>by have h:q=w3.heap.size:=h;omega
  refine s_eff (w':=w5) ((x.k:Int),x.t,a',b',()) (loadN b15) (s_chk ⟨by omega,by rw [hlen];omega⟩ ?_)
  obtain ⟨pa,pn,pc⟩:=v'
  have hlen:pn=n.kids.length:=hlen
  subst hlen
  obtain ⟨hq1,⟨hq2,_⟩ | ⟨g,cap,cur,hq2,hq3,hq4,hq5,hq6,hq7,hq8⟩⟩:=id hrow
  · simp only [slV,Value.slice.injEq] at hq2;omega
  have hq2':pa=some ⟨g,0,none⟩∧pc=cap:=by
    simp only [slV,Value.slice.injEq,true_and] at hq2
    exact hq2
  obtain ⟨rfl,rfl⟩:=hq2'
  have hg:w3.heap.size≤g:=by
    rcases hblk g rfl with h | h <;> omega
  refine ⟨_,rfl,?_⟩
  obtain ⟨w6,h6,hrow6,k6⟩:=put_elem (cs:=nc x.k x.t a' b') hrow hi rfl (nc_oneC _ _ _ _)
  refine s_effU (by rw [addr_add,Int.toNat_natCast,Nat.zero_add];exact h6) ?_
  have b06:=k6.blk b05 (fun h=>by have h:w.heap.size=g:=h;omega)
  have b26:=k6.blk b25 (fun h=>by have h:w.heap.size+2=g:=h;omega)
  have k06:Kp Off w w6:=k05.then k6 fun q hq h=>by have h:q=g:=h;omega
  refine s_store (by rw [addr_add,Nat.zero_add];exact b06.cell 3) (by rw [addr_add,Nat.zero_add];exact b06.free 3) ?_
  rw [addr_add,Nat.zero_add]
  have b07:=b06.set 3 (slV (some ⟨g,0,none⟩,n.kids.length,pc))
  have k7:Kp (On w.heap.size) w6 (w6.setCell ⟨w.heap.size,3,none⟩ (slV (some ⟨g,0,none⟩,n.kids.length,pc))):=(Kp.refl _ w6).on 3 _
  show sat _ _ _ (w6.setCell ⟨w.heap.size,3,none⟩ (slV (some ⟨g,0,none⟩,n.kids.length,pc)))
  generalize w6.setCell ⟨w.heap.size,3,none⟩ (slV (some ⟨g,0,none⟩,n.kids.length,pc))=w7 at b07 k7
  have b07:Blk w7 w.heap.size (nc n.k n.t a (some ⟨g,0,none⟩,n.kids.length,pc)) tN:=b07
  have b27:=k7.blk b26 (fun h=>by have h:w.heap.size+2=w.heap.size:=h;omega)
  have k07:Kp Off w w7:=k06.then k7 fun q hq h=>by have h:q=w.heap.size:=h;omega
  refine s_eff (w':=w7) ((n.k:Int),n.t,a,(some ⟨g,0,none⟩,n.kids.length,pc),()) (loadN b07) ?_
  obtain ⟨w8,h8,c8,k8⟩:=storeN b27 rfl n.k n.t a (some ⟨g,0,none⟩,n.kids.length,pc)
  refine s_effU h8 (s_effS ((n.k:Int),n.t,a,(some ⟨g,0,none⟩,n.kids.length,pc),()) (loadN c8) (s_leaf ⟨rfl,a,(some ⟨g,0,none⟩,n.kids.length,pc),rfl,?_,k07.then k8 fun q hq h=>by have h:q=w.heap.size+2:=h;omega⟩))
  have k68:Kp (fun q=>q=w.heap.size∨q=w.heap.size+2) w6 w8:=(k7.mono fun q _ h => .inl h).trans (k8.mono fun q _ h => .inr h)
  have k08:Kp Off w w8:=k07.then k8 fun q hq h=>by have h:q=w.heap.size+2:=h;omega
  have up : ∀ q,q<w.heap.size→B q→Ext B w q ∧ ¬ Off q:=fun q hq hB=>⟨.inl ⟨hq,hB⟩,id⟩
  have hx8:NdAt (Ext B w) w8 x (nc x.k x.t a' b'):=hx.kp k08 up
  have hall8:AllN (Ext B w) w8 n.kids xs:=hall.kp k08 up
  refine NdAt.mk' (Sr.RowIn.kp k08 up hr1) ?_ (AllN.set hx8 hall8 hi)
  rw [List.length_set]
  exact Sr.RowIn.kp k68 (fun q _ hq=>⟨.inr (by omega),fun h=>by rcases h with h | h <;> omega⟩) hrow6
end Go.Proofs.YtlfebfkphgelfaaGreatDoor.Nt
namespace Go.Proofs.YtlfebfkphgelfaaGreatDoor.Nt
open Go Go.Proofs Go.RowKit Rx Tr Pl Pw
open Sr (Sl slV RowIn)
open Lj (Any)
open Ed (Plc Pth repl repl_cons)
open Ka (Kx s_key s_key0)
variable {w w':World} {B B':Nat→Prop}
theorem s_alloc3 {P:Program} {Q:Nat→List Value→World→Prop} {w:World} {T0 T1 T2:TypeId} (cs0 cs1 cs2:List Value) {K:Addr→Addr→Addr→T}
    (hK : ∀ w3,Blk w3 w.heap.size cs0 T0→Blk w3 (w.heap.size+1) cs1 T1→Blk w3 (w.heap.size+2) cs2 T2→Kp Off w w3→w3.heap.size=w.heap.size+3→sat P (K ⟨w.heap.size,0,none⟩ ⟨w.heap.size+1,0,none⟩ ⟨w.heap.size+2,0,none⟩) Q w3) :
    sat P (.alloc (.cells cs0.toArray T0 (0,0)) fun z0 => .alloc (.cells cs1.toArray T1 (0,0)) fun z1 => .alloc (.cells cs2.toArray T2 (0,0)) fun z2=>K z0 z1 z2) Q w:=by
  refine s_alloc (s_alloc (s_alloc ?_))
  have b0:=Blk.new w cs0 T0
  have k0:Kp Off w (w.alloc (.cells cs0.toArray T0 (0,0))):=(Kp.refl Off w).alloc _
  have z0:(w.alloc (.cells cs0.toArray T0 (0,0))).heap.size=w.heap.size+1:=by simp
  generalize w.alloc (.cells cs0.toArray T0 (0,0))=w1 at *
  have b1:=Blk.new w1 cs1 T1
  have k1:Kp Off w1 (w1.alloc (.cells cs1.toArray T1 (0,0))):=(Kp.refl Off w1).alloc _
  have z1:(w1.alloc (.cells cs1.toArray T1 (0,0))).heap.size=w1.heap.size+1:=by simp
  generalize w1.alloc (.cells cs1.toArray T1 (0,0))=w2 at *
  have b2:=Blk.new w2 cs2 T2
  have k2:Kp Off w2 (w2.alloc (.cells cs2.toArray T2 (0,0))):=(Kp.refl Off w2).alloc _
  have z2:(w2.alloc (.cells cs2.toArray T2 (0,0))).heap.size=w2.heap.size+1:=by simp
  generalize w2.alloc (.cells cs2.toArray T2 (0,0))=w3 at *
  have e2:w2.heap.size=w.heap.size+2:=by omega
  rw [e2] at b2 ⊢
  rw [z0] at b1 ⊢
  exact hK w3 (k2.blk (k1.blk b0 id) id) (k2.blk b1 id) b2 ((k0.trans k1).trans k2) (by omega)
theorem node_new (w1:World) (k:Int) (t:ByteArray) (na ka:Sl) : ∃ w2,(Instr.storeAt tN (.pointer (some ⟨w1.heap.size,0,none⟩)) (.agg (nc k t na ka).toArray)).run Tryz.prog (w1.alloc (.cells zn.toArray tN (0,0))) = .ok () w2∧Blk w2 w1.heap.size (nc k t na ka) tN∧Kp Off w1 w2:=by
  obtain ⟨w2,h2,c2,k2⟩:=storeN (Blk.new w1 zn tN) rfl k t na ka
  exact ⟨w2,h2,c2,(((Kp.refl (fun q=>q=w1.heap.size) w1).alloc _).trans (k2.mono fun q _ h=>h)).mono fun q hq h=>by omega⟩
theorem Sm.kid {n c:NT} {i:Nat} (h:Sm n) (hc:n.kids[i]?=some c):Sm c:=h.inv.2.2.get hc
def RpPost (B:Nat→Prop) (w:World) (r:NT) (e:Ending) (w':World):Prop := ∃ (a b:Sl),e = .returned (.tuple #[.agg (nc r.k r.t a b).toArray,.bool true])∧NdAt (Ext B w) w' r (nc r.k r.t a b)∧Kp Off w w'
theorem kid_run {n c:NT} {b:Sl} {xs:List Value} {i:Nat} (hr:RowIn B w b n.kids.length xs 4) (hc:n.kids[i]?=some c) {ac bc:Sl} (hcs : ∀ j,j<4→xs[i * 4+j]?=(nc c.k c.t ac bc)[j]?) :
    ∃ g,b.1=some ⟨g,0,none⟩∧(Instr.loadAt tN (.pointer (some ⟨g,i * 4,none⟩))).run Tryz.prog w = .ok (.agg (nc c.k c.t ac bc).toArray) w:=by
  have hi:=(List.getElem?_eq_some_iff.1 hc).1
  obtain ⟨l1,l2,l3⟩:=hr
  rcases l3 with l3 | ⟨g,a1,_,_,a4⟩
  · omega
  refine ⟨g,a1,node_run fun q hq => ?_⟩
  have h1:=hcs q hq
  obtain ⟨y,hy⟩ : ∃ y,(nc c.k c.t ac bc)[q]?=some y:=⟨_,List.getElem?_eq_getElem (show q<4 from hq)⟩
  rw [hy] at h1 ⊢
  exact a4 _ _ h1
theorem replace_any {v:NT} {n:NT} {toks:List ByteArray} {is:List Nat} (hP:Pth n toks is):Sm n→toks.length≤2147483647 → ∀ (w:World) (B:Nat→Prop) (a b a' b':Sl) (q:Ka.Sl),NdAt B w n (nc n.k n.t a b)→NdAt B w v (nc v.k v.t a' b')→Kx w q toks →
    Calls Tryz.prog 24 #[.agg (nc n.k n.t a b).toArray,Ka.slV q,.agg (nc v.k v.t a' b').toArray] w (RpPost B w (repl v is n)):=by
  induction hP with
  | @nil n=>
    intro hsm htl w B a b a' b' q hn hv hK
    have hql:=hK.len
    refine spec_Replace.calls _ _ _ _ _ _ _ _ _ _ _ _ _ _ _ _ _ _ _ ?_
    unfold spec_Replace.t
    refine s_alloc3 (nc n.k n.t a b) (nc v.k v.t a' b') zn fun w3 b0 b1 b2 k3 z3 => ?_
    refine s_iteE (fun _ => ?_) (fun g=>absurd (by rw [hql];rfl) g)
    refine s_eff (w':=w3) ((v.k:Int),v.t,a',b',()) (loadN b1) ?_
    obtain ⟨w4,h4,c4,k4⟩:=storeN b2 rfl v.k v.t a' b'
    have k04:Kp Off w w4:=k3.then k4 fun q hq h=>by have h:q=w.heap.size+2:=h;omega
    exact s_effU h4 (s_effS ((v.k:Int),v.t,a',b',()) (loadN c4) (s_leaf ⟨rfl,a',b',rfl,hv.to k04 fun q hq hB => .inl ⟨hq,hB⟩,k04⟩))
  | @cons n c tok toks i is hp hc hP ih=>
    intro hsm htl w B a b a' b' q hn hv hK
    have hql:=hK.len
    have hqc:=hK.cap
    have hi:=(List.getElem?_eq_some_iff.1 hc).1
    obtain ⟨m1,m2,m3⟩:=hsm.inv
    obtain ⟨xs,hr1,hr2,hall⟩:=hn.rows
    obtain ⟨cs,hcn,hcs⟩:=all_getN n.kids xs i c hall hc
    have hcn0:=hcn
    obtain ⟨ac,bc,_,rfl,_⟩:=hcn0.inv
    rw [repl_cons hc]
    rw [List.length_cons] at hql htl
    refine spec_Replace.calls _ _ _ _ _ _ _ _ _ _ _ _ _ _ _ _ _ _ _ ?_
    unfold spec_Replace.t
    refine s_alloc3 (nc n.k n.t a b) (nc v.k v.t a' b') zn fun w3 b0 b1 b2 k3 z3 => ?_
    refine s_iteE (fun g=>absurd g (by omega)) (fun _=>s_drew ?_)
    have kd:Kp Off w3 w3.drew:=(Kp.refl Off w3).drew
    have b04:=kd.blk b0 id
    have b14:=kd.blk b1 id
    have b24:=kd.blk b2 id
    have k04:=k3.trans kd
    have z4:w3.drew.heap.size=w.heap.size+3:=by have:=kd.size;show w3.heap.size=_;exact z3
    generalize w3.drew=w4 at kd b04 b14 b24 k04 z4
    refine ⟨((n.k:Int),n.t,a,b,()),fun w'' hw''=>loadN ((Kp.of_below (S:=Off) hw'').blk b04 id),?_⟩
    refine s_key0 (hK.kp k04) rfl ?_
    refine s_call (place_any (hn.any k04) hsm hp hi) ?_
    rintro e w5 ⟨rfl,k5⟩
    refine ⟨((i:Int),true,()),rfl,sat_iteF.2 (s_drew ?_)⟩
    have kd5:=k5.trans ((Kp.refl Off w5).drew)
    have b06:=kd5.blk b04 id
    have b16:=kd5.blk b14 id
    have b26:=kd5.blk b24 id
    have k06:=k04.trans kd5
    have z6:w.heap.size+3≤w5.drew.heap.size:=by have:=kd5.size;omega
    generalize w5.drew=w6 at kd5 b06 b16 b26 k06 z6
    refine s_load b (by rw [addr_add,Nat.zero_add,b06.cell];rfl) ?_
    have hr26:=Lj.RowIn.any hr2 k06
    obtain ⟨g,hg,_⟩:=kid_run hr26 hc hcs
    refine s_chk ⟨by omega,by have:=hr26.1;omega⟩ ⟨_,hg,?_⟩
    refine ⟨((c.k:Int),c.t,ac,bc,()),fun w'' hw'' => ?_,?_⟩
    · obtain ⟨g',hg',hrun⟩:=kid_run (Lj.RowIn.any hr2 (k06.trans (Kp.of_below (S:=Off) hw''))) hc hcs
      rw [hg] at hg'
      cases hg'
      rw [addr_add,Int.toNat_natCast,Nat.zero_add]
      exact hrun
    refine s_chk ⟨by omega,by omega,by omega⟩ ?_
    refine ⟨((v.k:Int),v.t,a',b',()),fun w'' hw''=>loadN ((Kp.of_below (S:=Off) hw'').blk b16 id),?_⟩
    have htok : ∀ {w7:World},Kp Off w6 w7→Kx w7 ((if q.2.2=1 then q.1 else q.1.map fun y=>y.add 1),q.2.1-1,q.2.2-1) toks:=fun k7=>(hK.kp (k06.trans k7)).drop 1 (by rw [List.length_cons];omega)
    have up : ∀ {w7:World} {nt:NT} {cs:List Value},NdAt B w nt cs→Kp Off w6 w7→NdAt (fun q=>q<w.heap.size∧B q) w7 nt cs:=fun h k7=>h.to (k06.trans k7) fun q hq hB=>⟨hq,hB⟩
    have hcall : ∀ (w7:World),Kp Off w6 w7→Calls Tryz.prog 24 #[.agg (nc c.k c.t ac bc).toArray,Ka.slV ((if q.2.2=1 then q.1 else q.1.map fun y=>y.add 1),q.2.1-1,q.2.2-1),.agg (nc v.k v.t a' b').toArray] w7 (RpPost (fun q=>q<w.heap.size∧B q) w7 (repl v is c)):=fun w7 k7=>
      ih (hsm.kid hc) (by omega) w7 _ ac bc a' b' _ (up hcn k7) (up hv k7) (htok k7)
    have last : ∀ (w8 w9:World) (a3 b3:Sl),Kp Off w w8→w.heap.size+3≤w8.heap.size→Blk w8 (w.heap.size+2) zn tN→NdAt (Ext (fun q=>(q<w.heap.size∧B q)∨w.heap.size+3≤q) w8) w9 (.mk n.k n.t n.keys (n.kids.set i (repl v is c))) (nc n.k n.t a3 b3)→Kp Off w8 w9 →
        ∃ w10,(Instr.storeAt tN (.pointer (some ⟨w.heap.size+2,0,none⟩)) (.agg (nc n.k n.t a3 b3).toArray)).run Tryz.prog w9 = .ok () w10∧Blk w10 (w.heap.size+2) (nc n.k n.t a3 b3) tN∧NdAt (Ext B w) w10 (.mk n.k n.t n.keys (n.kids.set i (repl v is c))) (nc n.k n.t a3 b3)∧Kp Off w w10:=by
      intro w8 w9 a3 b3 k08 hz b28 hw k9
      obtain ⟨w10,h10,c10,k10⟩:=storeN (k9.blk b28 id) rfl n.k n.t a3 b3
      refine ⟨w10,h10,c10,hw.kp k10 fun q _ hq => ?_,(k08.trans k9).then k10 fun q hq h=>by have h:q=w.heap.size+2:=h;omega⟩
      have h2:(q<w.heap.size∧B q)∨w.heap.size+3≤q:=by
        rcases hq with ⟨_,h⟩ | h
        · exact h
        · exact .inr (by omega)
      refine ⟨?_,fun h => ?_⟩
      · rcases h2 with h2 | h2
        · exact .inl h2
        · exact .inr (by omega)
      · have h:q=w.heap.size+2:=h
        omega
    have toB : ∀ {w7 w8:World} {cs:List Value},w.heap.size+3≤w7.heap.size→NdAt (Ext (fun q=>q<w.heap.size∧B q) w7) w8 (repl v is c) cs → ∀ {w9:World} {S:Nat→Prop},Kp S w8 w9→(∀ q,q<w8.heap.size→S q→w.heap.size≤q∧q<w7.heap.size)→NdAt (fun q=>(q<w.heap.size∧B q)∨w.heap.size+3≤q) w9 (repl v is c) cs:=by
      intro w7 w8 cs hz h w9 S k hS
      refine h.kp k fun q hq hx => ?_
      rcases hx with ⟨h1,h2⟩ | h1
      · exact ⟨.inl h2,fun hs=>by have:=hS q hq hs;omega⟩
      · exact ⟨.inr (by omega),fun hs=>by have:=hS q hq hs;omega⟩
    refine ⟨?_,s_hereN (s_alloc ?_)⟩
    · refine s_call (hcall w6 (Kp.refl _ _)) ?_
      rintro e w7 ⟨a2,b2',rfl,hr,k7⟩
      refine ⟨((((repl v is c).k:Int),(repl v is c).t,a2,b2',()),true,()),rfl,s_alloc ?_⟩
      obtain ⟨w8,h8,c8,k8⟩:=node_new w7 (repl v is c).k (repl v is c).t a2 b2'
      have k68:=k7.trans k8
      have k08:=k06.trans k68
      have b08:=k68.blk b06 id
      have b28:=k68.blk b26 id
      refine s_effU h8 (sat_iteF.2 (s_eff (w':=w8) ((n.k:Int),n.t,a,b,()) (loadN b08) (s_eff (w':=w8) (((repl v is c).k:Int),(repl v is c).t,a2,b2',()) (loadN c8) ?_)))
      refine s_call (with_any (B:=fun q=>(q<w.heap.size∧B q)∨w.heap.size+3≤q) (hn.to k08 fun q hq hB => .inl ⟨hq,hB⟩) (toB z6 hr k8 fun q _ h=>h.elim) hsm hi) ?_
      rintro e w9 ⟨a3,b3,rfl,hw,k9⟩
      refine ⟨((n.k:Int),n.t,a3,b3,()),rfl,?_⟩
      obtain ⟨w10,h10,c10,hw10,k010⟩:=last w8 w9 a3 b3 k08 (by have:=k68.size;omega) b28 hw k9
      exact s_effU h10 (s_effS ((n.k:Int),n.t,a3,b3,()) (loadN c10) (s_leaf ⟨rfl,a3,b3,rfl,hw10,k010⟩))
    · have bn:=Blk.new w6 zn tN
      have kn:Kp Off w6 (w6.alloc (.cells zn.toArray tN (0,0))):=(Kp.refl Off w6).alloc _
      have zn1:(w6.alloc (.cells zn.toArray tN (0,0))).heap.size=w6.heap.size+1:=by simp
      show sat _ _ _ (w6.alloc (.cells zn.toArray tN (0,0)))
      generalize w6.alloc (.cells zn.toArray tN (0,0))=w7 at bn kn zn1
      refine ⟨kn.belowOff,s_call (hcall w7 kn) ?_⟩
      rintro e w8 ⟨a2,b2',rfl,hr,k8⟩
      refine ⟨((((repl v is c).k:Int),(repl v is c).t,a2,b2',()),true,()),rfl,?_⟩
      obtain ⟨w9,h9,c9,k9⟩:=storeN (k8.blk bn id) rfl (repl v is c).k (repl v is c).t a2 b2'
      have hz8:=k8.size
      have k69:Kp Off w6 w9:=(kn.trans k8).then k9 fun q hq h=>by have h:q=w6.heap.size:=h;omega
      have k09:=k06.trans k69
      have b09:=k69.blk b06 id
      have b29:=k69.blk b26 id
      refine s_effU h9 (sat_iteF.2 (s_eff (w':=w9) ((n.k:Int),n.t,a,b,()) (loadN b09) (s_eff (w':=w9) (((repl v is c).k:Int),(repl v is c).t,a2,b2',()) (loadN c9) ?_)))
      refine s_call (with_any (B:=fun q=>(q<w.heap.size∧B q)∨w.heap.size+3≤q) (hn.to k09 fun q hq hB => .inl ⟨hq,hB⟩) (toB (by omega) hr k9 fun q _ h=>by have h:q=w6.heap.size:=h;omega) hsm hi) ?_
      rintro e w10 ⟨a3,b3,rfl,hw,k10⟩
      refine ⟨((n.k:Int),n.t,a3,b3,()),rfl,?_⟩
      obtain ⟨w11,h11,c11,hw11,k011⟩:=last w9 w10 a3 b3 k09 (by have:=k69.size;omega) b29 hw k10
      exact s_effU h11 (s_effS ((n.k:Int),n.t,a3,b3,()) (loadN c11) (s_leaf ⟨rfl,a3,b3,rfl,hw11,k011⟩))
end Go.Proofs.YtlfebfkphgelfaaGreatDoor.Nt
namespace Go.Proofs.YtlfebfkphgelfaaGreatDoor.Nt
open Go Go.Proofs Go.RowKit Rx Pl Pw
open Ed (repl repl_cons chain)
theorem SmL.all : ∀ {l:List NT},SmL l → ∀ c ∈ l,Sm c
  | [],_,c,h=>absurd h List.not_mem_nil
  | m :: l,h,c,hc=>by
    unfold SmL at h
    rcases List.mem_cons.1 hc with rfl | hc
    · exact h.1
    · exact SmL.all h.2 c hc
theorem SmL.of : ∀ {l:List NT},(∀ c ∈ l,Sm c)→SmL l
  | [],_=>by simp only [SmL]
  | m :: l,h=>by
    simp only [SmL]
    exact ⟨h m (List.mem_cons_self ..),SmL.of fun c hc=>h c (List.mem_cons_of_mem _ hc)⟩
theorem Sm.mk' {k:Nat} {t:ByteArray} {keys:List ByteArray} {kids:List NT} (h1:keys.length≤100000) (h2:kids.length≤100000) (h3 : ∀ c ∈ kids,Sm c):Sm (.mk k t keys kids):=by
  unfold Sm
  exact ⟨h1,h2,SmL.of h3⟩
theorem sm_repl {x:NT} (hx:Sm x) : ∀ (is:List Nat) (n:NT),Sm n→Sm (repl x is n)
  | [],n,_=>by simp only [repl];exact hx
  | i :: is,n,hn=>by
    obtain ⟨h1,h2,h3⟩:=hn.inv
    cases h:n.kids[i]? with
    | none=>
      obtain ⟨k,t,keys,kids⟩:=n
      have h:kids[i]?=none:=h
      simp only [repl,h]
      exact hn
    | some c=>
      rw [repl_cons h]
      refine Sm.mk' h1 (by rw [List.length_set];exact h2) fun d hd => ?_
      rcases List.mem_or_eq_of_mem_set hd with g | rfl
      · exact h3.all d g
      · exact sm_repl hx is c (h3.get h)
theorem sm_chain {x:NT} (hx:Sm x) : ∀ rs:List ByteArray,Sm (chain x rs)
  | []=>by simp only [chain];exact hx
  | r :: rs=>by
    simp only [chain]
    refine Sm.mk' (by simp) (by simp) fun d hd => ?_
    rcases List.mem_cons.1 hd with rfl | hd
    · exact sm_chain hx rs
    · exact absurd hd List.not_mem_nil
theorem sm_more {n c:NT} {k:Nat} {t key:ByteArray} (hn:n.keys.length≤99999∧n.kids.length≤99999∧Sm n) (hc:Sm c):Sm (.mk k t (n.keys++[key]) (n.kids++[c])):=by
  obtain ⟨h1,h2,h3⟩:=hn
  refine Sm.mk' (by rw [List.length_append];simp;omega) (by rw [List.length_append];simp;omega) fun d hd => ?_
  rcases List.mem_append.1 hd with g | g
  · exact h3.inv.2.2.all d g
  · rcases List.mem_cons.1 g with rfl | g
    · exact hc
    · exact absurd g List.not_mem_nil
end Go.Proofs.YtlfebfkphgelfaaGreatDoor.Nt
namespace Go.Proofs.YtlfebfkphgelfaaGreatDoor.Nt
open Go Go.Proofs Go.RowKit Rx Tr Pl Pw
open Sr (Sl slV RowIn)
open Lj (Any)
variable {w w':World} {B B':Nat→Prop}
theorem push1 {P:Program} {base:Nat} {t e:TypeId} {i:TypeInfo} {z0:Value} {size:Nat} (ht:P.underlying t=some (.slice e)) (hi:P.info? e=some i) (hz:i.zero=some z0)
    (hsize:i.size=size) (hby:i.bytes≤1024) (hzs:z0.cells.size=size) (h0:0<size) {v:Sl} {n:Nat} {xs:List Value} (hown:w.ownsRow base e size (slV v) n xs) (cs:List Value) (hcs:cs.length=size)
    (h1 : ∀ u ∈ cs,u.oneCell'=true) {g:Nat} (hc : ∀ (j:Nat) (u:Value),cs[j]?=some u→w.cell? ⟨g,j,none⟩=some u) (hn:n+1≤4294967296) (hbase:base≤w.heap.size) :
    ∃ (v':Sl) (w2:World),(Builtin.append_ #[t,t] t #[slV v,.slice (some ⟨g,0,none⟩) 1 1]).run P w = .ok (slV v') w2∧w2.ownsRow base e size (slV v') (n+1) (xs++cs)∧Kp (fun k=>some k=(slV v).ownBlock) w w2∧(∀ b,some b=(slV v').ownBlock→some b=(slV v).ownBlock∨w.heap.size≤b):=by
  subst hsize
  have hbytes:(n+1) * i.bytes≤140737488355328:=by
    have:(n+1) * i.bytes≤4294967296 * 1024:=Nat.mul_le_mul (by omega) hby
    omega
  obtain ⟨v',w2,h2,h3,h4,h5,h6⟩:=run_append_own_at (P:=P) (w:=w) base t t e i z0 i.size i.bytes ht hi hz rfl rfl hzs h0 _ n xs hown ⟨g,0,none⟩ 1 1 cs (by omega) (fun j u hj=>by
    rw [addr_add,Nat.zero_add];exact hc j u hj) h1 (by simp only [maxLen];omega) hbytes hbase
  obtain ⟨q1,⟨q0,q2⟩ | ⟨g2,cap,cur,rfl,q3,q4,q5,q6,q7,q8⟩⟩:=h3
  · exact absurd q0 (by omega)
  · refine ⟨(some ⟨g2,0,none⟩,n+1,cap),w2,h2,⟨q1,.inr ⟨g2,cap,cur,rfl,q3,q4,q5,q6,q7,q8⟩⟩,Kp.of_grown h4,fun b hb => ?_⟩
    rcases h6 with h6 | h6
    · left;rw [← h6];exact hb
    · right
      have hb:some b=some w.heap.size:=by rw [← h6];exact hb
      cases hb;exact Nat.le_refl _
theorem s_ndTail {Q:Nat→List Value→World→Prop} {z0 z2:Nat} {k:Int} {t:ByteArray} {a b:Sl} (v:Sl) (h0:Blk w z0 (nc k t a b) tN) (h2:Blk w z2 zn tN) (hne:z0≠z2)
    (hQ : ∀ w',Kp (fun q=>q=z0∨q=z2) w w'→Q 0 [.agg (nc k t a v).toArray] w') :
    sat Tryz.prog (.store (Addr.add ⟨z0,0,none⟩ 3) (Value.slice (v).1 ((v).2).1 ((v).2).2) <|
      .eff (Instr.loadAt tN (Value.pointer (some ⟨z0,0,none⟩))) (.agg (.cons (.int .i64) (.cons .str (.cons .slice (.cons .slice .nil))))) fun (z16:(Int×(ByteArray×(((Option Addr)×(Nat×Nat))×(((Option Addr)×(Nat×Nat))×PUnit)))))=>
      .effU (Instr.storeAt tN (Value.pointer (some ⟨z2,0,none⟩)) (Value.agg #[(Value.int IntKind.i64 (z16).1),(Value.string ((z16).2).1),(Value.slice ((((z16).2).2).1).1 (((((z16).2).2).1).2).1 (((((z16).2).2).1).2).2),(Value.slice (((((z16).2).2).2).1).1 ((((((z16).2).2).2).1).2).1 ((((((z16).2).2).2).1).2).2)])) <|
      .effS (Instr.loadAt tN (Value.pointer (some ⟨z2,0,none⟩))) (.agg (.cons (.int .i64) (.cons .str (.cons .slice (.cons .slice .nil))))) fun (z17:(Int×(ByteArray×(((Option Addr)×(Nat×Nat))×(((Option Addr)×(Nat×Nat))×PUnit)))))=>
      .leaf 0 [(Value.agg #[(Value.int IntKind.i64 (z17).1),(Value.string ((z17).2).1),(Value.slice ((((z17).2).2).1).1 (((((z17).2).2).1).2).1 (((((z17).2).2).1).2).2),(Value.slice (((((z17).2).2).2).1).1 ((((((z17).2).2).2).1).2).1 ((((((z17).2).2).2).1).2).2)])]) Q w:=by
  refine s_store (by rw [addr_add,Nat.zero_add];exact h0.cell 3) (by rw [addr_add,Nat.zero_add];exact h0.free 3) ?_
  rw [addr_add,Nat.zero_add]
  have b07:=h0.set 3 (slV v)
  have k7:Kp (On z0) w (w.setCell ⟨z0,3,none⟩ (slV v)):=(Kp.refl _ w).on 3 _
  show sat _ _ _ (w.setCell ⟨z0,3,none⟩ (slV v))
  generalize w.setCell ⟨z0,3,none⟩ (slV v)=w7 at b07 k7
  have b07:Blk w7 z0 (nc k t a v) tN:=b07
  have b27:=k7.blk h2 (fun h=>hne (Eq.symm h))
  refine s_eff (w':=w7) (k,t,a,v,()) (loadN b07) ?_
  obtain ⟨w8,h8,c8,k8⟩:=storeN b27 rfl k t a v
  exact s_effU h8 (s_effS (k,t,a,v,()) (loadN c8) (s_leaf (hQ w8 ((k7.mono fun q _ h => .inl h).trans (k8.mono fun q _ h => .inr h)))))
theorem appended_any {n x:NT} {a b a' b':Sl} {name:ByteArray} (hn:NdAt B w n (nc n.k n.t a b)) (hx:NdAt B w x (nc x.k x.t a' b')) (m1:n.keys.length≤100000) (m2:n.kids.length≤100000) :
    Calls Tryz.prog 40 #[.agg (nc n.k n.t a b).toArray,.string name,.agg (nc x.k x.t a' b').toArray] w (NdX B w (.mk n.k n.t (n.keys++[name]) (n.kids++[x]))):=by
  obtain ⟨xs,hr1,hr2,hall⟩:=hn.rows
  refine spec_appended.calls _ _ _ _ _ _ _ _ _ _ _ _ _ _ _ _ _ ?_
  unfold spec_appended.t
  refine s_alloc3 (nc n.k n.t a b) (nc x.k x.t a' b') zn fun w3 b03 b13 b23 k03 z3 => ?_
  have htS:=info_some (P:=Tryz.prog) (t:=tStr) (by kernel_rfl)
  have hti:=info_some (P:=Tryz.prog) (t:=tN) (by kernel_rfl)
  refine s_eff (w':=w3.alloc (.cells #[] tStr)) (some ⟨w3.heap.size,0,none⟩,0,0) (build0 Tryz.underlying22 htS) ?_
  have ho:=own0 (e:=tStr) (size:=1) w3 w3.heap.size (Nat.le_refl _)
  have k4:Kp Off w3 (w3.alloc (.cells #[] tStr)):=(Kp.refl Off w3).alloc _
  have z4:(w3.alloc (.cells #[] tStr)).heap.size=w3.heap.size+1:=by simp
  generalize w3.alloc (.cells #[] tStr)=w4 at ho k4 z4
  have b04:=k4.blk b03 id
  have b14:=k4.blk b13 id
  have b24:=k4.blk b23 id
  have k04:=k03.trans k4
  refine s_load a (by rw [addr_add,Nat.zero_add,b04.cell];rfl) ?_
  have hone : ∀ u ∈ n.keys.map strV,u.oneCell'=true:=fun u hu=>by
    obtain ⟨y,_,rfl⟩:=List.mem_map.1 hu
    rfl
  obtain ⟨v1,w5,h5,ho5,k5,_,hblk5⟩:=copy_run (P:=Tryz.prog) (t:=tSs) (z0 := .string (ByteArray.mk #[])) Tryz.underlying22 htS (by kernel_rfl) (by kernel_rfl) (of_decide_eq_true (by kernel_rfl)) rfl (by decide) (Lj.RowIn.any hr1 k04) hone (by omega) ho (by omega)
  refine s_eff v1 h5 ?_
  have hz5:=k5.size
  have k35:Kp Off w3 w5:=k4.trans k5
  refine s_eff (w':=w5.alloc (.cells [strV name].toArray tStr)) (some ⟨w5.heap.size,0,none⟩,1,1) (build1 (size:=1) (z0 := .string (ByteArray.mk #[])) Tryz.underlying22 htS (by kernel_rfl) (by kernel_rfl) (by decide) (by decide) (strV name) [strV name] rfl rfl) ?_
  have ho6:=ho5.alloc (.cells [strV name].toArray tStr)
  have bn:=Blk.new w5 [strV name] tStr
  have k6:Kp Off w5 (w5.alloc (.cells [strV name].toArray tStr)):=(Kp.refl Off w5).alloc _
  have z6:(w5.alloc (.cells [strV name].toArray tStr)).heap.size=w5.heap.size+1:=by simp
  generalize w5.alloc (.cells [strV name].toArray tStr)=w6 at ho6 k6 z6 bn
  obtain ⟨v2,w7,h7,ho7,k7,hblk7⟩:=push1 (P:=Tryz.prog) (t:=tSs) (z0 := .string (ByteArray.mk #[])) Tryz.underlying22 htS (by kernel_rfl) (by kernel_rfl) (of_decide_eq_true (by kernel_rfl)) rfl (by decide) ho6 [strV name] rfl (fun u hu=>by
    rcases List.mem_cons.1 hu with rfl | hu
    · rfl
    · exact absurd hu List.not_mem_nil) (fun j u hj=>by rw [bn.cell];exact hj) (by omega) (by omega)
  refine s_eff v2 h7 ?_
  have k37:Kp Off w3 w7:=(k35.trans k6).then k7 fun q hq h=>by
    rcases hblk5 q h with h | h <;> omega
  have k07:=k03.trans k37
  have b07:=k37.blk b03 id
  have b17:=k37.blk b13 id
  have b27:=k37.blk b23 id
  have hz7:=k37.size
  refine s_store (by rw [addr_add,Nat.zero_add];exact b07.cell 2) (by rw [addr_add,Nat.zero_add];exact b07.free 2) ?_
  rw [addr_add,Nat.zero_add]
  have b08:=b07.set 2 (slV v2)
  have k8:Kp (On w.heap.size) w7 (w7.setCell ⟨w.heap.size,2,none⟩ (slV v2)):=(Kp.refl _ w7).on 2 _
  show sat _ _ _ (w7.setCell ⟨w.heap.size,2,none⟩ (slV v2))
  generalize w7.setCell ⟨w.heap.size,2,none⟩ (slV v2)=w8 at b08 k8
  have b08:Blk w8 w.heap.size (nc n.k n.t v2 b) tN:=b08
  refine s_drew ?_
  have kd:Kp (On w.heap.size) w7 w8.drew:=k8.trans ((Kp.refl _ w8).drew)
  have b09:Blk w8.drew w.heap.size (nc n.k n.t v2 b) tN:=((Kp.refl Off w8).drew).blk b08 id
  generalize w8.drew=w9 at kd b09
  have b19:=kd.blk b17 (fun h=>by have h:w.heap.size+1=w.heap.size:=h;omega)
  have b29:=kd.blk b27 (fun h=>by have h:w.heap.size+2=w.heap.size:=h;omega)
  have k09:Kp Off w w9:=k07.then kd fun q hq h=>by have h:q=w.heap.size:=h;omega
  have hz9:=kd.size
  have hkeys:RowIn (fun q=>w.heap.size+3≤q) w9 v2 (n.keys++[name]).length ((n.keys++[name]).map strV) 1:=by
    have h:=RowIn.own (B:=fun q=>w.heap.size+3≤q) ho7 fun q _ h=>by omega
    rw [List.length_append,List.map_append]
    exact Sr.RowIn.kp kd (fun q _ hq=>⟨hq,fun h=>by have h:q=w.heap.size:=h;omega⟩) h
  clear ho ho5 ho6 ho7 h5 h7 bn hblk5 hblk7 k5 k7
  refine s_load b (b09.cell 3) ?_
  refine ⟨((x.k:Int),x.t,a',b',()),fun w'' hw''=>loadN ((Kp.of_below (S:=Off) hw'').blk b19 id),?_⟩
  have fin : ∀ (w10:World) (v:Sl),Kp Off w9 w10→w10.ownsRow w9.heap.size tN 4 (slV v) (n.kids.length+1) (xs++nc x.k x.t a' b')→Blk w10 w.heap.size (nc n.k n.t v2 b) tN∧Blk w10 (w.heap.size+2) zn tN ∧
      ∀ w',Kp (fun q=>q=w.heap.size∨q=w.heap.size+2) w10 w'→NdX B w (.mk n.k n.t (n.keys++[name]) (n.kids++[x])) (.returned (.agg (nc n.k n.t v2 v).toArray)) w':=by
    intro w10 v k hown
    refine ⟨k.blk b09 id,k.blk b29 id,fun w' k' => ?_⟩
    have k0:Kp Off w w':=(k09.trans k).then k' fun q hq h=>by rcases h with h | h <;> omega
    refine ⟨v2,v,rfl,?_,k0⟩
    have up : ∀ q,q<w.heap.size→B q→Ext B w q ∧ ¬ Off q:=fun q hq hB=>⟨.inl ⟨hq,hB⟩,id⟩
    have hall':AllN (Ext B w) w' n.kids xs:=hall.kp k0 up
    have hx':NdAt (Ext B w) w' x (nc x.k x.t a' b'):=hx.kp k0 up
    have hkd:=RowIn.own (B:=fun q=>w.heap.size+3≤q) hown fun q _ h=>by omega
    have away : ∀ q,w.heap.size+3≤q→Ext B w q ∧ ¬ (q=w.heap.size∨q=w.heap.size+2):=fun q hq=>⟨.inr (by omega),fun h=>by rcases h with h | h <;> omega⟩
    refine NdAt.mk' (Sr.RowIn.kp k' (fun q _ hq=>away q hq) (Sr.RowIn.kp (B':=fun q=>w.heap.size+3≤q) k (fun q _ hq=>⟨hq,id⟩) hkeys)) ?_ (AllN.snoc hx' _ _ hall')
    rw [List.length_append]
    exact Sr.RowIn.kp k' (fun q _ hq=>away q hq) hkd
  have hone4 : ∀ u ∈ nc x.k x.t a' b',u.oneCell'=true:=nc_oneC _ _ _ _
  have copyN : ∀ {w1:World} {g0:Nat},Kp Off w9 w1→w1.ownsRow w9.heap.size tN 4 (.slice (some ⟨g0,0,none⟩) 0 0) 0 []→w9.heap.size≤g0→g0<w1.heap.size →
      ∃ (v:Sl) (w2:World),(Builtin.append_ #[tNs,tNs] tNs #[.slice (some ⟨g0,0,none⟩) 0 0,slV b]).run Tryz.prog w1 = .ok (slV v) w2∧w2.ownsRow w9.heap.size tN 4 (slV v) n.kids.length xs∧Kp Off w1 w2∧(∀ q,some q=(slV v).ownBlock→q=g0∨w1.heap.size≤q):=by
    intro w1 g0 k hown hg _
    have:=k.size
    obtain ⟨v,w2,h2,h3,h4,_,h6⟩:=copy_run (P:=Tryz.prog) (t:=tNs) (z0 := .agg zn.toArray) Tryz.underlying32 hti (by kernel_rfl) (by kernel_rfl) (of_decide_eq_true (by kernel_rfl)) rfl (by decide) (Lj.RowIn.any hr2 (k09.trans k)) hall.one (by omega) hown (by omega)
    exact ⟨v,w2,h2,h3,h4,h6⟩
  have pushN : ∀ {w1:World} {v:Sl} {g:Nat},Kp Off w9 w1→w1.ownsRow w9.heap.size tN 4 (slV v) n.kids.length xs→Blk w1 g (nc x.k x.t a' b') tN →
      ∃ (v':Sl) (w2:World),(Builtin.append_ #[tNs,tNs] tNs #[slV v,.slice (some ⟨g,0,none⟩) 1 1]).run Tryz.prog w1 = .ok (slV v') w2∧w2.ownsRow w9.heap.size tN 4 (slV v') (n.kids.length+1) (xs++nc x.k x.t a' b')∧Kp (fun k=>some k=(slV v).ownBlock) w1 w2:=by
    intro w1 v g k hown hb
    obtain ⟨v',w2,h2,h3,h4,_⟩:=push1 (P:=Tryz.prog) (t:=tNs) (z0 := .agg zn.toArray) Tryz.underlying32 hti (by kernel_rfl) (by kernel_rfl) (of_decide_eq_true (by kernel_rfl)) rfl (by decide) hown (nc x.k x.t a' b') rfl hone4 (fun j u hj=>by rw [hb.cell];exact hj) (by omega) k.size
    exact ⟨v',w2,h2,h3,h4⟩
  have bld0 : ∀ w1:World,(Instr.buildSlice tNs 0 #[]).run Tryz.prog w1 = .ok (.slice (some ⟨w1.heap.size,0,none⟩) 0 0) (w1.alloc (.cells #[] tN)):=fun w1=>build0 Tryz.underlying32 hti
  have bld1 : ∀ w1:World,(Instr.buildSlice tNs 1 #[(0,.agg (nc x.k x.t a' b').toArray)]).run Tryz.prog w1 = .ok (.slice (some ⟨w1.heap.size,0,none⟩) 1 1) (w1.alloc (.cells (nc x.k x.t a' b').toArray tN)):=fun w1=>
    build1 (size:=4) (z0 := .agg zn.toArray) Tryz.underlying32 hti (by kernel_rfl) (by kernel_rfl) (by decide) (by decide) (.agg (nc x.k x.t a' b').toArray) (nc x.k x.t a' b') rfl rfl
  have new0 : ∀ w1:World,w9.heap.size≤w1.heap.size→(w1.alloc (.cells #[] tN)).ownsRow w9.heap.size tN 4 (.slice (some ⟨w1.heap.size,0,none⟩) 0 0) 0 []∧Kp Off w1 (w1.alloc (.cells #[] tN))∧(w1.alloc (.cells #[] tN)).heap.size=w1.heap.size+1:=fun w1 h=>⟨own0 w1 _ h,(Kp.refl Off w1).alloc _,by simp⟩
  have new1 : ∀ w1:World,Blk (w1.alloc (.cells (nc x.k x.t a' b').toArray tN)) w1.heap.size (nc x.k x.t a' b') tN∧Kp Off w1 (w1.alloc (.cells (nc x.k x.t a' b').toArray tN))∧(w1.alloc (.cells (nc x.k x.t a' b').toArray tN)).heap.size=w1.heap.size+1:=fun w1=>⟨Blk.new w1 _ _,(Kp.refl Off w1).alloc _,by simp⟩
  have hd:w.heap.size≠w.heap.size+2:=by omega
  refine ⟨s_hereN (s_eff (w':=w9.alloc (.cells #[] tN)) (some ⟨w9.heap.size,0,none⟩,0,0) (bld0 w9) ?_),s_hereN (s_eff (w':=w9.alloc (.cells (nc x.k x.t a' b').toArray tN)) (some ⟨w9.heap.size,0,none⟩,1,1) (bld1 w9) ?_)⟩
  · obtain ⟨ho,ka,za⟩:=new0 w9 (Nat.le_refl _)
    generalize w9.alloc (.cells #[] tN)=w10 at ho ka za
    refine ⟨ka.belowOff,?_⟩
    refine ⟨s_hereN ?_,s_hereN (s_eff (w':=w10.alloc (.cells (nc x.k x.t a' b').toArray tN)) (some ⟨w10.heap.size,0,none⟩,1,1) (bld1 w10) ?_)⟩
    · obtain ⟨v,w11,h11,ho11,k11,hb11⟩:=copyN ka ho (Nat.le_refl _) (by omega)
      have hz11:=k11.size
      have kc:Kp Off w9 w11:=ka.trans k11
      refine s_eff v h11 ⟨?_,s_eff (w':=w11.alloc (.cells (nc x.k x.t a' b').toArray tN)) (some ⟨w11.heap.size,0,none⟩,1,1) (bld1 w11) ?_⟩
      · exact k11.belowOff
      · have ho12:=ho11.alloc (.cells (nc x.k x.t a' b').toArray tN)
        obtain ⟨be,ke,ze⟩:=new1 w11
        generalize w11.alloc (.cells (nc x.k x.t a' b').toArray tN)=w12 at ho12 be ke ze
        obtain ⟨v',w13,h13,ho13,k13⟩:=pushN (kc.trans ke) ho12 be
        have k913:Kp Off w9 w13:=(kc.trans ke).then k13 fun q hq h=>by
          rcases hb11 q h with h | h <;> omega
        obtain ⟨f1,f2,f3⟩:=fin w13 v' k913 ho13
        exact s_eff v' h13 (s_ndTail v' f1 f2 hd fun w' k'=>⟨rfl,f3 w' k'⟩)
    · have ho11:=ho.alloc (.cells (nc x.k x.t a' b').toArray tN)
      obtain ⟨be,ke,ze⟩:=new1 w10
      generalize w10.alloc (.cells (nc x.k x.t a' b').toArray tN)=w11 at ho11 be ke ze
      refine ⟨ke.belowOff,?_⟩
      obtain ⟨v,w12,h12,ho12,k12,hb12⟩:=copyN (ka.trans ke) ho11 (Nat.le_refl _) (by omega)
      have hz12:=k12.size
      refine s_eff v h12 ?_
      have kc:Kp Off w9 w12:=(ka.trans ke).trans k12
      have be:=k12.blk be id
      obtain ⟨v',w13,h13,ho13,k13⟩:=pushN kc ho12 be
      have k913:Kp Off w9 w13:=kc.then k13 fun q hq h=>by
        rcases hb12 q h with h | h <;> omega
      obtain ⟨f1,f2,f3⟩:=fin w13 v' k913 ho13
      exact s_eff v' h13 (s_ndTail v' f1 f2 hd fun w' k'=>⟨rfl,f3 w' k'⟩)
  · obtain ⟨be,ke,ze⟩:=new1 w9
    generalize w9.alloc (.cells (nc x.k x.t a' b').toArray tN)=w10 at be ke ze
    refine ⟨ke.belowOff,s_hereN (s_eff (w':=w10.alloc (.cells #[] tN)) (some ⟨w10.heap.size,0,none⟩,0,0) (bld0 w10) ?_)⟩
    obtain ⟨ho,ka,za⟩:=new0 w10 (by omega)
    generalize w10.alloc (.cells #[] tN)=w11 at ho ka za
    refine ⟨ka.belowOff,?_⟩
    obtain ⟨v,w12,h12,ho12,k12,hb12⟩:=copyN (ke.trans ka) ho (by omega) (by omega)
    have hz12:=k12.size
    refine s_eff v h12 ?_
    have kc:Kp Off w9 w12:=(ke.trans ka).trans k12
    have be:=k12.blk (ka.blk be id) id
    obtain ⟨v',w13,h13,ho13,k13⟩:=pushN kc ho12 be
    have k913:Kp Off w9 w13:=kc.then k13 fun q hq h=>by
      rcases hb12 q h with h | h <;> omega
    obtain ⟨f1,f2,f3⟩:=fin w13 v' k913 ho13
    exact s_eff v' h13 (s_ndTail v' f1 f2 hd fun w' k'=>⟨rfl,f3 w' k'⟩)
end Go.Proofs.YtlfebfkphgelfaaGreatDoor.Nt
namespace Go.Proofs.YtlfebfkphgelfaaGreatDoor.Nt
open Go Go.Proofs Go.RowKit Rx Tr Pl Pw
open Sr (Sl slV RowIn)
open Lj (Any)
open Ka (Kx s_key s_key0)
open Ed (chain)
variable {w w':World} {B B':Nat→Prop}
theorem row1 {g size:Nat} {cs:List Value} {T:TypeId} (hb:Blk w g cs T) (hl:cs.length=size) (hB:B g):RowIn B w (some ⟨g,0,none⟩,1,1) 1 cs size:=
  ⟨rfl,by rw [hl];omega,.inr ⟨g,rfl,hB,hb.lt,fun j u hj=>by rw [hb.cell];exact hj⟩⟩
theorem chain_drop (x:NT) {rs:List ByteArray} {i:Nat} (hi:i<rs.length):chain x (rs.drop i) = .mk 6 (ByteArray.mk #[]) [rs[i]] [chain x (rs.drop (i+1))]:=by
  rw [List.drop_eq_getElem_cons hi];rfl
theorem putdeep_any {n x:NT} {a b a' b':Sl} {q:Ka.Sl} {kn:ByteArray} {rs:List ByteArray} (hn:NdAt B w n (nc n.k n.t a b)) (hx:NdAt B w x (nc x.k x.t a' b')) (m1:n.keys.length≤100000) (m2:n.kids.length≤100000) (h6:n.k=6)
    (hno : ∀ (j:Nat) (y:ByteArray),n.keys[j]?=some y→y≠kn) (hK:Kx w q (kn :: rs)) (hrl:rs.length≤2147483647) :
    Calls Tryz.prog 22 #[.agg (nc n.k n.t a b).toArray,Ka.slV q,.agg (nc x.k x.t a' b').toArray] w (RpPost B w (.mk n.k n.t (n.keys++[kn]) (n.kids++[chain x rs]))):=by
  have hql:=hK.len
  rw [List.length_cons] at hql
  refine spec_PutDeep.calls _ _ _ _ _ _ _ _ _ _ _ _ _ _ _ _ _ _ _ ?_
  unfold spec_PutDeep.t
  refine s_alloc3 (nc n.k n.t a b) (nc x.k x.t a' b') zn fun w3 b03 b13 b23 k03 z3 => ?_
  refine s_iteE (fun g=>absurd g (by omega)) (fun _ => ?_)
  refine s_load (n.k:Int) (by rw [addr_add,Nat.zero_add,b03.cell];rfl) ?_
  refine s_iteN (fun g=>absurd (by omega) g) (fun _=>s_drew ?_)
  have kd:Kp Off w3 w3.drew:=(Kp.refl Off w3).drew
  have b04:=kd.blk b03 id
  have b14:=kd.blk b13 id
  have b24:=kd.blk b23 id
  have k04:=k03.trans kd
  have z4:w3.drew.heap.size=w.heap.size+3:=z3
  generalize w3.drew=w4 at kd b04 b14 b24 k04 z4
  refine s_effS ((n.k:Int),n.t,a,b,()) (loadN b04) (s_key0 (hK.kp k04) rfl (s_call (member_any (hn.any k04) (by omega)) ?_))
  rintro e w5 ⟨⟨r,rfl,hr⟩,k5⟩
  have hr1:r = -1:=by
    rcases hr with ⟨h,_⟩ | ⟨i,_,h,_⟩
    · exact h
    · exact absurd rfl (hno i _ h)
  subst hr1
  refine ⟨(-1:Int),rfl,s_iteD (fun _ => ?_) (fun g=>absurd (by decide) g)⟩
  have b05:=k5.blk b04 id
  have b15:=k5.blk b14 id
  have b25:=k5.blk b24 id
  have k05:=k04.trans k5
  have z5:=k5.size
  let R:Nat→Prop:=fun p=>(p<w.heap.size∧B p)∨w.heap.size+3≤p
  have hR : ∀ p,p<w.heap.size→B p→R p:=fun p h1 h2 => .inl ⟨h1,h2⟩
  have e0:IntKind.wrap IntKind.i64 (((q.2.1:Nat):Int)-(1:Int))=(rs.length:Int):=by rw [wrap_in (by omega) (by omega)];omega
  refine s_loop (fun m z w' => ∃ (c:NT) (ac bc:Sl),m≤rs.length∧z=((m:Int),())∧c=chain x (rs.drop m)∧NdAt R w' c (nc c.k c.t ac bc)∧Blk w' w.heap.size (nc n.k n.t a b) tN∧Blk w' (w.heap.size+1) (nc c.k c.t ac bc) tN∧Blk w' (w.heap.size+2) zn tN∧Kp Off w w')
    rs.length ((rs.length:Int),()) (by rw [e0];rfl) ⟨x,a',b',Nat.le_refl _,rfl,by rw [List.drop_length];rfl,hx.to k05 hR,b05,b15,b25,k05⟩ ?_
  rintro m z w6 ⟨c,ac,bc,hm,rfl,hc,hcn,b06,b16,b26,k06⟩
  show sat _ (spec_PutDeep.t1 q.1 q.2.1 ⟨w.heap.size,0,none⟩ ⟨w.heap.size+1,0,none⟩ ⟨w.heap.size+2,0,none⟩ (m:Int)) _ _
  unfold spec_PutDeep.t1
  have hz6:=b26.lt
  refine s_iteD (fun hgt=>s_drew ?_) (fun hle=>s_drew ?_)
  · obtain ⟨i,rfl⟩ : ∃ i,m=i+1:=⟨m-1,by omega⟩
    have hi:i<rs.length:=by omega
    have kd:Kp Off w6 w6.drew:=(Kp.refl Off w6).drew
    have b07:=kd.blk b06 id
    have b17:=kd.blk b16 id
    have b27:=kd.blk b26 id
    have k07:=k06.trans kd
    have hcn7:=hcn.to (B':=R) kd fun _ _ h=>h
    have hz7:=b27.lt
    generalize w6.drew=w7 at kd b07 b17 b27 k07 hcn7 hz7
    have hkey:(kn :: rs)[i+1]?=some rs[i]:=by rw [List.getElem?_cons_succ];exact List.getElem?_eq_getElem hi
    refine s_key (hK.kp k07) hkey ?_
    refine ⟨((c.k:Int),c.t,ac,bc,()),fun w'' hw''=>loadN ((Kp.of_below (S:=Off) hw'').blk b17 id),?_⟩
    have hdec:IntKind.wrap IntKind.i64 (((i+1:Nat):Int)-(1:Int))=(i:Int):=by rw [wrap_in (by omega) (by omega)];omega
    have hch:chain x (rs.drop i) = .mk 6 (ByteArray.mk #[]) [rs[i]] [c]:=by rw [hc];exact chain_drop x hi
    have htS:=info_some (P:=Tryz.prog) (t:=tStr) (by kernel_rfl)
    have hti:=info_some (P:=Tryz.prog) (t:=tN) (by kernel_rfl)
    have bldS : ∀ w1:World,(Instr.buildSlice tSs 1 #[(0,.string rs[i])]).run Tryz.prog w1 = .ok (.slice (some ⟨w1.heap.size,0,none⟩) 1 1) (w1.alloc (.cells [strV rs[i]].toArray tStr)):=fun w1=>
      build1 (size:=1) (z0 := .string (ByteArray.mk #[])) Tryz.underlying22 htS (by kernel_rfl) (by kernel_rfl) (by decide) (by decide) (strV rs[i]) [strV rs[i]] rfl rfl
    have bldN : ∀ w1:World,(Instr.buildSlice tNs 1 #[(0,.agg (nc c.k c.t ac bc).toArray)]).run Tryz.prog w1 = .ok (.slice (some ⟨w1.heap.size,0,none⟩) 1 1) (w1.alloc (.cells (nc c.k c.t ac bc).toArray tN)):=fun w1=>
      build1 (size:=4) (z0 := .agg zn.toArray) Tryz.underlying32 hti (by kernel_rfl) (by kernel_rfl) (by decide) (by decide) (.agg (nc c.k c.t ac bc).toArray) (nc c.k c.t ac bc) rfl rfl
    have fin : ∀ (w8:World) (g1 g2:Nat),Kp Off w7 w8→w.heap.size+3≤g1→w.heap.size+3≤g2→Blk w8 g1 [strV rs[i]] tStr→Blk w8 g2 (nc c.k c.t ac bc) tN →
        ∃ w9,(Instr.storeAt tN (.pointer (some ⟨w.heap.size+1,0,none⟩)) (.agg (nc 6 (ByteArray.mk #[]) (some ⟨g1,0,none⟩,1,1) (some ⟨g2,0,none⟩,1,1)).toArray)).run Tryz.prog w8 = .ok () w9 ∧
          ∃ n' x',[Value.int .i64 (IntKind.wrap IntKind.i64 (((i+1:Nat):Int)-(1:Int)))]=(Sh.cons (.int .i64) .nil).vals x'∧n'<i+1 ∧ ∃ (c:NT) (ac bc:Sl),n'≤rs.length∧x'=((n':Int),())∧c=chain x (rs.drop n')∧NdAt R w9 c (nc c.k c.t ac bc)∧Blk w9 w.heap.size (nc n.k n.t a b) tN∧Blk w9 (w.heap.size+1) (nc c.k c.t ac bc) tN∧Blk w9 (w.heap.size+2) zn tN∧Kp Off w w9:=by
      intro w8 g1 g2 k8 hg1 hg2 bs bn
      obtain ⟨w9,h9,c9,k9⟩:=storeN (k8.blk b17 id) rfl 6 (ByteArray.mk #[]) (some ⟨g1,0,none⟩,1,1) (some ⟨g2,0,none⟩,1,1)
      have k79:Kp (On (w.heap.size+1)) w7 w9:=(k8.mono fun _ _ h=>h.elim).trans k9
      refine ⟨w9,h9,i,((i:Int),()),by rw [hdec];rfl,Nat.lt_succ_self _,.mk 6 (ByteArray.mk #[]) [rs[i]] [c],(some ⟨g1,0,none⟩,1,1),(some ⟨g2,0,none⟩,1,1),by omega,rfl,hch.symm,?_,k79.blk b07 (fun h=>by have h:w.heap.size=w.heap.size+1:=h;omega),c9,k79.blk b27 (fun h=>by have h:w.heap.size+2=w.heap.size+1:=h;omega),k07.then k79 fun q hq h=>by have h:q=w.heap.size+1:=h;omega⟩
      have bs9:=k9.blk bs (fun h=>by have h:g1=w.heap.size+1:=h;omega)
      have bn9:=k9.blk bn (fun h=>by have h:g2=w.heap.size+1:=h;omega)
      have hc9:NdAt R w9 c (nc c.k c.t ac bc):=hcn7.kp k79 fun p _ hp=>⟨hp,fun h=>by
        have h:p=w.heap.size+1:=h
        rcases hp with ⟨h1,_⟩ | h1 <;> omega⟩
      refine NdAt.mk' (row1 bs9 rfl (.inr hg1)) (row1 bn9 rfl (.inr hg2)) ?_
      unfold AllN
      exact ⟨_,[],by rw [List.append_nil],hc9,AllN.nil⟩
    refine ⟨s_hereN (s_eff (w':=w7.alloc (.cells [strV rs[i]].toArray tStr)) (some ⟨w7.heap.size,0,none⟩,1,1) (bldS w7) ?_),s_hereN (s_eff (w':=w7.alloc (.cells (nc c.k c.t ac bc).toArray tN)) (some ⟨w7.heap.size,0,none⟩,1,1) (bldN w7) ?_)⟩
    · have bs:=Blk.new w7 [strV rs[i]] tStr
      have ks:Kp Off w7 (w7.alloc (.cells [strV rs[i]].toArray tStr)):=(Kp.refl Off w7).alloc _
      have zs:(w7.alloc (.cells [strV rs[i]].toArray tStr)).heap.size=w7.heap.size+1:=by simp
      generalize w7.alloc (.cells [strV rs[i]].toArray tStr)=w8 at bs ks zs
      refine ⟨ks.belowOff,s_eff (w':=w8.alloc (.cells (nc c.k c.t ac bc).toArray tN)) (some ⟨w8.heap.size,0,none⟩,1,1) (bldN w8) ?_⟩
      have bn:=Blk.new w8 (nc c.k c.t ac bc) tN
      have kn:Kp Off w8 (w8.alloc (.cells (nc c.k c.t ac bc).toArray tN)):=(Kp.refl Off w8).alloc _
      generalize w8.alloc (.cells (nc c.k c.t ac bc).toArray tN)=w9 at bn kn
      obtain ⟨w10,h10,hend⟩:=fin w9 w7.heap.size w8.heap.size (ks.trans kn) (by omega) (by omega) (kn.blk bs id) bn
      refine s_effU h10 (s_leaf ?_)
      rw [if_pos rfl]
      exact hend
    · have bn:=Blk.new w7 (nc c.k c.t ac bc) tN
      have kn:Kp Off w7 (w7.alloc (.cells (nc c.k c.t ac bc).toArray tN)):=(Kp.refl Off w7).alloc _
      have zs:(w7.alloc (.cells (nc c.k c.t ac bc).toArray tN)).heap.size=w7.heap.size+1:=by simp
      generalize w7.alloc (.cells (nc c.k c.t ac bc).toArray tN)=w8 at bn kn zs
      refine ⟨kn.belowOff,s_eff (w':=w8.alloc (.cells [strV rs[i]].toArray tStr)) (some ⟨w8.heap.size,0,none⟩,1,1) (bldS w8) ?_⟩
      have bs:=Blk.new w8 [strV rs[i]] tStr
      have ks:Kp Off w8 (w8.alloc (.cells [strV rs[i]].toArray tStr)):=(Kp.refl Off w8).alloc _
      generalize w8.alloc (.cells [strV rs[i]].toArray tStr)=w9 at bs ks
      obtain ⟨w10,h10,hend⟩:=fin w9 w8.heap.size w7.heap.size (kn.trans ks) (by omega) (by omega) bs (ks.blk bn id)
      refine s_effU h10 (s_leaf ?_)
      rw [if_pos rfl]
      exact hend
  · have hm0:m=0:=by omega
    subst hm0
    have hc:c=chain x rs:=by rw [hc,List.drop_zero]
    have kd:Kp Off w6 w6.drew:=(Kp.refl Off w6).drew
    have b07:=kd.blk b06 id
    have b17:=kd.blk b16 id
    have b27:=kd.blk b26 id
    have k07:=k06.trans kd
    have hcn7:=hcn.to (B':=R) kd fun _ _ h=>h
    have hz7:=b27.lt
    generalize w6.drew=w7 at kd b07 b17 b27 k07 hcn7 hz7
    refine s_effS ((n.k:Int),n.t,a,b,()) (loadN b07) (s_key0 (hK.kp k07) rfl (s_effS ((c.k:Int),c.t,ac,bc,()) (loadN b17) (s_call (appended_any (hn.to k07 hR) hcn7 m1 m2) ?_)))
    rintro e w8 ⟨a3,b3,rfl,hw,k8⟩
    refine ⟨((n.k:Int),n.t,a3,b3,()),rfl,?_⟩
    obtain ⟨w9,h9,c9,k9⟩:=storeN (k8.blk b27 id) rfl n.k n.t a3 b3
    have k09:Kp Off w w9:=(k07.trans k8).then k9 fun q hq h=>by have h:q=w.heap.size+2:=h;omega
    refine s_effU h9 (s_effS ((n.k:Int),n.t,a3,b3,()) (loadN c9) (s_leaf ?_))
    rw [if_neg (by decide)]
    subst hc
    refine ⟨rfl,a3,b3,rfl,hw.kp k9 fun p _ hp => ?_,k09⟩
    have hp:(p<w7.heap.size∧R p)∨w7.heap.size≤p:=hp
    refine ⟨?_,fun h => ?_⟩
    · rcases hp with ⟨_,h | h⟩ | h
      · exact .inl h
      · exact .inr (by omega)
      · exact .inr (by omega)
    · have h:p=w.heap.size+2:=h
      rcases hp with ⟨_,⟨h1,_⟩ | h1⟩ | h1 <;> omega
end Go.Proofs.YtlfebfkphgelfaaGreatDoor.Nt
namespace Go.Proofs.YtlfebfkphgelfaaGreatDoor.Nt
open Go Go.Proofs Go.RowKit Rx Tr Pl Pw
open Sr (Sl slV RowIn tP pc storeP loadP zp PlAt)
open Ka (Kx s_key s_key0 nmS ixS)
open Lj (step_any lead_uniqs)
open Ed (ix_facts)
variable {w w':World} {B B':Nat→Prop} {s:ByteArray}
theorem way_cons {p r:PT} {key:ByteArray} {keys toks:List ByteArray} {is:List Nat} (h:Ed.Way s p (key :: keys) toks is r) :
    ∃ (tok:ByteArray) (toks':List ByteArray) (is':List Nat) (p':PT),toks=tok :: toks'∧Gk.Lead (nmS s) ixS p [key] p'∧Ed.Way s p' keys toks' is' r∧((p.k=6∧tok=key)∨(p.k=5∧tok=key.extract 1 (key.size-1)∧3≤key.size∧key.size≤20)):=by
  cases h with
  | mem h1 h2 h3 h4 h5=>exact ⟨_,_,_,_,rfl,.mem h1 h2 h3 h4 .nil,h5,.inl ⟨rfl,rfl⟩⟩
  | elt h1 h2 h5=>
    obtain ⟨c1,c2,_⟩:=ix_facts h1
    exact ⟨_,_,_,_,rfl,.elt h1 h2 .nil,h5,.inr ⟨rfl,rfl,c1,c2⟩⟩
theorem own_ge {base size n b:Nat} {e:TypeId} {v:Sl} {xs:List Value} (h:w.ownsRow base e size (slV v) n xs) (hb:some b=(slV v).ownBlock):base≤b:=by
  obtain ⟨_,⟨hv,_⟩ | ⟨g,cap,cur,hv,hbg,_⟩⟩:=h
  · rw [hv] at hb;cases hb
  · rw [hv] at hb
    have:b=g:=by simpa [Value.ownBlock] using hb
    omega
theorem kx_own {base:Nat} {v:Sl} {toks:List ByteArray} (h:w.ownsRow base tStr 1 (slV v) toks.length (toks.map strV)):Kx w v toks:=by
  obtain ⟨a,l,c⟩:=v
  obtain ⟨_,⟨hv,h0⟩ | ⟨g,cap,cur,hv,hbg,hg,hnc,hm,hs,ht⟩⟩:=id h
  · have hl:toks=[]:=List.eq_nil_of_length_eq_zero h0
    cases hv
    subst hl
    exact ⟨rfl,Nat.le_refl _,.inl rfl⟩
  · cases hv
    refine ⟨rfl,hnc,.inr ⟨g,0,rfl,(Array.getElem?_eq_some_iff.1 hg).1,fun j key hj => ?_⟩⟩
    have hlt:=(List.getElem?_eq_some_iff.1 hj).1
    have h':w.ownsRow base tStr 1 (.slice (some ⟨g,0,none⟩) toks.length c) toks.length (toks.map strV):=h
    have:=World.ownsRow.cellAt h' j (by omega)
    rw [Nat.zero_add,this,List.getElem?_map,hj];rfl
theorem jpTokens_any {p r:PT} {na ka:Sl} {q:Ka.Sl} {keys toks:List ByteArray} {is:List Nat} (hs:s.size≤65536) (hw:WfV s p) (hp:PlAt B w p (pc p.k p.b p.e na ka)) (hK:Kx w q keys) (hW:Ed.Way s p keys toks is r) (hkz : ∀ key ∈ keys,key.size≤140737488351232) (hkl:keys.length≤2147483647) :
    Calls Tryz.prog 25 #[.string s,.agg (pc p.k p.b p.e na ka).toArray,Ka.slV q] w fun e w'=>(∃ v:Ka.Sl,e = .returned (Ka.slV v)∧Kx w' v toks)∧Kp Off w w':=by
  have hlen:=hW.len
  refine laws_jpTokens.calls _ _ _ _ _ _ _ _ _ _ _ _ _ ?_
  unfold laws_jpTokens.t
  refine s_alloc ?_
  have b0:=Blk.new w (pc p.k p.b p.e na ka) tP
  have k0:Kp Off w (w.alloc (.cells (pc p.k p.b p.e na ka).toArray tP (0,0))):=(Kp.refl Off w).alloc _
  have z0:(w.alloc (.cells (pc p.k p.b p.e na ka).toArray tP (0,0))).heap.size=w.heap.size+1:=by simp
  show sat _ _ _ (w.alloc (.cells (pc p.k p.b p.e na ka).toArray tP (0,0)))
  generalize w.alloc (.cells (pc p.k p.b p.e na ka).toArray tP (0,0))=w1 at k0 b0 z0
  have htS:=info_some (P:=Tryz.prog) (t:=tStr) (by kernel_rfl)
  refine s_eff (w':=w1.alloc (.cells #[] tStr)) (some ⟨w1.heap.size,0,none⟩,0,0) (build0 Tryz.underlying22 htS) ?_
  have ho:=own0 (e:=tStr) (size:=1) w1 w1.heap.size (Nat.le_refl _)
  have k2:Kp Off w1 (w1.alloc (.cells #[] tStr)):=(Kp.refl Off w1).alloc _
  generalize hw2:w1.alloc (.cells #[] tStr)=w2 at ho k2
  have b2:=k2.blk b0 id
  have k02:=k0.trans k2
  have hp0:PlAt (fun b=>b<w.heap.size) w p (pc p.k p.b p.e na ka):=Sr.PlAt.kp (Kp.refl Off w) (fun b hb _=>⟨hb,id⟩) hp
  have hp2:PlAt (fun b=>b<w.heap.size) w2 p (pc p.k p.b p.e na ka):=Sr.PlAt.kp k02 (fun b _ hb=>⟨hb,id⟩) hp0
  have hql:=hK.len
  refine s_loop (fun k z w' => ∃ (i:Nat) (pi:PT) (na ka v:Sl) (is':List Nat),k=keys.length-i∧z=((i:Int),v,())∧i≤keys.length∧Ed.Way s pi (keys.drop i) (toks.drop i) is' r∧WfV s pi∧PlAt (fun b=>b<w.heap.size) w' pi (pc pi.k pi.b pi.e na ka)∧Blk w' w.heap.size (pc pi.k pi.b pi.e na ka) tP∧w'.ownsRow w1.heap.size tStr 1 (slV v) i ((toks.take i).map strV)∧Kp Off w w')
    keys.length ((0:Int),(some ⟨w1.heap.size,0,none⟩,0,0),()) rfl ⟨0,p,na,ka,_,is,rfl,rfl,Nat.zero_le _,hW,hw,hp2,b2,ho,k02⟩ ?_
  clear hp hp0 hp2 b0 b2 k02 ho hW hw
  rintro k z w3 ⟨i,pi,na,ka,v,is',rfl,rfl,hi,hW,hw,hpi,hb,ho,hk⟩
  show sat _ (laws_jpTokens.t1 s q.1 q.2.1 ⟨w.heap.size,0,none⟩ (i:Int) v) _ _
  unfold laws_jpTokens.t1
  refine s_iteD (fun hlt => ?_) (fun hge=>s_leaf ?_)
  rotate_left
  · rw [if_neg (by decide)]
    have ei:i=toks.length:=by omega
    subst ei
    rw [List.take_length] at ho
    exact ⟨rfl,⟨v,rfl,kx_own ho⟩,hk⟩
  have hin:i<keys.length:=by omega
  have hin2:i<toks.length:=by omega
  have hkey:keys[i]?=some keys[i]:=List.getElem?_eq_getElem hin
  have hkz1:=hkz _ (List.getElem_mem hin)
  rw [List.drop_eq_getElem_cons hin] at hW
  obtain ⟨tok,toks',is2,p',ht,hL,hW',hor⟩:=way_cons hW
  rw [List.drop_eq_getElem_cons hin2] at ht
  obtain ⟨rfl,rfl⟩:=List.cons.inj ht
  generalize hki:keys[i]=key at hkey hkz1 hL hor
  refine s_key (hK.kp hk) hkey (s_load (pi.k:Int) (hb.cell 0) ?_)
  refine s_cut (fun z w'=>z=(toks[i],())∧w3=w') ?_ ?_
  · rcases hor with ⟨h6,ht⟩ | ⟨h5,ht,h3,h20⟩
    · refine s_iteE (fun g=>absurd g (by omega)) (fun _=>s_leaf ?_)
      rw [if_pos rfl,ht]
      exact ⟨(key,()),rfl,rfl,rfl⟩
    · have e1:IntKind.wrap IntKind.i64 (((key.size:Nat):Int)-(1:Int))=((key.size-1:Nat):Int):=by rw [wrap_in (by omega) (by omega)];omega
      refine s_iteE (fun _ => ?_) (fun g=>absurd (by omega) g)
      rw [e1]
      refine s_chk ⟨by omega,by omega,by omega⟩ (s_leaf ?_)
      rw [if_pos rfl,ht,Int.toNat_natCast]
      exact ⟨(key.extract 1 (key.size-1),()),rfl,rfl,rfl⟩
  rintro _ w' ⟨rfl,rfl⟩
  show sat _ (laws_jpTokens.t2 s ⟨w.heap.size,0,none⟩ (i:Int) v key toks[i]) _ _
  unfold laws_jpTokens.t2
  refine s_eff (w':=w3.alloc (.cells [strV toks[i]].toArray tStr)) (some ⟨w3.heap.size,0,none⟩,1,1) (build1 (size:=1) (z0 := .string (ByteArray.mk #[])) Tryz.underlying22 htS (by kernel_rfl) (by kernel_rfl) (by decide) (by decide) (strV toks[i]) [strV toks[i]] rfl rfl) ?_
  have ho4:=ho.alloc (.cells [strV toks[i]].toArray tStr)
  have bn:=Blk.new w3 [strV toks[i]] tStr
  have k4:Kp Off w3 (w3.alloc (.cells [strV toks[i]].toArray tStr)):=(Kp.refl Off w3).alloc _
  generalize w3.alloc (.cells [strV toks[i]].toArray tStr)=w4 at ho4 bn k4
  have k04:=hk.trans k4
  have hz4:w1.heap.size≤w4.heap.size:=by
    have:=bn.lt
    have:=hb.lt
    have:=k4.size
    omega
  obtain ⟨v',w5,h5,ho5,k5,hblk⟩:=push1 (P:=Tryz.prog) (t:=tSs) (z0 := .string (ByteArray.mk #[])) Tryz.underlying22 htS (by kernel_rfl) (by kernel_rfl) (of_decide_eq_true (by kernel_rfl)) rfl (by decide) ho4 [strV toks[i]] rfl (fun u hu=>by
    rcases List.mem_cons.1 hu with rfl | hu
    · rfl
    · exact absurd hu List.not_mem_nil) (fun j u hj=>by rw [bn.cell];exact hj) (by omega) hz4
  refine s_eff v' h5 ?_
  have hge : ∀ q,some q=(slV v).ownBlock→w.heap.size+1≤q:=fun q hq=>by have:=own_ge ho hq;omega
  have k35:Kp (fun q=>some q=(slV v).ownBlock) w3 w5:=(k4.mono fun _ _ h=>h.elim).trans k5
  have b5:=k35.blk hb (fun h=>by have:=hge _ h;omega)
  have hpi5:PlAt (fun b=>b<w.heap.size) w5 pi (pc pi.k pi.b pi.e na ka):=Sr.PlAt.kp k35 (fun b _ hb=>⟨hb,fun h=>by have:=hge _ h;omega⟩) hpi
  have k05:Kp Off w w5:=hk.then k35 fun q hq h=>by have:=hge q h;omega
  refine s_eff ((pi.k:Int),(pi.b:Int),(pi.e:Int),na,ka,()) (loadP b5) ?_
  refine s_call (step_any hs hw hpi5 hkz1) ?_
  rintro e w6 ⟨⟨k',b',e',na',ka',ok,rfl,hok,hno⟩,k6⟩
  obtain ⟨p2,hL2,rfl,rfl,rfl,hp2⟩:=hok (hno p' hL)
  have:=lead_uniqs hL hL2
  subst this
  refine ⟨(((p'.k:Int),(p'.b:Int),(p'.e:Int),na',ka',()),ok,()),rfl,?_⟩
  obtain ⟨w7,h7,c7,k7⟩:=storeP (k6.blk b5 id) rfl p'.k p'.b p'.e na' ka'
  refine s_effU h7 (s_leaf ?_)
  rw [if_pos rfl]
  have w1':IntKind.wrap IntKind.i64 ((i:Int)+1)=((i+1:Nat):Int):=by rw [wrap_in (by omega) (by omega)];omega
  rw [w1']
  have ho7:w7.ownsRow w1.heap.size tStr 1 (slV v') (i+1) ((toks.take (i+1)).map strV):=by
    have h:=owns_kp (owns_kp ho5 k6 fun q _ h=>h) k7 fun q hq h=>by
      have h:q=w.heap.size:=h
      have:=own_ge ho5 hq
      omega
    rw [List.take_add_one,List.getElem?_eq_getElem hin2,List.map_append]
    exact h
  refine ⟨keys.length-(i+1),(((i+1:Nat):Int),v',()),rfl,by omega,i+1,p',na',ka',v',is2,rfl,rfl,hin,hW',(Ka.Lead.wf hL hw).1,Sr.PlAt.kp k7 (fun b _ hb=>⟨hb,fun e=>by have:b=w.heap.size:=e;omega⟩) hp2,c7,ho7,(k05.trans k6).then k7 fun q hq e=>by have:q=w.heap.size:=e;omega⟩
theorem jqClean_any {p:PT} {na ka:Sl} {q:Ka.Sl} {keys:List ByteArray} (hs:s.size≤65536) (hw:WfV s p) (hp:PlAt B w p (pc p.k p.b p.e na ka)) (hK:Kx w q keys) (hkz : ∀ key ∈ keys,key.size≤140737488351232) (hkl:keys.length≤2147483647) :
    Calls Tryz.prog 20 #[.string s,.agg (pc p.k p.b p.e na ka).toArray,Ka.slV q] w fun e w'=>(∃ b:Bool,e = .returned (.bool b))∧Kp Off w w':=by
  refine laws_jqClean.calls _ _ _ _ _ _ _ _ _ _ _ _ _ ?_
  unfold laws_jqClean.t
  refine s_alloc ?_
  have b0:=Blk.new w (pc p.k p.b p.e na ka) tP
  have k0:Kp Off w (w.alloc (.cells (pc p.k p.b p.e na ka).toArray tP (0,0))):=(Kp.refl Off w).alloc _
  show sat _ _ _ (w.alloc (.cells (pc p.k p.b p.e na ka).toArray tP (0,0)))
  generalize w.alloc (.cells (pc p.k p.b p.e na ka).toArray tP (0,0))=w1 at k0 b0
  have hp0:PlAt (fun b=>b<w.heap.size) w p (pc p.k p.b p.e na ka):=Sr.PlAt.kp (Kp.refl Off w) (fun b hb _=>⟨hb,id⟩) hp
  have hp1:PlAt (fun b=>b<w.heap.size) w1 p (pc p.k p.b p.e na ka):=Sr.PlAt.kp k0 (fun b _ hb=>⟨hb,id⟩) hp0
  have hql:=hK.len
  refine s_loop (fun k z w' => ∃ (i:Nat) (pi:PT) (na ka:Sl),k=keys.length-i∧z=((i:Int),())∧i≤keys.length∧WfV s pi∧PlAt (fun b=>b<w.heap.size) w' pi (pc pi.k pi.b pi.e na ka)∧Blk w' w.heap.size (pc pi.k pi.b pi.e na ka) tP∧Kp Off w w')
    keys.length ((0:Int),()) rfl ⟨0,p,na,ka,rfl,rfl,Nat.zero_le _,hw,hp1,b0,k0⟩ ?_
  clear hp hp0 hp1 b0 k0 hw
  rintro k z w3 ⟨i,pi,na,ka,rfl,rfl,hi,hw,hpi,hb,hk⟩
  show sat _ (laws_jqClean.t1 s q.1 q.2.1 ⟨w.heap.size,0,none⟩ (i:Int)) _ _
  unfold laws_jqClean.t1
  refine s_iteD (fun hlt => ?_) (fun hge=>s_leaf ?_)
  rotate_left
  · rw [if_neg (by decide)];exact ⟨rfl,⟨true,rfl⟩,hk⟩
  have hin:i<keys.length:=by omega
  have hkey:keys[i]?=some keys[i]:=List.getElem?_eq_getElem hin
  have hkz1:=hkz _ (List.getElem_mem hin)
  generalize hki:keys[i]=key at hkey hkz1
  refine s_cut (fun _ w'=>w3=w') (s_load (pi.k:Int) (hb.cell 0) (s_iteN (fun _ => ?_) (fun _=>s_leaf ?_))) ?_
  · refine s_key (hK.kp hk) hkey (s_ite (fun g => ?_) (fun _=>s_leaf ?_))
    · have hpos:0<key.size:=by
        rcases Nat.eq_zero_or_pos key.size with h0 | h0
        · have e:key=ByteArray.mk #[]:=by
            apply ByteArray.ext
            apply Array.toList_inj.1
            exact List.eq_nil_of_length_eq_zero (by rw [Array.length_toList];exact h0)
          rw [strEq_iff.2 e] at g
          cases g
        · exact h0
      refine s_key (hK.kp hk) hkey (s_chk ⟨by omega,by omega⟩ (s_leaf ?_))
      rw [if_pos rfl];exact ⟨(_,()),rfl,rfl⟩
    · rw [if_pos rfl];exact ⟨(false,()),rfl,rfl⟩
  · rw [if_pos rfl];exact ⟨(false,()),rfl,rfl⟩
  rintro ⟨bb,u⟩ w' rfl
  show sat _ (laws_jqClean.t2 s q.1 q.2.1 ⟨w.heap.size,0,none⟩ (i:Int) bb) _ _
  unfold laws_jqClean.t2
  refine s_ite (fun _=>s_leaf ?_) (fun _=>s_drew ?_)
  · rw [if_neg (by decide)];exact ⟨rfl,⟨false,rfl⟩,hk⟩
  have kd:Kp Off w3 w3.drew:=(Kp.refl Off w3).drew
  have b4:=kd.blk hb id
  have k04:=hk.trans kd
  have hpi4:PlAt (fun b=>b<w.heap.size) w3.drew pi (pc pi.k pi.b pi.e na ka):=Sr.PlAt.kp kd (fun b _ hb=>⟨hb,id⟩) hpi
  generalize w3.drew=w4 at kd b4 k04 hpi4
  refine ⟨((pi.k:Int),(pi.b:Int),(pi.e:Int),na,ka,()),fun w'' hw''=>loadP ((Kp.of_below (S:=Off) hw'').blk b4 id),?_⟩
  refine s_key (hK.kp k04) hkey ?_
  have w1':IntKind.wrap IntKind.i64 ((i:Int)+1)=((i+1:Nat):Int):=by rw [wrap_in (by omega) (by omega)];omega
  have fin : ∀ (w5 w6:World) (z:Nat) (p':PT) (na' ka':Sl),Kp Off w w5→WfV s p'→Blk w5 w.heap.size (pc pi.k pi.b pi.e na ka) tP→PlAt (fun b=>b<w.heap.size) w5 p' (pc p'.k p'.b p'.e na' ka') →
      ∃ w6,(Instr.storeAt tP (.pointer (some ⟨w.heap.size,0,none⟩)) (.agg (pc p'.k p'.b p'.e na' ka').toArray)).run Tryz.prog w5 = .ok () w6 ∧
        ∃ n' x',[Value.int .i64 (IntKind.wrap IntKind.i64 ((i:Int)+(1:Int)))]=(Sh.cons (.int .i64) .nil).vals x'∧n'<keys.length-i ∧ ∃ (i:Nat) (pi:PT) (na ka:Sl),n'=keys.length-i∧x'=((i:Int),())∧i≤keys.length∧WfV s pi∧PlAt (fun b=>b<w.heap.size) w6 pi (pc pi.k pi.b pi.e na ka)∧Blk w6 w.heap.size (pc pi.k pi.b pi.e na ka) tP∧Kp Off w w6:=by
    intro w5 _ _ p' na' ka' k05 hw' b5 hp5
    obtain ⟨w6,h6,c6,k6⟩:=storeP b5 rfl p'.k p'.b p'.e na' ka'
    exact ⟨w6,h6,keys.length-(i+1),(((i+1:Nat):Int),()),by rw [w1'];rfl,by omega,i+1,p',na',ka',rfl,rfl,hin,hw',Sr.PlAt.kp k6 (fun b _ hb=>⟨hb,fun e=>by have:b=w.heap.size:=e;omega⟩) hp5,c6,k05.then k6 fun q hq e=>by have:q=w.heap.size:=e;omega⟩
  refine ⟨?_,s_hereN (s_alloc ?_)⟩
  · refine s_call (step_any hs hw hpi4 hkz1) ?_
    rintro e w5 ⟨⟨k',b',e',na',ka',ok,rfl,hok,hno⟩,k5⟩
    refine ⟨((k',b',e',na',ka',()),ok,()),rfl,s_alloc ?_⟩
    obtain ⟨w6,h6,c6,k6⟩:=storeP (Blk.new w5 zp tP) rfl k' b' e' na' ka'
    have kc:Kp Off w5 w6:=(((Kp.refl (fun q=>q=w5.heap.size) w5).alloc _).trans (k6.mono fun q _ h=>h)).mono fun q hq h=>by omega
    have k06:=(k04.trans k5).trans kc
    refine s_effU h6 ?_
    cases ok with
    | false=>exact sat_iteT.2 (s_leaf (by rw [if_neg (by decide)];exact ⟨rfl,⟨true,rfl⟩,k06⟩))
    | true=>
      obtain ⟨p',hL,rfl,rfl,rfl,hp'⟩:=hok rfl
      refine sat_iteF.2 (s_eff ((p'.k:Int),(p'.b:Int),(p'.e:Int),na',ka',()) (loadP c6) ?_)
      obtain ⟨w7,h7,hend⟩:=fin w6 w6 0 p' na' ka' k06 (Ka.Lead.wf hL hw).1 (kc.blk (k5.blk b4 id) id) (Sr.PlAt.kp kc (fun b _ hb=>⟨hb,id⟩) hp')
      refine s_effU h7 (s_leaf ?_)
      rw [if_pos rfl]
      exact hend
  · have bn:=Blk.new w4 zp tP
    have kn:Kp Off w4 (w4.alloc (.cells zp.toArray tP (0,0))):=(Kp.refl Off w4).alloc _
    have zn1:(w4.alloc (.cells zp.toArray tP (0,0))).heap.size=w4.heap.size+1:=by simp
    show sat _ _ _ (w4.alloc (.cells zp.toArray tP (0,0)))
    generalize w4.alloc (.cells zp.toArray tP (0,0))=w5 at bn kn zn1
    have hb4:=b4.lt
    refine ⟨kn.belowOff,s_call (step_any hs hw (Sr.PlAt.kp kn (fun b _ hb=>⟨hb,id⟩) hpi4) hkz1) ?_⟩
    rintro e w6 ⟨⟨k',b',e',na',ka',ok,rfl,hok,hno⟩,k6⟩
    refine ⟨((k',b',e',na',ka',()),ok,()),rfl,?_⟩
    obtain ⟨w7,h7,c7,k7⟩:=storeP (k6.blk bn id) rfl k' b' e' na' ka'
    have k07:Kp Off w w7:=((k04.trans kn).trans k6).then k7 fun q hq h=>by have h:q=w4.heap.size:=h;omega
    refine s_effU h7 ?_
    cases ok with
    | false=>exact sat_iteT.2 (s_leaf (by rw [if_neg (by decide)];exact ⟨rfl,⟨true,rfl⟩,k07⟩))
    | true=>
      obtain ⟨p',hL,rfl,rfl,rfl,hp'⟩:=hok rfl
      refine sat_iteF.2 (s_eff ((p'.k:Int),(p'.b:Int),(p'.e:Int),na',ka',()) (loadP c7) ?_)
      obtain ⟨w8,h8,hend⟩:=fin w7 w7 0 p' na' ka' k07 (Ka.Lead.wf hL hw).1 (k7.blk (k6.blk (kn.blk b4 id) id) (fun h=>by have h:w.heap.size=w4.heap.size:=h;omega)) (Sr.PlAt.kp k7 (fun b _ hb=>⟨hb,fun h=>by have h:b=w4.heap.size:=h;omega⟩) hp')
      refine s_effU h8 (s_leaf ?_)
      rw [if_pos rfl]
      exact hend
end Go.Proofs.YtlfebfkphgelfaaGreatDoor.Nt
namespace Go.Proofs.YtlfebfkphgelfaaGreatDoor.Ka
open Go Go.Proofs Go.RowKit Rx Tr Pl Pw Sk
open Ed (opn nstL AsIs mkB len_of mkB_size put put_size)
variable {w w':World} {x y q:Sl} {s t:ByteArray} {keys rs ks1:List ByteArray} {k:ByteArray} {p0 p:PT}
def arrB (t:ByteArray):ByteArray:=mkB ([91]++(t.data.toList++[93]))
theorem arrB_size (t:ByteArray):(arrB t).size=t.size+2:=by
  unfold arrB
  rw [mkB_size]
  simp only [List.length_append,List.length_cons,List.length_nil,len_of];omega
theorem append_new {b e:Nat} {ns:List (Nat×Nat)} {ks:List PT} {a:Addr} (hs:s.size≤4000000000) (hC:Je.Cv w) (hL:Je.Lt w) (hE:Je.Ev w Je.gE) (hk:Ek w a) (hT:Tx w x s 0 s.size) (hV:Tx w y t 0 t.size) (hKx:Kx w q (ks1++k :: rs)) (hN:New s p0 ks1 b e ns ks k rs) (hb:k.size+clen rs+(t.size+2)≤4000000000) (hkn:ks1.length≤4000000000) :
    Calls Tryz.prog 44 #[slV x,slV y,slV q] w fun en w' => ∃ z:Sl,en = .returned (.tuple #[slV z,.nilIface])∧Tx w' z (newT s ks1 b e ks k rs (arrB t).data.toList) 0 (newT s ks1 b e ks k rs (arrB t).data.toList).size∧Kp Off w w':=by
  refine jsonparser_Append.calls _ _ _ _ _ _ _ _ _ ?_
  unfold jsonparser_Append.t
  have hi:Calls Tryz.prog 50 #[slV x,slV q] w fun en w'=>en = .returned (.tuple #[.slice none 0 0,.int .i64 0,.int .i64 (-1),.int .i64 (-1),.iface tPE (.pointer (some a))])∧Kp Off w w':=by
    refine jsonparser_internalGet.calls _ _ _ _ _ _ ?_
    unfold jsonparser_internalGet.t
    refine s_eff (w':=w) (false,false,(0:Int),()) (Je.loadAt_cells (cs:=Je.cfg) (by kernel_rfl) (info_some (by kernel_rfl)) (by kernel_rfl) (fun j v hj=>by rw [addr_add,Nat.zero_add];exact hC j v hj)) ?_
    refine s_call (getK_miss (by omega) hL hE hk hT hKx hN.ma) ?_
    rintro en w3 ⟨rfl,k3⟩
    exact ⟨((none,0,0),(0:Int),(-1:Int),(-1:Int),.iface tPE (.pointer (some a)),()),rfl,s_leaf ⟨rfl,rfl,k3⟩⟩
  refine s_call hi ?_
  rintro en w1 ⟨rfl,k1⟩
  refine ⟨((none,0,0),(0:Int),(-1:Int),(-1:Int),.iface tPE (.pointer (some a)),()),rfl,s_chk rfl (sat_iteT.2 ?_)⟩
  have hql:=hKx.len
  have hql1:q.2.1=ks1.length+(rs.length+1):=by rw [hql,List.length_append,List.length_cons]
  refine s_cut (fun z w'=>z=(false,())∧w1=w') ?_ ?_
  · refine s_load (.iface tPE (.pointer (some a))) (hk.kp k1) (s_eff false (neq_same a _ _ _) (sat_iteF.2 (s_leaf ?_)))
    rw [if_pos rfl]
    refine ⟨(false,()),?_,rfl,rfl⟩
    have:(((q.2.1:Nat):Int)==(0:Int))=false:=beq_eq_false_iff_ne.2 (by omega)
    rw [this];rfl
  rintro _ w' ⟨rfl,rfl⟩
  show sat _ (jsonparser_Append.t1 x.1 x.2.1 x.2.2 y.1 y.2.1 y.2.2 q.1 q.2.1 q.2.2 ((none,0,0),(0:Int),(-1:Int),(-1:Int),.iface tPE (.pointer (some a)),()) false) _ _
  unfold jsonparser_Append.t1
  have hyl:=hV.len
  have e2:IntKind.wrap IntKind.i64 (((y.2.1:Nat):Int)+(2:Int))=((t.size+2:Nat):Int):=by rw [hyl,wrap_in (by omega) (by omega)];omega
  refine sat_iteF.2 (s_makeF (N:=t.size+2) e2 e2 (by omega) fun w2 hF k2 => ?_)
  have ht1:=hV.kp (k1.trans k2)
  refine s_call (wtb_any (t:=ByteArray.mk #[(91:UInt8)]) (d:=0) (n:=t.size+2) (c:=t.size+2) hF (fun _=>rfl) (by show 1≤_;omega) (by show 0+1≤_;omega)) ?_
  rintro en w3 ⟨rfl,hF3,k3⟩
  have h3:w1.heap.size<w3.heap.size:=hF3.lt
  have k13:Kp Off w1 w3:=k2.then k3 fun q hq h=>by have h:q=w1.heap.size:=h;omega
  refine ⟨(1:Int),rfl,s_chk ⟨by omega,by show (1:Int)≤((t.size+2:Nat):Int);omega,Int.le_refl _⟩ ?_⟩
  refine s_copyZ (N:=t.size+2) (z:=(some ⟨w1.heap.size,0,none⟩,t.size+2,t.size+2)) (y:=y) (s:=t) (a:=0) (b:=t.size) (off:=(1:Int)) rfl hF3 rfl (hV.kp (k1.trans k13)) rfl (by show 0+1+_≤_;omega) fun w4 hF4 k4 => ?_
  have k14:Kp Off w1 w4:=k13.then k4 fun q hq h=>by have h:q=w1.heap.size:=h;omega
  have hl4:([]++(ByteArray.mk #[(91:UInt8)]).data.toList++(t.data.toList.drop 0).take (t.size-0)).length=t.size+1:=by
    rw [List.length_append,List.length_take,List.length_drop,len_of]
    show 0+1+_=_
    omega
  have eo:IntKind.wrap IntKind.i64 ((1:Int)+((t.size-0:Nat):Int))=((t.size+1:Nat):Int):=by rw [wrap_in (by omega) (by omega)];omega
  simp only [eo]
  refine s_chk ⟨by omega,by show ((t.size+1:Nat):Int)≤((t.size+2:Nat):Int);omega,Int.le_refl _⟩ ?_
  refine s_wtc (N:=t.size+2) (z:=(some ⟨w1.heap.size,0,none⟩,t.size+2,t.size+2)) (t:=ByteArray.mk #[(93:UInt8)]) rfl hF4 (by rw [hl4]) (by rw [hl4];exact Nat.le_refl _) fun w5 hF5 k5 => ?_
  have k15:Kp Off w1 w5:=k14.then k5 fun q hq h=>by have h:q=w1.heap.size:=h;omega
  have hl5:([]++(ByteArray.mk #[(91:UInt8)]).data.toList++(t.data.toList.drop 0).take (t.size-0)++(ByteArray.mk #[(93:UInt8)]).data.toList).length=t.size+2:=by
    rw [List.length_append,hl4];rfl
  have hV5:=hF5.tx hl5 (Nat.le_refl _)
  have ea:mkB ([]++(ByteArray.mk #[(91:UInt8)]).data.toList++(t.data.toList.drop 0).take (t.size-0)++(ByteArray.mk #[(93:UInt8)]).data.toList)=arrB t:=by
    unfold arrB
    rw [List.drop_zero,Nat.sub_zero,List.take_of_length_le (by rw [len_of];exact Nat.le_refl _),List.nil_append,List.append_assoc]
  rw [ea] at hV5
  have k05:=k1.trans k15
  have hb5:k.size+clen rs+(arrB t).size≤4000000000:=by rw [arrB_size];exact hb
  have hset:=setN_any (y:=(some ⟨w1.heap.size,0,none⟩,t.size+2,t.size+2)) (t:=arrB t) hs (hC.off k05) (hL.off' k05) (hE.kp k05 id) (hk.kp k05) (hT.kp k05) hV5 (hKx.kp k05) hN hb5 hkn
  refine s_call hset ?_
  rintro en w6 ⟨z,rfl,h6,k6⟩
  exact ⟨(z,Value.nilIface,()),rfl,s_leaf ⟨rfl,z,rfl,h6,k05.trans k6⟩⟩
theorem jqAppendNew_any {b e:Nat} {ns:List (Nat×Nat)} {ks:List PT} {a:Addr} (hs:s.size≤4000000000) (hC:Je.Cv w) (hL:Je.Lt w) (hE:Je.Ev w Je.gE) (hk:Ek w a) (hKx:Kx w q (ks1++k :: rs)) (hN:New s p0 ks1 b e ns ks k rs) (hb:k.size+clen rs+(t.size+2)≤4000000000) (hkn:ks1.length≤4000000000) :
    Calls Tryz.prog 26 #[.string s,.string t,slV q] w fun en w'=>en = .returned (.tuple #[.string (newT s ks1 b e ks k rs (arrB t).data.toList),.bool true])∧Kp Off w w':=by
  refine impl_JqAppend.calls _ _ _ _ _ ?_
  unfold impl_JqAppend.t
  obtain ⟨x,w1,hcv,hT,k1,z1,hx⟩:=conv_any (w:=w) s
  refine s_eff x hcv ?_
  obtain ⟨y,w2,hcv2,hV,k2,z2,hy⟩:=conv_any (w:=w1) t
  refine s_eff y hcv2 ?_
  have K2:=k1.trans k2
  refine s_call (append_new hs (hC.off K2) (hL.off' K2) (hE.kp K2 id) (hk.kp K2) (hT.kp k2) hV (hKx.kp K2) hN hb hkn) ?_
  rintro en w3 ⟨z,rfl,h3,k3⟩
  refine ⟨(z,Value.nilIface,()),rfl,s_chk rfl (sat_iteF.2 ?_)⟩
  exact s_eff (w':=w3) _ (tx_str h3) (s_leaf ⟨rfl,rfl,K2.trans k3⟩)
end Go.Proofs.YtlfebfkphgelfaaGreatDoor.Ka
