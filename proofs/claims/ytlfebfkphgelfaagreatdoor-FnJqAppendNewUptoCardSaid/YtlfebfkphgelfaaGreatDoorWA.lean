import Derived.Test.YtlfebfkphgelfaaGreatDoorMA
import Derived.Test.YtlfebfkphgelfaaGreatDoorMI
namespace Go.Proofs.YtlfebfkphgelfaaGreatDoor.Gk
open Go Rx Pl Pw Sk
inductive Miss (nm:Nat×Nat→ByteArray) (ix:ByteArray→Option Nat):PT→List ByteArray→Prop
  | here {b e:Nat} {ns:List (Nat×Nat)} {ks:List PT} {key:ByteArray} {rest:List ByteArray}:(∀ n ∈ ns,nm n≠key)→Miss nm ix (.mk 6 b e ns ks) (key :: rest)
  | mem {b e:Nat} {ns:List (Nat×Nat)} {ks:List PT} {j:Nat} {n:Nat×Nat} {p:PT} {key:ByteArray} {rest:List ByteArray} :
      ns[j]?=some n→ks[j]?=some p→nm n=key→(∀ (j':Nat) (n':Nat×Nat),j'≠j→ns[j']?=some n'→nm n'≠key)→Miss nm ix p rest→Miss nm ix (.mk 6 b e ns ks) (key :: rest)
  | elt {b e:Nat} {ns:List (Nat×Nat)} {ks:List PT} {j:Nat} {p:PT} {key:ByteArray} {rest:List ByteArray} :
      ix key=some j→ks[j]?=some p→Miss nm ix p rest→Miss nm ix (.mk 5 b e ns ks) (key :: rest)
variable {s:ByteArray} {nm:Nat×Nat→ByteArray} {ix:ByteArray→Option Nat} {e:Nat} {keys:List ByteArray} {lv kl:Nat} {r:Option Nat} {last:Bool}
theorem Miss.ne {p:PT} {keys:List ByteArray} (h:Miss nm ix p keys):keys≠[]:=by cases h <;> simp
theorem Go.rest {key:ByteArray} (hk:kl≠lv+1) (hkey:keys[lv]?=some key) : ∀ (ks:List PT) (ns:List (Nat×Nat)) (first:Bool) (j e':Nat) (last:Bool),WfM s first j ns ks e'→e'≤e →
    (∀ n ∈ ns,nm n≠key)→(∀ last',Go s nm ix e keys (e'-1) (lv+1) kl last' r)→Go s nm ix e keys (bl s j) (lv+1) kl last r
  | [],ns,first,j,e',last,h,he,h3,h4=>by
    unfold WfM at h
    obtain ⟨_,_,h⟩:=h
    subst h
    exact h4 last
  | p0 :: ks,ns,first,j,e',last,h,he,h3,h4=>by
    unfold WfM at h
    obtain ⟨n0,ns',rfl,g1,hq,hs,hc,hb,hv,hM⟩:=h
    have hvl:=hv.lt
    have hlen:=wfM_le _ _ _ _ _ hM
    have b1:=bl_ge s j
    have b2:=bl_ge s (bl s j+1)
    have b3:=bl_ge s n0.2
    have b4:=bl_ge s (bl s n0.2+1)
    have b5:=bl_ge s p0.e
    have hsl:=strE_le hs
    have main : ∀ last',Go s nm ix e keys n0.1 (lv+1) kl last' r:=by
      intro last'
      obtain ⟨k,hk',hQ⟩:=strE_QE hs
      have hne:=h3 n0 (by simp)
      have e1:n0=(n0.1,n0.1+1+k+1):=by
        obtain ⟨a,b⟩:=n0
        have hk':b=a+1+k+1:=hk'
        subst hk';rfl
      rw [hk'] at b3 b4 hb hc
      refine .keyN hq hQ (by rw [← hk'];exact hs) (by omega) hc hkey (by rw [e1] at hne;exact hne) ?_
      refine Go.gap rfl b4 (by omega) (bl_blank s _) ?_
      rw [← hb]
      have cm:bt s (bl s p0.e:Int)≠58∧bl s p0.e<e':=by
        cases ks with
        | nil=>unfold WfM at hM;obtain ⟨_,g1,g2⟩:=hM;omega
        | cons q ks=>
          have hM':=hM
          unfold WfM at hM;obtain ⟨n',ns'',_,g,_,hs',_,hb',hv',hM2⟩:=hM
          have a1:=wfM_le _ _ _ _ _ hM2
          have a2:=strE_le hs'
          have a3:=bl_ge s (bl s p0.e+1)
          have a4:=bl_ge s n'.2
          have a5:=bl_ge s (bl s n'.2+1)
          have a6:=hv'.lt
          have g:bt s (bl s p0.e:Int)=44∧n'.1=bl s (bl s p0.e+1):=g
          omega
      refine Go.val (by omega) hv (by omega) cm.1 ?_
      exact Go.rest hk hkey ks ns' false p0.e e' false hM he (fun n hn=>h3 n (List.mem_cons_of_mem _ hn)) h4
    cases first with
    | true=>
      simp only [if_true] at g1
      rw [← g1];exact main last
    | false=>
      simp only [Bool.false_eq_true,if_false] at g1
      obtain ⟨g1,g2⟩:=g1
      have hn1:n0.1<e:=by omega
      refine .skip (by omega) (by omega) (by omega) (by omega) (by omega) (by omega) (Go.gap rfl b2 (by omega) (bl_blank s _) ?_)
      rw [← g2];exact main last
theorem mem_tail : ∀ (ks:List PT) (ns:List (Nat×Nat)) (first:Bool) (j e' t:Nat) (p:PT),WfM s first j ns ks e'→ks[t]?=some p→WfM s false p.e (ns.drop (t+1)) (ks.drop (t+1)) e'
  | [],ns,first,j,e',t,p,h,h2=>by simp at h2
  | p0 :: ks,ns,first,j,e',t,p,h,h2=>by
    unfold WfM at h
    obtain ⟨n0,ns',rfl,h0,hq,hs,hc,hb,hv,hM⟩:=h
    cases t with
    | zero=>
      simp only [List.getElem?_cons_zero,Option.some.injEq] at h2
      subst h2;exact hM
    | succ t=>
      simp only [List.getElem?_cons_succ] at h2
      exact mem_tail ks ns' false p0.e e' t p hM h2
def Cont (s:ByteArray) (nm:Nat×Nat→ByteArray) (ix:ByteArray→Option Nat) (e:Nat) (keys:List ByteArray) (a:Nat):Nat→Prop
  | 0 => ∀ j,a≤j→j<e→isB (bt s (j:Int))=true
  | L+1 => ∀ last',Go s nm ix e keys a (L+1) L last' none
theorem Cont.close {L c:Nat} (h:Cont s nm ix e keys (c+1) L) (hc:c<e) (h125:bt s (c:Int)=125) (last:Bool):Go s nm ix e keys c (L+1) L last none:=by
  cases L with
  | zero=>exact .clsE hc h125 fun j h1 h2=>h j h1 h2
  | succ L=>exact .cls hc h125 (h last)
theorem wfM_end : ∀ (ks:List PT) (ns:List (Nat×Nat)) (first:Bool) (j e':Nat),WfM s first j ns ks e'→1≤e'∧bt s ((e'-1:Nat):Int)=125
  | [],ns,first,j,e',h=>by
    unfold WfM at h
    obtain ⟨_,h1,h2⟩:=h
    subst h2
    exact ⟨by omega,by rw [Nat.add_sub_cancel];exact h1⟩
  | p0 :: ks,ns,first,j,e',h=>by
    unfold WfM at h
    obtain ⟨n0,ns',rfl,h0,hq,hs,hc,hb,hv,hM⟩:=h
    exact wfM_end ks ns' false p0.e e' hM
theorem wfM_bl : ∀ (ks:List PT) (ns:List (Nat×Nat)) (first:Bool) (j e':Nat),WfM s first j ns ks e'→bl s j≤e'-1
  | [],ns,first,j,e',h=>by
    unfold WfM at h
    obtain ⟨_,h1,h2⟩:=h
    omega
  | p0 :: ks,ns,first,j,e',h=>by
    unfold WfM at h
    obtain ⟨n0,ns',rfl,h0,hq,hs,hc,hb,hv,hM⟩:=h
    have a0:=wfM_le ks ns' false p0.e e' hM
    have a1:=hv.lt
    have a2:=strE_le hs
    have a3:=bl_ge s n0.2
    have a4:=bl_ge s (bl s n0.2+1)
    have g:=bl_ge s j
    have g2:=bl_ge s (bl s j+1)
    split at h0 <;> omega
theorem go_miss {p:PT} {keys0:List ByteArray} (h:Miss nm ix p keys0):WfV s p → ∀ (e:Nat) (keys:List ByteArray) (L:Nat),p.e≤e→keys.drop L=keys0→Cont s nm ix e keys p.e L→Go s nm ix e keys p.b L L true none:=by
  induction h with
  | @here b e' ns ks key rest h1=>
    intro hw e keys L he hd hC
    have he:e'≤e:=he
    have hC:Cont s nm ix e keys e' L:=hC
    obtain ⟨w1,w2,w3,w4⟩:=wf_obj hw
    obtain ⟨z1,z2⟩:=wfM_end ks ns true (b+1) e' w4
    have hkey:keys[L]?=some key:=by
      have:=congrArg (·[0]?) hd
      simpa using this
    have bb:=bl_ge s (b+1)
    have bb2:=wfM_bl ks ns true (b+1) e' w4
    refine .opn (by show b<e;omega) w3 (Go.gap rfl bb (by omega) (bl_blank s _) ?_)
    exact Go.rest (by omega) hkey ks ns true (b+1) e' true w4 he h1 fun last'=>Cont.close (by rw [Nat.sub_add_cancel z1];exact hC) (by omega) z2 last'
  | @mem b e' ns ks t n p' key rest h1 h2 h3 h4 h5 ih=>
    intro hw e keys L he hd hC
    have he:e'≤e:=he
    have hC:Cont s nm ix e keys e' L:=hC
    obtain ⟨w1,w2,w3,w4⟩:=wf_obj hw
    obtain ⟨z1,z2⟩:=wfM_end ks ns true (b+1) e' w4
    obtain ⟨m1,m2,m3,m4,m5,m6,m7⟩:=mem_at ks ns true (b+1) e' t n p' w4 h1 h2
    have hkey:keys[L]?=some key:=by
      have:=congrArg (·[0]?) hd
      simpa using this
    have hlen:(keys.drop L).length=rest.length+1:=by rw [hd];rfl
    rw [List.length_drop] at hlen
    have hrl:=List.length_pos_iff.2 h5.ne
    have hd1:keys.drop (L+1)=rest:=by
      have:=congrArg (List.drop 1) hd
      simpa [List.drop_drop] using this
    obtain ⟨k,hk',hQ⟩:=strE_QE m2
    obtain ⟨n1,n2⟩:=n
    have hk':n2=n1+1+k+1:=hk'
    subst hk'
    have b3:=bl_ge s (n1+1+k+1)
    have b4:=bl_ge s (bl s (n1+1+k+1)+1)
    have hpl:=m5.lt
    have m4:p'.b=bl s (bl s (n1+1+k+1)+1):=m4
    have hT:=mem_tail ks ns true (b+1) e' t p' w4 h2
    have bb3:=bl_ge s p'.e
    have bb4:=wfM_bl _ _ _ _ _ hT
    have hcont:Cont s nm ix e keys p'.e (L+1):=fun last'=>by
      refine Go.gap rfl bb3 (by omega) (bl_blank s _) ?_
      refine Go.rest (by omega) hkey _ _ false p'.e e' last' hT he (fun n' hn => ?_) fun l2=>Cont.close (by rw [Nat.sub_add_cancel z1];exact hC) (by omega) z2 l2
      obtain ⟨i,hi⟩:=List.mem_iff_getElem?.1 hn
      rw [List.getElem?_drop] at hi
      exact h4 (t+1+i) n' (by omega) hi
    have fin : ∀ last,Go s nm ix e keys n1 (L+1) L last none:=fun last=>by
      refine .keyM m1 hQ m2 (by omega) m3 hkey h3 (by omega) ?_
      have g1:=ih m5 e keys (L+1) (by omega) hd1 hcont
      rw [m4] at g1
      exact Go.gap rfl b4 (by omega) (bl_blank s _) g1
    have bb:=bl_ge s (b+1)
    have bb2:=wfM_bl ks ns true (b+1) e' w4
    refine .opn (by show b<e;omega) w3 (Go.gap rfl bb (by omega) (bl_blank s _) ?_)
    exact Go.mems (s:=s) (nm:=nm) (ix:=ix) (e:=e) (r:=none) (show L≠L+1 by omega) hkey ks ns true (b+1) e' t (n1,n1+1+k+1) p' true w4 he h1 h2 (fun j' n' hj hn=>h4 j' n' (by omega) hn) fin
  | @elt b e' ns ks t p' key rest h1 h2 h5 ih=>
    intro hw e keys L he hd hC
    have he:e'≤e:=he
    obtain ⟨w1,w2,w3,w4⟩:=wf_arr hw
    obtain ⟨m1,m2,m3,m4⟩:=elt_at ks true (b+1) e' t p' w4 h2
    have hkey:keys[L]?=some key:=by
      have:=congrArg (·[0]?) hd
      simpa using this
    have hlen:(keys.drop L).length=rest.length+1:=by rw [hd];rfl
    rw [List.length_drop] at hlen
    have hrl:=List.length_pos_iff.2 h5.ne
    have hd1:keys.drop (L+1)=rest:=by
      have:=congrArg (List.drop 1) hd
      simpa [List.drop_drop] using this
    exact .idxS hkey h1 hw he h2 (by omega) (ih m1 p'.e (keys.drop (L+1)) 0 (Nat.le_refl _) hd1 fun j g1 g2=>by omega)
end Go.Proofs.YtlfebfkphgelfaaGreatDoor.Gk
namespace Go.Proofs.YtlfebfkphgelfaaGreatDoor.Ed
open Go Go.Proofs Rx Pl Pw Sk
theorem bl_eq {s:ByteArray} : ∀ {n i m:Nat},m-i=n→i≤m→(∀ j,i≤j→j<m→isB (bt s (j:Int))=true)→isB (bt s (m:Int))=false→bl s i=m
  | 0,i,m,h,hi,_,h2=>by
    have:i=m:=by omega
    subst this;exact bl_no h2
  | n+1,i,m,h,hi,h1,h2=>by
    rw [bl_yes (h1 i (Nat.le_refl i) (by omega))]
    exact bl_eq (n:=n) (by omega) (by omega) (fun j g1 g2=>h1 j (by omega) g2) h2
def Nst (c:Int):Prop:=isDig c=false∧c≠46∧c≠101∧c≠69
def sh (u v i:Nat):Nat:=i+v-u
mutual
def mvP (u v:Nat):PT→PT
  | .mk k b e ns ks => .mk k (sh u v b) (sh u v e) (ns.map fun n=>(sh u v n.1,sh u v n.2)) (mvL u v ks)
def mvL (u v:Nat):List PT→List PT
  | []=>[]
  | p :: ks=>mvP u v p :: mvL u v ks
end
theorem mvP_b (u v:Nat) (p:PT):(mvP u v p).b=sh u v p.b:=by cases p;unfold mvP;rfl
theorem mvP_e (u v:Nat) (p:PT):(mvP u v p).e=sh u v p.e:=by cases p;unfold mvP;rfl
theorem mvP_k (u v:Nat) (p:PT):(mvP u v p).k=p.k:=by cases p;unfold mvP;rfl
theorem mvL_len (u v:Nat) : ∀ ks:List PT,(mvL u v ks).length=ks.length
  | []=>by unfold mvL;rfl
  | p :: ks=>by unfold mvL;rw [List.length_cons,List.length_cons,mvL_len u v ks]
mutual
theorem mvP_id : ∀ p:PT,mvP 0 0 p=p
  | .mk k b e ns ks=>by
    unfold mvP
    have e:(ns.map fun n:Nat×Nat=>(sh 0 0 n.1,sh 0 0 n.2))=ns:=List.map_id ns
    rw [mvL_id ks,e];rfl
theorem mvL_id : ∀ ks:List PT,mvL 0 0 ks=ks
  | []=>by unfold mvL;rfl
  | p :: ks=>by unfold mvL;rw [mvP_id p,mvL_id ks]
end
structure Ag (s s':ByteArray) (u v e:Nat):Prop where
  at' : ∀ j,u≤j→j<e→bt s' (sh u v j:Int)=bt s (j:Int)
  end':sh u v e≤s'.size
  le:u≤e
variable {s s':ByteArray} {u v e:Nat}
theorem sh_add {u v i k:Nat} (h:u≤i):sh u v (i+k)=sh u v i+k:=by unfold sh;omega
theorem sh_lt {u v i k:Nat} (h:u≤i):sh u v i<sh u v k↔i<k:=by unfold sh;omega
theorem sh_back {u v j:Nat} (h:v≤j) : ∃ i,u≤i∧j=sh u v i:=⟨j+u-v,by omega,by unfold sh;omega⟩
theorem Ag.m_bl (h:Ag s s' u v e) {i:Nat} (hi:u≤i) (hm:bl s i<e):bl s' (sh u v i)=sh u v (bl s i):=by
  have hg:=bl_ge s i
  refine bl_eq rfl (by unfold sh;omega) (fun j g1 g2 => ?_) ?_
  · obtain ⟨k,hk,rfl⟩:=sh_back (u:=u) (v:=v) (j:=j) (by unfold sh at g1;omega)
    have:k<bl s i:=(sh_lt hk).1 g2
    rw [h.at' k hk (by omega)]
    exact bl_blank s i k (by unfold sh at g1;omega) this
  · rw [h.at' _ (by omega) hm];exact bl_not s i
theorem Ag.m_hexE (h:Ag s s' u v e) : ∀ {n i m:Nat},u≤i→hexE s i n=some m→m≤e→hexE s' (sh u v i) n=some (sh u v m)
  | 0,i,m,hi,hh,hm=>by cases hh;rfl
  | n+1,i,m,hi,hh,hm=>by
    have hl:=(hexE_le hh).1
    unfold hexE at hh ⊢
    rw [h.at' i hi (by omega)]
    split at hh
    · rename_i g
      rw [if_pos g]
      have:=Ag.m_hexE h (n:=n) (i:=i+1) (by omega) hh hm
      rwa [sh_add hi] at this
    · cases hh
theorem Ag.m_escE (h:Ag s s' u v e) {i m:Nat} (hi:u≤i) (hh:escE s i=some m) (hm:m≤e):escE s' (sh u v i)=some (sh u v m):=by
  have hl:=(escE_le hh).1
  unfold escE at hh ⊢
  rw [h.at' i hi (by omega)]
  split at hh
  · rename_i g
    cases hh
    rw [if_pos g,sh_add hi]
  · rename_i g
    rw [if_neg g]
    split at hh
    · rename_i g2
      rw [if_pos g2,← sh_add hi]
      exact h.m_hexE (by omega) hh hm
    · cases hh
theorem Ag.m_strE (h:Ag s s' u v e) : ∀ {n i m:Nat},m-i≤n→u≤i→strE s i=some m→m≤e→strE s' (sh u v i)=some (sh u v m)
  | 0,i,m,hn,hi,hh,hm=>by have:=strE_le hh;omega
  | n+1,i,m,hn,hi,hh,hm=>by
    have hl:=strE_le hh
    have hb:=h.at' i hi (by omega)
    by_cases h34:bt s (i:Int)=34
    · rw [strE_q h34] at hh
      cases hh
      rw [strE_q (by rw [hb];exact h34),sh_add hi]
    by_cases h32:bt s (i:Int)<32
    · rw [strE_ctl h32] at hh;cases hh
    by_cases h92:bt s (i:Int)=92
    · rw [strE_esc h92] at hh
      cases he:Pl.escE s (i+1) with
      | none=>rw [he] at hh;cases hh
      | some j=>
        rw [he] at hh
        have hh:Pl.strE s j=some m:=hh
        have h1:=strE_le hh
        have h2:=escE_le he
        rw [strE_esc (by rw [hb];exact h92),← sh_add hi,h.m_escE (by omega) he (by omega)]
        exact Ag.m_strE h (n:=n) (by omega) (by omega) hh hm
    · have hlt:i<s.size:=by omega
      rw [strE_plain hlt h34 h32 h92] at hh
      have hlt':sh u v i<s'.size:=by have:=h.end';unfold sh at this ⊢;omega
      rw [strE_plain hlt' (by rw [hb];exact h34) (by rw [hb];exact h32) (by rw [hb];exact h92),← sh_add hi]
      exact Ag.m_strE h (n:=n) (by omega) (by omega) hh hm
theorem wordB_of {s w:ByteArray} {i:Nat} (hz:i+w.size≤s.size) (h : ∀ j,j<w.size→bt s ((i+j:Nat):Int)=bt w (j:Int)):wordB s i w=true:=by
  unfold wordB
  rw [decide_eq_true hz,Bool.true_and,strEq_iff]
  have hsz:(s.extract i (i+w.size)).size=w.size:=by rw [ByteArray.size_extract];omega
  apply ByteArray.ext
  apply Array.ext
  · exact hsz
  · intro k h1 h2
    have hk:k<w.size:=h2
    have a1:=bt_extract (s:=s) (a:=i) (b:=i+w.size) (j:=k) hz (by omega)
    rw [h k hk] at a1
    unfold bt at a1
    rw [Int.toNat_natCast,List.getD_eq_getElem?_getD,List.getD_eq_getElem?_getD,List.getElem?_eq_getElem (by rw [Array.length_toList];exact h1),List.getElem?_eq_getElem (by rw [Array.length_toList];exact h2)] at a1
    simp only [Option.getD_some,Array.getElem_toList] at a1
    exact UInt8.toNat_inj.1 (Int.ofNat.inj a1)
theorem Ag.word (h:Ag s s' u v e) {i:Nat} {w:ByteArray} (hi:u≤i) (hw:wordB s i w=true) (he:i+w.size≤e):wordB s' (sh u v i) w=true:=by
  have hend:=h.end'
  refine wordB_of (by unfold sh at hend ⊢;omega) fun j hj => ?_
  rw [← sh_add hi,h.at' _ (by omega) (by omega)]
  exact wordB_at hw j hj
theorem Ag.allL (h:Ag s s' u v e) {i m:Nat} (hi:u≤i) (hm:m≤e) (hl:allL s i m):allL s' (sh u v i) (sh u v m):=fun j g1 g2=>by
  obtain ⟨k,hk,rfl⟩:=sh_back (u:=u) (v:=v) (j:=j) (by unfold sh at g1;omega)
  have g2:k<m:=(sh_lt hk).1 g2
  rw [h.at' k hk (by omega)]
  exact hl k (by unfold sh at g1;omega) g2
def Stop (s':ByteArray) (u v e m:Nat):Prop:=m<e∨(m=e∧Nst (bt s' (sh u v e:Int)))
theorem Ag.m_digs (h:Ag s s' u v e) {i:Nat} (hi:u≤i) (hm:digs s i≤e) (hs:digs s i<e∨isDig (bt s' (sh u v (digs s i):Int))=false):digs s' (sh u v i)=sh u v (digs s i):=by
  have hg:=digs_ge s i
  have h1:allD s' (sh u v i) (sh u v (digs s i)):=fun j g1 g2=>by
    obtain ⟨k,hk,rfl⟩:=sh_back (u:=u) (v:=v) (j:=j) (by unfold sh at g1;omega)
    have g2:k<digs s i:=(sh_lt hk).1 g2
    rw [h.at' k hk (by omega)]
    exact allD_digs s i k (by unfold sh at g1;omega) g2
  rw [digs_of_allD (by unfold sh;omega) h1]
  refine digs_no ?_
  rcases hs with hs | hs
  · rw [h.at' _ (by omega) hs];exact digs_stop s i
  · exact hs
theorem Ag.m_expD (h:Ag s s' u v e) {i m:Nat} (hi:u≤i) (hh:expD s i=some m) (hs:Stop s' u v e m):expD s' (sh u v i)=some (sh u v m):=by
  unfold expD at hh ⊢
  split at hh
  · rename_i g
    have:=digs_gt g
    cases hh
    have hle:digs s i≤e:=by rcases hs with hs | ⟨hs,_⟩ <;> omega
    rw [h.at' i hi (by omega),if_pos g,h.m_digs hi hle (hs.imp id fun x=>by rw [x.1];exact x.2.1)]
  · cases hh
theorem Ag.m_expE (h:Ag s s' u v e) {i m:Nat} (hi:u≤i) (hh:expE s i=some m) (hs:Stop s' u v e m):expE s' (sh u v i)=some (sh u v m):=by
  have hle:m≤e:=by rcases hs with hs | ⟨hs,_⟩ <;> omega
  unfold expE at hh
  split at hh
  · rename_i g
    have hlo:signE s (i+1)<m:=by
      unfold expD at hh
      split at hh
      · rename_i g2;have:=digs_gt g2;cases hh;exact this
      · cases hh
    have hlo1:i+1≤signE s (i+1):=by unfold signE;split <;> omega
    have hsg:signE s' (sh u v (i+1))=sh u v (signE s (i+1)):=by
      unfold signE at hlo hlo1 ⊢
      have e1:=h.at' (i+1) (by omega) (by omega)
      rw [e1]
      split
      · exact (sh_add (by omega)).symm
      · rfl
    unfold expE
    rw [h.at' i hi (by omega),if_pos g,← sh_add hi,hsg]
    exact h.m_expD (by omega) hh hs
  · rename_i g
    cases hh
    refine expE_no ?_
    rcases hs with hs | ⟨hs,h2⟩
    · rw [h.at' i hi hs];exact g
    · subst hs;have:=h2.2.2;omega
theorem expE_ge {s:ByteArray} {i m:Nat} (h:expE s i=some m):i≤m:=by
  unfold expE at h
  split at h
  · unfold expD at h
    split at h
    · rename_i g2
      have:=digs_gt g2
      have:i+1≤signE s (i+1):=by unfold signE;split <;> omega
      cases h;omega
    · cases h
  · cases h;exact Nat.le_refl _
theorem Ag.m_fracE (h:Ag s s' u v e) {i m:Nat} (hi:u≤i) (hh:fracE s i=some m) (hs:Stop s' u v e m):fracE s' (sh u v i)=some (sh u v m):=by
  have hle:m≤e:=by rcases hs with hs | ⟨hs,_⟩ <;> omega
  unfold fracE at hh
  split at hh
  · rename_i g
    split at hh
    · rename_i g2
      have g3:=digs_gt g2
      have g4:=expE_ge hh
      unfold fracE
      rw [h.at' i hi (by omega),if_pos g,← sh_add hi,h.at' (i+1) (by omega) (by omega),if_pos g2,h.m_digs (by omega) (by omega) ?_]
      · exact h.m_expE (by omega) hh hs
      · rcases hs with hs | ⟨hs,h2⟩
        · left;omega
        · rcases Nat.lt_or_ge (Pl.digs s (i+1)) e with g | g
          · exact .inl g
          · right
            rw [show Pl.digs s (i+1)=e by omega];exact h2.1
    · cases hh
  · rename_i g
    have g4:=expE_ge hh
    have:bt s' (sh u v i:Int)≠46:=by
      rcases Nat.lt_or_ge i e with g5 | g5
      · rw [h.at' i hi g5];exact g
      · rcases hs with hs | ⟨hs,h2⟩
        · omega
        · have:i=e:=by omega
          subst this;exact h2.2.1
    rw [fracE_no this]
    exact h.m_expE hi hh hs
theorem fracE_ge {s:ByteArray} {i m:Nat} (h:fracE s i=some m):i≤m:=by
  unfold fracE at h
  split at h
  · split at h
    · rename_i g2
      have:=digs_gt g2
      have:=expE_ge h
      omega
    · cases h
  · exact expE_ge h
theorem Ag.m_intE (h:Ag s s' u v e) {i m:Nat} (hi:u≤i) (hh:intE s i=some m) (hs:Stop s' u v e m):intE s' (sh u v i)=some (sh u v m)∧i<m:=by
  have hle:m≤e:=by rcases hs with hs | ⟨hs,_⟩ <;> omega
  unfold intE at hh
  split at hh
  · rename_i g
    have g4:=fracE_ge hh
    refine ⟨?_,by omega⟩
    unfold intE
    rw [h.at' i hi (by omega),if_pos g,← sh_add hi]
    exact h.m_fracE (by omega) hh hs
  · rename_i g
    split at hh
    · rename_i g2
      have g3:=digs_gt g2
      have g4:=fracE_ge hh
      refine ⟨?_,by omega⟩
      unfold intE
      rw [h.at' i hi (by omega),if_neg g,if_pos g2,h.m_digs hi (by omega) ?_]
      · exact h.m_fracE (by omega) hh hs
      · rcases hs with hs | ⟨hs,h2⟩
        · left;omega
        · rcases Nat.lt_or_ge (Pl.digs s i) e with g | g
          · exact .inl g
          · right
            rw [show Pl.digs s i=e by omega];exact h2.1
    · cases hh
theorem Ag.m_numE (h:Ag s s' u v e) {i m:Nat} (hi:u≤i) (hh:numE s i=some m) (hs:Stop s' u v e m):numE s' (sh u v i)=some (sh u v m):=by
  have hle:m≤e:=by rcases hs with hs | ⟨hs,_⟩ <;> omega
  unfold numE at hh ⊢
  split at hh
  · rename_i g
    obtain ⟨a,b⟩:=h.m_intE (i:=i+1) (by omega) hh hs
    rw [h.at' i hi (by omega),if_pos g,← sh_add hi];exact a
  · rename_i g
    obtain ⟨a,b⟩:=h.m_intE hi hh hs
    rw [h.at' i hi (by omega),if_neg g];exact a
theorem Ag.lit (h:Ag s s' u v e) {k i m:Nat} (hi:u≤i) (him:i<m) (hh:Pw.Lit s k i m) (hs:Stop s' u v e m):Pw.Lit s' k (sh u v i) (sh u v m):=by
  have hle:m≤e:=by rcases hs with hs | ⟨hs,_⟩ <;> omega
  refine ⟨h.allL hi hle hh.1,?_⟩
  rcases hh.2 with ⟨a,b,c⟩ | ⟨a,b,c⟩ | ⟨a,b,c⟩ | ⟨a,b,c⟩
  · exact .inl ⟨a,by rw [h.at' i hi (by omega)];exact b,h.m_numE hi c hs⟩
  · subst c;exact .inr (.inl ⟨a,h.word hi b hle,sh_add hi⟩)
  · subst c;exact .inr (.inr (.inl ⟨a,h.word hi b hle,sh_add hi⟩))
  · subst c;exact .inr (.inr (.inr ⟨a,h.word hi b hle,sh_add hi⟩))
mutual
theorem Ag.wfV (h:Ag s s' u v e) : ∀ (p:PT),WfV s p→u≤p.b→Stop s' u v e p.e→WfV s' (mvP u v p)
  | .mk k b f ns ks,hw,hb,hs=>by
    have hb:u≤b:=hb
    have hs:Stop s' u v e f:=hs
    have hle:f≤e:=by rcases hs with hs | ⟨hs,_⟩ <;> omega
    have hend:=h.end'
    unfold WfV at hw
    unfold mvP WfV
    obtain ⟨h1,h2,hw⟩:=hw
    refine ⟨by unfold sh;omega,by unfold sh at hend ⊢;omega,?_⟩
    rcases hw with ⟨a1,a2,a3⟩ | ⟨a1,a2,a3,a4,a5⟩ | ⟨a1,a2,a3,a4⟩ | ⟨a1,a2,a3⟩
    · subst a1;subst a2
      exact .inl ⟨rfl,by unfold mvL;rfl,h.lit hb h1 a3 hs⟩
    · subst a2;subst a3
      refine .inr (.inl ⟨a1,rfl,by unfold mvL;rfl,by rw [h.at' b hb (by omega)];exact a4,?_⟩)
      rw [← sh_add (u:=u) (v:=v) (i:=b) (k:=1) hb]
      exact h.m_strE (Nat.le_refl _) (by omega) a5 hle
    · subst a2
      refine .inr (.inr (.inl ⟨a1,rfl,by rw [h.at' b hb (by omega)];exact a3,?_⟩))
      rw [← sh_add (u:=u) (v:=v) (i:=b) (k:=1) hb]
      exact Ag.wfE h ks true (b+1) f a4 (by omega) hle
    · refine .inr (.inr (.inr ⟨a1,by rw [h.at' b hb (by omega)];exact a2,?_⟩))
      rw [← sh_add (u:=u) (v:=v) (i:=b) (k:=1) hb]
      exact Ag.wfM h ks ns true (b+1) f a3 (by omega) hle
theorem Ag.wfE (h:Ag s s' u v e) : ∀ (ks:List PT) (first:Bool) (j r:Nat),WfE s first j ks r→u≤j→r≤e→WfE s' first (sh u v j) (mvL u v ks) (sh u v r)
  | [],first,j,r,hw,hj,hr=>by
    unfold WfE at hw
    unfold mvL WfE
    have hg:=bl_ge s j
    rw [h.m_bl hj (by omega),h.at' _ (by omega) (by omega)]
    exact ⟨hw.1,by rw [hw.2];exact sh_add (by omega)⟩
  | p :: ks,first,j,r,hw,hj,hr=>by
    unfold WfE at hw
    obtain ⟨h0,hv,hE⟩:=hw
    have a0:=Gk.wfE_le ks false p.e r hE
    have a1:=hv.lt
    have g:=bl_ge s j
    have g2:=bl_ge s (bl s j+1)
    have hjb:u≤p.b:=by split at h0 <;> omega
    unfold mvL WfE
    refine ⟨?_,Ag.wfV h p hv hjb (.inl (by omega)),by rw [mvP_e];exact Ag.wfE h ks false p.e r hE (by omega) hr⟩
    rw [mvP_b]
    cases first with
    | true=>
      have h0:p.b=bl s j:=h0
      show sh u v p.b=bl s' (sh u v j)
      rw [h.m_bl hj (by omega),h0]
    | false=>
      obtain ⟨c1,c2⟩:bt s (bl s j:Int)=44∧p.b=bl s (bl s j+1):=h0
      show bt s' (bl s' (sh u v j):Int)=44∧sh u v p.b=bl s' (bl s' (sh u v j)+1)
      rw [h.m_bl hj (by omega),h.at' _ (by omega) (by omega),← sh_add (by omega),h.m_bl (by omega) (by omega),c2]
      exact ⟨c1,rfl⟩
theorem Ag.wfM (h:Ag s s' u v e) : ∀ (ks:List PT) (ns:List (Nat×Nat)) (first:Bool) (j r:Nat),WfM s first j ns ks r→u≤j→r≤e→WfM s' first (sh u v j) (ns.map fun n=>(sh u v n.1,sh u v n.2)) (mvL u v ks) (sh u v r)
  | [],ns,first,j,r,hw,hj,hr=>by
    unfold WfM at hw
    unfold mvL WfM
    have hg:=bl_ge s j
    obtain ⟨rfl,hw1,hw2⟩:=hw
    rw [h.m_bl hj (by omega),h.at' _ (by omega) (by omega)]
    exact ⟨rfl,hw1,by rw [hw2];exact sh_add (by omega)⟩
  | p :: ks,ns,first,j,r,hw,hj,hr=>by
    unfold WfM at hw
    obtain ⟨n,ns',rfl,h0,hq,hs,hc,hb,hv,hM⟩:=hw
    have a0:=Gk.wfM_le ks ns' false p.e r hM
    have a1:=hv.lt
    have a2:=strE_le hs
    have a3:=bl_ge s n.2
    have a4:=bl_ge s (bl s n.2+1)
    have g:=bl_ge s j
    have g2:=bl_ge s (bl s j+1)
    have hjn:u≤n.1∧bl s j≤n.1:=by split at h0 <;> omega
    unfold mvL WfM
    refine ⟨(sh u v n.1,sh u v n.2),ns'.map fun n=>(sh u v n.1,sh u v n.2),rfl,?_,?_,?_,?_,?_,Ag.wfV h p hv (by omega) (.inl (by omega)),by rw [mvP_e];exact Ag.wfM h ks ns' false p.e r hM (by omega) hr⟩
    · cases first with
      | true=>
        have h0:n.1=bl s j:=h0
        show sh u v n.1=bl s' (sh u v j)
        rw [h.m_bl hj (by omega),h0]
      | false=>
        obtain ⟨c1,c2⟩:bt s (bl s j:Int)=44∧n.1=bl s (bl s j+1):=h0
        show bt s' (bl s' (sh u v j):Int)=44∧sh u v n.1=bl s' (bl s' (sh u v j)+1)
        rw [h.m_bl hj (by omega),h.at' _ (by omega) (by omega),← sh_add (by omega),h.m_bl (by omega) (by omega),c2]
        exact ⟨c1,rfl⟩
    · show bt s' (sh u v n.1:Int)=34
      rw [h.at' _ hjn.1 (by omega)];exact hq
    · show Pl.strE s' (sh u v n.1+1)=some (sh u v n.2)
      rw [← sh_add hjn.1]
      exact h.m_strE (Nat.le_refl _) (by omega) hs (by omega)
    · show bt s' (Pl.bl s' (sh u v n.2):Int)=58
      rw [h.m_bl (by omega) (by omega),h.at' _ (by omega) (by omega)];exact hc
    · show (mvP u v p).b=Pl.bl s' (Pl.bl s' (sh u v n.2)+1)
      rw [mvP_b,h.m_bl (by omega) (by omega),← sh_add (by omega),h.m_bl (by omega) (by omega),hb]
end
end Go.Proofs.YtlfebfkphgelfaaGreatDoor.Ed
namespace Go.Proofs.YtlfebfkphgelfaaGreatDoor.Ed
open Go Go.Proofs Go.RowKit Rx Pl Pw Sk
open Ka (nmS ixS Led)
variable {s s':ByteArray} {p p':PT}
structure Sw (s s':ByteArray) (p p':PT):Prop where
  pre : ∀ j,j<p.b→bt s' (j:Int)=bt s (j:Int)
  suf : ∀ j,p.e≤j→bt s' (sh p.e p'.e j:Int)=bt s (j:Int)
  size:s'.size=sh p.e p'.e s.size
  wf:WfV s' p'
  b':p'.b=p.b
  lt:p.b<p.e
  le:p.e≤s.size
theorem Sw.lt' (h:Sw s s' p p'):p.b<p'.e∧p'.e≤s'.size:=by have:=h.wf.lt;have:=h.b';omega
theorem Sw.agP (h:Sw s s' p p'):Ag s s' 0 0 p.b:=⟨fun j _ g=>h.pre j g,by show p.b≤s'.size;have:=h.lt';omega,Nat.zero_le _⟩
theorem Sw.agS (h:Sw s s' p p'):Ag s s' p.e p'.e s.size:=⟨fun j g _=>h.suf j g,by rw [h.size];exact Nat.le_refl _,h.le⟩
theorem Sw.blP (h:Sw s s' p p') {i m:Nat} (hm:bl s i=m) (hb:m≤p.b) (hn:isB (bt s' (m:Int))=false):bl s' i=m:=by
  subst hm
  refine bl_eq rfl (bl_ge s i) (fun j g1 g2 => ?_) hn
  rw [h.pre j (by omega)];exact bl_blank s i j g1 g2
theorem Sw.blQ (h:Sw s s' p p') {i m:Nat} (hm:bl s i=m) (hb:m<p.b):bl s' i=m:=h.blP hm (Nat.le_of_lt hb) (by rw [h.pre m hb,← hm];exact bl_not s i)
theorem wf_nb {s:ByteArray} {q:PT} (h:WfV s q):isB (bt s (q.b:Int))=false:=by
  have:=Ka.wf_first h
  rw [← this];exact bl_not s q.b
theorem mem_lo {s:ByteArray} : ∀ (ks:List PT) (ns:List (Nat×Nat)) (first:Bool) (j r t:Nat) (q:PT),WfM s first j ns ks r→ks[t]?=some q→j<q.b
  | [],ns,first,j,r,t,q,h,h2=>by simp at h2
  | p0 :: ks,ns,first,j,r,t,q,h,h2=>by
    unfold WfM at h
    obtain ⟨n0,ns',rfl,h0,hq,hs,hc,hb,hv,hM⟩:=h
    have a1:=hv.lt
    have a2:=strE_le hs
    have a3:=bl_ge s n0.2
    have a4:=bl_ge s (bl s n0.2+1)
    have g:=bl_ge s j
    have g2:=bl_ge s (bl s j+1)
    have hj:j≤n0.1:=by split at h0 <;> omega
    cases t with
    | zero=>
      simp only [List.getElem?_cons_zero,Option.some.injEq] at h2
      subst h2;omega
    | succ t=>
      simp only [List.getElem?_cons_succ] at h2
      have:=mem_lo ks ns' false p0.e r t q hM h2
      omega
theorem elt_lo {s:ByteArray} : ∀ (ks:List PT) (j r t:Nat) (q:PT),WfE s false j ks r→ks[t]?=some q→j<q.b
  | [],j,r,t,q,h,h2=>by simp at h2
  | p0 :: ks,j,r,t,q,h,h2=>by
    unfold WfE at h
    obtain ⟨h0,hv,hE⟩:=h
    have h0:bt s (bl s j:Int)=44∧p0.b=bl s (bl s j+1):=h0
    have a1:=hv.lt
    have g:=bl_ge s j
    have g2:=bl_ge s (bl s j+1)
    cases t with
    | zero=>
      simp only [List.getElem?_cons_zero,Option.some.injEq] at h2
      subst h2;omega
    | succ t=>
      simp only [List.getElem?_cons_succ] at h2
      have:=elt_lo ks p0.e r t q hE h2
      omega
theorem Sw.before (h:Sw s s' p p') {q:PT} (hw:WfV s q) (hq:q.e<p.b):WfV s' q:=by
  have:=h.agP.wfV q hw (Nat.zero_le _) (.inl hq)
  rwa [mvP_id] at this
theorem ext_same {s s':ByteArray} {a b:Nat} (h1:b≤s.size) (h2:b≤s'.size) (h : ∀ j,j<b→bt s' (j:Int)=bt s (j:Int)):s'.extract a b=s.extract a b:=by
  have z1:(s.extract a b).size=b-a:=by rw [ByteArray.size_extract];omega
  have z2:(s'.extract a b).size=b-a:=by rw [ByteArray.size_extract];omega
  apply ByteArray.ext
  apply Array.ext
  · show (s'.extract a b).size=(s.extract a b).size
    rw [z1,z2]
  · intro k k1 k2
    have hk:k<b-a:=by rw [← z1];exact k2
    have a1:=bt_extract (s:=s) (a:=a) (b:=b) (j:=k) h1 (by omega)
    have a2:=bt_extract (s:=s') (a:=a) (b:=b) (j:=k) h2 (by omega)
    rw [h _ (by omega),← a1] at a2
    unfold bt at a2
    rw [Int.toNat_natCast,List.getD_eq_getElem?_getD,List.getD_eq_getElem?_getD,List.getElem?_eq_getElem (by rw [Array.length_toList];exact k1),List.getElem?_eq_getElem (by rw [Array.length_toList];exact k2)] at a2
    simp only [Option.getD_some,Array.getElem_toList] at a2
    exact UInt8.toNat_inj.1 (Int.ofNat.inj a2)
theorem Sw.name (h:Sw s s' p p') {n:Nat×Nat} (hn:n.2<p.b):nmS s' n=nmS s n:=by
  unfold nmS
  have:=h.lt'
  have:=h.le
  have:=h.lt
  rw [ext_same (by omega) (by omega) (fun j hj=>h.pre j (by omega))]
def put (s:ByteArray) (b e:Nat) (t:ByteArray):ByteArray:=s.extract 0 b++t++s.extract e s.size
theorem bt_app1 {x y:ByteArray} {j:Nat} (h:j<x.size):bt (x++y) (j:Int)=bt x (j:Int):=by
  unfold bt
  rw [Int.toNat_natCast,List.getD_eq_getElem?_getD,List.getD_eq_getElem?_getD]
  have e:(x++y).data.toList=x.data.toList++y.data.toList:=by rw [ByteArray.data_append,Array.toList_append]
  rw [e,List.getElem?_append_left (by rw [Array.length_toList];exact h)]
theorem bt_app2 {x y:ByteArray} {j:Nat}:bt (x++y) ((x.size+j:Nat):Int)=bt y (j:Int):=by
  unfold bt
  rw [Int.toNat_natCast,Int.toNat_natCast,List.getD_eq_getElem?_getD,List.getD_eq_getElem?_getD]
  have e:(x++y).data.toList=x.data.toList++y.data.toList:=by rw [ByteArray.data_append,Array.toList_append]
  have hz:x.data.toList.length=x.size:=by rw [Array.length_toList];rfl
  rw [e,List.getElem?_append_right (by rw [hz];omega),hz,Nat.add_sub_cancel_left]
theorem put_size {s t:ByteArray} {b e:Nat} (hb:b≤e) (he:e≤s.size):(put s b e t).size=b+t.size+(s.size-e):=by
  unfold put
  rw [ByteArray.size_append,ByteArray.size_append,ByteArray.size_extract,ByteArray.size_extract]
  omega
theorem put_pre {s t:ByteArray} {b e j:Nat} (hb:b≤e) (he:e≤s.size) (hj:j<b):bt (put s b e t) (j:Int)=bt s (j:Int):=by
  unfold put
  have z:(s.extract 0 b).size=b:=by rw [ByteArray.size_extract];omega
  rw [bt_app1 (by rw [ByteArray.size_append];omega),bt_app1 (by omega),bt_extract (by omega) (by omega),Nat.zero_add]
theorem put_mid {s t:ByteArray} {b e j:Nat} (hb:b≤e) (he:e≤s.size) (hj:j<t.size):bt (put s b e t) ((b+j:Nat):Int)=bt t (j:Int):=by
  unfold put
  have z:(s.extract 0 b).size=b:=by rw [ByteArray.size_extract];omega
  rw [bt_app1 (by rw [ByteArray.size_append];omega)]
  have:=bt_app2 (x:=s.extract 0 b) (y:=t) (j:=j)
  rwa [z] at this
theorem put_suf {s t:ByteArray} {b e j:Nat} (hb:b≤e) (he:e≤s.size) (hj:e≤j):bt (put s b e t) ((b+t.size+(j-e):Nat):Int)=bt s (j:Int):=by
  unfold put
  have z:(s.extract 0 b++t).size=b+t.size:=by rw [ByteArray.size_append,ByteArray.size_extract];omega
  have:=bt_app2 (x:=s.extract 0 b++t) (y:=s.extract e s.size) (j:=j-e)
  rw [z] at this
  rw [this]
  rcases Nat.lt_or_ge j s.size with g | g
  · rw [bt_extract (Nat.le_refl _) (by omega)]
    congr 2;omega
  · rw [bt_end g,bt_end (by rw [ByteArray.size_extract];omega)]
theorem sw_put {s t:ByteArray} {p0 p pt:PT} {keys:List ByteArray} (hL:Led s p0 keys p) (ht:WfV t pt) (hb:pt.b=0) (he:pt.e=t.size):Sw s (put s p.b p.e t) p (mvP 0 p.b pt):=by
  have hl:=hL.wfp.lt
  have e1:(mvP 0 p.b pt).e=p.b+t.size:=by rw [mvP_e,he];unfold sh;omega
  have hA:Ag t (put s p.b p.e t) 0 p.b t.size:=⟨fun j _ g=>by
    have:sh 0 p.b j=p.b+j:=by unfold sh;omega
    rw [this];exact put_mid (by omega) hl.2 g,by rw [put_size (by omega) hl.2];unfold sh;omega,Nat.zero_le _⟩
  refine ⟨fun j hj=>put_pre (by omega) hl.2 hj,fun j hj => ?_,?_,?_,by rw [mvP_b,hb];unfold sh;omega,hl.1,hl.2⟩
  · rw [e1]
    have:sh p.e (p.b+t.size) j=p.b+t.size+(j-p.e):=by unfold sh;omega
    rw [this];exact put_suf (by omega) hl.2 hj
  · rw [e1,put_size (by omega) hl.2];unfold sh;omega
  · refine hA.wfV pt ht (by omega) (.inr ⟨he,?_⟩)
    have:sh 0 p.b t.size=p.b+t.size+(p.e-p.e):=by unfold sh;omega
    rw [this,put_suf (by omega) hl.2 (Nat.le_refl _)]
    rcases hL.beh with g | g
    · rw [g,bt_end (Nat.le_refl _)];exact ⟨rfl,by decide,by decide,by decide⟩
    · unfold Ka.isE at g
      rcases g with g | g | g | g | g | g | g <;> rw [g] <;> exact ⟨rfl,by decide,by decide,by decide⟩
end Go.Proofs.YtlfebfkphgelfaaGreatDoor.Ed
namespace Go.Proofs.YtlfebfkphgelfaaGreatDoor.Ed
open Go Go.Proofs Go.RowKit Rx Pl Pw Sk Ut Bw Uq Ql
open Ka (nmS ixS Led)
def Ok (piece out:List UInt8):Prop := ∀ (o:ByteArray) (p:Nat) (r:List UInt8),tl o p=piece++r→strE o p=strE o (p+piece.length)∧uo o p=(uo o (p+piece.length)).map (out ++ ·)
theorem Ok.nil:Ok [] []:=fun o p r _=>⟨rfl,by cases uo o p <;> simp⟩
theorem Ok.append {a b x y:List UInt8} (h1:Ok a x) (h2:Ok b y):Ok (a++b) (x++y):=fun o p r h=>by
  rw [List.append_assoc] at h
  obtain ⟨a1,a2⟩:=h1 o p _ h
  obtain ⟨b1,b2⟩:=h2 o _ _ (tl_app h)
  rw [List.length_append,← Nat.add_assoc,a1,a2,b1,b2]
  refine ⟨rfl,?_⟩
  cases uo o (p+a.length+b.length) <;> simp
theorem Ok.byte {c:UInt8} (h32:32≤c.toNat) (h34:c.toNat≠34) (h92:c.toNat≠92):Ok [c] [c]:=fun o p r h=>by
  obtain ⟨h1,h2,h3⟩:=tl_cons h
  have hb:=bt_gb h2
  refine ⟨strE_plain h1 (by omega) (by omega) (by omega),?_⟩
  rw [uo_plain h1 (by rw [bn_gb h2];exact h92),h2];rfl
def hxd (j:Nat):UInt8:=if j<10 then UInt8.ofNat (48+j) else UInt8.ofNat (87+j)
def hx4 (b:Nat):List UInt8:=[hxd (b / 4096 % 16),hxd (b / 256 % 16),hxd (b / 16 % 16),hxd (b / 1 % 16)]
def eb (c:UInt8):List UInt8:=
  if c.toNat=34∨c.toNat=92 then [92,c] else if c.toNat=8 then [92,98] else if c.toNat=12 then [92,102] else if c.toNat=10 then [92,110] else if c.toNat=13 then [92,114] else if c.toNat=9 then [92,116]
  else if c.toNat<32 then [92,117,48,48,hxd (c.toNat / 16),hxd (c.toNat % 16)] else [c]
def es (l:List UInt8):List UInt8:=l.flatMap eb
theorem ext_eq {s s':ByteArray} {a a' n:Nat} (h1:a+n≤s.size) (h2:a'+n≤s'.size) (h : ∀ j,j<n→bt s' ((a'+j:Nat):Int)=bt s ((a+j:Nat):Int)):s'.extract a' (a'+n)=s.extract a (a+n):=by
  have z1:(s.extract a (a+n)).size=n:=by rw [ByteArray.size_extract];omega
  have z2:(s'.extract a' (a'+n)).size=n:=by rw [ByteArray.size_extract];omega
  apply ByteArray.ext
  apply Array.ext
  · show (s'.extract a' (a'+n)).size=(s.extract a (a+n)).size
    rw [z1,z2]
  · intro k k1 k2
    have hk:k<n:=by rw [← z1];exact k2
    have a1:=bt_extract (s:=s) (a:=a) (b:=a+n) (j:=k) h1 (by omega)
    have a2:=bt_extract (s:=s') (a:=a') (b:=a'+n) (j:=k) h2 (by omega)
    rw [h _ (by omega),← a1] at a2
    unfold bt at a2
    rw [Int.toNat_natCast,List.getD_eq_getElem?_getD,List.getD_eq_getElem?_getD,List.getElem?_eq_getElem (by rw [Array.length_toList];exact k1),List.getElem?_eq_getElem (by rw [Array.length_toList];exact k2)] at a2
    simp only [Option.getD_some,Array.getElem_toList] at a2
    exact UInt8.toNat_inj.1 (Int.ofNat.inj a2)
end Go.Proofs.YtlfebfkphgelfaaGreatDoor.Ed
namespace Go.Proofs.YtlfebfkphgelfaaGreatDoor.Ed
open Go Go.Proofs Go.RowKit Rx Pl Pw Sk Ut Bw Uq Ql
open Ka (nmS ixS Led)
open Gk (Lead)
variable {s s' o T k X:ByteArray} {u v e:Nat} {c:Bool}
def AsIs (k:ByteArray):Prop := ∀ j,j<k.size→32≤bt k (j:Int)∧bt k (j:Int)≠34∧bt k (j:Int)≠92
def inI (o:ByteArray) (c:Bool):Nat:=o.size-1+(if c then 1 else 0)
structure Ins (o T k X:ByteArray) (c:Bool):Prop where
  one:1≤o.size
  pre : ∀ j,j<o.size-1→bt T (j:Int)=bt o (j:Int)
  com:c=true→bt T ((o.size-1:Nat):Int)=44
  q1:bt T ((inI o c:Nat):Int)=34
  nm : ∀ j,j<k.size→bt T ((inI o c+1+j:Nat):Int)=bt k (j:Int)
  q2:bt T ((inI o c+1+k.size:Nat):Int)=34
  col:bt T ((inI o c+1+k.size+1:Nat):Int)=58
  val : ∀ j,j<X.size→bt T ((inI o c+k.size+3+j:Nat):Int)=bt X (j:Int)
  cl:bt T ((inI o c+k.size+3+X.size:Nat):Int)=125
  size:T.size=inI o c+k.size+3+X.size+1
theorem Ins.str (h:Ins o T k X c) (hk:AsIs k) : ∀ (n j:Nat),k.size-j≤n→j≤k.size→strE T (inI o c+1+j)=some (inI o c+1+k.size+1)
  | 0,j,hn,hj=>by
    have:j=k.size:=by omega
    subst this
    exact strE_q h.q2
  | n+1,j,hn,hj=>by
    rcases Nat.lt_or_ge j k.size with g | g
    rotate_left
    · exact Ins.str h hk 0 j (by omega) hj
    have hb:=h.nm j g
    have hz:=h.size
    obtain ⟨a1,a2,a3⟩:=hk j g
    rw [strE_plain (by omega) (by omega) (by omega) (by omega)]
    exact Ins.str h hk n (j+1) (by omega) (by omega)
theorem Ok.bytes : ∀ (l:List UInt8),(∀ c ∈ l,32≤c.toNat∧c.toNat≠34∧c.toNat≠92)→Ok l l
  | [],_=>Ok.nil
  | c :: l,h=>(Ok.byte (h c (by simp)).1 (h c (by simp)).2.1 (h c (by simp)).2.2).append (Ok.bytes l fun d hd=>h d (List.mem_cons_of_mem _ hd))
theorem AsIs.uo (hk:AsIs k):uo k 0=some k.data.toList:=by
  have hz:k.data.toList.length=k.size:=by rw [Array.length_toList];rfl
  have h:=Ok.bytes k.data.toList (fun c hc=>by
    obtain ⟨j,hj⟩:=List.mem_iff_getElem?.1 hc
    have hl:=(List.getElem?_eq_some_iff.1 hj).1
    have:=hk j (by omega)
    have e:bt k (j:Int)=(c.toNat:Int):=by
      refine bt_gb ?_
      unfold gb
      rw [List.getD_eq_getElem?_getD,hj];rfl
    rw [e] at this
    omega)
  have h2:=(h k 0 [] (by rw [List.append_nil];rfl)).2
  rw [h2,uo_end (by omega)]
  show some (k.data.toList++[])=_
  rw [List.append_nil]
theorem Ins.name (h:Ins o T k X c) (hk:AsIs k):nmS T (inI o c,inI o c+1+k.size+1)=k:=by
  have hz:=h.size
  unfold nmS
  have e:T.extract (inI o c+1) (inI o c+1+k.size+1-1)=k:=by
    have:=ext_eq (s:=k) (s':=T) (a:=0) (a':=inI o c+1) (n:=k.size) (by omega) (by omega) (fun j hj=>by rw [Nat.zero_add];exact h.nm j hj)
    rw [Nat.zero_add,ByteArray.extract_zero_size] at this
    rw [Nat.add_sub_cancel];exact this
  show ByteArray.mk ((Uq.uo (T.extract (inI o c+1) (inI o c+1+k.size+1-1)) 0).getD []).toArray=k
  rw [e,hk.uo]
  show ByteArray.mk k.data.toList.toArray=k
  rw [Array.toArray_toList]
theorem Ins.ag (h:Ins o T k X c):Ag o T 0 0 (o.size-1):=⟨fun j _ g=>h.pre j g,by
  have:=h.size;have:=h.one
  show o.size-1≤T.size
  unfold inI at *;omega,Nat.zero_le _⟩
theorem Ins.agX (h:Ins o T k X c):Ag X T 0 (inI o c+k.size+3) X.size:=⟨fun j _ g=>by
  have:=h.val j g
  have e:sh 0 (inI o c+k.size+3) j=inI o c+k.size+3+j:=by unfold sh;omega
  rw [e];exact this,by have:=h.size;unfold sh;omega,Nat.zero_le _⟩
theorem mvP_mk (u v k b e:Nat) (ns:List (Nat×Nat)) (ks:List PT):mvP u v (.mk k b e ns ks) = .mk k (sh u v b) (sh u v e) (ns.map fun n=>(sh u v n.1,sh u v n.2)) (mvL u v ks):=by
  unfold mvP;rfl
theorem Ag.nm (h:Ag s s' u v e) (hes:e≤s.size) {n:Nat×Nat} (h1:u≤n.1) (h2:n.1+2≤n.2) (h3:n.2≤e):nmS s' (sh u v n.1,sh u v n.2)=nmS s n:=by
  have hend:=h.end'
  unfold nmS
  have e1:sh u v n.2-1=(sh u v n.1+1)+(n.2-n.1-2):=by unfold sh;omega
  have e2:n.2-1=(n.1+1)+(n.2-n.1-2):=by omega
  show ByteArray.mk ((Uq.uo (s'.extract (sh u v n.1+1) (sh u v n.2-1)) 0).getD []).toArray=_
  rw [e1,e2,ext_eq (s:=s) (a:=n.1+1) (by omega) (by unfold sh at hend ⊢;omega) (fun j hj=>by
    have:=h.at' (n.1+1+j) (by omega) (by omega)
    rw [sh_add (i:=n.1+1) (by omega),sh_add h1] at this
    exact this)]
theorem mem_span : ∀ (ks:List PT) (ns:List (Nat×Nat)) (first:Bool) (j r t:Nat) (n:Nat×Nat),WfM s first j ns ks r→ns[t]?=some n→j≤n.1∧n.1+2≤n.2∧n.2<r
  | [],ns,first,j,r,t,n,h,h2=>by
    unfold WfM at h
    obtain ⟨rfl,_⟩:=h
    simp at h2
  | p0 :: ks,ns,first,j,r,t,n,h,h2=>by
    unfold WfM at h
    obtain ⟨n0,ns',rfl,h0,hq,hs,hc,hb,hv,hM⟩:=h
    have a0:=Gk.wfM_le ks ns' false p0.e r hM
    have a1:=hv.lt
    have a2:=strE_le hs
    have a3:=bl_ge s n0.2
    have a4:=bl_ge s (bl s n0.2+1)
    have g:=bl_ge s j
    have g2:=bl_ge s (bl s j+1)
    have hj:j≤n0.1:=by split at h0 <;> omega
    cases t with
    | zero=>
      simp only [List.getElem?_cons_zero,Option.some.injEq] at h2
      subst h2;omega
    | succ t=>
      simp only [List.getElem?_cons_succ] at h2
      have:=mem_span ks ns' false p0.e r t n hM h2
      omega
end Go.Proofs.YtlfebfkphgelfaaGreatDoor.Ed
namespace Go.Proofs.YtlfebfkphgelfaaGreatDoor.Ed
open Go Go.Proofs Go.RowKit Rx Pl Pw Sk Ut Bw Uq Ql
open Ka (nmS ixS Led)
open Gk (Lead)
def mkB (l:List UInt8):ByteArray:=⟨l.toArray⟩
theorem mkB_size (l:List UInt8):(mkB l).size=l.length:=List.size_toArray
theorem mkB_list (l:List UInt8):(mkB l).data.toList=l:=rfl
theorem mkB_of (s:ByteArray):mkB s.data.toList=s:=by show ByteArray.mk s.data.toList.toArray=s;rw [Array.toArray_toList]
theorem bt_mkB (l:List UInt8) (j:Nat):bt (mkB l) (j:Int)=((l.getD j 0).toNat:Int):=rfl
theorem bt_ap1 {a b:List UInt8} {j:Nat} (h:j<a.length):bt (mkB (a++b)) (j:Int)=bt (mkB a) (j:Int):=by
  rw [bt_mkB,bt_mkB,List.getD_eq_getElem?_getD,List.getD_eq_getElem?_getD,List.getElem?_append_left h]
theorem bt_ap2 {a b:List UInt8} {i j:Nat} (h:i=a.length+j):bt (mkB (a++b)) (i:Int)=bt (mkB b) (j:Int):=by
  subst h
  rw [bt_mkB,bt_mkB,List.getD_eq_getElem?_getD,List.getD_eq_getElem?_getD,List.getElem?_append_right (Nat.le_add_right _ _),Nat.add_sub_cancel_left]
theorem len_of (s:ByteArray):s.data.toList.length=s.size:=by rw [Array.length_toList];rfl
def insL (o:ByteArray) (c:Bool) (k X:ByteArray):List UInt8:=o.data.toList.take (o.size-1)++((if c then [44] else [])++([34]++(k.data.toList++([34,58]++(X.data.toList++[125])))))
theorem ins_of {o k X:ByteArray} {c:Bool} (h1:1≤o.size):Ins o (mkB (insL o c k X)) k X c:=by
  have l1:(o.data.toList.take (o.size-1)).length=o.size-1:=by rw [List.length_take,len_of];omega
  have l2:(if c then [(44:UInt8)] else []).length=(if c then 1 else 0):=by cases c <;> rfl
  have lk:=len_of k
  have lx:=len_of X
  have hk:=mkB_of k
  have hX:=mkB_of X
  unfold insL
  refine ⟨h1,fun j hj => ?_,fun hc => ?_,?_,fun j hj => ?_,?_,?_,fun j hj => ?_,?_,?_⟩
  · rw [bt_ap1 (by omega),bt_mkB,List.getD_eq_getElem?_getD,List.getElem?_take_of_lt hj,← List.getD_eq_getElem?_getD,← bt_mkB,mkB_of]
  · subst hc
    rw [bt_ap2 (j:=0) (by omega)];rfl
  · rw [bt_ap2 (j:=if c then 1 else 0) (by unfold inI;omega),bt_ap2 (j:=0) (by omega),bt_ap1 (by simp)];rfl
  · rw [bt_ap2 (j:=(if c then 1 else 0)+1+j) (by unfold inI;omega),bt_ap2 (j:=1+j) (by omega),bt_ap2 (j:=j) (by simp only [List.length_cons,List.length_nil]),bt_ap1 (by omega),hk]
  · rw [bt_ap2 (j:=(if c then 1 else 0)+1+k.size) (by unfold inI;omega),bt_ap2 (j:=1+k.size) (by omega),bt_ap2 (j:=k.size) (by simp only [List.length_cons,List.length_nil]),bt_ap2 (j:=0) (by omega),bt_ap1 (by simp)];rfl
  · rw [bt_ap2 (j:=(if c then 1 else 0)+1+k.size+1) (by unfold inI;omega),bt_ap2 (j:=1+k.size+1) (by omega),bt_ap2 (j:=k.size+1) (by simp only [List.length_cons,List.length_nil];omega),bt_ap2 (j:=1) (by omega),bt_ap1 (by simp)];rfl
  · rw [bt_ap2 (j:=(if c then 1 else 0)+1+k.size+2+j) (by unfold inI;omega),bt_ap2 (j:=1+k.size+2+j) (by omega),bt_ap2 (j:=k.size+2+j) (by simp only [List.length_cons,List.length_nil];omega),bt_ap2 (j:=2+j) (by omega),bt_ap2 (j:=j) (by simp only [List.length_cons,List.length_nil]),bt_ap1 (by omega),hX]
  · rw [bt_ap2 (j:=(if c then 1 else 0)+1+k.size+2+X.size) (by unfold inI;omega),bt_ap2 (j:=1+k.size+2+X.size) (by omega),bt_ap2 (j:=k.size+2+X.size) (by simp only [List.length_cons,List.length_nil];omega),bt_ap2 (j:=2+X.size) (by omega),bt_ap2 (j:=X.size) (by simp only [List.length_cons,List.length_nil]),bt_ap2 (j:=0) (by omega)];rfl
  · rw [mkB_size]
    simp only [List.length_append,List.length_cons,List.length_nil,l1,l2,lk,lx]
    unfold inI
    omega
def opn:List ByteArray→List UInt8
  | []=>[]
  | r :: rs=>[123,34]++(r.data.toList++([34,58]++opn rs))
def nstL (rs:List ByteArray) (v:List UInt8):List UInt8:=opn rs++(v++List.replicate rs.length 125)
def eO:ByteArray:=mkB [123,125]
theorem nst_cons (r:ByteArray) (rs:List ByteArray) (v:List UInt8):nstL (r :: rs) v=insL eO false r (mkB (nstL rs v)):=by
  have e0:opn (r :: rs)=[123,34]++(r.data.toList++([34,58]++opn rs)):=rfl
  unfold nstL insL
  rw [e0,mkB_list,List.length_cons,List.replicate_succ']
  have e:eO.data.toList.take (eO.size-1)=[123]:=rfl
  rw [e]
  simp [List.append_assoc]
theorem eO_wf:WfV eO (.mk 6 0 eO.size [] []):=by
  unfold WfV WfM
  have hb:bl eO (0+1)=1:=bl_no rfl
  rw [hb]
  exact ⟨by decide,Nat.le_refl _,.inr (.inr (.inr ⟨rfl,rfl,rfl,rfl,rfl⟩))⟩
theorem wfM_lens {s:ByteArray} : ∀ (ks:List PT) (ns:List (Nat×Nat)) (first:Bool) (j e':Nat),WfM s first j ns ks e'→ns.length=ks.length
  | [],ns,first,j,e',h=>by
    unfold WfM at h
    rw [h.1];rfl
  | p0 :: ks,ns,first,j,e',h=>by
    unfold WfM at h
    obtain ⟨n0,ns',rfl,h0,hq,hs,hc,hb,hv,hM⟩:=h
    rw [List.length_cons,List.length_cons,wfM_lens ks ns' false p0.e e' hM]
theorem obj_own {s:ByteArray} {b e:Nat} {ns:List (Nat×Nat)} {ks:List PT} (h:WfV s (.mk 6 b e ns ks)):Ag s (s.extract b e) b 0 e∧(s.extract b e).size=e-b∧WfV (s.extract b e) (.mk 6 0 (s.extract b e).size (ns.map fun n=>(sh b 0 n.1,sh b 0 n.2)) (mvL b 0 ks)) ∧ ∀ n ∈ ns,nmS (s.extract b e) (sh b 0 n.1,sh b 0 n.2)=nmS s n:=by
  obtain ⟨w1,w2,w3,w4⟩:=Gk.wf_obj h
  have hz:(s.extract b e).size=e-b:=by rw [ByteArray.size_extract];omega
  have hA:Ag s (s.extract b e) b 0 e:=⟨fun j g1 g2=>by
    have e1:sh b 0 j=j-b:=by unfold sh;omega
    rw [e1,bt_extract w2 (by omega),Nat.add_sub_cancel' g1],by rw [hz];unfold sh;omega,by omega⟩
  have e2:sh b 0 b=0:=by unfold sh;omega
  have e3:sh b 0 e=(s.extract b e).size:=by rw [hz];unfold sh;omega
  refine ⟨hA,hz,?_,fun n hn => ?_⟩
  · have:=hA.wfV _ h (Nat.le_refl _) (.inr ⟨rfl,by rw [e3,bt_end (Nat.le_refl _)];exact ⟨rfl,by decide,by decide,by decide⟩⟩)
    rw [mvP_mk,e2,e3] at this
    exact this
  · obtain ⟨t,ht⟩:=List.mem_iff_getElem?.1 hn
    have:=mem_span ks ns true (b+1) e t n w4 ht
    exact hA.nm w2 (by omega) (by omega) (by omega)
theorem put_toList {s t:ByteArray} {b e:Nat} (he:e≤s.size):(put s b e t).data.toList=s.data.toList.take b++(t.data.toList++s.data.toList.drop e):=by
  unfold put
  rw [ByteArray.data_append,ByteArray.data_append,Array.toList_append,Array.toList_append]
  have h1:=extract_tl s 0 b
  have h2:=extract_tl s e (s.size-e)
  rw [Nat.zero_add] at h1
  rw [Nat.add_sub_cancel' he] at h2
  have h3:(tl s e).take (s.size-e)=tl s e:=List.take_of_length_le (by unfold tl;rw [List.length_drop,len_of];omega)
  rw [h1,h2,h3,List.append_assoc]
  rfl
theorem eq_of_list {x y:ByteArray} (h:x.data.toList=y.data.toList):x=y:=by
  have:x.data=y.data:=Array.toList_inj.1 h
  exact ByteArray.ext this
end Go.Proofs.YtlfebfkphgelfaaGreatDoor.Ed
