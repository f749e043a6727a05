import Derived.Test.YtlfebfkphgelfaaGreatDoorWA
import Derived.Test.YtlfebfkphgelfaaGreatDoorWB
import Derived.Test.YtlfebfkphgelfaaGreatDoorMI
import Derived.Test.YtlfebfkphgelfaaGreatDoorTf
import Derived.Test.YtlfebfkphgelfaaGreatDoorTc
namespace Go.Proofs.YtlfebfkphgelfaaGreatDoor.Fk
open Go Rx Pl Pw Sk
open Gk (wfM_le bl_bl)
inductive F (s:ByteArray) (nm:Nat×Nat→ByteArray) (key:ByteArray) (e:Nat):Nat→Nat→Prop
  | skip {i r:Nat}:i<e→bt s (i:Int)≠34→bt s (i:Int)≠91→bt s (i:Int)≠123→F s nm key e (i+1) r→F s nm key e i r
  | str {i r k:Nat}:bt s (i:Int)=34→QE s (i+1) k→strE s (i+1)=some (i+1+k+1)→bl s (i+1+k+1)<e→(bt s (bl s (i+1+k+1):Int)≠58∨nm (i,i+1+k+1)≠key)→F s nm key e (bl s (i+1+k+1)+1) r→F s nm key e i r
  | hit {i k:Nat}:bt s (i:Int)=34→QE s (i+1) k→strE s (i+1)=some (i+1+k+1)→bl s (i+1+k+1)<e→bt s (bl s (i+1+k+1):Int)=58→nm (i,i+1+k+1)=key→F s nm key e i i
  | blk {i r i':Nat}:(bt s (i:Int)=123∧Bk s 123 125 i 0 i')∨(bt s (i:Int)=91∧Bk s 91 93 i 0 i')→i<i'→i'≤e→F s nm key e (i'+1) r→F s nm key e i r
variable {s:ByteArray} {nm:Nat×Nat→ByteArray} {e:Nat} {key:ByteArray} {r:Nat}
theorem F.gap : ∀ {n a b:Nat},b-a=n→a≤b→b≤e→(∀ j,a≤j→j<b→isB (bt s (j:Int))=true)→F s nm key e b r→F s nm key e a r
  | 0,a,b,hn,hab,_,_,h=>by
    have:a=b:=by omega
    subst this;exact h
  | n+1,a,b,hn,hab,he,hb,h=>by
    have h0:=isB_iff.1 (hb a (Nat.le_refl a) (by omega))
    exact .skip (by omega) (by omega) (by omega) (by omega) (F.gap (n:=n) (by omega) (by omega) he (fun j g1 g2=>hb j (by omega) g2) h)
theorem F.lits : ∀ {n a b:Nat},b-a=n→a≤b→b≤e→allL s a b→F s nm key e b r→F s nm key e a r
  | 0,a,b,hn,hab,_,_,h=>by
    have:a=b:=by omega
    subst this;exact h
  | n+1,a,b,hn,hab,he,hb,h=>by
    have h0:=isL_iff.1 (hb a (Nat.le_refl a) (by omega))
    exact .skip (by omega) (by omega) (by omega) (by omega) (F.lits (n:=n) (by omega) (by omega) he (fun j g1 g2=>hb j (by omega) g2) h)
theorem F.val {p:PT} (h:WfV s p) (hb:bl s p.e<e) (hc:bt s (bl s p.e:Int)=44) (hr:F s nm key e (bl s p.e+1) r):F s nm key e p.b r:=by
  have g:=bl_ge s p.e
  have aft : ∀ c,p.e≤c→c≤bl s p.e+1→F s nm key e c r:=by
    intro c h1 h2
    rcases Nat.lt_or_ge (bl s p.e) c with g1 | g1
    · have:c=bl s p.e+1:=by omega
      subst this;exact hr
    · exact F.gap rfl g1 (by omega) (fun j g2 g3=>bl_blank s p.e j (by omega) g3) (.skip hb (by omega) (by omega) (by omega) hr)
  obtain ⟨k,b,e',ns,ks⟩:=p
  have hlt:=h.lt
  have hlt1:b<e':=hlt.1
  have g2:e'≤bl s e':=g
  have hb2:bl s e'<e:=hb
  have hw:=h
  have aft2 : ∀ c,e'≤c→c≤bl s e'+1→F s nm key e c r:=aft
  have hc2:bt s (bl s e':Int)=44:=hc
  clear aft
  unfold WfV at h
  obtain ⟨_,_,⟨rfl,rfl,hL,h⟩ | ⟨rfl,rfl,rfl,h1,h2⟩ | ⟨rfl,rfl,h1,h2⟩ | ⟨rfl,h1,h2⟩⟩:=h
  · exact F.lits rfl (Nat.le_of_lt hlt1) (by omega) hL (aft2 e' (Nat.le_refl _) (by omega))
  · obtain ⟨k,hk',hq⟩:=strE_QE h2
    have hk':e'=b+1+k+1:=hk'
    subst hk'
    exact .str h1 hq h2 hb2 (.inl (by show bt s (bl s (b+1+k+1):Int)≠58;rw [hc2];decide)) (aft2 (bl s (b+1+k+1)+1) (Nat.le_succ_of_le g2) (Nat.le_refl _))
  · exact .blk (.inr ⟨h1,bk_arr hw⟩) hlt1 (by omega) (aft2 _ (by omega) (by omega))
  · exact .blk (.inl ⟨h1,bk_obj hw⟩) hlt1 (by omega) (aft2 _ (by omega) (by omega))
theorem F.mems : ∀ (ks:List PT) (ns:List (Nat×Nat)) (first:Bool) (j e' t:Nat) (n:Nat×Nat),WfM s first j ns ks e'→e'≤e→ns[t]?=some n→nm n=key →
    (∀ (t':Nat) (n':Nat×Nat),t'<t→ns[t']?=some n'→nm n'≠key)→F s nm key e (if first then bl s j else bl s j+1) n.1
  | [],ns,first,j,e',t,n,h,he,h1,h2,h3=>by
    unfold WfM at h
    obtain ⟨rfl,_⟩:=h
    simp at h1
  | p0 :: ks,ns,first,j,e',t,n,h,he,h1,h2,h3=>by
    unfold WfM at h
    obtain ⟨n0,ns',rfl,g1,hq,hs,hc,hb,hv,hM⟩:=h
    have hvl:=hv.lt
    have hlen:=wfM_le _ _ _ _ _ hM
    have b1:=bl_ge s j
    have b2:=bl_ge s (bl s j+1)
    have b3:=bl_ge s n0.2
    have b4:=bl_ge s (bl s n0.2+1)
    have b5:=bl_ge s p0.e
    have hsl:=strE_le hs
    obtain ⟨k,hk',hQ⟩:=strE_QE hs
    have e1:n0=(n0.1,n0.1+1+k+1):=by
      obtain ⟨a,b⟩:=n0
      have hk':b=a+1+k+1:=hk'
      subst hk';rfl
    rw [hk'] at b3 b4 hb hc hs
    have main:F s nm key e n0.1 n.1:=by
      cases t with
      | zero=>
        simp only [List.getElem?_cons_zero,Option.some.injEq] at h1
        subst h1
        exact .hit hq hQ hs (by omega) hc (by rw [← e1];exact h2)
      | succ t=>
        simp only [List.getElem?_cons_succ] at h1
        have hne:=h3 0 n0 (by omega) rfl
        refine .str hq hQ hs (by omega) (.inr (by rw [← e1];exact hne)) (F.gap rfl b4 (by omega) (bl_blank s _) ?_)
        rw [← hb]
        have cm:bt s (bl s p0.e:Int)=44∧bl s p0.e<e':=by
          cases ks with
          | nil=>unfold WfM at hM;obtain ⟨rfl,_⟩:=hM;simp at h1
          | cons q ks=>
            have hM':=hM
            unfold WfM at hM;obtain ⟨n',ns'',_,g,_,hs',_,hb',hv',hM2⟩:=hM
            have a1:=wfM_le _ _ _ _ _ hM2
            have a2:=strE_le hs'
            have a3:=bl_ge s (bl s p0.e+1)
            have a4:=bl_ge s n'.2
            have a5:=bl_ge s (bl s n'.2+1)
            have a6:=hv'.lt
            have g:bt s (bl s p0.e:Int)=44∧n'.1=bl s (bl s p0.e+1):=g
            omega
        exact F.val hv (by omega) cm.1 (F.mems ks ns' false p0.e e' t n hM he h1 h2 (fun t' n' ht hn=>h3 (t'+1) n' (by omega) hn))
    cases first with
    | true=>
      simp only [if_true] at g1 ⊢
      rw [← g1];exact main
    | false=>
      simp only [Bool.false_eq_true,if_false] at g1 ⊢
      obtain ⟨g1,g2⟩:=g1
      refine F.gap rfl b2 (by omega) (bl_blank s _) ?_
      rw [← g2];exact main
theorem F.obj {b e':Nat} {ns:List (Nat×Nat)} {ks:List PT} {t:Nat} {n:Nat×Nat} (h:WfV s (.mk 6 b e' ns ks)) (he:e'≤e) (h1:ns[t]?=some n) (h2:nm n=key) (h3 : ∀ (t':Nat) (n':Nat×Nat),t'<t→ns[t']?=some n'→nm n'≠key):F s nm key e (b+1) n.1:=by
  obtain ⟨_,_,_,hM⟩:=Gk.wf_obj h
  have hb:=Gk.wfM_bl _ _ _ _ _ hM
  have:=F.mems ks ns true (b+1) e' t n hM he h1 h2 h3
  simp only [if_true] at this
  have hl:=wfM_le _ _ _ _ _ hM
  exact F.gap rfl (bl_ge s (b+1)) (by omega) (bl_blank s _) this
end Go.Proofs.YtlfebfkphgelfaaGreatDoor.Fk
namespace Go.Proofs.YtlfebfkphgelfaaGreatDoor.Ed
open Go Go.Proofs Go.RowKit Rx Pl Pw Sk
open Ka (nmS ixS Led Mis)
open Lj (UniqN)
variable {s s':ByteArray} {A E:Nat}
theorem nst_of {c:Int} (h:c<45∨c=125):Nst c:=by
  refine ⟨?_,by omega,by omega,by omega⟩
  unfold isDig
  rcases h with h | h
  · rw [decide_eq_false (by omega : ¬ 48≤c)];rfl
  · subst h;rfl
def Hole (s:ByteArray) (first:Bool) (j:Nat) (rest:List PT) (p:PT) (A E:Nat):Prop:=
  (rest≠[]∧E=bl s p.e+1∧A=if first then j else bl s j+1)∨(rest=[]∧E=p.e∧if first then A=j else j≤A∧A≤bl s j)
def HoleAt (s:ByteArray) (A E:Nat):Bool→Nat→List PT→Nat→Prop
  | _,_,[],_=>False
  | first,j,p :: ks,0=>Hole s first j ks p A E
  | _,_,p :: ks,t+1=>HoleAt s A E false p.e ks t
end Go.Proofs.YtlfebfkphgelfaaGreatDoor.Ed
namespace Go.Proofs.YtlfebfkphgelfaaGreatDoor.Ed
open Go Go.Proofs Go.RowKit Rx Pl Pw Sk
variable {s:ByteArray}
theorem wfE_end : ∀ (ks:List PT) (first:Bool) (j e':Nat),WfE s first j ks e'→1≤e'∧bt s ((e'-1:Nat):Int)=93
  | [],first,j,e',h=>by
    unfold WfE at h
    obtain ⟨h1,h2⟩:=h
    subst h2
    exact ⟨by omega,by rw [Nat.add_sub_cancel];exact h1⟩
  | p :: ks,first,j,e',h=>by
    unfold WfE at h
    exact wfE_end ks false p.e e' h.2.2
theorem last_byte {p:PT} (h:WfV s p):1≤p.e∧isB (bt s ((p.e-1:Nat):Int))=false∧bt s ((p.e-1:Nat):Int)≠44:=by
  have nb : ∀ c:Int,c=34∨c=93∨c=125→isB c=false∧c≠44:=by
    rintro c (rfl | rfl | rfl) <;> decide
  obtain ⟨k,b,e',ns,ks⟩:=p
  have hlt:=h.lt
  have hlt1:b<e':=hlt.1
  show 1≤e'∧isB (bt s ((e'-1:Nat):Int))=false∧bt s ((e'-1:Nat):Int)≠44
  refine ⟨by omega,?_⟩
  unfold WfV at h
  obtain ⟨_,_,⟨rfl,rfl,hL,h⟩ | ⟨rfl,rfl,rfl,h1,h2⟩ | ⟨rfl,rfl,h1,h2⟩ | ⟨rfl,h1,h2⟩⟩:=h
  · have h0:=isL_iff.1 (hL (e'-1) (by omega) (by omega))
    refine ⟨?_,by omega⟩
    cases hb:isB (bt s ((e'-1:Nat):Int)) with
    | false=>rfl
    | true=>have:=isB_iff.1 hb;omega
  · obtain ⟨k,hk',hq⟩:=strE_QE h2
    have e1:e'-1=b+1+k:=by omega
    rw [e1]
    exact nb _ (.inl hq.1)
  · exact nb _ (.inr (.inl (wfE_end _ _ _ _ h2).2))
  · exact nb _ (.inr (.inr (Gk.wfM_end _ _ _ _ _ h2).2))
structure Ctx (s:ByteArray) (n:Nat×Nat) (p:PT) (rest:List PT) (r:Nat) (f:Bool) (jt:Nat):Prop where
  pre:if f then n.1=bl s jt else bt s (bl s jt:Int)=44∧n.1=bl s (bl s jt+1)
  q34:bt s (n.1:Int)=34
  lst:rest=[]→bt s (bl s p.e:Int)=125∧r=bl s p.e+1
  nxt:rest≠[]→bt s (bl s p.e:Int)=44∧bt s (bl s (bl s p.e+1):Int)=34∧bl s (bl s p.e+1)<r
  ord:jt≤n.1∧n.1+2≤n.2∧n.2<p.b∧p.b<p.e∧p.e<r
theorem hole_ctx : ∀ (ks:List PT) (ns:List (Nat×Nat)) (first:Bool) (j r t:Nat) (n:Nat×Nat) (p:PT),WfM s first j ns ks r→ns[t]?=some n→ks[t]?=some p →
    ∃ (f:Bool) (jt:Nat),(∀ A E,Hole s f jt (ks.drop (t+1)) p A E→HoleAt s A E first j ks t)∧Ctx s n p (ks.drop (t+1)) r f jt∧(f=true→first=true∧jt=j)∧(f=false→(first=false∧jt=j) ∨ ∃ q:PT,WfV s q∧q.e=jt∧j<q.e)
      ∧ (∀ (t':Nat) (n':Nat×Nat),t'<t→ns[t']?=some n'→n'.2<jt)∧(∀ (t':Nat) (n':Nat×Nat),t<t'→ns[t']?=some n'→bl s p.e<n'.1)∧j≤jt
  | [],ns,first,j,r,t,n,p,hM,h1,h2=>by simp at h2
  | p0 :: ks,ns,first,j,r,t,n,p,hM,h1,h2=>by
    have hM0:=hM
    unfold WfM at hM
    obtain ⟨n0,ns0,rfl,h0,hq,hs,hc,hb,hv,hM⟩:=hM
    have a1:=hv.lt
    have a2:=strE_le hs
    have a3:=bl_ge s n0.2
    have a4:=bl_ge s (bl s n0.2+1)
    have g:=bl_ge s j
    have g2:=bl_ge s (bl s j+1)
    have g3:=bl_ge s p0.e
    have hl:=Gk.wfM_le _ _ _ _ _ hM
    have hj:bl s j≤n0.1:=by split at h0 <;> omega
    cases t with
    | zero=>
      simp only [List.getElem?_cons_zero,Option.some.injEq] at h1 h2
      subst h1;subst h2
      refine ⟨first,j,fun A E h=>h,⟨h0,hq,fun hr => ?_,fun hr => ?_,?_⟩,fun h=>⟨h,rfl⟩,fun h1 => .inl ⟨h1,rfl⟩,fun t' n' ht _=>absurd ht (Nat.not_lt_zero _),fun t' n' ht hn => ?_,Nat.le_refl _⟩
      · have hr:ks=[]:=hr
        subst hr
        unfold WfM at hM
        exact hM.2
      · have hr:ks≠[]:=hr
        cases ks with
        | nil=>exact absurd rfl hr
        | cons q ks=>
          unfold WfM at hM
          obtain ⟨n',ns'',_,gg,hq',hs',_,hb',hv',hM2⟩:=hM
          have a1:=Gk.wfM_le _ _ _ _ _ hM2
          have a2:=strE_le hs'
          have a4:=bl_ge s n'.2
          have a5:=bl_ge s (bl s n'.2+1)
          have a6:=hv'.lt
          have gg:bt s (bl s p0.e:Int)=44∧n'.1=bl s (bl s p0.e+1):=gg
          refine ⟨gg.1,?_,by omega⟩
          rw [← gg.2];exact hq'
      · omega
      · cases t' with
        | zero=>omega
        | succ t'=>
          simp only [List.getElem?_cons_succ] at hn
          cases ks with
          | nil=>
            unfold WfM at hM
            obtain ⟨rfl,_⟩:=hM
            simp at hn
          | cons q ks=>
            have hM':=hM
            unfold WfM at hM
            obtain ⟨n1,ns'',rfl,gg,hq',hs',_,hb',hv',hM2⟩:=hM
            have gg:bt s (bl s p0.e:Int)=44∧n1.1=bl s (bl s p0.e+1):=gg
            have b5:=bl_ge s (bl s p0.e+1)
            cases t' with
            | zero=>
              simp only [List.getElem?_cons_zero,Option.some.injEq] at hn
              subst hn;omega
            | succ t'=>
              simp only [List.getElem?_cons_succ] at hn
              have:=(mem_span _ _ _ _ _ _ _ hM2 hn).1
              have a2:=strE_le hs'
              have a4:=bl_ge s n1.2
              have a5:=bl_ge s (bl s n1.2+1)
              have a6:=hv'.lt
              omega
    | succ t=>
      simp only [List.getElem?_cons_succ] at h1 h2
      obtain ⟨f,jt,c1,c2,c3,c4,c5,c6,c7⟩:=hole_ctx ks ns0 false p0.e r t n p hM h1 h2
      have hf:f=false:=by
        cases f with
        | false=>rfl
        | true=>have:=(c3 rfl).1;cases this
      subst hf
      refine ⟨false,jt,c1,c2,(fun h=>by cases h),fun _ => .inr ?_,fun t' n' ht hn => ?_,fun t' n' ht hn => ?_,by omega⟩
      · rcases c4 rfl with ⟨_,rfl⟩ | ⟨q,q1,q2,q3⟩
        · exact ⟨p0,hv,rfl,by omega⟩
        · exact ⟨q,q1,q2,by omega⟩
      · cases t' with
        | zero=>
          simp only [List.getElem?_cons_zero,Option.some.injEq] at hn
          subst hn;omega
        | succ t'=>exact c5 t' n' (by omega) (by simpa using hn)
      · cases t' with
        | zero=>omega
        | succ t'=>exact c6 t' n' (by omega) (by simpa using hn)
end Go.Proofs.YtlfebfkphgelfaaGreatDoor.Ed
namespace Go.Proofs.YtlfebfkphgelfaaGreatDoor.Ed
open Go Go.Proofs Go.RowKit Rx Pl Pw Sk
open Ka (nmS ixS Led Mis)
open Lj (UniqN OnceP)
variable {s s':ByteArray} {A E:Nat}
end Go.Proofs.YtlfebfkphgelfaaGreatDoor.Ed
namespace Go.Proofs.YtlfebfkphgelfaaGreatDoor.Ka
open Go Go.Proofs Go.RowKit Rx Tr Pl Pw Sk
open Fk (F)
variable {w w' base:World} {x y:Sl} {u:ByteArray} {key:ByteArray} {z0 g3 T3 i r k:Nat}
theorem bts_any {t:ByteArray} {z:Nat} (hB:Blk w z [slV y] tBs) (ht:(convert tBs 9 (slV y)).run Tryz.prog w = .ok (.string t) w) :
    Calls Tryz.prog 84 #[.pointer (some ⟨z,0,none⟩)] w fun en w'=>en = .returned (.string t)∧w'=w:=by
  refine jsonparser_bytesToString.calls _ ?_
  unfold jsonparser_bytesToString.t
  exact s_ptr (s_load y (hB.cell 0) (s_eff (w':=w) t ht (s_leaf ⟨rfl,rfl,rfl⟩)))
structure FkS (base w:World) (x:Sl) (u:ByteArray) (z0 g3 T3:Nat):Prop where
  c0:Blk w z0 (cfC 0) tCf
  data:Tx w x u 0 u.size
  keep:Kp Off base w
  buf:Z3 w g3 T3
structure FkB (base:World) (x:Sl) (u:ByteArray) (z0 g3:Nat):Prop where
  data:Tx base x u 0 u.size
  lt:Je.Lt base
  ev:Je.Ev base Je.gE
  o0:base.heap.size≤z0
  o3:z0<g3
theorem une2_any {t:ByteArray} {nmr:List UInt8} (hb:FkB base x u z0 g3) (hK:Kp Off base w) (h3:Z3 w g3 T3) (ht:t.size≤8000000000) (hT:Tx w y t 0 t.size) (hy : ∀ q,TB y q→q≠g3) (hue:Je.ue t 0=some nmr) :
    Calls Tryz.prog 82 #[cfg 0,slV y,.slice (some ⟨g3,0,none⟩) 64 64] w fun en w'=>(∃ y':Sl,en = .returned (.tuple #[slV y',.nilIface])∧Je.Sb w' y' nmr)∧Kp (On g3) w w'∧Z3 w' g3 T3:=by
  obtain ⟨l3,hl3,hb3⟩:=h3
  obtain ⟨b,o,h1,h2,h4⟩:=hT.cell
  have hI:Je.In w t b o 0 t.size:=⟨fun {j} hj=>by
    have:=h4 j (by omega)
    rw [this,← Ut.bt_bn],rfl⟩
  have hlen:=hT.len
  have hcap:=hT.cap
  have e1:Je.gT<base.heap.size:=Ms.cell_lt (hb.lt 34 (by decide))
  have e2:Je.gE<base.heap.size:=by obtain ⟨t,v,h⟩:=hb.ev;exact Ms.cell_lt h
  have e3:=hb.o0
  have e4:=hb.o3
  have hbn:b≠g3:=hy b ⟨o,h1⟩
  have hsz:=hK.size
  have hc:=Je.ucfg_any (w:=w) (s:=t) (g:=b) (y0:=o) (cap:=y.2.2) (h0:=g3) (len2:=64) (cap2:=64) (T':=T3) (l:=l3) ht hI (by omega) hb3 hl3 (hb.lt.off' hK) (hb.ev.kp hK id) h2 hbn (by omega) (by omega) (by omega)
  have ea:slV y = .slice (some ⟨b,o,none⟩) t.size y.2.2:=by
    show Value.slice y.1 y.2.1 y.2.2=_
    rw [h1,hlen,Nat.sub_zero]
  rw [ea]
  refine Calls.mono hc ?_
  rintro en w1 ⟨hU,k1,l',hl',hb'⟩
  unfold Je.UPost at hU
  rw [hue] at hU
  obtain ⟨y',rfl,hs⟩:=hU
  exact ⟨⟨y',rfl,hs⟩,k1,l',by omega,hb'⟩
theorem F.inv_str (h:F u (nmS u) key u.size i r) (h1:bt u (i:Int)=34) : ∃ k,QE u (i+1) k∧strE u (i+1)=some (i+1+k+1)∧bl u (i+1+k+1)<u.size ∧
    (((bt u (bl u (i+1+k+1):Int)≠58∨nmS u (i,i+1+k+1)≠key)∧F u (nmS u) key u.size (bl u (i+1+k+1)+1) r)∨(bt u (bl u (i+1+k+1):Int)=58∧nmS u (i,i+1+k+1)=key∧r=i)):=by
  cases h with
  | skip _ g=>exact absurd h1 g
  | str _ g2 g3 g4 g5 g6=>exact ⟨_,g2,g3,g4,.inl ⟨g5,g6⟩⟩
  | hit _ g2 g3 g4 g5 g6=>exact ⟨_,g2,g3,g4,.inr ⟨g5,g6,rfl⟩⟩
  | blk g=>rcases g with ⟨g,_⟩ | ⟨g,_⟩ <;> omega
theorem F.inv_blk (h:F u (nmS u) key u.size i r) (h1:bt u (i:Int)=91∨bt u (i:Int)=123) : ∃ i',((bt u (i:Int)=123∧Bk u 123 125 i 0 i')∨(bt u (i:Int)=91∧Bk u 91 93 i 0 i'))∧i<i'∧i'≤u.size∧F u (nmS u) key u.size (i'+1) r:=by
  cases h with
  | skip _ _ g1 g2=>rcases h1 with h1 | h1 <;> contradiction
  | str g=>omega
  | hit g=>omega
  | blk g1 g2 g3 g4=>exact ⟨_,g1,g2,g3,g4⟩
theorem F.inv_skip (h:F u (nmS u) key u.size i r) (h1:bt u (i:Int)≠34) (h2:bt u (i:Int)≠91) (h3:bt u (i:Int)≠123):F u (nmS u) key u.size (i+1) r:=by
  cases h with
  | skip _ _ _ _ g=>exact g
  | str g=>contradiction
  | hit g=>contradiction
  | blk g=>rcases g with ⟨g,_⟩ | ⟨g,_⟩ <;> contradiction
theorem F.lt (h:F u (nmS u) key u.size i r):i<u.size:=by
  cases h with
  | skip g=>exact g
  | @str _ _ k _ _ _ g=>have:=bl_ge u (i+1+k+1);omega
  | @hit _ k _ _ _ g=>have:=bl_ge u (i+1+k+1);omega
  | blk _ g1 g2=>omega
theorem t7_fk {Q:Nat→List Value→World→Prop} {t:ByteArray} {b22:Bool} {z30:Int×(Bool×PUnit)} {i33:Int} {j z:Nat} (hT:Tx w x u 0 u.size) (hi:i≤9000000000) (hB:Blk w z [slV y] tBs) (hyl:y.2.1=t.size) (ht:(convert tBs 9 (slV y)).run Tryz.prog w = .ok (.string t) w)
    (hj:IntKind.wrap IntKind.i64 (IntKind.wrap IntKind.i64 (IntKind.wrap IntKind.i64 ((i:Int)+(1:Int))+z30.1)+i33)=(j:Int)) (hjl:j<u.size)
    (h0:bt u (j:Int)=58→t=key→Q 0 [.int .i64 (i:Int),.nilIface] w) (h2:(bt u (j:Int)≠58∨t≠key)→Q 2 [.bool b22,.int .i64 (j:Int)] w) :
    sat Tryz.prog (jsonparser_findKeyStartConfig.t7 x.1 x.2.1 key b22 (i:Int) z30 i33 ⟨z,0,none⟩) Q w:=by
  unfold jsonparser_findKeyStartConfig.t7
  refine s_atI hT hj (by omega) ?_
  rw [Nat.zero_add,hj]
  refine s_iteE (fun g58 => ?_) (fun g58=>s_leaf (h2 (.inl g58)))
  refine s_load y (hB.cell 0) (s_iteE (fun gl => ?_) (fun gl=>s_leaf (h2 (.inr fun e=>gl ?_))))
  · refine s_call (bts_any hB ht) ?_
    rintro en w2 ⟨rfl,hw⟩
    have hw:=hw.symm
    subst hw
    refine ⟨t,rfl,s_ite (fun g=>s_leaf ?_) (fun g=>s_leaf (h2 (.inr fun e => ?_)))⟩
    · have e1:IntKind.wrap IntKind.i64 (IntKind.wrap IntKind.i64 ((i:Int)+(1:Int))-(1:Int))=(i:Int):=by
        rw [wup _ (by omega),wdn _ (by omega) (by omega)];rfl
      rw [e1]
      exact h0 g58 (strEq_iff.1 g)
    · rw [strEq_iff.2 e] at g;cases g
  · subst e
    show ((t.size:Nat):Int)=((y.2.1:Nat):Int)
    rw [hyl]
theorem fk_round {Q:Nat→List Value→World→Prop} (hb:FkB base x u z0 g3) (h:FkS base w x u z0 g3 T3) (hs:u.size≤8000000000) (hsl : ∀ (w:World),(Instr.sliceAt 113 (.pointer (some ⟨g3,0,none⟩)) none none none).run Tryz.prog w = .ok (.slice (some ⟨g3,0,none⟩) 64 64) w)
    (hF:F u (nmS u) key u.size i r) (hA : ∀ w',Kp Off base w'→Q 0 [.int .i64 (r:Int),.nilIface] w') (hN : ∀ i' w',i<i'→F u (nmS u) key u.size i' r→FkS base w' x u z0 g3 T3→Q 1 [.int .i64 (i':Int)] w') :
    sat Tryz.prog (jsonparser_findKeyStartConfig.t4 x.1 x.2.1 x.2.2 ⟨z0,0,none⟩ ⟨g3,0,none⟩ key (i:Int)) Q w:=by
  have hil:=F.lt hF
  have hxl:=h.data.len
  have hxc:=h.data.cap
  have ho0:=hb.o0
  have ho3:=hb.o3
  unfold jsonparser_findKeyStartConfig.t4
  refine s_iteD (fun _ => ?_) (fun g=>absurd g (by omega))
  refine s_at h.data (by omega) ?_
  rw [Nat.zero_add]
  refine s_cut (fun z w'=>z=((bt u (i:Int)==(34:Int)) || (bt u (i:Int)==(39:Int)),(i:Int),())∧w=w') (s_iteE (fun g=>s_leaf ?_) (fun g=>s_leaf ?_)) ?_
  · rw [if_pos rfl];exact ⟨(_,(i:Int),()),rfl,by rw [g];rfl,rfl⟩
  · rw [if_pos rfl];exact ⟨(_,(i:Int),()),rfl,by rw [beq_eq_false_iff_ne.2 g];rfl,rfl⟩
  rintro z w' ⟨rfl,rfl⟩
  show sat _ (jsonparser_findKeyStartConfig.t5 x.1 x.2.1 x.2.2 ⟨z0,0,none⟩ ⟨g3,0,none⟩ key (bt u (i:Int)) ((bt u (i:Int)==(34:Int)) || (bt u (i:Int)==(39:Int))) (i:Int)) _ _
  unfold jsonparser_findKeyStartConfig.t5
  refine s_cut (fun z w' => ∃ i':Nat,z.2.1=((i'-1:Nat):Int)∧i<i'∧F u (nmS u) key u.size i' r∧FkS base w' x u z0 g3 T3) ?_ ?_
  rotate_left
  · rintro ⟨bb,zi,un⟩ w' ⟨i',hz,hii,hF',hS'⟩
    have hz:zi=((i'-1:Nat):Int):=hz
    subst hz
    show sat _ (jsonparser_findKeyStartConfig.t8 ((i'-1:Nat):Int)) _ _
    unfold jsonparser_findKeyStartConfig.t8
    refine s_leaf ?_
    have:=F.lt hF'
    rw [wup _ (by omega),show i'-1+1=i' by omega]
    exact hN i' w' hii hF' hS'
  by_cases h34:bt u (i:Int)=34
  · rw [h34]
    refine sat_iteT.2 (s_at h.data (by omega) ?_)
    rw [Nat.zero_add,h34]
    refine s_cut (fun z w'=>z=(false,())∧w=w') (sat_iteF.2 (s_leaf (by rw [if_pos rfl];exact ⟨(false,()),rfl,rfl,rfl⟩))) ?_
    rintro z w' ⟨rfl,rfl⟩
    show sat _ (jsonparser_findKeyStartConfig.t6 x.1 x.2.1 x.2.2 ⟨z0,0,none⟩ ⟨g3,0,none⟩ key true (i:Int) 34 false) _ _
    unfold jsonparser_findKeyStartConfig.t6
    obtain ⟨k,hq,hstr,hbl,hcase⟩:=F.inv_str hF h34
    have hge:=bl_ge u (i+1+k+1)
    have e1:IntKind.wrap IntKind.i64 ((i:Int)+(1:Int))=((i+1:Nat):Int):=wup _ (by omega)
    have e2:IntKind.wrap IntKind.i64 (((i+1:Nat):Int)+((k+1:Nat):Int))=((i+1+k+1:Nat):Int):=by rw [wad _ _ (by omega)];rfl
    have e3:IntKind.wrap IntKind.i64 (((i+1+k+1:Nat):Int)+((bl u (i+1+k+1)-(i+1+k+1):Nat):Int))=((bl u (i+1+k+1):Nat):Int):=by
      rw [wad _ _ (by omega),show i+1+k+1+(bl u (i+1+k+1)-(i+1+k+1))=bl u (i+1+k+1) by omega]
    have e5:IntKind.wrap IntKind.i64 (((i+1+k+1:Nat):Int)-(1:Int))=((i+1+k:Nat):Int):=by rw [wdn _ (by omega) (by omega)];rfl
    refine sat_iteF.2 (s_drew ?_)
    have kd:Kp Off w w.drew:=(Kp.refl Off w).drew
    have c1:=kd.blk h.c0 id
    have d1:=h.data.kp kd
    have K1:=h.keep.trans kd
    obtain ⟨l3,hl3,hb3⟩:=h.buf
    have b1:=kd.blk hb3 id
    generalize w.drew=w1 at kd c1 d1 K1 b1
    refine ⟨(false,false,(0:Int),()),fun w'' hw''=>cfg_run ((Kp.of_below (S:=Off) hw'').blk c1 id),?_⟩
    simp only [e1]
    refine s_chk ⟨by omega,by omega,by omega⟩ ?_
    have hfr:=d1.from (i+1) (by omega)
    rw [Nat.zero_add] at hfr
    have hse:=strEnd_any (m:=0) hfr (by omega) hq (by omega)
    rw [Int.toNat_natCast,Int.toNat_natCast]
    refine s_call hse ?_
    rintro en w2 ⟨rfl,k2⟩
    refine ⟨(((k+1:Nat):Int),esc u (i+1) k,()),rfl,s_iteE (fun g=>absurd g (by show ¬ ((k+1:Nat):Int) = -1;omega)) (fun _=>s_drew ?_)⟩
    have kd2:Kp Off w2 w2.drew:=(Kp.refl Off w2).drew
    have c3:=kd2.blk (k2.blk c1 id) id
    have d3:=(d1.kp k2).kp kd2
    have K3:=(K1.trans k2).trans kd2
    have b3:=kd2.blk (k2.blk b1 id) id
    generalize w2.drew=w3 at kd2 c3 d3 K3 b3
    refine s_effS (false,false,(0:Int),()) (cfg_run c3) ?_
    simp only [e2,e5]
    refine s_chk ⟨by omega,by omega,by omega⟩ ?_
    have hfr3:=d3.from (i+1+k+1) (by omega)
    rw [Nat.zero_add] at hfr3
    have hnx:=next_any (m:=0) hfr3 (by omega) hbl
    rw [Int.toNat_natCast,Int.toNat_natCast]
    refine s_call hnx ?_
    rintro en w4 ⟨rfl,k4⟩
    refine ⟨((bl u (i+1+k+1)-(i+1+k+1):Nat):Int),rfl,s_iteE (fun g=>absurd g (by omega)) (fun _ => ?_)⟩
    have c4:=k4.blk c3 id
    have d4:=d3.kp k4
    have K4:=K3.trans k4
    have b4:=k4.blk b3 id
    have lt4:=b4.lt
    have lt0:=c4.lt
    refine s_chk ⟨by omega,by omega,by omega⟩ ?_
    refine s_new (t:=tBs) w4.heap.size rfl fun w5 k5 B5 _ => ?_
    have hS5:=(d4.kp k5).sub (k:=i+1) (f:=i+1+k) (by omega) (by omega) (by omega)
    rw [Nat.sub_zero] at hS5
    refine s_store (B5.cell 0) (B5.free 0) ?_
    have k56:Kp (On w4.heap.size) w5 (w5.setCell ⟨w4.heap.size,0,none⟩ (slV ((if x.2.2=i+1 then x.1 else x.1.map fun y=>y.add ((i+1) * 1)),i+1+k-(i+1),x.2.2-(i+1)))):=(Kp.refl _ w5).on 0 _
    have B6:=B5.set 0 (slV ((if x.2.2=i+1 then x.1 else x.1.map fun y=>y.add ((i+1) * 1)),i+1+k-(i+1),x.2.2-(i+1)))
    have k46:Kp Off w4 (w5.setCell ⟨w4.heap.size,0,none⟩ (slV ((if x.2.2=i+1 then x.1 else x.1.map fun y=>y.add ((i+1) * 1)),i+1+k-(i+1),x.2.2-(i+1)))):=k5.setNew (a:=⟨w4.heap.size,0,none⟩) (Nat.le_refl _) _
    generalize w5.setCell ⟨w4.heap.size,0,none⟩ (slV ((if x.2.2=i+1 then x.1 else x.1.map fun y=>y.add ((i+1) * 1)),i+1+k-(i+1),x.2.2-(i+1)))=w6 at k56 B6 k46
    have hS6:=(d4.kp k46).sub (k:=i+1) (f:=i+1+k) (by omega) (by omega) (by omega)
    rw [Nat.sub_zero] at hS6
    have c6:=k46.blk c4 id
    have d6:=d4.kp k46
    have K6:=K4.trans k46
    have b6:=k46.blk b4 id
    have hzs:=ext_size (s:=u) (p:=i+1) (k:=k) (by omega)
    refine s_cut (fun _ w'=>FkS base w' x u z0 g3 T3 ∧ ∃ y':Sl,Blk w' w4.heap.size [slV y'] tBs∧y'.2.1=(nmS u (i,i+1+k+1)).size∧(convert tBs 9 (slV y')).run Tryz.prog w' = .ok (.string (nmS u (i,i+1+k+1))) w') ?_ ?_
    · refine s_ite (fun hesc=>s_drew ?_) (fun hesc=>s_leaf ?_)
      · have kd7:Kp Off w6 w6.drew:=(Kp.refl Off w6).drew
        have c7:=kd7.blk c6 id
        have d7:=d6.kp kd7
        have K7:=K6.trans kd7
        have b7:=kd7.blk b6 id
        have B7:=kd7.blk B6 id
        have hS7:=hS6.kp kd7
        generalize w6.drew=w7 at kd7 c7 d7 K7 b7 B7 hS7
        refine ⟨(false,false,(0:Int),()),fun w'' hw''=>cfg_run ((Kp.of_below (S:=Off) hw'').blk c7 id),?_⟩
        refine s_load ((if x.2.2=i+1 then x.1 else x.1.map fun y=>y.add ((i+1) * 1)),i+1+k-(i+1),x.2.2-(i+1)) (B7.cell 0) ?_
        refine ⟨(some ⟨g3,0,none⟩,64,64),fun w'' _=>hsl w'',?_⟩
        obtain ⟨nmr,hue,_,hnm⟩:=nm_ue hstr
        have hbk:=hb.data.sub (k:=i+1) (f:=i+1+k) (by omega) (by omega) (by omega)
        rw [Nat.sub_zero] at hbk
        have hyq : ∀ p,TB ((if x.2.2=i+1 then x.1 else x.1.map fun y=>y.add ((i+1) * 1)),i+1+k-(i+1),x.2.2-(i+1)) p→p≠g3:=by
          rintro p ⟨o,ho⟩ rfl
          obtain ⟨b,o',a1,a2,_⟩:=hbk.cell
          have a1:(if x.2.2=i+1 then x.1 else x.1.map fun y=>y.add ((i+1) * 1))=some ⟨b,o',none⟩:=a1
          have ho:(if x.2.2=i+1 then x.1 else x.1.map fun y=>y.add ((i+1) * 1))=some ⟨p,o,none⟩:=ho
          rw [a1] at ho
          cases ho
          omega
        have hc:=une2_any hb K7 ⟨l3,hl3,b7⟩ (by rw [hzs];omega) hS7.own hyq hue
        refine s_call hc ?_
        rintro en w8 ⟨⟨y',rfl,hSb⟩,k8,hz8⟩
        refine ⟨(y',Value.nilIface,()),rfl,s_chk rfl (s_ite (fun g=>absurd (show (false:Bool)=true from g) (by decide)) (fun _ => ?_))⟩
        have n38 : ¬ On g3 w4.heap.size:=fun g=>by have g:w4.heap.size=g3:=g;omega
        have B8:=k8.blk B7 n38
        have hsz4:=K4.size
        have K8:Kp Off base w8:=kpThen K7 k8 fun j hj c=>by have c:j=g3:=c;omega
        refine s_store (B8.cell 0) (B8.free 0) (s_leaf ?_)
        rw [if_pos rfl]
        have kz:Kp (On w4.heap.size) w8 (w8.setCell ⟨w4.heap.size,0,none⟩ (slV y')):=(Kp.refl _ w8).on 0 _
        have K9:Kp Off base (w8.setCell ⟨w4.heap.size,0,none⟩ (slV y')):=K8.setNew (a:=⟨w4.heap.size,0,none⟩) (by show base.heap.size≤w4.heap.size;exact hsz4) _
        have B9:Blk (w8.setCell ⟨w4.heap.size,0,none⟩ (slV y')) w4.heap.size [slV y'] tBs:=B8.set 0 _
        obtain ⟨l8,hl8,hb8⟩:=hz8
        refine ⟨(),rfl,⟨kz.blk (k8.blk c7 (fun g=>by have g:z0=g3:=g;omega)) (fun g=>by have g:z0=w4.heap.size:=g;omega),hb.data.kp K9,K9,l8,hl8,kz.blk hb8 (fun g=>by have g:g3=w4.heap.size:=g;omega)⟩,y',B9,?_,?_⟩
        · obtain ⟨_,_,_,c2,_⟩:=hSb
          rw [c2,hnm]
          show nmr.length=nmr.toArray.size
          simp
        · rw [hnm]
          refine Je.Sb.conv ?_
          obtain ⟨gb,ob,c1,c2,c3⟩:=hSb
          refine ⟨gb,ob,c1,c2,fun j hj => ?_⟩
          have c4:=c3 j hj
          rw [kz.cell (Ms.cell_lt c4) ?_]
          · exact c4
          · intro g
            have g:gb=w4.heap.size:=g
            subst g
            have c5:=B8.cell (ob+j)
            rw [c4] at c5
            have hx:=List.getElem?_eq_some_iff.1 c5.symm
            obtain ⟨hx1,hx2⟩:=hx
            have:ob+j=0:=by simpa using hx1
            simp only [this] at hx2
            cases hx2
      · rw [if_pos rfl]
        have hesc:esc u (i+1) k=false:=hesc
        have hn:=nm_plain hstr hesc
        refine ⟨(),rfl,⟨c6,d6,K6,l3,hl3,b6⟩,_,B6,?_,?_⟩
        · rw [hn,hzs]
          show i+1+k-(i+1)=k
          omega
        · rw [hn];exact hS6.toStr
    rintro _ w9 ⟨hS9,y',B9,hyl,ht⟩
    refine t7_fk hS9.data (by omega) B9 hyl ht (j:=bl u (i+1+k+1)) (by show IntKind.wrap _ (IntKind.wrap _ (IntKind.wrap _ _+((k+1:Nat):Int))+_)=_;rw [e1,e2,e3]) hbl (fun g1 g2 => ?_) (fun g => ?_)
    · rw [if_neg (by decide)]
      rcases hcase with ⟨g3 | g3,_⟩ | ⟨_,_,rfl⟩
      · exact absurd g1 g3
      · exact absurd g2 g3
      · exact hA w9 hS9.keep
    · rw [if_pos rfl]
      rcases hcase with ⟨_,g4⟩ | ⟨g3,g4,_⟩
      · exact ⟨(true,((bl u (i+1+k+1):Nat):Int),()),rfl,bl u (i+1+k+1)+1,rfl,by omega,g4,hS9⟩
      · rcases g with g | g
        · exact absurd g3 g
        · exact absurd g4 g
  · by_cases h39:bt u (i:Int)=39
    · rw [h39]
      refine sat_iteT.2 (s_at h.data (by omega) ?_)
      rw [Nat.zero_add,h39]
      refine s_cut (fun z w'=>z=(true,())∧w=w') (sat_iteT.2 (s_load false (by rw [addr_add];exact h.c0.cell 0) (s_leaf (by rw [if_pos rfl];exact ⟨(true,()),rfl,rfl,rfl⟩)))) ?_
      rintro z w' ⟨rfl,rfl⟩
      show sat _ (jsonparser_findKeyStartConfig.t6 x.1 x.2.1 x.2.2 ⟨z0,0,none⟩ ⟨g3,0,none⟩ key true (i:Int) 39 true) _ _
      unfold jsonparser_findKeyStartConfig.t6
      refine sat_iteT.2 (s_leaf ?_)
      rw [wup _ (by omega)]
      exact hN (i+1) w (by omega) (F.inv_skip hF h34 (by omega) (by omega)) h
    · rw [show ((bt u (i:Int)==(34:Int)) || (bt u (i:Int)==(39:Int)))=false by rw [beq_eq_false_iff_ne.2 h34,beq_eq_false_iff_ne.2 h39];rfl]
      refine sat_iteF.2 ?_
      have blk : ∀ (op cl:Int) (i':Nat) (K:Int→T),Kd op cl→bt u (i:Int)=op→Bk u op cl i 0 i'→i<i'→i'≤u.size→(∀ w',FkS base w' x u z0 g3 T3→sat Tryz.prog (K ((i'-i:Nat):Int)) (fun l' vs w''=>if l'=2 then ∃ z:(Bool×(Int×PUnit)),vs=(Sh.cons .bool (.cons (.int .i64) .nil)).vals z ∧ ∃ i':Nat,z.2.1=((i'-1:Nat):Int)∧i<i'∧F u (nmS u) key u.size i' r∧FkS base w'' x u z0 g3 T3 else Q l' vs w'') w') →
          sat Tryz.prog (.drew <|
            .effS (Instr.loadAt tCf (Value.pointer (some ⟨z0,0,none⟩))) (.agg (.cons .bool (.cons .bool (.cons (.int .i64) .nil)))) fun (z44:(Bool×(Bool×(Int×PUnit))))=>
            .chk (((0:Int)≤(i:Int))∧(((i:Int)≤((x.2.1:Nat):Int))∧(((x.2.1:Nat):Int)≤((x.2.2:Nat):Int)))) <|
            .chk (((0:Int)≤(i:Int))∧((i:Int)<((x.2.1:Nat):Int))) <|
            .ptr x.1 fun (z45:Addr)=>
            .load (Addr.add z45 ((Int.toNat (i:Int)) * 1)) (.int .u8) fun (i46:Int)=>
            .call 68 #[(Value.agg #[(Value.bool (z44).1),(Value.bool ((z44).2).1),(Value.int IntKind.i64 (((z44).2).2).1)]),(Value.slice (if (x.2.2=(Int.toNat (i:Int))) then x.1 else (Option.map (fun (y47:Addr)=>(Addr.add y47 ((Int.toNat (i:Int)) * 1))) x.1)) ((Int.toNat ((x.2.1:Nat):Int))-(Int.toNat (i:Int))) (x.2.2-(Int.toNat (i:Int)))),(Value.int IntKind.u8 i46),(Value.int IntKind.u8 cl)] (.int .i64) K) (fun l' vs w''=>if l'=2 then ∃ z:(Bool×(Int×PUnit)),vs=(Sh.cons .bool (.cons (.int .i64) .nil)).vals z ∧ ∃ i':Nat,z.2.1=((i'-1:Nat):Int)∧i<i'∧F u (nmS u) key u.size i' r∧FkS base w'' x u z0 g3 T3 else Q l' vs w'') w:=by
        intro op cl i' K hkd hop hB hlt hle hK
        refine s_drew ?_
        have kd:Kp Off w w.drew:=(Kp.refl Off w).drew
        have c1:=kd.blk h.c0 id
        have d1:=h.data.kp kd
        have K1:=h.keep.trans kd
        obtain ⟨l3,hl3,hb3⟩:=h.buf
        have b1:=kd.blk hb3 id
        generalize w.drew=w1 at kd c1 d1 K1 b1
        refine s_effS (false,false,(0:Int),()) (cfg_run c1) (s_chk ⟨by omega,by omega,by omega⟩ (s_at d1 (by omega) ?_))
        rw [Nat.zero_add,hop]
        have hfr:=d1.from i (by omega)
        rw [Nat.zero_add] at hfr
        have hbe:=block_any (m:=0) hkd hfr (by omega) hB hle
        rw [Int.toNat_natCast,Int.toNat_natCast]
        refine s_call hbe ?_
        rintro en w2 ⟨rfl,k2⟩
        exact ⟨_,rfl,hK w2 ⟨k2.blk c1 id,d1.kp k2,K1.trans k2,l3,hl3,k2.blk b1 id⟩⟩
      have fin : ∀ (i':Nat) (w':World),i<i'→i'≤u.size→F u (nmS u) key u.size (i'+1) r→FkS base w' x u z0 g3 T3→sat Tryz.prog (.ite (((i'-i:Nat):Int) != (-1:Int)) (
            .leaf 2 [(Value.bool false),(Value.int IntKind.i64 (IntKind.wrap IntKind.i64 ((i:Int)+((i'-i:Nat):Int))))]) (
            .leaf 2 [(Value.bool false),(Value.int IntKind.i64 (i:Int))])) (fun l' vs w''=>if l'=2 then ∃ z:(Bool×(Int×PUnit)),vs=(Sh.cons .bool (.cons (.int .i64) .nil)).vals z ∧ ∃ i':Nat,z.2.1=((i'-1:Nat):Int)∧i<i'∧F u (nmS u) key u.size i' r∧FkS base w'' x u z0 g3 T3 else Q l' vs w'') w':=by
        intro i' w' h1 h2 h3 h4
        refine s_iteN (fun _=>s_leaf ?_) (fun g=>absurd g (by omega))
        rw [if_pos rfl,wad _ _ (by omega),show i+(i'-i)=i' by omega]
        exact ⟨(false,(i':Int),()),rfl,i'+1,rfl,by omega,h3,h4⟩
      refine s_iteE (fun h91 => ?_) (fun h91=>s_iteE (fun h123 => ?_) (fun h123=>s_leaf ?_))
      · obtain ⟨i',hc,h1,h2,h3⟩:=F.inv_blk hF (.inl h91)
        have hB:Bk u 91 93 i 0 i':=by rcases hc with ⟨g,_⟩ | ⟨_,g⟩;omega;exact g
        exact blk 91 93 i' _ (.inl ⟨rfl,rfl⟩) h91 hB h1 h2 fun w' hS=>fin i' w' h1 h2 h3 hS
      · obtain ⟨i',hc,h1,h2,h3⟩:=F.inv_blk hF (.inr h123)
        have hB:Bk u 123 125 i 0 i':=by rcases hc with ⟨_,g⟩ | ⟨g,_⟩;exact g;omega
        exact blk 123 125 i' _ (.inr ⟨rfl,rfl⟩) h123 hB h1 h2 fun w' hS=>fin i' w' h1 h2 h3 hS
      · rw [if_pos rfl]
        exact ⟨(false,(i:Int),()),rfl,i+1,rfl,by omega,F.inv_skip hF h34 h91 h123,h⟩
end Go.Proofs.YtlfebfkphgelfaaGreatDoor.Ka
namespace Go.Proofs.YtlfebfkphgelfaaGreatDoor.Ka
open Go Go.Proofs Go.RowKit Rx Tr Pl Pw Sk
open Fk (F)
variable {w w' base:World} {x y:Sl} {u s:ByteArray} {key:ByteArray} {z0 g3 T3 i r k e:Nat}
theorem fk_loop {Q:Nat→List Value→World→Prop} (hb:FkB base x u z0 g3) (h:FkS base w x u z0 g3 T3) (hs:u.size≤8000000000) (hsl : ∀ (w:World),(Instr.sliceAt 113 (.pointer (some ⟨g3,0,none⟩)) none none none).run Tryz.prog w = .ok (.slice (some ⟨g3,0,none⟩) 64 64) w)
    (hF:F u (nmS u) key u.size i r) (hA : ∀ w',Kp Off base w'→Q 0 [.int .i64 (r:Int),.nilIface] w'):sat Tryz.prog (jsonparser_findKeyStartConfig.t3 x.1 x.2.1 x.2.2 ⟨z0,0,none⟩ (i:Int) ⟨g3,0,none⟩ key) Q w:=by
  unfold jsonparser_findKeyStartConfig.t3
  refine s_loop (fun n z w' => ∃ j:Nat,n=u.size-j∧z=((j:Int),())∧F u (nmS u) key u.size j r∧FkS base w' x u z0 g3 T3) (u.size-i) ((i:Int),()) rfl ⟨i,rfl,rfl,hF,h⟩ ?_
  rintro n z w1 ⟨j,rfl,rfl,hFj,hS⟩
  have hlt:=F.lt hFj
  refine fk_round hb hS hs hsl hFj (fun w' k => ?_) (fun i' w' h1 h2 h3 => ?_)
  · rw [if_neg (by decide)];exact hA w' k
  · rw [if_pos rfl]
    have:=F.lt h2
    exact ⟨u.size-i',((i':Int),()),rfl,by omega,i',rfl,rfl,h2,h3⟩
theorem s_hereK {P:Program} {Q:Nat→List Value→World→Prop} {K:World→T} (h:sat P (K w) Q w):sat P (.here K) Q w:=h
theorem fk_t9 : @jsonparser_findKeyStartConfig.t9 = @jsonparser_findKeyStartConfig.t3:=rfl
theorem fk_t15 : @jsonparser_findKeyStartConfig.t15 = @jsonparser_findKeyStartConfig.t3:=rfl
theorem fk_fin {Q:Nat→List Value→World→Prop} {z:Nat} {k0:ByteArray} (hb:FkB base x u z0 g3) (h:FkS base w x u z0 g3 T3) (hs:u.size≤8000000000) (hsl : ∀ (w:World),(Instr.sliceAt 113 (.pointer (some ⟨g3,0,none⟩)) none none none).run Tryz.prog w = .ok (.slice (some ⟨g3,0,none⟩) 64 64) w)
    (hB:Blk w z [slV y] tBs) (ht:(convert tBs 9 (slV y)).run Tryz.prog w = .ok (.string key) w)
    (hF:F u (nmS u) key u.size i r) (hA : ∀ w',Kp Off base w'→Q 0 [.int .i64 (r:Int),.nilIface] w'):sat Tryz.prog (
      .chk ((isIface Value.nilIface)=Bool.true) <|
      .cut 1 (.cons .str .nil) (
        .ite (isNil Value.nilIface) (
          .call 84 #[(Value.pointer (some ⟨z,0,none⟩))] .str fun (s17:ByteArray)=>
          .leaf 1 [(Value.string s17)]) (
          .leaf 1 [(Value.string k0)]))
        (fun z=>jsonparser_findKeyStartConfig.t3 x.1 x.2.1 x.2.2 ⟨z0,0,none⟩ (i:Int) ⟨g3,0,none⟩ z.1)) Q w:=by
  refine s_chk rfl (s_cut (fun z w'=>z=(key,())∧w=w') (s_ite (fun _ => ?_) (fun g=>absurd (show (true:Bool)=false from g) (by decide))) ?_)
  · refine s_call (bts_any hB ht) ?_
    rintro en w2 ⟨rfl,hw⟩
    have hw:=hw.symm
    subst hw
    refine ⟨key,rfl,s_leaf ?_⟩
    rw [if_pos rfl];exact ⟨(key,()),rfl,rfl,rfl⟩
  · rintro z w' ⟨rfl,rfl⟩
    exact fk_loop hb h hs hsl hF hA
theorem stb_any (t:ByteArray):Calls Tryz.prog 83 #[.string t] w fun en w' => ∃ y:Sl,en = .returned (slV y)∧Tx w' y t 0 t.size∧Kp Off w w' ∧ ∀ b,TB y b→b=w.heap.size:=by
  refine jsonparser_StringToBytes.calls _ ?_
  unfold jsonparser_StringToBytes.t
  obtain ⟨y,w1,hcv,hT,k1,_,hy⟩:=conv_any (w:=w) t
  exact s_eff y hcv (s_leaf ⟨rfl,y,rfl,hT,k1,hy⟩)
theorem fk_any {b:Nat} (hs:u.size≤8000000000) (hL:Je.Lt w) (hE:Je.Ev w Je.gE) (hT:Tx w x u 0 u.size) (hb0:bl u 0=b) (h123:bt u (b:Int)=123) (hF:F u (nmS u) key u.size (b+1) r) (hkz:key.size≤8000000000) (hks : ∀ j,j<key.size→Ut.bn key j≠92) :
    Calls Tryz.prog 70 #[cfg 0,slV x,.string key] w fun en w'=>en = .returned (.tuple #[.int .i64 (r:Int),.nilIface])∧Kp Off w w':=by
  have hxl:=hT.len
  have hxc:=hT.cap
  have hbs:b<u.size:=lt_of_bt (by omega)
  refine jsonparser_findKeyStartConfig.calls _ _ _ _ _ _ _ ?_
  unfold jsonparser_findKeyStartConfig.t
  refine s_alloc ?_
  have b0:=Blk.new w (cfC 0) tCf
  have k0:Kp Off w (w.alloc (.cells (cfC 0).toArray tCf (0,0))):=(Kp.refl Off w).alloc _
  show sat _ _ _ (w.alloc (.cells (cfC 0).toArray tCf (0,0)))
  generalize w.alloc (.cells (cfC 0).toArray tCf (0,0))=w1 at k0 b0
  refine s_eff (w':=w1) (false,false,(0:Int),()) (cfg_run b0) ?_
  refine s_call (next_any (m:=0) (hT.kp k0) (by omega) (by rw [hb0];exact hbs)) ?_
  rintro en w2 ⟨rfl,k2⟩
  rw [hb0,Nat.sub_zero]
  have b02:=k2.blk b0 id
  have K2:=k0.trans k2
  have T2:=hT.kp K2
  refine ⟨(b:Int),rfl,s_iteE (fun g=>absurd g (by omega)) (fun _ => ?_)⟩
  refine s_cut (fun z w'=>z=(true,())∧w2=w') ?_ ?_
  · refine s_at T2 (by omega) ?_
    rw [Nat.zero_add,h123]
    exact sat_iteT.2 (s_leaf (by rw [if_pos rfl];exact ⟨(true,()),rfl,rfl,rfl⟩))
  rintro z w' ⟨rfl,rfl⟩
  show sat _ (jsonparser_findKeyStartConfig.t1 x.1 x.2.1 x.2.2 key ⟨w.heap.size,0,none⟩ (b:Int) true) _ _
  unfold jsonparser_findKeyStartConfig.t1
  refine s_cut (fun z w'=>z=(((b+1:Nat):Int),())∧w2=w') (sat_iteT.2 (s_leaf (by rw [if_pos rfl,wup _ (by omega)];exact ⟨(_,()),rfl,rfl,rfl⟩))) ?_
  rintro z w' ⟨rfl,rfl⟩
  show sat _ (jsonparser_findKeyStartConfig.t2 x.1 x.2.1 x.2.2 key ⟨w.heap.size,0,none⟩ ((b+1:Nat):Int)) _ _
  unfold jsonparser_findKeyStartConfig.t2
  have hz2:=b02.lt
  obtain ⟨w3,hw3⟩ : ∃ w3,w2.alloc (.cells (Je.cb (List.replicate 64 0)).toArray tA (0,0))=w3:=⟨_,rfl⟩
  obtain ⟨b3,k3,z3'⟩:=Je.new_blk hw3
  refine Sr.s_allocE w2.heap.size rfl w3 hw3 ?_
  refine s_drew ?_
  have kd:Kp Off w3 w3.drew:=(Kp.refl Off w3).drew
  have K4:=(K2.trans k3).trans kd
  have c4:=kd.blk (k3.blk b02 id) id
  have b4:=kd.blk b3 id
  generalize w3.drew=w4 at kd K4 c4 b4
  have hg3:=b4.lt
  refine ⟨(false,false,(0:Int),()),fun w'' hw''=>cfg_run ((Kp.of_below (S:=Off) hw'').blk c4 id),?_⟩
  have hsl : ∀ (w:World),(Instr.sliceAt 113 (.pointer (some ⟨w2.heap.size,0,none⟩)) none none none).run Tryz.prog w = .ok (.slice (some ⟨w2.heap.size,0,none⟩) 64 64) w:=fun w=>by kernel_rfl
  refine ⟨(some ⟨w2.heap.size,0,none⟩,64,64),fun w'' _=>hsl w'',?_⟩
  have hB:FkB w x u w.heap.size w2.heap.size:=⟨hT,hL,hE,Nat.le_refl _,hz2⟩
  have hue:Je.ue key 0=some (Ql.tl key 0):=ue_plain_all key.size 0 (by omega) (fun j _ hj=>hks j hj)
  have hkey:ByteArray.mk (Ql.tl key 0).toArray=key:=by
    apply ByteArray.ext
    apply Array.toList_inj.1
    show (Ql.tl key 0).toArray.toList=key.data.toList
    rw [Ql.tl]
    simp
  have post : ∀ w',Kp Off w w'→(fun l' vs (w'':World)=>l'=0∧Ending.returned (retVal vs) = .returned (.tuple #[.int .i64 (r:Int),.nilIface])∧Kp Off w w'') 0 [.int .i64 (r:Int),.nilIface] w':=fun w' k=>⟨rfl,rfl,k⟩
  have state : ∀ {w':World},Kp Off w4 w'∨Kp Off w w'∧Blk w' w.heap.size (cfC 0) tCf∧Z3 w' w2.heap.size tA→FkS w w' x u w.heap.size w2.heap.size tA:=by
    rintro w' (g | ⟨g1,g2,g3⟩)
    · exact ⟨g.blk c4 id,hT.kp (K4.trans g),K4.trans g,List.replicate 64 0,List.length_replicate,g.blk b4 id⟩
    · exact ⟨g2,hT.kp g1,g1,g3⟩
  have une : ∀ {w5:World} {y:Sl},Kp Off w4 w5→Tx w5 y key 0 key.size→(∀ b,TB y b→w4.heap.size≤b)→Calls Tryz.prog 82 #[cfg 0,slV y,.slice (some ⟨w2.heap.size,0,none⟩) 64 64] w5 fun en w'=>(∃ y':Sl,en = .returned (.tuple #[slV y',.nilIface])∧Je.Sb w' y' (Ql.tl key 0))∧Kp (On w2.heap.size) w5 w'∧Z3 w' w2.heap.size tA:=by
    intro w5 y g1 g2 g3
    exact une2_any hB (K4.trans g1) ⟨List.replicate 64 0,List.length_replicate,g1.blk b4 id⟩ hkz g2 (fun q hq e=>by have:=g3 q hq;omega) hue
  have aft : ∀ {w5 w6:World},Kp Off w4 w5→Kp (On w2.heap.size) w5 w6→Kp Off w w6∧Blk w6 w.heap.size (cfC 0) tCf:=by
    intro w5 w6 g1 g2
    have hsz:=K2.size
    exact ⟨kpThen (K4.trans g1) g2 fun j hj c=>by have c:j=w2.heap.size:=c;omega,g2.blk (g1.blk c4 id) (fun g=>by have g:w.heap.size=w2.heap.size:=g;omega)⟩
  refine ⟨?_,?_⟩
  ·
    refine s_hereK ?_
    refine s_call (stb_any key) ?_
    rintro en w5 ⟨y,rfl,hY,k5,hyb⟩
    refine ⟨y,rfl,k5.belowOff,?_,?_⟩
    · refine s_call (une k5 hY (fun b hb=>by rw [hyb b hb];exact Nat.le_refl _)) ?_
      rintro en w6 ⟨⟨y',rfl,hSb⟩,k6,hz6⟩
      obtain ⟨K6,c6⟩:=aft k5 k6
      refine ⟨(y',Value.nilIface,()),rfl,?_⟩
      refine s_new (t:=tBs) w6.heap.size rfl fun w7 k7 B7 _ => ?_
      refine s_store (B7.cell 0) (B7.free 0) ?_
      have K8:Kp Off w6 (w7.setCell ⟨w6.heap.size,0,none⟩ (slV y')):=k7.setNew (a:=⟨w6.heap.size,0,none⟩) (Nat.le_refl _) _
      have B8:=B7.set 0 (slV y')
      obtain ⟨l6,hl6,hb6⟩:=hz6
      refine fk_fin (y:=y') hB (state (.inr ⟨K6.trans K8,K8.blk c6 id,l6,hl6,K8.blk hb6 id⟩)) hs hsl B8 ?_ hF post
      rw [← hkey]
      refine Je.Sb.conv ?_
      obtain ⟨gb,ob,d1,d2,d3⟩:=hSb
      exact ⟨gb,ob,d1,d2,fun j hj=>by rw [K8.cell (Ms.cell_lt (d3 j hj)) id];exact d3 j hj⟩
    · refine s_hereK ?_
      refine s_new (t:=tBs) w5.heap.size rfl fun w6 k6 B6 _ => ?_
      refine ⟨k6.belowOff,?_⟩
      have hsz5:=k5.size
      refine s_call (une (k5.trans k6) (hY.kp k6) (fun b hb=>by rw [hyb b hb];exact Nat.le_refl _)) ?_
      rintro en w7 ⟨⟨y',rfl,hSb⟩,k7,hz7⟩
      obtain ⟨K7,c7⟩:=aft (k5.trans k6) k7
      refine ⟨(y',Value.nilIface,()),rfl,?_⟩
      have nE : ¬ On w2.heap.size w5.heap.size:=fun g=>by have g:w5.heap.size=w2.heap.size:=g;omega
      have B7:=k7.blk B6 nE
      refine s_store (B7.cell 0) (B7.free 0) ?_
      have hszw:=K4.size
      have kz:Kp (On w5.heap.size) w7 (w7.setCell ⟨w5.heap.size,0,none⟩ (slV y')):=(Kp.refl _ w7).on 0 _
      have K8:Kp Off w (w7.setCell ⟨w5.heap.size,0,none⟩ (slV y')):=K7.setNew (a:=⟨w5.heap.size,0,none⟩) (by show w.heap.size≤w5.heap.size;omega) _
      have B8:=B7.set 0 (slV y')
      obtain ⟨l7,hl7,hb7⟩:=hz7
      rw [fk_t9]
      refine fk_fin (y:=y') hB (state (.inr ⟨K8,kz.blk c7 (fun g=>by have g:w.heap.size=w5.heap.size:=g;omega),l7,hl7,kz.blk hb7 (fun g=>by have g:w2.heap.size=w5.heap.size:=g;omega)⟩)) hs hsl B8 ?_ hF post
      rw [← hkey]
      refine Je.Sb.conv ?_
      obtain ⟨gb,ob,d1,d2,d3⟩:=hSb
      refine ⟨gb,ob,d1,d2,fun j hj => ?_⟩
      have d4:=d3 j hj
      rw [kz.cell (Ms.cell_lt d4) ?_]
      · exact d4
      · intro g
        have g:gb=w5.heap.size:=g
        subst g
        have c5:=B7.cell (ob+j)
        rw [d4] at c5
        obtain ⟨hx1,hx2⟩:=List.getElem?_eq_some_iff.1 c5.symm
        have:ob+j=0:=by simpa using hx1
        simp only [this] at hx2
        cases hx2
  · refine s_hereK ?_
    refine s_new (t:=tBs) w4.heap.size rfl fun w5 k5 B5 z5 => ?_
    refine ⟨k5.belowOff,?_⟩
    refine s_hereK ?_
    refine s_call (stb_any key) ?_
    rintro en w6 ⟨y,rfl,hY,k6,hyb⟩
    refine ⟨y,rfl,k6.belowOff,?_⟩
    refine s_call (une (k5.trans k6) hY (fun b hb=>by rw [hyb b hb];omega)) ?_
    rintro en w7 ⟨⟨y',rfl,hSb⟩,k7,hz7⟩
    obtain ⟨K7,c7⟩:=aft (k5.trans k6) k7
    refine ⟨(y',Value.nilIface,()),rfl,?_⟩
    have nE : ¬ On w2.heap.size w4.heap.size:=fun g=>by have g:w4.heap.size=w2.heap.size:=g;omega
    have B7:=k7.blk (k6.blk B5 id) nE
    refine s_store (B7.cell 0) (B7.free 0) ?_
    have hszw:=K4.size
    have kz:Kp (On w4.heap.size) w7 (w7.setCell ⟨w4.heap.size,0,none⟩ (slV y')):=(Kp.refl _ w7).on 0 _
    have K8:Kp Off w (w7.setCell ⟨w4.heap.size,0,none⟩ (slV y')):=K7.setNew (a:=⟨w4.heap.size,0,none⟩) (by show w.heap.size≤w4.heap.size;omega) _
    have B8:=B7.set 0 (slV y')
    obtain ⟨l7,hl7,hb7⟩:=hz7
    rw [fk_t15]
    refine fk_fin (y:=y') hB (state (.inr ⟨K8,kz.blk c7 (fun g=>by have g:w.heap.size=w4.heap.size:=g;omega),l7,hl7,kz.blk hb7 (fun g=>by have g:w2.heap.size=w4.heap.size:=g;omega)⟩)) hs hsl B8 ?_ hF post
    rw [← hkey]
    refine Je.Sb.conv ?_
    obtain ⟨gb,ob,d1,d2,d3⟩:=hSb
    refine ⟨gb,ob,d1,d2,fun j hj => ?_⟩
    have d4:=d3 j hj
    rw [kz.cell (Ms.cell_lt d4) ?_]
    · exact d4
    · intro g
      have g:gb=w4.heap.size:=g
      subst g
      have c5:=B7.cell (ob+j)
      rw [d4] at c5
      obtain ⟨hx1,hx2⟩:=List.getElem?_eq_some_iff.1 c5.symm
      have:ob+j=0:=by simpa using hx1
      simp only [this] at hx2
      cases hx2
theorem fts_any {c:Nat} (hs:s.size≤8000000000) (hT:Tx w x s 0 e) (hc:c<e) (hm:bt s (c:Int)=44∨bt s (c:Int)=91∨bt s (c:Int)=123) (hn : ∀ j,c<j→j<e→isB (bt s (j:Int))=true) :
    Calls Tryz.prog 72 #[slV x,.int .u8 44] w fun en w'=>en = .returned (.int .i64 (if bt s (c:Int)=44 then (c:Int) else 0))∧w'=w:=by
  have hl:=hT.len
  have hes:=hT.es
  refine jsonparser_findTokenStart.calls _ _ _ _ ?_
  unfold jsonparser_findTokenStart.t
  have e0:IntKind.wrap IntKind.i64 (((x.2.1:Nat):Int)-(1:Int))=((e-1:Nat):Int):=by rw [hl,Nat.sub_zero,wdn _ (by omega) (by omega)]
  refine s_loop (fun n z w' => ∃ j:Nat,n=j∧z=((j:Int),())∧c≤j∧j<e∧w=w') (e-1) (((e-1:Nat):Int),()) (by rw [e0];rfl) ⟨e-1,rfl,rfl,by omega,by omega,rfl⟩ ?_
  rintro n z w1 ⟨j,rfl,rfl,hcj,hje,rfl⟩
  show sat _ (jsonparser_findTokenStart.t1 x.1 x.2.1 44 (n:Int)) _ _
  unfold jsonparser_findTokenStart.t1
  refine s_iteD (fun _=>s_at hT (by omega) ?_) (fun g=>absurd (by omega) g)
  rw [Nat.zero_add]
  rcases Nat.lt_or_ge c n with g | g
  · have hb:=isB_or (hn n g hje)
    refine s_iteE (fun g1=>absurd g1 (by omega)) (fun _=>s_iteE (fun g1=>absurd g1 (by omega)) (fun _=>s_iteE (fun g1=>absurd g1 (by omega)) (fun _=>s_leaf ?_)))
    rw [if_pos rfl,wdn _ (by omega) (by omega)]
    exact ⟨n-1,(((n-1:Nat):Int),()),rfl,by omega,n-1,rfl,rfl,by omega,by omega,rfl⟩
  · have:n=c:=by omega
    subst this
    refine s_iteE (fun g1=>s_leaf ?_) (fun g1=>s_iteE (fun g2=>s_iteE (fun _=>s_leaf ?_) (fun g3=>absurd g2 g3)) (fun g2=>s_iteE (fun _=>s_leaf ?_) (fun g3=>by omega)))
    · rw [if_neg (by decide),if_pos g1];exact ⟨rfl,rfl,rfl⟩
    · rw [if_neg (by decide),if_neg g1];exact ⟨rfl,rfl,rfl⟩
    · rw [if_neg (by decide),if_neg g1];exact ⟨rfl,rfl,rfl⟩
theorem lastTo_any {m:Nat} (hs:s.size≤9000000000) (hT:Tx w x s 0 e) (hm:m<e) (hnb:isB (bt s (m:Int))=false) (hbk : ∀ j,m<j→j<e→isB (bt s (j:Int))=true) :
    Calls Tryz.prog 67 #[slV x] w fun en w'=>en = .returned (.int .i64 ((m:Nat):Int))∧w'=w:=by
  have hes:=hT.es
  have ho:=hT.own
  have hz:(s.extract 0 e).size=e:=by rw [ByteArray.size_extract];omega
  have hb : ∀ j,j<e→bt (s.extract 0 e) (j:Int)=bt s (j:Int):=fun j hj=>by
    rw [bt_extract hes (by omega),Nat.zero_add]
  exact last_any (by omega) ho (by omega) (by rw [hb m hm];exact hnb) (fun j h1 h2=>by rw [hb j (by omega)];exact hbk j h1 (by omega))
theorem ws_any {c:Int}:Calls Tryz.prog 73 #[.int .u8 c] w fun en w'=>en = .returned (.bool (isB c))∧w'=w:=by
  refine jsonparser_isJSONWhitespace.calls _ ?_
  unfold jsonparser_isJSONWhitespace.t
  refine s_iteE (fun g=>s_leaf ⟨rfl,by rw [g];rfl,rfl⟩) (fun g1=>s_iteE (fun g=>s_leaf ⟨rfl,by rw [g];rfl,rfl⟩) (fun g2=>s_iteE (fun g=>s_leaf ⟨rfl,by rw [g];rfl,rfl⟩) (fun g3=>s_leaf ⟨rfl,?_,rfl⟩)))
  have:isB c=(c==13):=by
    cases h:(c==(13:Int)) with
    | true=>exact isB_iff.2 (by have:=beq_iff_eq.1 h;omega)
    | false=>
      cases hb:isB c with
      | false=>rfl
      | true=>
        have:=isB_iff.1 hb
        have:=beq_eq_false_iff_ne.1 h
        omega
  rw [this];rfl
end Go.Proofs.YtlfebfkphgelfaaGreatDoor.Ka
namespace Go.Proofs.YtlfebfkphgelfaaGreatDoor.Ka
open Go Go.Proofs Go.RowKit Rx Tr Pl Pw Sk
open Ed (mkB len_of mkB_size put put_size put_toList eq_of_list mkB_list Hole)
variable {w w':World} {x y q:Sl} {s:ByteArray} {z0 A E:Nat}
theorem t33_any {Q:Nat→List Value→World→Prop} (hs:s.size≤4000000000) (hT:Tx w x s 0 s.size) (hAE:A≤E) (hE:E≤s.size)
    (hQ : ∀ (z:Sl) (w':World),Tx w' z (put s A E (ByteArray.mk #[])) 0 (put s A E (ByteArray.mk #[])).size→Kp Off w w'→Q 0 [slV z,.bool true] w') :
    sat Tryz.prog (jsonparser_deleteFoundConfig.t33 x.1 x.2.1 x.2.2 (E:Int) (A:Int)) Q w:=by
  have hxl:=hT.len
  have hxc:=hT.cap
  rw [Nat.sub_zero] at hxl
  unfold jsonparser_deleteFoundConfig.t33
  have eN:IntKind.wrap IntKind.i64 ((IntKind.wrap IntKind.i64 ((A:Int)+((x.2.1:Nat):Int)))-(E:Int))=((A+s.size-E:Nat):Int):=by
    rw [hxl,wad _ _ (by omega),wsu _ _ (by omega) (by omega)]
  refine s_makeF (N:=A+s.size-E) eN eN (by omega) fun w2 hF2 k2 => ?_
  generalize hN:A+s.size-E=N at hF2
  generalize hh:w.heap.size=h at hF2
  obtain ⟨z,hz⟩ : ∃ z:Sl,z=(some ⟨h,0,none⟩,N,N):=⟨_,rfl⟩
  rw [show ((some (⟨h,0,none⟩:Addr),N,N):Sh.slice.Ty)=z from hz.symm]
  have fr : ∀ {a b:World},Kp Off w a→Kp (On h) a b→Kp Off w b:=fun k1 k2=>kpThen k1 k2 fun i hi ho=>by unfold On at ho;omega
  have hT2:=hT.kp k2
  refine s_chk ⟨by omega,by omega,by omega⟩ ?_
  have hsb:=hT2.sub (k:=0) (f:=A) (Nat.le_refl _) (Nat.zero_le _) (by omega)
  have hcp : ∀ {Q':Nat→List Value→World→Prop} {K':Int→T} {o1 o2:Operand},(∀ w',FB w' h N ([]++(s.data.toList.drop 0).take (A-0))→Kp (On h) w2 w'→sat Tryz.prog (K' ((A-0:Nat):Int)) Q' w') →
      sat Tryz.prog (.eff (Builtin.copy_ (Call.argTypes (Call.mk (Callee.builtin Builtin.copy) #[o1,o2] #[tBs,tBs])) 3 #[(Value.slice (z).1 ((z).2).1 ((z).2).2),(Value.slice (if (x.2.2=0) then x.1 else (Option.map (fun (y138:Addr)=>(Addr.add y138 0)) x.1)) ((Int.toNat (A:Int))-0) (x.2.2-0))]) (.int .i64) K') Q' w2:=by
    intro Q' K' o1 o2 hK'
    have hsb':Tx w2 ((if x.2.2=0 then x.1 else x.1.map fun y=>y.add 0),A-0,x.2.2-0) s 0 A:=hsb
    have hcf:=s_copyF (Q:=Q') (K:=K') (n:=N) (c:=N) (l:=[]) (d:=0) (ats := #[tBs,tBs]) hF2 hsb' rfl (fun _=>rfl) (by omega) (by show 0+(A-0)≤N;omega) hK'
    rw [hz,Int.toNat_natCast]
    exact hcf
  refine hcp fun w3 hF3 k3 => ?_
  rw [Nat.sub_zero,List.drop_zero,List.nil_append] at hF3
  have lP:(s.data.toList.take A).length=A:=by rw [List.length_take,len_of];omega
  generalize hP:s.data.toList.take A=P at hF3 lP
  have k13:=fr k2 k3
  refine s_drew ?_
  have kd:Kp Off w3 w3.drew:=(Kp.refl Off w3).drew
  have hF5:=hF3.kp kd id
  have k15:=k13.trans kd
  have hT5:=hT.kp k15
  generalize w3.drew=w5 at hF5 k15 hT5
  refine s_chk ⟨by omega,by rw [hz];show (A:Int)≤(N:Int);omega,by rw [hz];exact Int.le_refl _⟩ (s_chk ⟨by omega,by omega,by omega⟩ ?_)
  have hse:=hT5.sub (k:=E) (f:=s.size) (Nat.zero_le _) (by omega) (Nat.le_refl _)
  rw [Nat.sub_zero] at hse
  have e1:((Int.toNat ((x.2.1:Nat):Int))-(Int.toNat (E:Int)))=s.size-E:=by rw [Int.toNat_natCast,Int.toNat_natCast,hxl]
  rw [e1,Int.toNat_natCast (n:=E)]
  refine s_copyZ (y:=(if x.2.2=E then x.1 else x.1.map fun y=>y.add (E * 1),s.size-E,x.2.2-E)) hz hF5 (by rw [lP]) hse rfl (by rw [lP];omega) fun w6 hF6 k6=>s_leaf ?_
  have l6:(s.data.toList.drop E).take (s.size-E)=s.data.toList.drop E:=List.take_of_length_le (by rw [List.length_drop,len_of];omega)
  rw [l6] at hF6
  have k16:=fr k15 k6
  have lF:(P++s.data.toList.drop E).length=N:=by rw [List.length_append,lP,List.length_drop,len_of];omega
  have hTx:=hF6.tx lF (Nat.le_refl N)
  have heq:mkB (P++s.data.toList.drop E)=put s A E (ByteArray.mk #[]):=by
    refine eq_of_list ?_
    rw [put_toList hE,mkB_list,hP];rfl
  rw [heq,← hz] at hTx
  exact hQ z w6 hTx k16
theorem t31_any {Q:Nat→List Value→World→Prop} {m:Nat} {bb:Bool} (hs:s.size≤4000000000) (hT:Tx w x s 0 s.size) (hm:m<E) (hE:E≤s.size)
    (hQ : ∀ (z:Sl) (w':World),Tx w' z (put s (if bb then m else m+1) E (ByteArray.mk #[])) 0 (put s (if bb then m else m+1) E (ByteArray.mk #[])).size→Kp Off w w'→Q 0 [slV z,.bool true] w') :
    sat Tryz.prog (jsonparser_deleteFoundConfig.t31 x.1 x.2.1 x.2.2 (E:Int) (m:Int) bb) Q w:=by
  unfold jsonparser_deleteFoundConfig.t31
  refine s_cut (fun z w'=>z=(((if bb then m else m+1:Nat):Int),())∧w=w') ?_ ?_
  · cases bb with
    | true=>exact sat_iteT.2 (s_leaf (by rw [if_pos rfl];exact ⟨(_,()),rfl,rfl,rfl⟩))
    | false=>
      refine sat_iteF.2 ?_
      refine s_cut (fun z w'=>z=(((m+1:Nat):Int),())∧w=w') (s_iteD (fun _=>s_leaf ?_) (fun g=>absurd (by omega) g)) ?_
      · rw [if_pos rfl,wup _ (by omega)];exact ⟨(_,()),rfl,rfl,rfl⟩
      · rintro z w' ⟨rfl,rfl⟩
        show sat _ (jsonparser_deleteFoundConfig.t32 ((m+1:Nat):Int)) _ _
        unfold jsonparser_deleteFoundConfig.t32
        refine s_leaf ?_
        rw [if_pos rfl];exact ⟨(_,()),rfl,rfl,rfl⟩
  · rintro z w' ⟨rfl,rfl⟩
    exact t33_any hs hT (by split <;> omega) hE hQ
theorem t30_any {Q:Nat→List Value→World→Prop} {m KO:Nat} (hs:s.size≤4000000000) (hT:Tx w x s 0 s.size) (hC:Blk w z0 (cfC 0) tCf) (hm:m<KO) (hKE:KO≤E) (hE:E≤s.size) (hnb:isB (bt s (m:Int))=false) (hbk : ∀ j,m<j→j<KO→isB (bt s (j:Int))=true) (hbl:bl s E<s.size)
    (hQ : ∀ (z:Sl) (w':World),Tx w' z (put s (if (bt s (bl s E:Int)=125∨bt s (bl s E:Int)=93)∧bt s (m:Int)=44 then m else m+1) E (ByteArray.mk #[])) 0 (put s (if (bt s (bl s E:Int)=125∨bt s (bl s E:Int)=93)∧bt s (m:Int)=44 then m else m+1) E (ByteArray.mk #[])).size→Kp Off w w'→Q 0 [slV z,.bool true] w') :
    sat Tryz.prog (jsonparser_deleteFoundConfig.t30 x.1 x.2.1 x.2.2 ⟨z0,0,none⟩ (E:Int) (KO:Int)) Q w:=by
  have hxl:=hT.len
  have hxc:=hT.cap
  rw [Nat.sub_zero] at hxl
  have hg:=bl_ge s E
  unfold jsonparser_deleteFoundConfig.t30
  refine s_chk ⟨by omega,by omega,by omega⟩ ?_
  have hsb:=hT.sub (k:=0) (f:=KO) (Nat.le_refl _) (Nat.zero_le _) (by omega)
  have hcall:Calls Tryz.prog 67 #[(Value.slice (if (x.2.2=0) then x.1 else (Option.map (fun (y113:Addr)=>(Addr.add y113 0)) x.1)) ((Int.toNat (KO:Int))-0) (x.2.2-0))] w fun en w'=>en = .returned (.int .i64 ((m:Nat):Int))∧w'=w:=by
    have hsb':Tx w ((if x.2.2=0 then x.1 else x.1.map fun y=>y.add 0),KO-0,x.2.2-0) s 0 KO:=hsb
    have h:=lastTo_any (by omega) hsb' hm hnb hbk
    rw [Int.toNat_natCast]
    exact h
  refine s_call hcall ?_
  rintro en w1 ⟨rfl,hw⟩
  have hw:=hw.symm
  subst hw
  refine ⟨(m:Int),rfl,s_chk ⟨by omega,by omega,by omega⟩ ?_⟩
  refine s_eff (w':=w) (false,false,(0:Int),()) (cfg_run hC) ?_
  have hfr:=hT.from E (by omega)
  rw [Nat.zero_add] at hfr
  have hnx:=next_any (m:=0) hfr (by omega) hbl
  rw [Int.toNat_natCast,Int.toNat_natCast]
  refine s_call hnx ?_
  rintro en w2 ⟨rfl,k2⟩
  have hT2:=hT.kp k2
  have hfr2:=hfr.kp k2
  refine ⟨((bl s E-E:Nat):Int),rfl,?_⟩
  have hlt:((bl s E-E:Nat):Int)<((x.2.1-E:Nat):Int):=by omega
  refine s_cut (fun z w'=>z=(decide ((bt s (bl s E:Int)=125∨bt s (bl s E:Int)=93)∧bt s (m:Int)=44),())∧w2=w') ?_ ?_
  · refine s_iteD (fun _=>s_iteD (fun _ => ?_) (fun g=>absurd (by omega) g)) (fun g=>absurd (by omega) g)
    refine s_at hfr2 (by omega) ?_
    rw [show E+(bl s E-E)=bl s E by omega]
    refine s_iteE (fun g => ?_) (fun g => ?_)
    · refine s_at hT2 (by omega) (s_leaf ?_)
      rw [if_pos rfl,Nat.zero_add]
      refine ⟨(_,()),rfl,?_,rfl⟩
      by_cases h44:bt s (m:Int)=44
      · rw [h44,decide_eq_true ⟨.inl g,rfl⟩];rfl
      · rw [beq_eq_false_iff_ne.2 h44,decide_eq_false (fun c=>h44 c.2)];rfl
    · refine s_at hfr2 (by omega) ?_
      rw [show E+(bl s E-E)=bl s E by omega]
      refine s_iteE (fun g2 => ?_) (fun g2=>s_leaf ?_)
      · refine s_at hT2 (by omega) (s_leaf ?_)
        rw [if_pos rfl,Nat.zero_add]
        refine ⟨(_,()),rfl,?_,rfl⟩
        by_cases h44:bt s (m:Int)=44
        · rw [h44,decide_eq_true ⟨.inr g2,rfl⟩];rfl
        · rw [beq_eq_false_iff_ne.2 h44,decide_eq_false (fun c=>h44 c.2)];rfl
      · rw [if_pos rfl]
        exact ⟨(false,()),rfl,by rw [decide_eq_false (fun c=>by rcases c.1 with c | c <;> contradiction)];rfl,rfl⟩
  · rintro z w' ⟨rfl,rfl⟩
    refine t31_any hs hT2 (by omega) hE fun z w' h1 h2 => ?_
    refine hQ z w' ?_ (k2.trans h2)
    have e:(if decide ((bt s (bl s E:Int)=125∨bt s (bl s E:Int)=93)∧bt s (m:Int)=44)=true then m else m+1)=(if (bt s (bl s E:Int)=125∨bt s (bl s E:Int)=93)∧bt s (m:Int)=44 then m else m+1):=by
      by_cases g:(bt s (bl s E:Int)=125∨bt s (bl s E:Int)=93)∧bt s (m:Int)=44
      · rw [if_pos (decide_eq_true g),if_pos g]
      · rw [if_neg (by rw [decide_eq_false g];decide),if_neg g]
    rwa [e] at h1
end Go.Proofs.YtlfebfkphgelfaaGreatDoor.Ka
namespace Go.Proofs.YtlfebfkphgelfaaGreatDoor.Ka
open Go Go.Proofs Go.RowKit Rx Tr Pl Pw Sk
open Ed (mkB len_of mkB_size put put_size Hole)
variable {w w':World} {x y q:Sl} {s:ByteArray} {z0 A E so n1 pe iN:Nat}
theorem beq_dec (a b:Int):(a==b)=decide (a=b):=by
  by_cases h:a=b
  · rw [h,decide_eq_true rfl,beq_self_eq_true]
  · rw [decide_eq_false h,beq_eq_false_iff_ne.2 h]
theorem t5_del {Q:Nat→List Value→World→Prop} {v:Sl} {kd sb:Int} {z18v z28v:Value} (hs:s.size≤4000000000) (hT:Tx w x s 0 s.size) (hso:so≤n1) (hsp:so≤pe) (hn:n1≤s.size) (hi:iN<s.size) (hbl:bl s pe<s.size) (hor:bt s (bl s pe:Int)=44∨bt s (bl s pe:Int)=125)
    (hA:bt s (bl s pe:Int)=44→Q 1 [.int .i64 ((bl s pe+1:Nat):Int),.int .i64 (n1:Int)] w)
    (hB:bt s (bl s pe:Int)=125→Q 1 [.int .i64 (pe:Int),.int .i64 ((if bt s (pe:Int)=125∧bt s (iN:Int)=44 then iN else n1:Nat):Int)] w) :
    sat Tryz.prog (jsonparser_deleteFoundConfig.t5 x.1 x.2.1 (so:Int) (((n1-so:Nat):Int),z18v,()) (v,kd,sb,((pe-so:Nat):Int),z28v,()) 0 (iN:Int) (bl s pe:Int) (decide (bt s (pe:Int)=44))) Q w:=by
  have hxl:=hT.len
  have hxc:=hT.cap
  rw [Nat.sub_zero] at hxl
  have hg:=bl_ge s pe
  have eK:IntKind.wrap IntKind.i64 (((n1-so:Nat):Int)+(so:Int))=(n1:Int):=by rw [wad _ _ (by omega),show n1-so+so=n1 by omega]
  have eP:IntKind.wrap IntKind.i64 ((so:Int)+((pe-so:Nat):Int))=(pe:Int):=by rw [wad _ _ (by omega),show so+(pe-so)=pe by omega]
  have eP0:IntKind.wrap IntKind.i64 ((pe:Int)+(0:Int))=(pe:Int):=by rw [Int.add_zero,wrap_in (by omega) (by omega)]
  unfold jsonparser_deleteFoundConfig.t5
  refine s_cut (fun z w'=>(bt s (bl s pe:Int)=44∧z=(((bl s pe+1:Nat):Int),(n1:Int),())∨bt s (bl s pe:Int)=125∧z=((pe:Int),((if bt s (pe:Int)=125∧bt s (iN:Int)=44 then iN else n1:Nat):Int),()))∧w=w') ?_ ?_
  rotate_left
  · rintro z w' ⟨hz,rfl⟩
    rcases hz with ⟨h,rfl⟩ | ⟨h,rfl⟩
    · show sat _ (jsonparser_deleteFoundConfig.t10 ((bl s pe+1:Nat):Int) (n1:Int)) _ _
      unfold jsonparser_deleteFoundConfig.t10
      exact s_leaf (hA h)
    · show sat _ (jsonparser_deleteFoundConfig.t10 (pe:Int) ((if bt s (pe:Int)=125∧bt s (iN:Int)=44 then iN else n1:Nat):Int)) _ _
      unfold jsonparser_deleteFoundConfig.t10
      exact s_leaf (hB h)
  simp only [eK,eP]
  by_cases h44:bt s (pe:Int)=44
  · rw [decide_eq_true h44]
    refine sat_iteT.2 (s_leaf ?_)
    have e:bl s pe=pe:=Gk.bl_self (by rw [h44];rfl)
    have e1:IntKind.wrap IntKind.i64 ((0:Int)+(1:Int))=1:=by decide
    rw [if_pos rfl,e1,wup _ (by omega)]
    refine ⟨(((pe+1:Nat):Int),(n1:Int),()),rfl,.inl ⟨by rw [e];exact h44,by rw [e];rfl⟩,rfl⟩
  · rw [decide_eq_false h44]
    refine sat_iteF.2 ?_
    refine s_cut (fun z w'=>z=(decide (bt s (bl s pe:Int)=44),())∧w=w') (s_iteD (fun _=>s_at hT (by omega) (s_leaf ?_)) (fun g=>absurd (by omega) g)) ?_
    · rw [if_pos rfl,Nat.zero_add,beq_dec];exact ⟨(_,()),rfl,rfl,rfl⟩
    rintro z w' ⟨rfl,rfl⟩
    show sat _ (jsonparser_deleteFoundConfig.t6 x.1 x.2.1 (so:Int) (((n1-so:Nat):Int),z18v,()) (v,kd,sb,((pe-so:Nat):Int),z28v,()) 0 (iN:Int) (bl s pe:Int) (decide (bt s (bl s pe:Int)=44))) _ _
    unfold jsonparser_deleteFoundConfig.t6
    refine s_cut (fun z w'=>(bt s (bl s pe:Int)=44∧z=(((bl s pe+1:Nat):Int),(n1:Int),())∨bt s (bl s pe:Int)=125∧z=((pe:Int),((if bt s (pe:Int)=125∧bt s (iN:Int)=44 then iN else n1:Nat):Int),()))∧w=w') ?_ ?_
    rotate_left
    · rintro z w' ⟨hz,rfl⟩
      show sat _ (jsonparser_deleteFoundConfig.t9 z.1 z.2.1) _ _
      unfold jsonparser_deleteFoundConfig.t9
      refine s_leaf ?_
      rw [if_pos rfl]
      exact ⟨z,rfl,hz,rfl⟩
    simp only [eK,eP,eP0]
    rcases hor with h | h
    · rw [decide_eq_true h]
      refine sat_iteT.2 (s_leaf ?_)
      have e2:IntKind.wrap IntKind.i64 ((bl s pe:Int)-(pe:Int))=((bl s pe-pe:Nat):Int):=wsu _ _ hg (by omega)
      have e3:IntKind.wrap IntKind.i64 (((bl s pe-pe:Nat):Int)+(0:Int))=((bl s pe-pe:Nat):Int):=by rw [Int.add_zero,wrap_in (by omega) (by omega)]
      have e5:IntKind.wrap IntKind.i64 ((pe:Int)+((bl s pe-pe+1:Nat):Int))=((bl s pe+1:Nat):Int):=by rw [wad _ _ (by omega),show pe+(bl s pe-pe+1)=bl s pe+1 by omega]
      rw [if_pos rfl,e2,e3,wup _ (by omega),e5]
      exact ⟨(_,_,()),rfl,.inl ⟨h,rfl⟩,rfl⟩
    · rw [decide_eq_false (by omega : ¬ bt s (bl s pe:Int)=44)]
      refine sat_iteF.2 ?_
      refine s_cut (fun z w'=>z=(decide (bt s (pe:Int)=125∧bt s (iN:Int)=44),())∧w=w') (s_iteD (fun _=>s_at hT (by omega) ?_) (fun g=>absurd (by omega) g)) ?_
      · rw [Nat.zero_add]
        refine s_iteE (fun g=>s_at hT (by omega) (s_leaf ?_)) (fun g=>s_leaf ?_)
        · rw [if_pos rfl,Nat.zero_add,beq_dec]
          have e:decide (bt s (iN:Int)=44)=decide (bt s (pe:Int)=125∧bt s (iN:Int)=44):=by
            by_cases h5:bt s (iN:Int)=44
            · rw [decide_eq_true h5,decide_eq_true ⟨g,h5⟩]
            · rw [decide_eq_false h5,decide_eq_false (fun c=>h5 c.2)]
          exact ⟨(decide (bt s (iN:Int)=44),()),rfl,congrArg (fun b=>(b,())) e,rfl⟩
        · rw [if_pos rfl]
          refine ⟨(false,()),rfl,?_,rfl⟩
          rw [decide_eq_false (fun c=>g c.1)];rfl
      rintro z w' ⟨rfl,rfl⟩
      show sat _ (jsonparser_deleteFoundConfig.t7 (so:Int) (((n1-so:Nat):Int),z18v,()) (v,kd,sb,((pe-so:Nat):Int),z28v,()) (iN:Int) (decide (bt s (pe:Int)=125∧bt s (iN:Int)=44))) _ _
      unfold jsonparser_deleteFoundConfig.t7
      refine s_cut (fun z w'=>z=(((if bt s (pe:Int)=125∧bt s (iN:Int)=44 then iN else n1:Nat):Int),())∧w=w') ?_ ?_
      · simp only [eK]
        by_cases hc:bt s (pe:Int)=125∧bt s (iN:Int)=44
        · rw [decide_eq_true hc,if_pos hc]
          exact sat_iteT.2 (s_leaf (by rw [if_pos rfl];exact ⟨(_,()),rfl,rfl,rfl⟩))
        · rw [decide_eq_false hc,if_neg hc]
          exact sat_iteF.2 (s_leaf (by rw [if_pos rfl];exact ⟨(_,()),rfl,rfl,rfl⟩))
      rintro z w' ⟨rfl,rfl⟩
      show sat _ (jsonparser_deleteFoundConfig.t8 (so:Int) (v,kd,sb,((pe-so:Nat):Int),z28v,()) ((if bt s (pe:Int)=125∧bt s (iN:Int)=44 then iN else n1:Nat):Int)) _ _
      unfold jsonparser_deleteFoundConfig.t8
      refine s_leaf ?_
      have eP':IntKind.wrap IntKind.i64 ((so:Int)+((((v,kd,sb,((pe-so:Nat):Int),z28v,()):((Option Addr)×(Nat×Nat))×(Int×(Int×(Int×(Value×PUnit))))).2).2).2.1)=(pe:Int):=eP
      rw [if_pos rfl,eP']
      exact ⟨(_,_,()),rfl,.inr ⟨h,rfl⟩,rfl⟩
theorem t4_del {Q:Nat→List Value→World→Prop} {v:Sl} {kd sb:Int} {z18v z28v:Value} (hs:s.size≤4000000000) (hT:Tx w x s 0 s.size) (hso:so≤n1) (hsp:so≤pe) (hn:n1≤s.size) (hi:iN<s.size) (hbl:bl s pe<s.size) (hor:bt s (bl s pe:Int)=44∨bt s (bl s pe:Int)=125)
    (hA:bt s (bl s pe:Int)=44→Q 1 [.int .i64 ((bl s pe+1:Nat):Int),.int .i64 (n1:Int)] w)
    (hB:bt s (bl s pe:Int)=125→Q 1 [.int .i64 (pe:Int),.int .i64 ((if bt s (pe:Int)=125∧bt s (iN:Int)=44 then iN else n1:Nat):Int)] w) :
    sat Tryz.prog (.loop 2 (.cons (.int .i64) .nil) [(Value.int IntKind.i64 (pe:Int))]
          (fun z=>jsonparser_deleteFoundConfig.t4 x.1 x.2.1 (so:Int) (((n1-so:Nat):Int),z18v,()) (v,kd,sb,((pe-so:Nat):Int),z28v,()) 0 (iN:Int) z.1)) Q w:=by
  have hxl:=hT.len
  have hxc:=hT.cap
  rw [Nat.sub_zero] at hxl
  have hg:=bl_ge s pe
  have eP:IntKind.wrap IntKind.i64 ((so:Int)+((pe-so:Nat):Int))=(pe:Int):=by rw [wad _ _ (by omega),show so+(pe-so)=pe by omega]
  have eP0:IntKind.wrap IntKind.i64 ((pe:Int)+(0:Int))=(pe:Int):=by rw [Int.add_zero,wrap_in (by omega) (by omega)]
  refine s_loop (fun m z w' => ∃ j:Nat,m=s.size-j∧z=((j:Int),())∧pe≤j∧j≤bl s pe∧w=w') (s.size-pe) ((pe:Int),()) rfl ⟨pe,rfl,rfl,Nat.le_refl _,hg,rfl⟩ ?_
  rintro m z w1 ⟨j,rfl,rfl,hj,hjb,rfl⟩
  show sat _ (jsonparser_deleteFoundConfig.t4 x.1 x.2.1 (so:Int) (((n1-so:Nat):Int),z18v,()) (v,kd,sb,((pe-so:Nat):Int),z28v,()) 0 (iN:Int) (j:Int)) _ _
  unfold jsonparser_deleteFoundConfig.t4
  simp only [eP,eP0]
  refine s_iteD (fun _=>s_at hT (by omega) ?_) (fun g=>absurd (by omega) g)
  rw [Nat.zero_add]
  refine s_call ws_any ?_
  rintro en w2 ⟨rfl,hw⟩
  have hw:=hw.symm
  subst hw
  refine ⟨isB (bt s (j:Int)),rfl,?_⟩
  cases hB0:isB (bt s (j:Int)) with
  | true=>
    have:j<bl s pe:=by
      rcases Nat.lt_or_ge j (bl s pe) with g | g
      · exact g
      · have:j=bl s pe:=by omega
        subst this
        rw [bl_not] at hB0;cases hB0
    refine sat_iteT.2 (s_leaf ?_)
    rw [if_pos rfl,wup _ (by omega)]
    exact ⟨s.size-(j+1),(((j+1:Nat):Int),()),rfl,by omega,j+1,rfl,rfl,by omega,by omega,rfl⟩
  | false=>
    have:j=bl s pe:=by
      rcases Nat.lt_or_ge j (bl s pe) with g | g
      · rw [bl_blank s pe j hj g] at hB0;cases hB0
      · omega
    subst this
    refine sat_iteF.2 ?_
    refine s_cut (fun z w'=>z=(decide (bt s (pe:Int)=44),())∧w=w') (s_iteD (fun _=>s_at hT (by omega) (s_leaf ?_)) (fun g=>absurd (by omega) g)) ?_
    · rw [if_pos rfl,Nat.zero_add,beq_dec];exact ⟨(_,()),rfl,rfl,rfl⟩
    rintro z w' ⟨rfl,rfl⟩
    refine t5_del hs hT hso hsp hn hi hbl hor (fun h => ?_) (fun h => ?_)
    · rw [if_neg (by decide)];exact hA h
    · rw [if_neg (by decide)];exact hB h
theorem one_key (k:ByteArray) : ∃ w1,(Instr.buildSlice 22 1 #[(0,.string k)]).run Tryz.prog w = .ok (.slice (some ⟨w.heap.size,0,none⟩) 1 1) w1∧Kx w1 (some ⟨w.heap.size,0,none⟩,1,1) [k]∧Kp Off w w1:=by
  obtain ⟨i,hi⟩ : ∃ i,Tryz.prog.info? 9=some i:=⟨_,info_some (by kernel_rfl)⟩
  have hp:(Tryz.prog.info? 9).map (fun i=>(i.zero,i.size,i.bytes))=some (some (.string (ByteArray.mk #[])),1,16):=by kernel_rfl
  rw [hi] at hp
  simp only [Option.map_some,Option.some.injEq,Prod.mk.injEq] at hp
  obtain ⟨hz,hsz,hby⟩:=hp
  obtain ⟨r,hr,hrs,hrk⟩:=Great.fill_dense (by omega:0<i.size) [Value.string k] 0 ((Array.range (1 * i.size)).map ((Value.string (ByteArray.mk #[])).cells[· % (Value.string (ByteArray.mk #[])).cells.size]!)) (fun u hu=>by simp at hu;subst hu;rw [hsz];rfl) (by simp)
  have hr2:r = #[.string k]:=by
    apply Array.ext_getElem?
    intro j
    rw [hrk j]
    simp only [Nat.zero_mul,Nat.zero_le,true_and,List.length_cons,List.length_nil,Nat.zero_add,Nat.one_mul]
    by_cases hk:j<i.size
    · have:j=0:=by omega
      subst this
      rw [if_pos hk]
      simp [Value.cells]
    · rw [if_neg hk]
      simp
      rw [Array.getElem?_eq_none (by simp;omega),List.getElem?_eq_none (by simp;omega)]
      rfl
  subst hr2
  have hb:=run_buildSlice (P:=Tryz.prog) w 22 9 1 #[(0,.string k)] #[.string k] i (.string (ByteArray.mk #[])) Tryz.underlying22 hi hz (by omega) (by omega) (by simpa using hr)
  refine ⟨_,hb,⟨rfl,Nat.le_refl _,.inr ⟨w.heap.size,0,rfl,by simp,fun j key hj => ?_⟩⟩,(Kp.refl Off w).alloc _⟩
  cases j with
  | zero=>
    simp only [List.getElem?_cons_zero,Option.some.injEq] at hj
    subst hj
    exact (Blk.new w [.string k] 9).cell 0
  | succ j=>simp at hj
end Go.Proofs.YtlfebfkphgelfaaGreatDoor.Ka
namespace Go.Proofs.YtlfebfkphgelfaaGreatDoor.Ka
open Go Go.Proofs Go.RowKit Rx Tr Pl Pw Sk
open Ed (put put_size Hole Ctx sh mvP mvL mvP_e obj_own Ag)
open Fk (F F.obj)
open Gk (Lead)
variable {w w':World} {x y q:Sl} {s:ByteArray} {z0:Nat}
structure DelC (s:ByteArray) (p0:PT) (ks1:List ByteArray) (k:ByteArray) (b r:Nat) (ns:List (Nat×Nat)) (ks:List PT) (t:Nat) (n:Nat×Nat) (p:PT) (f:Bool) (jt:Nat):Prop where
  led:Led s p0 ks1 (.mk 6 b r ns ks)
  h1:ns[t]?=some n
  h2:ks[t]?=some p
  hk:nmS s n=k
  fst : ∀ (t':Nat) (n':Nat×Nat),t'<t→ns[t']?=some n'→nmS s n'≠k
  ctx:Ctx s n p (ks.drop (t+1)) r f jt
  ft:f=true→jt=b+1
  ff:f=false → ∃ q:PT,WfV s q∧q.e=jt∧b+1<q.e
variable {p0 p:PT} {ks1:List ByteArray} {k:ByteArray} {b r t jt:Nat} {ns:List (Nat×Nat)} {ks:List PT} {n:Nat×Nat} {f:Bool} {so eo:Nat}
theorem DelC.dims (h:DelC s p0 ks1 k b r ns ks t n p f jt):b<r∧r≤s.size∧bt s (b:Int)=123∧b<jt∧jt≤n.1∧n.1<p.e∧p.e<r∧bl s p.e<r:=by
  obtain ⟨w1,w2,w3,w4⟩:=Gk.wf_obj h.led.wfp
  have ho:=h.ctx.ord
  refine ⟨w1,w2,w3,?_,ho.1,by omega,by omega,?_⟩
  · cases hf:f with
    | true=>have:=h.ft hf;omega
    | false=>obtain ⟨q,_,h2,h3⟩:=h.ff hf;omega
  · by_cases hr:ks.drop (t+1)=[]
    · have:=(h.ctx.lst hr).2;omega
    · obtain ⟨_,_,h3⟩:=h.ctx.nxt hr
      have:=bl_ge s (bl s p.e+1)
      omega
theorem DelC.pv (h:DelC s p0 ks1 k b r ns ks t n p f jt) : ∃ m,m=(if f then b else bl s jt)∧m<n.1∧isB (bt s (m:Int))=false∧(∀ j,m<j→j<n.1→isB (bt s (j:Int))=true)∧bt s (m:Int)=(if f then 123 else 44)∧jt≤m+1:=by
  obtain ⟨d1,d2,d3,d4,d5,d6,d7,d8⟩:=h.dims
  have hp:=h.ctx.pre
  cases hf:f with
  | true=>
    have hj:=h.ft hf
    rw [hf] at hp
    have hp:n.1=bl s jt:=hp
    refine ⟨b,rfl,by omega,by rw [d3];rfl,fun j g1 g2=>bl_blank s jt j (by omega) (by omega),d3,by omega⟩
  | false=>
    rw [hf] at hp
    obtain ⟨c1,c2⟩:bt s (bl s jt:Int)=44∧n.1=bl s (bl s jt+1):=hp
    have g1:=bl_ge s jt
    have g2:=bl_ge s (bl s jt+1)
    refine ⟨bl s jt,rfl,by omega,by rw [c1];rfl,fun j g3 g4=>bl_blank s (bl s jt+1) j (by omega) (by omega),c1,by omega⟩
theorem DelC.sub (h:DelC s p0 ks1 k b r ns ks t n p f jt) (hso:(ks1=[]∧so=0∧eo=s.size)∨(ks1≠[]∧so=b∧eo=r)) :
    ∃ u0 uq,Led (s.extract so eo) u0 [k] uq∧uq.e=p.e-so∧F (s.extract so eo) (nmS (s.extract so eo)) k (s.extract so eo).size (bl (s.extract so eo) 0+1) (n.1-so)∧bt (s.extract so eo) (bl (s.extract so eo) 0:Int)=123∧so≤n.1∧so≤eo∧eo≤s.size∧so≤p.e:=by
  obtain ⟨d1,d2,d3,d4,d5,d6,d7,d8⟩:=h.dims
  rcases hso with ⟨rfl,rfl,rfl⟩ | ⟨hne,rfl,rfl⟩
  · have e:s.extract 0 s.size=s:=by
      apply ByteArray.ext
      show (s.extract 0 s.size).data=s.data
      rw [ByteArray.data_extract]
      exact Array.extract_size
    rw [e]
    have hl:=h.led.lead
    cases hl
    have h0:=h.led.at0
    have h0:bl s 0=b:=h0
    refine ⟨.mk 6 b r ns ks,p,⟨h.led.at0,h.led.wf,h.led.fin,.mem h.h1 h.h2 h.hk h.fst .nil⟩,rfl,?_,by rw [h0];exact d3,Nat.zero_le _,Nat.zero_le _,Nat.le_refl _,Nat.zero_le _⟩
    rw [h0,Nat.sub_zero]
    exact F.obj h.led.wf d2 h.h1 h.hk h.fst
  · obtain ⟨a1,a2,a3,a4⟩:=obj_own h.led.wfp
    have hb0:bl (s.extract so eo) 0=0:=Ka.wf_first a3
    have hn:(ns.map fun n=>(sh so 0 n.1,sh so 0 n.2))[t]?=some (sh so 0 n.1,sh so 0 n.2):=by rw [List.getElem?_map,h.h1];rfl
    have hm:n ∈ ns:=List.mem_of_getElem? h.h1
    have hfst : ∀ (t':Nat) (n':Nat×Nat),t'<t→(ns.map fun n=>(sh so 0 n.1,sh so 0 n.2))[t']?=some n'→nmS (s.extract so eo) n'≠k:=by
      intro t' n' ht hn'
      rw [List.getElem?_map] at hn'
      obtain ⟨m,h3,rfl⟩:=Option.map_eq_some_iff.1 hn'
      rw [a4 m (List.mem_of_getElem? h3)]
      exact h.fst t' m ht h3
    have hkk:nmS (s.extract so eo) (sh so 0 n.1,sh so 0 n.2)=k:=by rw [a4 n hm];exact h.hk
    refine ⟨.mk 6 0 (s.extract so eo).size (ns.map fun n=>(sh so 0 n.1,sh so 0 n.2)) (mvL so 0 ks),mvP so 0 p,⟨hb0,a3,?_,.mem hn (by rw [Ed.mvL_get,h.h2];rfl) hkk hfst .nil⟩,by rw [mvP_e];rfl,?_,?_,by omega,by omega,d2,by omega⟩
    · show bl (s.extract so eo) (s.extract so eo).size=(s.extract so eo).size
      exact Gk.bl_self (by rw [bt_end (Nat.le_refl _)];rfl)
    · rw [hb0]
      have:=F.obj (e:=(s.extract so eo).size) a3 (Nat.le_refl _) hn hkk hfst
      exact this
    · rw [hb0]
      have:=(Gk.wf_obj a3).2.2.1
      exact this
theorem first_byte {p:PT} (h:WfV s p):bt s (p.b:Int)≠44:=by
  obtain ⟨k,b,e',ns,ks⟩:=p
  have hlt:=h.lt
  have hlt1:b<e':=hlt.1
  show bt s (b:Int)≠44
  unfold WfV at h
  obtain ⟨_,_,⟨rfl,rfl,hL,h⟩ | ⟨rfl,rfl,rfl,h1,h2⟩ | ⟨rfl,rfl,h1,h2⟩ | ⟨rfl,h1,h2⟩⟩:=h
  · have h0:=isL_iff.1 (hL b (Nat.le_refl _) hlt1)
    omega
  · omega
  · omega
  · omega
theorem s_keyI {Q:Nat→List Value→World→Prop} {K:Sh.str.Ty→T} {j:Nat} {c:Int} {key:ByteArray} {keys:List ByteArray} (h:Kx w q keys) (hc:c=(j:Int)) (hj:keys[j]?=some key) (hK:sat Tryz.prog (K key) Q w) :
    sat Tryz.prog (.chk (((0:Int)≤c)∧(c<((q.2.1:Nat):Int))) <| .ptr q.1 fun z => .load (Addr.add z ((Int.toNat c) * 1)) .str K) Q w:=by
  subst hc;exact s_key h hj hK
theorem eql_nil (a:Addr) (x y:Operand) (w:World):(Bind.bind (eqGuard BinOp.eql 61 x y Value.nilIface (.iface tPE (.pointer (some a)))) (fun (_:Unit)=>(binOp BinOp.eql 61 Value.nilIface (.iface tPE (.pointer (some a))))):Sem Value).run Tryz.prog w = .ok (.bool false) w:=by
  have h:=run_eql_iface_nil_left (P:=Tryz.prog) (ti:=61) w tPE (.pointer (some a)) Tryz.underlying61
  simpa [eqGuard] using h
theorem t3_del {Q:Nat→List Value→World→Prop} {a:Addr} (hs:s.size≤4000000000) (h:DelC s p0 ks1 k b r ns ks t n p f jt) (hL:Je.Lt w) (hE:Je.Ev w Je.gE) (hk:Ek w a) (hT:Tx w x s 0 s.size) (hKx:Kx w q (ks1++[k])) (hC:Blk w z0 (cfC 0) tCf) (hkz:k.size≤8000000000) (hks : ∀ j,j<k.size→Ut.bn k j≠92) (hkl:ks1.length≤2147483647)
    (hso:(ks1=[]∧so=0∧eo=s.size)∨(ks1≠[]∧so=b∧eo=r))
    (hQ : ∀ (E KO:Nat) (w':World),Kp Off w w'→(bt s (bl s p.e:Int)=44∧E=bl s p.e+1∧KO=n.1∨bt s (bl s p.e:Int)=125∧E=p.e∧KO=if bt s (p.e:Int)=125∧f=false then bl s jt else n.1)→Q 1 [.int .i64 (E:Int),.int .i64 (KO:Int)] w') :
    sat Tryz.prog (jsonparser_deleteFoundConfig.t3 x.1 x.2.1 x.2.2 q.1 q.2.1 ⟨z0,0,none⟩ (so:Int) (eo:Int)) Q w:=by
  obtain ⟨d1,d2,d3,d4,d5,d6,d7,d8⟩:=h.dims
  obtain ⟨m,hm,m1,m2,m3,m4,m5⟩:=h.pv
  obtain ⟨u0,uq,s1,s2,s3,s4,s5,s6,s7,s8⟩:=h.sub hso
  have hxl:=hT.len
  have hxc:=hT.cap
  have hql:=hKx.len
  rw [Nat.sub_zero] at hxl
  rw [List.length_append,List.length_singleton] at hql
  have hkey:(ks1++[k])[ks1.length]?=some k:=by rw [List.getElem?_append_right (Nat.le_refl _),Nat.sub_self];rfl
  have eI:IntKind.wrap IntKind.i64 (((q.2.1:Nat):Int)-(1:Int))=(ks1.length:Int):=by rw [wrap_in (by omega) (by omega)];omega
  have huz:(s.extract so eo).size=eo-so:=by rw [ByteArray.size_extract];omega
  have hg:=bl_ge s p.e
  unfold jsonparser_deleteFoundConfig.t3
  refine s_drew ?_
  have kd:Kp Off w w.drew:=(Kp.refl Off w).drew
  have C1:=kd.blk hC id
  generalize w.drew=w1 at kd C1
  refine ⟨(false,false,(0:Int),()),fun w'' hw''=>cfg_run ((Kp.of_below (S:=Off) hw'').blk C1 id),?_⟩
  refine s_chk ⟨by omega,by omega,by omega⟩ (s_keyI (hKx.kp kd) eI hkey ?_)
  rw [Int.toNat_natCast,Int.toNat_natCast]
  have hsub:=(hT.kp kd).sub (k:=so) (f:=eo) (Nat.zero_le _) s6 s7
  rw [Nat.sub_zero] at hsub
  have hfk:=fk_any (r:=n.1-so) (by omega) (hL.off' kd) (hE.kp kd id) hsub.own rfl s4 s3 hkz hks
  refine s_call hfk ?_
  rintro en w2 ⟨rfl,k2⟩
  have K2:=kd.trans k2
  refine ⟨(((n.1-so:Nat):Int),Value.nilIface,()),rfl,?_⟩
  refine s_load (.iface tPE (.pointer (some a))) (hk.kp K2) ?_
  refine s_eff (w':=w2) false (eql_nil a _ _ w2) (sat_iteF.2 (s_drew ?_))
  have kd3:Kp Off w2 w2.drew:=(Kp.refl Off w2).drew
  have K3:=K2.trans kd3
  have C3:=kd3.blk (k2.blk C1 id) id
  generalize w2.drew=w3 at kd3 K3 C3
  refine ⟨(false,false,(0:Int),()),fun w'' hw''=>cfg_run ((Kp.of_below (S:=Off) hw'').blk C3 id),?_⟩
  refine s_chk ⟨by omega,by omega,by omega⟩ (s_keyI (hKx.kp K3) eI hkey (s_hereK ?_))
  obtain ⟨w4,hb4,hK4,k4⟩:=one_key (w:=w3) k
  refine s_eff (some ⟨w3.heap.size,0,none⟩,1,1) hb4 ⟨k4.belowOff,?_⟩
  have K4:=K3.trans k4
  have hsub4:=(hT.kp K4).sub (k:=so) (f:=eo) (Nat.zero_le _) s6 s7
  rw [Nat.sub_zero] at hsub4
  have hgk:=getK_any (by omega) (hL.off' K4) (hE.kp K4 id) hsub4.own hK4 s1
  refine s_call hgk ?_
  rintro en w5 ⟨v,rfl,_,_,k5⟩
  have K5:=K4.trans k5
  have T5:=hT.kp K5
  refine ⟨(v,jk uq.k,((uq.b-0:Nat):Int),((uq.e-0:Nat):Int),Value.nilIface,()),rfl,s_chk rfl (sat_iteF.2 ?_)⟩
  rw [Nat.sub_zero,Nat.sub_zero,s2]
  have eP:IntKind.wrap IntKind.i64 ((so:Int)+((p.e-so:Nat):Int))=(p.e:Int):=by rw [wad _ _ (by omega),show so+(p.e-so)=p.e by omega]
  have eK:IntKind.wrap IntKind.i64 (((n.1-so:Nat):Int)+(so:Int))=(n.1:Int):=by rw [wad _ _ (by omega),show n.1-so+so=n.1 by omega]
  simp only [eP,eK]
  refine s_chk ⟨by omega,by omega,by omega⟩ ?_
  rw [Int.toNat_natCast,Int.toNat_natCast]
  have hfr:=T5.from p.e (by omega)
  rw [Nat.zero_add] at hfr
  have hor:bt s (bl s p.e:Int)=44∨bt s (bl s p.e:Int)=125:=by
    by_cases hr:ks.drop (t+1)=[]
    · exact .inr (h.ctx.lst hr).1
    · exact .inl (h.ctx.nxt hr).1
  have hisE:isE (bt s (p.e:Int)):=by
    rcases Nat.lt_or_ge p.e (bl s p.e) with g | g
    · have:=isB_or (bl_blank s p.e p.e (Nat.le_refl _) g)
      unfold isE;omega
    · have e:bl s p.e=p.e:=by omega
      rw [e] at hor
      unfold isE;omega
  have htk:=tokenEnd_any (f:=p.e) hfr (by omega) (Nat.le_refl _) (by omega) (fun j g1 g2=>by omega) (.inr hisE)
  rw [Nat.sub_self] at htk
  refine s_call htk ?_
  rintro en w6 ⟨rfl,hw⟩
  have hw:=hw.symm
  subst hw
  refine ⟨((0:Nat):Int),rfl,s_drew ?_⟩
  have kd7:Kp Off w5 w5.drew:=(Kp.refl Off w5).drew
  have K7:=K5.trans kd7
  have T7:=hT.kp K7
  generalize w5.drew=w7 at kd7 K7 T7
  have hsb:=T7.sub (k:=0) (f:=n.1) (Nat.le_refl _) (Nat.zero_le _) (by omega)
  refine s_chk ⟨by omega,by omega,by omega⟩ (s_chk ⟨by omega,by omega⟩ ?_)
  have hft:=fts_any (c:=m) (by omega) (show Tx w7 ((if x.2.2=0 then x.1 else x.1.map fun y=>y.add 0),n.1-0,x.2.2-0) s 0 n.1 from hsb) m1 (by rw [m4];cases f <;> simp) m3
  rw [Int.toNat_natCast]
  refine s_call hft ?_
  rintro en w8 ⟨rfl,hw⟩
  have hw:=hw.symm
  subst hw
  obtain ⟨iN,hiN,hiz,hi44⟩ : ∃ iN:Nat,(if bt s (m:Int)=44 then (m:Int) else 0)=(iN:Int)∧iN<s.size∧(f=false∧iN=bl s jt∧bt s (iN:Int)=44∨f=true∧bt s (iN:Int)≠44):=by
    cases hf:f with
    | true=>
      rw [hf] at m4
      have m4:bt s (m:Int)=123:=m4
      refine ⟨0,by rw [if_neg (by omega)];rfl,by omega,.inr ⟨rfl,?_⟩⟩
      have h0:=h.led.at0
      have hw0:=h.led.wf
      rcases Nat.eq_zero_or_pos (bl s 0) with g | g
      · have g1:p0.b=0:=by omega
        have:=first_byte hw0
        rw [g1] at this
        exact this
      · have:=isB_or (bl_blank s 0 0 (Nat.le_refl _) g)
        show bt s ((0:Nat):Int)≠44
        omega
    | false=>
      rw [hf] at m4 hm
      have m4:bt s (m:Int)=44:=m4
      have hm:m=bl s jt:=hm
      exact ⟨m,by rw [if_pos m4],by omega,.inl ⟨rfl,hm,m4⟩⟩
  refine ⟨(iN:Int),by rw [hiN];rfl,?_⟩
  have eP0:IntKind.wrap IntKind.i64 ((p.e:Int)+((0:Nat):Int))=(p.e:Int):=by rw [wad _ _ (by omega)];rfl
  have eP1:IntKind.wrap IntKind.i64 ((p.e:Int)+(0:Int))=(p.e:Int):=eP0
  refine s_iteD (fun g => ?_) (fun _ => ?_)
  · exfalso
    have g:IntKind.wrap IntKind.i64 ((p.e:Int)+((0:Nat):Int)) ≥ ((x.2.1:Nat):Int):=g
    rw [eP0] at g
    omega
  have hfin:=t4_del (Q:=Q) (v:=v) (kd:=jk uq.k) (sb:=((uq.b:Nat):Int)) (z18v:=Value.nilIface) (z28v:=Value.nilIface) (n1:=n.1) (pe:=p.e) (iN:=iN) (so:=so) (by omega) T7 s5 s8 (by omega) hiz (by omega) hor
    (fun g=>hQ _ _ w7 K7 (.inl ⟨g,rfl,rfl⟩)) (fun g=>hQ _ _ w7 K7 (.inr ⟨g,rfl,?_⟩))
  · show sat _ (.loop 2 _ [(Value.int IntKind.i64 (IntKind.wrap IntKind.i64 ((p.e:Int)+((0:Nat):Int))))] _) Q w7
    rw [eP0]
    exact hfin
  · rcases hi44 with ⟨hf,e1,e2⟩ | ⟨hf,e2⟩
    · by_cases g1:bt s (p.e:Int)=125
      · rw [if_pos ⟨g1,e2⟩,if_pos ⟨g1,hf⟩,e1]
      · rw [if_neg (fun c=>g1 c.1),if_neg (fun c=>g1 c.1)]
    · rw [if_neg (fun c=>e2 c.2),if_neg (fun c=>by rw [hf] at c;cases c.2)]
theorem t30_del {Q:Nat→List Value→World→Prop} {E KO:Nat} (hs:s.size≤4000000000) (h:DelC s p0 ks1 k b r ns ks t n p f jt) (hT:Tx w x s 0 s.size) (hC:Blk w z0 (cfC 0) tCf)
    (hEK:bt s (bl s p.e:Int)=44∧E=bl s p.e+1∧KO=n.1∨bt s (bl s p.e:Int)=125∧E=p.e∧KO=if bt s (p.e:Int)=125∧f=false then bl s jt else n.1)
    (hQ : ∀ (z:Sl) (A E:Nat) (w':World),Hole s f jt (ks.drop (t+1)) p A E→A≤E→E≤s.size→Tx w' z (put s A E (ByteArray.mk #[])) 0 (put s A E (ByteArray.mk #[])).size→Kp Off w w'→Q 0 [slV z,.bool true] w') :
    sat Tryz.prog (jsonparser_deleteFoundConfig.t30 x.1 x.2.1 x.2.2 ⟨z0,0,none⟩ (E:Int) (KO:Int)) Q w:=by
  obtain ⟨d1,d2,d3,d4,d5,d6,d7,d8⟩:=h.dims
  obtain ⟨m,hm,m1,m2,m3,m4,m5⟩:=h.pv
  have hg:=bl_ge s p.e
  have hgj:=bl_ge s jt
  rcases hEK with ⟨h44,rfl,rfl⟩ | ⟨h125,rfl,rfl⟩
  · have hr:ks.drop (t+1)≠[]:=fun e=>by have:=(h.ctx.lst e).1;omega
    obtain ⟨_,e1,e2⟩:=h.ctx.nxt hr
    refine t30_any hs hT hC m1 (by omega) (by omega) m2 m3 (by omega) fun z w' h1 h2 => ?_
    rw [if_neg (by rw [e1];intro c;rcases c.1 with c | c <;> omega)] at h1
    refine hQ z (m+1) _ w' (.inl ⟨hr,rfl,?_⟩) (by omega) (by omega) h1 h2
    cases hf:f with
    | true=>rw [hf] at hm;have:=h.ft hf;have hm:m=b:=hm;show m+1=jt;omega
    | false=>rw [hf] at hm;have hm:m=bl s jt:=hm;show m+1=bl s jt+1;omega
  · have hr:ks.drop (t+1)=[]:=by
      by_cases hr:ks.drop (t+1)=[]
      · exact hr
      · have:=(h.ctx.nxt hr).1;omega
    cases hf:f with
    | true=>
      have hj:=h.ft hf
      rw [hf] at hm m4
      have hm:m=b:=hm
      have m4:bt s (m:Int)=123:=m4
      rw [if_neg (fun c=>by cases c.2)]
      refine t30_any hs hT hC m1 (by omega) (by omega) m2 m3 (by omega) fun z w' h1 h2 => ?_
      rw [if_neg (fun c=>by have:=c.2;omega)] at h1
      refine hQ z (m+1) _ w' (.inr ⟨hr,rfl,?_⟩) (by omega) (by omega) h1 h2
      rw [hf]
      show m+1=jt
      omega
    | false=>
      rw [hf] at hm m4
      have hm:m=bl s jt:=hm
      have m4:bt s (m:Int)=44:=m4
      obtain ⟨qq,q1,q2,q3⟩:=h.ff hf
      obtain ⟨l1,l2,l3⟩:=Ed.last_byte q1
      rw [q2] at l1 l2 l3
      by_cases g1:bt s (p.e:Int)=125
      · rw [if_pos ⟨g1,rfl⟩]
        refine t30_any (m:=jt-1) hs hT hC (by omega) (by omega) (by omega) l2 (fun j g2 g3=>bl_blank s jt j (by omega) g3) (by omega) fun z w' h1 h2 => ?_
        rw [if_neg (fun c=>l3 c.2),show jt-1+1=jt by omega] at h1
        refine hQ z jt _ w' (.inr ⟨hr,rfl,?_⟩) (by omega) (by omega) h1 h2
        rw [hf]
        show jt≤jt∧jt≤bl s jt
        omega
      · rw [if_neg (fun c=>g1 c.1)]
        refine t30_any hs hT hC m1 (by omega) (by omega) m2 m3 (by omega) fun z w' h1 h2 => ?_
        rw [if_pos ⟨.inl h125,m4⟩] at h1
        refine hQ z m _ w' (.inr ⟨hr,rfl,?_⟩) (by omega) (by omega) h1 h2
        rw [hf]
        show jt≤m∧m≤bl s jt
        omega
theorem deleteFound_any {a:Addr} (hs:s.size≤4000000000) (h:DelC s p0 ks1 k b r ns ks t n p f jt) (hL:Je.Lt w) (hE:Je.Ev w Je.gE) (hk:Ek w a) (hT:Tx w x s 0 s.size) (hKx:Kx w q (ks1++[k])) (hkz:k.size≤8000000000) (hks : ∀ j,j<k.size→Ut.bn k j≠92) (hk91:0<k.size→bt k 0≠91) (hkl:ks1.length≤2147483647) :
    Calls Tryz.prog 47 #[cfg 0,slV x,slV q] w fun en w' => ∃ (z:Sl) (A E:Nat),en = .returned (.tuple #[slV z,.bool true])∧Hole s f jt (ks.drop (t+1)) p A E∧A≤E∧E≤s.size∧Tx w' z (put s A E (ByteArray.mk #[])) 0 (put s A E (ByteArray.mk #[])).size∧Kp Off w w':=by
  have hxl:=hT.len
  have hxc:=hT.cap
  have hql:=hKx.len
  have hqc:=hKx.cap
  rw [Nat.sub_zero] at hxl
  rw [List.length_append,List.length_singleton] at hql
  have hkey:(ks1++[k])[ks1.length]?=some k:=by rw [List.getElem?_append_right (Nat.le_refl _),Nat.sub_self];rfl
  have eI:IntKind.wrap IntKind.i64 (((q.2.1:Nat):Int)-(1:Int))=(ks1.length:Int):=by rw [wrap_in (by omega) (by omega)];omega
  refine jsonparser_deleteFoundConfig.calls _ _ _ _ _ _ _ _ _ ?_
  unfold jsonparser_deleteFoundConfig.t
  refine s_alloc ?_
  have b0:=Blk.new w (cfC 0) tCf
  have k0:Kp Off w (w.alloc (.cells (cfC 0).toArray tCf (0,0))):=(Kp.refl Off w).alloc _
  show sat _ _ _ (w.alloc (.cells (cfC 0).toArray tCf (0,0)))
  generalize w.alloc (.cells (cfC 0).toArray tCf (0,0))=w1 at k0 b0
  refine s_iteE (fun g=>absurd g (by omega)) (fun _ => ?_)
  have hK1:=hKx.kp k0
  refine s_cut (fun z w'=>z=(false,())∧w1=w') ?_ ?_
  · refine s_keyI hK1 eI hkey (s_iteD (fun g=>s_keyI hK1 eI hkey (s_chk ⟨by omega,by omega⟩ ?_)) (fun _=>s_leaf (by rw [if_pos rfl];exact ⟨(false,()),rfl,rfl,rfl⟩)))
    refine s_eff (w':=w1) (Utf8.encode (bt k (0:Int))) (conv_ch w1) (s_leaf ?_)
    have hr:=bt_range k (0:Int)
    have:=enc_not (bt k (0:Int)).toNat (by omega) (by have:=hk91 (by omega);omega)
    rw [Int.toNat_of_nonneg hr.1] at this
    rw [if_pos rfl,this]
    exact ⟨(false,()),rfl,rfl,rfl⟩
  rintro z w' ⟨rfl,rfl⟩
  show sat _ (jsonparser_deleteFoundConfig.t1 x.1 x.2.1 x.2.2 q.1 q.2.1 q.2.2 ⟨w.heap.size,0,none⟩ false) _ _
  unfold jsonparser_deleteFoundConfig.t1
  refine s_cut (fun z w'=>z=(false,())∧w1=w') (sat_iteF.2 (s_leaf (by rw [if_pos rfl];exact ⟨(false,()),rfl,rfl,rfl⟩))) ?_
  rintro z w' ⟨rfl,rfl⟩
  show sat _ (jsonparser_deleteFoundConfig.t2 x.1 x.2.1 x.2.2 q.1 q.2.1 q.2.2 ⟨w.heap.size,0,none⟩ false) _ _
  unfold jsonparser_deleteFoundConfig.t2
  refine s_cut (fun z w' => ∃ E KO:Nat,z=((E:Int),(KO:Int),())∧Kp Off w w'∧Blk w' w.heap.size (cfC 0) tCf∧(bt s (bl s p.e:Int)=44∧E=bl s p.e+1∧KO=n.1∨bt s (bl s p.e:Int)=125∧E=p.e∧KO=if bt s (p.e:Int)=125∧f=false then bl s jt else n.1)) ?_ ?_
  rotate_left
  · rintro z w' ⟨E,KO,rfl,k2,c2,hEK⟩
    exact t30_del hs h (hT.kp k2) c2 hEK fun z A E w' h1 h2 h3 h4 h5=>⟨rfl,z,A,E,rfl,h1,h2,h3,h4,k2.trans h5⟩
  refine sat_iteT.2 ?_
  refine s_cut (fun z w' => ∃ so eo:Nat,z=((so:Int),(eo:Int),())∧Kp Off w w'∧Blk w' w.heap.size (cfC 0) tCf∧((ks1=[]∧so=0∧eo=s.size)∨(ks1≠[]∧so=b∧eo=r))) ?_ ?_
  · refine s_iteD (fun g=>s_drew ?_) (fun g=>s_leaf ?_)
    · have hne:ks1≠[]:=fun e=>by rw [e] at hql;simp at hql;omega
      have kd:Kp Off w1 w1.drew:=(Kp.refl Off w1).drew
      have C2:=kd.blk b0 id
      have K2:=k0.trans kd
      generalize w1.drew=w2 at kd C2 K2
      refine ⟨(false,false,(0:Int),()),fun w'' hw''=>cfg_run ((Kp.of_below (S:=Off) hw'').blk C2 id),?_⟩
      simp only [eI]
      refine s_chk ⟨Int.le_refl 0,by omega,by omega⟩ ?_
      have htk:=Kx.take0 (hKx.kp K2) ks1.length (by rw [List.length_append];omega)
      rw [List.take_left] at htk
      have hgk:=getK_any (by omega) (hL.off' K2) (hE.kp K2 id) (hT.kp K2) htk h.led
      refine s_call hgk ?_
      rintro en w3 ⟨v,rfl,_,_,k3⟩
      refine ⟨(v,jk (PT.mk 6 b r ns ks).k,(((PT.mk 6 b r ns ks).b-0:Nat):Int),(((PT.mk 6 b r ns ks).e-0:Nat):Int),Value.nilIface,()),rfl,s_chk rfl (sat_iteF.2 (s_leaf ?_))⟩
      rw [if_pos rfl]
      exact ⟨((b:Int),(r:Int),()),rfl,b,r,rfl,K2.trans k3,k3.blk C2 id,.inr ⟨hne,rfl,rfl⟩⟩
    · have hnil:ks1=[]:=List.eq_nil_of_length_eq_zero (by omega)
      rw [if_pos rfl,hxl]
      exact ⟨((0:Int),(s.size:Int),()),rfl,0,s.size,rfl,k0,b0,.inl ⟨hnil,rfl,rfl⟩⟩
  rintro z w' ⟨so,eo,rfl,k2,c2,hso⟩
  refine t3_del hs h (hL.off' k2) (hE.kp k2 id) (hk.kp k2) (hT.kp k2) (hKx.kp k2) c2 hkz hks hkl hso fun E KO w' k3 hEK => ?_
  rw [if_pos rfl]
  exact ⟨((E:Int),(KO:Int),()),rfl,E,KO,rfl,k2.trans k3,k3.blk c2 id,hEK⟩
end Go.Proofs.YtlfebfkphgelfaaGreatDoor.Ka
namespace Go.Proofs.YtlfebfkphgelfaaGreatDoor.Ka
open Go Go.Proofs Go.RowKit Rx Tr Pl Pw Sk
open Ed (put put_size Hole Ctx)
variable {w w':World} {x y q:Sl} {s:ByteArray} {keys:List ByteArray} {p0 p:PT}
theorem jpDelete_any {a:Addr} {ks1:List ByteArray} {k:ByteArray} {b r t jt:Nat} {ns:List (Nat×Nat)} {ks:List PT} {n:Nat×Nat} {f:Bool} (hs:s.size≤4000000000) (h:DelC s p0 ks1 k b r ns ks t n p f jt) (hC:Je.Cv w) (hL:Je.Lt w) (hE:Je.Ev w Je.gE) (hk:Ek w a) (hKx:Kx w q (ks1++[k])) (hkz:k.size≤8000000000) (hks : ∀ j,j<k.size→Ut.bn k j≠92) (hk91:0<k.size→bt k 0≠91) (hkl:ks1.length≤2147483647) :
    Calls Tryz.prog 13 #[.string s,slV q] w fun en w' => ∃ (A E:Nat),en = .returned (.string (put s A E (ByteArray.mk #[])))∧Hole s f jt (ks.drop (t+1)) p A E∧A≤E∧E≤s.size∧Kp Off w w':=by
  refine impl_JpDelete.calls _ _ _ _ ?_
  unfold impl_JpDelete.t
  obtain ⟨x,w1,hcv,hT,k1,z1,hx⟩:=conv_any (w:=w) s
  refine s_eff x hcv ?_
  have hdel:Calls Tryz.prog 31 #[slV x,slV q] w1 fun en w' => ∃ (z:Sl) (A E:Nat),en = .returned (slV z)∧Hole s f jt (ks.drop (t+1)) p A E∧A≤E∧E≤s.size∧Tx w' z (put s A E (ByteArray.mk #[])) 0 (put s A E (ByteArray.mk #[])).size∧Kp Off w1 w':=by
    refine jsonparser_Delete.calls _ _ _ _ _ _ ?_
    unfold jsonparser_Delete.t
    refine s_eff (w':=w1) (false,false,(0:Int),()) (Je.loadAt_cells (cs:=Je.cfg) (by kernel_rfl) (info_some (by kernel_rfl)) (by kernel_rfl) (fun j v hj=>by rw [addr_add,Nat.zero_add];exact hC.off k1 j v hj)) ?_
    refine s_call (deleteFound_any hs h (hL.off' k1) (hE.kp k1 id) (hk.kp k1) hT (hKx.kp k1) hkz hks hk91 hkl) ?_
    rintro en w2 ⟨z,A,E,rfl,h1,h2,h3,h4,k2⟩
    exact ⟨(z,true,()),rfl,s_leaf ⟨rfl,z,A,E,rfl,h1,h2,h3,h4,k2⟩⟩
  refine s_call hdel ?_
  rintro en w2 ⟨z,A,E,rfl,h1,h2,h3,h4,k2⟩
  exact ⟨z,rfl,s_eff (w':=w2) _ (tx_str h4) (s_leaf ⟨rfl,A,E,rfl,h1,h2,h3,k1.trans k2⟩)⟩
end Go.Proofs.YtlfebfkphgelfaaGreatDoor.Ka
