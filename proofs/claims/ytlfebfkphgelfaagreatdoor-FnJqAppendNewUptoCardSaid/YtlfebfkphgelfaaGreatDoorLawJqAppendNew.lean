import Derived.Test.YtlfebfkphgelfaaGreatDoorWG
import Derived.Test.YtlfebfkphgelfaaGreatDoorTj
import Derived.Test.YtlfebfkphgelfaaGreatDoorWF
import Derived.Test.YtlfebfkphgelfaaGreatDoorWL
namespace Go.Proofs.YtlfebfkphgelfaaGreatDoor.LawJqAppendNew
open Go Go.Proofs Go.RowKit Rx Tr Pl Pw Lj
open Sr (tP pc storeP loadP zp PlAt RowIn places)
open Ka (Kx nmS Led New newT clen compL ixS arrB arrB_size)
open Gk (Lead)
open Ed (put put_size mkB mkB_size chain repl way_of newT_tree arr_one)
open Nt
theorem newT_le {s:ByteArray} {p0:PT} {ks1 rs:List ByteArray} {k:ByteArray} {b e:Nat} {ns:List (Nat×Nat)} {ks:List PT} (hN:New s p0 ks1 b e ns ks k rs) (v:List UInt8):(newT s ks1 b e ks k rs v).size≤s.size+(k.size+7+v.length+clen rs):=by
  obtain ⟨w1,w2,_,_⟩:=Gk.wf_obj hN.led.wfp
  have hl:=fun c o=>Ka.comp_len c o k rs v
  have hb : ∀ x,Ka.b1 x≤1:=fun x=>by cases x <;> decide
  unfold newT
  split
  · have h:=hl true false
    have h1:=hb true
    have h2:=hb false
    rw [put_size (by omega) (by omega),mkB_size];omega
  · split
    · have h:=hl false false
      have h2:=hb false
      rw [put_size (by omega) (by omega),mkB_size];omega
    · have h:=hl false true
      have h1:=hb true
      have h2:=hb false
      rw [put_size (by omega) (by omega),mkB_size];omega
theorem clen_tot : ∀ {rs:List ByteArray},(∀ key ∈ rs,0<key.size)→clen rs≤3 * Lv.tot rs
  | [],_=>Nat.zero_le _
  | r :: rs,h=>by
    have h1:=h r (List.mem_cons_self ..)
    have h2:=clen_tot (rs:=rs) fun k hk=>h k (List.mem_cons_of_mem _ hk)
    show r.size+5+clen rs≤3 * (r.size+1+Lv.tot rs)
    omega
theorem reach_uniq {s:ByteArray} {p last last':PT} {keys:List ByteArray} {m n:Nat} (hm:m<keys.length) (hn:n≤keys.length) (h1:Lead (nmS s) ixS p (keys.take m) last) (no1 : ∀ key,keys[m]?=some key → ∀ p',¬ Lead (nmS s) ixS last [key] p')
    (h2:Lead (nmS s) ixS p (keys.take n) last') (no2 : ∀ key,keys[n]?=some key → ∀ p',¬ Lead (nmS s) ixS last' [key] p'):n=m∧last'=last:=by
  have e:n=m:=by
    rcases Nat.lt_trichotomy n m with g | g | g
    · obtain ⟨b,hb⟩:=take_split g (List.getElem?_eq_getElem (show n<keys.length by omega)) h2 h1
      exact absurd hb (no2 _ (List.getElem?_eq_getElem (show n<keys.length by omega)) _)
    · exact g
    · obtain ⟨b,hb⟩:=take_split g (List.getElem?_eq_getElem hm) h1 h2
      exact absurd hb (no1 _ (List.getElem?_eq_getElem hm) _)
  subst e
  exact ⟨rfl,lead_uniqs h2 h1⟩
theorem walk_q {s a:ByteArray} {q:Ka.Sl} {keys:List ByteArray} {W:World} {ak:Addr} (hK:Kx W q keys) (hC:Je.Cv W) (hT:Je.Lt W) (hE:Je.Ev W Je.gE) (hk:Ka.Ek W ak) (ht:Lv.tot keys≤1048576) (hsz:s.size≤1048576) (haz:a.size≤1048576) :
    Calls Tryz.prog 5 #[.string s,.string a,Ka.slV q] W fun e w'=>e = .returned (.bool true)∧RowKit.Below W.heap.size W w':=by
  refine laws_FnJqAppendNew.calls _ _ _ _ _ ?_
  unfold laws_FnJqAppendNew.t
  have hl:=hK.len
  have hcap:=hK.cap
  have done : ∀ (w1:World),Kp Off W w1→(Ending.returned (retVal [.bool true]) = .returned (.bool true)∧RowKit.Below W.heap.size W w1):=fun w1 h=>⟨rfl,h.belowOff⟩
  refine s_cut (fun z w'=>(z.1=true∨(z.1=false∧keys.length≤2147483647 ∧ ∀ key ∈ keys,key.size≤140737488351232))∧W=w') (s_iteD (fun _=>s_leaf ?_) (fun _=>s_iteD (fun _=>s_leaf ?_) (fun _ => ?_))) ?_
  · rw [if_pos rfl];exact ⟨(true,()),rfl,.inl rfl,rfl⟩
  · rw [if_pos rfl];exact ⟨(true,()),rfl,.inl rfl,rfl⟩
  · refine s_call (fits1_any hK) ?_
    rintro e w1 ⟨⟨b,rfl,hb⟩,rfl⟩
    refine ⟨b,rfl,s_leaf ?_⟩
    rw [if_pos rfl]
    refine ⟨(!b,()),rfl,?_,rfl⟩
    cases b with
    | false=>exact .inl rfl
    | true=>exact .inr ⟨rfl,hb rfl⟩
  rintro ⟨bb,u⟩ w' ⟨hbb,rfl⟩
  show sat _ (laws_FnJqAppendNew.t1 s a q.1 q.2.1 q.2.2 bb) _ _
  unfold laws_FnJqAppendNew.t1
  rcases hbb with hbb | ⟨hbb,hkl,hkz⟩
  · have hbb:bb=true:=hbb
    subst hbb
    exact sat_iteT.2 (s_leaf ⟨rfl,done W (Kp.refl _ _)⟩)
  have hbb:bb=false:=hbb
  subst hbb
  refine sat_iteF.2 ?_
  have place : ∀ (w1:World) (k b e1:Int) (na ka:Sr.Sl),∃ w2,(Instr.storeAt tP (.pointer (some ⟨w1.heap.size,0,none⟩)) (.agg (pc k b e1 na ka).toArray)).run Tryz.prog (w1.alloc (.cells zp.toArray tP (0,0))) = .ok () w2∧Blk w2 w1.heap.size (pc k b e1 na ka) tP∧Kp Off w1 w2:=by
    intro w1 k b e1 na ka
    obtain ⟨w2,h2,c2,k2⟩:=storeP (Blk.new w1 zp tP) rfl k b e1 na ka
    exact ⟨w2,h2,c2,(((Kp.refl (fun q=>q=w1.heap.size) w1).alloc _).trans (k2.mono fun q _ h=>h)).mono fun q hq h=>by omega⟩
  refine s_call (jpNew_any (s:=s) hK hkz (by omega)) ?_
  rintro e w1 ⟨⟨n,y,rfl,hy⟩,k1⟩
  refine ⟨(n,y,()),rfl,?_⟩
  refine s_call (read_any (s:=a) (by omega)) ?_
  rintro en w2 ⟨nt,a3,b3,rfl,hN3,ht3,_,k2⟩
  refine ⟨(((nt.k:Int),nt.t,a3,b3,()),(places a).isSome,()),rfl,s_alloc ?_⟩
  obtain ⟨w3,h3,c3,k3⟩:=node_new w2 nt.k nt.t a3 b3
  refine s_effU h3 ?_
  have k03:=(k1.trans k2).trans k3
  refine s_cut (fun z w'=>(z.1=true∨(z.1=false∧y=true∧(places a).isSome=true∧a.size≤1000∧s.size≤16384))∧w3=w') ?_ ?_
  · refine s_ite (fun _=>s_leaf ?_) (fun g1=>s_ite (fun _=>s_leaf ?_) (fun g2=>s_iteD (fun _=>s_leaf ?_) (fun g3=>s_leaf ?_)))
    · rw [if_pos rfl];exact ⟨(true,()),rfl,.inl rfl,rfl⟩
    · rw [if_pos rfl];exact ⟨(true,()),rfl,.inl rfl,rfl⟩
    · rw [if_pos rfl];exact ⟨(true,()),rfl,.inl rfl,rfl⟩
    · rw [if_pos rfl]
      refine ⟨(decide ((((ByteArray.size s):Nat):Int) > (16384:Int)),()),rfl,?_,rfl⟩
      by_cases g:(((ByteArray.size s):Nat):Int) > (16384:Int)
      · exact .inl (decide_eq_true g)
      · exact .inr ⟨decide_eq_false g,by simpa using g1,by simpa using g2,by omega,by omega⟩
  rintro ⟨bb,u⟩ w' ⟨hbb,rfl⟩
  show sat _ (laws_FnJqAppendNew.t2 s a q.1 q.2.1 q.2.2 (n,y,()) ⟨w2.heap.size,0,none⟩ bb) _ _
  unfold laws_FnJqAppendNew.t2
  rcases hbb with hbb | ⟨hbb,rfl,hsome,ha1,hs1⟩
  · have hbb:bb=true:=hbb
    subst hbb
    exact sat_iteT.2 (s_leaf ⟨rfl,done w3 k03⟩)
  have hbb:bb=false:=hbb
  subst hbb
  obtain ⟨pa,hpa⟩:=Option.isSome_iff_exists.1 hsome
  have e3:=ht3 pa hpa
  subst e3
  obtain ⟨hab,hwa,hae⟩:=places_of hpa
  obtain ⟨p0,last,m,rfl,h6,hEnd⟩:=hy rfl
  have hs:=hEnd.size
  have hlt:=hEnd.lt
  obtain ⟨kn,rs,hkr⟩ : ∃ kn rs,keys.drop m=kn :: rs:=by
    cases hd:keys.drop m with
    | nil=>have:=List.length_drop (l:=keys) (i:=m);rw [hd] at this;simp at this;omega
    | cons kn rs=>exact ⟨kn,rs,rfl⟩
  have hkeys:keys=keys.take m++kn :: rs:=by rw [← hkr];exact (List.take_append_drop m keys).symm
  have hkn:keys[m]?=some kn:=by
    have:(keys.drop m)[0]?=some kn:=by rw [hkr];rfl
    rwa [List.getElem?_drop,Nat.add_zero] at this
  have hall : ∀ key ∈ kn :: rs,Ed.AsIs key∧Ka.NoI key:=fun key hk=>hEnd.asis key (by rw [hkr];exact hk)
  have htot:Lv.tot (keys.take m)+(kn.size+1+Lv.tot rs)≤1048576:=by
    have e:=Lv.tot_append (keys.take m) (kn :: rs)
    rw [← hkeys] at e
    have:Lv.tot (kn :: rs)=kn.size+1+Lv.tot rs:=rfl
    omega
  have hcl:=clen_tot (rs:=rs) fun key hk=>(hall key (List.mem_cons_of_mem _ hk)).2.1
  have htl:=Lv.tot_len (keys.take m)
  have hrl:=Lv.tot_len rs
  obtain ⟨b,e,ns,ks,hNew,hnk⟩:=new_of (ks1:=keys.take m) (rs:=rs) (k:=kn) hEnd.led h6 (hEnd.no kn hkn) (by rw [← hkeys];exact hEnd.once) (fun key hk=>(hall key hk).2)
  have hL:=hNew.led
  have hlast:last = .mk 6 b e ns ks:=lead_uniqs hEnd.led.lead hL.lead
  have hpl:places s=some p0:=Sr.places_of_wf hL.at0 hL.wf hL.fin
  refine sat_iteF.2 (s_call (Sr.places_any (s:=s) (by omega)) ?_)
  rintro en w4 ⟨k4',b4',e4',na4,ka4,rfl,k4,hp4⟩
  have hp4:=hp4 p0 hpl
  obtain ⟨ek,eb,ee⟩:k4'=(p0.k:Int)∧b4'=(p0.b:Int)∧e4'=(p0.e:Int):=by
    obtain ⟨kk,bb,ee,nn,cc⟩:=p0
    unfold PlAt at hp4
    obtain ⟨na,ka,xs,h1,_⟩:=hp4
    have h1:pc k4' b4' e4' na4 ka4=pc kk bb ee na ka:=h1
    simp only [pc,List.cons.injEq,Value.int.injEq,true_and] at h1
    exact ⟨h1.1,h1.2.1,h1.2.2.1⟩
  subst ek;subst eb;subst ee
  refine ⟨(((p0.k:Int),(p0.b:Int),(p0.e:Int),na4,ka4,()),(places s).isSome,()),rfl,s_alloc ?_⟩
  obtain ⟨w5,h5,c5,k5⟩:=place w4 p0.k p0.b p0.e na4 ka4
  refine s_effU h5 ?_
  have k05:=(k03.trans k4).trans k5
  have hP5:PlAt Any w5 p0 (pc p0.k p0.b p0.e na4 ka4):=PlAt.any hp4 k5
  have c35:=(k4.trans k5).blk c3 id
  have hw0:=hL.wf
  refine s_eff (w':=w5) ((p0.k:Int),(p0.b:Int),(p0.e:Int),na4,ka4,()) (loadP c5) ?_
  refine s_call (jqClean_any hs hw0 hP5 (hK.kp k05) hkz hkl) ?_
  rintro en w6 ⟨⟨bc,rfl⟩,k6⟩
  refine ⟨bc,rfl,?_⟩
  have k06:=k05.trans k6
  cases bc with
  | false=>exact sat_iteT.2 (s_leaf ⟨rfl,done w6 k06⟩)
  | true=>
  have c56:=k6.blk c5 id
  refine sat_iteF.2 (s_eff (w':=w6) ((p0.k:Int),(p0.b:Int),(p0.e:Int),na4,ka4,()) (loadP c56) ?_)
  refine s_call (reach_any hs hw0 (PlAt.any hP5 k6) (hK.kp k06) hkz (by omega)) ?_
  rintro en w7 ⟨⟨na7,ka7,last',n',rfl,hn',hL7,hno7,hp7⟩,k7⟩
  obtain ⟨er1,er2⟩:=reach_uniq hlt hn' hEnd.led.lead hEnd.no hL7 hno7
  have er1:=er1.symm
  have er2:=er2.symm
  subst er1;subst er2
  clear hL7 hno7
  refine ⟨(((last.k:Int),(last.b:Int),(last.e:Int),na7,ka7,()),(m:Int),()),rfl,s_alloc ?_⟩
  obtain ⟨w8,h8,c8,k8⟩:=place w7 last.k last.b last.e na7 ka7
  refine s_effU h8 ?_
  have k58:=(k6.trans k7).trans k8
  have k08:=(k06.trans k7).trans k8
  have c38:=k58.blk c35 id
  have c58:=k58.blk c5 id
  have hPL8:PlAt Any w8 last (pc last.k last.b last.e na7 ka7):=PlAt.any hp7 k8
  have hwl:WfV s last:=hEnd.led.wfp
  obtain ⟨M,hMd⟩ : ∃ M,M=NT.mk (treeN s last).k (treeN s last).t ((treeN s last).keys++[kn]) ((treeN s last).kids++[chain (.mk 5 (ByteArray.mk #[]) [] [treeN a pa]) rs]):=⟨_,rfl⟩
  have hwlen:=wf_len hwl
  have hlk:(treeN s last).keys.length≤99999:=by rw [treeN_keys,List.length_map];omega
  have hld:(treeN s last).kids.length≤99999:=by rw [treeN_kids,treeL_len];omega
  have hSet8:NdAt Any w8 (treeN a pa) (nc (treeN a pa).k (treeN a pa).t a3 b3):=hN3.any ((((k3.trans k4).trans k5).trans k58))
  refine s_cut (fun z w' => ∃ (g:Nat) (a5 b5:Sr.Sl),z=(some ⟨g,0,none⟩,())∧Blk w' g (nc M.k M.t a5 b5) tN∧NdAt Any w' M (nc M.k M.t a5 b5)∧Kp Off w8 w') ?_ ?_
  · refine s_drew ?_
    have kd:Kp Off w8 w8.drew:=(Kp.refl Off w8).drew
    generalize w8.drew=u0 at kd
    have kx0:Kp Off u0 u0:=Kp.refl _ _
    refine ⟨((last.k:Int),(last.b:Int),(last.e:Int),na7,ka7,()),fun w'' hw''=>loadP ((kd.trans (Kp.of_below (S:=Off) hw'')).blk c8 id),?_⟩
    refine s_chk ⟨by show (0:Int)≤(m:Int);omega,by show (m:Int)≤_;omega,by omega⟩ ?_
    refine ⟨(((treeN a pa).k:Int),(treeN a pa).t,a3,b3,()),fun w'' hw''=>loadN ((kd.trans (Kp.of_below (S:=Off) hw'')).blk c38 id),?_⟩
    have hSet:NdAt Any u0 (treeN a pa) (nc (treeN a pa).k (treeN a pa).t a3 b3):=hSet8.any kd
    have hPLu:PlAt Any u0 last (pc last.k last.b last.e na7 ka7):=PlAt.any hPL8 kd
    have oA : ∀ wi,Kp Off u0 wi→Calls Tryz.prog 23 #[.string s,.agg (pc last.k last.b last.e na7 ka7).toArray] wi (NdPost wi (treeN s last)):=fun wi ki=>tree_any (by omega) _ last wi Any na7 ka7 (Nat.lt_succ_self _) hwl (PlAt.any hPLu ki)
    have hti:=info_some (P:=Tryz.prog) (t:=tN) (by kernel_rfl)
    have oB : ∀ w1:World,(Instr.buildSlice tNs 1 #[(0,.agg (nc (treeN a pa).k (treeN a pa).t a3 b3).toArray)]).run Tryz.prog w1 = .ok (.slice (some ⟨w1.heap.size,0,none⟩) 1 1) (w1.alloc (.cells (nc (treeN a pa).k (treeN a pa).t a3 b3).toArray tN)):=fun w1=>
      build1 (size:=4) (z0 := .agg zn.toArray) Tryz.underlying32 hti (by kernel_rfl) (by kernel_rfl) (by decide) (by decide) (.agg (nc (treeN a pa).k (treeN a pa).t a3 b3).toArray) (nc (treeN a pa).k (treeN a pa).t a3 b3) rfl rfl
    have newB : ∀ w1:World,Blk (w1.alloc (.cells (nc (treeN a pa).k (treeN a pa).t a3 b3).toArray tN)) w1.heap.size (nc (treeN a pa).k (treeN a pa).t a3 b3) tN∧Kp Off w1 (w1.alloc (.cells (nc (treeN a pa).k (treeN a pa).t a3 b3).toArray tN))∧(w1.alloc (.cells (nc (treeN a pa).k (treeN a pa).t a3 b3).toArray tN)).heap.size=w1.heap.size+1:=fun w1=>⟨Blk.new w1 _ _,(Kp.refl Off w1).alloc _,by simp⟩
    have newC : ∀ w1:World,Blk (w1.alloc (.cells zn.toArray tN (0,0))) w1.heap.size zn tN∧Kp Off w1 (w1.alloc (.cells zn.toArray tN (0,0)))∧(w1.alloc (.cells zn.toArray tN (0,0))).heap.size=w1.heap.size+1:=fun w1=>⟨Blk.new w1 _ _,(Kp.refl Off w1).alloc _,by simp⟩
    have oD : ∀ (wi:World) (R:Nat→Prop) (aA bA:Sr.Sl) (gB:Nat),Kp Off u0 wi→NdAt R wi (treeN s last) (nc (treeN s last).k (treeN s last).t aA bA)→Blk wi gB (nc (treeN a pa).k (treeN a pa).t a3 b3) tN→R gB→NdAt R wi (treeN a pa) (nc (treeN a pa).k (treeN a pa).t a3 b3) →
        Calls Tryz.prog 22 #[.agg (nc (treeN s last).k (treeN s last).t aA bA).toArray,Ka.slV ((if q.2.2=m then q.1 else q.1.map fun y=>y.add (m * 1)),q.2.1-m,q.2.2-m),.agg (nc 5 (ByteArray.mk #[]) (none,0,0) (some ⟨gB,0,none⟩,1,1)).toArray] wi (RpPost R wi M):=by
      intro wi R aA bA gB ki hA hB hR hS
      have hx:NdAt R wi (.mk 5 (ByteArray.mk #[]) [] [treeN a pa]) (nc 5 (ByteArray.mk #[]) (none,0,0) (some ⟨gB,0,none⟩,1,1)):=by
        refine NdAt.mk' (Sr.RowIn.nil) (row1 hB rfl hR) ?_
        unfold AllN
        exact ⟨_,[],by rw [List.append_nil],hS,AllN.nil⟩
      have hKd:=(hK.kp ((k08.trans kd).trans ki)).drop m (by omega)
      rw [hkr] at hKd
      rw [hMd]
      exact putdeep_any (x := .mk 5 (ByteArray.mk #[]) [] [treeN a pa]) hA hx (by omega) (by omega) (by rw [treeN_k];exact h6) (fun j y hj=>by
        rw [treeN_keys,List.getElem?_map] at hj
        cases hn:last.ns[j]? with
        | none=>rw [hn] at hj;cases hj
        | some x=>
          rw [hn] at hj
          cases hj
          rw [hlast] at hn
          exact hnk x (List.mem_of_getElem? hn)) hKd (by omega)
    have fin : ∀ (w':World) (g:Nat) (a5 b5:Sr.Sl),Kp Off u0 w'→Blk w' g (nc M.k M.t a5 b5) tN→NdAt Any w' M (nc M.k M.t a5 b5) → ∃ x,[Value.pointer (some ⟨g,0,none⟩)]=(Sh.cons .ptr .nil).vals x ∧ ∃ (g:Nat) (a5 b5:Sr.Sl),x=(some ⟨g,0,none⟩,())∧Blk w' g (nc M.k M.t a5 b5) tN∧NdAt Any w' M (nc M.k M.t a5 b5)∧Kp Off w8 w':=by
      intro w' g a5 b5 k hb hn
      exact ⟨(some ⟨g,0,none⟩,()),rfl,g,a5,b5,rfl,hb,hn,kd.trans k⟩
    refine ⟨?_,?_⟩
    · refine s_hereN (s_call (oA u0 kx0) ?_)
      rintro en u1 ⟨aA,bA,rfl,hA0,kA⟩
      refine ⟨(((treeN s last).k:Int),(treeN s last).t,aA,bA,()),rfl,kA.belowOff,?_⟩
      have kx1:=(kx0).trans kA
      have hA:NdAt Any u1 (treeN s last) (nc (treeN s last).k (treeN s last).t aA bA):=hA0.any (Kp.refl _ _)
      refine ⟨?_,?_⟩
      · refine s_hereN (s_eff (w':=u1.alloc (.cells (nc (treeN a pa).k (treeN a pa).t a3 b3).toArray tN)) (some ⟨u1.heap.size,0,none⟩,1,1) (oB u1) ?_)
        obtain ⟨bB,kB,zB⟩:=newB u1
        generalize u1.alloc (.cells (nc (treeN a pa).k (treeN a pa).t a3 b3).toArray tN)=u2 at bB kB zB
        refine ⟨kB.belowOff,?_⟩
        have kx2:=(kx1).trans kB
        have hA:=hA.kp (B':=Any) kB fun p _ hp=>⟨hp,id⟩
        refine ⟨?_,?_⟩
        · refine s_call (oD u2 Any aA bA u1.heap.size kx2 hA bB trivial (hSet.any kx2)) ?_
          rintro en u3 ⟨a5,b5,rfl,hM,kM⟩
          refine ⟨((((M).k:Int),(M).t,a5,b5,()),true,()),rfl,s_alloc ?_⟩
          obtain ⟨wZ,hZ,cZ,kZ⟩:=node_new u3 (M).k (M).t a5 b5
          refine s_effU hZ (s_leaf ?_)
          rw [if_pos rfl]
          exact fin wZ u3.heap.size a5 b5 ((kx2.trans kM).trans kZ) cZ (hM.any kZ)
        · refine s_hereN (s_alloc ?_)
          obtain ⟨bC,kC,zC⟩:=newC u2
          show sat _ _ _ (u2.alloc (.cells zn.toArray tN (0,0)))
          generalize u2.alloc (.cells zn.toArray tN (0,0))=u3 at bC kC zC
          refine ⟨kC.belowOff,?_⟩
          have hs3:=(kx2).size
          have kx3:=(kx2).trans kC
          have hA:=hA.kp (B':=(fun p=>p≠u2.heap.size)) kC fun p hp _=>⟨Nat.ne_of_lt hp,id⟩
          have hgB:u1.heap.size≠u2.heap.size:=Nat.ne_of_lt bB.lt
          have bB:=kC.blk bB id
          have hS:=hSet.kp (B':=(fun p=>p≠u2.heap.size)) kx3 fun p hp _=>⟨fun e=>by omega,id⟩
          have hg:=bC.lt
          refine s_call (oD u3 (fun p=>p≠u2.heap.size) aA bA u1.heap.size kx3 hA bB hgB hS) ?_
          rintro en u4 ⟨a5,b5,rfl,hM,kM⟩
          refine ⟨((((M).k:Int),(M).t,a5,b5,()),true,()),rfl,?_⟩
          obtain ⟨wZ,hZ,cZ,kZ⟩:=storeN (kM.blk bC id) rfl (M).k (M).t a5 b5
          have hks:=(kx3).size
          refine s_effU hZ (s_leaf ?_)
          rw [if_pos rfl]
          refine fin wZ u2.heap.size a5 b5 ((kx3.trans kM).then kZ fun p hp e => ?_) cZ (hM.kp kZ fun p _ hp=>⟨trivial,fun e => ?_⟩)
          · have e:p=u2.heap.size:=e
            omega
          · have e:p=u2.heap.size:=e
            rcases hp with ⟨_,hp⟩ | hp
            · exact hp e
            · omega
      · refine s_hereN (s_alloc ?_)
        obtain ⟨bC,kC,zC⟩:=newC u1
        show sat _ _ _ (u1.alloc (.cells zn.toArray tN (0,0)))
        generalize u1.alloc (.cells zn.toArray tN (0,0))=u2 at bC kC zC
        refine ⟨kC.belowOff,?_⟩
        have hs2:=(kx1).size
        have kx2:=(kx1).trans kC
        have hA:=hA.kp (B':=(fun p=>p≠u1.heap.size)) kC fun p hp _=>⟨Nat.ne_of_lt hp,id⟩
        have hS:=hSet.kp (B':=(fun p=>p≠u1.heap.size)) kx2 fun p hp _=>⟨fun e=>by omega,id⟩
        have hg:=bC.lt
        refine s_hereN (s_eff (w':=u2.alloc (.cells (nc (treeN a pa).k (treeN a pa).t a3 b3).toArray tN)) (some ⟨u2.heap.size,0,none⟩,1,1) (oB u2) ?_)
        obtain ⟨bB,kB,zB⟩:=newB u2
        generalize u2.alloc (.cells (nc (treeN a pa).k (treeN a pa).t a3 b3).toArray tN)=u3 at bB kB zB
        refine ⟨kB.belowOff,?_⟩
        have kx3:=(kx2).trans kB
        have hA:=hA.kp (B':=(fun p=>p≠u1.heap.size)) kB fun p _ hp=>⟨hp,id⟩
        have hgB:u2.heap.size≠u1.heap.size:=by omega
        have bC:=kB.blk bC id
        have hS:=hS.kp (B':=(fun p=>p≠u1.heap.size)) kB fun p _ hp=>⟨hp,id⟩
        have hg:=bC.lt
        refine s_call (oD u3 (fun p=>p≠u1.heap.size) aA bA u2.heap.size kx3 hA bB hgB hS) ?_
        rintro en u4 ⟨a5,b5,rfl,hM,kM⟩
        refine ⟨((((M).k:Int),(M).t,a5,b5,()),true,()),rfl,?_⟩
        obtain ⟨wZ,hZ,cZ,kZ⟩:=storeN (kM.blk bC id) rfl (M).k (M).t a5 b5
        have hks:=(kx3).size
        refine s_effU hZ (s_leaf ?_)
        rw [if_pos rfl]
        refine fin wZ u1.heap.size a5 b5 ((kx3.trans kM).then kZ fun p hp e => ?_) cZ (hM.kp kZ fun p _ hp=>⟨trivial,fun e => ?_⟩)
        · have e:p=u1.heap.size:=e
          omega
        · have e:p=u1.heap.size:=e
          rcases hp with ⟨_,hp⟩ | hp
          · exact hp e
          · omega
    · refine ⟨?_,?_⟩
      · refine s_hereN (s_eff (w':=u0.alloc (.cells (nc (treeN a pa).k (treeN a pa).t a3 b3).toArray tN)) (some ⟨u0.heap.size,0,none⟩,1,1) (oB u0) ?_)
        obtain ⟨bB,kB,zB⟩:=newB u0
        generalize u0.alloc (.cells (nc (treeN a pa).k (treeN a pa).t a3 b3).toArray tN)=u1 at bB kB zB
        refine ⟨kB.belowOff,?_⟩
        have kx1:=(kx0).trans kB
        refine ⟨?_,?_⟩
        · refine s_hereN (s_call (oA u1 kx1) ?_)
          rintro en u2 ⟨aA,bA,rfl,hA0,kA⟩
          refine ⟨(((treeN s last).k:Int),(treeN s last).t,aA,bA,()),rfl,kA.belowOff,?_⟩
          have kx2:=(kx1).trans kA
          have hA:NdAt Any u2 (treeN s last) (nc (treeN s last).k (treeN s last).t aA bA):=hA0.any (Kp.refl _ _)
          have bB:=kA.blk bB id
          refine ⟨?_,?_⟩
          · refine s_call (oD u2 Any aA bA u0.heap.size kx2 hA bB trivial (hSet.any kx2)) ?_
            rintro en u3 ⟨a5,b5,rfl,hM,kM⟩
            refine ⟨((((M).k:Int),(M).t,a5,b5,()),true,()),rfl,s_alloc ?_⟩
            obtain ⟨wZ,hZ,cZ,kZ⟩:=node_new u3 (M).k (M).t a5 b5
            refine s_effU hZ (s_leaf ?_)
            rw [if_pos rfl]
            exact fin wZ u3.heap.size a5 b5 ((kx2.trans kM).trans kZ) cZ (hM.any kZ)
          · refine s_hereN (s_alloc ?_)
            obtain ⟨bC,kC,zC⟩:=newC u2
            show sat _ _ _ (u2.alloc (.cells zn.toArray tN (0,0)))
            generalize u2.alloc (.cells zn.toArray tN (0,0))=u3 at bC kC zC
            refine ⟨kC.belowOff,?_⟩
            have hs3:=(kx2).size
            have kx3:=(kx2).trans kC
            have hA:=hA.kp (B':=(fun p=>p≠u2.heap.size)) kC fun p hp _=>⟨Nat.ne_of_lt hp,id⟩
            have hgB:u0.heap.size≠u2.heap.size:=Nat.ne_of_lt bB.lt
            have bB:=kC.blk bB id
            have hS:=hSet.kp (B':=(fun p=>p≠u2.heap.size)) kx3 fun p hp _=>⟨fun e=>by omega,id⟩
            have hg:=bC.lt
            refine s_call (oD u3 (fun p=>p≠u2.heap.size) aA bA u0.heap.size kx3 hA bB hgB hS) ?_
            rintro en u4 ⟨a5,b5,rfl,hM,kM⟩
            refine ⟨((((M).k:Int),(M).t,a5,b5,()),true,()),rfl,?_⟩
            obtain ⟨wZ,hZ,cZ,kZ⟩:=storeN (kM.blk bC id) rfl (M).k (M).t a5 b5
            have hks:=(kx3).size
            refine s_effU hZ (s_leaf ?_)
            rw [if_pos rfl]
            refine fin wZ u2.heap.size a5 b5 ((kx3.trans kM).then kZ fun p hp e => ?_) cZ (hM.kp kZ fun p _ hp=>⟨trivial,fun e => ?_⟩)
            · have e:p=u2.heap.size:=e
              omega
            · have e:p=u2.heap.size:=e
              rcases hp with ⟨_,hp⟩ | hp
              · exact hp e
              · omega
        · refine s_hereN (s_alloc ?_)
          obtain ⟨bC,kC,zC⟩:=newC u1
          show sat _ _ _ (u1.alloc (.cells zn.toArray tN (0,0)))
          generalize u1.alloc (.cells zn.toArray tN (0,0))=u2 at bC kC zC
          refine ⟨kC.belowOff,?_⟩
          have hs2:=(kx1).size
          have kx2:=(kx1).trans kC
          have hgB:u0.heap.size≠u1.heap.size:=Nat.ne_of_lt bB.lt
          have bB:=kC.blk bB id
          have hS:=hSet.kp (B':=(fun p=>p≠u1.heap.size)) kx2 fun p hp _=>⟨fun e=>by omega,id⟩
          have hg:=bC.lt
          refine s_hereN (s_call (oA u2 kx2) ?_)
          rintro en u3 ⟨aA,bA,rfl,hA0,kA⟩
          refine ⟨(((treeN s last).k:Int),(treeN s last).t,aA,bA,()),rfl,kA.belowOff,?_⟩
          have kx3:=(kx2).trans kA
          have hA:NdAt (fun p=>p≠u1.heap.size) u3 (treeN s last) (nc (treeN s last).k (treeN s last).t aA bA):=hA0.kp (Kp.refl Off _) fun p _ hp=>⟨fun e=>by have hp:u2.heap.size≤p:=hp;omega,id⟩
          have bB:=kA.blk bB id
          have bC:=kA.blk bC id
          have hS:=hS.kp (B':=(fun p=>p≠u1.heap.size)) kA fun p _ hp=>⟨hp,id⟩
          have hg:=bC.lt
          refine s_call (oD u3 (fun p=>p≠u1.heap.size) aA bA u0.heap.size kx3 hA bB hgB hS) ?_
          rintro en u4 ⟨a5,b5,rfl,hM,kM⟩
          refine ⟨((((M).k:Int),(M).t,a5,b5,()),true,()),rfl,?_⟩
          obtain ⟨wZ,hZ,cZ,kZ⟩:=storeN (kM.blk bC id) rfl (M).k (M).t a5 b5
          have hks:=(kx3).size
          refine s_effU hZ (s_leaf ?_)
          rw [if_pos rfl]
          refine fin wZ u1.heap.size a5 b5 ((kx3.trans kM).then kZ fun p hp e => ?_) cZ (hM.kp kZ fun p _ hp=>⟨trivial,fun e => ?_⟩)
          · have e:p=u1.heap.size:=e
            omega
          · have e:p=u1.heap.size:=e
            rcases hp with ⟨_,hp⟩ | hp
            · exact hp e
            · omega
      · refine s_hereN (s_alloc ?_)
        obtain ⟨bC,kC,zC⟩:=newC u0
        show sat _ _ _ (u0.alloc (.cells zn.toArray tN (0,0)))
        generalize u0.alloc (.cells zn.toArray tN (0,0))=u1 at bC kC zC
        refine ⟨kC.belowOff,?_⟩
        have hs1:=(kx0).size
        have kx1:=(kx0).trans kC
        have hS:=hSet.kp (B':=(fun p=>p≠u0.heap.size)) kx1 fun p hp _=>⟨fun e=>by omega,id⟩
        have hg:=bC.lt
        refine ⟨?_,?_⟩
        · refine s_hereN (s_call (oA u1 kx1) ?_)
          rintro en u2 ⟨aA,bA,rfl,hA0,kA⟩
          refine ⟨(((treeN s last).k:Int),(treeN s last).t,aA,bA,()),rfl,kA.belowOff,?_⟩
          have kx2:=(kx1).trans kA
          have hA:NdAt (fun p=>p≠u0.heap.size) u2 (treeN s last) (nc (treeN s last).k (treeN s last).t aA bA):=hA0.kp (Kp.refl Off _) fun p _ hp=>⟨fun e=>by have hp:u1.heap.size≤p:=hp;omega,id⟩
          have bC:=kA.blk bC id
          have hS:=hS.kp (B':=(fun p=>p≠u0.heap.size)) kA fun p _ hp=>⟨hp,id⟩
          have hg:=bC.lt
          refine s_hereN (s_eff (w':=u2.alloc (.cells (nc (treeN a pa).k (treeN a pa).t a3 b3).toArray tN)) (some ⟨u2.heap.size,0,none⟩,1,1) (oB u2) ?_)
          obtain ⟨bB,kB,zB⟩:=newB u2
          generalize u2.alloc (.cells (nc (treeN a pa).k (treeN a pa).t a3 b3).toArray tN)=u3 at bB kB zB
          refine ⟨kB.belowOff,?_⟩
          have kx3:=(kx2).trans kB
          have hA:=hA.kp (B':=(fun p=>p≠u0.heap.size)) kB fun p _ hp=>⟨hp,id⟩
          have hgB:u2.heap.size≠u0.heap.size:=by omega
          have bC:=kB.blk bC id
          have hS:=hS.kp (B':=(fun p=>p≠u0.heap.size)) kB fun p _ hp=>⟨hp,id⟩
          have hg:=bC.lt
          refine s_call (oD u3 (fun p=>p≠u0.heap.size) aA bA u2.heap.size kx3 hA bB hgB hS) ?_
          rintro en u4 ⟨a5,b5,rfl,hM,kM⟩
          refine ⟨((((M).k:Int),(M).t,a5,b5,()),true,()),rfl,?_⟩
          obtain ⟨wZ,hZ,cZ,kZ⟩:=storeN (kM.blk bC id) rfl (M).k (M).t a5 b5
          have hks:=(kx3).size
          refine s_effU hZ (s_leaf ?_)
          rw [if_pos rfl]
          refine fin wZ u0.heap.size a5 b5 ((kx3.trans kM).then kZ fun p hp e => ?_) cZ (hM.kp kZ fun p _ hp=>⟨trivial,fun e => ?_⟩)
          · have e:p=u0.heap.size:=e
            omega
          · have e:p=u0.heap.size:=e
            rcases hp with ⟨_,hp⟩ | hp
            · exact hp e
            · omega
        · refine s_hereN (s_eff (w':=u1.alloc (.cells (nc (treeN a pa).k (treeN a pa).t a3 b3).toArray tN)) (some ⟨u1.heap.size,0,none⟩,1,1) (oB u1) ?_)
          obtain ⟨bB,kB,zB⟩:=newB u1
          generalize u1.alloc (.cells (nc (treeN a pa).k (treeN a pa).t a3 b3).toArray tN)=u2 at bB kB zB
          refine ⟨kB.belowOff,?_⟩
          have kx2:=(kx1).trans kB
          have hgB:u1.heap.size≠u0.heap.size:=by omega
          have bC:=kB.blk bC id
          have hS:=hS.kp (B':=(fun p=>p≠u0.heap.size)) kB fun p _ hp=>⟨hp,id⟩
          have hg:=bC.lt
          refine s_hereN (s_call (oA u2 kx2) ?_)
          rintro en u3 ⟨aA,bA,rfl,hA0,kA⟩
          refine ⟨(((treeN s last).k:Int),(treeN s last).t,aA,bA,()),rfl,kA.belowOff,?_⟩
          have kx3:=(kx2).trans kA
          have hA:NdAt (fun p=>p≠u0.heap.size) u3 (treeN s last) (nc (treeN s last).k (treeN s last).t aA bA):=hA0.kp (Kp.refl Off _) fun p _ hp=>⟨fun e=>by have hp:u2.heap.size≤p:=hp;omega,id⟩
          have bB:=kA.blk bB id
          have bC:=kA.blk bC id
          have hS:=hS.kp (B':=(fun p=>p≠u0.heap.size)) kA fun p _ hp=>⟨hp,id⟩
          have hg:=bC.lt
          refine s_call (oD u3 (fun p=>p≠u0.heap.size) aA bA u1.heap.size kx3 hA bB hgB hS) ?_
          rintro en u4 ⟨a5,b5,rfl,hM,kM⟩
          refine ⟨((((M).k:Int),(M).t,a5,b5,()),true,()),rfl,?_⟩
          obtain ⟨wZ,hZ,cZ,kZ⟩:=storeN (kM.blk bC id) rfl (M).k (M).t a5 b5
          have hks:=(kx3).size
          refine s_effU hZ (s_leaf ?_)
          rw [if_pos rfl]
          refine fin wZ u0.heap.size a5 b5 ((kx3.trans kM).then kZ fun p hp e => ?_) cZ (hM.kp kZ fun p _ hp=>⟨trivial,fun e => ?_⟩)
          · have e:p=u0.heap.size:=e
            omega
          · have e:p=u0.heap.size:=e
            rcases hp with ⟨_,hp⟩ | hp
            · exact hp e
            · omega
  rintro _ w9 ⟨gM,a5',b5',rfl,c9,hM9,k9⟩
  show sat _ (laws_FnJqAppendNew.t3 s a q.1 q.2.1 q.2.2 ((m:Int),true,()) ⟨w4.heap.size,0,none⟩ (some ⟨gM,0,none⟩)) _ _
  unfold laws_FnJqAppendNew.t3
  have k09:=k08.trans k9
  have c59:=k9.blk c58 id
  have hP9:PlAt Any w9 p0 (pc p0.k p0.b p0.e na4 ka4):=PlAt.any hP5 (k58.trans k9)
  obtain ⟨toks,is,hW⟩:=way_of hEnd.led.lead
  obtain ⟨W2,hWd⟩ : ∃ W2,W2=repl M is (treeN s p0):=⟨_,rfl⟩
  have hSm0:Sm (treeN s p0):=sm_tree (by omega) _ p0 (Nat.lt_succ_self _) hw0
  have htoks:=hW.len
  have htkl:(keys.take m).length≤2147483647:=by rw [List.length_take];omega
  refine s_cut (fun z w' => ∃ (g:Nat) (a5 b5:Sr.Sl),z=(some ⟨g,0,none⟩,())∧Blk w' g (nc W2.k W2.t a5 b5) tN∧NdAt Any w' W2 (nc W2.k W2.t a5 b5)∧Kp Off w9 w') ?_ ?_
  · refine s_drew ?_
    have kd:Kp Off w9 w9.drew:=(Kp.refl Off w9).drew
    generalize w9.drew=u0 at kd
    have kx0:Kp Off u0 u0:=Kp.refl _ _
    refine ⟨((p0.k:Int),(p0.b:Int),(p0.e:Int),na4,ka4,()),fun w'' hw''=>loadP ((kd.trans (Kp.of_below (S:=Off) hw'')).blk c59 id),?_⟩
    refine ⟨((p0.k:Int),(p0.b:Int),(p0.e:Int),na4,ka4,()),fun w'' hw''=>loadP ((kd.trans (Kp.of_below (S:=Off) hw'')).blk c59 id),?_⟩
    refine s_chk ⟨by omega,by show (0:Int)≤(m:Int);omega,by show (m:Int)≤_;omega⟩ (s_ptr ?_)
    refine ⟨((M.k:Int),M.t,a5',b5',()),fun w'' hw''=>loadN ((kd.trans (Kp.of_below (S:=Off) hw'')).blk c9 id),?_⟩
    have hSet:NdAt Any u0 M (nc M.k M.t a5' b5'):=hM9.any kd
    have hPu:PlAt Any u0 p0 (pc p0.k p0.b p0.e na4 ka4):=PlAt.any hP9 kd
    have oA : ∀ wi,Kp Off u0 wi→Calls Tryz.prog 23 #[.string s,.agg (pc p0.k p0.b p0.e na4 ka4).toArray] wi (NdPost wi (treeN s p0)):=fun wi ki=>tree_any (by omega) _ p0 wi Any na4 ka4 (Nat.lt_succ_self _) hw0 (PlAt.any hPu ki)
    have oB : ∀ wi,Kp Off u0 wi→Calls Tryz.prog 25 #[.string s,.agg (pc p0.k p0.b p0.e na4 ka4).toArray,Ka.slV ((if q.2.2=0 then q.1 else q.1.map fun y=>y.add 0),m-0,q.2.2-0)] wi fun e w'=>(∃ v:Ka.Sl,e = .returned (Ka.slV v)∧Kx w' v toks)∧Kp Off wi w':=fun wi ki=>
      jpTokens_any hs hw0 (PlAt.any hPu ki) (Ka.Kx.take0 (hK.kp ((k09.trans kd).trans ki)) m (by omega)) hW (fun key hk=>hkz key (List.mem_of_mem_take hk)) htkl
    have newC : ∀ w1:World,Blk (w1.alloc (.cells zn.toArray tN (0,0))) w1.heap.size zn tN∧Kp Off w1 (w1.alloc (.cells zn.toArray tN (0,0)))∧(w1.alloc (.cells zn.toArray tN (0,0))).heap.size=w1.heap.size+1:=fun w1=>⟨Blk.new w1 _ _,(Kp.refl Off w1).alloc _,by simp⟩
    have oD : ∀ (wi:World) (R:Nat→Prop) (aA bA v:Sr.Sl),NdAt R wi (treeN s p0) (nc (treeN s p0).k (treeN s p0).t aA bA)→NdAt R wi M (nc M.k M.t a5' b5')→Kx wi v toks→Calls Tryz.prog 24 #[.agg (nc (treeN s p0).k (treeN s p0).t aA bA).toArray,Ka.slV v,.agg (nc M.k M.t a5' b5').toArray] wi (RpPost R wi W2):=by
      intro wi R aA bA v hA hS hv
      rw [hWd]
      exact replace_any hW.pth hSm0 (by omega) wi R aA bA a5' b5' v hA hS hv
    have fin : ∀ (w':World) (g:Nat) (a5 b5:Sr.Sl),Kp Off u0 w'→Blk w' g (nc W2.k W2.t a5 b5) tN→NdAt Any w' W2 (nc W2.k W2.t a5 b5) → ∃ x,[Value.pointer (some ⟨g,0,none⟩)]=(Sh.cons .ptr .nil).vals x ∧ ∃ (g:Nat) (a5 b5:Sr.Sl),x=(some ⟨g,0,none⟩,())∧Blk w' g (nc W2.k W2.t a5 b5) tN∧NdAt Any w' W2 (nc W2.k W2.t a5 b5)∧Kp Off w9 w':=by
      intro w' g a5 b5 k hb hn
      exact ⟨(some ⟨g,0,none⟩,()),rfl,g,a5,b5,rfl,hb,hn,kd.trans k⟩
    refine ⟨?_,?_⟩
    · refine s_hereN (s_call (oA u0 kx0) ?_)
      rintro en u1 ⟨aA,bA,rfl,hA0,kA⟩
      refine ⟨(((treeN s p0).k:Int),(treeN s p0).t,aA,bA,()),rfl,kA.belowOff,?_⟩
      have kx1:=(kx0).trans kA
      have hA:NdAt Any u1 (treeN s p0) (nc (treeN s p0).k (treeN s p0).t aA bA):=hA0.any (Kp.refl _ _)
      refine ⟨?_,?_⟩
      · refine s_hereN (s_call (oB u1 kx1) ?_)
        rintro en u2 ⟨⟨v,rfl,hv⟩,kB⟩
        refine ⟨v,rfl,kB.belowOff,?_⟩
        have kx2:=(kx1).trans kB
        have hA:=hA.kp (B':=Any) kB fun p _ hp=>⟨hp,id⟩
        refine ⟨?_,?_⟩
        · refine s_call (oD u2 Any aA bA v hA (hSet.any kx2) hv) ?_
          rintro en u3 ⟨a5,b5,rfl,hM,kM⟩
          refine ⟨((((W2).k:Int),(W2).t,a5,b5,()),true,()),rfl,s_alloc ?_⟩
          obtain ⟨wZ,hZ,cZ,kZ⟩:=node_new u3 (W2).k (W2).t a5 b5
          refine s_effU hZ (s_leaf ?_)
          rw [if_pos rfl]
          exact fin wZ u3.heap.size a5 b5 ((kx2.trans kM).trans kZ) cZ (hM.any kZ)
        · refine s_hereN (s_alloc ?_)
          obtain ⟨bC,kC,zC⟩:=newC u2
          show sat _ _ _ (u2.alloc (.cells zn.toArray tN (0,0)))
          generalize u2.alloc (.cells zn.toArray tN (0,0))=u3 at bC kC zC
          refine ⟨kC.belowOff,?_⟩
          have hs3:=(kx2).size
          have kx3:=(kx2).trans kC
          have hA:=hA.kp (B':=(fun p=>p≠u2.heap.size)) kC fun p hp _=>⟨Nat.ne_of_lt hp,id⟩
          have hv:=hv.kp kC
          have hS:=hSet.kp (B':=(fun p=>p≠u2.heap.size)) kx3 fun p hp _=>⟨fun e=>by omega,id⟩
          have hg:=bC.lt
          refine s_call (oD u3 (fun p=>p≠u2.heap.size) aA bA v hA hS hv) ?_
          rintro en u4 ⟨a5,b5,rfl,hM,kM⟩
          refine ⟨((((W2).k:Int),(W2).t,a5,b5,()),true,()),rfl,?_⟩
          obtain ⟨wZ,hZ,cZ,kZ⟩:=storeN (kM.blk bC id) rfl (W2).k (W2).t a5 b5
          have hks:=(kx3).size
          refine s_effU hZ (s_leaf ?_)
          rw [if_pos rfl]
          refine fin wZ u2.heap.size a5 b5 ((kx3.trans kM).then kZ fun p hp e => ?_) cZ (hM.kp kZ fun p _ hp=>⟨trivial,fun e => ?_⟩)
          · have e:p=u2.heap.size:=e
            omega
          · have e:p=u2.heap.size:=e
            rcases hp with ⟨_,hp⟩ | hp
            · exact hp e
            · omega
      · refine s_hereN (s_alloc ?_)
        obtain ⟨bC,kC,zC⟩:=newC u1
        show sat _ _ _ (u1.alloc (.cells zn.toArray tN (0,0)))
        generalize u1.alloc (.cells zn.toArray tN (0,0))=u2 at bC kC zC
        refine ⟨kC.belowOff,?_⟩
        have hs2:=(kx1).size
        have kx2:=(kx1).trans kC
        have hA:=hA.kp (B':=(fun p=>p≠u1.heap.size)) kC fun p hp _=>⟨Nat.ne_of_lt hp,id⟩
        have hS:=hSet.kp (B':=(fun p=>p≠u1.heap.size)) kx2 fun p hp _=>⟨fun e=>by omega,id⟩
        have hg:=bC.lt
        refine s_hereN (s_call (oB u2 kx2) ?_)
        rintro en u3 ⟨⟨v,rfl,hv⟩,kB⟩
        refine ⟨v,rfl,kB.belowOff,?_⟩
        have kx3:=(kx2).trans kB
        have hA:=hA.kp (B':=(fun p=>p≠u1.heap.size)) kB fun p _ hp=>⟨hp,id⟩
        have bC:=kB.blk bC id
        have hS:=hS.kp (B':=(fun p=>p≠u1.heap.size)) kB fun p _ hp=>⟨hp,id⟩
        have hg:=bC.lt
        refine s_call (oD u3 (fun p=>p≠u1.heap.size) aA bA v hA hS hv) ?_
        rintro en u4 ⟨a5,b5,rfl,hM,kM⟩
        refine ⟨((((W2).k:Int),(W2).t,a5,b5,()),true,()),rfl,?_⟩
        obtain ⟨wZ,hZ,cZ,kZ⟩:=storeN (kM.blk bC id) rfl (W2).k (W2).t a5 b5
        have hks:=(kx3).size
        refine s_effU hZ (s_leaf ?_)
        rw [if_pos rfl]
        refine fin wZ u1.heap.size a5 b5 ((kx3.trans kM).then kZ fun p hp e => ?_) cZ (hM.kp kZ fun p _ hp=>⟨trivial,fun e => ?_⟩)
        · have e:p=u1.heap.size:=e
          omega
        · have e:p=u1.heap.size:=e
          rcases hp with ⟨_,hp⟩ | hp
          · exact hp e
          · omega
    · refine s_hereN (s_alloc ?_)
      obtain ⟨bC,kC,zC⟩:=newC u0
      show sat _ _ _ (u0.alloc (.cells zn.toArray tN (0,0)))
      generalize u0.alloc (.cells zn.toArray tN (0,0))=u1 at bC kC zC
      refine ⟨kC.belowOff,?_⟩
      have hs1:=(kx0).size
      have kx1:=(kx0).trans kC
      have hS:=hSet.kp (B':=(fun p=>p≠u0.heap.size)) kx1 fun p hp _=>⟨fun e=>by omega,id⟩
      have hg:=bC.lt
      refine s_hereN (s_call (oA u1 kx1) ?_)
      rintro en u2 ⟨aA,bA,rfl,hA0,kA⟩
      refine ⟨(((treeN s p0).k:Int),(treeN s p0).t,aA,bA,()),rfl,kA.belowOff,?_⟩
      have kx2:=(kx1).trans kA
      have hA:NdAt (fun p=>p≠u0.heap.size) u2 (treeN s p0) (nc (treeN s p0).k (treeN s p0).t aA bA):=hA0.kp (Kp.refl Off _) fun p _ hp=>⟨fun e=>by have hp:u1.heap.size≤p:=hp;omega,id⟩
      have bC:=kA.blk bC id
      have hS:=hS.kp (B':=(fun p=>p≠u0.heap.size)) kA fun p _ hp=>⟨hp,id⟩
      have hg:=bC.lt
      refine s_hereN (s_call (oB u2 kx2) ?_)
      rintro en u3 ⟨⟨v,rfl,hv⟩,kB⟩
      refine ⟨v,rfl,kB.belowOff,?_⟩
      have kx3:=(kx2).trans kB
      have hA:=hA.kp (B':=(fun p=>p≠u0.heap.size)) kB fun p _ hp=>⟨hp,id⟩
      have bC:=kB.blk bC id
      have hS:=hS.kp (B':=(fun p=>p≠u0.heap.size)) kB fun p _ hp=>⟨hp,id⟩
      have hg:=bC.lt
      refine s_call (oD u3 (fun p=>p≠u0.heap.size) aA bA v hA hS hv) ?_
      rintro en u4 ⟨a5,b5,rfl,hM,kM⟩
      refine ⟨((((W2).k:Int),(W2).t,a5,b5,()),true,()),rfl,?_⟩
      obtain ⟨wZ,hZ,cZ,kZ⟩:=storeN (kM.blk bC id) rfl (W2).k (W2).t a5 b5
      have hks:=(kx3).size
      refine s_effU hZ (s_leaf ?_)
      rw [if_pos rfl]
      refine fin wZ u0.heap.size a5 b5 ((kx3.trans kM).then kZ fun p hp e => ?_) cZ (hM.kp kZ fun p _ hp=>⟨trivial,fun e => ?_⟩)
      · have e:p=u0.heap.size:=e
        omega
      · have e:p=u0.heap.size:=e
        rcases hp with ⟨_,hp⟩ | hp
        · exact hp e
        · omega
  rintro _ w10 ⟨gW,a6,b6,rfl,c10,hW10,k10⟩
  show sat _ (laws_FnJqAppendNew.t4 s a q.1 q.2.1 q.2.2 (some ⟨gW,0,none⟩)) _ _
  unfold laws_FnJqAppendNew.t4
  have k010:=k09.trans k10
  have hK':Kx W q (keys.take m++kn :: rs):=by rw [← hkeys];exact hK
  have hAs : ∀ r ∈ rs,Ed.AsIs r:=fun r hr=>(hall r (List.mem_cons_of_mem _ hr)).1
  have hAk:Ed.AsIs kn:=(hall kn (List.mem_cons_self ..)).1
  have hzn:=newT_le hNew (arrB a).data.toList
  have hal:(arrB a).data.toList.length=a.size+2:=by rw [Ed.len_of,arrB_size]
  refine s_call (Ka.jqAppendNew_any (t:=a) (by omega) (hC.off k010) (hT.off' k010) (hE.kp k010 id) (hk.kp k010) (hK'.kp k010) hNew (by omega) (by omega)) ?_
  rintro en w11 ⟨rfl,k11⟩
  have k011:=k010.trans k11
  obtain ⟨pv,hwv,hvb,hve,htv⟩:=arr_one (v:=arrB a) hwa hab hae rfl
  subst hlast
  obtain ⟨q',hq',hwq,htq⟩:=newT_tree (v:=arrB a) (pv:=pv) hL hW hAk hAs hwv hvb hve
  generalize newT s (keys.take m) b e ks kn rs (arrB a).data.toList=T at hq' hwq htq hzn
  refine ⟨(T,true,()),rfl,?_⟩
  have hM2:M = .mk 6 (ByteArray.mk #[]) (ns.map (nmS s)++[kn]) (treeL s ks++[chain (treeN (arrB a) pv) rs]):=by
    rw [hMd,htv,Ed.tree_eq];rfl
  have hT2:treeN T q'=W2:=by rw [htq,hWd,hM2]
  have hread:=read_any (w:=w11) (s:=T) (by omega)
  rw [show (places T).isSome=true by rw [hq'];rfl] at hread
  refine s_call hread ?_
  rintro en w12 ⟨nb,a12,b12,rfl,hN12,ht12,_,k12⟩
  have e12:nb=W2:=(ht12 q' hq').trans hT2
  subst e12
  refine ⟨(((nb.k:Int),nb.t,a12,b12,()),true,()),rfl,s_alloc ?_⟩
  obtain ⟨w13,h13,c13,k13⟩:=node_new w12 nb.k nb.t a12 b12
  refine s_effU h13 (sat_iteT.2 (sat_iteT.2 ?_))
  have k1013:=(k11.trans k12).trans k13
  refine s_eff (w':=w13) ((nb.k:Int),nb.t,a12,b12,()) (loadN c13) (s_ptr ?_)
  refine s_eff (w':=w13) ((nb.k:Int),nb.t,a6,b6,()) (loadN (k1013.blk c10 id)) ?_
  have hSmA:Sm (treeN a pa):=sm_tree (by omega) _ pa (Nat.lt_succ_self _) hwa
  have hSm:Sm nb:=by
    rw [hWd,hMd]
    refine sm_repl (sm_more ⟨hlk,hld,sm_tree (by omega) _ _ (Nat.lt_succ_self _) hwl⟩ (sm_chain (Sm.mk' (by simp) (by simp) fun c hc => ?_) rs)) is _ hSm0
    rcases List.mem_cons.1 hc with rfl | hc
    · exact hSmA
    · exact absurd hc List.not_mem_nil
  refine s_call (same_any _ nb w13 Any Any a12 b12 a6 b6 (Nat.lt_succ_self _) hSm (hN12.any k13) (hW10.any k1013)) ?_
  rintro en w14 ⟨rfl,k14⟩
  exact ⟨true,rfl,s_leaf ⟨rfl,done w14 ((k010.trans k1013).trans k14)⟩⟩
open Go.ChangeShapes Go.WideShapes
set_option maxRecDepth 100000 in
theorem walk {H:Type} {enc:TypeId×Value→H} {base:Nat} {spare:Nat→Bool} {held:Bool} {r:Reach} {b0:Nat} (s a:ByteArray) (v:Value) (W:World) {d:DataW H} {p:List MemPlace} (_:s.size≤140737488351232) (_:a.size≤140737488351232)
    (hv:Value.okWide Tryz.prog W r b0 Lv.tKs v) (h:DataW.Trod enc Tryz.prog W base spare held Lv.tKs v d p) (hL:laidMetH Tryz.prog Rows.fnJqAppendNewRow.laid W)
    (hk:Rows.uptoSmall H [.lit (.string s.data.toList),.lit (.string a.data.toList),d]=true) :
    Calls Tryz.prog 5 #[.string s,.string a,v] W fun e w'=>e = .returned (.bool true)∧RowKit.Below W.heap.size W w':=by
  have hM:=Lv.laid_of_H hL (by kernel_rfl)
  obtain ⟨q,keys,rfl,hK,ht⟩:=Lv.keys_bulk hv h
  have hb:Rows.uptoBulkAll [(.lit (.string s.data.toList):DataW H),.lit (.string a.data.toList),d]≤1048576:=of_decide_eq_true hk
  simp only [Rows.uptoBulkAll,Rows.uptoBulk] at hb
  obtain ⟨ak,hak⟩:=Lv.evK (Lv.laidMet_drop 7 _ hM)
  have h1:=Ed.len_of s
  have h2:=Ed.len_of a
  exact walk_q hK (Lv.cv_of (Lv.laidMet_drop 5 _ hM)) (Lv.lt_of (Lv.laidMet_drop 6 _ hM)) (Lv.evE (Lv.laidMet_drop 13 _ hM)) hak (by omega) (by omega) (by omega)
end Go.Proofs.YtlfebfkphgelfaaGreatDoor.LawJqAppendNew
