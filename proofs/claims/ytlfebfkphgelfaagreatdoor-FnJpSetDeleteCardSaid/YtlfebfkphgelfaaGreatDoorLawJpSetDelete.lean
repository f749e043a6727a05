import Derived.Test.YtlfebfkphgelfaaGreatDoorWF
import Derived.Test.YtlfebfkphgelfaaGreatDoorWC
import Derived.Test.YtlfebfkphgelfaaGreatDoorWB
import Derived.Test.YtlfebfkphgelfaaGreatDoorTd
import Derived.Test.YtlfebfkphgelfaaGreatDoorWL
namespace Go.Proofs.YtlfebfkphgelfaaGreatDoor.LawJpSetDelete
open Go Go.Proofs Go.RowKit Rx Tr Pl Pw Lj
open Sr (tP pc storeP loadP zp PlAt places)
open Ka (Kx nmS Led New newT clen compL)
open Ed (put put_size mkB mkB_size)
open Nt (NT NdAt nc zn tN loadN storeN treeN Sm sm_tree read_any unique_any same_any straight_any)
theorem newT_le {s:ByteArray} {p0:PT} {ks1 rs:List ByteArray} {k:ByteArray} {b e:Nat} {ns:List (Nat×Nat)} {ks:List PT} (hN:New s p0 ks1 b e ns ks k rs) (v:List UInt8):(newT s ks1 b e ks k rs v).size≤s.size+(k.size+7+v.length+clen rs):=by
  obtain ⟨w1,w2,_,_⟩:=Gk.wf_obj hN.led.wfp
  have hl:=fun c o=>Ka.comp_len c o k rs v
  have hb : ∀ x,Ka.b1 x≤1:=fun x=>by cases x <;> decide
  unfold newT
  split
  · have h:=hl true false
    have h1:=hb true
    have h2:=hb false
    rw [put_size (by omega) (by omega),mkB_size];omega
  · split
    · have h:=hl false false
      have h2:=hb false
      rw [put_size (by omega) (by omega),mkB_size];omega
    · have h:=hl false true
      have h1:=hb true
      have h2:=hb false
      rw [put_size (by omega) (by omega),mkB_size];omega
theorem walk_q {s a:ByteArray} {q:Ka.Sl} {keys:List ByteArray} {W:World} {ak:Addr} (hK:Kx W q keys) (hC:Je.Cv W) (hT:Je.Lt W) (hE:Je.Ev W Je.gE) (hk:Ka.Ek W ak) :
    Calls Tryz.prog 3 #[.string s,.string a,Ka.slV q] W fun e w'=>e = .returned (.bool true)∧RowKit.Below W.heap.size W w':=by
  refine laws_FnJpSetDelete.calls _ _ _ _ _ ?_
  unfold laws_FnJpSetDelete.t
  have hl:=hK.len
  have done : ∀ (w1:World),Kp Off W w1→(Ending.returned (retVal [.bool true]) = .returned (.bool true)∧RowKit.Below W.heap.size W w1):=fun w1 h=>⟨rfl,h.belowOff⟩
  refine s_cut (fun z w'=>(z.1=true∨(z.1=false∧keys.length≤2147483647 ∧ ∀ key ∈ keys,key.size≤2147483647))∧W=w') (s_iteD (fun _=>s_leaf ?_) (fun _=>s_iteD (fun _=>s_leaf ?_) (fun _ => ?_))) ?_
  · rw [if_pos rfl];exact ⟨(true,()),rfl,.inl rfl,rfl⟩
  · rw [if_pos rfl];exact ⟨(true,()),rfl,.inl rfl,rfl⟩
  · refine s_call (fits1s_any hK) ?_
    rintro e w1 ⟨⟨b,rfl,hb⟩,rfl⟩
    refine ⟨b,rfl,s_leaf ?_⟩
    rw [if_pos rfl]
    refine ⟨(!b,()),rfl,?_,rfl⟩
    cases b with
    | false=>exact .inl rfl
    | true=>exact .inr ⟨rfl,hb rfl⟩
  rintro ⟨bb,u⟩ w' ⟨hbb,rfl⟩
  show sat _ (laws_FnJpSetDelete.t1 s a q.1 q.2.1 q.2.2 bb) _ _
  unfold laws_FnJpSetDelete.t1
  rcases hbb with hbb | ⟨hbb,hkl,hkz0⟩
  · have hbb:bb=true:=hbb
    subst hbb
    exact sat_iteT.2 (s_leaf ⟨rfl,done W (Kp.refl _ _)⟩)
  have hkz : ∀ key ∈ keys,key.size≤140737488351232:=fun key hk=>Nat.le_trans (hkz0 key hk) (by decide)
  have hbb:bb=false:=hbb
  subst hbb
  refine sat_iteF.2 ?_
  have place : ∀ (w1:World) (k b e1:Int) (na ka:Sr.Sl),∃ w2,(Instr.storeAt tP (.pointer (some ⟨w1.heap.size,0,none⟩)) (.agg (pc k b e1 na ka).toArray)).run Tryz.prog (w1.alloc (.cells zp.toArray tP (0,0))) = .ok () w2∧Blk w2 w1.heap.size (pc k b e1 na ka) tP∧Kp Off w1 w2:=by
    intro w1 k b e1 na ka
    obtain ⟨w2,h2,c2,k2⟩:=storeP (Blk.new w1 zp tP) rfl k b e1 na ka
    exact ⟨w2,h2,c2,(((Kp.refl (fun q=>q=w1.heap.size) w1).alloc _).trans (k2.mono fun q _ h=>h)).mono fun q hq h=>by omega⟩
  have node : ∀ (w1:World) (k:Int) (t:ByteArray) (na ka:Sr.Sl),∃ w2,(Instr.storeAt tN (.pointer (some ⟨w1.heap.size,0,none⟩)) (.agg (nc k t na ka).toArray)).run Tryz.prog (w1.alloc (.cells zn.toArray tN (0,0))) = .ok () w2∧Blk w2 w1.heap.size (nc k t na ka) tN∧Kp Off w1 w2:=by
    intro w1 k t na ka
    obtain ⟨w2,h2,c2,k2⟩:=storeN (Blk.new w1 zn tN) rfl k t na ka
    exact ⟨w2,h2,c2,(((Kp.refl (fun q=>q=w1.heap.size) w1).alloc _).trans (k2.mono fun q _ h=>h)).mono fun q hq h=>by omega⟩
  refine s_call (jpNew_any (s:=s) hK hkz (by omega)) ?_
  rintro e w1 ⟨⟨n,y,rfl,hy⟩,k1⟩
  refine ⟨(n,y,()),rfl,?_⟩
  refine s_call (jpPlaces_any (s:=a)) ?_
  rintro e w2 ⟨⟨k5,b5,e5,na5,ka5,x5,rfl,hx5⟩,k2⟩
  refine ⟨((k5,b5,e5,na5,ka5,()),x5,()),rfl,s_alloc ?_⟩
  obtain ⟨w3,h3,c3,k3⟩:=place w2 k5 b5 e5 na5 ka5
  refine s_effU h3 ?_
  have k03:=(k1.trans k2).trans k3
  have yes : ∃ z:(Bool×PUnit),[Value.bool true]=(Sh.cons .bool .nil).vals z∧(z.1=true∨(z.1=false∧y=true∧x5=true ∧ ¬ IntKind.wrap IntKind.i64 (n+(1:Int))<((q.2.1:Nat):Int)))∧w3=w3:=⟨(true,()),rfl,.inl rfl,rfl⟩
  refine s_cut (fun z w'=>(z.1=true∨(z.1=false∧y=true∧x5=true ∧ ¬ IntKind.wrap IntKind.i64 (n+(1:Int))<((q.2.1:Nat):Int)))∧w3=w') ?_ ?_
  · refine s_ite (fun g=>s_leaf (by rw [if_pos rfl];exact yes)) (fun g1=>s_ite (fun g=>s_leaf (by rw [if_pos rfl];exact yes)) (fun g2=>s_iteD (fun g=>s_leaf (by rw [if_pos rfl];exact yes)) (fun g3 => ?_)))
    refine s_call (straight_any (hK.kp k03) hkz (by omega)) ?_
    rintro e w4 ⟨⟨bb,rfl,_⟩,rfl⟩
    refine ⟨bb,rfl,s_leaf ?_⟩
    rw [if_pos rfl]
    refine ⟨(!bb,()),rfl,?_,rfl⟩
    cases bb with
    | false=>exact .inl rfl
    | true=>exact .inr ⟨rfl,by simpa using g1,by simpa using g2,g3⟩
  rintro ⟨bb,u⟩ w' ⟨hbb,rfl⟩
  show sat _ (laws_FnJpSetDelete.t2 s a q.1 q.2.1 q.2.2 ⟨w2.heap.size,0,none⟩ bb) _ _
  unfold laws_FnJpSetDelete.t2
  rcases hbb with hbb | ⟨hbb,rfl,rfl,hn1⟩
  · have hbb:bb=true:=hbb
    subst hbb
    exact sat_iteT.2 (s_leaf ⟨rfl,done w3 k03⟩)
  have hbb:bb=false:=hbb
  subst hbb
  clear yes
  obtain ⟨haz,pa,hpa,_,rfl,rfl,_⟩:=hx5 rfl
  obtain ⟨hab,hwa,hae⟩:=places_of hpa
  obtain ⟨p0,last,m,rfl,h6,hEnd⟩:=hy rfl
  have hs:=hEnd.size
  have hlt:=hEnd.lt
  have hm1:keys.length=m+1:=by
    rw [wrap_in (by omega) (by omega)] at hn1
    omega
  obtain ⟨kn,hkr⟩ : ∃ kn,keys.drop m=[kn]:=by
    have hd:=List.length_drop (l:=keys) (i:=m)
    cases hd':keys.drop m with
    | nil=>rw [hd'] at hd;simp at hd;omega
    | cons kn rs=>
      rw [hd'] at hd
      cases rs with
      | nil=>exact ⟨kn,rfl⟩
      | cons r rs=>simp at hd;omega
  have hkeys:keys=keys.take m++[kn]:=by rw [← hkr];exact (List.take_append_drop m keys).symm
  have hkn:keys[m]?=some kn:=by
    have:(keys.drop m)[0]?=some kn:=by rw [hkr];rfl
    rwa [List.getElem?_drop,Nat.add_zero] at this
  have hall : ∀ key ∈ [kn],Ed.AsIs key∧Ka.NoI key:=fun key hk=>hEnd.asis key (by rw [hkr];exact hk)
  obtain ⟨hAs,hNo⟩:=hall kn (List.mem_cons_self ..)
  have hkn1:=hkz0 kn (by rw [hkeys];exact List.mem_append_right _ (List.mem_cons_self ..))
  have htk:(keys.take m).length≤2147483647:=by rw [List.length_take];omega
  obtain ⟨b,e,ns,ks,hNew,hnk⟩:=new_of (ks1:=keys.take m) (rs:=[]) (k:=kn) hEnd.led h6 (hEnd.no kn hkn) (by rw [← hkeys];exact hEnd.once) (fun key hk=>(hall key hk).2)
  have hL:=hNew.led
  have hpl:places s=some p0:=Sr.places_of_wf hL.at0 hL.wf hL.fin
  obtain ⟨p0',r,ns',ks',t,nn,p,f,jt,hD,hgap⟩:=Ed.setdel hL hnk hAs hwa hab hae
  have hzn:=newT_le hNew a.data.toList
  have hal:a.data.toList.length=a.size:=Ed.len_of a
  rw [show clen []=0 from rfl,hal] at hzn
  have hzn:(newT s (keys.take m) b e ks kn [] a.data.toList).size≤4000000000:=by omega
  have hcl:clen []=0:=rfl
  have hK':Kx W q (keys.take m++[kn]):=by rw [← hkeys];exact hK
  refine sat_iteF.2 (s_call (read_any (s:=s) (by omega)) ?_)
  rintro en w4 ⟨nt,a4,b4,rfl,hN4,ht4,_,k4⟩
  have e4:=ht4 p0 hpl
  subst e4
  refine ⟨((((treeN s p0).k:Int),(treeN s p0).t,a4,b4,()),(places s).isSome,()),rfl,s_alloc ?_⟩
  obtain ⟨w5,h5,c5,k5'⟩:=node w4 (treeN s p0).k (treeN s p0).t a4 b4
  refine s_effU h5 ?_
  refine s_call (read_any (s:=a) (by omega)) ?_
  rintro en w6 ⟨na,a6,b6,rfl,hN6,ht6,_,k6⟩
  have e6:=ht6 pa hpa
  subst e6
  refine ⟨((((treeN a pa).k:Int),(treeN a pa).t,a6,b6,()),(places a).isSome,()),rfl,s_alloc ?_⟩
  obtain ⟨w7,h7,c7,k7⟩:=node w6 (treeN a pa).k (treeN a pa).t a6 b6
  refine s_effU h7 ?_
  have c57:=(k6.trans k7).blk c5 id
  have c37:=(((k4.trans k5').trans k6).trans k7).blk c3 id
  have k07:=(((k03.trans k4).trans k5').trans k6).trans k7
  have hS7:NdAt Any w7 (treeN s p0) (nc (treeN s p0).k (treeN s p0).t a4 b4):=hN4.kp ((k5'.trans k6).trans k7) fun q _ _=>⟨trivial,id⟩
  have hA7:NdAt Any w7 (treeN a pa) (nc (treeN a pa).k (treeN a pa).t a6 b6):=hN6.kp k7 fun q _ _=>⟨trivial,id⟩
  have sS:Sm (treeN s p0):=sm_tree (by omega) _ p0 (Nat.lt_succ_self _) hL.wf
  have sA:Sm (treeN a pa):=sm_tree (by omega) _ pa (Nat.lt_succ_self _) hwa
  refine s_cut (fun _ w'=>Kp Off w7 w') ?_ ?_
  · refine s_eff (w':=w7) (((treeN s p0).k:Int),(treeN s p0).t,a4,b4,()) (loadN c57) ?_
    refine s_call (unique_any _ (treeN s p0) w7 Any a4 b4 (Nat.lt_succ_self _) sS hS7) ?_
    rintro en w8 ⟨⟨r8,rfl⟩,k8⟩
    refine ⟨r8,rfl,s_ite (fun _=>s_leaf (by rw [if_pos rfl];exact ⟨(true,()),rfl,k8⟩)) (fun _ => ?_)⟩
    refine s_eff (w':=w8) (((treeN a pa).k:Int),(treeN a pa).t,a6,b6,()) (loadN (k8.blk c7 id)) ?_
    refine s_call (unique_any _ (treeN a pa) w8 Any a6 b6 (Nat.lt_succ_self _) sA (hA7.kp k8 fun q _ _=>⟨trivial,id⟩)) ?_
    rintro en w9 ⟨⟨r9,rfl⟩,k9⟩
    exact ⟨r9,rfl,s_leaf (by rw [if_pos rfl];exact ⟨(!r9,()),rfl,k8.trans k9⟩)⟩
  rintro ⟨bb,u⟩ w8 k78
  have k78:Kp Off w7 w8:=k78
  show sat _ (laws_FnJpSetDelete.t3 s a q.1 q.2.1 q.2.2 ⟨w2.heap.size,0,none⟩ ⟨w4.heap.size,0,none⟩ bb) _ _
  unfold laws_FnJpSetDelete.t3
  have k08:=k07.trans k78
  cases bb with
  | true=>exact sat_iteT.2 (s_leaf ⟨rfl,done w8 k08⟩)
  | false=>
  refine sat_iteF.2 (s_call (Ka.jpSetNew_any (t:=a) (by omega) (hC.off k08) (hT.off' k08) (hE.kp k08 id) (hk.kp k08) (hK'.kp k08) hNew (by omega) (by omega)) ?_)
  rintro en w9 ⟨rfl,k9⟩
  generalize newT s (keys.take m) b e ks kn [] a.data.toList=T at hD hgap hzn
  refine ⟨(T,true,()),rfl,?_⟩
  have k09:=k08.trans k9
  have hesc : ∀ j,j<kn.size→Ut.bn kn j≠92:=fun j hj=>by
    have h1:=(hAs j hj).2.2
    rw [Ut.bt_bn] at h1
    omega
  refine s_call (Ka.jpDelete_any (s:=T) (by omega) hD (hC.off k09) (hT.off' k09) (hE.kp k09 id) (hk.kp k09) (hK'.kp k09) (by omega) hesc (fun _=>hNo.2) (by omega)) ?_
  rintro en w10 ⟨A,E,rfl,hH,hAE,hEs,k10⟩
  have k010:=k09.trans k10
  obtain ⟨D,hG,hbA,hDA,hDz⟩:=hgap A E hH hAE
  have hz:=put_size (t:=ByteArray.mk #[]) hAE hEs
  have hz0:(ByteArray.mk #[]).size=0:=rfl
  have hbz:(put T A E (ByteArray.mk #[])).size≤140000:=by
    have h1:=hG.size
    have h2:=hG.le
    have h3:=hG.es
    rw [h1]
    unfold Ed.sh
    omega
  clear hz
  generalize put T A E (ByteArray.mk #[])=back at hG hbz
  refine ⟨back,rfl,?_⟩
  have c310:=((k78.trans k9).trans k10).blk c37 id
  have c510:=((k78.trans k9).trans k10).blk c57 id
  have hS10:NdAt Any w10 (treeN s p0) (nc (treeN s p0).k (treeN s p0).t a4 b4):=hS7.kp ((k78.trans k9).trans k10) fun q _ _=>⟨trivial,id⟩
  refine s_cut (fun z w'=>(z.1=true→pa.e=a.size)∧w10=w') ?_ ?_
  · refine s_load (pa.b:Int) (by rw [addr_add,Nat.zero_add,c310.cell];rfl) (s_ite (fun _=>s_load (pa.e:Int) (by rw [addr_add,Nat.zero_add,c310.cell];rfl) (s_leaf ?_)) (fun _=>s_leaf ?_))
    · rw [if_pos rfl]
      refine ⟨(((pa.e:Int)==(((ByteArray.size a):Nat):Int)),()),rfl,fun g => ?_,rfl⟩
      have g:((pa.e:Int)==(((ByteArray.size a):Nat):Int))=true:=g
      have:=beq_iff_eq.1 g
      omega
    · rw [if_pos rfl];exact ⟨(false,()),rfl,(fun g=>by cases g),rfl⟩
  rintro ⟨bb,u⟩ w' ⟨hbare,rfl⟩
  have hbare:bb=true→pa.e=a.size:=hbare
  show sat _ (laws_FnJpSetDelete.t4 s ⟨w4.heap.size,0,none⟩ (T,true,()) back bb) _ _
  unfold laws_FnJpSetDelete.t4
  obtain ⟨C,rfl⟩ : ∃ C,e=C+1:=⟨e-1,by have:=(Gk.wf_obj hL.wfp).1;omega⟩
  have hG':Ed.Gap s back A C D:=hG
  obtain ⟨pq,hpq,hwq,htq⟩:=Ed.gap_read hG' hL hbA
  have hread:=read_any (w:=w10) (s:=back) (by omega)
  rw [show (places back).isSome=true by rw [hpq];rfl] at hread
  refine s_call hread ?_
  rintro en w11 ⟨nb,a11,b11,rfl,hN11,ht11,_,k11⟩
  have e11:nb=treeN s p0:=(ht11 pq hpq).trans htq
  subst e11
  refine ⟨((((treeN s p0).k:Int),(treeN s p0).t,a11,b11,()),true,()),rfl,s_alloc ?_⟩
  obtain ⟨w12,h12,c12,k12⟩:=node w11 (treeN s p0).k (treeN s p0).t a11 b11
  refine s_effU h12 (sat_iteT.2 (sat_iteT.2 ?_))
  have c512:=(k11.trans k12).blk c510 id
  refine s_eff (w':=w12) (((treeN s p0).k:Int),(treeN s p0).t,a11,b11,()) (loadN c12) ?_
  refine s_eff (w':=w12) (((treeN s p0).k:Int),(treeN s p0).t,a4,b4,()) (loadN c512) ?_
  have hB12:NdAt Any w12 (treeN s p0) (nc (treeN s p0).k (treeN s p0).t a11 b11):=hN11.kp k12 fun q _ _=>⟨trivial,id⟩
  have hS12:NdAt Any w12 (treeN s p0) (nc (treeN s p0).k (treeN s p0).t a4 b4):=hS10.kp (k11.trans k12) fun q _ _=>⟨trivial,id⟩
  have k012:=(k010.trans k11).trans k12
  refine s_call (same_any _ (treeN s p0) w12 Any Any a11 b11 a4 b4 (Nat.lt_succ_self _) sS hB12 hS12) ?_
  rintro en w13 ⟨rfl,k13⟩
  have k013:=k012.trans k13
  refine ⟨true,rfl,sat_iteT.2 (s_call (Ed.tight_any (s:=s) (by omega)) ?_)⟩
  rintro en w14 ⟨⟨rt,rfl,htg⟩,rfl⟩
  refine ⟨rt,rfl,?_⟩
  cases rt with
  | false=>exact sat_iteT.2 (s_leaf ⟨rfl,done _ k013⟩)
  | true=>
    refine sat_iteF.2 ?_
    cases bb with
    | false=>exact sat_iteT.2 (s_leaf ⟨rfl,done _ k013⟩)
    | true=>
      refine sat_iteF.2 (s_leaf ⟨rfl,?_⟩)
      have hA:A=C:=Ed.tg_gap hL (htg rfl) hG
      have hDD:=hDA (hbare rfl)
      subst hA;subst hDD
      have:=Ed.gap_same hG'
      subst this
      show Ending.returned (retVal [.bool (strEq back back)])=_∧_
      rw [strEq_iff.2 rfl]
      exact done _ k013
open Go.ChangeShapes Go.WideShapes
set_option maxRecDepth 100000 in
theorem walk {H:Type} {enc:TypeId×Value→H} {base:Nat} {spare:Nat→Bool} {held:Bool} {r:Reach} {b0:Nat} (s a:ByteArray) (v:Value) (W:World) {d:DataW H} {p:List MemPlace} (_:s.size≤140737488351232) (_:a.size≤140737488351232)
    (hv:Value.okWide Tryz.prog W r b0 Lv.tKs v) (h:DataW.Trod enc Tryz.prog W base spare held Lv.tKs v d p) (hL:laidMetH Tryz.prog Rows.fnJpSetDeleteRow.laid W) :
    Calls Tryz.prog 3 #[.string s,.string a,v] W fun e w'=>e = .returned (.bool true)∧RowKit.Below W.heap.size W w':=by
  have hM:=Lv.laid_of_H hL (by kernel_rfl)
  obtain ⟨q,keys,rfl,hK⟩:=Lv.keys_open hv h
  obtain ⟨ak,hak⟩:=Lv.evK (Lv.laidMet_drop 7 _ hM)
  exact walk_q hK (Lv.cv_of (Lv.laidMet_drop 5 _ hM)) (Lv.lt_of (Lv.laidMet_drop 6 _ hM)) (Lv.evE (Lv.laidMet_drop 13 _ hM)) hak
end Go.Proofs.YtlfebfkphgelfaaGreatDoor.LawJpSetDelete
