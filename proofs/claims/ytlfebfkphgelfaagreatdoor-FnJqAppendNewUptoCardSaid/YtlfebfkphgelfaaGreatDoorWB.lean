import Derived.Test.YtlfebfkphgelfaaGreatDoorMI
import Derived.Test.YtlfebfkphgelfaaGreatDoorWA
import Derived.LaidEql
import Derived.Test.YtlfebfkphgelfaaGreatDoorTb
import Derived.Test.YtlfebfkphgelfaaGreatDoorTc
import Derived.Lib.LazyBuf
import Derived.Test.YtlfebfkphgelfaaGreatDoorTd
namespace Go.Proofs.YtlfebfkphgelfaaGreatDoor.Ka
open Go Go.Proofs Go.RowKit Rx Tr Pl Pw Sk
variable {w w':World} {x q:Sl} {s:ByteArray} {keys:List ByteArray} {p0 p:PT}
abbrev tPE:TypeId:=153
def gK:Nat:=1
def Ek (w:World) (a:Addr):Prop:=w.cell? ⟨gK,0,none⟩=some (.iface tPE (.pointer (some a)))
theorem Ek.kp {a:Addr} (h:Ek w a) (k:Kp Off w w'):Ek w' a:=by
  unfold Ek
  rw [k.cell (a:=⟨gK,0,none⟩) (Ms.cell_lt h) id];exact h
structure Mis (s:ByteArray) (p0:PT) (keys:List ByteArray):Prop where
  at0:bl s 0=p0.b
  wf:WfV s p0
  fin:bl s p0.e=s.size
  miss:Gk.Miss (nmS s) ixS p0 keys
theorem Mis.find (h:Mis s p0 keys):Gk.Go s (nmS s) ixS s.size keys 0 0 0 true none:=by
  have hlt:=h.wf.lt
  have g1:=Gk.go_miss h.miss h.wf s.size keys 0 hlt.2 rfl (fun j g1 g2=>bl_blank s p0.e j g1 (by rw [h.fin];exact g2))
  exact Gk.Go.gap (a:=0) (b:=p0.b) rfl (Nat.zero_le _) (by omega) (fun j _ hj=>bl_blank s 0 j (Nat.zero_le _) (by rw [h.at0];exact hj)) g1
theorem getK_miss {a:Addr} (hs:s.size≤8000000000) (hL:Je.Lt w) (hE:Je.Ev w Je.gE) (hk:Ek w a) (hT:Tx w x s 0 s.size) (hKx:Kx w q keys) (h:Mis s p0 keys) :
    Calls Tryz.prog 65 #[cfg 0,slV x,slV q] w fun en w'=>en = .returned (.tuple #[.slice none 0 0,.int .i64 0,.int .i64 (-1),.int .i64 (-1),.iface tPE (.pointer (some a))])∧Kp Off w w':=by
  have hl:=hKx.len
  have hne:=h.miss.ne
  have hpos:=List.length_pos_iff.2 hne
  refine jsonparser_internalGetConfig.calls _ _ _ _ _ _ _ _ _ ?_
  unfold jsonparser_internalGetConfig.t
  refine s_alloc ?_
  have b0:=Blk.new w (cfC 0) tCf
  have k0:Kp Off w (w.alloc (.cells (cfC 0).toArray tCf (0,0))):=(Kp.refl Off w).alloc _
  show sat _ _ _ (w.alloc (.cells (cfC 0).toArray tCf (0,0)))
  generalize w.alloc (.cells (cfC 0).toArray tCf (0,0))=w1 at k0 b0
  refine s_cut (fun _ _=>False) (s_iteD (fun g => ?_) (fun g=>absurd (by omega) g)) (fun _ _ g=>g.elim)
  refine s_eff (w':=w1) (false,false,(0:Int),()) (cfg_run b0) ?_
  refine s_call (search_opt (r:=none) hs (hL.off' k0) (hE.kp k0 id) (hT.kp k0) (hKx.kp k0) (.inr ⟨hne,h.find⟩)) ?_
  rintro en w2 ⟨rfl,k2⟩
  refine ⟨(-1:Int),rfl,s_iteE (fun _=>s_drew ?_) (fun g=>absurd rfl g)⟩
  have K:=(k0.trans k2).drew
  refine s_load (Value.iface tPE (.pointer (some a))) (hk.kp K) (s_leaf ?_)
  rw [if_neg (by decide)]
  exact ⟨rfl,rfl,K⟩
theorem neq_same (a:Addr) (x y:Operand) (w:World):(Bind.bind (eqGuard BinOp.neq 61 x y (.iface tPE (.pointer (some a))) (.iface tPE (.pointer (some a)))) (fun (_:Unit)=>(binOp BinOp.neq 61 (.iface tPE (.pointer (some a))) (.iface tPE (.pointer (some a))))):Sem Value).run Tryz.prog w = .ok (.bool false) w:=by
  have h:=run_equalIn_iface_ptr_same (P:=Tryz.prog) w 9998 a Tryz.underlying61 Tryz.underlying153 (info_some (by kernel_rfl)) (by kernel_rfl) (info_some (by kernel_rfl))
  have h1:(binOp .neq 61 (.iface tPE (.pointer (some a))) (.iface tPE (.pointer (some a)))).run Tryz.prog w = .ok (.bool false) w:=by
    simp only [binOp]
    simp [Op.equal,Op.maxDepth,h]
  simpa [eqGuard] using h1
end Go.Proofs.YtlfebfkphgelfaaGreatDoor.Ka
namespace Go.Proofs.YtlfebfkphgelfaaGreatDoor.Ka
open Go Go.Proofs Go.RowKit Rx Tr Pl Pw Sk
open Ed (put put_size put_pre put_mid put_suf)
variable {w w':World} {x y q:Sl} {s t:ByteArray} {keys:List ByteArray} {p0 p:PT}
theorem tx_str (h:Tx w x s 0 s.size):(convert tBs 9 (slV x)).run Tryz.prog w = .ok (.string s) w:=by
  have:=h.toStr
  rwa [ByteArray.extract_zero_size] at this
end Go.Proofs.YtlfebfkphgelfaaGreatDoor.Ka
namespace Go.Proofs.YtlfebfkphgelfaaGreatDoor.Ka
open Go Go.Proofs Go.RowKit Rx Tr Pl Pw Sk
open Bw (bv gb bt_bv)
open Ed (opn nstL AsIs mkB len_of)
variable {w w':World} {x y q:Sl} {s t:ByteArray} {keys:List ByteArray} {h N:Nat} {l:List UInt8}
structure FB (w:World) (h N:Nat) (l:List UInt8):Prop where
  lt:h<w.heap.size
  le:l.length≤N
  at' : ∀ j u,l[j]?=some u→w.cell? ⟨h,j,none⟩=some (bv u)
  there : ∀ j,j<N→(w.cell? ⟨h,j,none⟩).isSome=true∧w.frozen? ⟨h,j,none⟩=false
theorem FB.kp {S:Nat→Prop} (hF:FB w h N l) (k:Kp S w w') (hS : ¬ S h):FB w' h N l:=by
  have hb:=k.block h hF.lt hS
  exact ⟨Nat.lt_of_lt_of_le hF.lt k.size,hF.le,fun j u hj=>(World.cell?_of_block (a:=⟨h,j,none⟩) hb).trans (hF.at' j u hj),fun j hj=>⟨by rw [World.cell?_of_block (a:=⟨h,j,none⟩) hb];exact (hF.there j hj).1,(World.frozen?_of_block (a:=⟨h,j,none⟩) hb).trans (hF.there j hj).2⟩⟩
theorem kp_set (h:Nat) : ∀ (vs:List Value) (o:Nat) (w:World),Kp (On h) w (w.setCells h o vs)
  | [],o,w=>Kp.refl _ w
  | v :: vs,o,w=>by
    show Kp (On h) w ((w.setCell ⟨h,o,none⟩ v).setCells h (o+1) vs)
    exact ((Kp.refl (On h) w).set (a:=⟨h,o,none⟩) rfl v).trans (kp_set h vs (o+1) _)
theorem FB.put (hF:FB w h N l) {bs:List UInt8} (hn:l.length+bs.length≤N):FB (w.setCells h l.length (bs.map bv)) h N (l++bs):=by
  have k:=kp_set h (bs.map bv) l.length w
  have hin:=World.cell?_setCells_in h (bs.map bv) l.length w (fun i hi=>(hF.there _ (by rw [List.length_map] at hi;omega)).1)
  refine ⟨Nat.lt_of_lt_of_le hF.lt k.size,by rw [List.length_append];exact hn,fun j u hj => ?_,fun j hj => ?_⟩
  · rcases Nat.lt_or_ge j l.length with g1 | g1
    · rw [List.getElem?_append_left g1] at hj
      rw [World.cell?_setCells_out h _ _ _ _ (fun _ _ => .inl g1)]
      exact hF.at' j u hj
    · rw [List.getElem?_append_right g1] at hj
      have hj2:j-l.length<bs.length:=(List.getElem?_eq_some_iff.1 hj).1
      have:=hin (j-l.length) (by rw [List.length_map];exact hj2)
      rw [show l.length+(j-l.length)=j by omega] at this
      rw [this,List.getElem_map]
      exact congrArg (fun z=>some (bv z)) (List.getElem?_eq_some_iff.1 hj).2
  · refine ⟨?_,by rw [World.frozen?_setCells];exact (hF.there j hj).2⟩
    by_cases g1:l.length≤j∧j<l.length+bs.length
    · have:=hin (j-l.length) (by rw [List.length_map];omega)
      rw [show l.length+(j-l.length)=j by omega] at this
      rw [this];rfl
    · rw [World.cell?_setCells_out h _ _ _ _ (fun _ _=>by rw [List.length_map];show j<l.length∨l.length+bs.length≤j;omega)]
      exact (hF.there j hj).1
theorem FB.tx (hF:FB w h N l) (hN:l.length=N) {cap:Nat} (hc:N≤cap):Tx w (some ⟨h,0,none⟩,N,cap) (mkB l) 0 (mkB l).size:=by
  have hz:(mkB l).size=l.length:=Ed.mkB_size l
  refine ⟨by show N=(mkB l).size-0;omega,Nat.zero_le _,Nat.le_refl _,hc,h,0,rfl,hF.lt,fun j hj => ?_⟩
  rw [hz] at hj
  simp only [Nat.zero_add] at hj ⊢
  rw [hF.at' j _ (List.getElem?_eq_getElem hj),Ed.bt_mkB,List.getD_eq_getElem?_getD,List.getElem?_eq_getElem hj]
  rfl
theorem s_makeF {Q:Nat→List Value→World→Prop} {n m:Int} {K:Sh.slice.Ty→T} (hn:n=(N:Int)) (hm:m=(N:Int)) (hN:N≤16000000000) (hK : ∀ w',FB w' w.heap.size N []→Kp Off w w'→sat Tryz.prog (K (some ⟨w.heap.size,0,none⟩,N,N)) Q w') :
    sat Tryz.prog (.eff (Instr.makeSlice tBs (Value.int IntKind.i64 n) (Value.int IntKind.i64 m)) .slice K) Q w:=by
  subst hn;subst hm
  have hr:=run_make (P:=Tryz.prog) w tBs tB _ (.int .u8 0) Tryz.underlying59 (info_some (by kernel_rfl)) (by kernel_rfl) .i64 .i64 (N:Int) (N:Int) (by omega) (by omega) (by
        rw [show ((Tryz.prog.info? tB).get (by kernel_rfl)).bytes=1 from by kernel_rfl];omega) (by omega)
  rw [show ((Tryz.prog.info? tB).get (by kernel_rfl)).size=1 from by kernel_rfl,Int.toNat_natCast,Nat.mul_one,Je.made_zero N (Value.int IntKind.u8 0).cells rfl] at hr
  refine s_eff (some ⟨w.heap.size,0,none⟩,N,N) hr (hK _ ?_ ((Kp.refl _ w).alloc _))
  have hh:(w.alloc (.cells (Je.cb (List.replicate N 0)).toArray tB)).heap[w.heap.size]?=some (.cells (Je.cb (List.replicate N 0)).toArray tB):=heap_alloc_new w _
  refine ⟨by simp,Nat.zero_le _,fun j u hj=>by simp at hj,fun j hj => ?_⟩
  have hz:(Je.cb (List.replicate N 0)).toArray.size=N:=by rw [List.size_toArray,Je.cb_len,List.length_replicate]
  simp only [World.cell?,World.frozen?,hh]
  rw [Array.getElem?_eq_getElem (by omega)]
  exact ⟨rfl,rfl⟩
theorem sz_run (w:World):(Go.sizeOf tB).run Tryz.prog w = .ok 1 w:=by
  have hi:=info_some (P:=Tryz.prog) (t:=tB) (by kernel_rfl)
  rw [run_size hi,show ((Tryz.prog.info? tB).get (by kernel_rfl)).size=1 from by kernel_rfl]
theorem wtb_any {d:Nat} {n c:Nat} (hF:FB w h N l) (hd:0<t.size→d=l.length) (hn:t.size≤n) (hN:l.length+t.size≤N) :
    Calls Tryz.prog 63 #[.slice (some ⟨h,d,none⟩) n c,.string t] w fun en w'=>en = .returned (.int .i64 ((t.size:Nat):Int))∧FB w' h N (l++t.data.toList)∧Kp (On h) w w':=by
  refine jsonparser_WriteToBuffer.calls _ _ _ _ ?_
  unfold jsonparser_WriteToBuffer.t
  rcases Nat.eq_zero_or_pos t.size with h0 | h0
  · have hr:=run_copy_string (P:=Tryz.prog) w tBs 9 3 tB h d n c t Tryz.underlying59 sz_run hn (fun j hj=>by omega) (fun j hj=>by omega)
    have e:t.data.toList=[]:=List.eq_nil_of_length_eq_zero (by rw [len_of];exact h0)
    rw [e] at hr
    refine s_eff ((t.size:Nat):Int) hr (s_leaf ⟨rfl,rfl,?_,?_⟩)
    · rw [e,List.append_nil];exact hF
    · exact Kp.refl _ _
  · have hd:=hd h0
    subst hd
    have hr:=run_copy_string (P:=Tryz.prog) w tBs 9 3 tB h l.length n c t Tryz.underlying59 sz_run hn (fun j hj=>(hF.there _ (by omega)).1) (fun j hj=>(hF.there _ (by omega)).2)
    exact s_eff ((t.size:Nat):Int) hr (s_leaf ⟨rfl,rfl,hF.put (bs:=t.data.toList) (by rw [len_of];exact hN),kp_set h _ _ w⟩)
theorem s_copyF {Q:Nat→List Value→World→Prop} {a b d n c:Nat} {ats:Array TypeId} {K:Int→T} (hF:FB w h N l) (hT:Tx w y s a b) (ha:ats = #[tBs,tBs]) (hd:0<b-a→d=l.length) (hn:b-a≤n) (hN:l.length+(b-a)≤N)
    (hK : ∀ w',FB w' h N (l++(s.data.toList.drop a).take (b-a))→Kp (On h) w w'→sat Tryz.prog (K ((b-a:Nat):Int)) Q w') :
    sat Tryz.prog (.eff (Builtin.copy_ ats 3 #[.slice (some ⟨h,d,none⟩) n c,.slice y.1 y.2.1 y.2.2]) (.int .i64) K) Q w:=by
  subst ha
  have hes:=hT.es
  have hie:=hT.ie
  have hyl:=hT.len
  obtain ⟨g,o,hy1,hg,hc⟩:=hT.cell
  obtain ⟨ya,yl,yc⟩:=y
  have hy1:ya=some ⟨g,o,none⟩:=hy1
  have hyl:yl=b-a:=hyl
  subst hy1;subst hyl
  have hll:((s.data.toList.drop a).take (b-a)).length=b-a:=by rw [List.length_take,List.length_drop,len_of];omega
  have hsz:(Tryz.prog.info? tB).map (·.size)=some 1:=by kernel_rfl
  rcases Nat.eq_zero_or_pos (b-a) with h0 | h0
  · have hr:=run_copy_none (P:=Tryz.prog) w tBs tBs 3 tB (some ⟨h,d,none⟩) (some ⟨g,o,none⟩) n c (b-a) yc Tryz.underlying59 hsz (by rw [h0];exact Nat.zero_min _)
    refine s_eff ((b-a:Nat):Int) (by rw [h0];rw [h0] at hr;exact hr) (hK w ?_ (Kp.refl _ _))
    rw [List.eq_nil_of_length_eq_zero (hll.trans h0),List.append_nil];exact hF
  · have hd:=hd h0
    subst hd
    have hml:(((s.data.toList.drop a).take (b-a)).map bv).length=b-a:=by rw [List.length_map,hll]
    have hr:=run_copy_cells (P:=Tryz.prog) w tBs tBs 3 tB h l.length n c ⟨g,o,none⟩ (b-a) yc (((s.data.toList.drop a).take (b-a)).map bv) Tryz.underlying59 hsz (by rw [hml];exact (Nat.min_eq_left hn).symm) (fun j v hj=>by
      have hj':=(List.getElem?_eq_some_iff.1 hj).1
      rw [hml] at hj'
      rw [addr_add,hc j (by omega)]
      rw [List.getElem?_map,List.getElem?_take_of_lt hj',List.getElem?_drop] at hj
      cases hu:s.data.toList[a+j]? with
      | none=>rw [hu] at hj;cases hj
      | some u=>
        rw [hu] at hj
        rw [← hj,bt_bv]
        unfold gb
        rw [List.getD_eq_getElem?_getD,hu];rfl) (fun j hj=>(hF.there _ (by rw [hml] at hj;omega)).1) (fun j hj=>(hF.there _ (by rw [hml] at hj;omega)).2) (fun u hu=>by
      obtain ⟨b,_,rfl⟩:=List.mem_map.1 hu
      rfl)
    rw [hml] at hr
    exact s_eff ((b-a:Nat):Int) hr (hK _ (hF.put (by rw [hll];exact hN)) (kp_set h _ _ w))
theorem last_any {m:Nat} (hs:s.size≤9000000000) (hT:Tx w x s 0 s.size) (hm:m<s.size) (hnb:isB (bt s (m:Int))=false) (hbk : ∀ j,m<j→j<s.size→isB (bt s (j:Int))=true) :
    Calls Tryz.prog 67 #[slV x] w fun en w'=>en = .returned (.int .i64 ((m:Nat):Int))∧w'=w:=by
  have hl:=hT.len
  refine jsonparser_lastToken.calls _ _ _ ?_
  unfold jsonparser_lastToken.t
  have e0:IntKind.wrap IntKind.i64 (((x.2.1:Nat):Int)-(1:Int))=((s.size-1:Nat):Int):=by rw [hl,Nat.sub_zero,wdn _ (by omega) (by omega)]
  refine s_loop (fun n z w' => ∃ j:Nat,n=j∧z=((j:Int),())∧m≤j∧j<s.size∧w=w') (s.size-1) (((s.size-1:Nat):Int),()) (by rw [e0];rfl) ⟨s.size-1,rfl,rfl,by omega,by omega,rfl⟩ ?_
  rintro n z w1 ⟨j,rfl,rfl,hmj,hjs,rfl⟩
  show sat _ (jsonparser_lastToken.t1 x.1 x.2.1 (n:Int)) _ _
  unfold jsonparser_lastToken.t1
  refine s_iteD (fun _=>s_at hT (by omega) ?_) (fun g=>absurd (by omega) g)
  rw [Nat.zero_add]
  have on:isB (bt s (n:Int))=true→(fun l' vs w''=>if l'=1 then ∃ n' x',vs=(Sh.cons (.int .i64) .nil).vals x'∧n'<n ∧ ∃ j:Nat,n'=j∧x'=((j:Int),())∧m≤j∧j<s.size∧w=w'' else l'=0∧Ending.returned (retVal vs) = .returned (.int .i64 ((m:Nat):Int))∧w''=w) 1 [Value.int IntKind.i64 (IntKind.wrap IntKind.i64 ((n:Int)-(1:Int)))] w:=fun hb=>by
    have hne:m≠n:=fun e=>by subst e;rw [hb] at hnb;cases hnb
    show if (1:Nat)=1 then _ else _
    rw [if_pos rfl,wdn _ (by omega) (by omega)]
    exact ⟨n-1,(((n-1:Nat):Int),()),rfl,by omega,n-1,rfl,rfl,by omega,by omega,rfl⟩
  refine s_iteE (fun g=>s_leaf (on (by rw [g];rfl))) (fun g1=>s_iteE (fun g=>s_leaf (on (by rw [g];rfl))) (fun g2=>s_iteE (fun g=>s_leaf (on (by rw [g];rfl))) (fun g3=>s_iteE (fun g=>s_leaf (on (by rw [g];rfl))) (fun g4=>s_leaf ?_))))
  rw [if_neg (by decide)]
  have:m=n:=by
    rcases Nat.lt_or_ge m n with g | g
    · have:=isB_or (hbk n g hjs);omega
    · omega
  subst this
  exact ⟨rfl,rfl,rfl⟩
theorem enc_not : ∀ n:Nat,n<256→n≠91→strEq (Utf8.encode (n:Int)) (ByteArray.mk #[(91:UInt8)])=false:=by decide +kernel
def NoI (key:ByteArray):Prop:=0<key.size∧bt key 0≠91
theorem s_key0 {Q:Nat→List Value→World→Prop} {K:Sh.str.Ty→T} {key:ByteArray} (h:Kx w q keys) (hj:keys[0]?=some key) (hK:sat Tryz.prog (K key) Q w) :
    sat Tryz.prog (.chk (((0:Int)≤(0:Int))∧((0:Int)<((q.2.1:Nat):Int))) <| .ptr q.1 fun z => .load (Addr.add z 0) .str K) Q w:=s_key (j:=0) h hj hK
theorem conv_ch {key:ByteArray} (w:World):(convert 5 9 (Value.int IntKind.u8 (bt key (0:Int)))).run Tryz.prog w = .ok (.string (Utf8.encode (bt key (0:Int)))) w:=
  run_convert_int_string (P:=Tryz.prog) w _ _ _ _ (by kernel_rfl) Tryz.underlying9
theorem s_isI {Q:Nat→List Value→World→Prop} {L j:Nat} {key:ByteArray} (h:Kx w q keys) (hj:keys[j]?=some key) (hk:NoI key) (hQ:Q L [.bool false] w) :
    sat Tryz.prog (.chk (((0:Int)≤(j:Int))∧((j:Int)<((q.2.1:Nat):Int))) <| .ptr q.1 fun z => .load (Addr.add z ((Int.toNat (j:Int)) * 1)) .str fun s16=>
      .ite (decide ((((ByteArray.size s16):Nat):Int) > (0:Int))) (
        .chk (((0:Int)≤(j:Int))∧((j:Int)<((q.2.1:Nat):Int))) <| .ptr q.1 fun z => .load (Addr.add z ((Int.toNat (j:Int)) * 1)) .str fun s18=>
        .chk (((0:Int)≤(0:Int))∧((0:Int)<(((ByteArray.size s18):Nat):Int))) <|
        .eff (convert 5 9 (Value.int IntKind.u8 (bt s18 (0:Int)))) .str fun (s19:ByteArray)=>
        .leaf L [(Value.bool (strEq s19 (ByteArray.mk #[(91:UInt8)])))]) (
        .leaf L [(Value.bool Bool.false)])) Q w:=by
  have h1:=hk.1
  refine s_key h hj (s_iteD (fun _=>s_key h hj (s_chk ⟨by omega,by omega⟩ ?_)) (fun g=>absurd (by omega) g))
  refine s_eff (w':=w) (Utf8.encode (bt key (0:Int))) (conv_ch w) (s_leaf ?_)
  have hr:=bt_range key (0:Int)
  have:=enc_not (bt key (0:Int)).toNat (by omega) (by have:=hk.2;omega)
  rw [Int.toNat_of_nonneg hr.1] at this
  rw [this]
  exact hQ
theorem s_isI0 {Q:Nat→List Value→World→Prop} {L:Nat} {key:ByteArray} (h:Kx w q keys) (hj:keys[0]?=some key) (hk:NoI key) (hQ:Q L [.bool false] w) :
    sat Tryz.prog (.chk (((0:Int)≤(0:Int))∧((0:Int)<((q.2.1:Nat):Int))) <| .ptr q.1 fun z => .load (Addr.add z 0) .str fun s16=>
      .ite (decide ((((ByteArray.size s16):Nat):Int) > (0:Int))) (
        .chk (((0:Int)≤(0:Int))∧((0:Int)<((q.2.1:Nat):Int))) <| .ptr q.1 fun z => .load (Addr.add z 0) .str fun s18=>
        .chk (((0:Int)≤(0:Int))∧((0:Int)<(((ByteArray.size s18):Nat):Int))) <|
        .eff (convert 5 9 (Value.int IntKind.u8 (bt s18 (0:Int)))) .str fun (s19:ByteArray)=>
        .leaf L [(Value.bool (strEq s19 (ByteArray.mk #[(91:UInt8)])))]) (
        .leaf L [(Value.bool Bool.false)])) Q w:=s_isI (j:=0) h hj hk hQ
end Go.Proofs.YtlfebfkphgelfaaGreatDoor.Ka
namespace Go.Proofs.YtlfebfkphgelfaaGreatDoor.Ka
open Go Go.Proofs Go.RowKit Rx Tr Pl Pw Sk
open Bw (bv gb bt_bv)
open Ed (opn nstL AsIs mkB len_of mkB_size)
variable {w w':World} {x y q:Sl} {s t:ByteArray} {keys rs:List ByteArray} {k:ByteArray} {h N:Nat} {l:List UInt8}
def clen:List ByteArray→Nat
  | []=>0
  | r :: rs=>r.size+5+clen rs
theorem opn_len : ∀ rs:List ByteArray,(opn rs).length+rs.length=clen rs
  | []=>rfl
  | r :: rs=>by
    have:=opn_len rs
    show ([123,34]++(r.data.toList++([34,58]++opn rs))).length+(rs.length+1)=r.size+5+clen rs
    simp only [List.length_append,List.length_cons,List.length_nil,len_of];omega
theorem clen_take : ∀ (rs:List ByteArray) (j:Nat) (r:ByteArray),rs[j]?=some r→clen (rs.take (j+1))=clen (rs.take j)+(r.size+5)∧clen (rs.take j)+(r.size+5)≤clen rs
  | [],j,r,h=>by simp at h
  | r0 :: rs,0,r,h=>by
    simp only [List.getElem?_cons_zero,Option.some.injEq] at h
    subst h
    show r0.size+5+clen (rs.take 0)=0+(r0.size+5)∧0+(r0.size+5)≤r0.size+5+clen rs
    have:clen (rs.take 0)=0:=rfl
    omega
  | r0 :: rs,j+1,r,h=>by
    simp only [List.getElem?_cons_succ] at h
    have:=clen_take rs j r h
    show r0.size+5+clen (rs.take (j+1))=r0.size+5+clen (rs.take j)+(r.size+5)∧r0.size+5+clen (rs.take j)+(r.size+5)≤r0.size+5+clen rs
    omega
theorem opn_take : ∀ (rs:List ByteArray) (j:Nat) (r:ByteArray),rs[j]?=some r→opn (rs.take (j+1))=opn (rs.take j)++([123,34]++(r.data.toList++[34,58]))∧(opn (rs.take j)).length+r.size+4≤(opn rs).length
  | [],j,r,h=>by simp at h
  | r0 :: rs,0,r,h=>by
    simp only [List.getElem?_cons_zero,Option.some.injEq] at h
    subst h
    show [123,34]++(r0.data.toList++([34,58]++opn (rs.take 0)))=[]++([123,34]++(r0.data.toList++[34,58]))∧([]:List UInt8).length+r0.size+4≤([123,34]++(r0.data.toList++([34,58]++opn rs))).length
    have e:opn (rs.take 0)=[]:=rfl
    rw [e]
    simp only [List.length_append,List.length_cons,List.length_nil,len_of,List.nil_append,List.append_nil]
    exact ⟨trivial,by omega⟩
  | r0 :: rs,j+1,r,h=>by
    simp only [List.getElem?_cons_succ] at h
    obtain ⟨a1,a2⟩:=opn_take rs j r h
    show [123,34]++(r0.data.toList++([34,58]++opn (rs.take (j+1))))=([123,34]++(r0.data.toList++([34,58]++opn (rs.take j))))++([123,34]++(r.data.toList++[34,58]))∧([123,34]++(r0.data.toList++([34,58]++opn (rs.take j)))).length+r.size+4≤([123,34]++(r0.data.toList++([34,58]++opn rs))).length
    rw [a1]
    refine ⟨by simp only [List.append_assoc],?_⟩
    simp only [List.length_append,List.length_cons,List.length_nil,len_of];omega
def b1 (b:Bool):Nat:=if b then 1 else 0
theorem calc_any {n c:Nat} {ya:Option Addr} {comma obj:Bool} (hK:Kx w q (k :: rs)) (hn : ∀ key ∈ k :: rs,NoI key) (hb:k.size+clen rs+n≤9000000000) :
    Calls Tryz.prog 81 #[slV q,.slice ya n c,.bool comma,.bool obj] w fun en w'=>en = .returned (.int .i64 ((b1 comma+b1 obj+(k.size+3)+n+clen rs+b1 obj:Nat):Int))∧w'=w:=by
  have hl:=hK.len
  rw [List.length_cons] at hl
  have hk0:(k :: rs)[0]?=some k:=rfl
  refine jsonparser_calcAllocateSpace.calls _ _ _ _ _ _ _ _ ?_
  unfold jsonparser_calcAllocateSpace.t
  refine s_cut (fun z w'=>z=(false,())∧w=w') (s_isI0 hK hk0 (hn k (by simp)) ?_) ?_
  · rw [if_pos rfl];exact ⟨(false,()),rfl,rfl,rfl⟩
  rintro z w' ⟨rfl,rfl⟩
  show sat _ (jsonparser_calcAllocateSpace.t1 q.1 q.2.1 n comma obj false) _ _
  unfold jsonparser_calcAllocateSpace.t1
  refine s_cut (fun z w'=>z=(((b1 comma:Nat):Int),())∧w=w') ?_ ?_
  · cases comma with
    | true=>exact sat_iteT.2 (s_leaf (by rw [if_pos rfl];exact ⟨((1:Int),()),rfl,rfl,rfl⟩))
    | false=>exact sat_iteF.2 (s_leaf (by rw [if_pos rfl];exact ⟨((0:Int),()),rfl,rfl,rfl⟩))
  rintro z w' ⟨rfl,rfl⟩
  show sat _ (jsonparser_calcAllocateSpace.t2 q.1 q.2.1 n comma obj false ((b1 comma:Nat):Int)) _ _
  unfold jsonparser_calcAllocateSpace.t2
  refine s_cut (fun z w'=>z=(false,())∧w=w') (sat_iteF.2 (s_leaf (by rw [if_pos rfl];exact ⟨(false,()),rfl,rfl,rfl⟩))) ?_
  rintro z w' ⟨rfl,rfl⟩
  show sat _ (jsonparser_calcAllocateSpace.t3 q.1 q.2.1 n obj false ((b1 comma:Nat):Int) false) _ _
  unfold jsonparser_calcAllocateSpace.t3
  have hc1:b1 comma≤1:=by cases comma <;> decide
  have ho1:b1 obj≤1:=by cases obj <;> decide
  refine s_cut (fun z w'=>z=(((b1 comma+b1 obj+(k.size+3):Nat):Int),())∧w=w') (sat_iteF.2 ?_) ?_
  · refine s_cut (fun z w'=>z=(((b1 comma+b1 obj:Nat):Int),())∧w=w') ?_ ?_
    · cases obj with
      | true=>
        refine sat_iteT.2 (s_leaf ?_)
        rw [if_pos rfl,wup _ (by omega)]
        exact ⟨(((b1 comma+1:Nat):Int),()),rfl,rfl,rfl⟩
      | false=>exact sat_iteF.2 (s_leaf (by rw [if_pos rfl];exact ⟨(((b1 comma:Nat):Int),()),rfl,rfl,rfl⟩))
    rintro z w' ⟨rfl,rfl⟩
    show sat _ (jsonparser_calcAllocateSpace.t4 q.1 q.2.1 false ((b1 comma+b1 obj:Nat):Int)) _ _
    unfold jsonparser_calcAllocateSpace.t4
    refine s_cut (fun z w'=>z=(((b1 comma+b1 obj+(k.size+3):Nat):Int),())∧w=w') (sat_iteT.2 (s_key0 hK hk0 (s_leaf ?_))) ?_
    · rw [if_pos rfl,show (3:Int)=((3:Nat):Int) from rfl,wad _ _ (by omega),wad _ _ (by omega)]
      exact ⟨(((b1 comma+b1 obj+(k.size+3):Nat):Int),()),rfl,rfl,rfl⟩
    rintro z w' ⟨rfl,rfl⟩
    show sat _ (jsonparser_calcAllocateSpace.t5 ((b1 comma+b1 obj+(k.size+3):Nat):Int)) _ _
    unfold jsonparser_calcAllocateSpace.t5
    refine s_leaf ?_
    rw [if_pos rfl]
    exact ⟨(((b1 comma+b1 obj+(k.size+3):Nat):Int),()),rfl,rfl,rfl⟩
  rintro z w' ⟨rfl,rfl⟩
  show sat _ (jsonparser_calcAllocateSpace.t6 q.1 q.2.1 n obj false ((b1 comma+b1 obj+(k.size+3):Nat):Int)) _ _
  unfold jsonparser_calcAllocateSpace.t6
  rw [wad _ _ (by omega)]
  generalize hB:b1 comma+b1 obj+(k.size+3)+n=B
  refine s_loop (fun m z w' => ∃ j:Nat,m=rs.length-j∧j≤rs.length∧z=(((j+1:Nat):Int),((B+clen (rs.take j):Nat):Int),())∧w=w') rs.length ((1:Int),((B:Nat):Int),()) rfl ⟨0,rfl,Nat.zero_le _,by rw [List.take_zero];rfl,rfl⟩ ?_
  rintro m z w1 ⟨j,rfl,hj,rfl,rfl⟩
  show sat _ (jsonparser_calcAllocateSpace.t7 q.1 q.2.1 obj false ((j+1:Nat):Int) ((B+clen (rs.take j):Nat):Int)) _ _
  unfold jsonparser_calcAllocateSpace.t7
  refine s_iteD (fun g => ?_) (fun g => ?_)
  · have hjl:j<rs.length:=by omega
    have hr:rs[j]?=some rs[j]:=List.getElem?_eq_getElem hjl
    have hr1:(k :: rs)[j+1]?=some rs[j]:=hr
    have hct:=clen_take rs j _ hr
    refine s_cut (fun z w'=>z=(false,())∧w=w') (s_isI hK hr1 (hn _ (List.mem_cons_of_mem _ (List.getElem_mem hjl))) ?_) ?_
    · rw [if_pos rfl];exact ⟨(false,()),rfl,rfl,rfl⟩
    rintro z w' ⟨rfl,rfl⟩
    show sat _ (jsonparser_calcAllocateSpace.t8 q.1 q.2.1 ((j+1:Nat):Int) ((B+clen (rs.take j):Nat):Int) false) _ _
    unfold jsonparser_calcAllocateSpace.t8
    refine sat_iteF.2 (s_key hK hr1 (s_leaf ?_))
    rw [if_pos rfl,wup _ (by have:=opn_len rs;omega),show (5:Int)=((5:Nat):Int) from rfl,wad _ _ (by omega),wad _ _ (by omega)]
    refine ⟨rs.length-(j+1),(((j+1+1:Nat):Int),((B+clen (rs.take (j+1)):Nat):Int),()),?_,by omega,j+1,rfl,by omega,rfl,rfl⟩
    have:B+clen (rs.take (j+1))=B+clen (rs.take j)+(rs[j].size+5):=by omega
    rw [this];rfl
  · have hjl:j=rs.length:=by omega
    subst hjl
    rw [List.take_length]
    cases obj with
    | true=>
      refine sat_iteT.2 (sat_iteT.2 (s_leaf ?_))
      rw [if_neg (by decide),wup _ (by omega)]
      subst hB
      exact ⟨rfl,rfl,rfl⟩
    | false=>
      refine sat_iteF.2 (s_leaf ?_)
      rw [if_neg (by decide)]
      subst hB
      exact ⟨rfl,rfl,rfl⟩
theorem s_wtc {Q:Nat→List Value→World→Prop} {z:Sl} {off:Int} {K:Int→T} (hz:z=(some ⟨h,0,none⟩,N,N)) (hF:FB w h N l) (ho:off=((l.length:Nat):Int)) (hN:l.length+t.size≤N)
    (hK : ∀ w',FB w' h N (l++t.data.toList)→Kp (On h) w w'→sat Tryz.prog (K ((t.size:Nat):Int)) Q w') :
    sat Tryz.prog (.call 63 #[(Value.slice (if (((z).2).2=(Int.toNat off)) then (z).1 else (Option.map (fun (y8:Addr)=>(Addr.add y8 ((Int.toNat off) * 1))) (z).1)) ((Int.toNat ((((z).2).1:Nat):Int))-(Int.toNat off)) (((z).2).2-(Int.toNat off))),(Value.string t)] (.int .i64) K) Q w:=by
  subst hz;subst ho
  show sat Tryz.prog (.call 63 #[(Value.slice (if (N=(Int.toNat ((l.length:Nat):Int))) then (some (⟨h,0,none⟩:Addr)) else (Option.map (fun (y8:Addr)=>(Addr.add y8 ((Int.toNat ((l.length:Nat):Int)) * 1))) (some (⟨h,0,none⟩:Addr)))) ((Int.toNat ((N:Nat):Int))-(Int.toNat ((l.length:Nat):Int))) (N-(Int.toNat ((l.length:Nat):Int)))),(Value.string t)] (.int .i64) K) Q w
  rw [Int.toNat_natCast,Int.toNat_natCast,Je.sl_at]
  refine s_call (wtb_any hF (fun hp=>by rw [if_neg (by omega),Nat.zero_add]) (by omega) hN) ?_
  rintro e w1 ⟨rfl,h1,k1⟩
  exact ⟨((t.size:Nat):Int),rfl,hK w1 h1 k1⟩
theorem s_wtb {Q:Nat→List Value→World→Prop} {z:Sl} {off:Int} {K:Int→T} (hz:z=(some ⟨h,0,none⟩,N,N)) (hF:FB w h N l) (ho:off=((l.length:Nat):Int)) (hN:l.length+t.size≤N)
    (hK : ∀ w',FB w' h N (l++t.data.toList)→Kp (On h) w w'→sat Tryz.prog (K ((t.size:Nat):Int)) Q w') :
    sat Tryz.prog (.chk (((0:Int)≤off)∧((off≤((((z).2).1:Nat):Int))∧(((((z).2).1:Nat):Int)≤((((z).2).2:Nat):Int)))) <|
      .call 63 #[(Value.slice (if (((z).2).2=(Int.toNat off)) then (z).1 else (Option.map (fun (y8:Addr)=>(Addr.add y8 ((Int.toNat off) * 1))) (z).1)) ((Int.toNat ((((z).2).1:Nat):Int))-(Int.toNat off)) (((z).2).2-(Int.toNat off))),(Value.string t)] (.int .i64) K) Q w:=by
  refine s_chk ?_ (s_wtc hz hF ho hN hK)
  subst hz;subst ho
  exact ⟨by omega,by show ((l.length:Nat):Int)≤(N:Int);omega,Int.le_refl _⟩
def compL (comma obj:Bool) (k:ByteArray) (rs:List ByteArray) (v:List UInt8):List UInt8:=
  (if comma then [44] else [])++(if obj then [123] else [])++[34]++k.data.toList++[34,58]++opn rs++v++List.replicate rs.length 125++(if obj then [125] else [])
theorem comp_any {comma obj:Bool} (hK:Kx w q (k :: rs)) (hn : ∀ key ∈ k :: rs,NoI key) (hV:Tx w y t 0 t.size) (hb:k.size+clen rs+t.size≤9000000000) :
    Calls Tryz.prog 69 #[slV q,slV y,.bool comma,.bool obj] w fun en w' => ∃ z:Sl,en = .returned (slV z)∧Tx w' z (mkB (compL comma obj k rs t.data.toList)) 0 (mkB (compL comma obj k rs t.data.toList)).size∧Kp Off w w':=by
  have hl:=hK.len
  rw [List.length_cons] at hl
  have hyl:=hV.len
  have hk0:(k :: rs)[0]?=some k:=rfl
  have hop:=opn_len rs
  have hkl:=len_of k
  have htl:=len_of t
  refine jsonparser_createInsertComponent.calls _ _ _ _ _ _ _ _ ?_
  unfold jsonparser_createInsertComponent.t
  refine s_cut (fun z w'=>z=(false,())∧w=w') (s_isI0 hK hk0 (hn k (by simp)) ?_) ?_
  · rw [if_pos rfl];exact ⟨(false,()),rfl,rfl,rfl⟩
  rintro z w' ⟨rfl,rfl⟩
  show sat _ (jsonparser_createInsertComponent.t1 q.1 q.2.1 q.2.2 y.1 y.2.1 y.2.2 comma obj false) _ _
  unfold jsonparser_createInsertComponent.t1
  refine s_call (calc_any (n:=y.2.1) (comma:=comma) (obj:=obj) hK hn (by omega)) ?_
  rintro en w1 ⟨rfl,rfl⟩
  have hc1:b1 comma≤1:=by cases comma <;> decide
  have ho1:b1 obj≤1:=by cases obj <;> decide
  refine ⟨_,rfl,?_⟩
  generalize hN:b1 comma+b1 obj+(k.size+3)+y.2.1+clen rs+b1 obj=N
  refine s_makeF (N:=N) rfl rfl (by omega) fun w2 hF2 k2 => ?_
  generalize hh:w1.heap.size=h at hF2
  obtain ⟨z7,hz7⟩ : ∃ z:Sl,z=(some ⟨h,0,none⟩,N,N):=⟨_,rfl⟩
  rw [show ((some (⟨h,0,none⟩:Addr),N,N):Sh.slice.Ty)=z7 from hz7.symm]
  have fr : ∀ {a b:World},Kp Off w1 a→Kp (On h) a b→Kp Off w1 b:=fun k1 k2=>kpThen k1 k2 fun i hi ho=>by unfold On at ho;omega
  have cL:(if comma then [(44:UInt8)] else []).length=b1 comma:=by cases comma <;> rfl
  have oL:(if obj then [(123:UInt8)] else []).length=b1 obj:=by cases obj <;> rfl
  generalize hA1:(if comma then [(44:UInt8)] else [])=A1 at cL
  refine s_cut (fun z w'=>z=(((A1.length:Nat):Int),())∧FB w' h N A1∧Kp Off w1 w') ?_ ?_
  · cases comma with
    | true=>
      refine sat_iteT.2 ?_
      refine s_wtb (t:=ByteArray.mk #[(44:UInt8)]) (off:=(0:Int)) hz7 hF2 rfl (by show 0+1≤N;have:b1 true=1:=rfl;omega) fun w3 h3 k3=>s_leaf ?_
      rw [if_pos rfl]
      subst hA1
      exact ⟨((1:Int),()),rfl,rfl,h3,fr k2 k3⟩
    | false=>
      refine sat_iteF.2 (s_leaf ?_)
      rw [if_pos rfl]
      subst hA1
      exact ⟨((0:Int),()),rfl,rfl,hF2,k2⟩
  rintro z w3 ⟨rfl,hF3,k3⟩
  show sat _ (jsonparser_createInsertComponent.t2 q.1 q.2.1 y.1 y.2.1 y.2.2 comma obj false z7 ((A1.length:Nat):Int)) _ _
  unfold jsonparser_createInsertComponent.t2
  refine s_cut (fun z w'=>z=(false,())∧w3=w') (sat_iteF.2 (s_leaf (by rw [if_pos rfl];exact ⟨(false,()),rfl,rfl,rfl⟩))) ?_
  rintro z w' ⟨rfl,rfl⟩
  show sat _ (jsonparser_createInsertComponent.t3 q.1 q.2.1 y.1 y.2.1 y.2.2 comma obj false z7 ((A1.length:Nat):Int) false) _ _
  unfold jsonparser_createInsertComponent.t3
  generalize hA2:A1++(if obj then [(123:UInt8)] else [])=A2
  have hA2l:A2.length=b1 comma+b1 obj:=by rw [← hA2,List.length_append,cL,oL]
  generalize hA3:A2++[34]++k.data.toList++[34,58]=A3
  have hA3l:A3.length=b1 comma+b1 obj+(k.size+3):=by rw [← hA3];simp only [List.length_append,List.length_cons,List.length_nil,hA2l,hkl];omega
  refine s_cut (fun z w'=>z=(((A3.length:Nat):Int),())∧FB w' h N A3∧Kp Off w1 w') (sat_iteF.2 ?_) ?_
  · refine s_cut (fun z w'=>z=(((A2.length:Nat):Int),())∧FB w' h N A2∧Kp Off w1 w') ?_ ?_
    · cases obj with
      | true=>
        refine sat_iteT.2 ?_
        have:b1 true=1:=rfl
        refine s_wtb (t:=ByteArray.mk #[(123:UInt8)]) hz7 hF3 rfl (by show A1.length+1≤N;omega) fun w4 h4 k4=>s_leaf ?_
        have e1:((ByteArray.mk #[(123:UInt8)]).size:Nat)=1:=rfl
        rw [if_pos rfl,e1,wad _ _ (by omega)]
        subst hA2
        exact ⟨(((A1.length+1:Nat):Int),()),rfl,by rw [List.length_append];rfl,h4,fr k3 k4⟩
      | false=>
        refine sat_iteF.2 (s_leaf ?_)
        rw [if_pos rfl]
        have e:A2=A1:=by rw [← hA2];exact List.append_nil _
        rw [e]
        exact ⟨(((A1.length:Nat):Int),()),rfl,rfl,hF3,k3⟩
    rintro z w4 ⟨rfl,hF4,k4⟩
    show sat _ (jsonparser_createInsertComponent.t4 q.1 q.2.1 false z7 ((A2.length:Nat):Int)) _ _
    unfold jsonparser_createInsertComponent.t4
    refine s_cut (fun z w'=>z=(((A3.length:Nat):Int),())∧FB w' h N A3∧Kp Off w1 w') (sat_iteT.2 ?_) ?_
    · refine s_wtb (t:=ByteArray.mk #[(34:UInt8)]) hz7 hF4 rfl (by show A2.length+1≤N;omega) fun w5 h5 k5=>s_drew ?_
      have e1:((ByteArray.mk #[(34:UInt8)]).size:Nat)=1:=rfl
      rw [e1]
      have ew:IntKind.wrap IntKind.i64 (((A2.length:Nat):Int)+((1:Nat):Int))=((A2.length+1:Nat):Int):=wad _ _ (by omega)
      simp only [ew]
      have kd:Kp Off w5 w5.drew:=(Kp.refl Off w5).drew
      have h5d:=h5.kp kd id
      have k5d:=(fr k4 k5).trans kd
      have hK5:=hK.kp k5d
      generalize w5.drew=w6 at h5d k5d hK5
      have l5:(A2++(ByteArray.mk #[(34:UInt8)]).data.toList).length=A2.length+1:=by rw [List.length_append];rfl
      refine s_chk ⟨by omega,by rw [hz7];show ((A2.length+1:Nat):Int)≤(N:Int);omega,by rw [hz7];exact Int.le_refl _⟩ ?_
      refine s_key0 hK5 hk0 ?_
      refine s_wtc (t:=k) hz7 h5d (by rw [l5]) (by rw [l5];omega) fun w7 h7 k7 => ?_
      have l7:(A2++(ByteArray.mk #[(34:UInt8)]).data.toList++k.data.toList).length=A2.length+1+k.size:=by rw [List.length_append,l5,hkl]
      have ew2:IntKind.wrap IntKind.i64 (((A2.length+1:Nat):Int)+((k.size:Nat):Int))=((A2.length+1+k.size:Nat):Int):=wad _ _ (by omega)
      rw [ew2]
      refine s_wtb (t:=ByteArray.mk #[(34:UInt8),(58:UInt8)]) hz7 h7 (by rw [l7]) (by rw [l7];show A2.length+1+k.size+2≤N;omega) fun w8 h8 k8=>s_leaf ?_
      have e2:((ByteArray.mk #[(34:UInt8),(58:UInt8)]).size:Nat)=2:=rfl
      have e9:A2.length+1+k.size+2=A3.length:=by omega
      rw [if_pos rfl,e2,wad _ _ (by omega),e9]
      have h8':FB w8 h N A3:=by rw [← hA3];exact h8
      exact ⟨(((A3.length:Nat):Int),()),rfl,rfl,h8',fr (fr k5d k7) k8⟩
    rintro z w5 ⟨rfl,hF5,k5⟩
    show sat _ (jsonparser_createInsertComponent.t5 ((A3.length:Nat):Int)) _ _
    unfold jsonparser_createInsertComponent.t5
    refine s_leaf ?_
    rw [if_pos rfl]
    exact ⟨(((A3.length:Nat):Int),()),rfl,rfl,hF5,k5⟩
  rintro z w4 ⟨rfl,hF4,k4⟩
  show sat _ (jsonparser_createInsertComponent.t6 q.1 q.2.1 y.1 y.2.1 y.2.2 comma obj false z7 ((A3.length:Nat):Int)) _ _
  unfold jsonparser_createInsertComponent.t6
  have hNl:A3.length+(opn rs).length+t.size+rs.length+b1 obj=N:=by omega
  refine s_loop (fun m z w' => ∃ j:Nat,m=rs.length-j∧j≤rs.length∧z=(((j+1:Nat):Int),(((A3++opn (rs.take j)).length:Nat):Int),())∧FB w' h N (A3++opn (rs.take j))∧Kp Off w1 w') rs.length ((1:Int),((A3.length:Nat):Int),()) rfl ⟨0,rfl,Nat.zero_le _,by rw [List.take_zero];show _=(((0+1:Nat):Int),(((A3++[]).length:Nat):Int),());rw [List.append_nil];rfl,by rw [List.take_zero];show FB w4 h N (A3++[]);rw [List.append_nil];exact hF4,k4⟩ ?_
  rintro m z w5 ⟨j,rfl,hj,rfl,hF5,k5⟩
  show sat _ (jsonparser_createInsertComponent.t7 q.1 q.2.1 y.1 y.2.1 y.2.2 comma obj false z7 ((j+1:Nat):Int) (((A3++opn (rs.take j)).length:Nat):Int)) _ _
  unfold jsonparser_createInsertComponent.t7
  have hK5:=hK.kp k5
  refine s_iteD (fun g => ?_) (fun g => ?_)
  · have hjl:j<rs.length:=by omega
    have hr:rs[j]?=some rs[j]:=List.getElem?_eq_getElem hjl
    have hr1:(k :: rs)[j+1]?=some rs[j]:=hr
    obtain ⟨ot1,ot2⟩:=opn_take rs j _ hr
    generalize hr':rs[j]=r at hr hr1 ot1 ot2
    generalize hP:A3++opn (rs.take j)=P at hF5 ⊢
    have hPl:P.length=A3.length+(opn (rs.take j)).length:=by rw [← hP,List.length_append]
    refine s_cut (fun z w'=>z=(false,())∧w5=w') (s_isI hK5 hr1 (hn _ (List.mem_cons_of_mem _ (by rw [← hr'];exact List.getElem_mem hjl))) ?_) ?_
    · rw [if_pos rfl];exact ⟨(false,()),rfl,rfl,rfl⟩
    rintro z w' ⟨rfl,rfl⟩
    show sat _ (jsonparser_createInsertComponent.t8 q.1 q.2.1 z7 ((j+1:Nat):Int) ((P.length:Nat):Int) false) _ _
    unfold jsonparser_createInsertComponent.t8
    refine sat_iteF.2 ?_
    refine s_wtb (t:=ByteArray.mk #[(123:UInt8),(34:UInt8)]) hz7 hF5 rfl (by show P.length+2≤N;omega) fun w6 h6 k6=>s_drew ?_
    have e1:((ByteArray.mk #[(123:UInt8),(34:UInt8)]).size:Nat)=2:=rfl
    rw [e1]
    have ew:IntKind.wrap IntKind.i64 (((P.length:Nat):Int)+((2:Nat):Int))=((P.length+2:Nat):Int):=wad _ _ (by omega)
    simp only [ew]
    have kd:Kp Off w6 w6.drew:=(Kp.refl Off w6).drew
    have h6d:=h6.kp kd id
    have k6d:=(fr k5 k6).trans kd
    have hK6:=hK.kp k6d
    generalize w6.drew=w7 at h6d k6d hK6
    have l6:(P++(ByteArray.mk #[(123:UInt8),(34:UInt8)]).data.toList).length=P.length+2:=by rw [List.length_append];rfl
    have hrl:=len_of r
    refine s_chk ⟨by omega,by rw [hz7];show ((P.length+2:Nat):Int)≤(N:Int);omega,by rw [hz7];exact Int.le_refl _⟩ ?_
    refine s_key hK6 hr1 ?_
    refine s_wtc (t:=r) hz7 h6d (by rw [l6]) (by rw [l6];omega) fun w8 h8 k8 => ?_
    have l8:(P++(ByteArray.mk #[(123:UInt8),(34:UInt8)]).data.toList++r.data.toList).length=P.length+2+r.size:=by rw [List.length_append,l6,hrl]
    have ew2:IntKind.wrap IntKind.i64 (((P.length+2:Nat):Int)+((r.size:Nat):Int))=((P.length+2+r.size:Nat):Int):=wad _ _ (by omega)
    rw [ew2]
    refine s_wtb (t:=ByteArray.mk #[(34:UInt8),(58:UInt8)]) hz7 h8 (by rw [l8]) (by rw [l8];show P.length+2+r.size+2≤N;omega) fun w9 h9 k9=>s_leaf ?_
    have e2:((ByteArray.mk #[(34:UInt8),(58:UInt8)]).size:Nat)=2:=rfl
    have eP:A3++opn (rs.take (j+1))=P++(ByteArray.mk #[(123:UInt8),(34:UInt8)]).data.toList++r.data.toList++(ByteArray.mk #[(34:UInt8),(58:UInt8)]).data.toList:=by
      rw [ot1,← hP]
      simp only [List.append_assoc]
    have eL:(A3++opn (rs.take (j+1))).length=P.length+2+r.size+2:=by rw [eP,List.length_append,l8];rfl
    rw [if_pos rfl,e2,wad _ _ (by omega),wup _ (by omega)]
    refine ⟨rs.length-(j+1),(((j+1+1:Nat):Int),(((A3++opn (rs.take (j+1))).length:Nat):Int),()),by rw [eL];rfl,by omega,j+1,rfl,by omega,rfl,?_,fr (fr k6d k8) k9⟩
    rw [eP];exact h9
  have hjl:j=rs.length:=by omega
  subst hjl
  rw [List.take_length] at hF5 ⊢
  generalize hP:A3++opn rs=P at hF5 ⊢
  have hPl:P.length=A3.length+(opn rs).length:=by rw [← hP,List.length_append]
  refine s_chk ⟨by omega,by rw [hz7];show ((P.length:Nat):Int)≤(N:Int);omega,by rw [hz7];exact Int.le_refl _⟩ ?_
  have hcp : ∀ {Q':Nat→List Value→World→Prop} {K':Int→T},(∀ w',FB w' h N (P++t.data.toList)→Kp (On h) w5 w'→sat Tryz.prog (K' ((t.size:Nat):Int)) Q' w') →
      sat Tryz.prog (.eff (Builtin.copy_ (Call.argTypes (Call.mk (Callee.builtin Builtin.copy) #[(Operand.tmp 136),(Operand.tmp 137)] #[tBs,tBs])) 3 #[(Value.slice (if (((z7).2).2=(Int.toNat ((P.length:Nat):Int))) then (z7).1 else (Option.map (fun (y45:Addr)=>(Addr.add y45 ((Int.toNat ((P.length:Nat):Int)) * 1))) (z7).1)) ((Int.toNat ((((z7).2).1:Nat):Int))-(Int.toNat ((P.length:Nat):Int))) (((z7).2).2-(Int.toNat ((P.length:Nat):Int)))),(Value.slice y.1 y.2.1 y.2.2)]) (.int .i64) K') Q' w5:=by
    intro Q' K' hK'
    rw [hz7]
    show sat Tryz.prog (.eff (Builtin.copy_ _ 3 #[(Value.slice (if (N=(Int.toNat ((P.length:Nat):Int))) then (some (⟨h,0,none⟩:Addr)) else (Option.map (fun (y45:Addr)=>(Addr.add y45 ((Int.toNat ((P.length:Nat):Int)) * 1))) (some (⟨h,0,none⟩:Addr)))) ((Int.toNat ((N:Nat):Int))-(Int.toNat ((P.length:Nat):Int))) (N-(Int.toNat ((P.length:Nat):Int)))),(Value.slice y.1 y.2.1 y.2.2)]) (.int .i64) K') Q' w5
    rw [Int.toNat_natCast,Int.toNat_natCast,Je.sl_at]
    refine s_copyF hF5 (hV.kp k5) rfl (fun hp=>by rw [if_neg (by omega),Nat.zero_add]) (by omega) (by omega) fun w' h' k' => ?_
    rw [Nat.sub_zero,List.drop_zero,List.take_of_length_le (by omega)] at h'
    exact hK' w' h' k'
  refine hcp fun w6 hF6 k6 => ?_
  have ew:IntKind.wrap IntKind.i64 (((P.length:Nat):Int)+((t.size:Nat):Int))=((P.length+t.size:Nat):Int):=wad _ _ (by omega)
  generalize hR:P++t.data.toList=R at hF6
  have hRl:R.length=P.length+t.size:=by rw [← hR,List.length_append,htl]
  have ewl:IntKind.wrap IntKind.i64 (((q.2.1:Nat):Int)-(1:Int))=((rs.length:Nat):Int):=by rw [hl,wdn _ (by omega) (by omega),Nat.add_sub_cancel]
  rw [ew,← hRl,ewl]
  refine s_loop (fun m z w'=>z=((m:Int),(((R++List.replicate (rs.length-m) (125:UInt8)).length:Nat):Int),())∧m≤rs.length∧FB w' h N (R++List.replicate (rs.length-m) (125:UInt8))∧Kp Off w1 w') rs.length (((rs.length:Nat):Int),((R.length:Nat):Int),()) rfl
    ⟨by rw [Nat.sub_self];show _=(((rs.length:Nat):Int),(((R++[]).length:Nat):Int),());rw [List.append_nil];rfl,Nat.le_refl _,by rw [Nat.sub_self];show FB w6 h N (R++[]);rw [List.append_nil];exact hF6,fr k5 k6⟩ ?_
  rintro m z w7 ⟨rfl,hm,hF7,k7⟩
  generalize hS:R++List.replicate (rs.length-m) (125:UInt8)=S at hF7
  have hSl:S.length=R.length+(rs.length-m):=by rw [← hS,List.length_append,List.length_replicate]
  show sat _ (jsonparser_createInsertComponent.t9 q.1 q.2.1 comma obj false z7 (m:Int) ((S.length:Nat):Int)) _ _
  unfold jsonparser_createInsertComponent.t9
  have hK7:=hK.kp k7
  refine s_iteD (fun g => ?_) (fun g => ?_)
  · obtain ⟨m',rfl⟩ : ∃ m',m=m'+1:=⟨m-1,by omega⟩
    have hjl:m'<rs.length:=by omega
    have hr:rs[m']?=some rs[m']:=List.getElem?_eq_getElem hjl
    have hr1:(k :: rs)[m'+1]?=some rs[m']:=hr
    refine s_cut (fun z w'=>z=(false,())∧w7=w') (s_isI hK7 hr1 (hn _ (List.mem_cons_of_mem _ (List.getElem_mem hjl))) ?_) ?_
    · rw [if_pos rfl];exact ⟨(false,()),rfl,rfl,rfl⟩
    rintro z w' ⟨rfl,rfl⟩
    show sat _ (jsonparser_createInsertComponent.t10 z7 ((m'+1:Nat):Int) ((S.length:Nat):Int) false) _ _
    unfold jsonparser_createInsertComponent.t10
    refine sat_iteF.2 ?_
    refine s_wtb (t:=ByteArray.mk #[(125:UInt8)]) hz7 hF7 rfl (by show S.length+1≤N;omega) fun w8 h8 k8=>s_leaf ?_
    have e1:((ByteArray.mk #[(125:UInt8)]).size:Nat)=1:=rfl
    have eS:R++List.replicate (rs.length-m') (125:UInt8)=S++(ByteArray.mk #[(125:UInt8)]).data.toList:=by
      rw [← hS,List.append_assoc]
      have:rs.length-m'=(rs.length-(m'+1))+1:=by omega
      rw [this,List.replicate_succ']
    have eL:(R++List.replicate (rs.length-m') (125:UInt8)).length=S.length+1:=by rw [eS,List.length_append];rfl
    rw [if_pos rfl,e1,wad _ _ (by omega),wdn _ (by omega) (by omega),Nat.add_sub_cancel]
    refine ⟨m',((m':Int),(((R++List.replicate (rs.length-m') (125:UInt8)).length:Nat):Int),()),by rw [eL];rfl,by omega,rfl,by omega,?_,fr k7 k8⟩
    rw [eS];exact h8
  · have hm0:m=0:=by omega
    subst hm0
    refine s_cut (fun z w'=>z=(false,())∧w7=w') (sat_iteF.2 (s_leaf (by rw [if_pos rfl];exact ⟨(false,()),rfl,rfl,rfl⟩))) ?_
    rintro z w' ⟨rfl,rfl⟩
    show sat _ (jsonparser_createInsertComponent.t11 obj false z7 ((S.length:Nat):Int) false) _ _
    unfold jsonparser_createInsertComponent.t11
    refine s_cut (fun z w'=>z=(((S.length:Nat):Int),())∧w7=w') (sat_iteF.2 (s_leaf (by rw [if_pos rfl];exact ⟨(((S.length:Nat):Int),()),rfl,rfl,rfl⟩))) ?_
    rintro z w' ⟨rfl,rfl⟩
    show sat _ (jsonparser_createInsertComponent.t12 obj false z7 ((S.length:Nat):Int)) _ _
    unfold jsonparser_createInsertComponent.t12
    have hcomp:compL comma obj k rs t.data.toList=S++(if obj then [(125:UInt8)] else []):=by
      unfold compL
      rw [hA1,hA2,hA3,hP,hR,← hS,Nat.sub_zero]
    have hfin : ∀ w',FB w' h N (compL comma obj k rs t.data.toList)→(compL comma obj k rs t.data.toList).length=N→Tx w' z7 (mkB (compL comma obj k rs t.data.toList)) 0 (mkB (compL comma obj k rs t.data.toList)).size:=fun w' hF hN=>by
      rw [hz7];exact hF.tx hN (Nat.le_refl _)
    cases obj with
    | true=>
      have:b1 true=1:=rfl
      refine sat_iteT.2 (sat_iteT.2 ?_)
      refine s_wtb (t:=ByteArray.mk #[(125:UInt8)]) hz7 hF7 rfl (by show S.length+1≤N;omega) fun w8 h8 k8=>s_leaf ?_
      rw [if_neg (by decide),if_neg (by decide)]
      have e:compL comma true k rs t.data.toList=S++(ByteArray.mk #[(125:UInt8)]).data.toList:=hcomp
      refine ⟨rfl,z7,rfl,hfin w8 (by rw [e];exact h8) (by rw [e,List.length_append];show S.length+1=N;omega),fr k7 k8⟩
    | false=>
      have:b1 false=0:=rfl
      refine sat_iteF.2 (s_leaf ?_)
      rw [if_neg (by decide),if_neg (by decide)]
      have e:compL comma false k rs t.data.toList=S:=by rw [hcomp];exact List.append_nil _
      exact ⟨rfl,z7,rfl,hfin w7 (by rw [e];exact hF7) (by rw [e];omega),k7⟩
end Go.Proofs.YtlfebfkphgelfaaGreatDoor.Ka
namespace Go.Proofs.YtlfebfkphgelfaaGreatDoor.Ka
open Go Go.Proofs Go.RowKit Rx Tr Pl Pw Sk
open Ed (opn nstL AsIs mkB len_of mkB_size put put_size put_toList eq_of_list mkB_list)
variable {w w':World} {x y q:Sl} {s t:ByteArray} {keys rs:List ByteArray} {k:ByteArray} {h N:Nat} {l:List UInt8}
theorem s_copyZ {Q:Nat→List Value→World→Prop} {z:Sl} {a b:Nat} {off:Int} {ats:Array TypeId} {K:Int→T} (hz:z=(some ⟨h,0,none⟩,N,N)) (hF:FB w h N l) (ho:off=((l.length:Nat):Int)) (hT:Tx w y s a b) (ha:ats = #[tBs,tBs]) (hN:l.length+(b-a)≤N)
    (hK : ∀ w',FB w' h N (l++(s.data.toList.drop a).take (b-a))→Kp (On h) w w'→sat Tryz.prog (K ((b-a:Nat):Int)) Q w') :
    sat Tryz.prog (.eff (Builtin.copy_ ats 3 #[(Value.slice (if (((z).2).2=(Int.toNat off)) then (z).1 else (Option.map (fun (y140:Addr)=>(Addr.add y140 ((Int.toNat off) * 1))) (z).1)) ((Int.toNat ((((z).2).1:Nat):Int))-(Int.toNat off)) (((z).2).2-(Int.toNat off))),.slice y.1 y.2.1 y.2.2]) (.int .i64) K) Q w:=by
  subst hz;subst ho
  show sat Tryz.prog (.eff (Builtin.copy_ ats 3 #[(Value.slice (if (N=(Int.toNat ((l.length:Nat):Int))) then (some (⟨h,0,none⟩:Addr)) else (Option.map (fun (y45:Addr)=>(Addr.add y45 ((Int.toNat ((l.length:Nat):Int)) * 1))) (some (⟨h,0,none⟩:Addr)))) ((Int.toNat ((N:Nat):Int))-(Int.toNat ((l.length:Nat):Int))) (N-(Int.toNat ((l.length:Nat):Int)))),.slice y.1 y.2.1 y.2.2]) (.int .i64) K) Q w
  rw [Int.toNat_natCast,Int.toNat_natCast,Je.sl_at]
  exact s_copyF hF hT ha (fun hp=>by rw [if_neg (by omega),Nat.zero_add]) (by omega) hN hK
theorem comp_len (comma obj:Bool) (k:ByteArray) (rs:List ByteArray) (v:List UInt8):(compL comma obj k rs v).length=b1 comma+b1 obj+(k.size+3)+v.length+clen rs+b1 obj:=by
  have h1:=opn_len rs
  have h2:=len_of k
  unfold compL
  cases comma <;> cases obj <;> simp [b1] <;> omega
theorem t22_any {Q:Nat→List Value→World→Prop} {d b' e':Nat} {comma obj:Bool} (hs:s.size≤4000000000) (hT:Tx w x s 0 s.size) (hV:Tx w y t 0 t.size) (hKx:Kx w q keys) (hd:d≤keys.length) (hkd:keys.drop d=k :: rs) (hn : ∀ key ∈ k :: rs,NoI key) (hb:k.size+clen rs+t.size≤4000000000) (hbe:b'≤e') (hes:e'≤s.size)
    (hQ : ∀ (z:Sl) (w':World),Tx w' z (put s b' e' (mkB (compL comma obj k rs t.data.toList))) 0 (put s b' e' (mkB (compL comma obj k rs t.data.toList))).size→Kp Off w w'→Q 0 [slV z,.nilIface] w') :
    sat Tryz.prog (jsonparser_setConfig.t22 x.1 x.2.1 x.2.2 y.1 y.2.1 y.2.2 q.1 q.2.1 q.2.2 (d:Int) (e':Int) (b':Int) obj comma) Q w:=by
  have hl:=hKx.len
  have hc:=hKx.cap
  have hxl:=hT.len
  have hxc:=hT.cap
  have hdr:=hKx.drop d hd
  rw [hkd] at hdr
  unfold jsonparser_setConfig.t22
  refine s_chk ⟨by omega,by omega,by omega⟩ ?_
  rw [Int.toNat_natCast,Int.toNat_natCast]
  have hcall:=comp_any (comma:=comma) (obj:=obj) hdr hn hV (by omega)
  refine s_call hcall ?_
  rintro en w1 ⟨c,rfl,hC,k1⟩
  refine ⟨c,rfl,?_⟩
  have hcl:=comp_len comma obj k rs t.data.toList
  rw [len_of] at hcl
  have hc1:b1 comma≤1:=by cases comma <;> decide
  have ho1:b1 obj≤1:=by cases obj <;> decide
  generalize hcm:compL comma obj k rs t.data.toList=cm at hC hQ hcl
  have hcz:(mkB cm).size=cm.length:=mkB_size cm
  have hcs:=hC.len
  rw [Nat.sub_zero,hcz] at hcs
  rw [Nat.sub_zero] at hxl
  have eN:IntKind.wrap IntKind.i64 ((IntKind.wrap IntKind.i64 ((IntKind.wrap IntKind.i64 ((b':Int)+(((c.2).1:Nat):Int)))+((x.2.1:Nat):Int)))-(e':Int))=((b'+cm.length+s.size-e':Nat):Int):=by
    rw [hcs,hxl,wad _ _ (by omega),wad _ _ (by omega),wsu _ _ (by omega) (by omega)]
  refine s_makeF (N:=b'+cm.length+s.size-e') eN eN (by omega) fun w2 hF2 k2 => ?_
  generalize hN:b'+cm.length+s.size-e'=N at hF2
  generalize hh:w1.heap.size=h at hF2
  obtain ⟨z,hz⟩ : ∃ z:Sl,z=(some ⟨h,0,none⟩,N,N):=⟨_,rfl⟩
  rw [show ((some (⟨h,0,none⟩:Addr),N,N):Sh.slice.Ty)=z from hz.symm]
  have fr : ∀ {a b:World},Kp Off w1 a→Kp (On h) a b→Kp Off w1 b:=fun k1 k2=>kpThen k1 k2 fun i hi ho=>by unfold On at ho;omega
  have hT2:=(hT.kp k1).kp k2
  refine s_chk ⟨by omega,by omega,by omega⟩ ?_
  have hsb:=hT2.sub (k:=0) (f:=b') (Nat.le_refl _) (Nat.zero_le _) (by omega)
  have hcp : ∀ {Q':Nat→List Value→World→Prop} {K':Int→T},(∀ w',FB w' h N ([]++(s.data.toList.drop 0).take (b'-0))→Kp (On h) w2 w'→sat Tryz.prog (K' ((b'-0:Nat):Int)) Q' w') →
      sat Tryz.prog (.eff (Builtin.copy_ (Call.argTypes (Call.mk (Callee.builtin Builtin.copy) #[(Operand.tmp 337),(Operand.tmp 340)] #[tBs,tBs])) 3 #[(Value.slice (z).1 ((z).2).1 ((z).2).2),(Value.slice (if (x.2.2=0) then x.1 else (Option.map (fun (y138:Addr)=>(Addr.add y138 0)) x.1)) ((Int.toNat (b':Int))-0) (x.2.2-0))]) (.int .i64) K') Q' w2:=by
    intro Q' K' hK'
    have hsb':Tx w2 ((if x.2.2=0 then x.1 else x.1.map fun y=>y.add 0),b'-0,x.2.2-0) s 0 b':=hsb
    have hcf:=s_copyF (Q:=Q') (K:=K') (n:=N) (c:=N) (l:=[]) (d:=0) (ats := #[tBs,tBs]) hF2 hsb' rfl (fun _=>rfl) (by omega) (by show 0+(b'-0)≤N;omega) hK'
    rw [hz,Int.toNat_natCast]
    exact hcf
  refine hcp fun w3 hF3 k3 => ?_
  rw [Nat.sub_zero,List.drop_zero,List.nil_append] at hF3
  rw [Nat.sub_zero]
  have lP:(s.data.toList.take b').length=b':=by rw [List.length_take,len_of];omega
  generalize hP:s.data.toList.take b'=P at hF3 lP
  have k13:=fr k2 k3
  have hC3:=hC.kp k13
  refine s_chk ⟨by omega,by rw [hz];show (b':Int)≤(N:Int);omega,by rw [hz];exact Int.le_refl _⟩ ?_
  refine s_copyZ hz hF3 (by rw [lP]) hC3 rfl (by rw [lP,Nat.sub_zero,hcz];omega) fun w4 hF4 k4=>s_drew ?_
  rw [Nat.sub_zero,List.drop_zero,hcz,mkB_list,List.take_of_length_le (Nat.le_refl _)] at hF4
  rw [Nat.sub_zero,hcz]
  have ew:IntKind.wrap IntKind.i64 ((b':Int)+((cm.length:Nat):Int))=((b'+cm.length:Nat):Int):=wad _ _ (by omega)
  simp only [ew]
  have kd:Kp Off w4 w4.drew:=(Kp.refl Off w4).drew
  have hF5:=hF4.kp kd id
  have k15:=(fr k13 k4).trans kd
  have hT5:=(hT.kp k1).kp k15
  generalize w4.drew=w5 at hF5 k15 hT5
  have lR:(P++cm).length=b'+cm.length:=by rw [List.length_append,lP]
  refine s_chk ⟨by omega,by rw [hz];show ((b'+cm.length:Nat):Int)≤(N:Int);omega,by rw [hz];exact Int.le_refl _⟩ (s_chk ⟨by omega,by omega,by omega⟩ ?_)
  have hse:=hT5.sub (k:=e') (f:=s.size) (Nat.zero_le _) (by omega) (Nat.le_refl _)
  rw [Nat.sub_zero] at hse
  have e1:((Int.toNat ((x.2.1:Nat):Int))-(Int.toNat (e':Int)))=s.size-e':=by rw [Int.toNat_natCast,Int.toNat_natCast,hxl]
  rw [e1,Int.toNat_natCast (n:=e')]
  refine s_copyZ (y:=(if x.2.2=e' then x.1 else x.1.map fun y=>y.add (e' * 1),s.size-e',x.2.2-e')) hz hF5 (by rw [lR]) hse rfl (by rw [lR];omega) fun w6 hF6 k6=>s_leaf ?_
  have l6:(s.data.toList.drop e').take (s.size-e')=s.data.toList.drop e':=List.take_of_length_le (by rw [List.length_drop,len_of];omega)
  rw [l6] at hF6
  have k16:=fr k15 k6
  have lF:(P++cm++s.data.toList.drop e').length=N:=by rw [List.length_append,lR,List.length_drop,len_of];omega
  have hTx:=hF6.tx lF (Nat.le_refl N)
  have heq:mkB (P++cm++s.data.toList.drop e')=put s b' e' (mkB cm):=by
    refine eq_of_list ?_
    rw [put_toList hes,mkB_list,mkB_list,hP,List.append_assoc]
  rw [heq,← hz] at hTx
  exact hQ z w6 hTx (k1.trans k16)
end Go.Proofs.YtlfebfkphgelfaaGreatDoor.Ka
namespace Go.Proofs.YtlfebfkphgelfaaGreatDoor.Ka
open Go Go.Proofs Go.RowKit Rx Tr Pl Pw Sk
open Ed (opn nstL AsIs mkB len_of mkB_size put put_size put_toList eq_of_list mkB_list)
variable {w w':World} {x y q:Sl} {s t:ByteArray} {keys rs:List ByteArray} {k:ByteArray} {h N:Nat} {l:List UInt8} {z0:Nat}
theorem Kx.take (h:Kx w q keys) (d:Nat) (hd:d≤keys.length):Kx w (q.1,d,q.2.2) (keys.take d):=by
  have hl:=h.len
  have hc:=h.cap
  refine ⟨by rw [List.length_take];show d=_;omega,by show d≤q.2.2;omega,?_⟩
  rcases h.cell with h0 | ⟨b,o,h1,h2,h3⟩
  · left;rw [h0];exact List.take_nil
  · refine .inr ⟨b,o,h1,h2,fun j key hj => ?_⟩
    have hjd:j<d:=by
      have:=(List.getElem?_eq_some_iff.1 hj).1
      rw [List.length_take] at this;omega
    rw [List.getElem?_take_of_lt hjd] at hj
    exact h3 j key hj
theorem Kx.take0 (h:Kx w q keys) (d:Nat) (hd:d≤keys.length):Kx w ((if q.2.2=0 then q.1 else q.1.map fun y=>y.add 0),d-0,q.2.2-0) (keys.take d):=by
  have h1:=h.take d hd
  have e:(if q.2.2=0 then q.1 else q.1.map fun y=>y.add 0)=q.1:=by
    obtain ⟨qa,ql,qc⟩:=q
    show (if qc=0 then qa else qa.map fun y=>y.add 0)=qa
    split
    · rfl
    · cases qa with
      | none=>rfl
      | some a=>
        obtain ⟨b,o,p⟩:=a
        rfl
  rw [e];exact h1
theorem t13_zero {Q:Nat→List Value→World→Prop} {i14 i84 i85 i86:Int} {m:Nat} {comma b87:Bool}
    (h:sat Tryz.prog (jsonparser_setConfig.t22 x.1 x.2.1 x.2.2 y.1 y.2.1 y.2.2 q.1 q.2.1 q.2.2 ((0:Nat):Int) (m:Int) (m:Int) false comma) Q w) :
    sat Tryz.prog (jsonparser_setConfig.t13 x.1 x.2.1 x.2.2 y.1 y.2.1 y.2.2 q.1 q.2.1 q.2.2 ⟨z0,0,none⟩ i14 0 false comma (m:Int) i84 i85 i86 b87 false false) Q w:=by
  unfold jsonparser_setConfig.t13
  refine s_cut (fun z w'=>z=((m:Int),(m:Int),false,comma,())∧w=w') (s_iteN (fun g=>absurd rfl g) (fun _ => ?_)) ?_
  · refine s_cut (fun z w'=>z=((m:Int),(m:Int),())∧w=w') (sat_iteF.2 ?_) ?_
    · refine s_cut (fun z w'=>z=((m:Int),(m:Int),())∧w=w') (sat_iteF.2 (s_leaf (by rw [if_pos rfl];exact ⟨((m:Int),(m:Int),()),rfl,rfl,rfl⟩))) ?_
      rintro z w' ⟨rfl,rfl⟩
      show sat _ (jsonparser_setConfig.t20 (m:Int) (m:Int)) _ _
      unfold jsonparser_setConfig.t20
      exact s_leaf (by rw [if_pos rfl];exact ⟨((m:Int),(m:Int),()),rfl,rfl,rfl⟩)
    · rintro z w' ⟨rfl,rfl⟩
      show sat _ (jsonparser_setConfig.t21 false comma (m:Int) (m:Int)) _ _
      unfold jsonparser_setConfig.t21
      exact s_leaf (by rw [if_pos rfl];exact ⟨((m:Int),(m:Int),false,comma,()),rfl,rfl,rfl⟩)
  · rintro z w' ⟨rfl,rfl⟩
    exact h
theorem t13_pos {Q:Nat→List Value→World→Prop} {i84 i85 i86:Int} {b87 b88 b89:Bool} {d b e:Nat} (hs:s.size≤4000000000) (hT:Tx w x s 0 s.size) (hKx:Kx w q keys) (hd0:0<d) (hd:d<keys.length) (hkd:keys.drop d=k :: rs) (hk:NoI k) (hB:Blk w z0 (cfC 0) tCf) (hbe:b+1<e) (hes:e≤s.size) (h123:bt s (b:Int)=123) (hbl:bl s (b+1)<s.size)
    (h1 : ∀ w',Kp Off w w'→bt s (bl s (b+1):Int)≠125→sat Tryz.prog (jsonparser_setConfig.t22 x.1 x.2.1 x.2.2 y.1 y.2.1 y.2.2 q.1 q.2.1 q.2.2 (d:Int) ((e-1:Nat):Int) ((e-1:Nat):Int) false true) Q w')
    (h2 : ∀ w',Kp Off w w'→bt s (bl s (b+1):Int)=125→sat Tryz.prog (jsonparser_setConfig.t22 x.1 x.2.1 x.2.2 y.1 y.2.1 y.2.2 q.1 q.2.1 q.2.2 (d:Int) (e:Int) (b:Int) true false) Q w') :
    sat Tryz.prog (jsonparser_setConfig.t13 x.1 x.2.1 x.2.2 y.1 y.2.1 y.2.2 q.1 q.2.1 q.2.2 ⟨z0,0,none⟩ (b:Int) (d:Int) false true (e:Int) i84 i85 i86 b87 b88 b89) Q w:=by
  have hl:=hKx.len
  have hc:=hKx.cap
  have hxl:=hT.len
  have hxc:=hT.cap
  have hbb:=bl_ge s (b+1)
  unfold jsonparser_setConfig.t13
  refine s_cut (fun z w'=>(bt s (bl s (b+1):Int)≠125∧z=(((e-1:Nat):Int),((e-1:Nat):Int),false,true,())∨bt s (bl s (b+1):Int)=125∧z=((e:Int),(b:Int),true,false,()))∧Kp Off w w') (s_iteN (fun _ => ?_) (fun g=>absurd g (by omega))) ?_
  · refine s_chk ⟨by omega,by omega,by omega⟩ ?_
    have hdr:=hKx.drop d (by omega)
    rw [hkd] at hdr
    have hk0:(k :: rs)[0]?=some k:=rfl
    have hk1:=hk.1
    rw [Int.toNat_natCast,Int.toNat_natCast]
    refine s_cut (fun z w'=>z=(false,())∧w=w') (s_iteD (fun _ => ?_) (fun g=>absurd (by omega) g)) ?_
    · have hs1:=s_key0 (Q:=fun l' vs w''=>if l'=2 then ∃ x,vs=(Sh.cons .bool .nil).vals x∧x=(false,())∧w=w'' else (fun l' vs w''=>if l'=1 then ∃ x,vs=(Sh.cons (.int .i64) (.cons (.int .i64) (.cons .bool (.cons .bool .nil)))).vals x∧(bt s (bl s (b+1):Int)≠125∧x=(((e-1:Nat):Int),((e-1:Nat):Int),false,true,())∨bt s (bl s (b+1):Int)=125∧x=((e:Int),(b:Int),true,false,()))∧Kp Off w w'' else Q l' vs w'') l' vs w'') (K:=fun s91=>
          .ite (decide ((((ByteArray.size s91):Nat):Int) > (0:Int))) (
            .chk (((0:Int)≤(0:Int))∧((0:Int)<(((q.2.1-d:Nat):Nat):Int))) <|
            .ptr (if q.2.2=d then q.1 else q.1.map fun y=>y.add (d * 1)) fun (z92:Addr)=>
            .load (Addr.add z92 0) .str fun (s93:ByteArray)=>
            .chk (((0:Int)≤(0:Int))∧((0:Int)<(((ByteArray.size s93):Nat):Int))) <|
            .leaf 2 [(Value.bool ((bt s93 (0:Int))==(91:Int)))]) (
            .leaf 2 [(Value.bool Bool.false)])) hdr hk0 (s_iteD (fun _=>s_key0 hdr hk0 (s_chk ⟨by omega,by omega⟩ (s_leaf ?_))) (fun g=>absurd (by omega) g))
      · exact hs1
      · rw [if_pos rfl,beq_eq_false_iff_ne.2 hk.2];exact ⟨(false,()),rfl,rfl,rfl⟩
    rintro z w' ⟨rfl,rfl⟩
    show sat _ (jsonparser_setConfig.t14 x.1 x.2.1 x.2.2 ⟨z0,0,none⟩ (b:Int) false true (e:Int) false) _ _
    unfold jsonparser_setConfig.t14
    refine s_at hT (by omega) (s_at hT (by omega) ?_)
    rw [Nat.zero_add,h123]
    refine s_cut (fun z w'=>z=(false,())∧w=w') (sat_iteF.2 (sat_iteT.2 (s_leaf (by rw [if_pos rfl];exact ⟨(false,()),rfl,rfl,rfl⟩)))) ?_
    rintro z w' ⟨rfl,rfl⟩
    show sat _ (jsonparser_setConfig.t15 x.1 x.2.1 x.2.2 ⟨z0,0,none⟩ (b:Int) false true (e:Int) false 123 123 false) _ _
    unfold jsonparser_setConfig.t15
    refine s_cut (fun z w'=>(bt s (bl s (b+1):Int)≠125∧z=(((e-1:Nat):Int),((e-1:Nat):Int),false,true,())∨bt s (bl s (b+1):Int)=125∧z=((e:Int),(b:Int),true,false,()))∧Kp Off w w') (sat_iteF.2 (s_drew ?_)) ?_
    · have kd:Kp Off w w.drew:=(Kp.refl Off w).drew
      have hT1:=hT.kp kd
      have hB1:=kd.blk hB id
      generalize w.drew=w1 at kd hT1 hB1
      refine ⟨(false,false,(0:Int),()),fun w'' hw''=>cfg_run ((Kp.of_below (S:=Off) hw'').blk hB1 id),?_⟩
      have ew:IntKind.wrap IntKind.i64 ((b:Int)+(1:Int))=((b+1:Nat):Int):=wup _ (by omega)
      simp only [ew]
      refine s_chk ⟨by omega,by omega,by omega⟩ ?_
      show sat _ (.call _ _ _ _) _ _
      have hfr:=hT1.from (b+1) (by omega)
      have hnx:=next_any (m:=0) hfr (by omega) (by rw [Nat.zero_add];exact hbl)
      rw [Nat.zero_add] at hnx
      rw [Int.toNat_natCast,Int.toNat_natCast]
      refine s_call hnx ?_
      rintro en w2 ⟨rfl,k2⟩
      have hT2:=hT1.kp k2
      have ew2:IntKind.wrap IntKind.i64 (((b+1:Nat):Int)+((bl s (b+1)-(b+1):Nat):Int))=((bl s (b+1):Nat):Int):=by
        rw [wad _ _ (by omega)]
        have:b+1+(bl s (b+1)-(b+1))=bl s (b+1):=by omega
        rw [this]
      refine ⟨((bl s (b+1)-(b+1):Nat):Int),rfl,k2.belowOff,?_⟩
      simp only [ew2]
      have K2:=kd.trans k2
      refine s_cut (fun z w'=>z=(decide (bt s (bl s (b+1):Int)≠125),())∧w2=w') (s_iteE (fun _=>s_iteD (fun _=>s_iteD (fun _=>s_at hT2 (by omega) ?_) (fun g=>absurd (by omega) g)) (fun g=>absurd (by omega) g)) (fun g=>absurd rfl g)) ?_
      · rw [Nat.zero_add]
        refine s_iteN (fun g=>s_leaf ?_) (fun g=>s_iteE (fun g2=>absurd g2 (by decide)) (fun _=>s_leaf ?_))
        · rw [if_pos rfl,decide_eq_true g];exact ⟨(true,()),rfl,rfl,rfl⟩
        · rw [if_pos rfl,decide_eq_false (fun g2=>g2 g)];exact ⟨(false,()),rfl,rfl,rfl⟩
      rintro z w' ⟨rfl,rfl⟩
      show sat _ (jsonparser_setConfig.t16 (b:Int) false true (e:Int) (decide (bt s (bl s (b+1):Int)≠125))) _ _
      unfold jsonparser_setConfig.t16
      refine s_cut (fun z w'=>(bt s (bl s (b+1):Int)≠125∧z=(((e-1:Nat):Int),((e-1:Nat):Int),false,true,())∨bt s (bl s (b+1):Int)=125∧z=((e:Int),(b:Int),true,false,()))∧w2=w') (s_iteD (fun g=>s_leaf ?_) (fun g=>s_leaf ?_)) ?_
      · rw [if_pos rfl,wdn _ (by omega) (by omega)]
        exact ⟨(((e-1:Nat):Int),((e-1:Nat):Int),false,true,()),rfl,.inl ⟨g,rfl⟩,rfl⟩
      · rw [if_pos rfl]
        exact ⟨((e:Int),(b:Int),true,false,()),rfl,.inr ⟨Decidable.byContradiction g,rfl⟩,rfl⟩
      rintro z w' ⟨hz,rfl⟩
      unfold jsonparser_setConfig.t17
      refine s_leaf ?_
      rw [if_pos rfl]
      exact ⟨z,by rcases hz with ⟨_,rfl⟩ | ⟨_,rfl⟩ <;> rfl,hz,K2⟩
    · rintro z w' ⟨hz,k1⟩
      unfold jsonparser_setConfig.t18
      refine s_leaf ?_
      rw [if_pos rfl]
      exact ⟨z,by rcases hz with ⟨_,rfl⟩ | ⟨_,rfl⟩ <;> rfl,hz,k1⟩
  · rintro z w' ⟨⟨g,rfl⟩ | ⟨g,rfl⟩,k1⟩
    · exact h1 w' k1 g
    · exact h2 w' k1 g
end Go.Proofs.YtlfebfkphgelfaaGreatDoor.Ka
namespace Go.Proofs.YtlfebfkphgelfaaGreatDoor.Ka
open Go Go.Proofs Go.RowKit Rx Tr Pl Pw Sk
open Ed (opn nstL insL AsIs mkB len_of mkB_size put put_size put_toList eq_of_list mkB_list)
variable {w w':World} {x y q:Sl} {s t:ByteArray} {keys rs ks1:List ByteArray} {k:ByteArray} {h N:Nat} {l:List UInt8} {z0:Nat}
theorem t2_pos {Q:Nat→List Value→World→Prop} {i14 i15:Int} {e:Nat}
    (h:sat Tryz.prog (jsonparser_setConfig.t13 x.1 x.2.1 x.2.2 y.1 y.2.1 y.2.2 q.1 q.2.1 q.2.2 ⟨z0,0,none⟩ i14 i15 false true (e:Int) 0 0 0 false false false) Q w) :
    sat Tryz.prog (jsonparser_setConfig.t2 x.1 x.2.1 x.2.2 y.1 y.2.1 y.2.2 q.1 q.2.1 q.2.2 ⟨z0,0,none⟩ i14 i15 (e:Int)) Q w:=by
  unfold jsonparser_setConfig.t2
  refine s_cut (fun z w'=>z=(false,true,(e:Int),(0:Int),(0:Int),(0:Int),false,false,false,())∧w=w') (s_iteE (fun g=>absurd g (by omega)) (fun _=>s_leaf (by rw [if_pos rfl];exact ⟨(false,true,(e:Int),(0:Int),(0:Int),(0:Int),false,false,false,()),rfl,rfl,rfl⟩))) ?_
  rintro z w' ⟨rfl,rfl⟩
  exact h
theorem t2_zero {Q:Nat→List Value→World→Prop} {i14 i15:Int} {b m:Nat} (hs:s.size≤4000000000) (hT:Tx w x s 0 s.size) (hKx:Kx w q (k :: rs)) (hk:NoI k) (hB:Blk w z0 (cfC 0) tCf) (hb:bl s 0=b) (h123:bt s (b:Int)=123) (hbl:bl s (b+1)<s.size)
    (hm:m<s.size) (h125:bt s (m:Int)=125) (hbk : ∀ j,m<j→j<s.size→isB (bt s (j:Int))=true)
    (h : ∀ w',Kp Off w w'→sat Tryz.prog (jsonparser_setConfig.t13 x.1 x.2.1 x.2.2 y.1 y.2.1 y.2.2 q.1 q.2.1 q.2.2 ⟨z0,0,none⟩ i14 i15 false (decide (bt s (bl s (b+1):Int)≠125)) (m:Int) 0 0 0 false false false) Q w') :
    sat Tryz.prog (jsonparser_setConfig.t2 x.1 x.2.1 x.2.2 y.1 y.2.1 y.2.2 q.1 q.2.1 q.2.2 ⟨z0,0,none⟩ i14 i15 (-1)) Q w:=by
  have hxl:=hT.len
  have hxc:=hT.cap
  have hk0:(k :: rs)[0]?=some k:=rfl
  have hk1:=hk.1
  have hbs:b<s.size:=lt_of_bt (by omega)
  unfold jsonparser_setConfig.t2
  refine s_cut (fun z w'=>z=(false,decide (bt s (bl s (b+1):Int)≠125),(m:Int),(0:Int),(0:Int),(0:Int),false,false,false,())∧Kp Off w w') (s_iteE (fun _ => ?_) (fun g=>absurd rfl g)) (fun z w' ⟨hz,k1⟩=>by rw [hz];exact h w' k1)
  refine s_eff (w':=w) (false,false,(0:Int),()) (cfg_run hB) ?_
  refine s_call (next_any (m:=0) hT (by omega) (by rw [hb];exact hbs)) ?_
  rintro en w1 ⟨rfl,k1⟩
  rw [hb,Nat.sub_zero]
  have hT1:=hT.kp k1
  have hK1:=hKx.kp k1
  have hB1:=k1.blk hB id
  refine ⟨(b:Int),rfl,s_iteD (fun g=>absurd g (by omega)) (fun _ => ?_)⟩
  refine s_cut (fun z w'=>z=(false,())∧w1=w') ?_ ?_
  · refine s_key0 hK1 hk0 (s_iteD (fun _=>s_key0 hK1 hk0 (s_chk ⟨by omega,by omega⟩ (s_leaf ?_))) (fun g=>absurd (by omega) g))
    rw [if_pos rfl,beq_eq_false_iff_ne.2 hk.2];exact ⟨(false,()),rfl,rfl,rfl⟩
  rintro z w' ⟨rfl,rfl⟩
  show sat _ (jsonparser_setConfig.t3 x.1 x.2.1 x.2.2 q.1 q.2.1 ⟨z0,0,none⟩ (b:Int) false) _ _
  unfold jsonparser_setConfig.t3
  refine s_cut (fun z w'=>z=(true,())∧w1=w') (s_key0 hK1 hk0 (s_iteD (fun _=>s_leaf (by rw [if_pos rfl];exact ⟨(true,()),rfl,rfl,rfl⟩)) (fun g=>absurd (by omega) g))) ?_
  rintro z w' ⟨rfl,rfl⟩
  show sat _ (jsonparser_setConfig.t4 x.1 x.2.1 x.2.2 ⟨z0,0,none⟩ (b:Int) false true) _ _
  unfold jsonparser_setConfig.t4
  refine s_at hT1 (by omega) (s_at hT1 (by omega) ?_)
  rw [Nat.zero_add,h123]
  refine s_cut (fun z w'=>z=(false,())∧w1=w') (sat_iteF.2 (sat_iteT.2 (s_leaf (by rw [if_pos rfl];exact ⟨(false,()),rfl,rfl,rfl⟩)))) ?_
  rintro z w' ⟨rfl,rfl⟩
  show sat _ (jsonparser_setConfig.t5 x.1 x.2.1 x.2.2 ⟨z0,0,none⟩ (b:Int) false 123 123 false) _ _
  unfold jsonparser_setConfig.t5
  refine s_cut (fun z w'=>z=(false,decide (bt s (bl s (b+1):Int)≠125),(m:Int),(0:Int),(0:Int),(0:Int),false,false,false,())∧Kp Off w w') (sat_iteF.2 ?_) ?_
  · refine s_cut (fun z w'=>z=(false,())∧w1=w') (sat_iteF.2 (s_leaf (by rw [if_pos rfl];exact ⟨(false,()),rfl,rfl,rfl⟩))) ?_
    rintro z w' ⟨rfl,rfl⟩
    show sat _ (jsonparser_setConfig.t6 x.1 x.2.1 x.2.2 ⟨z0,0,none⟩ (b:Int) 123 false) _ _
    unfold jsonparser_setConfig.t6
    refine s_cut (fun z w'=>z=(decide (bt s (bl s (b+1):Int)≠125),(m:Int),(0:Int),(0:Int),false,false,())∧Kp Off w w') (sat_iteF.2 (sat_iteF.2 (s_drew ?_))) ?_
    · have kd:Kp Off w1 w1.drew:=(Kp.refl Off w1).drew
      have hT2:=hT1.kp kd
      have hB2:=kd.blk hB1 id
      generalize w1.drew=w2 at kd hT2 hB2
      refine ⟨(false,false,(0:Int),()),fun w'' hw''=>cfg_run ((Kp.of_below (S:=Off) hw'').blk hB2 id),?_⟩
      have ew:IntKind.wrap IntKind.i64 ((b:Int)+(1:Int))=((b+1:Nat):Int):=wup _ (by omega)
      simp only [ew]
      refine s_chk ⟨by omega,by omega,by omega⟩ ?_
      show sat _ (.call _ _ _ _) _ _
      have hbb:=bl_ge s (b+1)
      have hfr:=hT2.from (b+1) (by omega)
      have hnx:=next_any (m:=0) hfr (by omega) (by rw [Nat.zero_add];exact hbl)
      rw [Nat.zero_add] at hnx
      rw [Int.toNat_natCast,Int.toNat_natCast]
      refine s_call hnx ?_
      rintro en w3 ⟨rfl,k3⟩
      have hT3:=hT2.kp k3
      have ew2:IntKind.wrap IntKind.i64 (((b+1:Nat):Int)+((bl s (b+1)-(b+1):Nat):Int))=((bl s (b+1):Nat):Int):=by
        rw [wad _ _ (by omega)]
        have:b+1+(bl s (b+1)-(b+1))=bl s (b+1):=by omega
        rw [this]
      refine ⟨((bl s (b+1)-(b+1):Nat):Int),rfl,k3.belowOff,?_⟩
      simp only [ew2]
      refine s_at hT3 (by omega) ?_
      rw [Nat.zero_add]
      refine s_cut (fun z w'=>z=(decide (bt s (bl s (b+1):Int)≠125),())∧w3=w') (s_iteE (fun g=>s_leaf ?_) (fun g=>s_leaf ?_)) ?_
      · rw [if_pos rfl,decide_eq_false (fun g2=>g2 g)];exact ⟨(false,()),rfl,rfl,rfl⟩
      · rw [if_pos rfl,decide_eq_true g];exact ⟨(true,()),rfl,rfl,rfl⟩
      rintro z w' ⟨rfl,rfl⟩
      show sat _ (jsonparser_setConfig.t10 x.1 x.2.1 x.2.2 (decide (bt s (bl s (b+1):Int)≠125))) _ _
      unfold jsonparser_setConfig.t10
      refine s_call (last_any (by omega) hT3 hm (by rw [h125];rfl) hbk) ?_
      rintro en w4 ⟨rfl,rfl⟩
      refine ⟨(m:Int),rfl,s_leaf ?_⟩
      rw [if_pos rfl]
      exact ⟨(decide (bt s (bl s (b+1):Int)≠125),(m:Int),(0:Int),(0:Int),false,false,()),rfl,rfl,(k1.trans kd).trans k3⟩
    · rintro z w' ⟨rfl,k2⟩
      show sat _ (jsonparser_setConfig.t11 (decide (bt s (bl s (b+1):Int)≠125)) (m:Int) 0 0 false false) _ _
      unfold jsonparser_setConfig.t11
      refine s_leaf ?_
      rw [if_pos rfl]
      exact ⟨(false,decide (bt s (bl s (b+1):Int)≠125),(m:Int),(0:Int),(0:Int),(0:Int),false,false,false,()),rfl,rfl,k2⟩
  · rintro z w' ⟨rfl,k2⟩
    show sat _ (jsonparser_setConfig.t12 false (decide (bt s (bl s (b+1):Int)≠125)) (m:Int) 0 0 0 false false false) _ _
    unfold jsonparser_setConfig.t12
    refine s_leaf ?_
    rw [if_pos rfl]
    exact ⟨(false,decide (bt s (bl s (b+1):Int)≠125),(m:Int),(0:Int),(0:Int),(0:Int),false,false,false,()),rfl,rfl,k2⟩
theorem lead_split : ∀ {a b:List ByteArray} {p r:PT} {nm:Nat×Nat→ByteArray} {ix:ByteArray→Option Nat},Gk.Lead nm ix p (a++b) r → ∃ m,Gk.Lead nm ix p a m∧Gk.Lead nm ix m b r
  | [],_,p,_,_,_,h=>⟨p,.nil,h⟩
  | _ :: _,_,_,_,_,_,h=>by
    cases h with
    | mem a1 a2 a3 a4 a5=>
      obtain ⟨m,b1,b2⟩:=lead_split a5
      exact ⟨m,.mem a1 a2 a3 a4 b1,b2⟩
    | elt a1 a2 a3=>
      obtain ⟨m,b1,b2⟩:=lead_split a3
      exact ⟨m,.elt a1 a2 b1,b2⟩
structure New (s:ByteArray) (p0:PT) (ks1:List ByteArray) (b e:Nat) (ns:List (Nat×Nat)) (ks:List PT) (k:ByteArray) (rs:List ByteArray):Prop where
  led:Led s p0 ks1 (.mk 6 b e ns ks)
  m1:Mis s p0 (ks1++[k])
  ma:Mis s p0 (ks1++k :: rs)
  noi : ∀ key ∈ k :: rs,NoI key
def newT (s:ByteArray) (ks1:List ByteArray) (b e:Nat) (ks:List PT) (k:ByteArray) (rs:List ByteArray) (v:List UInt8):ByteArray:=
  if ks≠[] then put s (e-1) (e-1) (mkB (compL true false k rs v)) else if ks1=[] then put s (e-1) (e-1) (mkB (compL false false k rs v)) else put s b e (mkB (compL false true k rs v))
theorem setNew_any {p0:PT} {b e:Nat} {ns:List (Nat×Nat)} {ks:List PT} {a:Addr} (hs:s.size≤4000000000) (hL:Je.Lt w) (hE:Je.Ev w Je.gE) (hk:Ek w a) (hT:Tx w x s 0 s.size) (hV:Tx w y t 0 t.size) (hKx:Kx w q (ks1++k :: rs)) (hN:New s p0 ks1 b e ns ks k rs) (hb:k.size+clen rs+t.size≤4000000000) (hkn:ks1.length≤4000000000) :
    Calls Tryz.prog 46 #[cfg 0,slV x,slV y,slV q] w fun en w' => ∃ z:Sl,en = .returned (.tuple #[slV z,.nilIface])∧Tx w' z (newT s ks1 b e ks k rs t.data.toList) 0 (newT s ks1 b e ks k rs t.data.toList).size∧Kp Off w w':=by
  have hl:=hKx.len
  have hc:=hKx.cap
  rw [List.length_append,List.length_cons] at hl
  have hdl:(ks1++k :: rs).drop ks1.length=k :: rs:=List.drop_left
  obtain ⟨w1',w2',w3',w4'⟩:=Gk.wf_obj hN.led.wfp
  have w5':=Gk.wfM_bl _ _ _ _ _ w4'
  have w6':=Gk.wfM_end _ _ _ _ _ w4'
  have hne:bt s (bl s (b+1):Int)≠125↔ks≠[]:=by
    cases ks with
    | nil=>
      have:=w4'
      unfold WfM at this
      exact ⟨fun g=>absurd this.2.1 g,fun g=>absurd rfl g⟩
    | cons p1 ks=>
      have:=w4'
      unfold WfM at this
      obtain ⟨n,ns',_,h0,hq,_⟩:=this
      have h0:n.1=bl s (b+1):=h0
      rw [← h0,hq]
      exact ⟨fun _=>by simp,fun _=>by decide⟩
  have hbb:=bl_ge s (b+1)
  refine jsonparser_setConfig.calls _ _ _ _ _ _ _ _ _ _ _ _ ?_
  unfold jsonparser_setConfig.t
  refine s_alloc ?_
  have b0:=Blk.new w (cfC 0) tCf
  have k0:Kp Off w (w.alloc (.cells (cfC 0).toArray tCf (0,0))):=(Kp.refl Off w).alloc _
  show sat _ _ _ (w.alloc (.cells (cfC 0).toArray tCf (0,0)))
  generalize w.alloc (.cells (cfC 0).toArray tCf (0,0))=v1 at k0 b0
  generalize hz0:w.heap.size=z0 at b0
  refine s_iteE (fun g=>absurd g (by omega)) (fun _ => ?_)
  refine s_eff (w':=v1) (false,false,(0:Int),()) (cfg_run b0) ?_
  refine s_call (getK_miss (a:=a) (by omega) (hL.off' k0) (hE.kp k0 id) (hk.kp k0) (hT.kp k0) (hKx.kp k0) hN.ma) ?_
  rintro en v2 ⟨rfl,k2⟩
  have k02:=k0.trans k2
  refine ⟨((none,0,0),(0:Int),(-1:Int),(-1:Int),Value.iface tPE (.pointer (some a)),()),rfl,s_chk rfl (sat_iteT.2 ?_)⟩
  refine s_load (Value.iface tPE (.pointer (some a))) (hk.kp k02) ?_
  refine s_eff (w':=v2) false (neq_same a _ _ v2) (sat_iteF.2 ?_)
  have pre : ∀ j,j≤ks1.length → ∃ pj,Led s p0 ((ks1++k :: rs).take j) pj∧(j=ks1.length→pj = .mk 6 b e ns ks):=by
    intro j hj
    have e1:(ks1++k :: rs).take j=ks1.take j:=List.take_append_of_le_length hj
    have hsp:ks1=ks1.take j++ks1.drop j:=(List.take_append_drop j ks1).symm
    have hld:=hN.led.lead
    rw [hsp] at hld
    obtain ⟨m,a1,a2⟩:=lead_split hld
    rw [e1]
    refine ⟨m,⟨hN.led.at0,hN.led.wf,hN.led.fin,a1⟩,fun g => ?_⟩
    subst g
    rw [List.drop_length] at a2
    cases a2
    rfl
  have hcl:(ks1++k :: rs).length=ks1.length+(rs.length+1):=by rw [List.length_append,List.length_cons]
  refine s_cut (fun z w'=>((ks1=[]∧z=((-1:Int),(0:Int),(-1:Int),()))∨(ks1≠[]∧z=((b:Int),((ks1.length:Nat):Int),(e:Int),())))∧Kp Off v1 w') ?_ ?_
  · refine s_loop (fun n z w' => ∃ j:Nat,n=ks1.length+1-j∧j≤ks1.length∧((j=0∧z=((-1:Int),(0:Int),(-1:Int),(0:Int),()))∨(0<j ∧ ∃ pj,Led s p0 ((ks1++k :: rs).take j) pj∧(j=ks1.length→pj = .mk 6 b e ns ks)∧z=((pj.b:Int),(j:Int),(pj.e:Int),(j:Int),())))∧Kp Off v1 w') (ks1.length+1) ((-1:Int),(0:Int),(-1:Int),(0:Int),()) rfl ⟨0,rfl,Nat.zero_le _,.inl ⟨rfl,rfl⟩,k2⟩ ?_
    rintro n z w3 ⟨j,rfl,hj,hz,k3⟩
    obtain ⟨i7,i8,i9,i10,hzz,h8,h10,hrest⟩ : ∃ (i7 i8 i9 i10:Int),z=(i7,i8,i9,i10,())∧i8=(j:Int)∧i10=(j:Int)∧((ks1.length=j→(ks1=[]∧i7 = -1∧i9 = -1)∨(ks1≠[]∧i7=(b:Int)∧i9=(e:Int)))):=by
      rcases hz with ⟨rfl,rfl⟩ | ⟨hj0,pj,a1,a2,rfl⟩
      · exact ⟨_,_,_,_,rfl,rfl,rfl,fun g => .inl ⟨List.eq_nil_of_length_eq_zero g,rfl,rfl⟩⟩
      · refine ⟨_,_,_,_,rfl,rfl,rfl,fun g => .inr ⟨fun g2=>by rw [g2] at g;simp at g;omega,?_⟩⟩
        have:=a2 g.symm
        subst this
        exact ⟨rfl,rfl⟩
    subst hzz;subst h8;subst h10
    show sat _ (jsonparser_setConfig.t1 x.1 x.2.1 x.2.2 q.1 q.2.1 q.2.2 ⟨z0,0,none⟩ i7 (j:Int) i9 (j:Int)) _ _
    unfold jsonparser_setConfig.t1
    refine s_iteD (fun _=>s_drew ?_) (fun g=>absurd (by omega) g)
    have kd:Kp Off w3 w3.drew:=(Kp.refl Off w3).drew
    have k3d:=k3.trans kd
    have K3d:=k0.trans k3d
    generalize w3.drew=w4 at kd k3d K3d
    have b4:=k3d.blk b0 id
    refine ⟨(false,false,(0:Int),()),fun w'' hw''=>cfg_run ((Kp.of_below (S:=Off) hw'').blk b4 id),?_⟩
    have ew:IntKind.wrap IntKind.i64 ((j:Int)+(1:Int))=((j+1:Nat):Int):=wup _ (by omega)
    simp only [ew]
    refine s_chk ⟨by omega,by omega,by omega⟩ ?_
    have hKt:=(hKx.kp K3d).take0 (j+1) (by rw [hcl];omega)
    rw [Int.toNat_natCast]
    rcases Nat.lt_or_ge j ks1.length with g | g
    · obtain ⟨pj,a1,a2⟩:=pre (j+1) g
      have hcall:=getK_any (by omega) (hL.off' K3d) (hE.kp K3d id) (hT.kp K3d) hKt a1
      refine s_call hcall ?_
      rintro en w5 ⟨v,rfl,_,_,k5⟩
      refine ⟨(v,jk pj.k,((pj.b-0:Nat):Int),((pj.e-0:Nat):Int),Value.nilIface,()),rfl,s_chk rfl (sat_iteF.2 (s_leaf ?_))⟩
      rw [if_pos rfl]
      exact ⟨ks1.length+1-(j+1),((pj.b:Int),((j+1:Nat):Int),(pj.e:Int),((j+1:Nat):Int),()),rfl,by omega,j+1,rfl,g,.inr ⟨Nat.succ_pos j,pj,a1,a2,rfl⟩,k3d.trans k5⟩
    · have hje:j=ks1.length:=by omega
      subst hje
      have etk:(ks1++k :: rs).take (ks1.length+1)=ks1++[k]:=by
        rw [List.take_append]
        have:ks1.length+1-ks1.length=1:=by omega
        rw [this,List.take_of_length_le (Nat.le_succ _)];rfl
      rw [etk] at hKt
      have hcall:=getK_miss (a:=a) (by omega) (hL.off' K3d) (hE.kp K3d id) (hk.kp K3d) (hT.kp K3d) hKt hN.m1
      refine s_call hcall ?_
      rintro en w5 ⟨rfl,k5⟩
      refine ⟨((none,0,0),(0:Int),(-1:Int),(-1:Int),Value.iface tPE (.pointer (some a)),()),rfl,s_chk rfl (sat_iteT.2 (s_leaf ?_))⟩
      rw [if_neg (by decide),if_pos rfl]
      refine ⟨(i7,((ks1.length:Nat):Int),i9,()),rfl,?_,k3d.trans k5⟩
      rcases hrest rfl with ⟨g1,rfl,rfl⟩ | ⟨g1,rfl,rfl⟩
      · left
        refine ⟨g1,?_⟩
        rw [g1];rfl
      · exact .inr ⟨g1,rfl⟩
  · rintro z w3 ⟨hz,k3⟩
    have K3:=k0.trans k3
    have b3:=k3.blk b0 id
    have hT3:=hT.kp K3
    have hV3:=hV.kp K3
    have hK3:=hKx.kp K3
    have fin : ∀ (z:Sl) (w':World) (T:ByteArray),Kp Off w w'→newT s ks1 b e ks k rs t.data.toList=T→Tx w' z T 0 T.size→(fun l' vs w''=>l'=0∧(fun en w' => ∃ z:Sl,en = .returned (.tuple #[slV z,.nilIface])∧Tx w' z (newT s ks1 b e ks k rs t.data.toList) 0 (newT s ks1 b e ks k rs t.data.toList).size∧Kp Off w w') (Ending.returned (retVal vs)) w'') 0 [slV z,.nilIface] w':=fun z w' T k e h=>by
      subst e
      exact ⟨rfl,z,rfl,h,k⟩
    rcases hz with ⟨rfl,rfl⟩ | ⟨g1,rfl⟩
    · have hld:=hN.led.lead
      have hat:=hN.led.at0
      have hfin:=hN.led.fin
      cases hld
      have hat:bl s 0=b:=hat
      have hfin:bl s e=s.size:=hfin
      show sat _ (jsonparser_setConfig.t2 x.1 x.2.1 x.2.2 y.1 y.2.1 y.2.2 q.1 q.2.1 q.2.2 ⟨z0,0,none⟩ (-1) 0 (-1)) _ _
      refine t2_zero (rs:=rs) (k:=k) (m:=e-1) hs hT3 hK3 (hN.noi k (by simp)) b3 hat w3' (by omega) (by omega) w6'.2 (fun j h1 h2=>bl_blank s e j (by omega) (by rw [hfin];exact h2)) fun w4 k4 => ?_
      refine t13_zero ?_
      refine t22_any (d:=0) hs (hT3.kp k4) (hV3.kp k4) (hK3.kp k4) (Nat.zero_le _) rfl hN.noi hb (Nat.le_refl _) (by omega) fun z w5 h5 k5=>fin z w5 _ ((K3.trans k4).trans k5) ?_ h5
      unfold newT
      by_cases hks:ks=[]
      · rw [if_neg (fun g=>g hks),if_pos rfl,decide_eq_false (fun g=>(hne.1 g) hks)]
      · rw [if_pos hks,decide_eq_true (hne.2 hks)]
    · show sat _ (jsonparser_setConfig.t2 x.1 x.2.1 x.2.2 y.1 y.2.1 y.2.2 q.1 q.2.1 q.2.2 ⟨z0,0,none⟩ (b:Int) ((ks1.length:Nat):Int) (e:Int)) _ _
      have hpos:=List.length_pos_iff.2 g1
      refine t2_pos (t13_pos hs hT3 hK3 hpos (by rw [hcl];omega) hdl (hN.noi k (by simp)) b3 (by omega) w2' w3' (by omega) (fun w4 k4 g => ?_) (fun w4 k4 g => ?_))
      · refine t22_any hs (hT3.kp k4) (hV3.kp k4) (hK3.kp k4) (by rw [hcl];omega) hdl hN.noi hb (Nat.le_refl _) (by omega) fun z w5 h5 k5=>fin z w5 _ ((K3.trans k4).trans k5) ?_ h5
        unfold newT
        rw [if_pos (hne.1 g)]
      · refine t22_any hs (hT3.kp k4) (hV3.kp k4) (hK3.kp k4) (by rw [hcl];omega) hdl hN.noi hb (by omega) w2' fun z w5 h5 k5=>fin z w5 _ ((K3.trans k4).trans k5) ?_ h5
        unfold newT
        rw [if_neg (fun g2=>(hne.2 g2) g),if_neg g1]
end Go.Proofs.YtlfebfkphgelfaaGreatDoor.Ka
namespace Go.Proofs.YtlfebfkphgelfaaGreatDoor.Ka
open Go Go.Proofs Go.RowKit Rx Pl Pw Sk Ut Ql
open Ed (opn nstL insL inI AsIs mkB len_of mkB_size put put_size put_toList eq_of_list mkB_list)
open Bw (gb)
variable {s:ByteArray} {ks1 rs:List ByteArray} {k:ByteArray} {p0:PT} {b e:Nat} {ns:List (Nat×Nat)} {ks:List PT}
theorem own_take (hb:b<e) (he:e≤s.size):s.data.toList.take b++(s.extract b e).data.toList.take ((s.extract b e).size-1)=s.data.toList.take (e-1):=by
  have hz:(s.extract b e).size=e-b:=by rw [ByteArray.size_extract];omega
  have h1:=extract_tl s b (e-b)
  rw [Nat.add_sub_cancel' (Nat.le_of_lt hb)] at h1
  rw [h1,hz,List.take_take,Nat.min_eq_left (by omega)]
  have h2:s.data.toList.take (b+(e-b-1))=s.data.toList.take b++(s.data.toList.drop b).take (e-b-1):=List.take_add
  rw [show e-1=b+(e-b-1) by omega,h2]
  rfl
theorem last_drop (h1:1≤e) (he:e≤s.size) (hc:bt s ((e-1:Nat):Int)=125):s.data.toList.drop (e-1)=125 :: s.data.toList.drop e:=by
  have h:=tl_on (o:=s) (p:=e-1) (by omega)
  have hg:gb s (e-1)=125:=by
    refine UInt8.toNat_inj.1 ?_
    rw [Uq.gb_bn]
    rw [bt_bn] at hc
    exact Int.ofNat.inj hc
  rw [hg,Nat.sub_add_cancel h1] at h
  exact h
theorem put_ins {c:Bool} {v:List UInt8} (hb:b<e) (he:e≤s.size) (hc:bt s ((e-1:Nat):Int)=125) :
    put s (e-1) (e-1) (mkB (compL c false k rs v))=put s b e (mkB (insL (s.extract b e) c k (mkB (nstL rs v)))):=by
  refine eq_of_list ?_
  rw [put_toList (by omega),put_toList he,mkB_list,mkB_list,← own_take hb he,last_drop (by omega) he hc]
  unfold insL compL nstL
  rw [mkB_list]
  simp [List.append_assoc]
theorem comp_nst (v:List UInt8):compL false true k rs v=nstL (k :: rs) v:=by
  have e0:opn (k :: rs)=[123,34]++(k.data.toList++([34,58]++opn rs)):=rfl
  unfold nstL compL
  rw [e0,List.length_cons,List.replicate_succ']
  simp [List.append_assoc]
end Go.Proofs.YtlfebfkphgelfaaGreatDoor.Ka
namespace Go.Proofs.YtlfebfkphgelfaaGreatDoor.Ka
open Go Go.Proofs Go.RowKit Rx Tr Pl Pw Sk
open Ed (opn nstL AsIs mkB len_of mkB_size put put_size)
variable {w w':World} {x y q:Sl} {s t:ByteArray} {keys rs ks1:List ByteArray} {k:ByteArray} {p0 p:PT}
theorem setN_any {b e:Nat} {ns:List (Nat×Nat)} {ks:List PT} {a:Addr} (hs:s.size≤4000000000) (hC:Je.Cv w) (hL:Je.Lt w) (hE:Je.Ev w Je.gE) (hk:Ek w a) (hT:Tx w x s 0 s.size) (hV:Tx w y t 0 t.size) (hKx:Kx w q (ks1++k :: rs)) (hN:New s p0 ks1 b e ns ks k rs) (hb:k.size+clen rs+t.size≤4000000000) (hkn:ks1.length≤4000000000) :
    Calls Tryz.prog 30 #[slV x,slV y,slV q] w fun en w' => ∃ z:Sl,en = .returned (.tuple #[slV z,.nilIface])∧Tx w' z (newT s ks1 b e ks k rs t.data.toList) 0 (newT s ks1 b e ks k rs t.data.toList).size∧Kp Off w w':=by
  refine jsonparser_Set.calls _ _ _ _ _ _ _ _ _ ?_
  unfold jsonparser_Set.t
  refine s_eff (w':=w) (false,false,(0:Int),()) (Je.loadAt_cells (cs:=Je.cfg) (by kernel_rfl) (info_some (by kernel_rfl)) (by kernel_rfl) (fun j v hj=>by rw [addr_add,Nat.zero_add];exact hC j v hj)) ?_
  refine s_call (setNew_any hs hL hE hk hT hV hKx hN hb hkn) ?_
  rintro en w1 ⟨z,rfl,h1,k1⟩
  exact ⟨(z,Value.nilIface,()),rfl,s_leaf ⟨rfl,z,rfl,h1,k1⟩⟩
end Go.Proofs.YtlfebfkphgelfaaGreatDoor.Ka
namespace Go.Proofs.YtlfebfkphgelfaaGreatDoor.Lj
open Go Go.Proofs Go.RowKit Rx Tr Pl Pw
open Sr (Sl slV tP pc storeP loadP zp PlAt RowIn p_no)
open Ka (Kx nmS ixS s_key Led Mis New NoI Kx.take0)
open Gk (Lead Miss)
open Ed (AsIs)
variable {w w':World} {s:ByteArray} {B:Nat→Prop}
theorem lead_uniqs {nm:Nat×Nat→ByteArray} {ix:ByteArray→Option Nat} : ∀ {ks:List ByteArray} {p a b:PT},Lead nm ix p ks a→Lead nm ix p ks b→a=b
  | [],_,_,_,h1,h2=>by cases h1;cases h2;rfl
  | key :: ks,p,a,b,h1,h2=>by
    obtain ⟨x,x1,x2⟩:=Ka.lead_split (a:=[key]) (b:=ks) h1
    obtain ⟨y,y1,y2⟩:=Ka.lead_split (a:=[key]) (b:=ks) h2
    have:=Ka.Lead.uniq x1 y1
    subst this
    exact lead_uniqs x2 y2
def UniqN (nm:Nat×Nat→ByteArray) (key:ByteArray) (ns:List (Nat×Nat)):Prop := ∀ (i j:Nat) (n n':Nat×Nat),ns[i]?=some n→ns[j]?=some n'→nm n=key→nm n'=key→i=j
def cnt (nm:Nat×Nat→ByteArray) (key:ByteArray):List (Nat×Nat)→Nat
  | []=>0
  | n :: ns=>(if nm n=key then 1 else 0)+cnt nm key ns
theorem cnt_snoc (nm:Nat×Nat→ByteArray) (key:ByteArray) : ∀ (ns:List (Nat×Nat)) (n:Nat×Nat),cnt nm key (ns++[n])=cnt nm key ns+(if nm n=key then 1 else 0)
  | [],n=>by show (if nm n=key then 1 else 0)+0=0+_;omega
  | m :: ns,n=>by
    show (if nm m=key then 1 else 0)+cnt nm key (ns++[n])=(if nm m=key then 1 else 0)+cnt nm key ns+_
    rw [cnt_snoc nm key ns n];omega
theorem cnt_mem {nm:Nat×Nat→ByteArray} {key:ByteArray} : ∀ {ns:List (Nat×Nat)} {i:Nat} {n:Nat×Nat},ns[i]?=some n→nm n=key→1≤cnt nm key ns
  | [],i,n,h,_=>by simp at h
  | m :: ns,0,n,h,hk=>by
    simp only [List.getElem?_cons_zero,Option.some.injEq] at h
    subst h
    show 1≤(if nm m=key then 1 else 0)+_
    rw [if_pos hk];omega
  | m :: ns,i+1,n,h,hk=>by
    simp only [List.getElem?_cons_succ] at h
    have:=cnt_mem h hk
    show 1≤(if nm m=key then 1 else 0)+cnt nm key ns
    omega
theorem cnt_uniq {nm:Nat×Nat→ByteArray} {key:ByteArray} : ∀ {ns:List (Nat×Nat)},cnt nm key ns≤1→UniqN nm key ns
  | [],_=>fun i j n n' h=>by simp at h
  | m :: ns,hc=>by
    have hc:(if nm m=key then 1 else 0)+cnt nm key ns≤1:=hc
    intro i j n n' h1 h2 h3 h4
    cases i with
    | zero=>
      simp only [List.getElem?_cons_zero,Option.some.injEq] at h1
      subst h1
      rw [if_pos h3] at hc
      cases j with
      | zero=>rfl
      | succ j=>
        simp only [List.getElem?_cons_succ] at h2
        have:=cnt_mem h2 h4
        omega
    | succ i=>
      simp only [List.getElem?_cons_succ] at h1
      have c1:=cnt_mem h1 h3
      cases j with
      | zero=>
        simp only [List.getElem?_cons_zero,Option.some.injEq] at h2
        subst h2
        rw [if_pos h4] at hc
        omega
      | succ j=>
        simp only [List.getElem?_cons_succ] at h2
        have:=cnt_uniq (ns:=ns) (by omega) i j n n' h1 h2 h3 h4
        rw [this]
def OnceP (s:ByteArray) (p:PT) (keys:List ByteArray):Prop := ∀ (j:Nat) (p':PT) (key:ByteArray),keys[j]?=some key→Lead (nmS s) ixS p (keys.take j) p'→p'.k=6→UniqN (nmS s) key p'.ns
theorem take_split {keys:List ByteArray} {i j:Nat} {p a q:PT} {key:ByteArray} (hij:i<j) (hk:keys[i]?=some key) (h1:Lead (nmS s) ixS p (keys.take i) a) (h2:Lead (nmS s) ixS p (keys.take j) q) : ∃ b,Lead (nmS s) ixS a [key] b:=by
  have hi:=(List.getElem?_eq_some_iff.1 hk).1
  have e:keys.take j=keys.take i++([key]++(keys.take j).drop (i+1)):=by
    have h3:keys.take j=(keys.take j).take (i+1)++(keys.take j).drop (i+1):=(List.take_append_drop _ _).symm
    have h4:(keys.take j).take (i+1)=keys.take i++[key]:=by
      rw [List.take_take,Nat.min_eq_left hij,List.take_add_one,hk];rfl
    rw [h4,List.append_assoc] at h3
    exact h3
  rw [e] at h2
  obtain ⟨x,b1,b2⟩:=Ka.lead_split h2
  obtain ⟨y,c1,c2⟩:=Ka.lead_split b2
  have:=lead_uniqs h1 b1
  subst this
  exact ⟨y,c1⟩
theorem onceP_any {p:PT} {na ka:Sl} {q:Ka.Sl} {keys:List ByteArray} (hs:s.size≤65536) (hw:WfV s p) (hp:PlAt B w p (pc p.k p.b p.e na ka)) (hK:Kx w q keys) (hkz : ∀ key ∈ keys,key.size≤140737488351232) (hkl:keys.length≤140737488351232) :
    Calls Tryz.prog 33 #[.string s,.agg (pc p.k p.b p.e na ka).toArray,Ka.slV q] w fun e w'=>(∃ b:Bool,e = .returned (.bool b)∧(b=true→OnceP s p keys))∧Kp Off w w':=by
  refine spec_Once.calls _ _ _ _ _ _ _ _ _ _ _ _ _ ?_
  unfold spec_Once.t
  refine s_alloc ?_
  have b0:=Blk.new w (pc p.k p.b p.e na ka) tP
  have k0:Kp Off w (w.alloc (.cells (pc p.k p.b p.e na ka).toArray tP (0,0))):=(Kp.refl Off w).alloc _
  show sat _ _ _ (w.alloc (.cells (pc p.k p.b p.e na ka).toArray tP (0,0)))
  generalize w.alloc (.cells (pc p.k p.b p.e na ka).toArray tP (0,0))=w1 at k0 b0
  have hp0:PlAt (fun b=>b<w.heap.size) w p (pc p.k p.b p.e na ka):=Sr.PlAt.kp (Kp.refl Off w) (fun b hb _=>⟨hb,id⟩) hp
  have hp1:PlAt (fun b=>b<w.heap.size) w1 p (pc p.k p.b p.e na ka):=Sr.PlAt.kp k0 (fun b _ hb=>⟨hb,id⟩) hp0
  have hql:=hK.len
  generalize hp00:p=p00 at hw
  refine s_loop (fun k z w' => ∃ (i:Nat) (p:PT) (na ka:Sl),k=keys.length-i∧z=((i:Int),())∧i≤keys.length∧Lead (nmS s) ixS p00 (keys.take i) p∧(∀ j p' key,j<i→keys[j]?=some key→Lead (nmS s) ixS p00 (keys.take j) p'→p'.k=6→UniqN (nmS s) key p'.ns)∧PlAt (fun b=>b<w.heap.size) w' p (pc p.k p.b p.e na ka)∧Blk w' w.heap.size (pc p.k p.b p.e na ka) tP∧Kp Off w w') keys.length ((0:Int),()) rfl ⟨0,p,na,ka,rfl,rfl,Nat.zero_le _,by rw [hp00];exact .nil,fun j _ _ h=>absurd h (Nat.not_lt_zero _),hp1,b0,k0⟩ ?_
  clear hp hp0 hp1 b0 k0 hp00
  rintro k z w2 ⟨i,p,na,ka,rfl,rfl,hi,hL,hU,hp,hb,hk⟩
  have hw0:=hw
  have hw:=(Ka.Lead.wf hL hw0).1
  show sat _ (spec_Once.t1 s q.1 q.2.1 ⟨w.heap.size,0,none⟩ (i:Int)) _ _
  unfold spec_Once.t1
  refine s_iteD (fun hlt => ?_) (fun hge=>s_leaf ?_)
  rotate_left
  · rw [if_neg (by decide)]
    refine ⟨rfl,⟨true,rfl,fun _ j p' key h1=>hU j p' key ?_ h1⟩,hk⟩
    have:=(List.getElem?_eq_some_iff.1 h1).1
    omega
  have hin:i<keys.length:=by omega
  have hkey:keys[i]?=some keys[i]:=List.getElem?_eq_getElem hin
  have hkz1:=hkz _ (List.getElem_mem hin)
  generalize hki:keys[i]=key at hkey hkz1
  refine s_key (hK.kp hk) hkey (s_load (p.k:Int) (hb.cell 0) ?_)
  have hlen:=(wf_len hw).2
  have hr:=(PlAt.inv hp).1
  refine s_cut (fun _ w'=>Kp Off w2 w'∧(p.k=6→UniqN (nmS s) key p.ns)) (s_iteE (fun h6 => ?_) (fun h6=>s_leaf ?_)) ?_
  · refine s_loop (fun k z w' => ∃ (i c:Nat),k=p.ns.length-i∧z=((i:Int),(c:Int),())∧i≤p.ns.length∧c=cnt (nmS s) key (p.ns.take i)∧c≤i∧Kp Off w2 w') p.ns.length ((0:Int),(0:Int),()) rfl ⟨0,0,rfl,rfl,Nat.zero_le _,rfl,Nat.le_refl _,Kp.refl _ _⟩ ?_
    rintro k z w3 ⟨j,c,rfl,rfl,hj,hcc,hc,k3⟩
    show sat _ (spec_Once.t2 s ⟨w.heap.size,0,none⟩ key (j:Int) (c:Int)) _ _
    unfold spec_Once.t2
    have b3:=k3.blk hb id
    have hr3:=RowIn.any hr k3
    have hl3:=hr3.1
    refine s_load na (by rw [addr_add,Nat.zero_add,b3.cell];rfl) (s_iteD (fun hlt => ?_) (fun hge => ?_))
    · have hin:j<p.ns.length:=by omega
      have hn:p.ns[j]?=some p.ns[j]:=List.getElem?_eq_getElem hin
      have htk:p.ns.take (j+1)=p.ns.take j++[p.ns[j]]:=by rw [List.take_add_one,hn];rfl
      refine s_span (cs:=pc p.k p.b p.e na ka) hs b3 rfl hr3 hn (wf_names hw _ (List.getElem_mem hin)) fun w4 k4 => ?_
      have w1':IntKind.wrap IntKind.i64 ((j:Int)+1)=((j+1:Nat):Int):=by rw [wrap_in (by omega) (by omega)];omega
      have w2':IntKind.wrap IntKind.i64 ((c:Int)+1)=((c+1:Nat):Int):=by rw [wrap_in (by omega) (by omega)];omega
      refine s_ite (fun g=>s_leaf ?_) (fun g=>s_leaf ?_)
      · rw [if_pos rfl,w1',w2']
        refine ⟨p.ns.length-(j+1),(((j+1:Nat):Int),((c+1:Nat):Int),()),rfl,by omega,j+1,c+1,rfl,rfl,hin,?_,by omega,k3.trans k4⟩
        rw [htk,cnt_snoc,if_pos (strEq_iff.1 g),hcc]
      · rw [if_pos rfl,w1']
        refine ⟨p.ns.length-(j+1),(((j+1:Nat):Int),(c:Int),()),rfl,by omega,j+1,c,rfl,rfl,hin,?_,by omega,k3.trans k4⟩
        rw [htk,cnt_snoc,if_neg (fun e=>by rw [strEq_iff.2 e] at g;cases g),hcc]
        rfl
    · have ej:j=p.ns.length:=by omega
      subst ej
      rw [List.take_length] at hcc
      refine s_iteD (fun _=>s_leaf ?_) (fun g=>s_leaf ?_)
      · rw [if_neg (by decide),if_neg (by decide),if_neg (by decide)]
        exact ⟨rfl,⟨false,rfl,fun g=>by cases g⟩,hk.trans k3⟩
      · rw [if_neg (by decide),if_pos rfl]
        exact ⟨(),rfl,k3,fun _=>cnt_uniq (by omega)⟩
  · rw [if_pos rfl]
    exact ⟨(),rfl,Kp.refl _ _,fun g=>absurd (by rw [g];rfl) h6⟩
  rintro _ w3 ⟨k3,hun⟩
  have hU' : ∀ j p' key',j<i+1→keys[j]?=some key'→Lead (nmS s) ixS p00 (keys.take j) p'→p'.k=6→UniqN (nmS s) key' p'.ns:=by
    intro j p' key' hj h1 h2 h3
    rcases Nat.lt_or_ge j i with g | g
    · exact hU j p' key' g h1 h2 h3
    · have:j=i:=by omega
      subst this
      have:=lead_uniqs hL h2
      subst this
      rw [hkey] at h1
      cases h1
      exact hun h3
  show sat _ (spec_Once.t3 s ⟨w.heap.size,0,none⟩ (i:Int) key) _ _
  unfold spec_Once.t3
  have b3:=k3.blk hb id
  have K3:=hk.trans k3
  have hp3:PlAt (fun b=>b<w.heap.size) w3 p (pc p.k p.b p.e na ka):=Sr.PlAt.kp k3 (fun b _ hb=>⟨hb,id⟩) hp
  refine s_eff ((p.k:Int),(p.b:Int),(p.e:Int),na,ka,()) (loadP b3) ?_
  refine s_call (step_any hs hw hp3 hkz1) ?_
  rintro e w4 ⟨⟨k,b,e1,na',ka',ok,rfl,hok,hno⟩,k4⟩
  refine ⟨((k,b,e1,na',ka',()),ok,()),rfl,s_alloc ?_⟩
  have K4:=K3.trans k4
  have b4:=k4.blk b3 id
  have hsz4:=K4.size
  have hlt4:=b4.lt
  obtain ⟨w5,h5,c5,k5⟩:=storeP (Blk.new w4 zp tP) rfl k b e1 na' ka'
  refine s_effU h5 ?_
  have kc:Kp Off w4 w5:=(((Kp.refl (fun q=>q=w4.heap.size) w4).alloc _).trans (k5.mono fun q _ h=>h)).mono fun q hq h=>by omega
  cases ok with
  | false=>
    refine sat_iteT.2 (s_leaf ?_)
    rw [if_neg (by decide)]
    refine ⟨rfl,⟨true,rfl,fun _ j p' key' h1 h2 h3 => ?_⟩,K4.trans kc⟩
    rcases Nat.lt_or_ge i j with g | g
    · obtain ⟨y,hy⟩:=take_split g hkey hL h2
      exact absurd (hno y hy) (by decide)
    · exact hU' j p' key' (by omega) h1 h2 h3
  | true=>
    obtain ⟨p',hL',rfl,rfl,rfl,hp'⟩:=hok rfl
    refine sat_iteF.2 ?_
    refine s_eff ((p'.k:Int),(p'.b:Int),(p'.e:Int),na',ka',()) (loadP c5) ?_
    have b5:=kc.blk b4 id
    obtain ⟨w6,h6,c6,k6⟩:=storeP b5 rfl p'.k p'.b p'.e na' ka'
    refine s_effU h6 (s_leaf ?_)
    rw [if_pos rfl]
    have w1':IntKind.wrap IntKind.i64 ((i:Int)+1)=((i+1:Nat):Int):=by rw [wrap_in (by omega) (by omega)];omega
    rw [w1']
    refine ⟨keys.length-(i+1),(((i+1:Nat):Int),()),rfl,by omega,i+1,p',na',ka',rfl,rfl,hin,?_,hU',?_,c6,(K4.trans kc).then k6 fun q hq e=>by have:q=w.heap.size:=e;omega⟩
    · have:=Ka.Lead.snoc hL hL'
      rw [← hki] at this
      rwa [List.take_append_getElem hin] at this
    · refine Sr.PlAt.kp k6 (fun b _ hb=>⟨hb,fun e=>by have:b=w.heap.size:=e;omega⟩) (Sr.PlAt.kp kc (fun b _ hb=>⟨hb,id⟩) hp')
theorem reach_any {p:PT} {na ka:Sl} {q:Ka.Sl} {keys:List ByteArray} (hs:s.size≤65536) (hw:WfV s p) (hp:PlAt B w p (pc p.k p.b p.e na ka)) (hK:Kx w q keys) (hkz : ∀ key ∈ keys,key.size≤140737488351232) (hkl:keys.length≤140737488351232) :
    Calls Tryz.prog 21 #[.string s,.agg (pc p.k p.b p.e na ka).toArray,Ka.slV q] w fun e w'=>(∃ (na ka:Sl) (last:PT) (n:Nat),e = .returned (.tuple #[.agg (pc last.k last.b last.e na ka).toArray,.int .i64 (n:Int)]) ∧
      n≤keys.length∧Lead (nmS s) ixS p (keys.take n) last∧(∀ key,keys[n]?=some key → ∀ p',¬ Lead (nmS s) ixS last [key] p')∧PlAt B w' last (pc last.k last.b last.e na ka))∧Kp Off w w':=by
  refine spec_Reach.calls _ _ _ _ _ _ _ _ _ _ _ _ _ ?_
  unfold spec_Reach.t
  refine s_alloc ?_
  have b0:=Blk.new w (pc p.k p.b p.e na ka) tP
  have k0:Kp Off w (w.alloc (.cells (pc p.k p.b p.e na ka).toArray tP (0,0))):=(Kp.refl Off w).alloc _
  have z0:(w.alloc (.cells (pc p.k p.b p.e na ka).toArray tP (0,0))).heap.size=w.heap.size+1:=by simp
  show sat _ _ _ (w.alloc (.cells (pc p.k p.b p.e na ka).toArray tP (0,0)))
  generalize w.alloc (.cells (pc p.k p.b p.e na ka).toArray tP (0,0))=w1 at k0 b0 z0
  refine s_alloc ?_
  have b1:=Blk.new w1 zp tP
  have k1:Kp Off w1 (w1.alloc (.cells zp.toArray tP (0,0))):=(Kp.refl Off w1).alloc _
  show sat _ _ _ (w1.alloc (.cells zp.toArray tP (0,0)))
  generalize w1.alloc (.cells zp.toArray tP (0,0))=w2 at k1 b1
  rw [z0] at b1 ⊢
  have b02:=k1.blk b0 id
  have k02:=k0.trans k1
  have hp2:PlAt (fun b=>B b∧b<w.heap.size) w2 p (pc p.k p.b p.e na ka):=Sr.PlAt.kp k02 (fun b _ hb=>⟨hb,id⟩) (Sr.PlAt.kp (B':=fun b=>B b∧b<w.heap.size) (Kp.refl Off w) (fun b hb hB=>⟨⟨hB,hb⟩,id⟩) hp)
  have hql:=hK.len
  refine s_loop (fun k z w' => ∃ (i:Nat) (pi:PT) (na ka:Sl),k=keys.length-i∧z=((i:Int),())∧i≤keys.length∧Lead (nmS s) ixS p (keys.take i) pi∧PlAt (fun b=>B b∧b<w.heap.size) w' pi (pc pi.k pi.b pi.e na ka)∧Blk w' w.heap.size (pc pi.k pi.b pi.e na ka) tP∧Blk w' (w.heap.size+1) zp tP∧Kp Off w w') keys.length ((0:Int),()) rfl ⟨0,p,na,ka,rfl,rfl,Nat.zero_le _,.nil,hp2,b02,b1,k02⟩ ?_
  clear hp hp2 b0 k0 b1 k1 b02 k02 z0
  rintro k z w3 ⟨i,pi,na,ka,rfl,rfl,hi,hL,hpi,hb,hz,hk⟩
  show sat _ (spec_Reach.t1 s q.1 q.2.1 ⟨w.heap.size,0,none⟩ ⟨w.heap.size+1,0,none⟩ (i:Int)) _ _
  unfold spec_Reach.t1
  have hwi:=(Ka.Lead.wf hL hw).1
  refine s_iteD (fun hlt => ?_) (fun hge => ?_)
  · have hin:i<keys.length:=by omega
    have hkey:keys[i]?=some keys[i]:=List.getElem?_eq_getElem hin
    have hkz1:=hkz _ (List.getElem_mem hin)
    refine s_key (hK.kp hk) hkey ?_
    refine s_eff ((pi.k:Int),(pi.b:Int),(pi.e:Int),na,ka,()) (loadP hb) ?_
    refine s_call (step_any hs hwi hpi hkz1) ?_
    rintro e w4 ⟨⟨k',b',e',na',ka',ok,rfl,hok,hno⟩,k4⟩
    refine ⟨((k',b',e',na',ka',()),ok,()),rfl,s_alloc ?_⟩
    have b4:=k4.blk hb id
    have z4:=k4.blk hz id
    have K4:=hk.trans k4
    have hl4:=z4.lt
    obtain ⟨w5,h5,c5,k5⟩:=storeP (Blk.new w4 zp tP) rfl k' b' e' na' ka'
    refine s_effU h5 ?_
    have kc:Kp Off w4 w5:=(((Kp.refl (fun q=>q=w4.heap.size) w4).alloc _).trans (k5.mono fun q _ h=>h)).mono fun q hq h=>by omega
    have K5:=K4.trans kc
    have b5:=kc.blk b4 id
    have z5:=kc.blk z4 id
    cases ok with
    | false=>
      refine sat_iteT.2 ?_
      refine s_eff ((pi.k:Int),(pi.b:Int),(pi.e:Int),na,ka,()) (loadP b5) ?_
      obtain ⟨w6,h6,c6,k6⟩:=storeP z5 rfl pi.k pi.b pi.e na ka
      refine s_effU h6 (s_effS ((pi.k:Int),(pi.b:Int),(pi.e:Int),na,ka,()) (loadP c6) (s_leaf ?_))
      rw [if_neg (by decide)]
      refine ⟨rfl,⟨na,ka,pi,i,rfl,hi,hL,fun key hkk p' hp' => ?_,Sr.PlAt.kp k6 (fun b _ hb=>⟨hb.1,fun e=>by have:b=w.heap.size+1:=e;have hb:=hb.2;omega⟩) (Sr.PlAt.kp (k4.trans kc) (fun b _ hb=>⟨hb,id⟩) hpi)⟩,K5.then k6 fun q hq e=>by have:q=w.heap.size+1:=e;omega⟩
      rw [hkey] at hkk
      cases hkk
      exact absurd (hno p' hp') (by decide)
    | true=>
      obtain ⟨p',hL',rfl,rfl,rfl,hp'⟩:=hok rfl
      refine sat_iteF.2 ?_
      refine s_eff ((p'.k:Int),(p'.b:Int),(p'.e:Int),na',ka',()) (loadP c5) ?_
      obtain ⟨w6,h6,c6,k6⟩:=storeP b5 rfl p'.k p'.b p'.e na' ka'
      refine s_effU h6 (s_leaf ?_)
      rw [if_pos rfl]
      have w1':IntKind.wrap IntKind.i64 ((i:Int)+1)=((i+1:Nat):Int):=by rw [wrap_in (by omega) (by omega)];omega
      rw [w1']
      refine ⟨keys.length-(i+1),(((i+1:Nat):Int),()),rfl,by omega,i+1,p',na',ka',rfl,rfl,hin,?_,?_,c6,k6.blk z5 (fun e=>by have:w.heap.size+1=w.heap.size:=e;omega),K5.then k6 fun q hq e=>by have:q=w.heap.size:=e;omega⟩
      · have:=Ka.Lead.snoc hL hL'
        rwa [List.take_append_getElem hin] at this
      · exact Sr.PlAt.kp k6 (fun b _ hb=>⟨hb,fun e=>by have:b=w.heap.size:=e;have hb:=hb.2;omega⟩) (Sr.PlAt.kp kc (fun b _ hb=>⟨hb,id⟩) hp')
  · have ei:i=keys.length:=by omega
    subst ei
    refine s_eff ((pi.k:Int),(pi.b:Int),(pi.e:Int),na,ka,()) (loadP hb) ?_
    obtain ⟨w6,h6,c6,k6⟩:=storeP hz rfl pi.k pi.b pi.e na ka
    refine s_effU h6 (s_effS ((pi.k:Int),(pi.b:Int),(pi.e:Int),na,ka,()) (loadP c6) (s_leaf ?_))
    rw [if_neg (by decide),hql]
    exact ⟨rfl,⟨na,ka,pi,keys.length,rfl,Nat.le_refl _,hL,fun key hkk=>by simp at hkk,Sr.PlAt.kp k6 (fun b _ hb=>⟨hb.1,fun e=>by have:b=w.heap.size+1:=e;have hb:=hb.2;omega⟩) hpi⟩,hk.then k6 fun q hq e=>by have:q=w.heap.size+1:=e;omega⟩
theorem asIs_any {key:ByteArray} (hk:key.size≤140737488351232):Calls Tryz.prog 45 #[.string key] w fun e w'=>(∃ b:Bool,e = .returned (.bool b)∧(b=true→AsIs key∧0<key.size))∧w'=w:=by
  refine spec_AsIs.calls _ ?_
  unfold spec_AsIs.t
  refine s_loop (fun k z w' => ∃ i:Nat,k=key.size-i∧z=((i:Int),())∧i≤key.size∧(∀ j,j<i→32≤bt key (j:Int)∧bt key (j:Int)≠34∧bt key (j:Int)≠92)∧w=w') key.size ((0:Int),()) rfl ⟨0,rfl,rfl,Nat.zero_le _,fun j h=>absurd h (Nat.not_lt_zero _),rfl⟩ ?_
  rintro k z w1 ⟨i,rfl,rfl,hi,hj,rfl⟩
  show sat _ (spec_AsIs.t1 key (i:Int)) _ _
  unfold spec_AsIs.t1
  have no:(fun l' vs w''=>if l'=1 then ∃ n' x',vs=(Sh.cons (.int .i64) .nil).vals x'∧n'<key.size-i ∧ ∃ i:Nat,n'=key.size-i∧x'=((i:Int),())∧i≤key.size∧(∀ j,j<i→32≤bt key (j:Int)∧bt key (j:Int)≠34∧bt key (j:Int)≠92)∧w=w'' else l'=0∧(∃ b:Bool,Ending.returned (retVal vs) = .returned (.bool b)∧(b=true→AsIs key∧0<key.size))∧w''=w) 0 [.bool false] w:=by
    show if (0:Nat)=1 then _ else _
    rw [if_neg (by decide)]
    exact ⟨rfl,⟨false,rfl,fun g=>by cases g⟩,rfl⟩
  refine s_iteD (fun hlt=>s_chk ⟨by omega,by omega⟩ (s_iteE (fun _=>s_leaf no) (fun g1=>s_iteE (fun _=>s_leaf no) (fun g2=>s_iteD (fun _=>s_leaf no) (fun g3=>s_leaf ?_))))) (fun hge=>s_leaf ?_)
  · rw [if_pos rfl]
    have w1':IntKind.wrap IntKind.i64 ((i:Int)+1)=((i+1:Nat):Int):=by rw [wrap_in (by omega) (by omega)];omega
    rw [w1']
    refine ⟨key.size-(i+1),(((i+1:Nat):Int),()),rfl,by omega,i+1,rfl,rfl,by omega,fun j h => ?_,rfl⟩
    rcases Nat.lt_or_ge j i with g | g
    · exact hj j g
    · have:j=i:=by omega
      subst this
      exact ⟨by omega,g1,g2⟩
  · rw [if_neg (by decide)]
    refine ⟨rfl,⟨_,rfl,fun g=>⟨fun j h=>hj j (by omega),?_⟩⟩,rfl⟩
    rcases Nat.eq_zero_or_pos key.size with h0 | h0
    · have e:key=ByteArray.mk #[]:=by
        apply ByteArray.ext
        apply Array.toList_inj.1
        exact List.eq_nil_of_length_eq_zero (by rw [Array.length_toList];exact h0)
      rw [strEq_iff.2 e] at g
      cases g
    · exact h0
end Go.Proofs.YtlfebfkphgelfaaGreatDoor.Lj
namespace Go.Proofs.YtlfebfkphgelfaaGreatDoor.Lj
open Go Go.Proofs Rx Pl Pw
open Ka (nmS ixS Led Mis New NoI)
open Gk (Lead Miss)
variable {s:ByteArray}
theorem first_ix {nm:Nat×Nat→ByteArray} {k:ByteArray} : ∀ {ns:List (Nat×Nat)} {n:Nat×Nat},n ∈ ns→nm n=k → ∃ j m,ns[j]?=some m∧nm m=k ∧ ∀ (j':Nat) (n':Nat×Nat),j'<j→ns[j']?=some n'→nm n'≠k
  | [],_,h,_=>by cases h
  | m :: ns,n,h,hk=>by
    by_cases hm:nm m=k
    · exact ⟨0,m,rfl,hm,fun j' _ h=>absurd h (Nat.not_lt_zero _)⟩
    · rcases List.mem_cons.1 h with rfl | h
      · exact absurd hk hm
      · obtain ⟨j,m',h1,h2,h3⟩:=first_ix h hk
        refine ⟨j+1,m',by simpa using h1,h2,fun j' n' hj hn => ?_⟩
        cases j' with
        | zero=>
          simp only [List.getElem?_cons_zero,Option.some.injEq] at hn
          subst hn
          exact hm
        | succ j'=>exact h3 j' n' (by omega) (by simpa using hn)
theorem no_name {b e:Nat} {ns:List (Nat×Nat)} {ks:List PT} {k:ByteArray} (hw:WfV s (.mk 6 b e ns ks)) (h : ∀ p',¬ Lead (nmS s) ixS (.mk 6 b e ns ks) [k] p') : ∀ n ∈ ns,nmS s n≠k:=by
  intro n hn hk
  obtain ⟨j,m,h1,h2,h3⟩:=first_ix hn hk
  obtain ⟨_,_,_,w4⟩:=Gk.wf_obj hw
  have hl:=Ed.wfM_lens _ _ _ _ _ w4
  have hj:=(List.getElem?_eq_some_iff.1 h1).1
  exact h _ (.mem h1 (List.getElem?_eq_getElem (by omega:j<ks.length)) h2 h3 .nil)
theorem miss_of {nm:Nat×Nat→ByteArray} {ix:ByteArray→Option Nat} {k:ByteArray} {rest:List ByteArray} {p last:PT} {ks1:List ByteArray} (hL:Lead nm ix p ks1 last) (hm:Miss nm ix last (k :: rest)) :
    (∀ (j:Nat) (p':PT) (key:ByteArray),(ks1++k :: rest)[j]?=some key→Lead nm ix p ((ks1++k :: rest).take j) p'→p'.k=6→UniqN nm key p'.ns)→Miss nm ix p (ks1++k :: rest):=by
  induction hL with
  | nil=>exact fun _=>hm
  | @mem b e ns ks j n p q key tl h1 h2 h3 h4 h5 ih=>
    intro hU
    have hu:UniqN nm key ns:=hU 0 (.mk 6 b e ns ks) key rfl .nil rfl
    refine .mem h1 h2 h3 (fun j' n' hj hn hk=>hj (hu j' j n' n hn h1 hk h3)) (ih hm fun j' p' key' g1 g2 g3=>hU (j'+1) p' key' (by simpa using g1) ?_ g3)
    rw [List.cons_append,List.take_succ_cons]
    exact .mem h1 h2 h3 h4 g2
  | @elt b e ns ks j p q key tl h1 h2 h3 ih=>
    intro hU
    refine .elt h1 h2 (ih hm fun j' p' key' g1 g2 g3=>hU (j'+1) p' key' (by simpa using g1) ?_ g3)
    rw [List.cons_append,List.take_succ_cons]
    exact .elt h1 h2 g2
theorem OnceP.pre {p:PT} {a b:List ByteArray} (h:OnceP s p (a++b)):OnceP s p a:=fun j p' key h1 h2 h3=>by
  have hj:=(List.getElem?_eq_some_iff.1 h1).1
  refine h j p' key ?_ ?_ h3
  · rw [List.getElem?_append_left hj];exact h1
  · rw [List.take_append_of_le_length (by omega)];exact h2
theorem new_of {p0 last:PT} {ks1 rs:List ByteArray} {k:ByteArray} (hL:Led s p0 ks1 last) (h6:last.k=6) (hno : ∀ p',¬ Lead (nmS s) ixS last [k] p') (hU:OnceP s p0 (ks1++k :: rs)) (hNo : ∀ key ∈ k :: rs,NoI key) :
    ∃ b e ns ks,New s p0 ks1 b e ns ks k rs ∧ ∀ n ∈ ns,nmS s n≠k:=by
  obtain ⟨kk,b,e,ns,ks⟩:=last
  have h6:kk=6:=h6
  subst h6
  have hn:=no_name hL.wfp hno
  refine ⟨b,e,ns,ks,⟨hL,⟨hL.at0,hL.wf,hL.fin,?_⟩,⟨hL.at0,hL.wf,hL.fin,?_⟩,hNo⟩,hn⟩
  · refine miss_of hL.lead (.here hn) fun j p' key h1 h2 h3 => ?_
    have e1:ks1++k :: rs=(ks1++[k])++rs:=by simp
    rw [e1] at hU
    exact hU.pre j p' key h1 h2 h3
  · exact miss_of hL.lead (.here hn) hU
end Go.Proofs.YtlfebfkphgelfaaGreatDoor.Lj
namespace Go.Proofs.YtlfebfkphgelfaaGreatDoor.Lj
open Go Go.Proofs Go.RowKit Rx Tr Pl Pw
open Sr (Sl slV tP pc storeP loadP zp PlAt RowIn places)
open Ka (Kx nmS ixS s_key Led Mis New NoI Kx.take0)
open Gk (Lead Miss)
open Ed (AsIs)
variable {w w':World} {s:ByteArray} {B:Nat→Prop}
theorem p_no3 {Q:Nat→List Value→World→Prop} {z0:Nat} {c0:List Value} (h0:Blk w z0 c0 tP) (hl:c0.length=5)
    (hQ : ∀ w',Kp (On z0) w w'→Q 0 [.agg zp.toArray,.int .i64 0,.bool false] w') :
    sat Tryz.prog (.effU (Instr.storeAt tP (Value.pointer (some ⟨z0,0,none⟩)) (Value.agg #[(Value.int IntKind.i64 (0:Int)),(Value.int IntKind.i64 (0:Int)),(Value.int IntKind.i64 (0:Int)),(Value.slice none 0 0),(Value.slice none 0 0)])) <|
      .effS (Instr.loadAt tP (Value.pointer (some ⟨z0,0,none⟩))) (.agg (.cons (.int .i64) (.cons (.int .i64) (.cons (.int .i64) (.cons .slice (.cons .slice .nil)))))) fun (z25:(Int×(Int×(Int×(((Option Addr)×(Nat×Nat))×(((Option Addr)×(Nat×Nat))×PUnit))))))=>
      .leaf 0 [(Value.agg #[(Value.int IntKind.i64 (z25).1),(Value.int IntKind.i64 ((z25).2).1),(Value.int IntKind.i64 (((z25).2).2).1),(Value.slice (((((z25).2).2).2).1).1 ((((((z25).2).2).2).1).2).1 ((((((z25).2).2).2).1).2).2),(Value.slice ((((((z25).2).2).2).2).1).1 (((((((z25).2).2).2).2).1).2).1 (((((((z25).2).2).2).2).1).2).2)]),(Value.int IntKind.i64 (0:Int)),(Value.bool false)]) Q w:=by
  obtain ⟨w2,h4,h5,h6⟩:=storeP h0 hl 0 0 0 (none,0,0) (none,0,0)
  refine s_effU h4 ?_
  exact s_effS ((0:Int),(0:Int),(0:Int),(none,0,0),(none,0,0),()) (loadP h5) (s_leaf (hQ w2 h6))
theorem places_of {p:PT} (h:places s=some p):bl s 0=p.b∧WfV s p∧bl s p.e=s.size:=by
  have hfin:val s (bl s 0)=some p∧bl s p.e=s.size:=by
    unfold places at h
    cases hv:val s (bl s 0) with
    | none=>rw [hv] at h;cases h
    | some p'=>
      rw [hv] at h
      have hpl:(if bl s p'.e=s.size then some p' else none)=some p:=h
      split at hpl
      · rename_i g;cases hpl;exact ⟨rfl,g⟩
      · cases hpl
  obtain ⟨hpb,hwf⟩:=val_wf (bl_le s 0 (Nat.zero_le _)) hfin.1
  exact ⟨hpb.symm,hwf,hfin.2⟩
structure EndP (s:ByteArray) (keys:List ByteArray) (p0 last:PT) (n:Nat):Prop where
  size:s.size≤65536
  led:Led s p0 (keys.take n) last
  lt:n<keys.length
  no : ∀ key,keys[n]?=some key → ∀ p',¬ Lead (nmS s) ixS last [key] p'
  once:OnceP s p0 keys
  asis : ∀ key ∈ keys.drop n,AsIs key∧NoI key
theorem jpEnd_any {q:Ka.Sl} {keys:List ByteArray} (hK:Kx w q keys) (hkz : ∀ key ∈ keys,key.size≤140737488351232) (hkl:keys.length≤140737488351232) :
    Calls Tryz.prog 27 #[.string s,Ka.slV q] w fun e w'=>(∃ (k b e1:Int) (na ka:Sl) (n:Int) (x:Bool),e = .returned (.tuple #[.agg (pc k b e1 na ka).toArray,.int .i64 n,.bool x]) ∧
      (x=true → ∃ (p0 last:PT) (m:Nat),k=last.k∧n=(m:Int)∧EndP s keys p0 last m))∧Kp Off w w':=by
  refine laws_jpEnd.calls _ _ _ _ ?_
  unfold laws_jpEnd.t
  refine s_alloc ?_
  have b0:=Blk.new w zp tP
  have k0:Kp Off w (w.alloc (.cells zp.toArray tP (0,0))):=(Kp.refl Off w).alloc _
  have z0:(w.alloc (.cells zp.toArray tP (0,0))).heap.size=w.heap.size+1:=by simp
  show sat _ _ _ (w.alloc (.cells zp.toArray tP (0,0)))
  generalize w.alloc (.cells zp.toArray tP (0,0))=w1 at k0 b0 z0
  refine s_call (jpPlaces_any (s:=s)) ?_
  rintro e w2 ⟨⟨k,b,e1,na,ka,x,rfl,hx⟩,k2⟩
  refine ⟨((k,b,e1,na,ka,()),x,()),rfl,s_alloc ?_⟩
  have b02:=k2.blk b0 id
  have k02:=k0.trans k2
  obtain ⟨w3,h3,c3,k3⟩:=storeP (Blk.new w2 zp tP) rfl k b e1 na ka
  refine s_effU h3 ?_
  have kc:Kp Off w2 w3:=(((Kp.refl (fun q=>q=w2.heap.size) w2).alloc _).trans (k3.mono fun q _ h=>h)).mono fun q hq h=>by omega
  have b03:=kc.blk b02 id
  have k03:=k02.trans kc
  have hz2:=k2.size
  have hql:=hK.len
  have hqc:=hK.cap
  refine s_cut (fun z w'=>Kp Off w3 w'∧(z.1=true∨(z.1=false∧x=true ∧ ∀ p,places s=some p→OnceP s p keys))) ?_ ?_
  · cases x with
    | false=>exact sat_iteT.2 (s_leaf (by rw [if_pos rfl];exact ⟨(true,()),rfl,Kp.refl _ _,.inl rfl⟩))
    | true=>
      obtain ⟨hs,p,hpl,rfl,rfl,rfl,hp⟩:=hx rfl
      obtain ⟨hp0,hwf,hfin⟩:=places_of hpl
      refine sat_iteF.2 ?_
      refine s_eff ((p.k:Int),(p.b:Int),(p.e:Int),na,ka,()) (loadP c3) ?_
      have hp3:=PlAt.any hp kc
      refine s_call (onceP_any hs hwf hp3 (hK.kp k03) hkz hkl) ?_
      rintro e w4 ⟨⟨b,rfl,hb⟩,k4⟩
      refine ⟨b,rfl,s_leaf ?_⟩
      rw [if_pos rfl]
      refine ⟨(!b,()),rfl,k4,?_⟩
      cases b with
      | false=>exact .inl rfl
      | true=>exact .inr ⟨rfl,rfl,fun p' h'=>by rw [hpl] at h';cases h';exact hb rfl⟩
  rintro ⟨bb,u⟩ w4 ⟨k4,hbb⟩
  show sat _ (laws_jpEnd.t1 s q.1 q.2.1 q.2.2 ⟨w.heap.size,0,none⟩ ⟨w2.heap.size,0,none⟩ bb) _ _
  unfold laws_jpEnd.t1
  have k04:=k03.trans k4
  have b04:=k4.blk b03 id
  have c4:=k4.blk c3 id
  have done : ∀ {w5 w':World},Kp Off w w5→Kp (On w.heap.size) w5 w'→Kp Off w w':=fun h1 h2=>h1.then h2 fun q hq e=>by have:q=w.heap.size:=e;omega
  rcases hbb with hbb | ⟨hbb,rfl,hun⟩
  · have hbb:bb=true:=hbb
    subst hbb
    exact sat_iteT.2 (p_no3 b04 rfl fun w' k=>⟨rfl,⟨_,_,_,_,_,_,false,rfl,fun g=>by cases g⟩,done k04 k⟩)
  have hbb:bb=false:=hbb
  subst hbb
  obtain ⟨hs,p,hpl,rfl,rfl,rfl,hp⟩:=hx rfl
  obtain ⟨hp0,hwf,hfin⟩:=places_of hpl
  have hU:=hun p hpl
  have hp4:PlAt Lj.Any w4 p (pc p.k p.b p.e na ka):=PlAt.any hp (kc.trans k4)
  refine sat_iteF.2 (s_eff ((p.k:Int),(p.b:Int),(p.e:Int),na,ka,()) (loadP c4) ?_)
  refine s_call (reach_any hs hwf hp4 (hK.kp k04) hkz hkl) ?_
  rintro e w5 ⟨⟨na5,ka5,last,n,rfl,hn,hL,hno,_⟩,k5⟩
  refine ⟨(((last.k:Int),(last.b:Int),(last.e:Int),na5,ka5,()),(n:Int),()),rfl,s_alloc ?_⟩
  have k05:=k04.trans k5
  have b05:=k5.blk b04 id
  obtain ⟨w6,h6,c6,k6⟩:=storeP (Blk.new w5 zp tP) rfl last.k last.b last.e na5 ka5
  refine s_effU h6 ?_
  have kc6:Kp Off w5 w6:=(((Kp.refl (fun q=>q=w5.heap.size) w5).alloc _).trans (k6.mono fun q _ h=>h)).mono fun q hq h=>by omega
  have k06:=k05.trans kc6
  have b06:=kc6.blk b05 id
  refine s_chk ⟨Int.le_refl 0,by show (0:Int)≤(n:Int);omega,by show (n:Int)≤_;omega⟩ ?_
  have hcall:=jpFound_any (s:=s) (keys:=keys.take n) (Kx.take0 (hK.kp k06) n hn) (fun key hk=>hkz key (List.mem_of_mem_take hk)) (by rw [List.length_take];omega)
  refine s_call hcall ?_
  rintro e w7 ⟨⟨k7,b7,e7,na7,ka7,x7,rfl,_⟩,k67⟩
  refine ⟨((k7,b7,e7,na7,ka7,()),x7,()),rfl,s_alloc ?_⟩
  have k07:=k06.trans k67
  have b07:=k67.blk b06 id
  have c7:=k67.blk c6 id
  obtain ⟨w8,h8,c8,k8⟩:=storeP (Blk.new w7 zp tP) rfl k7 b7 e7 na7 ka7
  refine s_effU h8 ?_
  have kc8:Kp Off w7 w8:=(((Kp.refl (fun q=>q=w7.heap.size) w7).alloc _).trans (k8.mono fun q _ h=>h)).mono fun q hq h=>by omega
  have k08:=k07.trans kc8
  have b08:=kc8.blk b07 id
  have c78:=kc8.blk c7 id
  refine s_cut (fun z w'=>w8=w'∧(z.1=true∨(z.1=false∧n<keys.length))) ?_ ?_
  · cases x7 with
    | false=>exact sat_iteT.2 (s_leaf (by rw [if_pos rfl];exact ⟨(true,()),rfl,rfl,.inl rfl⟩))
    | true=>
      refine sat_iteF.2 (s_leaf ?_)
      rw [if_pos rfl]
      refine ⟨(((n:Int)==((q.2.1:Nat):Int)),()),rfl,rfl,?_⟩
      cases hq:((n:Int)==((q.2.1:Nat):Int)) with
      | true=>exact .inl rfl
      | false=>
        refine .inr ⟨rfl,?_⟩
        have:=beq_eq_false_iff_ne.1 hq
        omega
  rintro ⟨bb,u⟩ w' ⟨rfl,hbb⟩
  show sat _ (laws_jpEnd.t2 q.1 q.2.1 q.2.2 ⟨w.heap.size,0,none⟩ (((last.k:Int),(last.b:Int),(last.e:Int),na5,ka5,()),(n:Int),()) ⟨w5.heap.size,0,none⟩ bb) _ _
  unfold laws_jpEnd.t2
  rcases hbb with hbb | ⟨hbb,hlt⟩
  · have hbb:bb=true:=hbb
    subst hbb
    exact sat_iteT.2 (p_no3 b08 rfl fun w' k=>⟨rfl,⟨_,_,_,_,_,_,false,rfl,fun g=>by cases g⟩,done k08 k⟩)
  have hbb:bb=false:=hbb
  subst hbb
  have hn5:w.heap.size<w5.heap.size:=by have:=k2.size;have:=kc.size;have:=k4.size;have:=k5.size;omega
  refine sat_iteF.2 (s_chk ⟨by show (0:Int)≤(n:Int);omega,by show (n:Int)≤_;omega,by omega⟩ ?_)
  refine s_loop (fun m z w' => ∃ i:Nat,m=keys.length-n-i∧z=((i:Int),())∧i≤keys.length-n∧(∀ j key,j<i→keys[n+j]?=some key→AsIs key∧NoI key)∧w8=w') (keys.length-n) ((0:Int),()) rfl ⟨0,by omega,rfl,Nat.zero_le _,fun j key h=>absurd h (Nat.not_lt_zero _),rfl⟩ ?_
  rintro m z w9 ⟨i,rfl,rfl,hi,hall,rfl⟩
  show sat _ (laws_jpEnd.t3 q.1 q.2.1 q.2.2 ⟨w.heap.size,0,none⟩ (((last.k:Int),(last.b:Int),(last.e:Int),na5,ka5,()),(n:Int),()) ⟨w5.heap.size,0,none⟩ (i:Int)) _ _
  unfold laws_jpEnd.t3
  have hDr:=(hK.kp k08).drop n hn
  have hdl:(keys.drop n).length=keys.length-n:=List.length_drop
  have no : ∀ {Q:Nat→List Value→World→Prop},(∀ w',Kp Off w w'→Q 0 [.agg zp.toArray,.int .i64 0,.bool false] w')→_:=fun {Q} hQ=>p_no3 (Q:=Q) b08 rfl fun w' k=>hQ w' (done k08 k)
  refine s_iteD (fun hlt2 => ?_) (fun hge => ?_)
  · have hlt2:(i:Int)<((Int.toNat ((q.2.1:Nat):Int)-Int.toNat (n:Int):Nat):Int):=hlt2
    rw [Int.toNat_natCast,Int.toNat_natCast] at hlt2
    have hin:n+i<keys.length:=by omega
    have hkey:(keys.drop n)[i]?=some keys[n+i]:=by rw [List.getElem?_drop];exact List.getElem?_eq_getElem hin
    have hkz1:=hkz _ (List.getElem_mem hin)
    refine s_key hDr hkey ?_
    refine s_call (asIs_any hkz1) ?_
    rintro e w10 ⟨⟨b,rfl,hb⟩,rfl⟩
    refine ⟨b,rfl,?_⟩
    cases b with
    | false=>exact sat_iteT.2 (no fun w' k=>by rw [if_neg (by decide)];exact ⟨rfl,⟨_,_,_,_,_,_,false,rfl,fun g=>by cases g⟩,k⟩)
    | true=>
      obtain ⟨hA,hpos⟩:=hb rfl
      refine sat_iteF.2 (s_chk ⟨by omega,by omega⟩ (s_iteE (fun _=>no fun w' k=>by rw [if_neg (by decide)];exact ⟨rfl,⟨_,_,_,_,_,_,false,rfl,fun g=>by cases g⟩,k⟩) (fun h91=>s_leaf ?_)))
      rw [if_pos rfl]
      have w1':IntKind.wrap IntKind.i64 ((i:Int)+1)=((i+1:Nat):Int):=by rw [wrap_in (by omega) (by omega)];omega
      rw [w1']
      refine ⟨keys.length-n-(i+1),(((i+1:Nat):Int),()),rfl,by omega,i+1,rfl,rfl,by omega,fun j key hj hk => ?_,rfl⟩
      rcases Nat.lt_or_ge j i with g | g
      · exact hall j key g hk
      · have:j=i:=by omega
        subst this
        rw [List.getElem?_eq_getElem hin] at hk
        cases hk
        exact ⟨hA,hpos,h91⟩
  · have hge : ¬ (i:Int)<((Int.toNat ((q.2.1:Nat):Int)-Int.toNat (n:Int):Nat):Int):=hge
    rw [Int.toNat_natCast,Int.toNat_natCast] at hge
    refine s_eff ((last.k:Int),(last.b:Int),(last.e:Int),na5,ka5,()) (loadP c78) ?_
    obtain ⟨w10,h10,c10,k10⟩:=storeP b08 rfl last.k last.b last.e na5 ka5
    refine s_effU h10 (s_effS ((last.k:Int),(last.b:Int),(last.e:Int),na5,ka5,()) (loadP c10) (s_leaf ?_))
    rw [if_neg (by decide)]
    refine ⟨rfl,⟨last.k,last.b,last.e,na5,ka5,n,true,rfl,fun _=>⟨p,last,n,rfl,rfl,⟨hs,⟨hp0,hwf,hfin,hL⟩,hlt,hno,hU,fun key hk => ?_⟩⟩⟩,done k08 k10⟩
    obtain ⟨j,hj⟩:=List.mem_iff_getElem?.1 hk
    rw [List.getElem?_drop] at hj
    have:=(List.getElem?_eq_some_iff.1 hj).1
    exact hall j key (by omega) hj
theorem jpNew_any {q:Ka.Sl} {keys:List ByteArray} (hK:Kx w q keys) (hkz : ∀ key ∈ keys,key.size≤140737488351232) (hkl:keys.length≤140737488351232) :
    Calls Tryz.prog 7 #[.string s,Ka.slV q] w fun e w'=>(∃ (n:Int) (x:Bool),e = .returned (.tuple #[.int .i64 n,.bool x]) ∧
      (x=true → ∃ (p0 last:PT) (m:Nat),n=(m:Int)∧last.k=6∧EndP s keys p0 last m))∧Kp Off w w':=by
  refine laws_jpNew.calls _ _ _ _ ?_
  unfold laws_jpNew.t
  refine s_call (jpEnd_any (s:=s) hK hkz hkl) ?_
  rintro e w1 ⟨⟨k,b,e1,na,ka,n,x,rfl,hx⟩,k1⟩
  refine ⟨((k,b,e1,na,ka,()),n,x,()),rfl,s_alloc ?_⟩
  obtain ⟨w2,h2,c2,k2⟩:=storeP (Blk.new w1 zp tP) rfl k b e1 na ka
  refine s_effU h2 ?_
  have kc:Kp Off w1 w2:=(((Kp.refl (fun q=>q=w1.heap.size) w1).alloc _).trans (k2.mono fun q _ h=>h)).mono fun q hq h=>by omega
  refine s_drew ?_
  have kd:Kp Off w2 w2.drew:=(Kp.refl Off w2).drew
  have c3:=kd.blk c2 id
  have K:=(k1.trans kc).trans kd
  cases x with
  | false=>exact sat_iteF.2 (s_leaf ⟨rfl,⟨n,false,rfl,fun g=>by cases g⟩,K⟩)
  | true=>
    refine sat_iteT.2 (s_load k (c3.cell 0) (s_leaf ⟨rfl,⟨n,(k==(6:Int)),rfl,fun g => ?_⟩,K⟩))
    obtain ⟨p0,last,m,h1,h2,h3⟩:=hx rfl
    have:k=6:=by simpa using g
    exact ⟨p0,last,m,h2,by omega,h3⟩
end Go.Proofs.YtlfebfkphgelfaaGreatDoor.Lj
namespace Go.Proofs.YtlfebfkphgelfaaGreatDoor.Lj
open Go Go.Proofs Go.RowKit Rx Tr Pl Pw
open Sr (slV tBs tB Sl tP pc PlAt AllAt RowIn spanC loadP storeP zp p_no p_yes places places_any)
open Ka (ixS nmS Kx s_key Led)
open Gk (Lead)
variable {w w':World} {s:ByteArray} {B:Nat→Prop}
end Go.Proofs.YtlfebfkphgelfaaGreatDoor.Lj
