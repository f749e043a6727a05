import Derived.Test.YtlfebfkphgelfaaGreatDoorLv
import Derived.Test.YtlfebfkphgelfaaGreatDoorWB
namespace Go.Proofs.YtlfebfkphgelfaaGreatDoor.Lv
open Go Go.Proofs Go.RowKit Rx Tr Pl Ut Uq Ql Je
open Go.ChangeShapes Go.WideShapes
theorem evK {w : World} {r : List (String × DataW Unit)} (h : laidMet Tryz.prog (("pub-tetrapla/pub/jsonparser.KeyPathNotFoundError", Rows.laid_pub_tetrapla_pub_jsonparser_KeyPathNotFoundError) :: r) w) : ∃ a, Ka.Ek w a := by
  obtain ⟨a,s,h,_⟩:=laid_sentinel h (g:=Ka.gK) (by kernel_rfl) (by kernel_rfl:_=some tE) Tryz.underlying61 type_errS Tryz.underlying153 Tryz.underlying155 rfl rfl Tryz.underlying9 (by kernel_rfl) (by kernel_rfl)
  exact ⟨_,World.var?_cell (by kernel_rfl) h 0⟩
end Go.Proofs.YtlfebfkphgelfaaGreatDoor.Lv
namespace Go.Proofs.YtlfebfkphgelfaaGreatDoor.Lv
open Go Go.Proofs Go.RowKit Rx Tr Pl
open Go.ChangeShapes Go.WideShapes
def tot:List ByteArray→Nat
  | []=>0
  | k :: ks=>k.size+1+tot ks
theorem tot_append : ∀ a b:List ByteArray,tot (a++b)=tot a+tot b
  | [],b=>by show tot b=0+tot b;omega
  | k :: a,b=>by
    show k.size+1+tot (a++b)=k.size+1+tot a+tot b
    rw [tot_append a b];omega
theorem tot_len : ∀ a:List ByteArray,a.length≤tot a
  | []=>Nat.le_refl _
  | k :: a=>by
    have:=tot_len a
    show a.length+1≤k.size+1+tot a
    omega
theorem tot_bulk {H:Type} (Sx:Nat→ByteArray) : ∀ l:List Nat,Rows.uptoBulkAll (l.map fun i=>(DataW.lit (.string (Sx i).data.toList):DataW H))=tot (l.map Sx)
  | []=>rfl
  | i :: l=>by
    have e:=tot_bulk (H:=H) Sx l
    simp only [List.map_cons,Rows.uptoBulkAll,Rows.uptoBulk,tot,Array.length_toList] at e ⊢
    rw [e]
    have:(Sx i).data.size=(Sx i).size:=rfl
    omega
set_option maxRecDepth 100000 in
theorem keys_bulk {H:Type} {enc:TypeId×Value→H} {W:World} {base:Nat} {spare:Nat→Bool} {held:Bool} {r:Reach} {b0:Nat} {v:Value} {d:DataW H} {p:List MemPlace}
    (hv:Value.okWide Tryz.prog W r b0 tKs v) (h:DataW.Trod enc Tryz.prog W base spare held tKs v d p) : ∃ (q:Ka.Sl) (keys:List ByteArray),v=Ka.slV q∧Ka.Kx W q keys∧tot keys≤Rows.uptoBulk d:=by
  have hw:=okWide_slice (P:=Tryz.prog) (t:=tKs) (e:=9) Tryz.underlying22 hv
  obtain ⟨a,len,cap,rfl⟩:=hw
  obtain ⟨fuel,hf⟩:=h
  rcases Deep.open_strs Tryz.underlying22 Tryz.underlying9 (by kernel_rfl) hf with ⟨h1,_⟩ | ⟨a',len',cap',m,Sx,h1,_,h3,h4,h5,h6,h7⟩
  · have h1:[Value.slice a len cap]=[.slice none 0 0]:=h1
    cases h1
    exact ⟨(none,0,0),[],rfl,⟨rfl,Nat.le_refl _,.inl rfl⟩,Nat.zero_le _⟩
  · have h1:[Value.slice a len cap]=[.slice (some a') len' cap']:=h1
    cases h1
    have hlm:len≤m:=by rw [h5];split <;> omega
    have hb:tot ((List.range len).map Sx)≤Rows.uptoBulk d:=by
      have e:=(Prod.mk.inj h6).1
      rw [e,← tot_bulk (H:=H)]
      simp only [Rows.uptoBulk]
      omega
    refine ⟨(some a',len,cap),(List.range len).map Sx,rfl,⟨by simp,h3,?_⟩,hb⟩
    rcases Nat.eq_zero_or_pos len with h0 | h0
    · left;subst h0;rfl
    · right
      obtain ⟨b,off,spot⟩:=a'
      have hspot:spot=none:=by simpa [Addr.add] using World.cell?_spot (h7 0 (by omega)).1
      subst hspot
      have hc0:=(h7 0 (by omega)).1
      rw [addr_add] at hc0
      refine ⟨b,off,rfl,Ms.cell_lt hc0,fun j key hj => ?_⟩
      have hjl:=(List.getElem?_eq_some_iff.1 hj).1
      rw [List.length_map,List.length_range] at hjl
      rw [List.getElem?_map,List.getElem?_range hjl] at hj
      cases hj
      have:=(h7 j (by omega)).1
      rw [addr_add] at this
      exact this
end Go.Proofs.YtlfebfkphgelfaaGreatDoor.Lv
