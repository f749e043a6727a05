import Derived.Test.YtlfebfkphgelfaaGreatDoorMI
import Derived.Test.YtlfebfkphgelfaaGreatDoorRows
import Derived.Lib.LaidU8
import Derived.Lib.LaidTab
import Derived.Stop.LaidErr
import Derived.OpenShut
import Derived.Deep.Strs
namespace Go.Proofs.YtlfebfkphgelfaaGreatDoor.Lv
open Go Go.Proofs Go.RowKit Rx Tr Pl Ut Uq Ql Je
open Go.ChangeShapes Go.WideShapes
abbrev tE:TypeId:=61
abbrev tPE:TypeId:=153
abbrev tKs:TypeId:=22
theorem laidMet_drop {P:Program} {w:World} : ∀ (n:Nat) (l:List (String×DataW Unit)),laidMet P l w→laidMet P (l.drop n) w
  | 0,_,h=>h
  | _+1,[],h=>h
  | n+1,_ :: r,h=>laidMet_drop n r (laidMet.tail h)
theorem laid_of_H {P:Program} {l:List (String×DataW Unit)} {W:World} (h:laidMetH P l W) (hn:(l.filter fun x=>x.2.handleName?.isSome)=[]):laidMet P l W:=by
  unfold laidMetH at h;rw [hn] at h;exact h
def escL:List Int:=(List.range 117).map fun (j:Nat)=>if isX (j:Int) then ((sh (UInt8.ofNat j)).toNat:Int) else 0
theorem esc_eq:(Rows.laid_pub_tetrapla_pub_jsonparser_backslashCharEscapeTable:DataW Unit)=Lib.tabData .u8 escL:=by kernel_rfl
theorem esc_at : ∀ j:Nat,j<117→isX (j:Int)=true→escL.getD j 0=((sh (UInt8.ofNat j)).toNat:Int):=by decide
noncomputable def fieldsOf (d:Option TypeDesc):Array Field:=match d with
  | some (.struct fs)=>fs
  | _ => #[]
noncomputable def cfs:Array Field:=fieldsOf (Tryz.prog.underlying tC)
theorem star : "*" ++ "errors.errorString" = "*errors.errorString" := by decide
theorem type_errS (u : TypeId) (h : Tryz.prog.typeName? 3 u = some "*errors.errorString") : u = tPE :=
  typeName_ptr_named (nm := "errors.errorString") (by rw [star]; kernel_rfl) (by kernel_rfl) (by decide) u (by rw [star]; exact h)
theorem lt_of {w : World} {r : List (String × DataW Unit)} (h : laidMet Tryz.prog (("pub-tetrapla/pub/jsonparser.backslashCharEscapeTable", Rows.laid_pub_tetrapla_pub_jsonparser_backslashCharEscapeTable) :: r) w) : Lt w := by
  rw [esc_eq] at h
  have ht:=Lib.tabIs_of_head (g:=gT) (by kernel_rfl) (by kernel_rfl:_=some 130) Tryz.underlying130 Tryz.underlying5 (by kernel_rfl) (by kernel_rfl) h
  intro b hb
  have hlt:b.toNat<117:=by have:=isX_iff.1 hb;omega
  have:=ht.cell (g:=gT) (by kernel_rfl) b.toNat (by
    have:escL.length=117:=by kernel_rfl
    omega)
  rw [esc_at b.toNat hlt hb,UInt8.ofNat_toNat] at this
  exact this
theorem evE {w : World} {r : List (String × DataW Unit)} (h : laidMet Tryz.prog (("pub-tetrapla/pub/jsonparser.MalformedStringEscapeError", Rows.laid_pub_tetrapla_pub_jsonparser_MalformedStringEscapeError) :: r) w) : Je.Ev w Je.gE := by
  obtain ⟨a,s,h,_⟩:=laid_sentinel h (g:=Je.gE) (by kernel_rfl) (by kernel_rfl:_=some tE) Tryz.underlying61 type_errS Tryz.underlying153 Tryz.underlying155 rfl rfl Tryz.underlying9 (by kernel_rfl) (by kernel_rfl)
  exact ⟨_,_,World.var?_cell (by kernel_rfl) h 0⟩
theorem cv_of {w : World} {r : List (String × DataW Unit)} (h : laidMet Tryz.prog (("pub-tetrapla/pub/jsonparser.DefaultConfig", Rows.laid_pub_tetrapla_pub_jsonparser_DefaultConfig) :: r) w) : Cv w := by
  obtain ⟨g,t,cs,fuel,p,hg,ht,hv,hd⟩:=Lib.laidMet.reads h (.head _)
  have hg2 : Tryz.prog.globalNamed "pub-tetrapla/pub/jsonparser.DefaultConfig" = some gC := by kernel_rfl
  have ht2:(Tryz.prog.globals[gC]?).map (·.type)=some tC:=by kernel_rfl
  obtain rfl:=Option.some.inj (hg.symm.trans hg2)
  obtain rfl:=Option.some.inj (ht.symm.trans ht2)
  have hu:Tryz.prog.underlying tC=some (.struct cfs):=by kernel_rfl
  obtain ⟨xs,n,rfl,hx,hl,hxl,hall⟩:=DataW.trod_struct hu hd
  have hxs:xs.map (·.1)=[.lit (.bool false),.lit (.bool false),.lit (.int .i64 0)]:=by
    have e:(DataW.agg [.lit (.bool false),.lit (.bool false),.lit (.int .i64 0)]:DataW Unit) = .agg (xs.map (·.1)):=congrArg Prod.fst hx
    exact (DataW.agg.inj e).symm
  have fld : ∀ (i:Nat) (ty:TypeId) (off:Nat) (d:DataW Unit),(cfs[i]?).map (fun f=>(f.type,f.offset))=some (ty,off)→(xs.map (·.1))[i]?=some d → ∃ q,DataW.trod (fun _=>()) Tryz.prog w 0 (fun _=>true) false n ty ((cs.toList.drop off).take (Tryz.prog.cellsOf ty))=some (d,q):=by
    intro i ty off d h1 h2
    obtain ⟨f,hf,e⟩:=Option.map_eq_some_iff.1 h1
    cases e
    have h3:=hall i f hf
    rw [List.getElem?_map] at h2
    obtain ⟨b,hb,rfl⟩:=Option.map_eq_some_iff.1 h2
    rw [hb] at h3
    exact ⟨b.2,h3⟩
  have hl:cs.toList.length=3:=hl.trans (by kernel_rfl)
  obtain ⟨q0,h0⟩:=fld 0 4 0 (.lit (.bool false)) (by kernel_rfl) (by rw [hxs];rfl)
  obtain ⟨q1,h1⟩:=fld 1 4 1 (.lit (.bool false)) (by kernel_rfl) (by rw [hxs];rfl)
  obtain ⟨q2,h2⟩:=fld 2 3 2 (.lit (.int .i64 0)) (by kernel_rfl) (by rw [hxs];rfl)
  obtain ⟨b0,e0,x0⟩:=DataW.trod_bool Tryz.underlying4 h0
  obtain ⟨b1,e1,x1⟩:=DataW.trod_bool Tryz.underlying4 h1
  obtain ⟨b2,e2,x2,_⟩:=DataW.trod_int Tryz.underlying3 h2
  have cB:Tryz.prog.cellsOf 4=1:=by kernel_rfl
  have cI:Tryz.prog.cellsOf 3=1:=by kernel_rfl
  rw [cB] at e0 e1
  rw [cI] at e2
  cases x0;cases x1;cases x2
  have hcs:cs.toList=cfg:=by
    match hc:cs.toList,hl with
    | [a,b,c],_=>
      rw [hc] at e0 e1 e2
      have e0:[a]=[Value.bool false]:=e0
      have e1:[b]=[Value.bool false]:=e1
      have e2:[c]=[Value.int .i64 0]:=e2
      cases e0;cases e1;cases e2;rfl
  intro j v hj
  have:=World.var?_cell hg2 hv j
  rw [this,← Array.getElem?_toList,hcs];exact hj
end Go.Proofs.YtlfebfkphgelfaaGreatDoor.Lv
