/- The law FnJpParseString: the reference's Unescape and the law's walk. No condition beyond the statement's own guards. -/
import Derived.Test.YtlhhmgopfilgpaaDoorJp
import Derived.Test.YtlhhmgopfilgpaaDoorJk
import Derived.Test.YtlhhmgopfilgpaaDoorRows
import Derived.Lib.LaidU8
import Derived.Lib.LaidTab
import Derived.Stop.LaidErr
import Derived.OpenShut
import Derived.Deep.Strs
namespace Go.Proofs.YtlhhmgopfilgpaaDoor.LawJpParseString
open Go Go.Proofs Go.RowKit Go.Proofs.YtlhhmgopfilgpaaDoor.Rx Go.Proofs.YtlhhmgopfilgpaaDoor.Tr Go.Proofs.YtlhhmgopfilgpaaDoor.Pl Go.Proofs.YtlhhmgopfilgpaaDoor.Ut Go.Proofs.YtlhhmgopfilgpaaDoor.Ch Go.Proofs.YtlhhmgopfilgpaaDoor.Bw Go.Proofs.YtlhhmgopfilgpaaDoor.Uq Go.Proofs.YtlhhmgopfilgpaaDoor.Ql Go.Proofs.YtlhhmgopfilgpaaDoor.Je Go.Proofs.YtlhhmgopfilgpaaDoor.Jk
open Go.Proofs.YtlhhmgopfilgpaaDoor.Sr (s_allocE slV tBs tB RdAt NumPost escape_any)

abbrev tR : TypeId := 58
theorem qq_inn (s : ByteArray) : inn ((ByteArray.mk #[34] ++ s) ++ ByteArray.mk #[34]) = s ∧ ((ByteArray.mk #[34] ++ s) ++ ByteArray.mk #[34]).size = s.size + 2 := by
  have hz : ((ByteArray.mk #[34] ++ s) ++ ByteArray.mk #[34]).size = s.size + 2 := by
    rw [ByteArray.size_append, ByteArray.size_append]
    have : (ByteArray.mk #[(34 : UInt8)]).size = 1 := rfl
    omega
  refine ⟨?_, hz⟩
  have e : ((ByteArray.mk #[34] ++ s) ++ ByteArray.mk #[34]).data.toList = 34 :: (s.data.toList ++ [34]) := by
    rw [ByteArray.data_append, ByteArray.data_append, Array.toList_append, Array.toList_append]; rfl
  unfold inn
  rw [hz]
  have h := extract_tl ((ByteArray.mk #[34] ++ s) ++ ByteArray.mk #[34]) 1 s.size
  rw [show s.size + 2 - 1 = 1 + s.size by omega]
  apply ByteArray.ext
  apply Array.toList_inj.1
  rw [h]
  show (List.drop 1 ((ByteArray.mk #[34] ++ s) ++ ByteArray.mk #[34]).data.toList).take s.size = _
  rw [e]
  show (s.data.toList ++ [34]).take s.size = _
  have hl : s.data.toList.length = s.size := Array.length_toList
  rw [← hl, List.take_left]
theorem spec_any {w : World} {s : ByteArray} (hs : s.size ≤ 65536) : Calls Tryd.prog 16 #[.string s] w fun e w' => e = .returned (ueV s) ∧ Kp Off w w' := by
  refine spec_Unescape.calls _ ?_
  unfold spec_Unescape.t
  refine s_loop (fun n x w' => ∃ i : Nat, n = s.size - i ∧ x = ((i : Int), ()) ∧ i ≤ s.size ∧ vd s i = vd s 0 ∧ Kp Off w w') s.size ((0 : Int), ()) rfl ⟨0, rfl, rfl, Nat.zero_le _, rfl, Kp.refl _ _⟩ ?_
  rintro n x w1 ⟨i, rfl, rfl, hi, hv, k1⟩
  simp only [spec_Unescape.t1]
  have hq := qq_inn s
  refine s_iteD (fun h => ?_) (fun h => ?_)
  rotate_left
  · have e : i = s.size := by omega
    rw [vd_end (by omega)] at hv
    obtain ⟨r, hr, hr2⟩ := (same_any (s := s) s.size 0 (by omega)).1 hv.symm
    have z1 : (ByteArray.mk #[(34 : UInt8)] ++ s).size = s.size + 1 := by
      rw [ByteArray.size_append]
      have : (ByteArray.mk #[(34 : UInt8)]).size = 1 := rfl
      omega
    refine s_chk (by omega) (s_chk (by omega) ?_)
    refine s_call (unquote_any (r := r) (by omega) (by omega) (by rw [hq.1]; exact hr)) ?_
    rintro e w2 ⟨rfl, k2⟩
    refine ⟨(⟨r.toArray⟩ : ByteArray), rfl, s_leaf ?_⟩
    rw [if_neg (by decide)]
    refine ⟨rfl, ?_, k1.trans k2⟩
    unfold ueV; rw [hr2]; rfl
  have hlt : i < s.size := by omega
  refine s_chk (by omega) ?_
  rw [bt_bn]
  refine s_iteN (fun hb => s_leaf ?_) (fun hb => ?_)
  · rw [if_pos rfl, wrap_in (by omega) (by omega)]
    exact ⟨s.size - (i + 1), (((i + 1 : Nat) : Int), ()), rfl, by omega, i + 1, rfl, rfl, hlt, by rw [← hv, vd_plain hlt (by omega)], k1⟩
  have hb : bn s i = 92 := by omega
  obtain ⟨w2, hw2⟩ : ∃ w2, w1.alloc (.cells [Value.string (ByteArray.mk #[]), .int .i64 0].toArray tR (0, 0)) = w2 := ⟨_, rfl⟩
  obtain ⟨b2, k2, z2⟩ := new_blk hw2
  refine s_allocE w1.heap.size rfl w2 hw2 ?_
  obtain ⟨w3, h3, b3, k3⟩ := storeAt_run (P := Tryd.prog) (t := tR) [.string s, .int .i64 ((i + 1 : Nat) : Int)] b2 (info_some (by kernel_rfl)) (by kernel_rfl) rfl rfl
  rw [wrap_in (n := (i : Int) + 1) (by omega) (by omega)]
  refine s_effU h3 ?_
  have hR : RdAt w3 w1.heap.size s (i + 1) := b3
  refine s_call (escape_any (by omega) hlt hR) ?_
  rintro e w4 ⟨j, rfl, hj, hjs, hR4, k4⟩
  have k14 : Kp Off w w4 := k1.trans ((k2.then k3 fun q hq e => by have e : q = w1.heap.size := e; omega).then k4 fun q hq e => by have e : q = w1.heap.size := e; omega)
  cases hE : escE s (i + 1) with
  | none =>
    refine ⟨false, rfl, sat_iteT.2 (s_leaf ?_)⟩
    rw [if_neg (by decide)]
    refine ⟨rfl, ?_, k14⟩
    have hvf : vd s 0 = false := by rw [← hv]; exact vd_bad hlt hb hE
    unfold ueV; rw [ueV_eq, hvf]; rfl
  | some m =>
    obtain rfl := hj m hE
    have hle := escE_le hE
    refine ⟨true, rfl, sat_iteF.2 ?_⟩
    simp only [addr_add, Nat.zero_add]
    refine s_load (j : Int) (hR4.cell 1) (s_leaf ?_)
    rw [if_pos rfl, wrap_in (n := (j : Int) - 1) (by omega) (by omega), wrap_in (by omega) (by omega)]
    refine ⟨s.size - j, ((j : Int), ()), ?_, by omega, j, rfl, rfl, hjs, by rw [← hv, vd_esc hb hE], k14⟩
    show [Value.int .i64 ((j : Int) - 1 + 1)] = [Value.int .i64 (j : Int)]
    rw [show (j : Int) - 1 + 1 = (j : Int) by omega]
/-- The letters' table. -/
def escL : List Int := (List.range 117).map fun (j : Nat) => if isX (j : Int) then ((sh (UInt8.ofNat j)).toNat : Int) else 0
theorem esc_eq : (Rows.laid_pub_tetrapla_pub_jsonparser_backslashCharEscapeTable : DataW Unit) = Lib.tabData .u8 escL := by kernel_rfl
theorem esc_at : ∀ j : Nat, j < 117 → isX (j : Int) = true → escL.getD j 0 = ((sh (UInt8.ofNat j)).toNat : Int) := by decide
noncomputable def fieldsOf (d : Option TypeDesc) : Array Field := match d with
  | some (.struct fs) => fs
  | _ => #[]
noncomputable def cfs : Array Field := fieldsOf (Tryd.prog.underlying tC)
theorem star : "*" ++ "errors.errorString" = "*errors.errorString" := by decide
theorem type_errS (u : TypeId) (h : Tryd.prog.typeName? 3 u = some "*errors.errorString") : u = tPE :=
  typeName_ptr_named (nm := "errors.errorString") (by rw [star]; kernel_rfl) (by kernel_rfl) (by decide) u (by rw [star]; exact h)
theorem vars {w : World} (hL : laidMet Tryd.prog Rows.fnJpParseStringRow.laid w) : Lt w ∧ Ev w gE ∧ Ev w gV ∧ Cv w := by
  have h2 := laidMet.tail hL
  have h3 := laidMet.tail h2
  have h4 := laidMet.tail h3
  refine ⟨?_, ?_, ?_, ?_⟩
  · have h : laidMet Tryd.prog (("pub-tetrapla/pub/jsonparser.backslashCharEscapeTable", Lib.tabData .u8 escL) :: [("pub-tetrapla/pub/jsonparser.MalformedValueError", Rows.laid_pub_tetrapla_pub_jsonparser_MalformedValueError), ("pub-tetrapla/pub/jsonparser.MalformedStringEscapeError", Rows.laid_pub_tetrapla_pub_jsonparser_MalformedStringEscapeError)]) w := by
      rw [← esc_eq]; exact h2
    have ht := Lib.tabIs_of_head (g := gT) (by kernel_rfl) (by kernel_rfl : _ = some 108) Tryd.underlying108 Tryd.underlying5 (by kernel_rfl) (by kernel_rfl) h
    intro b hb
    have hlt : b.toNat < 117 := by have := isX_iff.1 hb; omega
    have := ht.cell (g := gT) (by kernel_rfl) b.toNat (by
      have : escL.length = 117 := by kernel_rfl
      omega)
    rw [esc_at b.toNat hlt hb, UInt8.ofNat_toNat] at this
    exact this
  · obtain ⟨a, s, h, _⟩ := laid_sentinel h4 (g := gE) (by kernel_rfl) (by kernel_rfl : _ = some tE) Tryd.underlying40 type_errS Tryd.underlying117 Tryd.underlying135 rfl rfl Tryd.underlying9 (by kernel_rfl) (by kernel_rfl)
    exact ⟨_, _, World.var?_cell (by kernel_rfl) h 0⟩
  · obtain ⟨a, s, h, _⟩ := laid_sentinel h3 (g := gV) (by kernel_rfl) (by kernel_rfl : _ = some tE) Tryd.underlying40 type_errS Tryd.underlying117 Tryd.underlying135 rfl rfl Tryd.underlying9 (by kernel_rfl) (by kernel_rfl)
    exact ⟨_, _, World.var?_cell (by kernel_rfl) h 0⟩
  · obtain ⟨g, t, cs, fuel, p, hg, ht, hv, hd⟩ := Lib.laidMet.reads hL (.head _)
    have hg2 : Tryd.prog.globalNamed "pub-tetrapla/pub/jsonparser.DefaultConfig" = some gC := by kernel_rfl
    have ht2 : (Tryd.prog.globals[gC]?).map (·.type) = some tC := by kernel_rfl
    obtain rfl := Option.some.inj (hg.symm.trans hg2)
    obtain rfl := Option.some.inj (ht.symm.trans ht2)
    have hu : Tryd.prog.underlying tC = some (.struct cfs) := by kernel_rfl
    obtain ⟨xs, n, rfl, hx, hl, hxl, hall⟩ := DataW.trod_struct hu hd
    have hxs : xs.map (·.1) = [.lit (.bool false), .lit (.bool false), .lit (.int .i64 0)] := by
      have e : (DataW.agg [.lit (.bool false), .lit (.bool false), .lit (.int .i64 0)] : DataW Unit) = .agg (xs.map (·.1)) := congrArg Prod.fst hx
      exact (DataW.agg.inj e).symm
    have fld : ∀ (i : Nat) (ty : TypeId) (off : Nat) (d : DataW Unit), (cfs[i]?).map (fun f => (f.type, f.offset)) = some (ty, off) → (xs.map (·.1))[i]? = some d → ∃ q, DataW.trod (fun _ => ()) Tryd.prog w 0 (fun _ => true) false n ty ((cs.toList.drop off).take (Tryd.prog.cellsOf ty)) = some (d, q) := by
      intro i ty off d h1 h2
      obtain ⟨f, hf, e⟩ := Option.map_eq_some_iff.1 h1
      cases e
      have h3 := hall i f hf
      rw [List.getElem?_map] at h2
      obtain ⟨b, hb, rfl⟩ := Option.map_eq_some_iff.1 h2
      rw [hb] at h3
      exact ⟨b.2, h3⟩
    have hl : cs.toList.length = 3 := hl.trans (by kernel_rfl)
    obtain ⟨q0, h0⟩ := fld 0 4 0 (.lit (.bool false)) (by kernel_rfl) (by rw [hxs]; rfl)
    obtain ⟨q1, h1⟩ := fld 1 4 1 (.lit (.bool false)) (by kernel_rfl) (by rw [hxs]; rfl)
    obtain ⟨q2, h2⟩ := fld 2 3 2 (.lit (.int .i64 0)) (by kernel_rfl) (by rw [hxs]; rfl)
    obtain ⟨b0, e0, x0⟩ := DataW.trod_bool Tryd.underlying4 h0
    obtain ⟨b1, e1, x1⟩ := DataW.trod_bool Tryd.underlying4 h1
    obtain ⟨b2, e2, x2, _⟩ := DataW.trod_int Tryd.underlying3 h2
    have cB : Tryd.prog.cellsOf 4 = 1 := by kernel_rfl
    have cI : Tryd.prog.cellsOf 3 = 1 := by kernel_rfl
    rw [cB] at e0 e1
    rw [cI] at e2
    cases x0; cases x1; cases x2
    have hcs : cs.toList = cfg := by
      match hc : cs.toList, hl with
      | [a, b, c], _ =>
        rw [hc] at e0 e1 e2
        have e0 : [a] = [Value.bool false] := e0
        have e1 : [b] = [Value.bool false] := e1
        have e2 : [c] = [Value.int .i64 0] := e2
        cases e0; cases e1; cases e2; rfl
    intro j v hj
    have := World.var?_cell hg2 hv j
    rw [this, ← Array.getElem?_toList, hcs]; exact hj
theorem walk (s : ByteArray) (w : World) (hs : s.size ≤ 140737488351232) (hL : laidMetH Tryd.prog Rows.fnJpParseStringRow.laid w) :
    Calls Tryd.prog 6 #[.string s] w fun e w' => e = .returned (.bool true) ∧ RowKit.Below w.heap.size w w' := by
  have hM := laid_of_H hL (by kernel_rfl)
  obtain ⟨hT, hE, hV, hC⟩ := vars hM
  refine laws_FnJpParseString.calls _ ?_
  unfold laws_FnJpParseString.t
  have done : ∀ (w1 : World), Kp Off w w1 → (Ending.returned (retVal [.bool true]) = .returned (.bool true) ∧ RowKit.Below w.heap.size w w1) := fun w1 h => ⟨rfl, h.belowOff⟩
  refine s_iteD (fun _ => s_leaf ⟨rfl, done w (Kp.refl _ _)⟩) (fun _ => ?_)
  refine s_iteD (fun _ => s_leaf ⟨rfl, done w (Kp.refl _ _)⟩) (fun hz => ?_)
  refine s_call (impl_any (by omega) hT hE hV hC) ?_
  rintro e w1 ⟨rfl, k1⟩
  have sp := spec_any (w := w1) (s := s) (by omega)
  unfold ueV at sp ⊢
  cases hu : ue s 0 with
  | none =>
    rw [hu] at sp
    refine ⟨(ByteArray.mk #[], false, ()), rfl, ?_⟩
    refine s_call sp ?_
    rintro e w2 ⟨rfl, k2⟩
    refine ⟨(ByteArray.mk #[], false, ()), rfl, ?_⟩
    exact sat_iteT.2 (sat_iteT.2 (s_leaf ⟨rfl, done w2 (k1.trans k2)⟩))
  | some r =>
    rw [hu] at sp
    refine ⟨(⟨r.toArray⟩, true, ()), rfl, ?_⟩
    refine s_call sp ?_
    rintro e w2 ⟨rfl, k2⟩
    refine ⟨(⟨r.toArray⟩, true, ()), rfl, ?_⟩
    refine sat_iteT.2 (sat_iteF.2 (s_leaf ⟨rfl, ?_⟩))
    rw [strEq_iff.2 rfl]
    exact done w2 (k1.trans k2)
end Go.Proofs.YtlhhmgopfilgpaaDoor.LawJpParseString
