/- jsonparser's Unescape and ParseString: their walks. No statement of the set is proved here. -/
import Derived.Test.YtlhhmgopfilgpaaDoorJi
import Derived.Test.YtlhhmgopfilgpaaDoorUi
namespace Go.Proofs.YtlhhmgopfilgpaaDoor.Je
open Go Go.Proofs Go.RowKit Go.Proofs.YtlhhmgopfilgpaaDoor.Rx Go.Proofs.YtlhhmgopfilgpaaDoor.Tr Go.Proofs.YtlhhmgopfilgpaaDoor.Pl Go.Proofs.YtlhhmgopfilgpaaDoor.Ut Go.Proofs.YtlhhmgopfilgpaaDoor.Ch Go.Proofs.YtlhhmgopfilgpaaDoor.Bw Go.Proofs.YtlhhmgopfilgpaaDoor.Uq Go.Proofs.YtlhhmgopfilgpaaDoor.Ql
open Go.Proofs.YtlhhmgopfilgpaaDoor.Sr (s_allocE slV tBs tB)

def gV : Nat := 1
def gC : Nat := 11
theorem ucfg_any {w : World} {s : ByteArray} {g cap h0 len2 cap2 T' : Nat} {l : List UInt8} (hs : s.size ≤ 65536) (hB : Byts w ⟨g, 0, none⟩ s) (hcap : s.size ≤ cap) (hb : Blk w h0 (cb l) T') (hl : l.length = cap2) (hL : Lt w) (hEv : Ev w gE)
    (hgw : g < w.heap.size) (hgh : g ≠ h0) (hT : h0 ≠ gT) (hE : h0 ≠ gE) (lT : gT < w.heap.size) :
    Calls Tryd.prog 56 #[.agg cfg.toArray, .slice (some ⟨g, 0, none⟩) s.size cap, .slice (some ⟨h0, 0, none⟩) len2 cap2] w fun e w' => UPost s e w' ∧ Kp (On h0) w w' := by
  refine jsonparser_unescapeConfig.calls _ _ _ _ _ _ _ _ _ ?_
  unfold jsonparser_unescapeConfig.t
  obtain ⟨w1, hw1⟩ : ∃ w1, w.alloc (.cells cfg.toArray tC (0, 0)) = w1 := ⟨_, rfl⟩
  obtain ⟨bz, k1, z1⟩ := new_blk hw1
  refine s_allocE w.heap.size rfl w1 hw1 ?_
  have hI : In w s g 0 0 s.size := ⟨hB, rfl, fun _ => rfl⟩
  have hI1 := hI.kp k1 id
  have lE : gE < w.heap.size := by obtain ⟨t, v, h⟩ := hEv; exact Ms.cell_lt h
  have l0 : h0 < w.heap.size := hb.lt
  refine s_call (index_any hI1) ?_
  rintro e w1 ⟨rfl, rfl⟩
  refine ⟨_, rfl, ?_⟩
  have htl := tl_len s 0
  rcases ix_cases 92 (tl s 0) with ⟨e1, e2⟩ | ⟨k, e1, e2, e3, r, e4⟩
  · rw [e1]
    refine s_iteE (fun _ => s_leaf ⟨rfl, ?_, k1.mono fun _ _ c => c.elim⟩) (fun hh => absurd rfl hh)
    unfold UPost
    rw [ue_run (tl s 0) 0 [] (by rw [List.append_nil]) e2, ue_end (by omega)]
    refine ⟨(some ⟨g, 0, none⟩, s.size, cap), rfl, ?_⟩
    have := back (w := w1) (g := g) (cap := cap) (l := tl s 0) fun j hj => by
      have := hI1.cell (j := j) (by omega)
      simp only [Nat.zero_add] at this
      rw [this]
      have hg := tl_get (s := s) (a := 0) (j := j) (by omega)
      rw [List.getElem?_eq_getElem hj] at hg
      rw [Option.some.inj hg, gb_bn, Nat.zero_add]
    rw [htl] at this
    simp only [List.append_nil]
    exact this
  rw [e1]
  refine s_iteE (fun hh => (by have hh : (k : Int) = -1 := hh; omega)) (fun _ => ?_)
  refine s_cut (fun z w' => ∃ h cO T2 l2, z = ((some ⟨h, 0, none⟩, s.size, cO), ()) ∧ s.size ≤ cO ∧ Blk w' h (cb l2) T2 ∧ s.size ≤ l2.length ∧ (h = h0 ∨ w1.heap.size ≤ h) ∧ Kp Off w1 w') ?_ ?_
  · refine s_iteD (fun hc => ?_) (fun hc => ?_)
    · have hr := run_makeSlice (P := Tryd.prog) w1 tBs tB _ (.int .u8 0) Tryd.underlying43 (info_some (by kernel_rfl)) (by kernel_rfl) .i64 .i64 (s.size : Int) (s.size : Int) (by omega) (by omega) (by
        rw [show ((Tryd.prog.info? tB).get (by kernel_rfl)).size = 1 from by kernel_rfl]; omega) (by
        rw [show ((Tryd.prog.info? tB).get (by kernel_rfl)).bytes = 1 from by kernel_rfl]; omega) (by omega)
      rw [show ((Tryd.prog.info? tB).get (by kernel_rfl)).size = 1 from by kernel_rfl, Int.toNat_natCast, Nat.mul_one, made_zero s.size (Value.int IntKind.u8 0).cells rfl] at hr
      refine s_eff (some ⟨w1.heap.size, 0, none⟩, s.size, s.size) hr (s_leaf ?_)
      rw [if_pos rfl]
      exact ⟨((some ⟨w1.heap.size, 0, none⟩, s.size, s.size), ()), rfl, w1.heap.size, s.size, tB, List.replicate s.size 0, rfl, Nat.le_refl _, Blk.new w1 _ tB, by rw [List.length_replicate]; exact Nat.le_refl _, .inr (Nat.le_refl _), (Kp.refl _ w1).alloc _⟩
    · refine s_chk (by omega) (s_leaf ?_)
      rw [if_pos rfl]
      refine ⟨((some ⟨h0, 0, none⟩, s.size, cap2), ()), ?_, h0, cap2, T', l, rfl, by omega, k1.blk hb id, by omega, .inl rfl, Kp.refl _ _⟩
      simp only [Int.toNat_natCast, sl_at, Nat.sub_zero, Nat.add_zero, ite_self]
      rfl
  rintro z w2 ⟨h, cO, T2, l2, rfl, hcO, hb2, hl2, hh, k2⟩
  have k12 := k1.trans k2
  have ng : g ≠ h := by rcases hh with rfl | hh <;> omega
  have nT : h ≠ gT := by rcases hh with rfl | hh <;> omega
  have nE : h ≠ gE := by rcases hh with rfl | hh <;> omega
  have nz : h ≠ w.heap.size := by rcases hh with rfl | hh <;> omega
  have hI2 := hI.kp k12 id
  simp only [jsonparser_unescapeConfig.t1, Int.toNat_natCast, sl_at, Nat.sub_zero, Nat.add_zero, ite_self]
  refine s_chk (by omega) ?_
  refine s_copy hb2 rfl hI2 (n := k) (by omega) (by omega) (by omega) (c := 0) (fun _ => rfl) fun w3 hb3 k3 => ?_
  have hlaid := take_laid (l := l2) (e := (tl s 0).take k) (c := 0) (n := k) (by rw [List.length_take]; omega) (by omega)
  generalize hl3 : l2.take 0 ++ (tl s 0).take k ++ l2.drop (0 + k) = l3 at hb3 hlaid
  refine s_chk (by omega) (s_chk (by omega) ?_)
  have ngO : ¬ On h g := fun e => ng e
  have hsplit : tl s 0 = (tl s 0).take k ++ (tl s 0).drop k := (List.take_append_drop _ _).symm
  have h92 : bn s (0 + k) = 92 := by
    have := tl_drop s 0 k
    rw [e4] at this
    exact bn_gb (tl_cons this).2.1
  have kk : Kp (On h) w w3 := (k12.mono fun _ _ c => c.elim).trans k3
  have fin : ∀ w', Kp (On h) w3 w' → Kp (On h0) w w' := fun w' k' => by
    have k'' := kk.trans k'
    refine ⟨k''.os, k''.tape, k''.output, k''.size, fun i hi hn => k''.block i hi fun e => ?_⟩
    have e : i = h := e
    rcases hh with e2 | e2
    · exact hn (e.trans e2)
    · omega
  refine loop_any (T' := T2) (W := w3) (b0 := (some ⟨h, if cO = k then 0 else 0 + k, none⟩, s.size - k, cO - k)) (i0 := (some ⟨g, if cap = k then 0 else 0 + k, none⟩, s.size - k, cap - k)) (a0 := s.size - k) hs ng nT nE nz (k3.blk (k2.blk bz id) (fun e => nz e.symm)) ((hL.off' k12).off k3 nT) ((hEv.kp k12 id).kp k3 (fun e => nE e.symm)) hcO _ (fun vs w' h1 h2 => ⟨rfl, h1, fin w' h2⟩) ?_
  have hI3 : In w3 s g (if cap = k then 0 else 0 + k) k (s.size - k) := ⟨(hI2.kp k3 ngO).row, rfl, fun h0' => by rw [if_neg (by omega)]; omega⟩
  have h92' : bn s k = 92 := by rw [Nat.zero_add] at h92; exact h92
  refine ⟨k, k, (if cap = k then 0 else 0 + k), (if cO = k then 0 else 0 + k), cap - k, cO - k, l3, rfl, rfl, rfl, Nat.le_refl _, hI3, by omega, fun h0' => by rw [if_neg (by omega)]; omega, by omega, hb3, by have := hlaid.2; omega, ?_, by omega, h92'⟩
  have htk : l3.take k = (tl s 0).take k := by
    have := hlaid.1
    rw [Nat.zero_add, List.take_zero, List.nil_append] at this
    exact this
  have hrun := ue_run ((tl s 0).take k) 0 _ hsplit e3
  have hlk : ((tl s 0).take k).length = k := by rw [List.length_take]; omega
  rw [hlk, Nat.zero_add] at hrun
  rw [hrun, htk]
theorem loadAt_cells {P : Program} {w : World} {t : TypeId} {a : Addr} {cs : List Value} {i : TypeInfo} (ha : aggT P t = some true) (hi : P.info? t = some i) (hs : i.size = cs.length) (hc : ∀ j v, cs[j]? = some v → w.cell? (a.add j) = some v) :
    (Instr.loadAt t (.pointer (some a))).run P w = .ok (.agg cs.toArray) w := by
  have hl := run_loadCells_list (P := P) w a cs hc
  simp only [Instr.loadAt, Instr.sureAddr, loadVar, Sem.run_bind, Sem.run_pure, Result.andThen_ok, run_agg ha, if_true, run_size hi, hs, hl]
/-- The configuration stands in its variable. -/
def Cv (w : World) : Prop := ∀ j v, cfg[j]? = some v → w.cell? ⟨gC, j, none⟩ = some v
theorem Cv.off {w w' : World} (h : Cv w) (k : Kp Off w w') : Cv w' := fun j v hj => by
  have h1 := h j v hj
  rw [k.cell (Ms.cell_lt h1) id]; exact h1
theorem unescape_any {w : World} {s : ByteArray} {g cap h0 len2 cap2 T' : Nat} {l : List UInt8} (hs : s.size ≤ 65536) (hB : Byts w ⟨g, 0, none⟩ s) (hcap : s.size ≤ cap) (hb : Blk w h0 (cb l) T') (hl : l.length = cap2) (hL : Lt w) (hEv : Ev w gE) (hC : Cv w)
    (hgw : g < w.heap.size) (hgh : g ≠ h0) (hT : h0 ≠ gT) (hE : h0 ≠ gE) (lT : gT < w.heap.size) :
    Calls Tryd.prog 41 #[.slice (some ⟨g, 0, none⟩) s.size cap, .slice (some ⟨h0, 0, none⟩) len2 cap2] w fun e w' => UPost s e w' ∧ Kp (On h0) w w' := by
  refine jsonparser_Unescape.calls _ _ _ _ _ _ ?_
  unfold jsonparser_Unescape.t
  refine s_eff (false, false, (0 : Int), ()) (loadAt_cells (cs := cfg) (by kernel_rfl) (info_some (by kernel_rfl)) (by kernel_rfl) (fun j v hj => by rw [addr_add, Nat.zero_add]; exact hC j v hj)) ?_
  refine s_call (ucfg_any hs hB hcap hb hl hL hEv hgw hgh hT hE lT) ?_
  rintro e w1 ⟨hU, k1⟩
  unfold UPost at hU
  cases hu : ue s 0 with
  | none =>
    rw [hu] at hU
    obtain ⟨t, v, rfl⟩ := hU
    exact ⟨((none, 0, 0), Value.iface t v, ()), rfl, s_leaf ⟨rfl, by unfold UPost; rw [hu]; exact ⟨t, v, rfl⟩, k1⟩⟩
  | some r =>
    rw [hu] at hU
    obtain ⟨x, rfl, hx⟩ := hU
    exact ⟨(x, Value.nilIface, ()), rfl, s_leaf ⟨rfl, by unfold UPost; rw [hu]; exact ⟨x, rfl, hx⟩, k1⟩⟩
abbrev tA : TypeId := 75
/-- What ParseString is, its error hidden. -/
def PPost (s : ByteArray) (e : Ending) : Prop := match ue s 0 with
  | none => ∃ t v, e = .returned (.tuple #[.string (ByteArray.mk #[]), .iface t v])
  | some r => e = .returned (.tuple #[.string ⟨r.toArray⟩, .nilIface])
theorem parse_any {w : World} {s : ByteArray} {g cap : Nat} (hs : s.size ≤ 65536) (hB : Byts w ⟨g, 0, none⟩ s) (hcap : s.size ≤ cap) (hL : Lt w) (hEv : Ev w gE) (hEv2 : Ev w gV) (hC : Cv w) (hgw : g < w.heap.size) :
    Calls Tryd.prog 27 #[.slice (some ⟨g, 0, none⟩) s.size cap] w fun e w' => PPost s e ∧ Kp Off w w' := by
  refine jsonparser_ParseString.calls _ _ _ ?_
  unfold jsonparser_ParseString.t
  have lT : gT < w.heap.size := Ms.cell_lt (hL 34 (by decide))
  have lE : gE < w.heap.size := by obtain ⟨t, v, h⟩ := hEv; exact Ms.cell_lt h
  have lV : gV < w.heap.size := by obtain ⟨t, v, h⟩ := hEv2; exact Ms.cell_lt h
  obtain ⟨w1, hw1⟩ : ∃ w1, w.alloc (.cells (cb (List.replicate 64 0)).toArray tA (0, 0)) = w1 := ⟨_, rfl⟩
  obtain ⟨b1, k1, z1⟩ := new_blk hw1
  refine s_allocE w.heap.size rfl w1 hw1 ?_
  refine s_eff (w' := w1) (some ⟨w.heap.size, 0, none⟩, 64, 64) (by kernel_rfl) ?_
  have hB1 : Byts w1 ⟨g, 0, none⟩ s := (In.kp (n := s.size) (y := 0) (a := 0) ⟨hB, rfl, fun _ => rfl⟩ k1 id).row
  refine s_call (unescape_any hs hB1 hcap b1 (by rw [List.length_replicate]) (hL.off' k1) (hEv.kp k1 id) (hC.off k1) (by omega) (by omega) (by omega) (by omega) (by omega)) ?_
  rintro e w2 ⟨hU, k2⟩
  have k02 : Kp Off w w2 := k1.then k2 fun q hq e => by have e : q = w.heap.size := e; omega
  unfold UPost at hU
  cases hu : ue s 0 with
  | none =>
    rw [hu] at hU
    obtain ⟨t, v, rfl⟩ := hU
    refine ⟨((none, 0, 0), Value.iface t v, ()), rfl, s_chk rfl (sat_iteT.2 (s_drew ?_))⟩
    obtain ⟨t2, v2, hv⟩ := hEv2.kp k02.drew id
    refine s_load (Value.iface t2 v2) hv (s_leaf ⟨rfl, ?_, k02.drew⟩)
    unfold PPost; rw [hu]; exact ⟨t2, v2, rfl⟩
  | some r =>
    rw [hu] at hU
    obtain ⟨x, rfl, hx⟩ := hU
    refine ⟨(x, Value.nilIface, ()), rfl, s_chk rfl (sat_iteF.2 ?_)⟩
    refine s_eff (⟨r.toArray⟩ : ByteArray) hx (s_leaf ⟨rfl, ?_, k02⟩)
    unfold PPost; rw [hu]; rfl
/-- What the thin package says. -/
def ueV (s : ByteArray) : Value := match ue s 0 with
  | none => .tuple #[.string (ByteArray.mk #[]), .bool false]
  | some r => .tuple #[.string ⟨r.toArray⟩, .bool true]
theorem impl_any {w : World} {s : ByteArray} (hs : s.size ≤ 65536) (hL : Lt w) (hEv : Ev w gE) (hEv2 : Ev w gV) (hC : Cv w) :
    Calls Tryd.prog 15 #[.string s] w fun e w' => e = .returned (ueV s) ∧ Kp Off w w' := by
  refine impl_JpParseString.calls _ ?_
  unfold impl_JpParseString.t
  obtain ⟨c, w1, h1, hc, hB, k1⟩ := Ui.convert_bytesC (P := Tryd.prog) (w := w) (src := 9) (dst := tBs) (e := tB) s Tryd.underlying9 Tryd.underlying43 Tryd.underlying5
  refine s_eff (some ⟨w.heap.size, 0, none⟩, s.size, c) h1 ?_
  have hz : w.heap.size < w1.heap.size := by
    have := Lib.run_convert_string_bytes (P := Tryd.prog) w 9 tBs tB s Tryd.underlying9 Tryd.underlying43 Tryd.underlying5
    rw [this] at h1
    cases h1
    rw [Lib.bytesWorld_size]; omega
  refine s_call (parse_any hs hB hc (hL.off' k1) (hEv.kp k1 id) (hEv2.kp k1 id) (hC.off k1) hz) ?_
  rintro e w2 ⟨hP, k2⟩
  unfold PPost at hP
  unfold ueV
  cases hu : ue s 0 with
  | none =>
    rw [hu] at hP
    obtain ⟨t, v, rfl⟩ := hP
    exact ⟨(ByteArray.mk #[], Value.iface t v, ()), rfl, s_chk rfl (sat_iteT.2 (s_leaf ⟨rfl, rfl, k1.trans k2⟩))⟩
  | some r =>
    rw [hu] at hP
    subst hP
    exact ⟨(⟨r.toArray⟩, Value.nilIface, ()), rfl, s_chk rfl (sat_iteF.2 (s_leaf ⟨rfl, rfl, k1.trans k2⟩))⟩
end Go.Proofs.YtlhhmgopfilgpaaDoor.Je
