/- jsonparser's Set where the keys lead to a value. No statement of the set is proved here. -/
import Derived.Test.YtlfebfkphgelfaaDoorEb
import Derived.Test.YtlfebfkphgelfaaDoorMI
import Derived.Test.YtlfebfkphgelfaaDoorTb
namespace Go.Proofs.YtlfebfkphgelfaaDoor.Ka
open Go Go.Proofs Go.RowKit Go.Proofs.YtlfebfkphgelfaaDoor.Rx Go.Proofs.YtlfebfkphgelfaaDoor.Tr Go.Proofs.YtlfebfkphgelfaaDoor.Pl Go.Proofs.YtlfebfkphgelfaaDoor.Pw Go.Proofs.YtlfebfkphgelfaaDoor.Sk
open Go.Proofs.YtlfebfkphgelfaaDoor.Ed (put put_size put_pre put_mid put_suf)

variable {w w' : World} {x y q : Sl} {s t : ByteArray} {keys : List ByteArray} {p0 p : PT}
/-- A slice's bytes as a source of a copy. -/
theorem Tx.src (h : Tx w x s 0 s.size) : ∃ g o, x.1 = some ⟨g, o, none⟩ ∧ g < w.heap.size ∧ Je.In w s g o 0 s.size := by
  obtain ⟨b, o, a1, a2, a3⟩ := h.cell
  exact ⟨b, o, a1, a2, fun {j} hj => by
    have := a3 j (by omega)
    rw [this, ← Ut.bt_bn], rfl⟩
theorem put_list {s t : ByteArray} {b e : Nat} (he : e ≤ s.size) : (put s b e t).data.toList = (Ql.tl s 0).take b ++ t.data.toList ++ Ql.tl s e := by
  unfold put
  rw [ByteArray.data_append, ByteArray.data_append, Array.toList_append, Array.toList_append]
  have h1 := Ql.extract_tl s 0 b
  have h2 := Ql.extract_tl s e (s.size - e)
  rw [Nat.zero_add] at h1
  rw [Nat.add_sub_cancel' he] at h2
  have h3 : (Ql.tl s e).take (s.size - e) = Ql.tl s e := List.take_of_length_le (by rw [Je.tl_len]; exact Nat.le_refl _)
  rw [h1, h2, h3]
theorem Tx.ofBlk {h N cap T' : Nat} {l : List UInt8} {S : ByteArray} (hb : Blk w h (Je.cb l) T') (hl : l = S.data.toList) (hN : N = S.size) (hc : N ≤ cap) : Tx w (some ⟨h, 0, none⟩, N, cap) S 0 S.size := by
  subst hN; subst hl
  refine ⟨rfl, Nat.zero_le _, Nat.le_refl _, hc, h, 0, rfl, hb.lt, fun j hj => ?_⟩
  simp only [Nat.zero_add] at hj ⊢
  rw [hb.cell j]
  unfold Je.cb
  have hj' : j < S.data.toList.length := by rw [Array.length_toList]; exact hj
  rw [List.getElem?_map, List.getElem?_eq_getElem hj', Bw.bt_bv]
  unfold Bw.gb
  rw [List.getD_eq_getElem?_getD, List.getElem?_eq_getElem hj']; rfl
theorem three {α : Type} (R A B C : List α) {a b c : Nat} (hA : A.length = a) (hB : B.length = b) (hC : C.length = c) (hR : R.length = a + b + c) :
    ((((R.take 0 ++ A ++ R.drop (0 + a)).take a ++ B ++ (R.take 0 ++ A ++ R.drop (0 + a)).drop (a + b)).take (a + b)) ++ C ++ ((R.take 0 ++ A ++ R.drop (0 + a)).take a ++ B ++ (R.take 0 ++ A ++ R.drop (0 + a)).drop (a + b)).drop (a + b + c)) = A ++ B ++ C := by
  have e1 : (R.take 0 ++ A ++ R.drop (0 + a)).take a = A := by
    rw [List.take_zero, List.nil_append]
    exact List.take_left' hA
  have l1 : (R.take 0 ++ A ++ R.drop (0 + a)).length = a + b + c := by
    simp only [List.length_append, List.length_take, List.length_drop]; omega
  generalize R.take 0 ++ A ++ R.drop (0 + a) = X at e1 l1
  rw [e1]
  have e2 : (A ++ B ++ X.drop (a + b)).take (a + b) = A ++ B := List.take_left' (by rw [List.length_append]; omega)
  have e3 : (A ++ B ++ X.drop (a + b)).drop (a + b + c) = [] := List.drop_eq_nil_of_le (by simp only [List.length_append, List.length_drop]; omega)
  rw [e2, e3, List.append_nil]
/-- A value's place is taken by a text. -/
theorem setOld_any (hs : s.size ≤ 8000000) (ht : t.size ≤ 4000000) (hL : Je.Lt w) (hE : Je.Ev w Je.gE) (hT : Tx w x s 0 s.size) (hV : Tx w y t 0 t.size) (hKx : Kx w q keys) (h : Led s p0 keys p) (hk : keys ≠ []) :
    Calls Tryd.prog 32 #[cfg 0, slV x, slV y, slV q] w fun en w' => ∃ z : Sl, en = .returned (.tuple #[slV z, .nilIface]) ∧ Tx w' z (put s p.b p.e t) 0 (put s p.b p.e t).size ∧ Kp Off w w' := by
  have hl := hKx.len
  have hpos := List.length_pos_iff.2 hk
  have hpl := h.wfp.lt
  have hxl := hT.len
  have hxc := hT.cap
  have hyl := hV.len
  have hyc := hV.cap
  have hz := put_size (t := t) (Nat.le_of_lt hpl.1) hpl.2
  refine jsonparser_setConfig.calls _ _ _ _ _ _ _ _ _ _ _ _ ?_
  unfold jsonparser_setConfig.t
  refine s_alloc ?_
  have b0 := Blk.new w (cfC 0) tCf
  have k0 : Kp Off w (w.alloc (.cells (cfC 0).toArray tCf (0, 0))) := (Kp.refl Off w).alloc _
  show sat _ _ _ (w.alloc (.cells (cfC 0).toArray tCf (0, 0)))
  generalize w.alloc (.cells (cfC 0).toArray tCf (0, 0)) = w1 at k0 b0
  refine s_iteE (fun g => absurd g (by omega)) (fun _ => ?_)
  refine s_eff (w' := w1) (false, false, (0 : Int), ()) (cfg_run b0) ?_
  refine s_call (getK_any hs (hL.off' k0) (hE.kp k0 id) (hT.kp k0) (hKx.kp k0) h) ?_
  rintro en w2 ⟨v, rfl, _, _, k2⟩
  refine ⟨(v, jk p.k, ((p.b - 0 : Nat) : Int), ((p.e - 0 : Nat) : Int), Value.nilIface, ()), rfl, s_chk rfl (sat_iteF.2 ?_)⟩
  have k02 := k0.trans k2
  obtain ⟨g, o, hxa, hg, hI⟩ := (hT.kp k02).src
  obtain ⟨g', o', hya, hg', hI'⟩ := (hV.kp k02).src
  obtain ⟨xa, xl, xc⟩ := x
  obtain ⟨ya, yl, yc⟩ := y
  have hxa : xa = some ⟨g, o, none⟩ := hxa
  have hya : ya = some ⟨g', o', none⟩ := hya
  have hxl : xl = s.size := by simpa using hxl
  have hyl : yl = t.size := by simpa using hyl
  have hxc : xl ≤ xc := hxc
  have hyc : yl ≤ yc := hyc
  subst hxa; subst hya; subst hxl; subst hyl
  simp only [Nat.sub_zero]
  refine s_chk ⟨by omega, by omega, by omega⟩ (s_chk ⟨by omega, by omega, by omega⟩ ?_)
  have eN : IntKind.wrap IntKind.i64 ((IntKind.wrap IntKind.i64 (((Int.toNat ((p.b : Nat) : Int) : Nat) : Int) + (((Int.toNat ((s.size : Nat) : Int)) - (Int.toNat ((p.e : Nat) : Int)) : Nat) : Int))) + ((t.size : Nat) : Int)) = (((put s p.b p.e t).size : Nat) : Int) := by
    rw [Int.toNat_natCast, Int.toNat_natCast, Int.toNat_natCast, wad _ _ (by omega), wad _ _ (by omega), hz]; omega
  rw [eN]
  generalize hNN : (put s p.b p.e t).size = N at hz
  have hr := run_makeSlice (P := Tryd.prog) w2 tBs tB _ (.int .u8 0) Tryd.underlying36 (info_some (by kernel_rfl)) (by kernel_rfl) .i64 .i64 (N : Int) (N : Int) (by omega) (by omega) (by
        rw [show ((Tryd.prog.info? tB).get (by kernel_rfl)).size = 1 from by kernel_rfl]; omega) (by
        rw [show ((Tryd.prog.info? tB).get (by kernel_rfl)).bytes = 1 from by kernel_rfl]; omega) (by omega)
  rw [show ((Tryd.prog.info? tB).get (by kernel_rfl)).size = 1 from by kernel_rfl, Int.toNat_natCast, Nat.mul_one, Je.made_zero N (Value.int IntKind.u8 0).cells rfl] at hr
  refine s_eff (some ⟨w2.heap.size, 0, none⟩, N, N) hr ?_
  have b3 := Blk.new w2 (Je.cb (List.replicate N 0)) tB
  have k3 : Kp Off w2 (w2.alloc (.cells (Je.cb (List.replicate N 0)).toArray tB)) := (Kp.refl _ w2).alloc _
  generalize w2.alloc (.cells (Je.cb (List.replicate N 0)).toArray tB) = w3 at b3 k3
  generalize hh : w2.heap.size = h0 at b3
  have hgh : g ≠ h0 := by omega
  have hgh' : g' ≠ h0 := by omega
  have hI3 := hI.kp k3 id
  have hI3' := hI'.kp k3 id
  have ew : IntKind.wrap IntKind.i64 (((p.b : Nat) : Int) + ((t.size : Nat) : Int)) = ((p.b + t.size : Nat) : Int) := wad _ _ (by omega)
  simp only [ew]
  refine s_chk ⟨by omega, by omega, by omega⟩ ?_
  simp only [Int.toNat_natCast, Je.sl_at, Nat.add_zero, ite_self]
  refine Je.s_copy b3 rfl hI3 (by omega) (Nat.le_refl _) (by rw [List.length_replicate]; omega) (fun _ => rfl) fun w4 b4 k4 => ?_
  refine s_chk ⟨by omega, by omega, by omega⟩ ?_
  refine Je.s_copy (c := p.b) b4 rfl (hI3'.kp k4 (by unfold On; omega)) (Nat.le_refl _) (by omega) (by
    simp only [List.length_append, List.length_take, List.length_drop, List.length_replicate, Je.tl_len]; omega) (fun hp => by rw [if_neg (by omega), Nat.zero_add]) fun w5 b5 k5 => ?_
  refine s_chk ⟨by omega, by omega, by omega⟩ ?_
  have hI5 := ((hI3.kp k4 (by unfold On; omega)).kp k5 (by unfold On; omega)).fwd p.e
  have hoff : Je.In w5 s g (if xc = p.e then o else o + p.e) p.e (s.size - p.e) := by
    rw [Nat.zero_add] at hI5
    by_cases hc : xc = p.e
    · exact ⟨fun {j} hj => by omega, by omega⟩
    · rw [if_neg hc]; exact hI5
  refine Je.s_copy (c := p.b + t.size) b5 rfl hoff (Nat.le_refl _) (by omega) (by
    simp only [List.length_append, List.length_take, List.length_drop, List.length_replicate, Je.tl_len]; omega) (fun hp => by rw [if_neg (by omega), Nat.zero_add]) fun w6 b6 k6 => ?_
  refine s_leaf ⟨rfl, (some ⟨h0, 0, none⟩, N, N), rfl, ?_, ?_⟩
  · have g := Tx.ofBlk (N := N) (cap := N) (S := put s p.b p.e t) b6 (by
      rw [put_list hpl.2, three (List.replicate N 0) ((Ql.tl s 0).take p.b) ((Ql.tl t 0).take t.size) ((Ql.tl s p.e).take (s.size - p.e)) (by rw [List.length_take, Je.tl_len]; omega) (by rw [List.length_take, Je.tl_len]; omega) (by rw [List.length_take, Je.tl_len]; omega) (by rw [List.length_replicate]; omega)]
      have h2 : (Ql.tl t 0).take t.size = t.data.toList := List.take_of_length_le (by rw [Je.tl_len]; exact Nat.le_refl _)
      have h3 : (Ql.tl s p.e).take (s.size - p.e) = Ql.tl s p.e := List.take_of_length_le (by rw [Je.tl_len]; exact Nat.le_refl _)
      rw [h2, h3]) hNN.symm (Nat.le_refl _)
    rwa [hNN] at g
  · have := k02.size
    exact Uq.kp_then (k02.trans k3) ((k4.trans k5).trans k6) fun i hi ho => by unfold On at ho; omega
/-- Set. -/
theorem set_any (hs : s.size ≤ 8000000) (ht : t.size ≤ 4000000) (hC : Je.Cv w) (hL : Je.Lt w) (hE : Je.Ev w Je.gE) (hT : Tx w x s 0 s.size) (hV : Tx w y t 0 t.size) (hKx : Kx w q keys) (h : Led s p0 keys p) (hk : keys ≠ []) :
    Calls Tryd.prog 19 #[slV x, slV y, slV q] w fun en w' => ∃ z : Sl, en = .returned (.tuple #[slV z, .nilIface]) ∧ Tx w' z (put s p.b p.e t) 0 (put s p.b p.e t).size ∧ Kp Off w w' := by
  refine jsonparser_Set.calls _ _ _ _ _ _ _ _ _ ?_
  unfold jsonparser_Set.t
  refine s_eff (w' := w) (false, false, (0 : Int), ()) (Je.loadAt_cells (cs := Je.cfg) (by kernel_rfl) (info_some (by kernel_rfl)) (by kernel_rfl) (fun j v hj => by rw [addr_add, Nat.zero_add]; exact hC j v hj)) ?_
  refine s_call (setOld_any hs ht hL hE hT hV hKx h hk) ?_
  rintro en w1 ⟨z, rfl, h1, k1⟩
  exact ⟨(z, Value.nilIface, ()), rfl, s_leaf ⟨rfl, z, rfl, h1, k1⟩⟩
theorem tx_str (h : Tx w x s 0 s.size) : (convert tBs 9 (slV x)).run Tryd.prog w = .ok (.string s) w := by
  have := h.toStr
  rwa [ByteArray.extract_zero_size] at this
end Go.Proofs.YtlfebfkphgelfaaDoor.Ka
