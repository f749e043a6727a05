/- jsonparser's Set and SetString where the keys lead to a value. No statement of the set is proved here. -/
import Derived.Test.YtcjphnppedmbdaaGreatDoorEe
import Derived.Test.YtcjphnppedmbdaaGreatDoorEf
namespace Go.Proofs.YtcjphnppedmbdaaGreatDoor.Ka
open Go Go.Proofs Go.RowKit Go.Proofs.YtcjphnppedmbdaaGreatDoor.Rx Go.Proofs.YtcjphnppedmbdaaGreatDoor.Tr Go.Proofs.YtcjphnppedmbdaaGreatDoor.Pl Go.Proofs.YtcjphnppedmbdaaGreatDoor.Pw Go.Proofs.YtcjphnppedmbdaaGreatDoor.Sk
open Go.Proofs.YtcjphnppedmbdaaGreatDoor.Ed (put put_size qe qe_size qe_le)

variable {w w' : World} {x y q : Sl} {s t : ByteArray} {keys : List ByteArray} {p0 p : PT}
/-- Set. -/
theorem set_any (hs : s.size ≤ 300000) (ht : t.size ≤ 300000) (hC : Je.Cv w) (hL : Je.Lt w) (hE : Je.Ev w Je.gE) (hT : Tx w x s 0 s.size) (hV : Tx w y t 0 t.size) (hKx : Kx w q keys) (h : Led s p0 keys p) (hk : keys ≠ []) :
    Calls Tryz.prog 43 #[slV x, slV y, slV q] w fun en w' => ∃ z : Sl, en = .returned (.tuple #[slV z, .nilIface]) ∧ Tx w' z (put s p.b p.e t) 0 (put s p.b p.e t).size ∧ Kp Off w w' := by
  refine jsonparser_Set.calls _ _ _ _ _ _ _ _ _ ?_
  unfold jsonparser_Set.t
  refine s_eff (w' := w) (false, false, (0 : Int), ()) (Je.loadAt_cells (cs := Je.cfg) (by kernel_rfl) (info_some (by kernel_rfl)) (by kernel_rfl) (fun j v hj => by rw [addr_add, Nat.zero_add]; exact hC j v hj)) ?_
  refine s_call (setOld_any hs ht hL hE hT hV hKx h hk) ?_
  rintro en w1 ⟨z, rfl, h1, k1⟩
  exact ⟨(z, Value.nilIface, ()), rfl, s_leaf ⟨rfl, z, rfl, h1, k1⟩⟩
/-- Escape, as a text. -/
theorem esc_tx {s : ByteArray} {w : World} (hs : s.size ≤ 100000) : Calls Tryz.prog 67 #[.string s] w fun e w' => ∃ x, e = .returned (slV x) ∧ Tx w' x (qe s) 0 (qe s).size ∧ Kp Off w w' := by
  refine (Ed.escape_any hs).mono fun e w' h => ?_
  obtain ⟨x, rfl, hB, k⟩ := h
  obtain ⟨g, cap, rfl, h1, h2, h3, h4, h5⟩ := hB.row
  have hz : (34 :: Ed.es s.data.toList ++ [34]).length = (qe s).size := by rw [qe_size]; simp
  refine ⟨_, rfl, ⟨hz, Nat.zero_le _, Nat.le_refl _, h3, g, 0, rfl, h2, fun j hj => ?_⟩, k⟩
  simp only [Nat.zero_add] at hj ⊢
  have hj' : j < (34 :: Ed.es s.data.toList ++ [34]).length := by omega
  rw [h4 j _ (List.getElem?_eq_getElem hj'), Bw.bt_bv]
  unfold Bw.gb
  have e : (qe s).data.toList = 34 :: Ed.es s.data.toList ++ [34] := rfl
  rw [List.getD_eq_getElem?_getD, e, List.getElem?_eq_getElem hj']; rfl
theorem setString_any (hs : s.size ≤ 300000) (ht : t.size ≤ 20000) (hC : Je.Cv w) (hL : Je.Lt w) (hE : Je.Ev w Je.gE) (hT : Tx w x s 0 s.size) (hKx : Kx w q keys) (h : Led s p0 keys p) (hk : keys ≠ []) :
    Calls Tryz.prog 49 #[slV x, .string t, slV q] w fun en w' => ∃ z : Sl, en = .returned (.tuple #[slV z, .nilIface]) ∧ Tx w' z (put s p.b p.e (qe t)) 0 (put s p.b p.e (qe t)).size ∧ Kp Off w w' := by
  refine jsonparser_SetString.calls _ _ _ _ _ _ _ ?_
  unfold jsonparser_SetString.t
  have hq := qe_le t
  refine s_call (esc_tx (by omega)) ?_
  rintro en w1 ⟨y, rfl, hV, k1⟩
  refine ⟨y, rfl, s_call (set_any hs (by omega) (hC.off k1) (hL.off' k1) (hE.kp k1 id) (hT.kp k1) hV (hKx.kp k1) h hk) ?_⟩
  rintro en w2 ⟨z, rfl, h2, k2⟩
  exact ⟨(z, Value.nilIface, ()), rfl, s_leaf ⟨rfl, z, rfl, h2, k1.trans k2⟩⟩
theorem tx_str (h : Tx w x s 0 s.size) : (convert tBs 9 (slV x)).run Tryz.prog w = .ok (.string s) w := by
  have := h.toStr
  rwa [ByteArray.extract_zero_size] at this
/-- The thin package's. -/
theorem jqSetString_any (hs : s.size ≤ 300000) (ht : t.size ≤ 20000) (hC : Je.Cv w) (hL : Je.Lt w) (hE : Je.Ev w Je.gE) (hKx : Kx w q keys) (h : Led s p0 keys p) (hk : keys ≠ []) :
    Calls Tryz.prog 25 #[.string s, .string t, slV q] w fun en w' => en = .returned (.tuple #[.string (put s p.b p.e (qe t)), .bool true]) ∧ Kp Off w w' := by
  refine impl_JqSetString.calls _ _ _ _ _ ?_
  unfold impl_JqSetString.t
  obtain ⟨x, w1, hcv, hT, k1, z1, hx⟩ := conv_any (w := w) s
  refine s_eff x hcv ?_
  refine s_call (setString_any hs ht (hC.off k1) (hL.off' k1) (hE.kp k1 id) hT (hKx.kp k1) h hk) ?_
  rintro en w2 ⟨z, rfl, h2, k2⟩
  refine ⟨(z, Value.nilIface, ()), rfl, s_chk rfl (sat_iteF.2 ?_)⟩
  exact s_eff (w' := w2) (put s p.b p.e (qe t)) (tx_str h2) (s_leaf ⟨rfl, rfl, k1.trans k2⟩)
end Go.Proofs.YtcjphnppedmbdaaGreatDoor.Ka
