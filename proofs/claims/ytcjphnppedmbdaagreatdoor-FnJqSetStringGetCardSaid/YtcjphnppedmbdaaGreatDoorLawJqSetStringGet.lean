/- The law FnJqSetStringGet: the law's walk. No condition beyond the statement's own guards. -/
import Derived.Test.YtcjphnppedmbdaaGreatDoorEg
import Derived.Test.YtcjphnppedmbdaaGreatDoorLq
import Derived.Test.YtcjphnppedmbdaaGreatDoorLv
namespace Go.Proofs.YtcjphnppedmbdaaGreatDoor.LawJqSetStringGet
open Go Go.Proofs Go.RowKit Go.Proofs.YtcjphnppedmbdaaGreatDoor.Rx Go.Proofs.YtcjphnppedmbdaaGreatDoor.Tr Go.Proofs.YtcjphnppedmbdaaGreatDoor.Pl Go.Proofs.YtcjphnppedmbdaaGreatDoor.Pw Go.Proofs.YtcjphnppedmbdaaGreatDoor.Lj
open Go.Proofs.YtcjphnppedmbdaaGreatDoor.Sr (tP pc storeP loadP zp PlAt)
open Go.Proofs.YtcjphnppedmbdaaGreatDoor.Ka (Kx nmS)
open Go.Proofs.YtcjphnppedmbdaaGreatDoor.Ed (put put_size qe qe_size qe_le)

theorem walk_q {s t : ByteArray} {q : Ka.Sl} {keys : List ByteArray} {W : World} (hK : Kx W q keys) (hC : Je.Cv W) (hT : Je.Lt W) (hE : Je.Ev W Je.gE) (hV : Je.Ev W Je.gV) (hNu : Je.Ev W Lv.gN) :
    Calls Tryz.prog 6 #[.string s, .string t, Ka.slV q] W fun e w' => e = .returned (.bool true) ∧ RowKit.Below W.heap.size W w' := by
  refine laws_FnJqSetStringGet.calls _ _ _ _ _ ?_
  unfold laws_FnJqSetStringGet.t
  have hl := hK.len
  have done : ∀ (w1 : World), Kp Off W w1 → (Ending.returned (retVal [.bool true]) = .returned (.bool true) ∧ RowKit.Below W.heap.size W w1) := fun w1 h => ⟨rfl, h.belowOff⟩
  refine s_cut (fun z w' => (z.1 = true ∨ (z.1 = false ∧ keys.length ≤ 2147483647 ∧ ∀ key ∈ keys, key.size ≤ 140737488351232)) ∧ W = w') (s_iteD (fun _ => s_leaf ?_) (fun _ => s_iteD (fun _ => s_leaf ?_) (fun _ => ?_))) ?_
  · rw [if_pos rfl]; exact ⟨(true, ()), rfl, .inl rfl, rfl⟩
  · rw [if_pos rfl]; exact ⟨(true, ()), rfl, .inl rfl, rfl⟩
  · refine s_call (fits1_any hK) ?_
    rintro e w1 ⟨⟨b, rfl, hb⟩, rfl⟩
    refine ⟨b, rfl, s_leaf ?_⟩
    rw [if_pos rfl]
    refine ⟨(!b, ()), rfl, ?_, rfl⟩
    cases b with
    | false => exact .inl rfl
    | true => exact .inr ⟨rfl, hb rfl⟩
  rintro ⟨bb, u⟩ w' ⟨hbb, rfl⟩
  show sat _ (laws_FnJqSetStringGet.t1 s t q.1 q.2.1 q.2.2 bb) _ _
  unfold laws_FnJqSetStringGet.t1
  rcases hbb with hbb | ⟨hbb, hkl, hkz⟩
  · have hbb : bb = true := hbb
    subst hbb
    exact sat_iteT.2 (s_leaf ⟨rfl, done W (Kp.refl _ _)⟩)
  have hbb : bb = false := hbb
  subst hbb
  refine sat_iteF.2 ?_
  refine s_call (jqFound_any (s := s) hK hkz (by omega)) ?_
  rintro e w1 ⟨⟨k, b, e1, na, ka, x, rfl, hx⟩, k1⟩
  refine ⟨((k, b, e1, na, ka, ()), x, ()), rfl, s_alloc ?_⟩
  obtain ⟨w2, h2, c2, k2⟩ := storeP (Blk.new w1 zp tP) rfl k b e1 na ka
  refine s_effU h2 ?_
  have kc : Kp Off w1 w2 := (((Kp.refl (fun q => q = w1.heap.size) w1).alloc _).trans (k2.mono fun q _ h => h)).mono fun q hq h => by omega
  have k02 := k1.trans kc
  refine s_cut (fun z w' => (z.1 = true ∨ (z.1 = false ∧ x = true ∧ keys ≠ [] ∧ t.size ≤ 16384)) ∧ w2 = w') ?_ ?_
  · cases x with
    | false => exact sat_iteT.2 (s_leaf (by rw [if_pos rfl]; exact ⟨(true, ()), rfl, .inl rfl, rfl⟩))
    | true =>
      refine sat_iteF.2 (s_iteE (fun g => s_leaf ?_) (fun g => s_leaf ?_))
      · rw [if_pos rfl]; exact ⟨(true, ()), rfl, .inl rfl, rfl⟩
      · rw [if_pos rfl]
        refine ⟨(decide ((((ByteArray.size t) : Nat) : Int) > (16384 : Int)), ()), rfl, ?_, rfl⟩
        by_cases g2 : (((ByteArray.size t) : Nat) : Int) > (16384 : Int)
        · exact .inl (decide_eq_true g2)
        · exact .inr ⟨decide_eq_false g2, rfl, fun e => g (by rw [hl, e]; rfl), by omega⟩
  rintro ⟨bb, u⟩ w' ⟨hbb, rfl⟩
  show sat _ (laws_FnJqSetStringGet.t2 s t q.1 q.2.1 q.2.2 bb) _ _
  unfold laws_FnJqSetStringGet.t2
  rcases hbb with hbb | ⟨hbb, rfl, hk, ht⟩
  · have hbb : bb = true := hbb
    subst hbb
    exact sat_iteT.2 (s_leaf ⟨rfl, done w2 k02⟩)
  have hbb : bb = false := hbb
  subst hbb
  obtain ⟨hs, p0, p, hled, _, rfl, rfl, rfl, _⟩ := hx rfl
  have hpl := hled.wfp.lt
  have hq := qe_le t
  have hq2 := qe_size t
  have hsw := Ed.sw_put hled (Ed.qe_wf t) rfl rfl
  obtain ⟨p0', hled'⟩ := Ed.led_sw hled hsw
  have hz := put_size (t := qe t) (Nat.le_of_lt hpl.1) hpl.2
  refine sat_iteF.2 ?_
  refine s_call (Ka.jqSetString_any (by omega) (by omega) (hC.off k02) (hT.off' k02) (hE.kp k02 id) (hK.kp k02) hled hk) ?_
  rintro e w3 ⟨rfl, k3⟩
  have K3 := k02.trans k3
  refine ⟨(put s p.b p.e (qe t), true, ()), rfl, ?_⟩
  refine s_call (Ka.jpGetString_any (s := put s p.b p.e (qe t)) (gN := Lv.gN) rfl (by omega) (hC.off K3) (hT.off' K3) (hE.kp K3 id) (hV.kp K3 id) (hNu.kp K3 id) (hK.kp K3) hled') ?_
  rintro e w4 ⟨⟨r, rfl, hr⟩, k4⟩
  have hk4 : (Ed.mvP 0 p.b (.mk 4 0 (qe t).size [] [])).k = 4 := Ed.mvP_k _ _ _
  have hr := hr hk4
  rw [Ed.mvP_b, Ed.mvP_e] at hr
  have e1 : Ed.sh 0 p.b (PT.mk 4 0 (qe t).size [] []).b = p.b := by show 0 + p.b - 0 = p.b; omega
  have e2 : Ed.sh 0 p.b (PT.mk 4 0 (qe t).size [] []).e = p.b + (qe t).size := by show (qe t).size + p.b - 0 = _; omega
  rw [e1, e2, Ed.nm_put (Nat.le_of_lt hpl.1) hpl.2 (by omega), Ed.qe_nm] at hr
  subst hr
  refine ⟨(r, decide ((Ed.mvP 0 p.b (.mk 4 0 (qe r).size [] [])).k = 4), ()), rfl, sat_iteT.2 ?_⟩
  show sat Tryz.prog (.ite (decide ((Ed.mvP 0 p.b (.mk 4 0 (qe r).size [] [])).k = 4)) _ _) _ w4
  rw [decide_eq_true hk4]
  refine sat_iteT.2 (s_leaf ⟨rfl, ?_⟩)
  show Ending.returned (retVal [.bool (strEq r r)]) = _ ∧ _
  rw [strEq_iff.2 rfl]
  exact done w4 (K3.trans k4)
open Go.ChangeShapes Go.WideShapes
set_option maxRecDepth 100000 in
theorem walk {H : Type} {enc : TypeId × Value → H} {base : Nat} {spare : Nat → Bool} {held : Bool} {r : Reach} {b0 : Nat} (s t : ByteArray) (v : Value) (W : World) {d : DataW H} {p : List MemPlace} (_ : s.size ≤ 140737488351232) (_ : t.size ≤ 140737488351232)
    (hv : Value.okWide Tryz.prog W r b0 Lv.tKs v) (h : DataW.Trod enc Tryz.prog W base spare held Lv.tKs v d p) (hL : laidMetH Tryz.prog Rows.fnJqSetStringGetRow.laid W) :
    Calls Tryz.prog 6 #[.string s, .string t, v] W fun e w' => e = .returned (.bool true) ∧ RowKit.Below W.heap.size W w' := by
  have hM := Lv.laid_of_H hL (by kernel_rfl)
  obtain ⟨q, keys, rfl, hK⟩ := Lv.keys_open hv h
  exact walk_q hK (Lv.cv_of (Lv.laidMet_drop 5 _ hM)) (Lv.lt_of (Lv.laidMet_drop 6 _ hM)) (Lv.evE (Lv.laidMet_drop 14 _ hM)) (Lv.evV (Lv.laidMet_drop 13 _ hM)) (Lv.evN (Lv.laidMet_drop 15 _ hM))
end Go.Proofs.YtcjphnppedmbdaaGreatDoor.LawJqSetStringGet
