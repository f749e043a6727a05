/- The law FnJpGetString: the law's walk. No condition beyond the statement's own guards. -/
import Derived.Test.YtcjphnppedmbdaaDoorLe
import Derived.Test.YtcjphnppedmbdaaDoorLv
namespace Go.Proofs.YtcjphnppedmbdaaDoor.LawJpGetString
open Go Go.Proofs Go.RowKit Go.Proofs.YtcjphnppedmbdaaDoor.Rx Go.Proofs.YtcjphnppedmbdaaDoor.Tr Go.Proofs.YtcjphnppedmbdaaDoor.Pl Go.Proofs.YtcjphnppedmbdaaDoor.Pw Go.Proofs.YtcjphnppedmbdaaDoor.Lj
open Go.Proofs.YtcjphnppedmbdaaDoor.Sr (tP pc storeP zp)
open Go.Proofs.YtcjphnppedmbdaaDoor.Ka (Kx nmS)

theorem walk_q {s : ByteArray} {q : Ka.Sl} {keys : List ByteArray} {W : World} (hK : Kx W q keys) (hC : Je.Cv W) (hT : Je.Lt W) (hE : Je.Ev W Je.gE) (hV : Je.Ev W Je.gV) (hNu : Je.Ev W Lv.gN) :
    Calls Tryd.prog 4 #[.string s, Ka.slV q] W fun e w' => e = .returned (.bool true) ∧ RowKit.Below W.heap.size W w' := by
  refine laws_FnJpGetString.calls _ _ _ _ ?_
  unfold laws_FnJpGetString.t
  have done : ∀ (w1 : World), Kp Off W w1 → (Ending.returned (retVal [.bool true]) = .returned (.bool true) ∧ RowKit.Below W.heap.size W w1) := fun w1 h => ⟨rfl, h.belowOff⟩
  refine s_cut (fun z w' => (z.1 = true ∨ (z.1 = false ∧ keys.length ≤ 140737488351232 ∧ ∀ key ∈ keys, key.size ≤ 140737488351232)) ∧ W = w') (s_iteD (fun _ => s_leaf ?_) (fun _ => ?_)) ?_
  · rw [if_pos rfl]; exact ⟨(true, ()), rfl, .inl rfl, rfl⟩
  · refine s_call (fits1_any hK) ?_
    rintro e w1 ⟨⟨b, rfl, hb⟩, rfl⟩
    refine ⟨b, rfl, s_leaf ?_⟩
    rw [if_pos rfl]
    refine ⟨(!b, ()), rfl, ?_, rfl⟩
    cases b with
    | false => exact .inl rfl
    | true => exact .inr ⟨rfl, hb rfl⟩
  rintro ⟨bb, u⟩ w' ⟨hbb, rfl⟩
  show sat _ (laws_FnJpGetString.t1 s q.1 q.2.1 q.2.2 bb) _ _
  unfold laws_FnJpGetString.t1
  rcases hbb with hbb | ⟨hbb, hkl, hkz⟩
  · have hbb : bb = true := hbb
    subst hbb
    exact sat_iteT.2 (s_leaf ⟨rfl, done W (Kp.refl _ _)⟩)
  have hbb : bb = false := hbb
  subst hbb
  refine sat_iteF.2 ?_
  refine s_call (jpFound_any (s := s) hK hkz hkl) ?_
  rintro e w1 ⟨⟨k, b, e1, na, ka, x, rfl, hx⟩, k1⟩
  refine ⟨((k, b, e1, na, ka, ()), x, ()), rfl, s_alloc ?_⟩
  obtain ⟨w2, h2, c2, k2⟩ := storeP (Blk.new w1 zp tP) rfl k b e1 na ka
  refine s_effU h2 ?_
  have kc : Kp Off w1 w2 := (((Kp.refl (fun q => q = w1.heap.size) w1).alloc _).trans (k2.mono fun q _ h => h)).mono fun q hq h => by omega
  have k02 := k1.trans kc
  cases x with
  | false => exact sat_iteT.2 (s_leaf ⟨rfl, done w2 k02⟩)
  | true =>
    obtain ⟨hs, p0, p, hled, rfl, rfl, rfl, _⟩ := hx rfl
    refine sat_iteF.2 ?_
    refine s_call (Ka.jpGetString_any (gN := Lv.gN) rfl hs (hC.off k02) (hT.off' k02) (hE.kp k02 id) (hV.kp k02 id) (hNu.kp k02 id) (hK.kp k02) hled) ?_
    rintro e w3 ⟨⟨t, rfl, ht⟩, k3⟩
    have c3 := k3.blk c2 id
    refine ⟨(t, decide (p.k = 4), ()), rfl, s_load (p.k : Int) (c3.cell 0) ?_⟩
    have K3 := k02.trans k3
    by_cases hk : p.k = 4
    · have e1 : decide (p.k = 4) = true := decide_eq_true hk
      refine s_iteN (fun g => absurd (by rw [hk]; rfl) g) (fun _ => ?_)
      show sat Tryd.prog (.ite (decide (p.k = 4)) _ _) _ w3
      rw [e1]
      refine sat_iteT.2 ?_
      have hwp := hled.wfp
      have hpl := hwp.lt
      refine s_load (p.b : Int) (by rw [addr_add, Nat.zero_add, c3.cell]; rfl) (s_load (p.e : Int) (by rw [addr_add, Nat.zero_add, c3.cell]; rfl) (s_chk ⟨by omega, by omega, by omega⟩ ?_))
      rw [Int.toNat_natCast, Int.toNat_natCast]
      refine s_call (name_any (n := (p.b, p.e)) hs (Ka.wf_str hwp hk)) ?_
      rintro e w4 ⟨rfl, k4⟩
      refine ⟨nmS s (p.b, p.e), rfl, s_leaf ⟨rfl, ?_⟩⟩
      have et := ht hk
      subst et
      show Ending.returned (retVal [.bool (strEq (nmS s (p.b, p.e)) (nmS s (p.b, p.e)))]) = _ ∧ _
      rw [strEq_iff.2 rfl]
      exact done w4 (K3.trans k4)
    · have e1 : decide (p.k = 4) = false := decide_eq_false hk
      refine s_iteN (fun _ => s_leaf ⟨rfl, ?_⟩) (fun g => absurd (by omega) hk)
      show Ending.returned (retVal [.bool (!(decide (p.k = 4)))]) = _ ∧ _
      rw [e1]
      exact done w3 K3
open Go.ChangeShapes Go.WideShapes
set_option maxRecDepth 100000 in
theorem walk {H : Type} {enc : TypeId × Value → H} {base : Nat} {spare : Nat → Bool} {held : Bool} {r : Reach} {b0 : Nat} (s : ByteArray) (v : Value) (W : World) {d : DataW H} {p : List MemPlace} (_ : s.size ≤ 140737488351232)
    (hv : Value.okWide Tryd.prog W r b0 Lv.tKs v) (h : DataW.Trod enc Tryd.prog W base spare held Lv.tKs v d p) (hL : laidMetH Tryd.prog Rows.fnJpGetStringRow.laid W) :
    Calls Tryd.prog 4 #[.string s, v] W fun e w' => e = .returned (.bool true) ∧ RowKit.Below W.heap.size W w' := by
  have hM := Lv.laid_of_H hL (by kernel_rfl)
  obtain ⟨q, keys, rfl, hK⟩ := Lv.keys_open hv h
  exact walk_q hK (Lv.cv_of (Lv.laidMet_drop 5 _ hM)) (Lv.lt_of (Lv.laidMet_drop 6 _ hM)) (Lv.evE (Lv.laidMet_drop 14 _ hM)) (Lv.evV (Lv.laidMet_drop 13 _ hM)) (Lv.evN (Lv.laidMet_drop 15 _ hM))
end Go.Proofs.YtcjphnppedmbdaaDoor.LawJpGetString
