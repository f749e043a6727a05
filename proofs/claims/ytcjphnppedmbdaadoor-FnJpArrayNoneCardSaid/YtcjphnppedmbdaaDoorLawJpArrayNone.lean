/- The law FnJpArrayNone: the law's walk. No condition beyond the statement's own guards. -/
import Derived.Test.YtcjphnppedmbdaaDoorMI
import Derived.Test.YtcjphnppedmbdaaDoorLv
namespace Go.Proofs.YtcjphnppedmbdaaDoor.LawJpArrayNone
open Go Go.Proofs Go.RowKit Go.Proofs.YtcjphnppedmbdaaDoor.Rx Go.Proofs.YtcjphnppedmbdaaDoor.Tr Go.Proofs.YtcjphnppedmbdaaDoor.Pl Go.Proofs.YtcjphnppedmbdaaDoor.Pw Go.Proofs.YtcjphnppedmbdaaDoor.Lj
open Go.Proofs.YtcjphnppedmbdaaDoor.Sr (tP pc storeP zp)
open Go.Proofs.YtcjphnppedmbdaaDoor.Ka (Kx)

theorem walk_q {s : ByteArray} {q : Ka.Sl} {keys : List ByteArray} {W : World} (hK : Kx W q keys) (hC : Je.Cv W) (hT : Je.Lt W) (hE : Je.Ev W Je.gE) (hA : Je.Ev W Ka.gA) :
    Calls Tryd.prog 3 #[.string s, Ka.slV q] W fun e w' => e = .returned (.bool true) ∧ RowKit.Below W.heap.size W w' := by
  refine laws_FnJpArrayNone.calls _ _ _ _ ?_
  unfold laws_FnJpArrayNone.t
  have done : ∀ (w1 : World), Kp Off W w1 → (Ending.returned (retVal [.bool true]) = .returned (.bool true) ∧ RowKit.Below W.heap.size W w1) := fun w1 h => ⟨rfl, h.belowOff⟩
  refine s_cut (fun z w' => (z.1 = true ∨ (z.1 = false ∧ keys.length ≤ 140737488351232 ∧ ∀ key ∈ keys, key.size ≤ 140737488351232)) ∧ W = w') (s_iteD (fun _ => s_leaf ?_) (fun _ => ?_)) ?_
  · rw [if_pos rfl]; exact ⟨(true, ()), rfl, .inl rfl, rfl⟩
  · refine s_call (fits1_any hK) ?_
    rintro e w1 ⟨⟨b, rfl, hb⟩, rfl⟩
    refine ⟨b, rfl, s_leaf ?_⟩
    rw [if_pos rfl]
    refine ⟨(!b, ()), rfl, ?_, rfl⟩
    cases b with
    | false => exact .inl rfl
    | true => exact .inr ⟨rfl, hb rfl⟩
  rintro ⟨bb, u⟩ w' ⟨hbb, rfl⟩
  show sat _ (laws_FnJpArrayNone.t1 s q.1 q.2.1 q.2.2 bb) _ _
  unfold laws_FnJpArrayNone.t1
  rcases hbb with hbb | ⟨hbb, hkl, hkz⟩
  · have hbb : bb = true := hbb
    subst hbb
    exact sat_iteT.2 (s_leaf ⟨rfl, done W (Kp.refl _ _)⟩)
  have hbb : bb = false := hbb
  subst hbb
  refine sat_iteF.2 ?_
  refine s_call (jpFound_any (s := s) hK hkz hkl) ?_
  rintro e w1 ⟨⟨k, b, e1, na, ka, x, rfl, hx⟩, k1⟩
  refine ⟨((k, b, e1, na, ka, ()), x, ()), rfl, s_alloc ?_⟩
  obtain ⟨w2, h2, c2, k2⟩ := storeP (Blk.new w1 zp tP) rfl k b e1 na ka
  refine s_effU h2 ?_
  have kc : Kp Off w1 w2 := (((Kp.refl (fun q => q = w1.heap.size) w1).alloc _).trans (k2.mono fun q _ h => h)).mono fun q hq h => by omega
  have k02 := k1.trans kc
  cases x with
  | false => exact sat_iteT.2 (s_leaf ⟨rfl, done w2 k02⟩)
  | true =>
    obtain ⟨hs, p0, p, hled, rfl, rfl, rfl, _⟩ := hx rfl
    refine sat_iteF.2 ?_
    refine s_call (Ka.jpArrayEach_any hs (hC.off k02) (hT.off' k02) (hE.kp k02 id) (hA.kp k02 id) (hK.kp k02) hled) ?_
    rintro e w3 ⟨⟨u, n, rfl, hu⟩, k3⟩
    refine ⟨(u, n, decide (p.k = 5), ()), rfl, s_load (p.k : Int) ((k3.blk c2 id).cell 0) ?_⟩
    have hd := done w3 (k02.trans k3)
    by_cases hk : p.k = 5
    · have e1 : decide (p.k = 5) = true := decide_eq_true hk
      have e2 : ((p.k : Int) == 5) = true := by rw [hk]; rfl
      show sat Tryd.prog (.ite (decide (p.k = 5) == ((p.k : Int) == 5)) (.ite (decide (p.k = 5)) (.leaf 0 [(Value.bool true)]) (.leaf 0 [(Value.bool (((u.2.1 : Nat) : Int) == 0))])) (.leaf 0 [(Value.bool false)])) _ w3
      rw [e1, e2]
      exact sat_iteT.2 (sat_iteT.2 (s_leaf ⟨rfl, hd⟩))
    · have e1 : decide (p.k = 5) = false := decide_eq_false hk
      have e2 : ((p.k : Int) == 5) = false := beq_eq_false_iff_ne.2 (by omega)
      show sat Tryd.prog (.ite (decide (p.k = 5) == ((p.k : Int) == 5)) (.ite (decide (p.k = 5)) (.leaf 0 [(Value.bool true)]) (.leaf 0 [(Value.bool (((u.2.1 : Nat) : Int) == 0))])) (.leaf 0 [(Value.bool false)])) _ w3
      rw [e1, e2, hu hk]
      exact sat_iteT.2 (sat_iteF.2 (s_leaf ⟨rfl, hd⟩))
open Go.ChangeShapes Go.WideShapes
set_option maxRecDepth 100000 in
theorem walk {H : Type} {enc : TypeId × Value → H} {base : Nat} {spare : Nat → Bool} {held : Bool} {r : Reach} {b0 : Nat} (s : ByteArray) (v : Value) (W : World) {d : DataW H} {p : List MemPlace} (_ : s.size ≤ 140737488351232)
    (hv : Value.okWide Tryd.prog W r b0 Lv.tKs v) (h : DataW.Trod enc Tryd.prog W base spare held Lv.tKs v d p) (hL : laidMetH Tryd.prog Rows.fnJpArrayNoneRow.laid W) :
    Calls Tryd.prog 3 #[.string s, v] W fun e w' => e = .returned (.bool true) ∧ RowKit.Below W.heap.size W w' := by
  have hM := Lv.laid_of_H hL (by kernel_rfl)
  obtain ⟨q, keys, rfl, hK⟩ := Lv.keys_open hv h
  exact walk_q hK (Lv.cv_of (Lv.laidMet_drop 5 _ hM)) (Lv.lt_of (Lv.laidMet_drop 6 _ hM)) (Lv.evE (Lv.laidMet_drop 13 _ hM)) (Lv.evA (Lv.laidMet_drop 11 _ hM))
end Go.Proofs.YtcjphnppedmbdaaDoor.LawJpArrayNone
