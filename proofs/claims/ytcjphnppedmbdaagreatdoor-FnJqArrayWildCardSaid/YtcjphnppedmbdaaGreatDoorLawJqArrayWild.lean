/- The law FnJqArrayWild: the law's walk. No condition beyond the statement's own guards. -/
import Derived.Test.YtcjphnppedmbdaaGreatDoorLz
import Derived.Test.YtcjphnppedmbdaaGreatDoorLq
import Derived.Test.YtcjphnppedmbdaaGreatDoorLv
namespace Go.Proofs.YtcjphnppedmbdaaGreatDoor.LawJqArrayWild
open Go Go.Proofs Go.RowKit Go.Proofs.YtcjphnppedmbdaaGreatDoor.Rx Go.Proofs.YtcjphnppedmbdaaGreatDoor.Tr Go.Proofs.YtcjphnppedmbdaaGreatDoor.Pl Go.Proofs.YtcjphnppedmbdaaGreatDoor.Pw Go.Proofs.YtcjphnppedmbdaaGreatDoor.Lj
open Go.Proofs.YtcjphnppedmbdaaGreatDoor.Sr (tP pc storeP loadP zp PlAt)
open Go.Proofs.YtcjphnppedmbdaaGreatDoor.Ka (Kx star tAt atC told told_get)

theorem walk_q {s : ByteArray} {q : Ka.Sl} {keys : List ByteArray} {st : Bool} {W : World} (hK : Kx W q keys) (hC : Je.Cv W) (hT : Je.Lt W) (hE : Je.Ev W Je.gE) :
    Calls Tryz.prog 5 #[.string s, Ka.slV q, .bool st] W fun e w' => e = .returned (.bool true) ∧ RowKit.Below W.heap.size W w' := by
  refine laws_FnJqArrayWild.calls _ _ _ _ _ ?_
  unfold laws_FnJqArrayWild.t
  have done : ∀ (w1 : World), Kp Off W w1 → (Ending.returned (retVal [.bool true]) = .returned (.bool true) ∧ RowKit.Below W.heap.size W w1) := fun w1 h => ⟨rfl, h.belowOff⟩
  refine s_cut (fun z w' => (z.1 = true ∨ (z.1 = false ∧ keys.length ≤ 2147483647 ∧ ∀ key ∈ keys, key.size ≤ 140737488351232)) ∧ W = w') (s_iteD (fun _ => s_leaf ?_) (fun _ => ?_)) ?_
  · rw [if_pos rfl]; exact ⟨(true, ()), rfl, .inl rfl, rfl⟩
  · refine s_call (fits1_any hK) ?_
    rintro e w1 ⟨⟨b, rfl, hb⟩, rfl⟩
    refine ⟨b, rfl, s_leaf ?_⟩
    rw [if_pos rfl]
    refine ⟨(!b, ()), rfl, ?_, rfl⟩
    cases b with
    | false => exact .inl rfl
    | true => exact .inr ⟨rfl, hb rfl⟩
  rintro ⟨bb, u⟩ w' ⟨hbb, rfl⟩
  show sat _ (laws_FnJqArrayWild.t1 s q.1 q.2.1 q.2.2 st bb) _ _
  unfold laws_FnJqArrayWild.t1
  rcases hbb with hbb | ⟨hbb, hkl, hkz⟩
  · have hbb : bb = true := hbb
    subst hbb
    exact sat_iteT.2 (s_leaf ⟨rfl, done W (Kp.refl _ _)⟩)
  have hbb : bb = false := hbb
  subst hbb
  refine sat_iteF.2 ?_
  refine s_call (jqFound_any (s := s) hK hkz (by omega)) ?_
  rintro e w1 ⟨⟨k, b, e1, na, ka, x, rfl, hx⟩, k1⟩
  refine ⟨((k, b, e1, na, ka, ()), x, ()), rfl, s_alloc ?_⟩
  obtain ⟨w2, h2, c2, k2⟩ := storeP (Blk.new w1 zp tP) rfl k b e1 na ka
  refine s_effU h2 ?_
  have kc : Kp Off w1 w2 := (((Kp.refl (fun q => q = w1.heap.size) w1).alloc _).trans (k2.mono fun q _ h => h)).mono fun q hq h => by omega
  have k02 := k1.trans kc
  refine s_cut (fun z w' => (z.1 = true ∨ (z.1 = false ∧ x = true ∧ k = 5)) ∧ w2 = w') ?_ ?_
  · cases x with
    | false => exact sat_iteT.2 (s_leaf (by rw [if_pos rfl]; exact ⟨(true, ()), rfl, .inl rfl, rfl⟩))
    | true =>
      refine sat_iteF.2 (s_load k (c2.cell 0) (s_leaf ?_))
      rw [if_pos rfl]
      refine ⟨(k != 5, ()), rfl, ?_, rfl⟩
      by_cases h5 : k = 5
      · right
        refine ⟨?_, rfl, h5⟩
        show (k != 5) = false
        rw [h5]; rfl
      · exact .inl (bne_iff_ne.2 h5)
  rintro ⟨bb, u⟩ w' ⟨hbb, rfl⟩
  show sat _ (laws_FnJqArrayWild.t2 s q.1 q.2.1 q.2.2 st ⟨w1.heap.size, 0, none⟩ bb) _ _
  unfold laws_FnJqArrayWild.t2
  rcases hbb with hbb | ⟨hbb, rfl, h5⟩
  · have hbb : bb = true := hbb
    subst hbb
    exact sat_iteT.2 (s_leaf ⟨rfl, done w2 k02⟩)
  have hbb : bb = false := hbb
  subst hbb
  obtain ⟨hs, p0, p, hled, hcl, rfl, rfl, rfl, hp⟩ := hx rfl
  have hp5 : p.k = 5 := by omega
  have hwp := hled.wfp
  have hlen := wf_len hwp
  have hp2 := PlAt.any hp kc
  -- the last key is no star
  have hlast : ∀ key, keys.getLast? = some key → key ≠ star := by
    intro key hg he
    subst he
    have hpos : keys ≠ [] := fun e => by rw [e] at hg; cases hg
    have hlp := List.length_pos_iff.2 hpos
    rw [List.getLast?_eq_getElem?] at hg
    have hL := hled.lead
    have e1 : keys = keys.take (keys.length - 1) ++ [star] := by
      have := List.take_append_drop (keys.length - 1) keys
      rw [List.drop_eq_getElem_cons (by omega), List.drop_eq_nil_of_le (by omega)] at this
      rw [List.getElem?_eq_getElem (by omega)] at hg
      rw [← Option.some.inj hg]
      exact this.symm
    have hL2 := hL
    rw [e1] at hL2
    obtain ⟨y, y1, y2⟩ := Ka.Lead.split hL2
    by_cases hy : y.k = 5
    · cases y2 with
      | mem => exact absurd hy (by show ¬ (6 : Nat) = 5; decide)
      | elt a1 _ _ =>
        have h0 : Ka.ixS star = none := by decide +kernel
        rw [h0] at a1; cases a1
    · exact hcl (keys.length - 1) (by omega) y star y1 hg hy (by decide +kernel)
  refine sat_iteF.2 (s_cut (fun z w' => Kp Off w2 w' ∧ ∃ keys', Kx w' z.1 keys' ∧ ((keys' = keys ∧ ∀ key, keys.getLast? = some key → key ≠ star) ∨ keys' = keys ++ [star]) ∧ keys'.length ≤ 100000000000000) ?_ ?_)
  · cases st with
    | false =>
      refine sat_iteF.2 (s_leaf ?_)
      rw [if_pos rfl]
      exact ⟨(q, ()), rfl, Kp.refl _ _, keys, hK.kp k02, .inl ⟨rfl, hlast⟩, by omega⟩
    | true =>
      obtain ⟨v1, v2, v3, v4, v, v', g1, g2, g3, g4, g5, g6⟩ := Ka.more_run (hK.kp k02) hkl star
      refine sat_iteT.2 (s_eff (some ⟨w2.heap.size, 0, none⟩, 0, 0) g1 (s_eff v g2 (s_eff (some ⟨v2.heap.size, 0, none⟩, 1, 1) g3 (s_eff v' g4 (s_leaf ?_)))))
      rw [if_pos rfl]
      exact ⟨(v', ()), rfl, g6, keys ++ [star], g5, .inr rfl, by rw [List.length_append, List.length_singleton]; omega⟩
  rintro ⟨q', u⟩ w3 ⟨k3, keys', hK', hkk, hkl'⟩
  show sat _ (laws_FnJqArrayWild.t3 s ⟨w1.heap.size, 0, none⟩ q') _ _
  unfold laws_FnJqArrayWild.t3
  have k03 := k02.trans k3
  refine s_call (Ka.jqWild_any (by omega) (hC.off k03) (hT.off' k03) (hE.kp k03 id) hK' hled hp5 hkk hkl') ?_
  rintro e w4 ⟨⟨v, rfl, hown, hv⟩, k4⟩
  refine ⟨(v, (p.ks.length : Int), true, ()), rfl, ?_⟩
  have k04 := k03.trans k4
  have c4 := k4.blk (k3.blk c2 id) id
  have hp4 : PlAt Any w4 p (pc p.k p.b p.e na ka) := PlAt.any hp2 (k3.trans k4)
  obtain ⟨xs, hrow, hall⟩ := (PlAt.inv hp4).2
  have hka := hrow.1
  refine s_cut (fun z w' => z = (false, ()) ∧ w4 = w') (sat_iteF.2 (s_load ka (by rw [addr_add, Nat.zero_add, c4.cell]; rfl) (s_iteN (fun g => absurd (by rw [hka]) g) (fun _ => s_leaf ?_)))) ?_
  · rw [if_pos rfl]
    refine ⟨(false, ()), ?_, rfl, rfl⟩
    show [Value.bool (((v.2.1 : Nat) : Int) != (p.ks.length : Int))] = [Value.bool false]
    rw [hv]; simp
  rintro z w' ⟨rfl, rfl⟩
  show sat _ (laws_FnJqArrayWild.t4 s ⟨w1.heap.size, 0, none⟩ (v, (p.ks.length : Int), true, ()) false) _ _
  unfold laws_FnJqArrayWild.t4
  refine sat_iteF.2 (s_loop (fun m z w' => ∃ i : Nat, m = p.ks.length - i ∧ z = ((i : Int), ()) ∧ i ≤ p.ks.length ∧ Kp Off w4 w') p.ks.length ((0 : Int), ()) rfl ⟨0, rfl, rfl, Nat.zero_le _, Kp.refl _ _⟩ ?_)
  rintro m z w5 ⟨i, rfl, rfl, hi, k5⟩
  show sat _ (laws_FnJqArrayWild.t5 s ⟨w1.heap.size, 0, none⟩ (v, (p.ks.length : Int), true, ()) (i : Int)) _ _
  unfold laws_FnJqArrayWild.t5
  have c5 := k5.blk c4 id
  refine s_iteD (fun hlt => ?_) (fun hge => s_leaf ?_)
  rotate_left
  · rw [if_neg (by decide)]; exact ⟨rfl, done w5 (k04.trans k5)⟩
  have hlt : (i : Int) < ((v.2.1 : Nat) : Int) := hlt
  have hin : i < p.ks.length := by omega
  have hkj : p.ks[i]? = some p.ks[i] := List.getElem?_eq_getElem hin
  generalize p.ks[i] = c at hkj
  have hwc : WfV s c := by
    obtain ⟨pk, pb, pf, pns, pks⟩ := p
    have h5 : pk = 5 := hp5
    subst h5
    exact (Gk.elt_at _ _ _ _ _ _ (Gk.wf_arr hwp).2.2.2 hkj).1
  obtain ⟨x1, x2, x3⟩ := RowIn.any hrow k5
  rcases x3 with x3 | ⟨gr, a1, _, _, a4⟩
  · omega
  obtain ⟨na', ka', _, hcs⟩ := all_get _ _ _ _ hall hkj
  refine s_load ka (by rw [addr_add, Nat.zero_add, c5.cell]; rfl) (s_chk ⟨by omega, by omega⟩ ⟨_, a1, ?_⟩)
  have hrun := place_run (w := w5) (bk := gr) (o := i * 5) (k := c.k) (b := c.b) (e := c.e) (na := na') (ka := ka') (fun jj hjj => by
    have h1 := hcs jj hjj
    have hl5 : jj < (pc (c.k : Int) c.b c.e na' ka').length := hjj
    rw [List.getElem?_eq_getElem hl5] at h1 ⊢
    exact a4 _ _ h1)
  dsimp only
  rw [addr_add, Int.toNat_natCast, Nat.zero_add]
  refine s_eff ((c.k : Int), (c.b : Int), (c.e : Int), na', ka', ()) hrun (s_alloc ?_)
  obtain ⟨w6, h6, c6, k6⟩ := storeP (Blk.new w5 zp tP) rfl c.k c.b c.e na' ka'
  refine s_effU h6 (s_drew ?_)
  have kc6 : Kp Off w5 w6 := (((Kp.refl (fun q => q = w5.heap.size) w5).alloc _).trans (k6.mono fun q _ h => h)).mono fun q hq h => by omega
  have kd : Kp Off w5 w6.drew := kc6.drew
  have c7 := (Kp.refl Off w6).drew.blk c6 id
  generalize w6.drew = w7 at kd c7
  -- what was called back with
  have hown7 := owns_kp hown (k5.trans kd) (fun _ _ => id)
  obtain ⟨o1, ⟨o2, o3⟩ | ⟨g, cap, cur, o2, _, o4, o5, _, o6, o7⟩⟩ := hown7
  · omega
  have o2 : Value.slice v.1 v.2.1 v.2.2 = .slice (some ⟨g, 0, none⟩) p.ks.length cap := o2
  simp only [Value.slice.injEq] at o2
  have hcell : ∀ j, j < 3 → w7.cell? ⟨g, i * 3 + j, none⟩ = (atC s i c)[j]? := fun j hj => by
    have h1 := told_get s p.ks 0 i c hkj j hj
    rw [Nat.zero_add] at h1
    rw [← h1, ← o7, List.getElem?_take_of_lt (by omega)]
    simp only [World.cell?, o4]
    simp
  refine s_chk ⟨by omega, by show (i : Int) < ((v.2.1 : Nat) : Int); omega⟩ ⟨_, o2.1, ?_⟩
  dsimp only
  rw [addr_add, Nat.zero_add]
  have hgl : g < w7.heap.size := by
    have := hcell 0 (by decide)
    exact Ms.cell_lt (a := ⟨g, i * 3 + 0, none⟩) this
  refine ⟨((i : Int), s.extract (Ka.rb c) (Ka.re c), Ka.jk c.k, ()), fun w'' hw'' => ?_, ?_⟩
  · refine Ka.at_run fun j hj => ?_
    rw [(Kp.of_below (S := Off) hw'').cell (a := ⟨g, i * 3 + j, none⟩) hgl id]
    exact hcell j hj
  refine ⟨((c.k : Int), (c.b : Int), (c.e : Int), na', ka', ()), fun w'' hw'' => loadP ((Kp.of_below (S := Off) hw'').blk c7 id), ?_⟩
  refine s_load (c.k : Int) (c7.cell 0) (s_here ?_)
  refine s_call (raw_any (by omega) hwc) ?_
  rintro e w8 ⟨rfl, k8⟩
  refine ⟨s.extract (Ka.rb c) (Ka.re c), rfl, ⟨k8.belowOff, s_here ?_⟩⟩
  refine s_call (jpKind_any (wf_kind hwc)) ?_
  rintro e w9 ⟨rfl, rfl⟩
  refine ⟨Ka.jk c.k, rfl, ⟨RowKit.Below.refl _ _, ?_⟩⟩
  refine s_eff false (Ka.at_neq (i : Int) (s.extract (Ka.rb c) (Ka.re c)) (Ka.jk c.k) _ _) (sat_iteF.2 (s_leaf ?_))
  rw [if_pos rfl]
  have w1' : IntKind.wrap IntKind.i64 ((i : Int) + 1) = ((i + 1 : Nat) : Int) := by rw [wrap_in (by omega) (by omega)]; omega
  rw [w1']
  exact ⟨p.ks.length - (i + 1), (((i + 1 : Nat) : Int), ()), rfl, by omega, i + 1, rfl, rfl, hin, (k5.trans kd).trans k8⟩
open Go.ChangeShapes Go.WideShapes
set_option maxRecDepth 100000 in
theorem walk {H : Type} {enc : TypeId × Value → H} {base : Nat} {spare : Nat → Bool} {held : Bool} {r : Reach} {b0 : Nat} (s : ByteArray) (v : Value) (st : Bool) (W : World) {d : DataW H} {p : List MemPlace} (_ : s.size ≤ 140737488351232)
    (hv : Value.okWide Tryz.prog W r b0 Lv.tKs v) (h : DataW.Trod enc Tryz.prog W base spare held Lv.tKs v d p) (hL : laidMetH Tryz.prog Rows.fnJqArrayWildRow.laid W) :
    Calls Tryz.prog 5 #[.string s, v, .bool st] W fun e w' => e = .returned (.bool true) ∧ RowKit.Below W.heap.size W w' := by
  have hM := Lv.laid_of_H hL (by kernel_rfl)
  obtain ⟨q, keys, rfl, hK⟩ := Lv.keys_open hv h
  exact walk_q hK (Lv.cv_of (Lv.laidMet_drop 6 _ hM)) (Lv.lt_of (Lv.laidMet_drop 7 _ hM)) (Lv.evE (Lv.laidMet_drop 14 _ hM))
end Go.Proofs.YtcjphnppedmbdaaGreatDoor.LawJqArrayWild
