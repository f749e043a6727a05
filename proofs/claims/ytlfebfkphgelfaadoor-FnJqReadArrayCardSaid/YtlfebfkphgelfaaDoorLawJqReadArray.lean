/- The law FnJqReadArray: the law's walk, no condition beyond the statement's own guards. -/
import Derived.Test.YtlfebfkphgelfaaDoorYm
namespace Go.Proofs.YtlfebfkphgelfaaDoor.LawJqReadArray
open Go Go.Proofs Go.RowKit Go.Proofs.YtlfebfkphgelfaaDoor.Rx Go.Proofs.YtlfebfkphgelfaaDoor.Tr Go.Proofs.YtlfebfkphgelfaaDoor.Pl Go.Proofs.YtlfebfkphgelfaaDoor.Pw Go.Proofs.YtlfebfkphgelfaaDoor.Lj
open Go.Proofs.YtlfebfkphgelfaaDoor.Sr (Sl slV tP pc storeP loadP zp PlAt places RowIn)
open Go.Proofs.YtlfebfkphgelfaaDoor.Yr (Cu fc fcs tF stream_any pieces_any jqReadArray_any same_any cuts_open tBy)

theorem places_of {s : ByteArray} {p : PT} (h : places s = some p) : bl s 0 = p.b ∧ WfV s p ∧ bl s p.e = s.size := by
  have hfin : val s (bl s 0) = some p ∧ bl s p.e = s.size := by
    unfold places at h
    cases hv : val s (bl s 0) with
    | none => rw [hv] at h; cases h
    | some p' =>
      rw [hv] at h
      have hpl : (if bl s p'.e = s.size then some p' else none) = some p := h
      split at hpl
      · rename_i g; cases hpl; exact ⟨rfl, g⟩
      · cases hpl
  obtain ⟨hpb, hwf⟩ := val_wf (bl_le s 0 (Nat.zero_le _)) hfin.1
  exact ⟨hpb.symm, hwf, hfin.2⟩
theorem fcs_get (s : ByteArray) : ∀ (ks : List PT) (i : Nat) (c : PT), ks[i]? = some c → ∀ j, j < 4 → (fcs s ks)[i * 4 + j]? = (fc s c)[j]?
  | [], i, c, h, _, _ => by simp at h
  | d :: ks, 0, c, h, j, hj => by
    simp only [List.getElem?_cons_zero, Option.some.injEq] at h
    subst h
    show (fc s d ++ fcs s ks)[0 * 4 + j]? = _
    rw [Nat.zero_mul, Nat.zero_add, List.getElem?_append_left (show j < 4 from hj)]
  | d :: ks, i + 1, c, h, j, hj => by
    simp only [List.getElem?_cons_succ] at h
    show (fc s d ++ fcs s ks)[(i + 1) * 4 + j]? = _
    rw [List.getElem?_append_right (show 4 ≤ (i + 1) * 4 + j by omega)]
    have : (i + 1) * 4 + j - (fc s d).length = i * 4 + j := by show (i + 1) * 4 + j - 4 = _; omega
    rw [this]
    exact fcs_get s ks i c h j hj
theorem walk_q {s : ByteArray} {q : Sl} {win : Int} {W : World} (hq : Cu W q) (hC : Je.Cv W) :
    Calls Tryd.prog 4 #[.string s, slV q, .int .i64 win] W fun e w' => e = .returned (.bool true) ∧ RowKit.Below W.heap.size W w' := by
  refine laws_FnJqReadArray.calls _ _ _ _ _ ?_
  unfold laws_FnJqReadArray.t
  have done : ∀ (w1 : World), Kp Off W w1 → (Ending.returned (retVal [.bool true]) = .returned (.bool true) ∧ RowKit.Below W.heap.size W w1) := fun w1 h => ⟨rfl, h.belowOff⟩
  refine s_cut (fun z w' => (z.1 = true ∨ (z.1 = false ∧ s.size ≤ 2147483647)) ∧ W = w') (s_iteD (fun _ => s_leaf ?_) (fun g => s_leaf ?_)) ?_
  · rw [if_pos rfl]; exact ⟨(true, ()), rfl, .inl rfl, rfl⟩
  · rw [if_pos rfl]
    refine ⟨(decide (((q.2.1 : Nat) : Int) > (2147483647 : Int)), ()), rfl, ?_, rfl⟩
    by_cases g2 : ((q.2.1 : Nat) : Int) > (2147483647 : Int)
    · exact .inl (decide_eq_true g2)
    · exact .inr ⟨decide_eq_false g2, by omega⟩
  rintro ⟨bb, u⟩ w' ⟨hbb, rfl⟩
  show sat _ (laws_FnJqReadArray.t1 s q.1 q.2.1 q.2.2 win bb) _ _
  unfold laws_FnJqReadArray.t1
  rcases hbb with hbb | ⟨hbb, hs0⟩
  · have hbb : bb = true := hbb
    subst hbb
    exact sat_iteT.2 (s_leaf ⟨rfl, done W (Kp.refl _ _)⟩)
  have hbb : bb = false := hbb
  subst hbb
  refine sat_iteF.2 (s_call (Sr.places_any (s := s) (by omega)) ?_)
  rintro en w1 ⟨k, b, e1, na, ka, rfl, k1, hp1⟩
  refine ⟨((k, b, e1, na, ka, ()), (places s).isSome, ()), rfl, s_alloc ?_⟩
  obtain ⟨w2, h2, c2, k2⟩ := storeP (Blk.new w1 zp tP) rfl k b e1 na ka
  refine s_effU h2 ?_
  have kc : Kp Off w1 w2 := (((Kp.refl (fun q => q = w1.heap.size) w1).alloc _).trans (k2.mono fun q _ h => h)).mono fun q hq h => by omega
  have k02 := k1.trans kc
  refine s_cut (fun z w' => (z.1 = true ∨ (z.1 = false ∧ (places s).isSome = true ∧ (s.size ≤ 3000 ∧ q.2.1 ≤ 100 ∧ 0 ≤ win ∧ win ≤ 1048576) ∧ k = 5)) ∧ w2 = w') ?_ ?_
  · refine s_ite (fun _ => s_leaf ?_) (fun g1 => s_call (stream_any (s := s) (q := q) (win := win)) ?_)
    · rw [if_pos rfl]; exact ⟨(true, ()), rfl, .inl rfl, rfl⟩
    rintro en w3 ⟨⟨bs, rfl, hbs⟩, rfl⟩
    refine ⟨bs, rfl, ?_⟩
    cases bs with
    | false => exact sat_iteT.2 (s_leaf (by rw [if_pos rfl]; exact ⟨(true, ()), rfl, .inl rfl, rfl⟩))
    | true =>
      refine sat_iteF.2 (s_load k (by rw [addr_add, Nat.zero_add, c2.cell]; rfl) (s_leaf ?_))
      rw [if_pos rfl]
      refine ⟨(k != 5, ()), rfl, ?_, rfl⟩
      by_cases g5 : k = 5
      · exact .inr ⟨by show (k != 5) = false; rw [g5]; rfl, by simpa using g1, hbs rfl, g5⟩
      · exact .inl (by show (k != 5) = true; simpa using g5)
  rintro ⟨bb, u⟩ w' ⟨hbb, rfl⟩
  show sat _ (laws_FnJqReadArray.t2 s q.1 q.2.1 q.2.2 win ⟨w1.heap.size, 0, none⟩ bb) _ _
  unfold laws_FnJqReadArray.t2
  rcases hbb with hbb | ⟨hbb, hsome, ⟨hs, hql, hw0, hw1⟩, hk5⟩
  · have hbb : bb = true := hbb
    subst hbb
    exact sat_iteT.2 (s_leaf ⟨rfl, done w2 k02⟩)
  have hbb : bb = false := hbb
  subst hbb
  obtain ⟨p, hp⟩ := Option.isSome_iff_exists.1 hsome
  obtain ⟨hp0, hwf, _⟩ := places_of hp
  have hpa := hp1 p hp
  obtain ⟨pk, pb, pe, pns, pks⟩ := p
  have hpk : pk = 5 := by
    unfold PlAt at hpa
    obtain ⟨_, _, _, h1, _⟩ := hpa
    have h1 : pc k b e1 na ka = pc pk pb pe _ _ := h1
    simp only [pc, List.cons.injEq, Value.int.injEq, true_and] at h1
    have := h1.1
    omega
  subst hpk
  have hpa2 : PlAt Any w2 (.mk 5 pb pe pns pks) (pc k b e1 na ka) := PlAt.any hpa kc
  have hlt := hwf.lt
  have hlt : pb < pe ∧ pe ≤ s.size := hlt
  refine sat_iteF.2 (s_call (pieces_any hs (hq.kp k02) hql) ?_)
  rintro en w3 ⟨v, ps, rfl, hown, hct, halt, hpl, k3⟩
  refine ⟨v, rfl, ?_⟩
  have k03 := k02.trans k3
  have hne : ps ≠ [] := by
    intro h0
    subst h0
    have : s.data.toList.length = 0 := by rw [← hct]; rfl
    rw [Yr.len_of] at this
    omega
  refine s_call (jqReadArray_any (p := .mk 5 pb pe pns pks) (hC.off k03) (RowIn.own (B := Any) hown fun _ _ _ => trivial) hct halt hne ⟨hw0, hw1⟩ hs (by omega) hp0 hwf rfl) ?_
  rintro en w4 ⟨u2, rfl, hown4, k4⟩
  have hown4 : w4.ownsRow w3.heap.size tF 4 (slV u2) pks.length (fcs s pks) := hown4
  refine ⟨(u2, true, ()), rfl, ?_⟩
  have k24 := k3.trans k4
  have k04 := k03.trans k4
  have c4 := k24.blk c2 id
  have hp4 : PlAt Any w4 (.mk 5 pb pe pns pks) (pc k b e1 na ka) := PlAt.any hpa2 k24
  unfold PlAt at hp4
  obtain ⟨na2, ka2, xs, h1, _, hrow, hall⟩ := hp4
  have h1 : pc k b e1 na ka = pc 5 pb pe na2 ka2 := h1
  have hka : ka = ka2 := by
    simp only [pc, List.cons.injEq, Value.slice.injEq] at h1
    obtain ⟨_, _, _, _, ⟨x1, x2, x3⟩, _⟩ := h1
    exact Prod.ext x1 (Prod.ext x2 x3)
  subst hka
  have hkal : ka.2.1 = pks.length := hrow.1
  have hul : u2.2.1 = pks.length := by
    obtain ⟨_, ⟨hv, h0⟩ | ⟨g0, cap, cur, hv, _⟩⟩ := hown4
    · obtain ⟨a, l, d⟩ := u2
      cases hv; exact h0.symm
    · obtain ⟨a, l, d⟩ := u2
      cases hv; rfl
  refine s_cut (fun z w' => z = (false, ()) ∧ w4 = w') (sat_iteF.2 (s_load ka (by rw [addr_add, Nat.zero_add, c4.cell]; rfl) (s_leaf ?_))) ?_
  · rw [if_pos rfl]
    refine ⟨(false, ()), ?_, rfl, rfl⟩
    show [Value.bool (((u2.2.1 : Nat) : Int) != ((ka.2.1 : Nat) : Int))] = [Value.bool false]
    rw [hul, hkal]; simp
  rintro z w' ⟨rfl, rfl⟩
  show sat _ (laws_FnJqReadArray.t3 s ⟨w1.heap.size, 0, none⟩ (u2, true, ()) false) _ _
  unfold laws_FnJqReadArray.t3
  have hkl : pks.length ≤ s.size := (wf_len hwf).1
  refine sat_iteF.2 (s_loop (fun m z w' => ∃ i : Nat, m = pks.length - i ∧ z = ((i : Int), ()) ∧ i ≤ pks.length ∧ Kp Off w4 w') pks.length ((0 : Int), ()) rfl ⟨0, rfl, rfl, Nat.zero_le _, Kp.refl _ _⟩ ?_)
  rintro m z w5 ⟨i, rfl, rfl, hi, k5⟩
  show sat _ (laws_FnJqReadArray.t4 s ⟨w1.heap.size, 0, none⟩ (u2, true, ()) (i : Int)) _ _
  unfold laws_FnJqReadArray.t4
  refine s_iteD (fun hlt2 => s_drew ?_) (fun hge => s_leaf ?_)
  rotate_left
  · rw [if_neg (by decide)]; exact ⟨rfl, done w5 (k04.trans k5)⟩
  have hlt2 : (i : Int) < ((u2.2.1 : Nat) : Int) := hlt2
  have hin : i < pks.length := by omega
  have hkj : pks[i]? = some pks[i] := List.getElem?_eq_getElem hin
  generalize pks[i] = c at hkj
  have hwc : WfV s c := (Gk.elt_at _ _ _ _ _ _ (Gk.wf_arr hwf).2.2.2 hkj).1
  have k6 := k5.drew
  have c6 := k6.blk c4 id
  have hown6 := owns_kp hown4 k6 fun _ _ => id
  obtain ⟨x1, x2, x3⟩ := RowIn.any hrow k6
  generalize w5.drew = w6 at k6 c6 hown6 x3
  obtain ⟨m', hm'⟩ : ∃ m', pks.length = m' + 1 := ⟨pks.length - 1, by omega⟩
  rw [hm'] at hown6
  obtain ⟨g0, cap, hu, hcap, _, _⟩ := Yr.own_form hown6
  subst hu
  have hown6 : w6.ownsRow w3.heap.size tF 4 (.slice (some ⟨g0, 0, none⟩) (m' + 1) cap) (m' + 1) (fcs s pks) := hown6
  refine s_chk ⟨by omega, hlt2⟩ (s_ptr ?_)
  have hrunF : (Instr.loadAt tF (.pointer (some ⟨g0, i * 4, none⟩))).run Tryd.prog w6 = .ok (.agg (fc s c).toArray) w6 :=
    Je.loadAt_cells (by kernel_rfl) (info_some (by kernel_rfl)) (by kernel_rfl) (fun j v hj => by
      have hj4 : j < 4 := (List.getElem?_eq_some_iff.1 hj).1
      have := World.ownsRow.cellAt hown6 (i * 4 + j) (by omega)
      rw [addr_add, this, fcs_get s pks i c hkj j hj4]; exact hj)
  rw [addr_add, Int.toNat_natCast, Nat.zero_add]
  refine s_effS (ByteArray.mk #[], s.extract (Ka.rb c) (Ka.re c), Ka.jk c.k, (0 : Int), ()) hrunF ?_
  refine s_load ka (by rw [addr_add, Nat.zero_add, c6.cell]; rfl) ?_
  rcases x3 with x3 | ⟨gr, a1, _, _, a4⟩
  · omega
  obtain ⟨na', ka', _, hcs⟩ := all_get _ _ _ _ hall hkj
  refine s_chk ⟨by omega, by omega⟩ ⟨_, a1, ?_⟩
  have hrun := place_run (w := w6) (bk := gr) (o := i * 5) (k := c.k) (b := c.b) (e := c.e) (na := na') (ka := ka') (fun jj hjj => by
    have h1 := hcs jj hjj
    have hl5 : jj < (pc (c.k : Int) c.b c.e na' ka').length := hjj
    rw [List.getElem?_eq_getElem hl5] at h1 ⊢
    exact a4 _ _ h1)
  dsimp only
  rw [addr_add, Nat.zero_add]
  refine s_effS ((c.k : Int), (c.b : Int), (c.e : Int), na', ka', ()) hrun ?_
  refine s_call (same_any (c := c) (na := na') (ka := ka') (by omega) hwc) ?_
  rintro en w7 ⟨rfl, k7⟩
  refine ⟨true, rfl, sat_iteF.2 (s_leaf ?_)⟩
  rw [if_pos rfl]
  have w1' : IntKind.wrap IntKind.i64 ((i : Int) + 1) = ((i + 1 : Nat) : Int) := by rw [wrap_in (by omega) (by omega)]; omega
  rw [w1']
  exact ⟨pks.length - (i + 1), (((i + 1 : Nat) : Int), ()), rfl, by omega, i + 1, rfl, rfl, hin, k6.trans k7⟩
open Go.ChangeShapes Go.WideShapes
set_option maxRecDepth 100000 in
theorem walk {H : Type} {enc : TypeId × Value → H} {base : Nat} {spare : Nat → Bool} {held : Bool} {r : Reach} {b0 : Nat} (s : ByteArray) (v : Value) (win : Int) (W : World) {d : DataW H} {p : List MemPlace} (_ : s.size ≤ 140737488351232)
    (hv : Value.okWide Tryd.prog W r b0 tBy v) (h : DataW.Trod enc Tryd.prog W base spare held tBy v d p) (_ : (Lit.int .i64 win).wf = true) (hL : laidMetH Tryd.prog Rows.fnJqReadArrayRow.laid W) :
    Calls Tryd.prog 4 #[.string s, v, .int .i64 win] W fun e w' => e = .returned (.bool true) ∧ RowKit.Below W.heap.size W w' := by
  have hM := Lv.laid_of_H hL (by kernel_rfl)
  obtain ⟨q, rfl, hq⟩ := cuts_open hv h
  exact walk_q hq (Lv.cv_of (Lv.laidMet_drop 7 _ hM))
end Go.Proofs.YtlfebfkphgelfaaDoor.LawJqReadArray
