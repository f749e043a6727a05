/- The reference's reader: the walks through values, members and elements. No statement of the set is proved here. -/
import Derived.Test.YtiganlecnpphmaaVl
namespace Go.Proofs.Ytiganlecnpphmaa.Sr
open Go Go.Proofs Go.Proofs.Ytiganlecnpphmaa.Rx Go.Proofs.Ytiganlecnpphmaa.Tr Go.Proofs.Ytiganlecnpphmaa.Pl

theorem el_no {g : Nat} {s : ByteArray} {w w' : World} {r : Option (List PT × Nat)} {j : Nat} (h : r = none) (hj : j ≤ s.size) (hR : RdAt w' g s j) (k : Kp (On g) w w') : ElPost g s w r (.returned (retVal [.slice none 0 0, .bool false])) w' := by
  subst h; exact ⟨(none, 0, 0), j, rfl, hj, hR, k, fun x hx => by cases hx⟩
theorem me_no {g : Nat} {s : ByteArray} {w w' : World} {r : Option (List (Nat × Nat) × List PT × Nat)} {j : Nat} (h : r = none) (hj : j ≤ s.size) (hR : RdAt w' g s j) (k : Kp (On g) w w') : MePost g s w r (.returned (retVal [.slice none 0 0, .slice none 0 0, .bool false])) w' := by
  subst h; exact ⟨(none, 0, 0), (none, 0, 0), j, rfl, hj, hR, k, fun x hx => by cases hx⟩

theorem elements_any {w0 : World} {g : Nat} {s : ByteArray} {i : Nat} (hs : s.size < 4294967295) (hi : i < s.size) (hR : RdAt w0 g s i) (hV : ∀ j, i < j → j ≤ s.size → ValAt g s j) :
    Calls Try.prog 24 #[.pointer (some ⟨g, 0, none⟩)] w0 (ElPost g s w0 (elems0 s i)) := by
  refine spec_reader_elements.calls _ ?_
  unfold spec_reader_elements.t
  have hs' : s.size < 4611686018427387904 := by omega
  have hg : g < w0.heap.size := Blk.lt hR
  refine s_ptr ?_
  simp only [addr_add, Nat.zero_add]
  refine s_load (i : Int) (hR.cell 1) (s_ptr (s_store (hR.cell 1) (hR.free 1) ?_))
  rw [wrap_in (by omega) (by omega)]
  have hR1 : RdAt (w0.setCell ⟨g, 1, none⟩ (.int .i64 ((i : Int) + 1))) g s (i + 1) := hR.toI rfl
  have k1 : Kp (On g) w0 _ := (Kp.refl (On g) w0).on 1 (.int .i64 ((i : Int) + 1))
  refine s_call (blanks_any hs' hi hR1) ?_
  rintro e w2 ⟨rfl, hR2, k2⟩
  refine ⟨(), rfl, ?_⟩
  have hb := bl_le s _ hi
  have hbg := bl_ge s (i + 1)
  refine s_call (take_any 93 hs' hR2) ?_
  rintro e w3 ⟨rfl, hR3, k3⟩
  refine ⟨_, rfl, ?_⟩
  have k4 := (k1.trans k2).trans k3
  unfold elems0
  cases hT : takeB s (bl s (i + 1)) 93 with
  | true =>
    refine sat_iteT.2 (s_leaf ⟨rfl, ?_⟩)
    rw [if_pos ((takeB_bt (by decide)).1 hT)]
    rw [takeI_yes hT] at hR3
    exact ⟨(none, 0, 0), _, rfl, takeB_lt hT, hR3, k4, fun x hx => by cases hx; exact ⟨rfl, [], RowIn.nil, AllAt.nil⟩⟩
  | false =>
    refine sat_iteF.2 ?_
    rw [if_neg ((takeB_btF (by decide)).1 hT)]
    rw [takeI_no hT] at hR3
    generalize bl s (i + 1) = i0 at *
    refine s_loop (fun n x w' => ∃ (j : Nat) (ks : List PT) (xs : List Value) (v : Sl), x = (v, ()) ∧ n = s.size - j ∧ i < j ∧ j ≤ s.size ∧ ks.length ≤ j ∧ elems s i0 = (elems s j).map (fun x => (ks ++ x.1, x.2)) ∧
        w'.ownsRow w0.heap.size tP 5 (slV v) ks.length xs ∧ AllAt (fun q => w0.heap.size ≤ q ∧ some q ≠ (slV v).ownBlock) w' ks xs ∧ RdAt w' g s j ∧ Kp (On g) w0 w')
      (s.size - i0) ((none, 0, 0), ()) rfl ⟨i0, [], [], (none, 0, 0), rfl, rfl, by omega, hb, by simp, by cases elems s i0 <;> rfl, World.ownsRow_nil _ _ _ _, AllAt.nil, hR3, k4⟩ ?_
    clear hR hR1 hR2 hR3 k1 k2 k3 k4 hT
    rintro n x w1 ⟨j, ks, xs, v, rfl, rfl, hij, hj, hlen, hE, hO, hA, hR, k1⟩
    unfold spec_reader_elements.t1
    refine s_call (hV j hij hj w1 hR) ?_
    rintro e w2 ⟨k, b, e1, na, ka, m, rfl, hm, hR2, k2, hp⟩
    refine ⟨((k, b, e1, na, ka, ()), (val s j).isSome, ()), rfl, ?_⟩
    -- the local copy
    refine s_alloc ?_
    have hb6 := Blk.new w2 (pc 0 0 0 (none, 0, 0) (none, 0, 0)) tP
    obtain ⟨w3, h3, hb3, k3⟩ := storeP hb6 rfl k b e1 na ka
    refine s_effU h3 ?_
    have kc : Kp Off w2 w3 := (((Kp.refl (fun q => q = w2.heap.size) w2).alloc _).trans (k3.mono fun q _ h => h)).mono fun q hq h => by omega
    have hg1 : ¬ Off g := id
    have hg2 : g < w2.heap.size := Blk.lt hR2
    have hR3 : RdAt w3 g s m := kc.blk hR2 hg1
    have k03 : Kp (On g) w0 w3 := (k1.trans k2).trans kc.off
    have hsz1 : w0.heap.size ≤ w1.heap.size := k1.size
    have hsz2 : w1.heap.size ≤ w2.heap.size := k2.size
    have hsz3 : w2.heap.size ≤ w3.heap.size := kc.size
    cases hv : val s j with
    | none =>
      refine sat_iteT.2 (s_leaf ?_)
      rw [if_neg (by decide)]
      exact ⟨rfl, el_no (by rw [hE, elems_none hv]; rfl) hm hR3 k03⟩
    | some p =>
      obtain ⟨rfl, hP⟩ := hp p hv
      refine sat_iteF.2 ?_
      refine s_eff (k, b, e1, na, ka, ()) (loadP hb3) ?_
      -- what was is still there
      have own_ge : ∀ q, some q = (slV v).ownBlock → w0.heap.size ≤ q ∧ q < w1.heap.size := fun q hq => hO.lt q hq.symm
      have own_g : some g ≠ (slV v).ownBlock := fun e => by have := (own_ge g e).1; omega
      have hO3 : w3.ownsRow w0.heap.size tP 5 (slV v) ks.length xs := owns_kp (owns_kp hO k2 fun q hq h => own_g (by rw [← hq, (show q = g from h)])) kc fun q _ h => h
      have hA3 : AllAt (fun q => w0.heap.size ≤ q ∧ some q ≠ (slV v).ownBlock) w3 ks xs :=
        (hA.kp k2 fun q _ h => ⟨h, fun e => by have : q = g := e; omega⟩ : AllAt (fun q => w0.heap.size ≤ q ∧ some q ≠ (slV v).ownBlock) w2 ks xs).kp kc fun q _ h => ⟨h, fun e => e⟩
      have hP3 : PlAt (fun q => w0.heap.size ≤ q ∧ some q ≠ (slV v).ownBlock) w3 p (pc k b e1 na ka) :=
        hP.kp kc fun q _ h => ⟨⟨by omega, fun e => by have := (own_ge q e).2; omega⟩, fun e => e⟩
      have hv' := val_end hj hv
      obtain ⟨w4, h4, v', w5, h5, hO5, k5, hnew⟩ := push_place hO3 k b e1 na ka (by omega) (by omega)
      refine s_eff (some ⟨w3.heap.size, 0, none⟩, 1, 1) h4 ?_
      refine s_eff v' h5 ?_
      have hR5 : RdAt w5 g s p.e := k5.blk hR3 fun e => own_g e
      have k05 : Kp (On g) w0 w5 := k03.then k5 fun q hq e => by have := (own_ge q e).1; omega
      have mv : ∀ q, q < w3.heap.size → (w0.heap.size ≤ q ∧ some q ≠ (slV v).ownBlock) → (w0.heap.size ≤ q ∧ some q ≠ (slV v').ownBlock) ∧ ¬ (some q = (slV v).ownBlock) := fun q hq h =>
        ⟨⟨h.1, fun e => by
          rcases hnew q e with h' | h'
          · exact h.2 h'
          · omega⟩, h.2⟩
      have hA5 := (hA3.snoc hP3).kp k5 mv
      have hlen5 : (ks ++ [p]).length = ks.length + 1 := by simp
      rw [← hlen5] at hO5
      have own5 : some g ≠ (slV v').ownBlock := fun e => by
        rcases hnew g e with h' | h'
        · exact own_g h'
        · omega
      clear hA3 hP3 hO3 hR3 mv
      refine s_call (blanks_any hs' hm hR5) ?_
      rintro e w6 ⟨rfl, hR6, k6⟩
      refine ⟨(), rfl, ?_⟩
      have hb6 := bl_le s _ hm
      have hbg6 := bl_ge s p.e
      refine s_call (take_any 93 hs' hR6) ?_
      rintro e w7 ⟨rfl, hR7, k7⟩
      refine ⟨_, rfl, ?_⟩
      have k57 := k6.trans k7
      have keep : ∀ {w'}, Kp (On g) w5 w' → w'.ownsRow w0.heap.size tP 5 (slV v') (ks ++ [p]).length (xs ++ pc k b e1 na ka) ∧ AllAt (fun q => w0.heap.size ≤ q ∧ some q ≠ (slV v').ownBlock) w' (ks ++ [p]) (xs ++ pc k b e1 na ka) := fun {w'} k =>
        ⟨owns_kp hO5 k fun q hq h => own5 (by rw [← hq, (show q = g from h)]), hA5.kp k fun q _ h => ⟨h, fun e => by have : q = g := e; omega⟩⟩
      cases hT : takeB s (bl s p.e) 93 with
      | true =>
        refine sat_iteT.2 (s_leaf ?_)
        rw [if_neg (by decide)]
        rw [takeI_yes hT] at hR7
        obtain ⟨o, a⟩ := keep k57
        have hE2 : elems s i0 = some (ks ++ [p], bl s p.e + 1) := by rw [hE, elems_last hv ((takeB_bt (by decide)).1 hT)]; rfl
        refine ⟨rfl, v', _, by rw [hE2]; rfl, takeB_lt hT, hR7, k05.trans k57, fun x hx => ?_⟩
        rw [hE2] at hx; cases hx
        exact ⟨rfl, _, RowIn.own o fun q _ h => h, a.kp (Kp.refl Off w7) fun q _ h => ⟨h.1, fun e => e⟩⟩
      | false =>
        refine sat_iteF.2 ?_
        rw [takeI_no hT] at hR7
        refine s_call (take_any 44 hs' hR7) ?_
        rintro e w8 ⟨rfl, hR8, k8⟩
        refine ⟨_, rfl, ?_⟩
        have k58 := k57.trans k8
        cases hT2 : takeB s (bl s p.e) 44 with
        | false =>
          refine sat_iteT.2 (s_leaf ?_)
          rw [if_neg (by decide)]
          rw [takeI_no hT2] at hR8
          exact ⟨rfl, el_no (by rw [hE, elems_bad hv ((takeB_btF (by decide)).1 hT) ((takeB_btF (by decide)).1 hT2)]; rfl) hb6 hR8 (k05.trans k58)⟩
        | true =>
          refine sat_iteF.2 ?_
          rw [takeI_yes hT2] at hR8
          have hlt := takeB_lt hT2
          refine s_call (blanks_any hs' hlt hR8) ?_
          rintro e w9 ⟨rfl, hR9, k9⟩
          refine ⟨(), rfl, s_leaf ?_⟩
          rw [if_pos rfl]
          have k59 := k58.trans k9
          obtain ⟨o, a⟩ := keep k59
          have hb9 := bl_le s _ hlt
          have hbg9 := bl_ge s (bl s p.e + 1)
          refine ⟨s.size - bl s (bl s p.e + 1), (v', ()), rfl, by omega, bl s (bl s p.e + 1), ks ++ [p], _, v', rfl, rfl, by omega, hb9, by rw [hlen5]; omega, ?_, o, a, hR9, k05.trans k59⟩
          rw [hE, elems_more hj hv ((takeB_bt (by decide)).1 hT2)]
          cases elems s (bl s (bl s p.e + 1)) <;> simp
end Go.Proofs.Ytiganlecnpphmaa.Sr
