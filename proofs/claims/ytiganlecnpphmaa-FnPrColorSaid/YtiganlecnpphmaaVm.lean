/- The reference's reader: the walk through members. No statement of the set is proved here. -/
import Derived.Test.YtiganlecnpphmaaVw
namespace Go.Proofs.Ytiganlecnpphmaa.Sr
open Go Go.Proofs Go.Proofs.Ytiganlecnpphmaa.Rx Go.Proofs.Ytiganlecnpphmaa.Tr Go.Proofs.Ytiganlecnpphmaa.Pl

theorem members_any {w0 : World} {g : Nat} {s : ByteArray} {i : Nat} (hs : s.size < 4294967295) (hi : i < s.size) (hR : RdAt w0 g s i) (hV : ∀ j, i < j → j ≤ s.size → ValAt g s j) :
    Calls Try.prog 23 #[.pointer (some ⟨g, 0, none⟩)] w0 (MePost g s w0 (mems0 s i)) := by
  refine spec_reader_members.calls _ ?_
  unfold spec_reader_members.t
  have hs' : s.size < 4611686018427387904 := by omega
  have hg : g < w0.heap.size := Blk.lt hR
  refine s_ptr ?_
  simp only [addr_add, Nat.zero_add]
  refine s_load (i : Int) (hR.cell 1) (s_ptr (s_store (hR.cell 1) (hR.free 1) ?_))
  rw [wrap_in (by omega) (by omega)]
  have hR1 : RdAt (w0.setCell ⟨g, 1, none⟩ (.int .i64 ((i : Int) + 1))) g s (i + 1) := hR.toI rfl
  have k1 : Kp (On g) w0 _ := (Kp.refl (On g) w0).on 1 (.int .i64 ((i : Int) + 1))
  refine s_call (blanks_any hs' hi hR1) ?_
  rintro e w2 ⟨rfl, hR2, k2⟩
  refine ⟨(), rfl, ?_⟩
  have hb := bl_le s _ hi
  have hbg := bl_ge s (i + 1)
  refine s_call (take_any 125 hs' hR2) ?_
  rintro e w3 ⟨rfl, hR3, k3⟩
  refine ⟨_, rfl, ?_⟩
  have k4 := (k1.trans k2).trans k3
  unfold mems0
  cases hT : takeB s (bl s (i + 1)) 125 with
  | true =>
    refine sat_iteT.2 (s_leaf ⟨rfl, ?_⟩)
    rw [if_pos ((takeB_bt (by decide)).1 hT)]
    rw [takeI_yes hT] at hR3
    exact ⟨(none, 0, 0), (none, 0, 0), _, rfl, takeB_lt hT, hR3, k4, fun x hx => by cases hx; exact ⟨rfl, RowIn.nil, [], RowIn.nil, AllAt.nil⟩⟩
  | false =>
    refine sat_iteF.2 ?_
    rw [if_neg ((takeB_btF (by decide)).1 hT)]
    rw [takeI_no hT] at hR3
    generalize bl s (i + 1) = i0 at *
    refine s_loop (fun n x w' => ∃ (j : Nat) (ns : List (Nat × Nat)) (ks : List PT) (xs : List Value) (v u : Sl), x = (v, u, ()) ∧ n = s.size - j ∧ i < j ∧ j ≤ s.size ∧ ks.length ≤ j ∧ ns.length = ks.length ∧
        mems s i0 = (mems s j).map (fun x => (ns ++ x.1, ks ++ x.2.1, x.2.2)) ∧
        w'.ownsRow w0.heap.size tP 5 (slV v) ks.length xs ∧ w'.ownsRow w0.heap.size tN 2 (slV u) ns.length (ns.flatMap spanC) ∧ (∀ q, some q = (slV v).ownBlock → some q ≠ (slV u).ownBlock) ∧
        AllAt (fun q => w0.heap.size ≤ q ∧ some q ≠ (slV v).ownBlock ∧ some q ≠ (slV u).ownBlock) w' ks xs ∧ RdAt w' g s j ∧ Kp (On g) w0 w')
      (s.size - i0) ((none, 0, 0), (none, 0, 0), ()) rfl ⟨i0, [], [], [], (none, 0, 0), (none, 0, 0), rfl, rfl, by omega, hb, by simp, rfl, by cases mems s i0 <;> rfl, World.ownsRow_nil _ _ _ _, World.ownsRow_nil _ _ _ _, (fun q h => (by cases h)), AllAt.nil, hR3, k4⟩ ?_
    clear hR hR1 hR2 hR3 k1 k2 k3 k4 hT
    rintro n x w1 ⟨j, ns, ks, xs, v, u, rfl, rfl, hij, hj, hlen, hnk, hE, hO, hN, hne, hA, hR, k1⟩
    unfold spec_reader_members.t1
    have own_ge : ∀ q, some q = (slV v).ownBlock → w0.heap.size ≤ q ∧ q < w1.heap.size := fun q hq => hO.lt q hq.symm
    have own_geN : ∀ q, some q = (slV u).ownBlock → w0.heap.size ≤ q ∧ q < w1.heap.size := fun q hq => hN.lt q hq.symm
    have own_g : some g ≠ (slV v).ownBlock := fun e => by have := (own_ge g e).1; omega
    have own_gN : some g ≠ (slV u).ownBlock := fun e => by have := (own_geN g e).1; omega
    refine s_ptr ?_
    simp only [addr_add, Nat.zero_add]
    refine s_load (j : Int) (hR.cell 1) ?_
    refine s_cut (fun x w' => Kp (On g) w1 w' ∧ ∃ m : Nat, m ≤ s.size ∧ RdAt w' g s m ∧ ((x = (true, ()) ∧ mems s j = none) ∨ (x = (false, ()) ∧ bt s j = 34 ∧ strE s (j + 1) = some m))) ?_ ?_
    · refine s_call (here_any hR) ?_
      rintro e w2 ⟨rfl, hR2, k2⟩
      refine ⟨_, rfl, ?_⟩
      refine s_iteN (fun h => ?_) (fun h => ?_)
      · refine s_leaf ?_; rw [if_pos rfl]
        exact ⟨(true, ()), rfl, k2, j, hj, hR2, .inl ⟨rfl, mems_q h⟩⟩
      · have hlt : j < s.size := lt_of_bt (by omega)
        refine s_call (quoted_any hs' hlt hR2) ?_
        rintro e w3 ⟨m, rfl, hm, hle, hR3, k3⟩
        refine ⟨_, rfl, s_leaf ?_⟩
        rw [if_pos rfl]
        refine ⟨(_, ()), rfl, k2.trans k3, m, hle, hR3, ?_⟩
        cases hq : strE s (j + 1) with
        | none => exact .inl ⟨rfl, mems_s h hq⟩
        | some m' => exact .inr ⟨rfl, h, by rw [hm m' hq]⟩
    rintro x w2 ⟨k2, m, hm, hR2, ⟨rfl, hbad⟩ | ⟨rfl, hq, hm'⟩⟩
    · simp only [spec_reader_members.t2]
      refine sat_iteT.2 (s_leaf ?_)
      rw [if_neg (by decide)]
      exact ⟨rfl, me_no (by rw [hE, hbad]; rfl) hm hR2 (k1.trans k2)⟩
    simp only [spec_reader_members.t2]
    refine sat_iteF.2 (s_ptr ?_)
    simp only [addr_add, Nat.zero_add]
    refine s_load (m : Int) (hR2.cell 1) ?_
    have hm2 := strE_le hm'
    have hO2 : w2.ownsRow w0.heap.size tP 5 (slV v) ks.length xs := owns_kp hO k2 fun q hq h => own_g (by rw [← hq, (show q = g from h)])
    have hN2 : w2.ownsRow w0.heap.size tN 2 (slV u) ns.length (ns.flatMap spanC) := owns_kp hN k2 fun q hq h => own_gN (by rw [← hq, (show q = g from h)])
    have hA2 : AllAt (fun q => w0.heap.size ≤ q ∧ some q ≠ (slV v).ownBlock ∧ some q ≠ (slV u).ownBlock) w2 ks xs := hA.kp k2 fun q _ h => ⟨h, fun e => by have : q = g := e; omega⟩
    have k02 := k1.trans k2
    have hsz1 : w0.heap.size ≤ w1.heap.size := k1.size
    have hsz2 : w1.heap.size ≤ w2.heap.size := k2.size
    -- the name
    obtain ⟨w3, h3, u', w4, h4, hN4, k4, hnew⟩ := push_span hN2 j m (by omega) (by omega)
    refine s_eff (some ⟨w2.heap.size, 0, none⟩, 1, 1) h3 ?_
    refine s_eff u' h4 ?_
    have hsz4 : w2.heap.size ≤ w4.heap.size := k4.size
    have hR4 : RdAt w4 g s m := k4.blk hR2 fun e => own_gN e
    have k04 : Kp (On g) w0 w4 := k02.then k4 fun q hq e => by have := (own_geN q e).1; omega
    have hO4 : w4.ownsRow w0.heap.size tP 5 (slV v) ks.length xs := owns_kp hO2 k4 fun q hq h => hne q hq h
    have hA4 : AllAt (fun q => w0.heap.size ≤ q ∧ some q ≠ (slV v).ownBlock ∧ some q ≠ (slV u').ownBlock) w4 ks xs := hA2.kp k4 fun q hq h => ⟨⟨h.1, h.2.1, fun e => by
      rcases hnew q e with h' | h'
      · exact h.2.2 h'
      · omega⟩, h.2.2⟩
    have hfl : ns.flatMap spanC ++ spanC (j, m) = (ns ++ [(j, m)]).flatMap spanC := by simp
    have hnl : (ns ++ [(j, m)]).length = ns.length + 1 := by simp
    rw [hfl, ← hnl] at hN4
    have hne4 : ∀ q, some q = (slV v).ownBlock → some q ≠ (slV u').ownBlock := fun q h e => by
      rcases hnew q e with h' | h'
      · exact hne q h h'
      · have := (own_ge q h).2; omega
    have own4 : some g ≠ (slV u').ownBlock := fun e => by
      rcases hnew g e with h' | h'
      · exact own_gN h'
      · have : g < w2.heap.size := Blk.lt hR2
        omega
    have own_ge4 : ∀ q, some q = (slV u').ownBlock → w0.heap.size ≤ q ∧ q < w4.heap.size := fun q hq => hN4.lt q hq.symm
    clear hA hA2 hO hO2 hN hN2 hR hR2 hnew
    -- the colon
    refine s_call (blanks_any hs' hm hR4) ?_
    rintro e w5 ⟨rfl, hR5, k5⟩
    refine ⟨(), rfl, ?_⟩
    have hb5 := bl_le s _ hm
    have hbg5 := bl_ge s m
    refine s_call (take_any 58 hs' hR5) ?_
    rintro e w6 ⟨rfl, hR6, k6⟩
    refine ⟨_, rfl, ?_⟩
    have k46 := k5.trans k6
    cases hT : takeB s (bl s m) 58 with
    | false =>
      refine sat_iteT.2 (s_leaf ?_)
      rw [if_neg (by decide)]
      rw [takeI_no hT] at hR6
      exact ⟨rfl, me_no (by rw [hE, mems_c hq hm' ((takeB_btF (by decide)).1 hT)]; rfl) hb5 hR6 (k04.trans k46)⟩
    | true =>
    refine sat_iteF.2 ?_
    rw [takeI_yes hT] at hR6
    have hlt5 := takeB_lt hT
    have hmv := mems_v hq hm' ((takeB_bt (by decide)).1 hT)
    refine s_call (blanks_any hs' hlt5 hR6) ?_
    rintro e w7 ⟨rfl, hR7, k7⟩
    refine ⟨(), rfl, ?_⟩
    have hb7 := bl_le s _ hlt5
    have hbg7 := bl_ge s (bl s m + 1)
    generalize hj' : bl s (bl s m + 1) = j' at *
    have k47 := k46.trans k7
    refine s_call (hV j' (by omega) hb7 w7 hR7) ?_
    rintro e w8 ⟨k, b, e1, na, ka, p', rfl, hp', hR8, k8, hp⟩
    refine ⟨((k, b, e1, na, ka, ()), (val s j').isSome, ()), rfl, ?_⟩
    have k48 := k47.trans k8
    refine s_alloc ?_
    have hb9 := Blk.new w8 (pc 0 0 0 (none, 0, 0) (none, 0, 0)) tP
    obtain ⟨w9, h9, hbk9, k9⟩ := storeP hb9 rfl k b e1 na ka
    refine s_effU h9 ?_
    have kc : Kp Off w8 w9 := (((Kp.refl (fun q => q = w8.heap.size) w8).alloc _).trans (k9.mono fun q _ h => h)).mono fun q hq h => by omega
    have hR9 : RdAt w9 g s p' := kc.blk hR8 (id : ¬ Off g)
    have k09 : Kp (On g) w0 w9 := (k04.trans k48).trans kc.off
    have hsz7 : w4.heap.size ≤ w7.heap.size := k47.size
    have hsz8 : w7.heap.size ≤ w8.heap.size := k8.size
    have hsz9 : w8.heap.size ≤ w9.heap.size := kc.size
    cases hv : val s j' with
    | none =>
      refine sat_iteT.2 (s_leaf ?_)
      rw [if_neg (by decide)]
      exact ⟨rfl, me_no (by rw [hE, hmv, hv]; rfl) hp' hR9 k09⟩
    | some p =>
    obtain ⟨rfl, hP⟩ := hp p hv
    rw [hv] at hmv
    simp only at hmv
    refine sat_iteF.2 ?_
    refine s_eff (k, b, e1, na, ka, ()) (loadP hbk9) ?_
    have hO9 : w9.ownsRow w0.heap.size tP 5 (slV v) ks.length xs := owns_kp (owns_kp hO4 k48 fun q hq h => own_g (by rw [← hq, (show q = g from h)])) kc fun q _ h => h
    have hN9 : w9.ownsRow w0.heap.size tN 2 (slV u') (ns ++ [(j, m)]).length ((ns ++ [(j, m)]).flatMap spanC) := owns_kp (owns_kp hN4 k48 fun q hq h => own4 (by rw [← hq, (show q = g from h)])) kc fun q _ h => h
    have hA9 : AllAt (fun q => w0.heap.size ≤ q ∧ some q ≠ (slV v).ownBlock ∧ some q ≠ (slV u').ownBlock) w9 ks xs :=
      (hA4.kp k48 fun q _ h => ⟨h, fun e => by have : q = g := e; omega⟩ : AllAt (fun q => w0.heap.size ≤ q ∧ some q ≠ (slV v).ownBlock ∧ some q ≠ (slV u').ownBlock) w8 ks xs).kp kc fun q _ h => ⟨h, fun e => e⟩
    have hP9 : PlAt (fun q => w0.heap.size ≤ q ∧ some q ≠ (slV v).ownBlock ∧ some q ≠ (slV u').ownBlock) w9 p (pc k b e1 na ka) :=
      hP.kp kc fun q _ h => ⟨⟨by omega, fun e => by have := (own_ge q e).2; omega, fun e => by have := (own_ge4 q e).2; omega⟩, fun e => e⟩
    have hv' := val_end hb7 hv
    obtain ⟨w10, h10, v', w11, h11, hO11, k11, hnew⟩ := push_place hO9 k b e1 na ka (by omega) (by omega)
    refine s_eff (some ⟨w9.heap.size, 0, none⟩, 1, 1) h10 ?_
    refine s_eff v' h11 ?_
    have hR11 : RdAt w11 g s p.e := k11.blk hR9 fun e => own_g e
    have k011 : Kp (On g) w0 w11 := k09.then k11 fun q hq e => by have := (own_ge q e).1; omega
    have hN11 : w11.ownsRow w0.heap.size tN 2 (slV u') (ns ++ [(j, m)]).length ((ns ++ [(j, m)]).flatMap spanC) := owns_kp hN9 k11 fun q hq h => hne4 q h hq
    have hne11 : ∀ q, some q = (slV v').ownBlock → some q ≠ (slV u').ownBlock := fun q h e => by
      rcases hnew q h with h' | h'
      · exact hne4 q h' e
      · have := (own_ge4 q e).2; omega
    have hA11 : AllAt (fun q => w0.heap.size ≤ q ∧ some q ≠ (slV v').ownBlock ∧ some q ≠ (slV u').ownBlock) w11 (ks ++ [p]) (xs ++ pc k b e1 na ka) :=
      (hA9.snoc hP9).kp k11 fun q hq h => ⟨⟨h.1, fun e => by
        rcases hnew q e with h' | h'
        · exact h.2.1 h'
        · omega, h.2.2⟩, h.2.1⟩
    have hlen5 : (ks ++ [p]).length = ks.length + 1 := by simp
    rw [← hlen5] at hO11
    have own11 : some g ≠ (slV v').ownBlock := fun e => by
      rcases hnew g e with h' | h'
      · exact own_g h'
      · have : g < w8.heap.size := Blk.lt hR8
        omega
    clear hA9 hP9 hO9 hN9 hR9
    refine s_call (blanks_any hs' hp' hR11) ?_
    rintro e w12 ⟨rfl, hR12, k12⟩
    refine ⟨(), rfl, ?_⟩
    have hb12 := bl_le s _ hp'
    have hbg12 := bl_ge s p.e
    refine s_call (take_any 125 hs' hR12) ?_
    rintro e w13 ⟨rfl, hR13, k13⟩
    refine ⟨_, rfl, ?_⟩
    have kk := k12.trans k13
    have keep : ∀ {w'}, Kp (On g) w11 w' → w'.ownsRow w0.heap.size tP 5 (slV v') (ks ++ [p]).length (xs ++ pc k b e1 na ka) ∧ w'.ownsRow w0.heap.size tN 2 (slV u') (ns ++ [(j, m)]).length ((ns ++ [(j, m)]).flatMap spanC) ∧
        AllAt (fun q => w0.heap.size ≤ q ∧ some q ≠ (slV v').ownBlock ∧ some q ≠ (slV u').ownBlock) w' (ks ++ [p]) (xs ++ pc k b e1 na ka) := fun {w'} k =>
      ⟨owns_kp hO11 k fun q hq h => own11 (by rw [← hq, (show q = g from h)]), owns_kp hN11 k fun q hq h => own4 (by rw [← hq, (show q = g from h)]), hA11.kp k fun q _ h => ⟨h, fun e => by have : q = g := e; omega⟩⟩
    cases hT1 : takeB s (bl s p.e) 125 with
    | true =>
      refine sat_iteT.2 (s_leaf ?_)
      rw [if_neg (by decide)]
      rw [takeI_yes hT1] at hR13
      obtain ⟨o, on, a⟩ := keep kk
      have hE2 : mems s i0 = some (ns ++ [(j, m)], ks ++ [p], bl s p.e + 1) := by rw [hE, hmv, if_pos ((takeB_bt (by decide)).1 hT1)]; rfl
      refine ⟨rfl, u', v', _, by rw [hE2]; rfl, takeB_lt hT1, hR13, k011.trans kk, fun x hx => ?_⟩
      rw [hE2] at hx; cases hx
      exact ⟨rfl, RowIn.own on fun q _ h => h, _, RowIn.own o fun q _ h => h, a.kp (Kp.refl Off w13) fun q _ h => ⟨h.1, fun e => e⟩⟩
    | false =>
      refine sat_iteF.2 ?_
      rw [takeI_no hT1] at hR13
      rw [if_neg ((takeB_btF (by decide)).1 hT1)] at hmv
      refine s_call (take_any 44 hs' hR13) ?_
      rintro e w14 ⟨rfl, hR14, k14⟩
      refine ⟨_, rfl, ?_⟩
      have kk2 := kk.trans k14
      cases hT2 : takeB s (bl s p.e) 44 with
      | false =>
        refine sat_iteT.2 (s_leaf ?_)
        rw [if_neg (by decide)]
        rw [takeI_no hT2] at hR14
        rw [if_neg ((takeB_btF (by decide)).1 hT2)] at hmv
        exact ⟨rfl, me_no (by rw [hE, hmv]; rfl) hb12 hR14 (k011.trans kk2)⟩
      | true =>
        refine sat_iteF.2 ?_
        rw [takeI_yes hT2] at hR14
        rw [if_pos ((takeB_bt (by decide)).1 hT2)] at hmv
        have hlt := takeB_lt hT2
        refine s_call (blanks_any hs' hlt hR14) ?_
        rintro e w15 ⟨rfl, hR15, k15⟩
        refine ⟨(), rfl, s_leaf ?_⟩
        rw [if_pos rfl]
        obtain ⟨o, on, a⟩ := keep (kk2.trans k15)
        have hb9 := bl_le s _ hlt
        have hbg9 := bl_ge s (bl s p.e + 1)
        refine ⟨s.size - bl s (bl s p.e + 1), (v', u', ()), rfl, by omega, bl s (bl s p.e + 1), ns ++ [(j, m)], ks ++ [p], _, v', u', rfl, rfl, by omega, hb9, by rw [hlen5]; omega, by rw [hlen5, hnl, hnk], ?_, o, on, hne11, a, hR15, k011.trans (kk2.trans k15)⟩
        rw [hE, hmv]
        cases mems s (bl s (bl s p.e + 1)) <;> simp
end Go.Proofs.Ytiganlecnpphmaa.Sr
