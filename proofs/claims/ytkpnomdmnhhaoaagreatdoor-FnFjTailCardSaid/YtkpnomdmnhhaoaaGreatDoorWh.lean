/- Texts with more behind a JSON text; fastjson's Parse and Validate of them. No statement of the set is proved here. -/
import Derived.Test.YtkpnomdmnhhaoaaGreatDoorWg
import Derived.Test.YtkpnomdmnhhaoaaGreatDoorWd
namespace Go.Proofs.YtkpnomdmnhhaoaaGreatDoor.Zv
open Go Go.Proofs Go.RowKit Go.Proofs.YtkpnomdmnhhaoaaGreatDoor.Rx Go.Proofs.YtkpnomdmnhhaoaaGreatDoor.Tr Go.Proofs.YtkpnomdmnhhaoaaGreatDoor.Pl Go.Proofs.YtkpnomdmnhhaoaaGreatDoor.Pw Go.Proofs.YtkpnomdmnhhaoaaGreatDoor.Sk Go.Proofs.YtkpnomdmnhhaoaaGreatDoor.Zs Go.Proofs.YtkpnomdmnhhaoaaGreatDoor.Nt
open Go.Proofs.YtkpnomdmnhhaoaaGreatDoor.Sr (Sl slV)
open Go.Proofs.YtkpnomdmnhhaoaaGreatDoor.Zu (PdV PdL pd)
open Go.Proofs.YtkpnomdmnhhaoaaGreatDoor.Ed (mvP mvL mvP_id mvP_b mvP_e mvP_k Ag Nst bl_eq sh)

variable {w w' : World} {s s' u y : ByteArray} {p : PT} {v : Nat}
theorem bt_app1 {x y : ByteArray} {j : Nat} (h : j < x.size) : bt (x ++ y) (j : Int) = bt x (j : Int) := by
  unfold bt
  rw [Int.toNat_natCast, List.getD_eq_getElem?_getD, List.getD_eq_getElem?_getD]
  have e : (x ++ y).data.toList = x.data.toList ++ y.data.toList := by rw [ByteArray.data_append, Array.toList_append]
  rw [e, List.getElem?_append_left (by rw [Array.length_toList]; exact h)]
theorem bt_app2 {x y : ByteArray} {j : Nat} : bt (x ++ y) ((x.size + j : Nat) : Int) = bt y (j : Int) := by
  unfold bt
  rw [Int.toNat_natCast, Int.toNat_natCast, List.getD_eq_getElem?_getD, List.getD_eq_getElem?_getD]
  have e : (x ++ y).data.toList = x.data.toList ++ y.data.toList := by rw [ByteArray.data_append, Array.toList_append]
  have hz : x.data.toList.length = x.size := by rw [Array.length_toList]; rfl
  rw [e, List.getElem?_append_right (by rw [hz]; omega), hz, Nat.add_sub_cancel_left]
theorem ag_app (u y : ByteArray) : Ag u (u ++ y) 0 0 u.size :=
  ⟨fun j _ h => bt_app1 h, by show u.size ≤ (u ++ y).size; rw [ByteArray.size_append]; omega, Nat.zero_le _⟩
/-- A value stays one where more stands behind the text, that does not go on with a number. -/
theorem wf_app (hw : WfV u p) (hN : Nst (bt y (0 : Int))) : WfV (u ++ y) p := by
  have hl := hw.lt
  have h0 : bt (u ++ y) (u.size : Int) = bt y (0 : Int) := bt_app2 (x := u) (y := y) (j := 0)
  have := Ag.wfV (ag_app u y) p hw (Nat.zero_le _) (by
    rcases Nat.lt_or_ge p.e u.size with g | g
    · exact .inl g
    · exact .inr ⟨by omega, by
        show Nst (bt (u ++ y) (u.size : Int))
        rw [h0]; exact hN⟩)
  rw [mvP_id] at this
  exact this
theorem bl_app0 (h0 : bl u 0 < u.size) : bl (u ++ y) 0 = bl u 0 := Ag.m_bl (ag_app u y) (i := 0) (Nat.zero_le _) h0
/-- The blanks behind the value. -/
theorem bl_app {m : Nat} (hpe : p.e ≤ u.size) (hu : bl u p.e = u.size) (hm : u.size ≤ m) (hb : ∀ j, u.size ≤ j → j < m → isB (bt (u ++ y) (j : Int)) = true) (hn : isB (bt (u ++ y) (m : Int)) = false) : bl (u ++ y) p.e = m := by
  refine bl_eq rfl (by omega) (fun j h1 h2 => ?_) hn
  rcases Nat.lt_or_ge j u.size with g | g
  · rw [bt_app1 g]
    exact bl_blank u p.e j h1 (by omega)
  · exact hb j g h2
mutual
/-- The pairs of surrogates of a value that was moved. -/
theorem pdv_mv (hx : ∀ n : Nat × Nat, v ≤ n.1 → n.1 + 2 ≤ n.2 → n.2 ≤ s.size → s'.extract (sh v 0 n.1 + 1) (sh v 0 n.2 - 1) = s.extract (n.1 + 1) (n.2 - 1)) : ∀ p : PT, WfV s p → v ≤ p.b → PdV s p → PdV s' (mvP v 0 p)
  | .mk k b e ns ks, hw, hv, hp => by
    have hv : v ≤ b := hv
    unfold WfV at hw
    obtain ⟨h1, h2, hw⟩ := hw
    unfold PdV at hp
    obtain ⟨p1, p2, p3⟩ := hp
    unfold mvP PdV
    rcases hw with ⟨a1, a2, a3⟩ | ⟨a1, a2, a3, a4, a5⟩ | ⟨a1, a2, a3, a4⟩ | ⟨a1, a2, a3⟩
    · subst a1; subst a2
      have hk : k ≠ 4 := by
        obtain ⟨_, a3⟩ := a3
        rcases a3 with ⟨g, _⟩ | ⟨g, _⟩ | ⟨g, _⟩ | ⟨g, _⟩ <;> omega
      exact ⟨fun h => absurd h hk, (fun n hn => by cases hn), by unfold mvL PdL; trivial⟩
    · subst a2; subst a3
      have hl := strE_le a5
      refine ⟨fun h => ?_, (fun n hn => by cases hn), by unfold mvL PdL; trivial⟩
      have := hx (b, e) hv (by show b + 2 ≤ e; omega) h2
      have this : s'.extract (sh v 0 b + 1) (sh v 0 e - 1) = s.extract (b + 1) (e - 1) := this
      rw [this]; exact p1 h
    · subst a2
      exact ⟨(fun h => by omega), (fun n hn => by cases hn), pdl_E hx ks true (b + 1) e a4 (by omega) p3⟩
    · obtain ⟨g1, g2⟩ := pdl_M hx ks ns true (b + 1) e a3 (by omega) p3 p2
      exact ⟨(fun h => by omega), g2, g1⟩
theorem pdl_E (hx : ∀ n : Nat × Nat, v ≤ n.1 → n.1 + 2 ≤ n.2 → n.2 ≤ s.size → s'.extract (sh v 0 n.1 + 1) (sh v 0 n.2 - 1) = s.extract (n.1 + 1) (n.2 - 1)) : ∀ (ks : List PT) (first : Bool) (j e : Nat), WfE s first j ks e → v ≤ j → PdL s ks → PdL s' (mvL v 0 ks)
  | [], _, _, _, _, _, _ => by unfold mvL PdL; trivial
  | c :: ks, first, j, e, h, hv, hp => by
    unfold WfE at h
    obtain ⟨h0, h1, h2⟩ := h
    unfold PdL at hp
    have g1 := bl_ge s j
    have g2 := bl_ge s (bl s j + 1)
    have hb : v ≤ c.b := by split at h0 <;> omega
    have hl := h1.lt
    unfold mvL PdL
    exact ⟨pdv_mv hx c h1 hb hp.1, pdl_E hx ks false c.e e h2 (by omega) hp.2⟩
theorem pdl_M (hx : ∀ n : Nat × Nat, v ≤ n.1 → n.1 + 2 ≤ n.2 → n.2 ≤ s.size → s'.extract (sh v 0 n.1 + 1) (sh v 0 n.2 - 1) = s.extract (n.1 + 1) (n.2 - 1)) : ∀ (ks : List PT) (ns : List (Nat × Nat)) (first : Bool) (j e : Nat), WfM s first j ns ks e → v ≤ j → PdL s ks → (∀ n ∈ ns, pd (s.extract (n.1 + 1) (n.2 - 1)) 0 = true) →
    PdL s' (mvL v 0 ks) ∧ ∀ n ∈ ns.map (fun n => (sh v 0 n.1, sh v 0 n.2)), pd (s'.extract (n.1 + 1) (n.2 - 1)) 0 = true
  | [], ns, _, _, _, h, _, _, _ => by
    unfold WfM at h
    rw [h.1]
    exact ⟨by unfold mvL PdL; trivial, fun n hn => by cases hn⟩
  | c :: ks, ns, first, j, e, h, hv, hp, hn => by
    unfold WfM at h
    obtain ⟨n, ns', hns, h0, _, hs, _, hb, h1, h2⟩ := h
    subst hns
    unfold PdL at hp
    have g1 := bl_ge s j
    have g2 := bl_ge s (bl s j + 1)
    have g3 := bl_ge s n.2
    have g4 := bl_ge s (bl s n.2 + 1)
    have hn1 : v ≤ n.1 := by split at h0 <;> omega
    have hl := h1.lt
    have hl2 := strE_le hs
    obtain ⟨c1, c2⟩ := pdl_M hx ks ns' false c.e e h2 (by omega) hp.2 fun m hm => hn m (List.mem_cons_of_mem _ hm)
    unfold mvL PdL
    refine ⟨⟨pdv_mv hx c h1 (by omega) hp.1, c1⟩, fun m hm => ?_⟩
    rw [List.map_cons] at hm
    rcases List.mem_cons.1 hm with rfl | hm
    · have := hx n hn1 (by omega) (by omega)
      show pd (s'.extract (sh v 0 n.1 + 1) (sh v 0 n.2 - 1)) 0 = true
      rw [this]; exact hn n (List.mem_cons_self ..)
    · exact c2 m hm
end
theorem ext_app {a b : Nat} (h : b ≤ u.size) : (u ++ y).extract a b = u.extract a b := by
  apply ByteArray.ext
  simp only [ByteArray.data_extract, ByteArray.data_append]
  apply Array.ext'
  have hl : u.data.toList.length = u.size := Array.length_toList
  simp only [Array.toList_extract, Array.toList_append, List.extract_eq_take_drop]
  rw [← List.drop_take, ← List.drop_take, List.take_append_of_le_length (by omega)]
/-- What is behind a value: not part of a number. -/
theorem isN_blank {c : Int} (h : isB c = true) : isN c = false := by
  rcases isB_iff.1 h with rfl | rfl | rfl | rfl <;> decide
/-- What FjRead says of a text with more behind its value. -/
theorem fjRead_err (hs : s.size ≤ 100000) (hb : bl s 0 = p.b) (hw : WfV s p) (he : bl s p.e ≠ s.size) (hd : p.k = 3 → isN (bt s (p.e : Int)) = false) (hlv : lv p ≤ 300) :
    Calls Tryz.prog 10 #[.string s] w fun e w' => (∃ (m : NT) (a b : Sl), e = .returned (.tuple #[.agg (nc m.k m.t a b).toArray, .bool false])) ∧ Kp Off w w' := by
  refine impl_FjRead.calls _ ?_
  unfold impl_FjRead.t
  refine s_alloc ?_
  have b0 := Blk.new w zn tN
  have k0 : Kp Off w (w.alloc (.cells zn.toArray tN (0, 0))) := (Kp.refl Off w).alloc _
  show sat _ _ _ (w.alloc (.cells zn.toArray tN (0, 0)))
  have z0 : (w.alloc (.cells zn.toArray tN (0, 0))).heap.size = w.heap.size + 1 := by simp
  generalize w.alloc (.cells zn.toArray tN (0, 0)) = w1 at k0 b0 z0
  refine s_alloc ?_
  have c0 := Blk.new w1 [slV (none, 0, 0), slV (none, 0, 0)] tPr
  have k1 : Kp Off w1 (w1.alloc (.cells [slV (none, 0, 0), slV (none, 0, 0)].toArray tPr (0, 0))) := (Kp.refl Off w1).alloc _
  show sat _ _ _ (w1.alloc (.cells [slV (none, 0, 0), slV (none, 0, 0)].toArray tPr (0, 0)))
  generalize w1.alloc (.cells [slV (none, 0, 0), slV (none, 0, 0)].toArray tPr (0, 0)) = w2 at k1 c0
  refine s_call (parse_any hs hw hb.symm hd hlv c0) ?_
  rintro e w3 ⟨_, h2, k3⟩
  obtain ⟨er, rfl, hE⟩ := h2 he
  have k13 : Kp Off w1 w3 := k1.then k3 fun q hq e => by have e : q = w1.heap.size := e; omega
  have b3 := k13.blk b0 id
  refine ⟨(none, er, ()), rfl, s_chk hE.1 ?_⟩
  refine s_ite (fun _ => ?_) (fun g => by have g : (!(isNil er)) = false := g; rw [hE.2] at g; cases g)
  obtain ⟨w4, h4, c4, k4⟩ := storeN b3 rfl 0 (ByteArray.mk #[]) (none, 0, 0) (none, 0, 0)
  exact s_effU h4 (s_effS ((0 : Int), ByteArray.mk #[], (none, 0, 0), (none, 0, 0), ()) (loadN c4) (s_leaf ⟨rfl, ⟨.mk 0 (ByteArray.mk #[]) [] [], (none, 0, 0), (none, 0, 0), rfl⟩, (k0.trans k13).then k4 fun q hq e => by have : q = w.heap.size := e; omega⟩))
theorem fjRead_ok (hs : s.size ≤ 100000) (hp : Whole s p) (hlv : lv p ≤ 300) (hpd : PdV (sfx s p.b) (mvP p.b 0 p)) :
    Calls Tryz.prog 10 #[.string s] w fun e w' => (∃ (m : NT) (a b : Sl), e = .returned (.tuple #[.agg (nc m.k m.t a b).toArray, .bool true])) ∧ Kp Off w w' := by
  obtain ⟨hb, hw, _⟩ := id hp
  have hl := hw.lt
  have hz := sfx_size s p.b
  obtain ⟨hw', _, _⟩ := wf_sfx hw
  refine impl_FjRead.calls _ ?_
  unfold impl_FjRead.t
  refine s_alloc ?_
  have b0 := Blk.new w zn tN
  have k0 : Kp Off w (w.alloc (.cells zn.toArray tN (0, 0))) := (Kp.refl Off w).alloc _
  show sat _ _ _ (w.alloc (.cells zn.toArray tN (0, 0)))
  have z0 : (w.alloc (.cells zn.toArray tN (0, 0))).heap.size = w.heap.size + 1 := by simp
  generalize w.alloc (.cells zn.toArray tN (0, 0)) = w1 at k0 b0 z0
  refine s_alloc ?_
  have c0 := Blk.new w1 [slV (none, 0, 0), slV (none, 0, 0)] tPr
  have k1 : Kp Off w1 (w1.alloc (.cells [slV (none, 0, 0), slV (none, 0, 0)].toArray tPr (0, 0))) := (Kp.refl Off w1).alloc _
  show sat _ _ _ (w1.alloc (.cells [slV (none, 0, 0), slV (none, 0, 0)].toArray tPr (0, 0)))
  generalize w1.alloc (.cells [slV (none, 0, 0), slV (none, 0, 0)].toArray tPr (0, 0)) = w2 at k1 c0
  refine s_call (parse_whole hs hp hlv c0) ?_
  rintro e w3 ⟨x1, v, rfl, hV, k3⟩
  have k13 : Kp Off w1 w3 := k1.then k3 fun q hq e => by have e : q = w1.heap.size := e; omega
  refine ⟨(some ⟨v.1, v.2, none⟩, .nilIface, ()), rfl, s_chk rfl (sat_iteF.2 ?_)⟩
  refine s_call (node_any (s := sfx s p.b) (by omega) _ (mvP p.b 0 p) w3 v _ (Nat.lt_succ_self _) hw' hpd hV fun y hy => hy.2.1) ?_
  rintro e w4 ⟨a, b, rfl, hN, f4⟩
  have hz1 := k1.size
  have k14 : Kp Off w1 w4 := k13.then f4.kp fun q hq ⟨o, ho⟩ => by have g : w2.heap.size ≤ q := reg_new ho; omega
  have b4 := k14.blk b0 id
  generalize treeN (sfx s p.b) (mvP p.b 0 p) = nt at hN
  refine ⟨((nt.k : Int), nt.t, a, b, ()), rfl, ?_⟩
  obtain ⟨w5, h5, c5, k5⟩ := storeN b4 rfl nt.k nt.t a b
  exact s_effU h5 (s_effS ((nt.k : Int), nt.t, a, b, ()) (loadN c5) (s_leaf ⟨rfl, ⟨nt, a, b, rfl⟩, (k0.trans k14).then k5 fun q hq e => by have : q = w.heap.size := e; omega⟩))
theorem vv_all (hs : s.size ≤ 100000) : ∀ N, VV s N
  | 0 => fun _ _ h => absurd h (Nat.not_lt_zero _)
  | N + 1 => vv_step hs (vv_all hs N)
/-- Validate gives an error where more stands behind the value. -/
theorem fjValid_err (hs : s.size ≤ 100000) (hb : bl s 0 = p.b) (hw : WfV s p) (he : bl s p.e < s.size) :
    Calls Tryz.prog 11 #[.string s] w fun e w' => e = .returned (.bool false) ∧ Kp Off w w' := by
  have hs62 : s.size < 4611686018427387904 := by omega
  have hv : Calls Tryz.prog 20 #[.string s] w fun e w' => ∃ er, e = .returned er ∧ Err er ∧ Kp Off w w' := by
    refine fastjson_Validate.calls _ ?_
    unfold fastjson_Validate.t
    have sk := skip_any (w := w) (s := s) (i := 0) hs62
    rw [sfx_zero, hb] at sk
    refine s_call sk ?_
    rintro e w1 ⟨rfl, rfl⟩
    refine ⟨sfx s p.b, rfl, ?_⟩
    refine s_call (vv_all hs _ p w1 (Nat.lt_succ_self _) hw) ?_
    rintro e w2 ⟨tail, er, rfl, ⟨hi, hn⟩, k2⟩
    have bad : ∀ {text : ByteArray} {w2 : World}, Kp Off w1 w2 → sat Tryz.prog (.call 38 #[.string text] .any fun (v2 : Value) => .leaf 0 [v2]) (fun l vs w' => l = 0 ∧ ∃ er, Ending.returned (retVal vs) = .returned er ∧ Err er ∧ Kp Off w1 w') w2 := fun k2 => by
      refine s_call new_any ?_
      rintro e w3 ⟨er, rfl, hE, k3⟩
      exact ⟨er, rfl, s_leaf ⟨rfl, er, rfl, hE, k2.trans k3⟩⟩
    refine ⟨(tail, er, ()), rfl, s_chk hi (s_ite (fun _ => bad k2) (fun g => ?_))⟩
    have hnil : isNil er = true := by
      have g : (!(isNil er)) = false := g
      cases hx : isNil er with
      | true => rfl
      | false => rw [hx] at g; cases g
    have ht := hn hnil
    subst ht
    refine s_call (skip_any hs62) ?_
    rintro e w3 ⟨rfl, rfl⟩
    have hz := sfx_size s (bl s p.e)
    refine ⟨sfx s (bl s p.e), rfl, s_iteD (fun _ => bad k2) (fun g => ?_)⟩
    have g : ¬ ((((sfx s (bl s p.e)).size : Nat) : Int) > 0) := g
    omega
  refine impl_FjValid.calls _ ?_
  unfold impl_FjValid.t
  refine s_call hv ?_
  rintro e w1 ⟨er, rfl, hE, k1⟩
  refine ⟨er, rfl, s_chk hE.1 (s_leaf ⟨rfl, ?_, k1⟩)⟩
  show Ending.returned (.bool (isNil er)) = _
  rw [hE.2]
end Go.Proofs.YtkpnomdmnhhaoaaGreatDoor.Zv
