/- The law FnJpSetTwice: the law's walk, where what comes in is of bulk at most 1048576 (the statement's second form). -/
import Derived.Test.YtlfebfkphgelfaaDoorSl
import Derived.Test.YtlfebfkphgelfaaDoorTe
import Derived.Test.YtlfebfkphgelfaaDoorLu
import Derived.Test.YtlfebfkphgelfaaDoorLk
namespace Go.Proofs.YtlfebfkphgelfaaDoor.LawJpSetTwice
open Go Go.Proofs Go.RowKit Go.Proofs.YtlfebfkphgelfaaDoor.Rx Go.Proofs.YtlfebfkphgelfaaDoor.Tr Go.Proofs.YtlfebfkphgelfaaDoor.Pl Go.Proofs.YtlfebfkphgelfaaDoor.Pw Go.Proofs.YtlfebfkphgelfaaDoor.Lj
open Go.Proofs.YtlfebfkphgelfaaDoor.Sr (tP pc storeP loadP zp PlAt places)
open Go.Proofs.YtlfebfkphgelfaaDoor.Ka (Kx nmS Led New newT clen compL)
open Go.Proofs.YtlfebfkphgelfaaDoor.Ed (put put_size mkB mkB_size)

theorem newT_le {s : ByteArray} {p0 : PT} {ks1 rs : List ByteArray} {k : ByteArray} {b e : Nat} {ns : List (Nat × Nat)} {ks : List PT} (hN : New s p0 ks1 b e ns ks k rs) (v : List UInt8) : (newT s ks1 b e ks k rs v).size ≤ s.size + (k.size + 7 + v.length + clen rs) := by
  obtain ⟨w1, w2, _, _⟩ := Gk.wf_obj hN.led.wfp
  have hl := fun c o => Ka.comp_len c o k rs v
  have hb : ∀ x, Ka.b1 x ≤ 1 := fun x => by cases x <;> decide
  unfold newT
  split
  · have h := hl true false
    have h1 := hb true
    have h2 := hb false
    rw [put_size (by omega) (by omega), mkB_size]; omega
  · split
    · have h := hl false false
      have h2 := hb false
      rw [put_size (by omega) (by omega), mkB_size]; omega
    · have h := hl false true
      have h1 := hb true
      have h2 := hb false
      rw [put_size (by omega) (by omega), mkB_size]; omega
theorem clen_tot : ∀ {rs : List ByteArray}, (∀ key ∈ rs, 0 < key.size) → clen rs ≤ 3 * Lv.tot rs
  | [], _ => Nat.zero_le _
  | r :: rs, h => by
    have h1 := h r (List.mem_cons_self ..)
    have h2 := clen_tot (rs := rs) fun k hk => h k (List.mem_cons_of_mem _ hk)
    show r.size + 5 + clen rs ≤ 3 * (r.size + 1 + Lv.tot rs)
    omega
theorem walk_q {s a c : ByteArray} {q : Ka.Sl} {keys : List ByteArray} {W : World} {ak : Addr} (hK : Kx W q keys) (hC : Je.Cv W) (hT : Je.Lt W) (hE : Je.Ev W Je.gE) (hk : Ka.Ek W ak) (ht : Lv.tot keys ≤ 1048576) :
    Calls Tryd.prog 3 #[.string s, .string a, .string c, Ka.slV q] W fun e w' => e = .returned (.bool true) ∧ RowKit.Below W.heap.size W w' := by
  refine laws_FnJpSetTwice.calls _ _ _ _ _ _ ?_
  unfold laws_FnJpSetTwice.t
  have hl := hK.len
  have done : ∀ (w1 : World), Kp Off W w1 → (Ending.returned (retVal [.bool true]) = .returned (.bool true) ∧ RowKit.Below W.heap.size W w1) := fun w1 h => ⟨rfl, h.belowOff⟩
  refine s_cut (fun z w' => (z.1 = true ∨ (z.1 = false ∧ keys.length ≤ 2147483647 ∧ ∀ key ∈ keys, key.size ≤ 140737488351232)) ∧ W = w') (s_iteD (fun _ => s_leaf ?_) (fun _ => s_iteD (fun _ => s_leaf ?_) (fun _ => s_iteD (fun _ => s_leaf ?_) (fun _ => ?_)))) ?_
  · rw [if_pos rfl]; exact ⟨(true, ()), rfl, .inl rfl, rfl⟩
  · rw [if_pos rfl]; exact ⟨(true, ()), rfl, .inl rfl, rfl⟩
  · rw [if_pos rfl]; exact ⟨(true, ()), rfl, .inl rfl, rfl⟩
  · refine s_call (fits1_any hK) ?_
    rintro e w1 ⟨⟨b, rfl, hb⟩, rfl⟩
    refine ⟨b, rfl, s_leaf ?_⟩
    rw [if_pos rfl]
    refine ⟨(!b, ()), rfl, ?_, rfl⟩
    cases b with
    | false => exact .inl rfl
    | true => exact .inr ⟨rfl, hb rfl⟩
  rintro ⟨bb, u⟩ w' ⟨hbb, rfl⟩
  show sat _ (laws_FnJpSetTwice.t1 s a c q.1 q.2.1 q.2.2 bb) _ _
  unfold laws_FnJpSetTwice.t1
  rcases hbb with hbb | ⟨hbb, hkl, hkz⟩
  · have hbb : bb = true := hbb
    subst hbb
    exact sat_iteT.2 (s_leaf ⟨rfl, done W (Kp.refl _ _)⟩)
  have hbb : bb = false := hbb
  subst hbb
  refine sat_iteF.2 ?_
  have place : ∀ (w1 : World) (k b e1 : Int) (na ka : Sr.Sl), ∃ w2, (Instr.storeAt tP (.pointer (some ⟨w1.heap.size, 0, none⟩)) (.agg (pc k b e1 na ka).toArray)).run Tryd.prog (w1.alloc (.cells zp.toArray tP (0, 0))) = .ok () w2 ∧ Blk w2 w1.heap.size (pc k b e1 na ka) tP ∧ Kp Off w1 w2 := by
    intro w1 k b e1 na ka
    obtain ⟨w2, h2, c2, k2⟩ := storeP (Blk.new w1 zp tP) rfl k b e1 na ka
    exact ⟨w2, h2, c2, (((Kp.refl (fun q => q = w1.heap.size) w1).alloc _).trans (k2.mono fun q _ h => h)).mono fun q hq h => by omega⟩
  refine s_call (jpFound_any (s := s) hK hkz (by omega)) ?_
  rintro e w1 ⟨⟨k, b, e1, na, ka, x, rfl, hx⟩, k1⟩
  refine ⟨((k, b, e1, na, ka, ()), x, ()), rfl, s_alloc ?_⟩
  obtain ⟨w2, h2, c2, k2⟩ := place w1 k b e1 na ka
  refine s_effU h2 ?_
  have k02 := k1.trans k2
  refine s_call (jpNew_any (s := s) (hK.kp k02) hkz (by omega)) ?_
  rintro e w3 ⟨⟨n, y, rfl, hy⟩, k3⟩
  refine ⟨(n, y, ()), rfl, ?_⟩
  have k03 := k02.trans k3
  refine s_call (jpPlaces_any (s := a)) ?_
  rintro e w4 ⟨⟨k5, b5, e5, na5, ka5, x5, rfl, hx5⟩, k4⟩
  refine ⟨((k5, b5, e5, na5, ka5, ()), x5, ()), rfl, s_alloc ?_⟩
  obtain ⟨w6, h6, c6, k6⟩ := place w4 k5 b5 e5 na5 ka5
  refine s_effU h6 ?_
  have k06 := (k03.trans k4).trans k6
  refine s_call (jpPlaces_any (s := c)) ?_
  rintro e w7 ⟨⟨k8, b8, e8, na8, ka8, x8, rfl, hx8⟩, k7⟩
  refine ⟨((k8, b8, e8, na8, ka8, ()), x8, ()), rfl, s_alloc ?_⟩
  obtain ⟨w8, h8, c8, k88⟩ := place w7 k8 b8 e8 na8 ka8
  refine s_effU h8 ?_
  have k08 := (k06.trans k7).trans k88
  have c68 := (k7.trans k88).blk c6 id
  have rest : ∀ {Q : Nat → List Value → World → Prop}, (Q 1 [.bool true] w8) → (keys ≠ [] → x5 = true → x8 = true → ¬ b5 > 0 → ∀ bb : Bool, bb = decide (e5 < (((ByteArray.size a) : Nat) : Int)) → Q 1 [.bool bb] w8) →
      sat Tryd.prog (.ite (((q.2.1 : Nat) : Int) == (0 : Int)) (
            .leaf 1 [(Value.bool Bool.true)]) (
            .ite (!x5) (
              .leaf 1 [(Value.bool Bool.true)]) (
              .ite (!x8) (
                .leaf 1 [(Value.bool Bool.true)]) (
                .load (Addr.add ⟨w4.heap.size, 0, none⟩ 1) (.int .i64) fun (i9 : Int) =>
                .ite (decide (i9 > (0 : Int))) (
                  .leaf 1 [(Value.bool Bool.true)]) (
                  .load (Addr.add ⟨w4.heap.size, 0, none⟩ 2) (.int .i64) fun (i10 : Int) =>
                  .leaf 1 [(Value.bool (decide (i10 < (((ByteArray.size a) : Nat) : Int))))]))))) Q w8 := by
    intro Q h1 h2
    refine s_iteE (fun _ => s_leaf h1) (fun g0 => ?_)
    have hne : keys ≠ [] := fun e => g0 (by rw [hl, e]; rfl)
    cases x5 with
    | false => exact sat_iteT.2 (s_leaf h1)
    | true =>
      refine sat_iteF.2 ?_
      cases x8 with
      | false => exact sat_iteT.2 (s_leaf h1)
      | true =>
        refine sat_iteF.2 (s_load b5 (by rw [addr_add, Nat.zero_add, c68.cell]; rfl) (s_iteD (fun _ => s_leaf h1) (fun g => s_load e5 (by rw [addr_add, Nat.zero_add, c68.cell]; rfl) (s_leaf (h2 hne rfl rfl g _ rfl)))))
  refine s_cut (fun z w' => (z.1 = true ∨ (z.1 = false ∧ (x = true ∨ y = true) ∧ keys ≠ [] ∧ x5 = true ∧ x8 = true ∧ ¬ b5 > 0 ∧ ¬ e5 < (((ByteArray.size a) : Nat) : Int))) ∧ w8 = w') ?_ ?_
  · have fin : (x = true ∨ y = true) → keys ≠ [] → x5 = true → x8 = true → ¬ b5 > 0 → ∀ bb : Bool, bb = decide (e5 < (((ByteArray.size a) : Nat) : Int)) → ∃ z : (Bool × PUnit), [Value.bool bb] = (Sh.cons .bool .nil).vals z ∧ (z.1 = true ∨ (z.1 = false ∧ (x = true ∨ y = true) ∧ keys ≠ [] ∧ x5 = true ∧ x8 = true ∧ ¬ b5 > 0 ∧ ¬ e5 < (((ByteArray.size a) : Nat) : Int))) ∧ w8 = w8 := by
      rintro h0 h1 h2 h3 h4 bb rfl
      refine ⟨(_, ()), rfl, ?_, rfl⟩
      by_cases g : e5 < (((ByteArray.size a) : Nat) : Int)
      · exact .inl (decide_eq_true g)
      · exact .inr ⟨decide_eq_false g, h0, h1, h2, h3, h4, g⟩
    have yes : ∃ z : (Bool × PUnit), [Value.bool true] = (Sh.cons .bool .nil).vals z ∧ (z.1 = true ∨ (z.1 = false ∧ (x = true ∨ y = true) ∧ keys ≠ [] ∧ x5 = true ∧ x8 = true ∧ ¬ b5 > 0 ∧ ¬ e5 < (((ByteArray.size a) : Nat) : Int))) ∧ w8 = w8 := ⟨(true, ()), rfl, .inl rfl, rfl⟩
    cases hxx : x with
    | false =>
      refine sat_iteT.2 ?_
      cases hyy : y with
      | false => exact sat_iteT.2 (s_leaf (by rw [if_pos rfl]; rw [hxx, hyy] at yes; exact yes))
      | true =>
        rw [hxx, hyy] at yes fin
        exact sat_iteF.2 (rest (by rw [if_pos rfl]; exact yes) (fun h1 h2 h3 h4 bb hb => by rw [if_pos rfl]; exact fin (.inr rfl) h1 h2 h3 h4 bb hb))
    | true =>
      rw [hxx] at yes fin
      exact sat_iteF.2 (rest (by rw [if_pos rfl]; exact yes) (fun h1 h2 h3 h4 bb hb => by rw [if_pos rfl]; exact fin (.inl rfl) h1 h2 h3 h4 bb hb))
  rintro ⟨bb, u⟩ w' ⟨hbb, rfl⟩
  show sat _ (laws_FnJpSetTwice.t2 s a c q.1 q.2.1 q.2.2 bb) _ _
  unfold laws_FnJpSetTwice.t2
  rcases hbb with hbb | ⟨hbb, hxy, hne, rfl, rfl, hb5, he5⟩
  · have hbb : bb = true := hbb
    subst hbb
    exact sat_iteT.2 (s_leaf ⟨rfl, done w8 k08⟩)
  have hbb : bb = false := hbb
  subst hbb
  refine sat_iteF.2 ?_
  obtain ⟨ha, pa, hpa, _, rfl, rfl, _⟩ := hx5 rfl
  obtain ⟨hc, _⟩ := hx8 rfl
  obtain ⟨_, hwa, _⟩ := places_of hpa
  have hla := hwa.lt
  have hpb : pa.b = 0 := by omega
  have hpe : pa.e = a.size := by omega
  -- the three calls
  suffices key : ∃ R1 R2 : ByteArray, (∀ w, Kp Off W w → Calls Tryd.prog 9 #[.string s, .string a, Ka.slV q] w fun en w' => en = .returned (.tuple #[.string R1, .bool true]) ∧ Kp Off w w') ∧
      (∀ w, Kp Off W w → Calls Tryd.prog 9 #[.string R1, .string c, Ka.slV q] w fun en w' => en = .returned (.tuple #[.string R2, .bool true]) ∧ Kp Off w w') ∧
      (∀ w, Kp Off W w → Calls Tryd.prog 9 #[.string s, .string c, Ka.slV q] w fun en w' => en = .returned (.tuple #[.string R2, .bool true]) ∧ Kp Off w w') by
    obtain ⟨R1, R2, f1, f2, f3⟩ := key
    refine s_call (f1 w8 k08) ?_
    rintro e w9 ⟨rfl, k9⟩
    have k09 := k08.trans k9
    refine ⟨(R1, true, ()), rfl, s_call (f2 w9 k09) ?_⟩
    rintro e w10 ⟨rfl, k10⟩
    have k010 := k09.trans k10
    refine ⟨(R2, true, ()), rfl, s_call (f3 w10 k010) ?_⟩
    rintro e w11 ⟨rfl, k11⟩
    refine ⟨(R2, true, ()), rfl, sat_iteT.2 (sat_iteT.2 (sat_iteT.2 (s_leaf ⟨rfl, ?_⟩)))⟩
    show Ending.returned (retVal [.bool (strEq R2 R2)]) = _ ∧ _
    rw [strEq_iff.2 rfl]
    exact done w11 (k010.trans k11)
  rcases hxy with rfl | rfl
  · obtain ⟨hs, p0, p, hled, _⟩ := hx rfl
    have hpl := hled.wfp.lt
    have hsw := Ed.sw_put hled hwa hpb hpe
    obtain ⟨p0', hled'⟩ := Ed.led_sw hled hsw
    have hz := put_size (t := a) (Nat.le_of_lt hpl.1) hpl.2
    refine ⟨put s p.b p.e a, put s p.b p.e c, fun w kk => Ka.jpSetOld_any (by omega) (by omega) (hC.off kk) (hT.off' kk) (hE.kp kk id) (hK.kp kk) hled hne, fun w kk => ?_, fun w kk => Ka.jpSetOld_any (by omega) (by omega) (hC.off kk) (hT.off' kk) (hE.kp kk id) (hK.kp kk) hled hne⟩
    have h := Ka.jpSetOld_any (t := c) (by omega) (by omega) (hC.off kk) (hT.off' kk) (hE.kp kk id) (hK.kp kk) hled' hne
    rw [Ed.mvP_b, Ed.mvP_e] at h
    have e1 : Ed.sh 0 p.b pa.b = p.b := by rw [hpb]; show 0 + p.b - 0 = p.b; omega
    have e2 : Ed.sh 0 p.b pa.e = p.b + a.size := by rw [hpe]; show a.size + p.b - 0 = _; omega
    rw [e1, e2, put_again (Nat.le_of_lt hpl.1) hpl.2] at h
    exact h
  · obtain ⟨p0, last, m, _, h6, hEnd⟩ := hy rfl
    have hs := hEnd.size
    have hlt := hEnd.lt
    obtain ⟨kn, rs, hkr⟩ : ∃ kn rs, keys.drop m = kn :: rs := by
      cases hd : keys.drop m with
      | nil => have := List.length_drop (l := keys) (i := m); rw [hd] at this; simp at this; omega
      | cons kn rs => exact ⟨kn, rs, rfl⟩
    have hkeys : keys = keys.take m ++ kn :: rs := by rw [← hkr]; exact (List.take_append_drop m keys).symm
    have hkn : keys[m]? = some kn := by
      have : (keys.drop m)[0]? = some kn := by rw [hkr]; rfl
      rwa [List.getElem?_drop, Nat.add_zero] at this
    have hall : ∀ key ∈ kn :: rs, Ed.AsIs key ∧ Ka.NoI key := fun key hk => hEnd.asis key (by rw [hkr]; exact hk)
    have htot : Lv.tot (keys.take m) + (kn.size + 1 + Lv.tot rs) ≤ 1048576 := by
      have e := Lv.tot_append (keys.take m) (kn :: rs)
      rw [← hkeys] at e
      have : Lv.tot (kn :: rs) = kn.size + 1 + Lv.tot rs := rfl
      omega
    have hcl := clen_tot (rs := rs) fun key hk => (hall key (List.mem_cons_of_mem _ hk)).2.1
    have htl := Lv.tot_len (keys.take m)
    obtain ⟨b, e, ns, ks, hNew, hnk⟩ := new_of (ks1 := keys.take m) (rs := rs) (k := kn) hEnd.led h6 (hEnd.no kn hkn) (by rw [← hkeys]; exact hEnd.once) (fun key hk => (hall key hk).2)
    obtain ⟨p0', q', hL', hput⟩ := Ka.newT_led hNew hnk (hall kn (List.mem_cons_self ..)).1 (fun r hr => (hall r (List.mem_cons_of_mem _ hr)).1) hwa hpb hpe
    have hzn := newT_le hNew a.data.toList
    have hal : a.data.toList.length = a.size := Ed.len_of a
    have hK' : Kx W q (keys.take m ++ kn :: rs) := by rw [← hkeys]; exact hK
    have hne' : keys.take m ++ kn :: rs ≠ [] := by rw [← hkeys]; exact hne
    refine ⟨newT s (keys.take m) b e ks kn rs a.data.toList, newT s (keys.take m) b e ks kn rs c.data.toList,
      fun w kk => Ka.jpSetNew_any (by omega) (hC.off kk) (hT.off' kk) (hE.kp kk id) (hk.kp kk) (hK'.kp kk) hNew (by omega) (by omega), fun w kk => ?_,
      fun w kk => Ka.jpSetNew_any (by omega) (hC.off kk) (hT.off' kk) (hE.kp kk id) (hk.kp kk) (hK'.kp kk) hNew (by omega) (by omega)⟩
    have h := Ka.jpSetOld_any (t := c) (by omega) (by omega) (hC.off kk) (hT.off' kk) (hE.kp kk id) (hK'.kp kk) hL' hne'
    rw [hput c] at h
    exact h
open Go.ChangeShapes Go.WideShapes
set_option maxRecDepth 100000 in
theorem walk {H : Type} {enc : TypeId × Value → H} {base : Nat} {spare : Nat → Bool} {held : Bool} {r : Reach} {b0 : Nat} (s a c : ByteArray) (v : Value) (W : World) {d : DataW H} {p : List MemPlace} (_ : s.size ≤ 140737488351232) (_ : a.size ≤ 140737488351232) (_ : c.size ≤ 140737488351232)
    (hv : Value.okWide Tryd.prog W r b0 Lv.tKs v) (h : DataW.Trod enc Tryd.prog W base spare held Lv.tKs v d p) (hL : laidMetH Tryd.prog Rows.fnJpSetTwiceRow.laid W)
    (hk : Rows.uptoSmall H [.lit (.string s.data.toList), .lit (.string a.data.toList), .lit (.string c.data.toList), d] = true) :
    Calls Tryd.prog 3 #[.string s, .string a, .string c, v] W fun e w' => e = .returned (.bool true) ∧ RowKit.Below W.heap.size W w' := by
  have hM := Lv.laid_of_H hL (by kernel_rfl)
  obtain ⟨q, keys, rfl, hK, ht⟩ := Lv.keys_bulk hv h
  have hb : Rows.uptoBulkAll [(.lit (.string s.data.toList) : DataW H), .lit (.string a.data.toList), .lit (.string c.data.toList), d] ≤ 1048576 := of_decide_eq_true hk
  simp only [Rows.uptoBulkAll, Rows.uptoBulk] at hb
  obtain ⟨ak, hak⟩ := Lv.evK (Lv.laidMet_drop 7 _ hM)
  exact walk_q hK (Lv.cv_of (Lv.laidMet_drop 5 _ hM)) (Lv.lt_of (Lv.laidMet_drop 6 _ hM)) (Lv.evE (Lv.laidMet_drop 13 _ hM)) hak (by omega)
end Go.Proofs.YtlfebfkphgelfaaDoor.LawJpSetTwice
