/- jsonparser's setConfig where the keys lead to an object that lacks the next one, whole. No statement of the set is proved here. -/
import Derived.Test.YtlfebfkphgelfaaDoorSd
namespace Go.Proofs.YtlfebfkphgelfaaDoor.Ka
open Go Go.Proofs Go.RowKit Go.Proofs.YtlfebfkphgelfaaDoor.Rx Go.Proofs.YtlfebfkphgelfaaDoor.Tr Go.Proofs.YtlfebfkphgelfaaDoor.Pl Go.Proofs.YtlfebfkphgelfaaDoor.Pw Go.Proofs.YtlfebfkphgelfaaDoor.Sk
open Go.Proofs.YtlfebfkphgelfaaDoor.Ed (opn nstL insL AsIs mkB len_of mkB_size put put_size put_toList eq_of_list mkB_list)

variable {w w' : World} {x y q : Sl} {s t : ByteArray} {keys rs ks1 : List ByteArray} {k : ByteArray} {h N : Nat} {l : List UInt8} {z0 : Nat}
theorem t2_pos {Q : Nat → List Value → World → Prop} {i14 i15 : Int} {e : Nat}
    (h : sat Tryd.prog (jsonparser_setConfig.t13 x.1 x.2.1 x.2.2 y.1 y.2.1 y.2.2 q.1 q.2.1 q.2.2 ⟨z0, 0, none⟩ i14 i15 false true (e : Int) 0 0 0 false false false) Q w) :
    sat Tryd.prog (jsonparser_setConfig.t2 x.1 x.2.1 x.2.2 y.1 y.2.1 y.2.2 q.1 q.2.1 q.2.2 ⟨z0, 0, none⟩ i14 i15 (e : Int)) Q w := by
  unfold jsonparser_setConfig.t2
  refine s_cut (fun z w' => z = (false, true, (e : Int), (0 : Int), (0 : Int), (0 : Int), false, false, false, ()) ∧ w = w') (s_iteE (fun g => absurd g (by omega)) (fun _ => s_leaf (by rw [if_pos rfl]; exact ⟨(false, true, (e : Int), (0 : Int), (0 : Int), (0 : Int), false, false, false, ()), rfl, rfl, rfl⟩))) ?_
  rintro z w' ⟨rfl, rfl⟩
  exact h
theorem t2_zero {Q : Nat → List Value → World → Prop} {i14 i15 : Int} {b m : Nat} (hs : s.size ≤ 4000000) (hT : Tx w x s 0 s.size) (hKx : Kx w q (k :: rs)) (hk : NoI k) (hB : Blk w z0 (cfC 0) tCf) (hb : bl s 0 = b) (h123 : bt s (b : Int) = 123) (hbl : bl s (b + 1) < s.size)
    (hm : m < s.size) (h125 : bt s (m : Int) = 125) (hbk : ∀ j, m < j → j < s.size → isB (bt s (j : Int)) = true)
    (h : ∀ w', Kp Off w w' → sat Tryd.prog (jsonparser_setConfig.t13 x.1 x.2.1 x.2.2 y.1 y.2.1 y.2.2 q.1 q.2.1 q.2.2 ⟨z0, 0, none⟩ i14 i15 false (decide (bt s (bl s (b + 1) : Int) ≠ 125)) (m : Int) 0 0 0 false false false) Q w') :
    sat Tryd.prog (jsonparser_setConfig.t2 x.1 x.2.1 x.2.2 y.1 y.2.1 y.2.2 q.1 q.2.1 q.2.2 ⟨z0, 0, none⟩ i14 i15 (-1)) Q w := by
  have hxl := hT.len
  have hxc := hT.cap
  have hk0 : (k :: rs)[0]? = some k := rfl
  have hk1 := hk.1
  have hbs : b < s.size := lt_of_bt (by omega)
  unfold jsonparser_setConfig.t2
  refine s_cut (fun z w' => z = (false, decide (bt s (bl s (b + 1) : Int) ≠ 125), (m : Int), (0 : Int), (0 : Int), (0 : Int), false, false, false, ()) ∧ Kp Off w w') (s_iteE (fun _ => ?_) (fun g => absurd rfl g)) (fun z w' ⟨hz, k1⟩ => by rw [hz]; exact h w' k1)
  refine s_eff (w' := w) (false, false, (0 : Int), ()) (cfg_run hB) ?_
  refine s_call (next_any (m := 0) hT (by omega) (by rw [hb]; exact hbs)) ?_
  rintro en w1 ⟨rfl, k1⟩
  rw [hb, Nat.sub_zero]
  have hT1 := hT.kp k1
  have hK1 := hKx.kp k1
  have hB1 := k1.blk hB id
  refine ⟨(b : Int), rfl, s_iteD (fun g => absurd g (by omega)) (fun _ => ?_)⟩
  refine s_cut (fun z w' => z = (false, ()) ∧ w1 = w') ?_ ?_
  · refine s_key0 hK1 hk0 (s_iteD (fun _ => s_key0 hK1 hk0 (s_chk ⟨by omega, by omega⟩ (s_leaf ?_))) (fun g => absurd (by omega) g))
    rw [if_pos rfl, beq_eq_false_iff_ne.2 hk.2]; exact ⟨(false, ()), rfl, rfl, rfl⟩
  rintro z w' ⟨rfl, rfl⟩
  show sat _ (jsonparser_setConfig.t3 x.1 x.2.1 x.2.2 q.1 q.2.1 ⟨z0, 0, none⟩ (b : Int) false) _ _
  unfold jsonparser_setConfig.t3
  refine s_cut (fun z w' => z = (true, ()) ∧ w1 = w') (s_key0 hK1 hk0 (s_iteD (fun _ => s_leaf (by rw [if_pos rfl]; exact ⟨(true, ()), rfl, rfl, rfl⟩)) (fun g => absurd (by omega) g))) ?_
  rintro z w' ⟨rfl, rfl⟩
  show sat _ (jsonparser_setConfig.t4 x.1 x.2.1 x.2.2 ⟨z0, 0, none⟩ (b : Int) false true) _ _
  unfold jsonparser_setConfig.t4
  refine s_at hT1 (by omega) (s_at hT1 (by omega) ?_)
  rw [Nat.zero_add, h123]
  refine s_cut (fun z w' => z = (false, ()) ∧ w1 = w') (sat_iteF.2 (sat_iteT.2 (s_leaf (by rw [if_pos rfl]; exact ⟨(false, ()), rfl, rfl, rfl⟩)))) ?_
  rintro z w' ⟨rfl, rfl⟩
  show sat _ (jsonparser_setConfig.t5 x.1 x.2.1 x.2.2 ⟨z0, 0, none⟩ (b : Int) false 123 123 false) _ _
  unfold jsonparser_setConfig.t5
  refine s_cut (fun z w' => z = (false, decide (bt s (bl s (b + 1) : Int) ≠ 125), (m : Int), (0 : Int), (0 : Int), (0 : Int), false, false, false, ()) ∧ Kp Off w w') (sat_iteF.2 ?_) ?_
  · refine s_cut (fun z w' => z = (false, ()) ∧ w1 = w') (sat_iteF.2 (s_leaf (by rw [if_pos rfl]; exact ⟨(false, ()), rfl, rfl, rfl⟩))) ?_
    rintro z w' ⟨rfl, rfl⟩
    show sat _ (jsonparser_setConfig.t6 x.1 x.2.1 x.2.2 ⟨z0, 0, none⟩ (b : Int) 123 false) _ _
    unfold jsonparser_setConfig.t6
    refine s_cut (fun z w' => z = (decide (bt s (bl s (b + 1) : Int) ≠ 125), (m : Int), (0 : Int), (0 : Int), false, false, ()) ∧ Kp Off w w') (sat_iteF.2 (sat_iteF.2 (s_drew ?_))) ?_
    · have kd : Kp Off w1 w1.drew := (Kp.refl Off w1).drew
      have hT2 := hT1.kp kd
      have hB2 := kd.blk hB1 id
      generalize w1.drew = w2 at kd hT2 hB2
      refine ⟨(false, false, (0 : Int), ()), fun w'' hw'' => cfg_run ((Kp.of_below (S := Off) hw'').blk hB2 id), ?_⟩
      have ew : IntKind.wrap IntKind.i64 ((b : Int) + (1 : Int)) = ((b + 1 : Nat) : Int) := wup _ (by omega)
      simp only [ew]
      refine s_chk ⟨by omega, by omega, by omega⟩ ?_
      show sat _ (.call _ _ _ _) _ _
      have hbb := bl_ge s (b + 1)
      have hfr := hT2.from (b + 1) (by omega)
      have hnx := next_any (m := 0) hfr (by omega) (by rw [Nat.zero_add]; exact hbl)
      rw [Nat.zero_add] at hnx
      rw [Int.toNat_natCast, Int.toNat_natCast]
      refine s_call hnx ?_
      rintro en w3 ⟨rfl, k3⟩
      have hT3 := hT2.kp k3
      have ew2 : IntKind.wrap IntKind.i64 (((b + 1 : Nat) : Int) + ((bl s (b + 1) - (b + 1) : Nat) : Int)) = ((bl s (b + 1) : Nat) : Int) := by
        rw [wad _ _ (by omega)]
        have : b + 1 + (bl s (b + 1) - (b + 1)) = bl s (b + 1) := by omega
        rw [this]
      refine ⟨((bl s (b + 1) - (b + 1) : Nat) : Int), rfl, k3.belowOff, ?_⟩
      simp only [ew2]
      refine s_at hT3 (by omega) ?_
      rw [Nat.zero_add]
      refine s_cut (fun z w' => z = (decide (bt s (bl s (b + 1) : Int) ≠ 125), ()) ∧ w3 = w') (s_iteE (fun g => s_leaf ?_) (fun g => s_leaf ?_)) ?_
      · rw [if_pos rfl, decide_eq_false (fun g2 => g2 g)]; exact ⟨(false, ()), rfl, rfl, rfl⟩
      · rw [if_pos rfl, decide_eq_true g]; exact ⟨(true, ()), rfl, rfl, rfl⟩
      rintro z w' ⟨rfl, rfl⟩
      show sat _ (jsonparser_setConfig.t10 x.1 x.2.1 x.2.2 (decide (bt s (bl s (b + 1) : Int) ≠ 125))) _ _
      unfold jsonparser_setConfig.t10
      refine s_call (last_any (by omega) hT3 hm (by rw [h125]; rfl) hbk) ?_
      rintro en w4 ⟨rfl, rfl⟩
      refine ⟨(m : Int), rfl, s_leaf ?_⟩
      rw [if_pos rfl]
      exact ⟨(decide (bt s (bl s (b + 1) : Int) ≠ 125), (m : Int), (0 : Int), (0 : Int), false, false, ()), rfl, rfl, (k1.trans kd).trans k3⟩
    · rintro z w' ⟨rfl, k2⟩
      show sat _ (jsonparser_setConfig.t11 (decide (bt s (bl s (b + 1) : Int) ≠ 125)) (m : Int) 0 0 false false) _ _
      unfold jsonparser_setConfig.t11
      refine s_leaf ?_
      rw [if_pos rfl]
      exact ⟨(false, decide (bt s (bl s (b + 1) : Int) ≠ 125), (m : Int), (0 : Int), (0 : Int), (0 : Int), false, false, false, ()), rfl, rfl, k2⟩
  · rintro z w' ⟨rfl, k2⟩
    show sat _ (jsonparser_setConfig.t12 false (decide (bt s (bl s (b + 1) : Int) ≠ 125)) (m : Int) 0 0 0 false false false) _ _
    unfold jsonparser_setConfig.t12
    refine s_leaf ?_
    rw [if_pos rfl]
    exact ⟨(false, decide (bt s (bl s (b + 1) : Int) ≠ 125), (m : Int), (0 : Int), (0 : Int), (0 : Int), false, false, false, ()), rfl, rfl, k2⟩
theorem lead_split : ∀ {a b : List ByteArray} {p r : PT} {nm : Nat × Nat → ByteArray} {ix : ByteArray → Option Nat}, Gk.Lead nm ix p (a ++ b) r → ∃ m, Gk.Lead nm ix p a m ∧ Gk.Lead nm ix m b r
  | [], _, p, _, _, _, h => ⟨p, .nil, h⟩
  | _ :: _, _, _, _, _, _, h => by
    cases h with
    | mem a1 a2 a3 a4 a5 =>
      obtain ⟨m, b1, b2⟩ := lead_split a5
      exact ⟨m, .mem a1 a2 a3 a4 b1, b2⟩
    | elt a1 a2 a3 =>
      obtain ⟨m, b1, b2⟩ := lead_split a3
      exact ⟨m, .elt a1 a2 b1, b2⟩
/-- Keys of which the first ones lead to an object that lacks the next one. -/
structure New (s : ByteArray) (p0 : PT) (ks1 : List ByteArray) (b e : Nat) (ns : List (Nat × Nat)) (ks : List PT) (k : ByteArray) (rs : List ByteArray) : Prop where
  led : Led s p0 ks1 (.mk 6 b e ns ks)
  m1 : Mis s p0 (ks1 ++ [k])
  ma : Mis s p0 (ks1 ++ k :: rs)
  noi : ∀ key ∈ k :: rs, NoI key
/-- The text that Set makes. -/
def newT (s : ByteArray) (ks1 : List ByteArray) (b e : Nat) (ks : List PT) (k : ByteArray) (rs : List ByteArray) (v : List UInt8) : ByteArray :=
  if ks ≠ [] then put s (e - 1) (e - 1) (mkB (compL true false k rs v)) else if ks1 = [] then put s (e - 1) (e - 1) (mkB (compL false false k rs v)) else put s b e (mkB (compL false true k rs v))
theorem setNew_any {p0 : PT} {b e : Nat} {ns : List (Nat × Nat)} {ks : List PT} {a : Addr} (hs : s.size ≤ 4000000) (hL : Je.Lt w) (hE : Je.Ev w Je.gE) (hk : Ek w a) (hT : Tx w x s 0 s.size) (hV : Tx w y t 0 t.size) (hKx : Kx w q (ks1 ++ k :: rs)) (hN : New s p0 ks1 b e ns ks k rs) (hb : k.size + clen rs + t.size ≤ 4000000) (hkn : ks1.length ≤ 4000000) :
    Calls Tryd.prog 32 #[cfg 0, slV x, slV y, slV q] w fun en w' => ∃ z : Sl, en = .returned (.tuple #[slV z, .nilIface]) ∧ Tx w' z (newT s ks1 b e ks k rs t.data.toList) 0 (newT s ks1 b e ks k rs t.data.toList).size ∧ Kp Off w w' := by
  have hl := hKx.len
  have hc := hKx.cap
  rw [List.length_append, List.length_cons] at hl
  have hdl : (ks1 ++ k :: rs).drop ks1.length = k :: rs := List.drop_left
  obtain ⟨w1', w2', w3', w4'⟩ := Gk.wf_obj hN.led.wfp
  have w5' := Gk.wfM_bl _ _ _ _ _ w4'
  have w6' := Gk.wfM_end _ _ _ _ _ w4'
  have hne : bt s (bl s (b + 1) : Int) ≠ 125 ↔ ks ≠ [] := by
    cases ks with
    | nil =>
      have := w4'
      unfold WfM at this
      exact ⟨fun g => absurd this.2.1 g, fun g => absurd rfl g⟩
    | cons p1 ks =>
      have := w4'
      unfold WfM at this
      obtain ⟨n, ns', _, h0, hq, _⟩ := this
      have h0 : n.1 = bl s (b + 1) := h0
      rw [← h0, hq]
      exact ⟨fun _ => by simp, fun _ => by decide⟩
  have hbb := bl_ge s (b + 1)
  refine jsonparser_setConfig.calls _ _ _ _ _ _ _ _ _ _ _ _ ?_
  unfold jsonparser_setConfig.t
  refine s_alloc ?_
  have b0 := Blk.new w (cfC 0) tCf
  have k0 : Kp Off w (w.alloc (.cells (cfC 0).toArray tCf (0, 0))) := (Kp.refl Off w).alloc _
  show sat _ _ _ (w.alloc (.cells (cfC 0).toArray tCf (0, 0)))
  generalize w.alloc (.cells (cfC 0).toArray tCf (0, 0)) = v1 at k0 b0
  generalize hz0 : w.heap.size = z0 at b0
  refine s_iteE (fun g => absurd g (by omega)) (fun _ => ?_)
  refine s_eff (w' := v1) (false, false, (0 : Int), ()) (cfg_run b0) ?_
  refine s_call (getK_miss (a := a) (by omega) (hL.off' k0) (hE.kp k0 id) (hk.kp k0) (hT.kp k0) (hKx.kp k0) hN.ma) ?_
  rintro en v2 ⟨rfl, k2⟩
  have k02 := k0.trans k2
  refine ⟨((none, 0, 0), (0 : Int), (-1 : Int), (-1 : Int), Value.iface tPE (.pointer (some a)), ()), rfl, s_chk rfl (sat_iteT.2 ?_)⟩
  refine s_load (Value.iface tPE (.pointer (some a))) (hk.kp k02) ?_
  refine s_eff (w' := v2) false (neq_same a _ _ v2) (sat_iteF.2 ?_)
  -- the first keys lead
  have pre : ∀ j, j ≤ ks1.length → ∃ pj, Led s p0 ((ks1 ++ k :: rs).take j) pj ∧ (j = ks1.length → pj = .mk 6 b e ns ks) := by
    intro j hj
    have e1 : (ks1 ++ k :: rs).take j = ks1.take j := List.take_append_of_le_length hj
    have hsp : ks1 = ks1.take j ++ ks1.drop j := (List.take_append_drop j ks1).symm
    have hld := hN.led.lead
    rw [hsp] at hld
    obtain ⟨m, a1, a2⟩ := lead_split hld
    rw [e1]
    refine ⟨m, ⟨hN.led.at0, hN.led.wf, hN.led.fin, a1⟩, fun g => ?_⟩
    subst g
    rw [List.drop_length] at a2
    cases a2
    rfl
  have hcl : (ks1 ++ k :: rs).length = ks1.length + (rs.length + 1) := by rw [List.length_append, List.length_cons]
  refine s_cut (fun z w' => ((ks1 = [] ∧ z = ((-1 : Int), (0 : Int), (-1 : Int), ())) ∨ (ks1 ≠ [] ∧ z = ((b : Int), ((ks1.length : Nat) : Int), (e : Int), ()))) ∧ Kp Off v1 w') ?_ ?_
  · refine s_loop (fun n z w' => ∃ j : Nat, n = ks1.length + 1 - j ∧ j ≤ ks1.length ∧ ((j = 0 ∧ z = ((-1 : Int), (0 : Int), (-1 : Int), (0 : Int), ())) ∨ (0 < j ∧ ∃ pj, Led s p0 ((ks1 ++ k :: rs).take j) pj ∧ (j = ks1.length → pj = .mk 6 b e ns ks) ∧ z = ((pj.b : Int), (j : Int), (pj.e : Int), (j : Int), ()))) ∧ Kp Off v1 w') (ks1.length + 1) ((-1 : Int), (0 : Int), (-1 : Int), (0 : Int), ()) rfl ⟨0, rfl, Nat.zero_le _, .inl ⟨rfl, rfl⟩, k2⟩ ?_
    rintro n z w3 ⟨j, rfl, hj, hz, k3⟩
    obtain ⟨i7, i8, i9, i10, hzz, h8, h10, hrest⟩ : ∃ (i7 i8 i9 i10 : Int), z = (i7, i8, i9, i10, ()) ∧ i8 = (j : Int) ∧ i10 = (j : Int) ∧ ((ks1.length = j → (ks1 = [] ∧ i7 = -1 ∧ i9 = -1) ∨ (ks1 ≠ [] ∧ i7 = (b : Int) ∧ i9 = (e : Int)))) := by
      rcases hz with ⟨rfl, rfl⟩ | ⟨hj0, pj, a1, a2, rfl⟩
      · exact ⟨_, _, _, _, rfl, rfl, rfl, fun g => .inl ⟨List.eq_nil_of_length_eq_zero g, rfl, rfl⟩⟩
      · refine ⟨_, _, _, _, rfl, rfl, rfl, fun g => .inr ⟨fun g2 => by rw [g2] at g; simp at g; omega, ?_⟩⟩
        have := a2 g.symm
        subst this
        exact ⟨rfl, rfl⟩
    subst hzz; subst h8; subst h10
    show sat _ (jsonparser_setConfig.t1 x.1 x.2.1 x.2.2 q.1 q.2.1 q.2.2 ⟨z0, 0, none⟩ i7 (j : Int) i9 (j : Int)) _ _
    unfold jsonparser_setConfig.t1
    refine s_iteD (fun _ => s_drew ?_) (fun g => absurd (by omega) g)
    have kd : Kp Off w3 w3.drew := (Kp.refl Off w3).drew
    have k3d := k3.trans kd
    have K3d := k0.trans k3d
    generalize w3.drew = w4 at kd k3d K3d
    have b4 := k3d.blk b0 id
    refine ⟨(false, false, (0 : Int), ()), fun w'' hw'' => cfg_run ((Kp.of_below (S := Off) hw'').blk b4 id), ?_⟩
    have ew : IntKind.wrap IntKind.i64 ((j : Int) + (1 : Int)) = ((j + 1 : Nat) : Int) := wup _ (by omega)
    simp only [ew]
    refine s_chk ⟨by omega, by omega, by omega⟩ ?_
    have hKt := (hKx.kp K3d).take0 (j + 1) (by rw [hcl]; omega)
    rw [Int.toNat_natCast]
    rcases Nat.lt_or_ge j ks1.length with g | g
    · obtain ⟨pj, a1, a2⟩ := pre (j + 1) g
      have hcall := getK_any (by omega) (hL.off' K3d) (hE.kp K3d id) (hT.kp K3d) hKt a1
      refine s_call hcall ?_
      rintro en w5 ⟨v, rfl, _, _, k5⟩
      refine ⟨(v, jk pj.k, ((pj.b - 0 : Nat) : Int), ((pj.e - 0 : Nat) : Int), Value.nilIface, ()), rfl, s_chk rfl (sat_iteF.2 (s_leaf ?_))⟩
      rw [if_pos rfl]
      exact ⟨ks1.length + 1 - (j + 1), ((pj.b : Int), ((j + 1 : Nat) : Int), (pj.e : Int), ((j + 1 : Nat) : Int), ()), rfl, by omega, j + 1, rfl, g, .inr ⟨Nat.succ_pos j, pj, a1, a2, rfl⟩, k3d.trans k5⟩
    · have hje : j = ks1.length := by omega
      subst hje
      have etk : (ks1 ++ k :: rs).take (ks1.length + 1) = ks1 ++ [k] := by
        rw [List.take_append]
        have : ks1.length + 1 - ks1.length = 1 := by omega
        rw [this, List.take_of_length_le (Nat.le_succ _)]; rfl
      rw [etk] at hKt
      have hcall := getK_miss (a := a) (by omega) (hL.off' K3d) (hE.kp K3d id) (hk.kp K3d) (hT.kp K3d) hKt hN.m1
      refine s_call hcall ?_
      rintro en w5 ⟨rfl, k5⟩
      refine ⟨((none, 0, 0), (0 : Int), (-1 : Int), (-1 : Int), Value.iface tPE (.pointer (some a)), ()), rfl, s_chk rfl (sat_iteT.2 (s_leaf ?_))⟩
      rw [if_neg (by decide), if_pos rfl]
      refine ⟨(i7, ((ks1.length : Nat) : Int), i9, ()), rfl, ?_, k3d.trans k5⟩
      rcases hrest rfl with ⟨g1, rfl, rfl⟩ | ⟨g1, rfl, rfl⟩
      · left
        refine ⟨g1, ?_⟩
        rw [g1]; rfl
      · exact .inr ⟨g1, rfl⟩
  · rintro z w3 ⟨hz, k3⟩
    have K3 := k0.trans k3
    have b3 := k3.blk b0 id
    have hT3 := hT.kp K3
    have hV3 := hV.kp K3
    have hK3 := hKx.kp K3
    have fin : ∀ (z : Sl) (w' : World) (T : ByteArray), Kp Off w w' → newT s ks1 b e ks k rs t.data.toList = T → Tx w' z T 0 T.size → (fun l' vs w'' => l' = 0 ∧ (fun en w' => ∃ z : Sl, en = .returned (.tuple #[slV z, .nilIface]) ∧ Tx w' z (newT s ks1 b e ks k rs t.data.toList) 0 (newT s ks1 b e ks k rs t.data.toList).size ∧ Kp Off w w') (Ending.returned (retVal vs)) w'') 0 [slV z, .nilIface] w' := fun z w' T k e h => by
      subst e
      exact ⟨rfl, z, rfl, h, k⟩
    rcases hz with ⟨rfl, rfl⟩ | ⟨g1, rfl⟩
    · have hld := hN.led.lead
      have hat := hN.led.at0
      have hfin := hN.led.fin
      cases hld
      have hat : bl s 0 = b := hat
      have hfin : bl s e = s.size := hfin
      show sat _ (jsonparser_setConfig.t2 x.1 x.2.1 x.2.2 y.1 y.2.1 y.2.2 q.1 q.2.1 q.2.2 ⟨z0, 0, none⟩ (-1) 0 (-1)) _ _
      refine t2_zero (rs := rs) (k := k) (m := e - 1) hs hT3 hK3 (hN.noi k (by simp)) b3 hat w3' (by omega) (by omega) w6'.2 (fun j h1 h2 => bl_blank s e j (by omega) (by rw [hfin]; exact h2)) fun w4 k4 => ?_
      refine t13_zero ?_
      refine t22_any (d := 0) hs (hT3.kp k4) (hV3.kp k4) (hK3.kp k4) (Nat.zero_le _) rfl hN.noi hb (Nat.le_refl _) (by omega) fun z w5 h5 k5 => fin z w5 _ ((K3.trans k4).trans k5) ?_ h5
      unfold newT
      by_cases hks : ks = []
      · rw [if_neg (fun g => g hks), if_pos rfl, decide_eq_false (fun g => (hne.1 g) hks)]
      · rw [if_pos hks, decide_eq_true (hne.2 hks)]
    · show sat _ (jsonparser_setConfig.t2 x.1 x.2.1 x.2.2 y.1 y.2.1 y.2.2 q.1 q.2.1 q.2.2 ⟨z0, 0, none⟩ (b : Int) ((ks1.length : Nat) : Int) (e : Int)) _ _
      have hpos := List.length_pos_iff.2 g1
      refine t2_pos (t13_pos hs hT3 hK3 hpos (by rw [hcl]; omega) hdl (hN.noi k (by simp)) b3 (by omega) w2' w3' (by omega) (fun w4 k4 g => ?_) (fun w4 k4 g => ?_))
      · refine t22_any hs (hT3.kp k4) (hV3.kp k4) (hK3.kp k4) (by rw [hcl]; omega) hdl hN.noi hb (Nat.le_refl _) (by omega) fun z w5 h5 k5 => fin z w5 _ ((K3.trans k4).trans k5) ?_ h5
        unfold newT
        rw [if_pos (hne.1 g)]
      · refine t22_any hs (hT3.kp k4) (hV3.kp k4) (hK3.kp k4) (by rw [hcl]; omega) hdl hN.noi hb (by omega) w2' fun z w5 h5 k5 => fin z w5 _ ((K3.trans k4).trans k5) ?_ h5
        unfold newT
        rw [if_neg (fun g2 => (hne.2 g2) g), if_neg g1]
end Go.Proofs.YtlfebfkphgelfaaDoor.Ka
