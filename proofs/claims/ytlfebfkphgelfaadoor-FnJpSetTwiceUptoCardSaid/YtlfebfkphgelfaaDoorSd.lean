/- jsonparser's Set where the keys lead to an object that lacks the next one. No statement of the set is proved here. -/
import Derived.Test.YtlfebfkphgelfaaDoorSc
namespace Go.Proofs.YtlfebfkphgelfaaDoor.Ka
open Go Go.Proofs Go.RowKit Go.Proofs.YtlfebfkphgelfaaDoor.Rx Go.Proofs.YtlfebfkphgelfaaDoor.Tr Go.Proofs.YtlfebfkphgelfaaDoor.Pl Go.Proofs.YtlfebfkphgelfaaDoor.Pw Go.Proofs.YtlfebfkphgelfaaDoor.Sk
open Go.Proofs.YtlfebfkphgelfaaDoor.Ed (opn nstL AsIs mkB len_of mkB_size put put_size put_toList eq_of_list mkB_list)

variable {w w' : World} {x y q : Sl} {s t : ByteArray} {keys rs : List ByteArray} {k : ByteArray} {h N : Nat} {l : List UInt8} {z0 : Nat}
theorem Kx.take (h : Kx w q keys) (d : Nat) (hd : d ≤ keys.length) : Kx w (q.1, d, q.2.2) (keys.take d) := by
  have hl := h.len
  have hc := h.cap
  refine ⟨by rw [List.length_take]; show d = _; omega, by show d ≤ q.2.2; omega, ?_⟩
  rcases h.cell with h0 | ⟨b, o, h1, h2, h3⟩
  · left; rw [h0]; exact List.take_nil
  · refine .inr ⟨b, o, h1, h2, fun j key hj => ?_⟩
    have hjd : j < d := by
      have := (List.getElem?_eq_some_iff.1 hj).1
      rw [List.length_take] at this; omega
    rw [List.getElem?_take_of_lt hjd] at hj
    exact h3 j key hj
theorem Kx.take0 (h : Kx w q keys) (d : Nat) (hd : d ≤ keys.length) : Kx w ((if q.2.2 = 0 then q.1 else q.1.map fun y => y.add 0), d - 0, q.2.2 - 0) (keys.take d) := by
  have h1 := h.take d hd
  have e : (if q.2.2 = 0 then q.1 else q.1.map fun y => y.add 0) = q.1 := by
    obtain ⟨qa, ql, qc⟩ := q
    show (if qc = 0 then qa else qa.map fun y => y.add 0) = qa
    split
    · rfl
    · cases qa with
      | none => rfl
      | some a =>
        obtain ⟨b, o, p⟩ := a
        rfl
  rw [e]; exact h1
theorem t13_zero {Q : Nat → List Value → World → Prop} {i14 i84 i85 i86 : Int} {m : Nat} {comma b87 : Bool}
    (h : sat Tryd.prog (jsonparser_setConfig.t22 x.1 x.2.1 x.2.2 y.1 y.2.1 y.2.2 q.1 q.2.1 q.2.2 ((0 : Nat) : Int) (m : Int) (m : Int) false comma) Q w) :
    sat Tryd.prog (jsonparser_setConfig.t13 x.1 x.2.1 x.2.2 y.1 y.2.1 y.2.2 q.1 q.2.1 q.2.2 ⟨z0, 0, none⟩ i14 0 false comma (m : Int) i84 i85 i86 b87 false false) Q w := by
  unfold jsonparser_setConfig.t13
  refine s_cut (fun z w' => z = ((m : Int), (m : Int), false, comma, ()) ∧ w = w') (s_iteN (fun g => absurd rfl g) (fun _ => ?_)) ?_
  · refine s_cut (fun z w' => z = ((m : Int), (m : Int), ()) ∧ w = w') (sat_iteF.2 ?_) ?_
    · refine s_cut (fun z w' => z = ((m : Int), (m : Int), ()) ∧ w = w') (sat_iteF.2 (s_leaf (by rw [if_pos rfl]; exact ⟨((m : Int), (m : Int), ()), rfl, rfl, rfl⟩))) ?_
      rintro z w' ⟨rfl, rfl⟩
      show sat _ (jsonparser_setConfig.t20 (m : Int) (m : Int)) _ _
      unfold jsonparser_setConfig.t20
      exact s_leaf (by rw [if_pos rfl]; exact ⟨((m : Int), (m : Int), ()), rfl, rfl, rfl⟩)
    · rintro z w' ⟨rfl, rfl⟩
      show sat _ (jsonparser_setConfig.t21 false comma (m : Int) (m : Int)) _ _
      unfold jsonparser_setConfig.t21
      exact s_leaf (by rw [if_pos rfl]; exact ⟨((m : Int), (m : Int), false, comma, ()), rfl, rfl, rfl⟩)
  · rintro z w' ⟨rfl, rfl⟩
    exact h
theorem t13_pos {Q : Nat → List Value → World → Prop} {i84 i85 i86 : Int} {b87 b88 b89 : Bool} {d b e : Nat} (hs : s.size ≤ 4000000) (hT : Tx w x s 0 s.size) (hKx : Kx w q keys) (hd0 : 0 < d) (hd : d < keys.length) (hkd : keys.drop d = k :: rs) (hk : NoI k) (hB : Blk w z0 (cfC 0) tCf) (hbe : b + 1 < e) (hes : e ≤ s.size) (h123 : bt s (b : Int) = 123) (hbl : bl s (b + 1) < s.size)
    (h1 : ∀ w', Kp Off w w' → bt s (bl s (b + 1) : Int) ≠ 125 → sat Tryd.prog (jsonparser_setConfig.t22 x.1 x.2.1 x.2.2 y.1 y.2.1 y.2.2 q.1 q.2.1 q.2.2 (d : Int) ((e - 1 : Nat) : Int) ((e - 1 : Nat) : Int) false true) Q w')
    (h2 : ∀ w', Kp Off w w' → bt s (bl s (b + 1) : Int) = 125 → sat Tryd.prog (jsonparser_setConfig.t22 x.1 x.2.1 x.2.2 y.1 y.2.1 y.2.2 q.1 q.2.1 q.2.2 (d : Int) (e : Int) (b : Int) true false) Q w') :
    sat Tryd.prog (jsonparser_setConfig.t13 x.1 x.2.1 x.2.2 y.1 y.2.1 y.2.2 q.1 q.2.1 q.2.2 ⟨z0, 0, none⟩ (b : Int) (d : Int) false true (e : Int) i84 i85 i86 b87 b88 b89) Q w := by
  have hl := hKx.len
  have hc := hKx.cap
  have hxl := hT.len
  have hxc := hT.cap
  have hbb := bl_ge s (b + 1)
  unfold jsonparser_setConfig.t13
  refine s_cut (fun z w' => (bt s (bl s (b + 1) : Int) ≠ 125 ∧ z = (((e - 1 : Nat) : Int), ((e - 1 : Nat) : Int), false, true, ()) ∨ bt s (bl s (b + 1) : Int) = 125 ∧ z = ((e : Int), (b : Int), true, false, ())) ∧ Kp Off w w') (s_iteN (fun _ => ?_) (fun g => absurd g (by omega))) ?_
  · refine s_chk ⟨by omega, by omega, by omega⟩ ?_
    have hdr := hKx.drop d (by omega)
    rw [hkd] at hdr
    have hk0 : (k :: rs)[0]? = some k := rfl
    have hk1 := hk.1
    rw [Int.toNat_natCast, Int.toNat_natCast]
    refine s_cut (fun z w' => z = (false, ()) ∧ w = w') (s_iteD (fun _ => ?_) (fun g => absurd (by omega) g)) ?_
    · have hs1 := s_key0 (Q := fun l' vs w'' => if l' = 2 then ∃ x, vs = (Sh.cons .bool .nil).vals x ∧ x = (false, ()) ∧ w = w'' else (fun l' vs w'' => if l' = 1 then ∃ x, vs = (Sh.cons (.int .i64) (.cons (.int .i64) (.cons .bool (.cons .bool .nil)))).vals x ∧ (bt s (bl s (b + 1) : Int) ≠ 125 ∧ x = (((e - 1 : Nat) : Int), ((e - 1 : Nat) : Int), false, true, ()) ∨ bt s (bl s (b + 1) : Int) = 125 ∧ x = ((e : Int), (b : Int), true, false, ())) ∧ Kp Off w w'' else Q l' vs w'') l' vs w'') (K := fun s91 =>
          .ite (decide ((((ByteArray.size s91) : Nat) : Int) > (0 : Int))) (
            .chk (((0 : Int) ≤ (0 : Int)) ∧ ((0 : Int) < (((q.2.1 - d : Nat) : Nat) : Int))) <|
            .ptr (if q.2.2 = d then q.1 else q.1.map fun y => y.add (d * 1)) fun (z92 : Addr) =>
            .load (Addr.add z92 0) .str fun (s93 : ByteArray) =>
            .chk (((0 : Int) ≤ (0 : Int)) ∧ ((0 : Int) < (((ByteArray.size s93) : Nat) : Int))) <|
            .leaf 2 [(Value.bool ((bt s93 (0 : Int)) == (91 : Int)))]) (
            .leaf 2 [(Value.bool Bool.false)])) hdr hk0 (s_iteD (fun _ => s_key0 hdr hk0 (s_chk ⟨by omega, by omega⟩ (s_leaf ?_))) (fun g => absurd (by omega) g))
      · exact hs1
      · rw [if_pos rfl, beq_eq_false_iff_ne.2 hk.2]; exact ⟨(false, ()), rfl, rfl, rfl⟩
    rintro z w' ⟨rfl, rfl⟩
    show sat _ (jsonparser_setConfig.t14 x.1 x.2.1 x.2.2 ⟨z0, 0, none⟩ (b : Int) false true (e : Int) false) _ _
    unfold jsonparser_setConfig.t14
    refine s_at hT (by omega) (s_at hT (by omega) ?_)
    rw [Nat.zero_add, h123]
    refine s_cut (fun z w' => z = (false, ()) ∧ w = w') (sat_iteF.2 (sat_iteT.2 (s_leaf (by rw [if_pos rfl]; exact ⟨(false, ()), rfl, rfl, rfl⟩)))) ?_
    rintro z w' ⟨rfl, rfl⟩
    show sat _ (jsonparser_setConfig.t15 x.1 x.2.1 x.2.2 ⟨z0, 0, none⟩ (b : Int) false true (e : Int) false 123 123 false) _ _
    unfold jsonparser_setConfig.t15
    refine s_cut (fun z w' => (bt s (bl s (b + 1) : Int) ≠ 125 ∧ z = (((e - 1 : Nat) : Int), ((e - 1 : Nat) : Int), false, true, ()) ∨ bt s (bl s (b + 1) : Int) = 125 ∧ z = ((e : Int), (b : Int), true, false, ())) ∧ Kp Off w w') (sat_iteF.2 (s_drew ?_)) ?_
    · have kd : Kp Off w w.drew := (Kp.refl Off w).drew
      have hT1 := hT.kp kd
      have hB1 := kd.blk hB id
      generalize w.drew = w1 at kd hT1 hB1
      refine ⟨(false, false, (0 : Int), ()), fun w'' hw'' => cfg_run ((Kp.of_below (S := Off) hw'').blk hB1 id), ?_⟩
      have ew : IntKind.wrap IntKind.i64 ((b : Int) + (1 : Int)) = ((b + 1 : Nat) : Int) := wup _ (by omega)
      simp only [ew]
      refine s_chk ⟨by omega, by omega, by omega⟩ ?_
      show sat _ (.call _ _ _ _) _ _
      have hfr := hT1.from (b + 1) (by omega)
      have hnx := next_any (m := 0) hfr (by omega) (by rw [Nat.zero_add]; exact hbl)
      rw [Nat.zero_add] at hnx
      rw [Int.toNat_natCast, Int.toNat_natCast]
      refine s_call hnx ?_
      rintro en w2 ⟨rfl, k2⟩
      have hT2 := hT1.kp k2
      have ew2 : IntKind.wrap IntKind.i64 (((b + 1 : Nat) : Int) + ((bl s (b + 1) - (b + 1) : Nat) : Int)) = ((bl s (b + 1) : Nat) : Int) := by
        rw [wad _ _ (by omega)]
        have : b + 1 + (bl s (b + 1) - (b + 1)) = bl s (b + 1) := by omega
        rw [this]
      refine ⟨((bl s (b + 1) - (b + 1) : Nat) : Int), rfl, k2.belowOff, ?_⟩
      simp only [ew2]
      have K2 := kd.trans k2
      refine s_cut (fun z w' => z = (decide (bt s (bl s (b + 1) : Int) ≠ 125), ()) ∧ w2 = w') (s_iteE (fun _ => s_iteD (fun _ => s_iteD (fun _ => s_at hT2 (by omega) ?_) (fun g => absurd (by omega) g)) (fun g => absurd (by omega) g)) (fun g => absurd rfl g)) ?_
      · rw [Nat.zero_add]
        refine s_iteN (fun g => s_leaf ?_) (fun g => s_iteE (fun g2 => absurd g2 (by decide)) (fun _ => s_leaf ?_))
        · rw [if_pos rfl, decide_eq_true g]; exact ⟨(true, ()), rfl, rfl, rfl⟩
        · rw [if_pos rfl, decide_eq_false (fun g2 => g2 g)]; exact ⟨(false, ()), rfl, rfl, rfl⟩
      rintro z w' ⟨rfl, rfl⟩
      show sat _ (jsonparser_setConfig.t16 (b : Int) false true (e : Int) (decide (bt s (bl s (b + 1) : Int) ≠ 125))) _ _
      unfold jsonparser_setConfig.t16
      refine s_cut (fun z w' => (bt s (bl s (b + 1) : Int) ≠ 125 ∧ z = (((e - 1 : Nat) : Int), ((e - 1 : Nat) : Int), false, true, ()) ∨ bt s (bl s (b + 1) : Int) = 125 ∧ z = ((e : Int), (b : Int), true, false, ())) ∧ w2 = w') (s_iteD (fun g => s_leaf ?_) (fun g => s_leaf ?_)) ?_
      · rw [if_pos rfl, wdn _ (by omega) (by omega)]
        exact ⟨(((e - 1 : Nat) : Int), ((e - 1 : Nat) : Int), false, true, ()), rfl, .inl ⟨g, rfl⟩, rfl⟩
      · rw [if_pos rfl]
        exact ⟨((e : Int), (b : Int), true, false, ()), rfl, .inr ⟨Decidable.byContradiction g, rfl⟩, rfl⟩
      rintro z w' ⟨hz, rfl⟩
      unfold jsonparser_setConfig.t17
      refine s_leaf ?_
      rw [if_pos rfl]
      exact ⟨z, by rcases hz with ⟨_, rfl⟩ | ⟨_, rfl⟩ <;> rfl, hz, K2⟩
    · rintro z w' ⟨hz, k1⟩
      unfold jsonparser_setConfig.t18
      refine s_leaf ?_
      rw [if_pos rfl]
      exact ⟨z, by rcases hz with ⟨_, rfl⟩ | ⟨_, rfl⟩ <;> rfl, hz, k1⟩
  · rintro z w' ⟨⟨g, rfl⟩ | ⟨g, rfl⟩, k1⟩
    · exact h1 w' k1 g
    · exact h2 w' k1 g
end Go.Proofs.YtlfebfkphgelfaaDoor.Ka
