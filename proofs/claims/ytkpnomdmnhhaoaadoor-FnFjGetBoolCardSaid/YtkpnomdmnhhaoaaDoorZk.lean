/- fastjson: Type, Bool and StringBytes of a value that was read; impl.FjBool, impl.FjBytes over a JSON text; laws.fjText. No statement of the set is proved here. -/
import Derived.Test.YtkpnomdmnhhaoaaDoorZy
import Derived.Test.YtkpnomdmnhhaoaaDoorZd
import Derived.Test.YtkpnomdmnhhaoaaDoorZc
namespace Go.Proofs.YtkpnomdmnhhaoaaDoor.Zv
open Go Go.Proofs Go.RowKit Go.Proofs.YtkpnomdmnhhaoaaDoor.Rx Go.Proofs.YtkpnomdmnhhaoaaDoor.Tr Go.Proofs.YtkpnomdmnhhaoaaDoor.Pl Go.Proofs.YtkpnomdmnhhaoaaDoor.Pw Go.Proofs.YtkpnomdmnhhaoaaDoor.Sk Go.Proofs.YtkpnomdmnhhaoaaDoor.Zs Go.Proofs.YtkpnomdmnhhaoaaDoor.Bw
open Go.Proofs.YtkpnomdmnhhaoaaDoor.Sr (Sl slV tBs tB)
open Go.Proofs.YtkpnomdmnhhaoaaDoor.Ed (mvP mvP_b mvP_e mvP_k)
open Go.Proofs.YtkpnomdmnhhaoaaDoor.Ka (nmS)
open Go.Proofs.YtkpnomdmnhhaoaaDoor.Zu (PdV pd)
open Go.Proofs.YtkpnomdmnhhaoaaDoor.Ze (MB unesc_any s2b_any bytes_back tl_all)

variable {w w0 w' w'' w1 : World} {v : Nat × Nat} {s : ByteArray} {F : Nat × Nat → Prop} {p : PT}
theorem Cs.kp {b o : Nat} {cs : List Value} {S : Nat → Prop} (h : Cs w b o cs) (k : Kp S w w') (hb : b < w.heap.size) (hS : ¬ S b) : Cs w' b o cs := fun j u hj => by
  obtain ⟨h1, h2⟩ := h j u hj
  obtain ⟨c1, c2⟩ := same_block (off := o + j) (k.block b hb hS)
  exact ⟨c1.trans h1, c2.trans h2⟩
theorem VAt.own_ (h : VAt s w p v F) : F v := by
  obtain ⟨k, b, e, ns, ks⟩ := p
  unfold VAt at h
  obtain ⟨_, _, _, _, _, _, _, _, h5, _⟩ := h
  exact h5 v ⟨rfl, Nat.le_refl _, by omega⟩
theorem VAt.cells (h : VAt s w p v F) : ∃ kvs a, Cs w v.1 v.2 (vc kvs false a (rawS s p.k p.b p.e) (kindN p.k)) := by
  obtain ⟨k, b, e, ns, ks⟩ := p
  unfold VAt at h
  obtain ⟨kvs, a, _, _, _, h2, _⟩ := h
  exact ⟨kvs, a, h2⟩
theorem reg_new {z z1 : Nat} {x1 : Sl} {y : Nat × Nat} (h : Reg (none, 0, 0) z x1 z1 y) : z ≤ y.1 := by
  rcases Nat.lt_or_ge y.1 z with g | g
  · exact absurd ⟨g, fun a ha => by cases ha⟩ h.1
  · exact g
theorem kind7 {k : Nat} : kindN k = 7 ↔ k = 4 := by
  unfold kindN
  constructor
  · intro h
    repeat' split at h
    all_goals first | assumption | (exfalso; revert h; decide)
  · rintro rfl; rfl
/-- The kind that Type tells. -/
def kindT (k : Nat) : Int := if k = 4 then 3 else kindN k
theorem kindT3 {k : Nat} : kindT k = 3 ↔ k = 4 := by
  unfold kindT
  constructor
  · intro h
    split at h
    · assumption
    · unfold kindN at h
      repeat' split at h
      all_goals first | assumption | (exfalso; revert h; decide)
  · rintro rfl; rfl
theorem raw_str {i e : Nat} (h : strE s (i + 1) = some e) : ∃ r, Zu.OkU (s.extract (i + 1) (e - 1)) 0 ∧ Uq.uo (s.extract (i + 1) (e - 1)) 0 = some r ∧ nmS s (i, e) = ⟨r.toArray⟩ := by
  obtain ⟨k, rfl, _⟩ := strE_QE h
  have hl := strE_le h
  have ho := (Zu.okU_of (s := s) (p := i + 1) (k := k) (by omega) _ 0 (Nat.le_refl _) (Nat.zero_le _) h).1
  obtain ⟨r, h1, h2⟩ := Zu.nm_uo h
  exact ⟨r, by rw [Nat.add_sub_cancel]; exact ho, by rw [Nat.add_sub_cancel]; exact h1, h2⟩
theorem type_any (hs : s.size ≤ 100000) (hw : WfV s p) (hp : PdV s p) (h : VAt s w p v F) : Calls Tryd.prog 33 #[ptrV v] w fun e w' =>
    e = .returned (.int .i64 (kindT p.k)) ∧ (∃ kvs a x, Cs w' v.1 v.2 (vc kvs false a x (kindT p.k)) ∧ (p.k = 4 → x = nmS s (p.b, p.e))) ∧ Kp (On v.1) w w' := by
  obtain ⟨kvs, a, hC⟩ := h.cells
  have hlt := hC.lt
  refine fastjson_Value_Type.calls _ ?_
  unfold fastjson_Value_Type.t
  refine s_ptr (s_load (kindN p.k) (by rw [addr_add]; exact (hC 4 _ rfl).1) (s_iteE (fun h7 => ?_) (fun h7 => ?_)))
  · have h4 := kind7.1 h7
    obtain ⟨r, r1, r2, r3⟩ := raw_str (Nt.str_ok hw h4)
    have hx : rawS s p.k p.b p.e = s.extract (p.b + 1) (p.e - 1) := by unfold rawS; rw [if_neg (by omega), if_pos h4]
    have hpd : pd (s.extract (p.b + 1) (p.e - 1)) 0 = true := by
      obtain ⟨k, b, e, ns, ks⟩ := p
      unfold PdV at hp
      exact hp.1 h4
    rw [h7, hx] at hC
    refine s_ptr (s_load (s.extract (p.b + 1) (p.e - 1)) (by rw [addr_add]; exact (hC 3 _ rfl).1) ?_)
    refine s_call (unesc_any (by rw [ByteArray.size_extract]; omega) r1 hpd r2) ?_
    rintro e w1 ⟨rfl, k1⟩
    have hC1 := hC.kp k1 hlt id
    refine ⟨⟨r.toArray⟩, rfl, s_ptr (s_store (by rw [addr_add]; exact (hC1 3 _ rfl).1) (by rw [addr_add]; exact (hC1 3 _ rfl).2) ?_)⟩
    rw [addr_add]
    have hC2 := hC1.set (i := 3) (by decide : 3 < 5) (.string ⟨r.toArray⟩)
    have k2 : Kp (On v.1) w1 (w1.setCell ⟨v.1, v.2 + 3, none⟩ (.string ⟨r.toArray⟩)) := (Kp.refl _ w1).on _ _
    generalize w1.setCell ⟨v.1, v.2 + 3, none⟩ (.string ⟨r.toArray⟩) = w2 at hC2 k2
    have hC2 : Cs w2 v.1 v.2 (vc kvs false a ⟨r.toArray⟩ 7) := hC2
    refine s_ptr (s_store (by rw [addr_add]; exact (hC2 4 _ rfl).1) (by rw [addr_add]; exact (hC2 4 _ rfl).2) ?_)
    rw [addr_add]
    have hC3 := hC2.set (i := 4) (by decide : 4 < 5) (.int .i64 3)
    have k3 : Kp (On v.1) w2 (w2.setCell ⟨v.1, v.2 + 4, none⟩ (.int .i64 3)) := (Kp.refl _ w2).on _ _
    show sat _ _ _ (w2.setCell ⟨v.1, v.2 + 4, none⟩ (.int .i64 3))
    generalize w2.setCell ⟨v.1, v.2 + 4, none⟩ (.int .i64 3) = w3 at hC3 k3
    have hC3 : Cs w3 v.1 v.2 (vc kvs false a ⟨r.toArray⟩ 3) := hC3
    have hT := kindT3.2 h4
    refine s_ptr (s_load (3 : Int) (by rw [addr_add]; exact (hC3 4 _ rfl).1) (s_leaf ⟨rfl, by rw [hT]; rfl, ⟨kvs, a, _, by rw [hT]; exact hC3, fun _ => r3.symm⟩, ((Kp.off k1).trans k2).trans k3⟩))
  · have h4 : p.k ≠ 4 := fun g => h7 (kind7.2 g)
    have hT : kindT p.k = kindN p.k := if_neg h4
    refine s_ptr (s_load (kindN p.k) (by rw [addr_add]; exact (hC 4 _ rfl).1) (s_leaf ⟨rfl, by rw [hT]; rfl, ⟨kvs, a, _, by rw [hT]; exact hC, fun g => absurd g h4⟩, Kp.refl _ _⟩))
theorem bool_any (h : VAt s w p v F) : Calls Tryd.prog 16 #[ptrV v] w fun e w' =>
    (((p.k = 1 ∨ p.k = 2) ∧ e = .returned (.tuple #[.bool (decide (p.k = 2)), .nilIface])) ∨ (¬ (p.k = 1 ∨ p.k = 2) ∧ ∃ er, e = .returned (.tuple #[.bool false, er]) ∧ Err er)) ∧ Kp Off w w' := by
  obtain ⟨kvs, a, hC⟩ := h.cells
  have h5 : kindN p.k = 5 ↔ p.k = 2 := by
    unfold kindN
    constructor
    · intro h
      repeat' split at h
      all_goals first | assumption | (exfalso; revert h; decide)
    · intro g; rw [g]; rfl
  have h6 : kindN p.k = 6 ↔ p.k = 1 := by
    unfold kindN
    constructor
    · intro h
      repeat' split at h
      all_goals first | assumption | (exfalso; revert h; decide)
    · intro g; rw [g]; rfl
  refine fastjson_Value_Bool.calls _ ?_
  unfold fastjson_Value_Bool.t
  refine s_ptr (s_load (kindN p.k) (by rw [addr_add]; exact (hC 4 _ rfl).1) (s_iteE (fun g => s_leaf ?_) (fun g => ?_)))
  · exact ⟨rfl, .inl ⟨.inr (h5.1 g), by rw [decide_eq_true (h5.1 g)]; rfl⟩, Kp.refl _ _⟩
  have n2 : p.k ≠ 2 := fun c => g (h5.2 c)
  refine s_ptr (s_load (kindN p.k) (by rw [addr_add]; exact (hC 4 _ rfl).1) (s_iteE (fun g' => s_leaf ?_) (fun g' => ?_)))
  · exact ⟨rfl, .inl ⟨.inl (h6.1 g'), by rw [decide_eq_false n2]; rfl⟩, Kp.refl _ _⟩
  refine s_call new_any ?_
  rintro e w1 ⟨er, rfl, hE, k1⟩
  exact ⟨er, rfl, s_leaf ⟨rfl, .inr ⟨fun c => c.elim (fun c => g' (h6.2 c)) n2, er, rfl, hE⟩, k1⟩⟩
theorem strBytes_any (hs : s.size ≤ 100000) (hw : WfV s p) (hp : PdV s p) (h : VAt s w p v F) : Calls Tryd.prog 17 #[ptrV v] w fun e w' =>
    ((p.k = 4 ∧ ∃ base room z, e = .returned (.tuple #[slV z, .nilIface]) ∧ MB w' base room z (nmS s (p.b, p.e)).data.toList) ∨ (p.k ≠ 4 ∧ ∃ er, e = .returned (.tuple #[slV (none, 0, 0), er]) ∧ Err er)) ∧ Kp (On v.1) w w' := by
  refine fastjson_Value_StringBytes.calls _ ?_
  unfold fastjson_Value_StringBytes.t
  refine s_call (type_any hs hw hp h) ?_
  rintro e w1 ⟨rfl, ⟨kvs, a, x, hC, hx⟩, k1⟩
  refine ⟨kindT p.k, rfl, s_iteN (fun g => ?_) (fun g => ?_)⟩
  · refine s_call new_any ?_
    rintro e w2 ⟨er, rfl, hE, k2⟩
    exact ⟨er, rfl, s_leaf ⟨rfl, .inr ⟨fun c => g (kindT3.2 c), er, rfl, hE⟩, k1.trans (Kp.off k2)⟩⟩
  · have h4 := kindT3.1 g
    have hx := hx h4
    subst hx
    refine s_ptr (s_load (nmS s (p.b, p.e)) (by rw [addr_add]; exact (hC 3 _ rfl).1) ?_)
    refine s_call (s2b_any (n := (nmS s (p.b, p.e)).size) (Nat.le_refl _)) ?_
    rintro e w2 ⟨cap, rfl, _, hM, k2⟩
    rw [tl_all] at hM
    refine ⟨(some ⟨w1.heap.size, 0, none⟩, (nmS s (p.b, p.e)).size, cap), rfl, s_leaf ⟨rfl, .inl ⟨h4, _, _, _, rfl, hM⟩, k1.trans (Kp.off k2)⟩⟩
/-- A text that is one value with blanks around it. -/
def Whole (s : ByteArray) (p : PT) : Prop := bl s 0 = p.b ∧ WfV s p ∧ bl s p.e = s.size
/-- What Parse gives of a whole JSON text. -/
theorem parse_whole {gp : Nat} (hs : s.size ≤ 100000) (hp : Whole s p) (hlv : lv p ≤ 300) (hB : Blk w gp [slV (none, 0, 0), slV (none, 0, 0)] tPr) :
    Calls Tryd.prog 15 #[.pointer (some ⟨gp, 0, none⟩), .string s] w fun e w' =>
      ∃ (x1 : Sl) (v : Nat × Nat), e = .returned (.tuple #[ptrV v, .nilIface]) ∧ VAt (sfx s p.b) w' (mvP p.b 0 p) v (Reg (none, 0, 0) w.heap.size x1 w'.heap.size) ∧ Kp (On gp) w w' := by
  obtain ⟨h1, h2, h3⟩ := hp
  have he : bt s (bl s p.e : Int) = 0 := by rw [h3]; exact bt_end (Nat.le_refl _)
  refine (parse_any hs h2 h1.symm (fun _ => delim (c := 0) he (by omega)) hlv hB).mono ?_
  rintro e w' ⟨g1, _, g3⟩
  obtain ⟨x1, v, e1, e2⟩ := g1 h3
  exact ⟨x1, v, e1, e2, g3⟩
theorem fjBool_any (hs : s.size ≤ 100000) (hp : Whole s p) (hlv : lv p ≤ 300) : Calls Tryd.prog 6 #[.string s] w fun e w' =>
    (∃ b : Bool, e = .returned (.tuple #[.bool b, .bool (decide (p.k = 1 ∨ p.k = 2))]) ∧ ((p.k = 1 ∨ p.k = 2) → b = decide (p.k = 2))) ∧ Kp Off w w' := by
  refine impl_FjBool.calls _ ?_
  unfold impl_FjBool.t
  refine s_alloc ?_
  have b0 := Blk.new w [slV (none, 0, 0), slV (none, 0, 0)] tPr
  have k0 : Kp Off w (w.alloc (.cells [slV (none, 0, 0), slV (none, 0, 0)].toArray tPr (0, 0))) := (Kp.refl Off w).alloc _
  show sat _ _ _ (w.alloc (.cells [slV (none, 0, 0), slV (none, 0, 0)].toArray tPr (0, 0)))
  generalize w.alloc (.cells [slV (none, 0, 0), slV (none, 0, 0)].toArray tPr (0, 0)) = w1 at b0 k0
  refine s_call (parse_whole hs hp hlv b0) ?_
  rintro e w2 ⟨x1, v, rfl, hV, k2⟩
  have k2' : Kp Off w w2 := k0.then k2 fun q hq e => by have e : q = w.heap.size := e; omega
  refine ⟨(some ⟨v.1, v.2, none⟩, .nilIface, ()), rfl, s_chk rfl (sat_iteF.2 ?_)⟩
  refine s_call (bool_any hV) ?_
  rw [mvP_k]
  rintro e w3 ⟨⟨hk, rfl⟩ | ⟨hk, er, rfl, hE⟩, k3⟩
  · refine ⟨(decide (p.k = 2), .nilIface, ()), rfl, s_drew (s_chk rfl (s_leaf ⟨rfl, ⟨decide (p.k = 2), ?_, fun _ => rfl⟩, (k2'.trans k3).drew⟩))⟩
    rw [decide_eq_true hk]; rfl
  · refine ⟨(false, er, ()), rfl, s_drew (s_chk hE.1 (s_leaf ⟨rfl, ⟨false, ?_, fun c => absurd c hk⟩, (k2'.trans k3).drew⟩))⟩
    rw [decide_eq_false hk]
    show Ending.returned (.tuple #[.bool false, .bool (isNil er)]) = _
    rw [hE.2]
theorem wf_mv (hw : WfV s p) (hpd : pd s 0 = true) (hb : bl s 0 = p.b) : WfV (sfx s p.b) (mvP p.b 0 p) ∧ PdV (sfx s p.b) (mvP p.b 0 p) := by
  have hl := hw.lt
  obtain ⟨h1, h2, _⟩ := wf_sfx hw
  refine ⟨h1, (Zu.pd_val _ h1 ?_).1⟩
  rw [h2, Zf.pd_sfx (by omega) _ 0 (Nat.le_refl _), Nat.add_zero, ← hb, ← Zu.pd_bl (Nat.zero_le _)]
  exact hpd
theorem fjBytes_any (hs : s.size ≤ 100000) (hp : Whole s p) (hlv : lv p ≤ 300) (hpd : pd s 0 = true) : Calls Tryd.prog 7 #[.string s] w fun e w' =>
    (∃ x : ByteArray, e = .returned (.tuple #[.string x, .bool (decide (p.k = 4))]) ∧ (p.k = 4 → x = nmS s (p.b, p.e))) ∧ Kp Off w w' := by
  obtain ⟨hb, hw, _⟩ := id hp
  have hl := hw.lt
  have hz := sfx_size s p.b
  obtain ⟨hw', hp'⟩ := wf_mv hw hpd hb
  refine impl_FjBytes.calls _ ?_
  unfold impl_FjBytes.t
  refine s_alloc ?_
  have b0 := Blk.new w [slV (none, 0, 0), slV (none, 0, 0)] tPr
  have k0 : Kp Off w (w.alloc (.cells [slV (none, 0, 0), slV (none, 0, 0)].toArray tPr (0, 0))) := (Kp.refl Off w).alloc _
  show sat _ _ _ (w.alloc (.cells [slV (none, 0, 0), slV (none, 0, 0)].toArray tPr (0, 0)))
  generalize w.alloc (.cells [slV (none, 0, 0), slV (none, 0, 0)].toArray tPr (0, 0)) = w1 at b0 k0
  refine s_call (parse_whole hs hp hlv b0) ?_
  rintro e w2 ⟨x1, v, rfl, hV, k2⟩
  have k2' : Kp Off w w2 := k0.then k2 fun q hq e => by have e : q = w.heap.size := e; omega
  have hv1 := reg_new hV.own_
  have hs1 := k0.size
  refine ⟨(some ⟨v.1, v.2, none⟩, .nilIface, ()), rfl, s_chk rfl (sat_iteF.2 ?_)⟩
  refine s_call (strBytes_any (by omega) hw' hp' hV) ?_
  rw [mvP_k]
  rintro e w3 ⟨⟨hk, base, room, z, rfl, hM⟩ | ⟨hk, er, rfl, hE⟩, k3⟩
  · have k3' : Kp Off w w3 := k2'.then k3 fun q hq e => by have e : q = v.1 := e; omega
    have hnm : nmS (sfx s p.b) ((mvP p.b 0 p).b, (mvP p.b 0 p).e) = nmS s (p.b, p.e) := by
      rw [mvP_b, mvP_e]
      exact Zf.nm_sfx (n := (p.b, p.e)) (Nat.le_refl _) (by have := strE_le (Nt.str_ok hw hk); show p.b + 2 ≤ p.e; omega)
    rw [hnm] at hM
    have hd := (hM.off ((Kp.refl Off w3).drew)).toStr
    refine ⟨(z, .nilIface, ()), rfl, s_drew (s_effS (nmS s (p.b, p.e)) (by rw [bytes_back] at hd; exact hd) (s_chk rfl (s_leaf ⟨rfl, ⟨_, ?_, fun _ => rfl⟩, k3'.drew⟩)))⟩
    rw [decide_eq_true hk]; rfl
  · have k3' : Kp Off w w3 := k2'.then k3 fun q hq e => by have e : q = v.1 := e; omega
    refine ⟨((none, 0, 0), er, ()), rfl, s_drew (s_effS (ByteArray.mk #[]) ?_ (s_chk hE.1 (s_leaf ⟨rfl, ⟨ByteArray.mk #[], ?_, fun c => absurd c hk⟩, k3'.drew⟩)))⟩
    · exact (BR.nil w3.drew 0).toStr
    · rw [decide_eq_false hk]
      show Ending.returned (.tuple #[.string (ByteArray.mk #[]), .bool (isNil er)]) = _
      rw [hE.2]
end Go.Proofs.YtkpnomdmnhhaoaaDoor.Zv
namespace Go.Proofs.YtkpnomdmnhhaoaaDoor.Nt
open Go Go.Proofs Go.RowKit Go.Proofs.YtkpnomdmnhhaoaaDoor.Rx Go.Proofs.YtkpnomdmnhhaoaaDoor.Tr Go.Proofs.YtkpnomdmnhhaoaaDoor.Pl Go.Proofs.YtkpnomdmnhhaoaaDoor.Pw
open Go.Proofs.YtkpnomdmnhhaoaaDoor.Sr (Sl slV places)
open Go.Proofs.YtkpnomdmnhhaoaaDoor.Zu (pd)

variable {w w' : World} {s : ByteArray}
/-- What fjText says. -/
theorem fjText_any (hs : s.size < 4611686018427387904) : Calls Tryd.prog 5 #[.string s] w fun e w' =>
    ∃ (nt : NT) (a b : Sl) (r : Bool), e = .returned (.tuple #[.agg (nc nt.k nt.t a b).toArray, .bool r]) ∧
      (r = true → s.size ≤ 4000 ∧ pd s 0 = true ∧ ∃ p, places s = some p ∧ nt = treeN s p ∧ depN nt ≤ 250 ∧ NdAt (fun q => w.heap.size ≤ q) w' nt (nc nt.k nt.t a b)) ∧ Kp Off w w' := by
  refine laws_fjText.calls _ ?_
  unfold laws_fjText.t
  refine s_alloc ?_
  have b0 := Blk.new w zn tN
  have k0 : Kp Off w (w.alloc (.cells zn.toArray tN (0, 0))) := (Kp.refl Off w).alloc _
  show sat _ _ _ (w.alloc (.cells zn.toArray tN (0, 0)))
  have hz0 : w.heap.size < (w.alloc (.cells zn.toArray tN (0, 0))).heap.size := b0.lt
  generalize w.alloc (.cells zn.toArray tN (0, 0)) = w1 at b0 k0 hz0
  refine s_cut (fun x w' => (∃ b, x = (b, ()) ∧ (b = false → s.size ≤ 4000 ∧ pd s 0 = true)) ∧ w1 = w') (s_iteD (fun _ => s_leaf ?_) (fun hsz => ?_)) ?_
  · rw [if_pos rfl]; exact ⟨(true, ()), rfl, ⟨true, rfl, fun h => by cases h⟩, rfl⟩
  · refine s_call (Ch.utf8_any hs) ?_
    rintro e w2 ⟨rfl, u8, rfl, _⟩
    refine ⟨u8, rfl, s_ite (fun _ => s_leaf ?_) (fun _ => ?_)⟩
    · rw [if_pos rfl]; exact ⟨(true, ()), rfl, ⟨true, rfl, fun h => by cases h⟩, rfl⟩
    refine s_call (paired_any hs) ?_
    rintro e w3 ⟨rfl, rfl⟩
    refine ⟨pd s 0, rfl, s_leaf ?_⟩
    rw [if_pos rfl]
    exact ⟨(!(pd s 0), ()), rfl, ⟨!(pd s 0), rfl, fun h => ⟨by omega, by cases hp : pd s 0 with | true => rfl | false => rw [hp] at h; cases h⟩⟩, rfl⟩
  rintro x w2 ⟨⟨b, rfl, hb⟩, rfl⟩
  simp only [laws_fjText.t1]
  refine s_ite (fun _ => ?_) (fun hbf => ?_)
  · obtain ⟨w2, h2, b2, k2⟩ := storeN b0 rfl 0 (ByteArray.mk #[]) (none, 0, 0) (none, 0, 0)
    refine s_effU h2 (s_effS ((0 : Int), ByteArray.mk #[], (none, 0, 0), (none, 0, 0), ()) (loadN b2) (s_leaf ⟨rfl, .mk 0 (ByteArray.mk #[]) [] [], (none, 0, 0), (none, 0, 0), false, rfl, (fun h => by cases h), k0.then k2 fun q hq e => by have : q = w.heap.size := e; omega⟩))
  obtain ⟨hsz, hpd⟩ := hb hbf
  refine s_call (read_any (by omega)) ?_
  rintro e w2 ⟨nt, a, b, rfl, hN, hsome, hnone, k2⟩
  refine ⟨(((nt.k : Int), nt.t, a, b, ()), (places s).isSome, ()), rfl, ?_⟩
  refine s_alloc ?_
  have c0 := Blk.new w2 zn tN
  have k3 : Kp Off w2 (w2.alloc (.cells zn.toArray tN (0, 0))) := (Kp.refl Off w2).alloc _
  show sat _ _ _ (w2.alloc (.cells zn.toArray tN (0, 0)))
  have hz2 : w2.heap.size < (w2.alloc (.cells zn.toArray tN (0, 0))).heap.size := c0.lt
  generalize w2.alloc (.cells zn.toArray tN (0, 0)) = w3 at c0 k3 hz2
  obtain ⟨w4, h4, c4, k4⟩ := storeN c0 rfl nt.k nt.t a b
  refine s_effU h4 (s_drew ?_)
  have k4' : Kp (On w2.heap.size) w3 w4.drew := k4.drew
  have c5 : Blk w4.drew w2.heap.size (nc nt.k nt.t a b) tN := c4.drew
  generalize w4.drew = w5 at k4' c5
  have k25 : Kp Off w2 w5 := k3.then k4' fun q hq e => by have : q = w2.heap.size := e; omega
  have k15 : Kp Off w1 w5 := k2.trans k25
  have b5 := k15.blk b0 id
  have hN5 : NdAt (fun q => w1.heap.size ≤ q) w5 nt (nc nt.k nt.t a b) := hN.kp k25 fun q _ h => ⟨h, id⟩
  have hz1 := k0.size
  have hz15 := k15.size
  refine ⟨((nt.k : Int), nt.t, a, b, ()), fun w'' hw'' => loadN ((Kp.of_below (S := Off) hw'').blk c5 id), ?_⟩
  refine s_ite (fun hso => ?_) (fun hno => ?_)
  · obtain ⟨p, hp⟩ := Option.isSome_iff_exists.1 hso
    have hnt := hsome p hp
    obtain ⟨_, hwf, _⟩ := Lj.places_of hp
    have hl := hwf.lt
    refine ⟨((nt.k : Int), nt.t, a, b, ()), fun w'' hw'' => loadN ((Kp.of_below (S := Off) hw'').blk c5 id), s_hereN ?_⟩
    refine s_call (depth_any (SizeOf.sizeOf nt + 1) nt w5 _ a b (Nat.lt_succ_self _) (by rw [hnt]; exact sm_tree (by omega) _ p (Nat.lt_succ_self _) hwf) (by rw [hnt]; have := depN_le s _ p (Nat.lt_succ_self _) hwf; omega) hN5) ?_
    rintro e w6 ⟨rfl, k6⟩
    refine ⟨(depN nt : Int), rfl, k6.belowOff, ?_⟩
    have b6 := k6.blk b5 id
    obtain ⟨w7, h7, b7, k7⟩ := storeN b6 rfl nt.k nt.t a b
    have hz6 := k6.size
    have k17 : Kp Off w1 w6 := k15.trans k6
    refine s_effU h7 (s_effS ((nt.k : Int), nt.t, a, b, ()) (loadN b7) (s_leaf ⟨rfl, nt, a, b, decide ((depN nt : Int) ≤ 250), rfl, fun h => ⟨hsz, hpd, p, hp, hnt, by have := of_decide_eq_true h; omega, ?_⟩, (k0.trans k17).then k7 fun q hq e => by have : q = w.heap.size := e; omega⟩))
    exact hN5.kp (k6.off.trans k7) fun q _ h => ⟨by omega, fun e => by have : q = w.heap.size := e; omega⟩
  · refine s_hereN ⟨(Kp.refl Off _).belowOff, ?_⟩
    obtain ⟨w7, h7, b7, k7⟩ := storeN b5 rfl nt.k nt.t a b
    refine s_effU h7 (s_effS ((nt.k : Int), nt.t, a, b, ()) (loadN b7) (s_leaf ⟨rfl, nt, a, b, false, rfl, (fun h => by cases h), (k0.trans k15).then k7 fun q hq e => by have : q = w.heap.size := e; omega⟩))
end Go.Proofs.YtkpnomdmnhhaoaaDoor.Nt
