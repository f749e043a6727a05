/- A new value at keys that an object lacks, in the text. Plain; no statement of the set is proved here. -/
import Derived.Test.YtlfebfkphgelfaaDoorIa
namespace Go.Proofs.YtlfebfkphgelfaaDoor.Ed
open Go Go.Proofs Go.RowKit Go.Proofs.YtlfebfkphgelfaaDoor.Rx Go.Proofs.YtlfebfkphgelfaaDoor.Pl Go.Proofs.YtlfebfkphgelfaaDoor.Pw Go.Proofs.YtlfebfkphgelfaaDoor.Sk Go.Proofs.YtlfebfkphgelfaaDoor.Ut Go.Proofs.YtlfebfkphgelfaaDoor.Bw Go.Proofs.YtlfebfkphgelfaaDoor.Uq Go.Proofs.YtlfebfkphgelfaaDoor.Ql
open Go.Proofs.YtlfebfkphgelfaaDoor.Ka (nmS ixS Led)
open Go.Proofs.YtlfebfkphgelfaaDoor.Gk (Lead)

/-- The text of some bytes. -/
def mkB (l : List UInt8) : ByteArray := ⟨l.toArray⟩
theorem mkB_size (l : List UInt8) : (mkB l).size = l.length := List.size_toArray
theorem mkB_list (l : List UInt8) : (mkB l).data.toList = l := rfl
theorem mkB_of (s : ByteArray) : mkB s.data.toList = s := by show ByteArray.mk s.data.toList.toArray = s; rw [Array.toArray_toList]
theorem bt_mkB (l : List UInt8) (j : Nat) : bt (mkB l) (j : Int) = ((l.getD j 0).toNat : Int) := rfl
theorem bt_ap1 {a b : List UInt8} {j : Nat} (h : j < a.length) : bt (mkB (a ++ b)) (j : Int) = bt (mkB a) (j : Int) := by
  rw [bt_mkB, bt_mkB, List.getD_eq_getElem?_getD, List.getD_eq_getElem?_getD, List.getElem?_append_left h]
theorem bt_ap2 {a b : List UInt8} {i j : Nat} (h : i = a.length + j) : bt (mkB (a ++ b)) (i : Int) = bt (mkB b) (j : Int) := by
  subst h
  rw [bt_mkB, bt_mkB, List.getD_eq_getElem?_getD, List.getD_eq_getElem?_getD, List.getElem?_append_right (Nat.le_add_right _ _), Nat.add_sub_cancel_left]
theorem len_of (s : ByteArray) : s.data.toList.length = s.size := by rw [Array.length_toList]; rfl
/-- An object's text with one member more. -/
def insL (o : ByteArray) (c : Bool) (k X : ByteArray) : List UInt8 := o.data.toList.take (o.size - 1) ++ ((if c then [44] else []) ++ ([34] ++ (k.data.toList ++ ([34, 58] ++ (X.data.toList ++ [125])))))
theorem ins_of {o k X : ByteArray} {c : Bool} (h1 : 1 ≤ o.size) : Ins o (mkB (insL o c k X)) k X c := by
  have l1 : (o.data.toList.take (o.size - 1)).length = o.size - 1 := by rw [List.length_take, len_of]; omega
  have l2 : (if c then [(44 : UInt8)] else []).length = (if c then 1 else 0) := by cases c <;> rfl
  have lk := len_of k
  have lx := len_of X
  have hk := mkB_of k
  have hX := mkB_of X
  unfold insL
  refine ⟨h1, fun j hj => ?_, fun hc => ?_, ?_, fun j hj => ?_, ?_, ?_, fun j hj => ?_, ?_, ?_⟩
  · rw [bt_ap1 (by omega), bt_mkB, List.getD_eq_getElem?_getD, List.getElem?_take_of_lt hj, ← List.getD_eq_getElem?_getD, ← bt_mkB, mkB_of]
  · subst hc
    rw [bt_ap2 (j := 0) (by omega)]; rfl
  · rw [bt_ap2 (j := if c then 1 else 0) (by unfold inI; omega), bt_ap2 (j := 0) (by omega), bt_ap1 (by simp)]; rfl
  · rw [bt_ap2 (j := (if c then 1 else 0) + 1 + j) (by unfold inI; omega), bt_ap2 (j := 1 + j) (by omega), bt_ap2 (j := j) (by simp only [List.length_cons, List.length_nil]), bt_ap1 (by omega), hk]
  · rw [bt_ap2 (j := (if c then 1 else 0) + 1 + k.size) (by unfold inI; omega), bt_ap2 (j := 1 + k.size) (by omega), bt_ap2 (j := k.size) (by simp only [List.length_cons, List.length_nil]), bt_ap2 (j := 0) (by omega), bt_ap1 (by simp)]; rfl
  · rw [bt_ap2 (j := (if c then 1 else 0) + 1 + k.size + 1) (by unfold inI; omega), bt_ap2 (j := 1 + k.size + 1) (by omega), bt_ap2 (j := k.size + 1) (by simp only [List.length_cons, List.length_nil]; omega), bt_ap2 (j := 1) (by omega), bt_ap1 (by simp)]; rfl
  · rw [bt_ap2 (j := (if c then 1 else 0) + 1 + k.size + 2 + j) (by unfold inI; omega), bt_ap2 (j := 1 + k.size + 2 + j) (by omega), bt_ap2 (j := k.size + 2 + j) (by simp only [List.length_cons, List.length_nil]; omega), bt_ap2 (j := 2 + j) (by omega), bt_ap2 (j := j) (by simp only [List.length_cons, List.length_nil]), bt_ap1 (by omega), hX]
  · rw [bt_ap2 (j := (if c then 1 else 0) + 1 + k.size + 2 + X.size) (by unfold inI; omega), bt_ap2 (j := 1 + k.size + 2 + X.size) (by omega), bt_ap2 (j := k.size + 2 + X.size) (by simp only [List.length_cons, List.length_nil]; omega), bt_ap2 (j := 2 + X.size) (by omega), bt_ap2 (j := X.size) (by simp only [List.length_cons, List.length_nil]), bt_ap2 (j := 0) (by omega)]; rfl
  · rw [mkB_size]
    simp only [List.length_append, List.length_cons, List.length_nil, l1, l2, lk, lx]
    unfold inI
    omega
/-- Names, each the one member's of an object, up to a value. -/
def opn : List ByteArray → List UInt8
  | [] => []
  | r :: rs => [123, 34] ++ (r.data.toList ++ ([34, 58] ++ opn rs))
def nstL (rs : List ByteArray) (v : List UInt8) : List UInt8 := opn rs ++ (v ++ List.replicate rs.length 125)
def eO : ByteArray := mkB [123, 125]
theorem nst_cons (r : ByteArray) (rs : List ByteArray) (v : List UInt8) : nstL (r :: rs) v = insL eO false r (mkB (nstL rs v)) := by
  have e0 : opn (r :: rs) = [123, 34] ++ (r.data.toList ++ ([34, 58] ++ opn rs)) := rfl
  unfold nstL insL
  rw [e0, mkB_list, List.length_cons, List.replicate_succ']
  have e : eO.data.toList.take (eO.size - 1) = [123] := rfl
  rw [e]
  simp [List.append_assoc]
theorem eO_wf : WfV eO (.mk 6 0 eO.size [] []) := by
  unfold WfV WfM
  have hb : bl eO (0 + 1) = 1 := bl_no rfl
  rw [hb]
  exact ⟨by decide, Nat.le_refl _, .inr (.inr (.inr ⟨rfl, rfl, rfl, rfl, rfl⟩))⟩
theorem nst_led {v : ByteArray} {pv : PT} (hv : WfV v pv) (hb : pv.b = 0) (he : pv.e = v.size) : ∀ rs : List ByteArray, (∀ r ∈ rs, AsIs r) → ∃ px q, WfV (mkB (nstL rs v.data.toList)) px ∧ px.b = 0 ∧ px.e = (mkB (nstL rs v.data.toList)).size ∧ Lead (nmS (mkB (nstL rs v.data.toList))) ixS px rs q ∧ q.b = (opn rs).length ∧ q.e = (opn rs).length + v.size
  | [], _ => by
    have e : mkB (nstL [] v.data.toList) = v := by
      have : nstL [] v.data.toList = v.data.toList := by show [] ++ (v.data.toList ++ []) = _; rw [List.nil_append, List.append_nil]
      rw [this, mkB_of]
    rw [e]
    refine ⟨pv, pv, hv, hb, he, .nil, hb, ?_⟩
    show pv.e = 0 + v.size
    omega
  | r :: rs, hr => by
    obtain ⟨px, q, a1, a2, a3, a4, a5, a6⟩ := nst_led hv hb he rs fun r' h => hr r' (List.mem_cons_of_mem _ h)
    have hI := ins_of (o := eO) (k := r) (X := mkB (nstL rs v.data.toList)) (c := false) (by decide)
    have hk := hr r (by simp)
    rw [nst_cons]
    have hi : inI eO false = 1 := rfl
    refine ⟨_, mvP 0 (inI eO false + r.size + 3) q, hI.wf hk a1 a2 a3 eO_wf (by simp), rfl, rfl, hI.lead hk a1 a3 a4 eO_wf rfl (by simp), ?_, ?_⟩
    · rw [mvP_b, a5, hi]
      unfold sh
      show (opn rs).length + (1 + r.size + 3) - 0 = ([123, 34] ++ (r.data.toList ++ ([34, 58] ++ opn rs))).length
      simp only [List.length_append, List.length_cons, List.length_nil, len_of]; omega
    · rw [mvP_e, a6, hi]
      unfold sh
      show (opn rs).length + v.size + (1 + r.size + 3) - 0 = ([123, 34] ++ (r.data.toList ++ ([34, 58] ++ opn rs))).length + v.size
      simp only [List.length_append, List.length_cons, List.length_nil, len_of]; omega
/-- A text in a value's place: the keys lead into it. -/
theorem led_into {s T : ByteArray} {p0 p pt q : PT} {keys rest : List ByteArray} (hL : Led s p0 keys p) (ht : WfV T pt) (hb : pt.b = 0) (he : pt.e = T.size) (hq : Lead (nmS T) ixS pt rest q) : ∃ p0', Led (put s p.b p.e T) p0' (keys ++ rest) (mvP 0 p.b q) := by
  have hl := hL.wfp.lt
  have hsw := sw_put hL ht hb he
  obtain ⟨p0', h1⟩ := led_sw hL hsw
  have hA : Ag T (put s p.b p.e T) 0 p.b T.size := ⟨fun j _ g => by
    have : sh 0 p.b j = p.b + j := by unfold sh; omega
    rw [this]; exact put_mid (by omega) hl.2 g, by rw [put_size (by omega) hl.2]; unfold sh; omega, Nat.zero_le _⟩
  exact ⟨p0', h1.at0, h1.wf, h1.fin, Lead.app h1.lead (Lead.mv hq hA (Nat.le_refl _) ht (Nat.zero_le _) (by omega))⟩
theorem wfM_lens {s : ByteArray} : ∀ (ks : List PT) (ns : List (Nat × Nat)) (first : Bool) (j e' : Nat), WfM s first j ns ks e' → ns.length = ks.length
  | [], ns, first, j, e', h => by
    unfold WfM at h
    rw [h.1]; rfl
  | p0 :: ks, ns, first, j, e', h => by
    unfold WfM at h
    obtain ⟨n0, ns', rfl, h0, hq, hs, hc, hb, hv, hM⟩ := h
    rw [List.length_cons, List.length_cons, wfM_lens ks ns' false p0.e e' hM]
/-- An object's own text. -/
theorem obj_own {s : ByteArray} {b e : Nat} {ns : List (Nat × Nat)} {ks : List PT} (h : WfV s (.mk 6 b e ns ks)) : Ag s (s.extract b e) b 0 e ∧ (s.extract b e).size = e - b ∧ WfV (s.extract b e) (.mk 6 0 (s.extract b e).size (ns.map fun n => (sh b 0 n.1, sh b 0 n.2)) (mvL b 0 ks)) ∧ ∀ n ∈ ns, nmS (s.extract b e) (sh b 0 n.1, sh b 0 n.2) = nmS s n := by
  obtain ⟨w1, w2, w3, w4⟩ := Gk.wf_obj h
  have hz : (s.extract b e).size = e - b := by rw [ByteArray.size_extract]; omega
  have hA : Ag s (s.extract b e) b 0 e := ⟨fun j g1 g2 => by
    have e1 : sh b 0 j = j - b := by unfold sh; omega
    rw [e1, bt_extract w2 (by omega), Nat.add_sub_cancel' g1], by rw [hz]; unfold sh; omega, by omega⟩
  have e2 : sh b 0 b = 0 := by unfold sh; omega
  have e3 : sh b 0 e = (s.extract b e).size := by rw [hz]; unfold sh; omega
  refine ⟨hA, hz, ?_, fun n hn => ?_⟩
  · have := hA.wfV _ h (Nat.le_refl _) (.inr ⟨rfl, by rw [e3, bt_end (Nat.le_refl _)]; exact ⟨rfl, by decide, by decide, by decide⟩⟩)
    rw [mvP_mk, e2, e3] at this
    exact this
  · obtain ⟨t, ht⟩ := List.mem_iff_getElem?.1 hn
    have := mem_span ks ns true (b + 1) e t n w4 ht
    exact hA.nm w2 (by omega) (by omega) (by omega)
/-- New names in an object: the text that Set makes, and where its value lies. -/
theorem new_led {s a : ByteArray} {p0 pa : PT} {b e : Nat} {ns : List (Nat × Nat)} {ks : List PT} {keys rs : List ByteArray} {k : ByteArray} (hL : Led s p0 keys (.mk 6 b e ns ks)) (hne : ∀ n ∈ ns, nmS s n ≠ k) (hk : AsIs k) (hr : ∀ r ∈ rs, AsIs r) (ha : WfV a pa) (hab : pa.b = 0) (hae : pa.e = a.size) {c : Bool} (hc : c = false ↔ ks = []) :
    ∃ p0' q, Led (put s b e (mkB (insL (s.extract b e) c k (mkB (nstL rs a.data.toList))))) p0' (keys ++ k :: rs) q ∧ q.b = b + (inI (s.extract b e) c + k.size + 3 + (opn rs).length) ∧ q.e = q.b + a.size := by
  have hw := hL.wfp
  have hl := hw.lt
  have hl1 : b < e := hl.1
  obtain ⟨hA, hz, ho, hnm⟩ := obj_own hw
  obtain ⟨w1, w2, w3, w4⟩ := Gk.wf_obj hw
  obtain ⟨px, q, a1, a2, a3, a4, a5, a6⟩ := nst_led ha hab hae rs hr
  have hI := ins_of (o := s.extract b e) (k := k) (X := mkB (nstL rs a.data.toList)) (c := c) (by omega)
  have hmv : c = false ↔ mvL b 0 ks = [] := by
    rw [hc]
    have := mvL_len b 0 ks
    constructor
    · intro h; subst h; unfold mvL; rfl
    · intro h; rw [h] at this; exact List.eq_nil_of_length_eq_zero this.symm
  have hwf := hI.wf hk a1 a2 a3 ho hmv
  have hld := hI.lead (r := (mkB (insL (s.extract b e) c k (mkB (nstL rs a.data.toList)))).size) hk a1 a3 a4 ho (by rw [List.length_map, mvL_len, wfM_lens _ _ _ _ _ w4]) (fun n hn => by
    obtain ⟨n0, hn0, rfl⟩ := List.mem_map.1 hn
    rw [hnm n0 hn0]; exact hne n0 hn0)
  obtain ⟨p0', h1⟩ := led_into hL hwf rfl rfl hld
  refine ⟨p0', _, h1, ?_, ?_⟩
  · rw [mvP_b, mvP_b, a5]
    unfold sh
    show _ + b - 0 = _
    omega
  · rw [mvP_b, mvP_b, mvP_e, mvP_e, a5, a6]
    unfold sh
    show _ + b - 0 = _ + b - 0 + a.size
    omega
theorem new_led2 {s a : ByteArray} {p0 pa p : PT} {keys rs : List ByteArray} {k : ByteArray} (hL : Led s p0 keys p) (hk : AsIs k) (hr : ∀ r ∈ rs, AsIs r) (ha : WfV a pa) (hab : pa.b = 0) (hae : pa.e = a.size) :
    ∃ p0' q, Led (put s p.b p.e (mkB (nstL (k :: rs) a.data.toList))) p0' (keys ++ k :: rs) q ∧ q.b = p.b + (opn (k :: rs)).length ∧ q.e = q.b + a.size := by
  obtain ⟨px, q, a1, a2, a3, a4, a5, a6⟩ := nst_led ha hab hae (k :: rs) (fun r h => by
    rcases List.mem_cons.1 h with rfl | h
    · exact hk
    · exact hr r h)
  obtain ⟨p0', h1⟩ := led_into hL a1 a2 a3 a4
  refine ⟨p0', _, h1, ?_, ?_⟩
  · rw [mvP_b, a5]; unfold sh; omega
  · rw [mvP_b, mvP_e, a5, a6]; unfold sh; omega
/-! ## Texts as lists -/
theorem put_toList {s t : ByteArray} {b e : Nat} (he : e ≤ s.size) : (put s b e t).data.toList = s.data.toList.take b ++ (t.data.toList ++ s.data.toList.drop e) := by
  unfold put
  rw [ByteArray.data_append, ByteArray.data_append, Array.toList_append, Array.toList_append]
  have h1 := extract_tl s 0 b
  have h2 := extract_tl s e (s.size - e)
  rw [Nat.zero_add] at h1
  rw [Nat.add_sub_cancel' he] at h2
  have h3 : (tl s e).take (s.size - e) = tl s e := List.take_of_length_le (by unfold tl; rw [List.length_drop, len_of]; omega)
  rw [h1, h2, h3, List.append_assoc]
  rfl
theorem eq_of_list {x y : ByteArray} (h : x.data.toList = y.data.toList) : x = y := by
  have : x.data = y.data := Array.toList_inj.1 h
  exact ByteArray.ext this
/-- A part of what was put is taken by another. -/
theorem put_put {s a b' : ByteArray} {b e : Nat} {L R : List UInt8} (hb : b ≤ e) (he : e ≤ s.size) : put (put s b e (mkB (L ++ (a.data.toList ++ R)))) (b + L.length) (b + L.length + a.size) b' = put s b e (mkB (L ++ (b'.data.toList ++ R))) := by
  have hz := put_size (t := mkB (L ++ (a.data.toList ++ R))) hb he
  rw [mkB_size, List.length_append, List.length_append, len_of] at hz
  refine eq_of_list ?_
  rw [put_toList (by omega), put_toList he, put_toList he, mkB_list, mkB_list]
  have hP : (s.data.toList.take b).length = b := by rw [List.length_take, len_of]; omega
  generalize s.data.toList.take b = P at hP
  generalize s.data.toList.drop e = Q
  have e1 : (P ++ (L ++ (a.data.toList ++ R) ++ Q)).take (b + L.length) = P ++ L := by
    have : P ++ (L ++ (a.data.toList ++ R) ++ Q) = (P ++ L) ++ ((a.data.toList ++ R) ++ Q) := by simp [List.append_assoc]
    rw [this]; exact List.take_left' (by rw [List.length_append, hP])
  have e2 : (P ++ (L ++ (a.data.toList ++ R) ++ Q)).drop (b + L.length + a.size) = R ++ Q := by
    have : P ++ (L ++ (a.data.toList ++ R) ++ Q) = (P ++ L ++ a.data.toList) ++ (R ++ Q) := by simp [List.append_assoc]
    rw [this]; exact List.drop_left' (by rw [List.length_append, List.length_append, hP, len_of])
  rw [e1, e2]
  simp [List.append_assoc]
end Go.Proofs.YtlfebfkphgelfaaDoor.Ed
