/- A text in which keys lead to a value, and another text stands in its place: the keys lead to that. Plain; no statement of the set is proved here. -/
import Derived.Test.YtlfebfkphgelfaaDoorEa
import Derived.Test.YtlfebfkphgelfaaDoorMI
namespace Go.Proofs.YtlfebfkphgelfaaDoor.Ed
open Go Go.Proofs Go.RowKit Go.Proofs.YtlfebfkphgelfaaDoor.Rx Go.Proofs.YtlfebfkphgelfaaDoor.Pl Go.Proofs.YtlfebfkphgelfaaDoor.Pw Go.Proofs.YtlfebfkphgelfaaDoor.Sk
open Go.Proofs.YtlfebfkphgelfaaDoor.Ka (nmS ixS Led)

variable {s s' : ByteArray} {p p' : PT}
/-- In s' there stands p' in the place of s's value p; all else is as it was. -/
structure Sw (s s' : ByteArray) (p p' : PT) : Prop where
  pre : ∀ j, j < p.b → bt s' (j : Int) = bt s (j : Int)
  suf : ∀ j, p.e ≤ j → bt s' (sh p.e p'.e j : Int) = bt s (j : Int)
  size : s'.size = sh p.e p'.e s.size
  wf : WfV s' p'
  b' : p'.b = p.b
  lt : p.b < p.e
  le : p.e ≤ s.size
theorem Sw.lt' (h : Sw s s' p p') : p.b < p'.e ∧ p'.e ≤ s'.size := by have := h.wf.lt; have := h.b'; omega
theorem Sw.agP (h : Sw s s' p p') : Ag s s' 0 0 p.b := ⟨fun j _ g => h.pre j g, by show p.b ≤ s'.size; have := h.lt'; omega, Nat.zero_le _⟩
theorem Sw.agS (h : Sw s s' p p') : Ag s s' p.e p'.e s.size := ⟨fun j g _ => h.suf j g, by rw [h.size]; exact Nat.le_refl _, h.le⟩
/-- A text ahead of it ends in a byte that is no blank. -/
theorem Sw.blP (h : Sw s s' p p') {i m : Nat} (hm : bl s i = m) (hb : m ≤ p.b) (hn : isB (bt s' (m : Int)) = false) : bl s' i = m := by
  subst hm
  refine bl_eq rfl (bl_ge s i) (fun j g1 g2 => ?_) hn
  rw [h.pre j (by omega)]; exact bl_blank s i j g1 g2
theorem Sw.blQ (h : Sw s s' p p') {i m : Nat} (hm : bl s i = m) (hb : m < p.b) : bl s' i = m := h.blP hm (Nat.le_of_lt hb) (by rw [h.pre m hb, ← hm]; exact bl_not s i)
theorem wf_nb {s : ByteArray} {q : PT} (h : WfV s q) : isB (bt s (q.b : Int)) = false := by
  have := Ka.wf_first h
  rw [← this]; exact bl_not s q.b
theorem mem_lo {s : ByteArray} : ∀ (ks : List PT) (ns : List (Nat × Nat)) (first : Bool) (j r t : Nat) (q : PT), WfM s first j ns ks r → ks[t]? = some q → j < q.b
  | [], ns, first, j, r, t, q, h, h2 => by simp at h2
  | p0 :: ks, ns, first, j, r, t, q, h, h2 => by
    unfold WfM at h
    obtain ⟨n0, ns', rfl, h0, hq, hs, hc, hb, hv, hM⟩ := h
    have a1 := hv.lt
    have a2 := strE_le hs
    have a3 := bl_ge s n0.2
    have a4 := bl_ge s (bl s n0.2 + 1)
    have g := bl_ge s j
    have g2 := bl_ge s (bl s j + 1)
    have hj : j ≤ n0.1 := by split at h0 <;> omega
    cases t with
    | zero =>
      simp only [List.getElem?_cons_zero, Option.some.injEq] at h2
      subst h2; omega
    | succ t =>
      simp only [List.getElem?_cons_succ] at h2
      have := mem_lo ks ns' false p0.e r t q hM h2
      omega
theorem elt_lo {s : ByteArray} : ∀ (ks : List PT) (j r t : Nat) (q : PT), WfE s false j ks r → ks[t]? = some q → j < q.b
  | [], j, r, t, q, h, h2 => by simp at h2
  | p0 :: ks, j, r, t, q, h, h2 => by
    unfold WfE at h
    obtain ⟨h0, hv, hE⟩ := h
    have h0 : bt s (bl s j : Int) = 44 ∧ p0.b = bl s (bl s j + 1) := h0
    have a1 := hv.lt
    have g := bl_ge s j
    have g2 := bl_ge s (bl s j + 1)
    cases t with
    | zero =>
      simp only [List.getElem?_cons_zero, Option.some.injEq] at h2
      subst h2; omega
    | succ t =>
      simp only [List.getElem?_cons_succ] at h2
      have := elt_lo ks p0.e r t q hE h2
      omega
/-- A value wholly ahead. -/
theorem Sw.before (h : Sw s s' p p') {q : PT} (hw : WfV s q) (hq : q.e < p.b) : WfV s' q := by
  have := h.agP.wfV q hw (Nat.zero_le _) (.inl hq)
  rwa [mvP_id] at this
theorem Sw.mems (h : Sw s s' p p') {q q' : PT} (hqb : q.b ≤ p.b) (hqe : p.e ≤ q.e) (hw' : WfV s' q') (hb' : q'.b = q.b) (he' : q'.e = sh p.e p'.e q.e) : ∀ (ks : List PT) (ns : List (Nat × Nat)) (first : Bool) (j r t : Nat), WfM s first j ns ks r → ks[t]? = some q → r ≤ s.size →
    ∃ ns' ks', WfM s' first j ns' ks' (sh p.e p'.e r) ∧ ks'[t]? = some q' ∧ (∀ t', t' ≤ t → ns'[t']? = ns[t']?) ∧ (∀ t' n, t' ≤ t → ns[t']? = some n → n.2 < p.b) ∧ (∀ t' n', t < t' → ns'[t']? = some n' → ∃ n, ns[t']? = some n ∧ n' = (sh p.e p'.e n.1, sh p.e p'.e n.2))
  | [], ns, first, j, r, t, hM, hk, hr => by simp at hk
  | p0 :: ks, ns, first, j, r, t, hM, hk, hr => by
    have hlo := mem_lo _ _ _ _ _ _ _ hM hk
    unfold WfM at hM
    obtain ⟨n0, ns0, rfl, h0, hq, hs, hc, hb, hv, hM⟩ := hM
    have a1 := hv.lt
    have a2 := strE_le hs
    have a3 := bl_ge s n0.2
    have a4 := bl_ge s (bl s n0.2 + 1)
    have g := bl_ge s j
    have g2 := bl_ge s (bl s j + 1)
    have hj : bl s j ≤ n0.1 := by split at h0 <;> omega
    have hp0 : p0.b ≤ q.b := by
      cases t with
      | zero =>
        simp only [List.getElem?_cons_zero, Option.some.injEq] at hk
        subst hk; exact Nat.le_refl _
      | succ t =>
        simp only [List.getElem?_cons_succ] at hk
        have := mem_lo _ _ _ _ _ _ _ hM hk
        omega
    have head : (if first then n0.1 = bl s' j else bt s' (bl s' j : Int) = 44 ∧ n0.1 = bl s' (bl s' j + 1)) ∧ bt s' (n0.1 : Int) = 34 ∧ strE s' (n0.1 + 1) = some n0.2 ∧ bt s' (bl s' n0.2 : Int) = 58 ∧ bl s' n0.2 = bl s n0.2 := by
      have e1 : bl s' j = bl s j := h.blQ rfl (by omega)
      have e2 : bl s' n0.2 = bl s n0.2 := h.blQ rfl (by omega)
      refine ⟨?_, by rw [h.pre _ (by omega)]; exact hq, ?_, by rw [e2, h.pre _ (by omega)]; exact hc, e2⟩
      · cases first with
        | true =>
          have h0 : n0.1 = bl s j := h0
          show n0.1 = bl s' j
          rw [e1]; exact h0
        | false =>
          obtain ⟨c1, c2⟩ : bt s (bl s j : Int) = 44 ∧ n0.1 = bl s (bl s j + 1) := h0
          show bt s' (bl s' j : Int) = 44 ∧ n0.1 = bl s' (bl s' j + 1)
          rw [e1, h.pre _ (by omega)]
          exact ⟨c1, (h.blQ c2.symm (by omega)).symm⟩
      · have := h.agP.m_strE (Nat.le_refl _) (Nat.zero_le _) hs (by omega)
        exact this
    obtain ⟨d1, d2, d3, d4, d5⟩ := head
    cases t with
    | zero =>
      simp only [List.getElem?_cons_zero, Option.some.injEq] at hk
      subst hk
      refine ⟨n0 :: ns0.map fun n => (sh p.e p'.e n.1, sh p.e p'.e n.2), q' :: mvL p.e p'.e ks, ?_, rfl, ?_, ?_, ?_⟩
      · unfold WfM
        refine ⟨n0, _, rfl, d1, d2, d3, d4, ?_, hw', ?_⟩
        · rw [hb', d5]
          exact (h.blP hb.symm hqb (by rw [← hb']; exact wf_nb hw')).symm
        · rw [he']
          exact h.agS.wfM ks ns0 false p0.e r hM hqe hr
      · intro t' ht
        have : t' = 0 := by omega
        subst this; rfl
      · intro t' n ht hn
        have : t' = 0 := by omega
        subst this
        cases hn; omega
      · intro t' n' ht hn
        cases t' with
        | zero => omega
        | succ t' =>
          simp only [List.getElem?_cons_succ, List.getElem?_map, Option.map_eq_some_iff] at hn ⊢
          obtain ⟨n, h1, rfl⟩ := hn
          exact ⟨n, h1, rfl⟩
    | succ t =>
      simp only [List.getElem?_cons_succ] at hk
      have hlo2 := mem_lo _ _ _ _ _ _ _ hM hk
      obtain ⟨ns1, ks1, e1, e2, e3, e4, e5⟩ := Sw.mems h hqb hqe hw' hb' he' ks ns0 false p0.e r t hM hk hr
      refine ⟨n0 :: ns1, p0 :: ks1, ?_, e2, ?_, ?_, ?_⟩
      · unfold WfM
        refine ⟨n0, _, rfl, d1, d2, d3, d4, ?_, h.before hv (by omega), e1⟩
        rw [d5]
        exact (h.blQ hb.symm (by omega)).symm
      · intro t' ht
        cases t' with
        | zero => rfl
        | succ t' => exact e3 t' (by omega)
      · intro t' n ht hn
        cases t' with
        | zero => cases hn; omega
        | succ t' => exact e4 t' n (by omega) hn
      · intro t' n' ht hn
        cases t' with
        | zero => omega
        | succ t' => exact e5 t' n' (by omega) (by simpa using hn)
theorem Sw.elts (h : Sw s s' p p') {q q' : PT} (hqb : q.b ≤ p.b) (hqe : p.e ≤ q.e) (hw' : WfV s' q') (hb' : q'.b = q.b) (he' : q'.e = sh p.e p'.e q.e) : ∀ (ks : List PT) (first : Bool) (j r t : Nat), WfE s first j ks r → ks[t]? = some q → r ≤ s.size →
    ∃ ks', WfE s' first j ks' (sh p.e p'.e r) ∧ ks'[t]? = some q'
  | [], first, j, r, t, hM, hk, hr => by simp at hk
  | p0 :: ks, first, j, r, t, hM, hk, hr => by
    unfold WfE at hM
    obtain ⟨h0, hv, hM⟩ := hM
    have a1 := hv.lt
    have g := bl_ge s j
    have g2 := bl_ge s (bl s j + 1)
    have hp0 : p0.b ≤ q.b := by
      cases t with
      | zero =>
        simp only [List.getElem?_cons_zero, Option.some.injEq] at hk
        subst hk; exact Nat.le_refl _
      | succ t =>
        simp only [List.getElem?_cons_succ] at hk
        have := elt_lo _ _ _ _ _ hM hk
        omega
    have head : isB (bt s' (p0.b : Int)) = false → (if first then p0.b = bl s' j else bt s' (bl s' j : Int) = 44 ∧ p0.b = bl s' (bl s' j + 1)) := by
      intro hnb
      cases first with
      | true =>
        have h0 : p0.b = bl s j := h0
        exact (h.blP h0.symm (by omega) hnb).symm
      | false =>
        obtain ⟨c1, c2⟩ : bt s (bl s j : Int) = 44 ∧ p0.b = bl s (bl s j + 1) := h0
        have e1 : bl s' j = bl s j := h.blQ rfl (by omega)
        show bt s' (bl s' j : Int) = 44 ∧ p0.b = bl s' (bl s' j + 1)
        rw [e1, h.pre _ (by omega)]
        exact ⟨c1, (h.blP c2.symm (by omega) hnb).symm⟩
    cases t with
    | zero =>
      simp only [List.getElem?_cons_zero, Option.some.injEq] at hk
      subst hk
      refine ⟨q' :: mvL p.e p'.e ks, ?_, rfl⟩
      unfold WfE
      refine ⟨by rw [hb']; exact head (by rw [← hb']; exact wf_nb hw'), hw', ?_⟩
      rw [he']
      exact h.agS.wfE ks false p0.e r hM hqe hr
    | succ t =>
      simp only [List.getElem?_cons_succ] at hk
      have hlo2 := elt_lo _ _ _ _ _ hM hk
      obtain ⟨ks1, e1, e2⟩ := Sw.elts h hqb hqe hw' hb' he' ks false p0.e r t hM hk hr
      have hv' := h.before hv (by omega)
      refine ⟨p0 :: ks1, ?_, e2⟩
      unfold WfE
      exact ⟨head (wf_nb hv'), hv', e1⟩
theorem ext_same {s s' : ByteArray} {a b : Nat} (h1 : b ≤ s.size) (h2 : b ≤ s'.size) (h : ∀ j, j < b → bt s' (j : Int) = bt s (j : Int)) : s'.extract a b = s.extract a b := by
  have z1 : (s.extract a b).size = b - a := by rw [ByteArray.size_extract]; omega
  have z2 : (s'.extract a b).size = b - a := by rw [ByteArray.size_extract]; omega
  apply ByteArray.ext
  apply Array.ext
  · show (s'.extract a b).size = (s.extract a b).size
    rw [z1, z2]
  · intro k k1 k2
    have hk : k < b - a := by rw [← z1]; exact k2
    have a1 := bt_extract (s := s) (a := a) (b := b) (j := k) h1 (by omega)
    have a2 := bt_extract (s := s') (a := a) (b := b) (j := k) h2 (by omega)
    rw [h _ (by omega), ← a1] at a2
    unfold bt at a2
    rw [Int.toNat_natCast, List.getD_eq_getElem?_getD, List.getD_eq_getElem?_getD, List.getElem?_eq_getElem (by rw [Array.length_toList]; exact k1), List.getElem?_eq_getElem (by rw [Array.length_toList]; exact k2)] at a2
    simp only [Option.getD_some, Array.getElem_toList] at a2
    exact UInt8.toNat_inj.1 (Int.ofNat.inj a2)
theorem Sw.name (h : Sw s s' p p') {n : Nat × Nat} (hn : n.2 < p.b) : nmS s' n = nmS s n := by
  unfold nmS
  have := h.lt'
  have := h.le
  have := h.lt
  rw [ext_same (by omega) (by omega) (fun j hj => h.pre j (by omega))]
/-- The keys lead on. -/
theorem lead_sw {q : PT} {keys : List ByteArray} (hL : Gk.Lead (nmS s) ixS q keys p) (h : Sw s s' p p') (hq : WfV s q) : ∃ q', WfV s' q' ∧ q'.b = q.b ∧ q'.e = sh p.e p'.e q.e ∧ Gk.Lead (nmS s') ixS q' keys p' := by
  induction hL with
  | @nil p => exact ⟨p', h.wf, h.b', by unfold sh; omega, .nil⟩
  | @mem b e' ns ks t n p1 p key rest h1 h2 h3 h4 h5 ih =>
    obtain ⟨w1, w2, w3, w4⟩ := Gk.wf_obj hq
    obtain ⟨m1, m2, m3, m4, m5, m6, m7⟩ := Gk.mem_at ks ns true (b + 1) e' t n p1 w4 h1 h2
    obtain ⟨q1, a1, a2, a3, a4⟩ := ih h m5
    obtain ⟨c1, c2, c3, c4⟩ := Ka.Lead.wf h5 m5
    obtain ⟨ns', ks', d1, d2, d3, d4, _⟩ := h.mems c2 c3 a1 a2 a3 ks ns true (b + 1) e' t w4 h2 w2
    refine ⟨.mk 6 b (sh p.e p'.e e') ns' ks', ?_, rfl, rfl, ?_⟩
    · unfold WfV
      have := h.lt'
      have hz := h.size
      refine ⟨by unfold sh; omega, by rw [hz]; unfold sh; omega, .inr (.inr (.inr ⟨rfl, by rw [h.pre _ (by omega)]; exact w3, d1⟩))⟩
    · refine .mem (by rw [d3 t (Nat.le_refl t)]; exact h1) d2 (by rw [h.name (d4 t n (Nat.le_refl t) h1)]; exact h3) (fun j' n' hj hn => ?_) a4
      rw [d3 j' (by omega)] at hn
      rw [h.name (d4 j' n' (by omega) hn)]
      exact h4 j' n' hj hn
  | @elt b e' ns ks t p1 p key rest h1 h2 h5 ih =>
    obtain ⟨w1, w2, w3, w4⟩ := Gk.wf_arr hq
    obtain ⟨m1, m2, m3, m4⟩ := Gk.elt_at ks true (b + 1) e' t p1 w4 h2
    obtain ⟨q1, a1, a2, a3, a4⟩ := ih h m1
    obtain ⟨c1, c2, c3, c4⟩ := Ka.Lead.wf h5 m1
    obtain ⟨ks', d1, d2⟩ := h.elts c2 c3 a1 a2 a3 ks true (b + 1) e' t w4 h2 w2
    refine ⟨.mk 5 b (sh p.e p'.e e') [] ks', ?_, rfl, rfl, .elt h1 d2 a4⟩
    unfold WfV
    have := h.lt'
    have hz := h.size
    exact ⟨by unfold sh; omega, by rw [hz]; unfold sh; omega, .inr (.inr (.inl ⟨rfl, rfl, by rw [h.pre _ (by omega)]; exact w3, d1⟩))⟩
/-- From the text's value on. -/
theorem led_sw {p0 : PT} {keys : List ByteArray} (hL : Led s p0 keys p) (h : Sw s s' p p') : ∃ p0', Led s' p0' keys p' := by
  obtain ⟨q', a1, a2, a3, a4⟩ := lead_sw hL.lead h hL.wf
  have c := Ka.Lead.wf hL.lead hL.wf
  have hl := hL.wf.lt
  refine ⟨q', ?_, a1, ?_, a4⟩
  · rw [a2]
    exact h.blP hL.at0 c.2.1 (by rw [← a2]; exact wf_nb a1)
  · rw [a3, h.size]
    refine bl_eq rfl (by unfold sh; omega) (fun j g1 g2 => ?_) (by rw [← h.size, bt_end (Nat.le_refl _)]; rfl)
    obtain ⟨k, hk, rfl⟩ := sh_back (u := p.e) (v := p'.e) (j := j) (by unfold sh at g1; omega)
    have g2 : k < s.size := (sh_lt hk).1 g2
    rw [h.suf k hk]
    exact bl_blank s p0.e k (by unfold sh at g1; omega) (by rw [hL.fin]; exact g2)
/-- A text with a part taken out and another put in. -/
def put (s : ByteArray) (b e : Nat) (t : ByteArray) : ByteArray := s.extract 0 b ++ t ++ s.extract e s.size
theorem bt_app1 {x y : ByteArray} {j : Nat} (h : j < x.size) : bt (x ++ y) (j : Int) = bt x (j : Int) := by
  unfold bt
  rw [Int.toNat_natCast, List.getD_eq_getElem?_getD, List.getD_eq_getElem?_getD]
  have e : (x ++ y).data.toList = x.data.toList ++ y.data.toList := by rw [ByteArray.data_append, Array.toList_append]
  rw [e, List.getElem?_append_left (by rw [Array.length_toList]; exact h)]
theorem bt_app2 {x y : ByteArray} {j : Nat} : bt (x ++ y) ((x.size + j : Nat) : Int) = bt y (j : Int) := by
  unfold bt
  rw [Int.toNat_natCast, Int.toNat_natCast, List.getD_eq_getElem?_getD, List.getD_eq_getElem?_getD]
  have e : (x ++ y).data.toList = x.data.toList ++ y.data.toList := by rw [ByteArray.data_append, Array.toList_append]
  have hz : x.data.toList.length = x.size := by rw [Array.length_toList]; rfl
  rw [e, List.getElem?_append_right (by rw [hz]; omega), hz, Nat.add_sub_cancel_left]
theorem put_size {s t : ByteArray} {b e : Nat} (hb : b ≤ e) (he : e ≤ s.size) : (put s b e t).size = b + t.size + (s.size - e) := by
  unfold put
  rw [ByteArray.size_append, ByteArray.size_append, ByteArray.size_extract, ByteArray.size_extract]
  omega
theorem put_pre {s t : ByteArray} {b e j : Nat} (hb : b ≤ e) (he : e ≤ s.size) (hj : j < b) : bt (put s b e t) (j : Int) = bt s (j : Int) := by
  unfold put
  have z : (s.extract 0 b).size = b := by rw [ByteArray.size_extract]; omega
  rw [bt_app1 (by rw [ByteArray.size_append]; omega), bt_app1 (by omega), bt_extract (by omega) (by omega), Nat.zero_add]
theorem put_mid {s t : ByteArray} {b e j : Nat} (hb : b ≤ e) (he : e ≤ s.size) (hj : j < t.size) : bt (put s b e t) ((b + j : Nat) : Int) = bt t (j : Int) := by
  unfold put
  have z : (s.extract 0 b).size = b := by rw [ByteArray.size_extract]; omega
  rw [bt_app1 (by rw [ByteArray.size_append]; omega)]
  have := bt_app2 (x := s.extract 0 b) (y := t) (j := j)
  rwa [z] at this
theorem put_suf {s t : ByteArray} {b e j : Nat} (hb : b ≤ e) (he : e ≤ s.size) (hj : e ≤ j) : bt (put s b e t) ((b + t.size + (j - e) : Nat) : Int) = bt s (j : Int) := by
  unfold put
  have z : (s.extract 0 b ++ t).size = b + t.size := by rw [ByteArray.size_append, ByteArray.size_extract]; omega
  have := bt_app2 (x := s.extract 0 b ++ t) (y := s.extract e s.size) (j := j - e)
  rw [z] at this
  rw [this]
  rcases Nat.lt_or_ge j s.size with g | g
  · rw [bt_extract (Nat.le_refl _) (by omega)]
    congr 2; omega
  · rw [bt_end g, bt_end (by rw [ByteArray.size_extract]; omega)]
/-- A JSON text in a value's place. -/
theorem sw_put {s t : ByteArray} {p0 p pt : PT} {keys : List ByteArray} (hL : Led s p0 keys p) (ht : WfV t pt) (hb : pt.b = 0) (he : pt.e = t.size) : Sw s (put s p.b p.e t) p (mvP 0 p.b pt) := by
  have hl := hL.wfp.lt
  have e1 : (mvP 0 p.b pt).e = p.b + t.size := by rw [mvP_e, he]; unfold sh; omega
  have hA : Ag t (put s p.b p.e t) 0 p.b t.size := ⟨fun j _ g => by
    have : sh 0 p.b j = p.b + j := by unfold sh; omega
    rw [this]; exact put_mid (by omega) hl.2 g, by rw [put_size (by omega) hl.2]; unfold sh; omega, Nat.zero_le _⟩
  refine ⟨fun j hj => put_pre (by omega) hl.2 hj, fun j hj => ?_, ?_, ?_, by rw [mvP_b, hb]; unfold sh; omega, hl.1, hl.2⟩
  · rw [e1]
    have : sh p.e (p.b + t.size) j = p.b + t.size + (j - p.e) := by unfold sh; omega
    rw [this]; exact put_suf (by omega) hl.2 hj
  · rw [e1, put_size (by omega) hl.2]; unfold sh; omega
  · refine hA.wfV pt ht (by omega) (.inr ⟨he, ?_⟩)
    have : sh 0 p.b t.size = p.b + t.size + (p.e - p.e) := by unfold sh; omega
    rw [this, put_suf (by omega) hl.2 (Nat.le_refl _)]
    rcases hL.beh with g | g
    · rw [g, bt_end (Nat.le_refl _)]; exact ⟨rfl, by decide, by decide, by decide⟩
    · unfold Ka.isE at g
      rcases g with g | g | g | g | g | g | g <;> rw [g] <;> exact ⟨rfl, by decide, by decide, by decide⟩
end Go.Proofs.YtlfebfkphgelfaaDoor.Ed
