/- A new member at an object's end, in its text. Plain; no statement of the set is proved here. -/
import Derived.Test.YtlfebfkphgelfaaDoorEd
import Derived.Test.YtlfebfkphgelfaaDoorGm
namespace Go.Proofs.YtlfebfkphgelfaaDoor.Ed
open Go Go.Proofs Go.RowKit Go.Proofs.YtlfebfkphgelfaaDoor.Rx Go.Proofs.YtlfebfkphgelfaaDoor.Pl Go.Proofs.YtlfebfkphgelfaaDoor.Pw Go.Proofs.YtlfebfkphgelfaaDoor.Sk Go.Proofs.YtlfebfkphgelfaaDoor.Ut Go.Proofs.YtlfebfkphgelfaaDoor.Bw Go.Proofs.YtlfebfkphgelfaaDoor.Uq Go.Proofs.YtlfebfkphgelfaaDoor.Ql
open Go.Proofs.YtlfebfkphgelfaaDoor.Ka (nmS ixS Led)
open Go.Proofs.YtlfebfkphgelfaaDoor.Gk (Lead)

variable {s s' o T k X : ByteArray} {u v e : Nat} {c : Bool}
/-- A name that may stand between quotation marks as it is. -/
def AsIs (k : ByteArray) : Prop := ∀ j, j < k.size → 32 ≤ bt k (j : Int) ∧ bt k (j : Int) ≠ 34 ∧ bt k (j : Int) ≠ 92
/-- Where the new member's name begins. -/
def inI (o : ByteArray) (c : Bool) : Nat := o.size - 1 + (if c then 1 else 0)
/-- T is the object o with one member more at its end, with a comma ahead of it or without. -/
structure Ins (o T k X : ByteArray) (c : Bool) : Prop where
  one : 1 ≤ o.size
  pre : ∀ j, j < o.size - 1 → bt T (j : Int) = bt o (j : Int)
  com : c = true → bt T ((o.size - 1 : Nat) : Int) = 44
  q1 : bt T ((inI o c : Nat) : Int) = 34
  nm : ∀ j, j < k.size → bt T ((inI o c + 1 + j : Nat) : Int) = bt k (j : Int)
  q2 : bt T ((inI o c + 1 + k.size : Nat) : Int) = 34
  col : bt T ((inI o c + 1 + k.size + 1 : Nat) : Int) = 58
  val : ∀ j, j < X.size → bt T ((inI o c + k.size + 3 + j : Nat) : Int) = bt X (j : Int)
  cl : bt T ((inI o c + k.size + 3 + X.size : Nat) : Int) = 125
  size : T.size = inI o c + k.size + 3 + X.size + 1
theorem Ins.str (h : Ins o T k X c) (hk : AsIs k) : ∀ (n j : Nat), k.size - j ≤ n → j ≤ k.size → strE T (inI o c + 1 + j) = some (inI o c + 1 + k.size + 1)
  | 0, j, hn, hj => by
    have : j = k.size := by omega
    subst this
    exact strE_q h.q2
  | n + 1, j, hn, hj => by
    rcases Nat.lt_or_ge j k.size with g | g
    rotate_left
    · exact Ins.str h hk 0 j (by omega) hj
    have hb := h.nm j g
    have hz := h.size
    obtain ⟨a1, a2, a3⟩ := hk j g
    rw [strE_plain (by omega) (by omega) (by omega) (by omega)]
    exact Ins.str h hk n (j + 1) (by omega) (by omega)
theorem Ok.bytes : ∀ (l : List UInt8), (∀ c ∈ l, 32 ≤ c.toNat ∧ c.toNat ≠ 34 ∧ c.toNat ≠ 92) → Ok l l
  | [], _ => Ok.nil
  | c :: l, h => (Ok.byte (h c (by simp)).1 (h c (by simp)).2.1 (h c (by simp)).2.2).append (Ok.bytes l fun d hd => h d (List.mem_cons_of_mem _ hd))
theorem AsIs.uo (hk : AsIs k) : uo k 0 = some k.data.toList := by
  have hz : k.data.toList.length = k.size := by rw [Array.length_toList]; rfl
  have h := Ok.bytes k.data.toList (fun c hc => by
    obtain ⟨j, hj⟩ := List.mem_iff_getElem?.1 hc
    have hl := (List.getElem?_eq_some_iff.1 hj).1
    have := hk j (by omega)
    have e : bt k (j : Int) = (c.toNat : Int) := by
      refine bt_gb ?_
      unfold gb
      rw [List.getD_eq_getElem?_getD, hj]; rfl
    rw [e] at this
    omega)
  have h2 := (h k 0 [] (by rw [List.append_nil]; rfl)).2
  rw [h2, uo_end (by omega)]
  show some (k.data.toList ++ []) = _
  rw [List.append_nil]
theorem Ins.name (h : Ins o T k X c) (hk : AsIs k) : nmS T (inI o c, inI o c + 1 + k.size + 1) = k := by
  have hz := h.size
  unfold nmS
  have e : T.extract (inI o c + 1) (inI o c + 1 + k.size + 1 - 1) = k := by
    have := ext_eq (s := k) (s' := T) (a := 0) (a' := inI o c + 1) (n := k.size) (by omega) (by omega) (fun j hj => by rw [Nat.zero_add]; exact h.nm j hj)
    rw [Nat.zero_add, ByteArray.extract_zero_size] at this
    rw [Nat.add_sub_cancel]; exact this
  show ByteArray.mk ((Uq.uo (T.extract (inI o c + 1) (inI o c + 1 + k.size + 1 - 1)) 0).getD []).toArray = k
  rw [e, hk.uo]
  show ByteArray.mk k.data.toList.toArray = k
  rw [Array.toArray_toList]
theorem Ins.ag (h : Ins o T k X c) : Ag o T 0 0 (o.size - 1) := ⟨fun j _ g => h.pre j g, by
  have := h.size; have := h.one
  show o.size - 1 ≤ T.size
  unfold inI at *; omega, Nat.zero_le _⟩
theorem Ins.agX (h : Ins o T k X c) : Ag X T 0 (inI o c + k.size + 3) X.size := ⟨fun j _ g => by
  have := h.val j g
  have e : sh 0 (inI o c + k.size + 3) j = inI o c + k.size + 3 + j := by unfold sh; omega
  rw [e]; exact this, by have := h.size; unfold sh; omega, Nat.zero_le _⟩
/-- The members and the new one. -/
theorem Ins.mems (h : Ins o T k X c) (hk : AsIs k) {pv : PT} (hv : WfV T pv) (hb : pv.b = inI o c + k.size + 3) (he : pv.e = inI o c + k.size + 3 + X.size) : ∀ (ks : List PT) (ns : List (Nat × Nat)) (first : Bool) (j : Nat), WfM o first j ns ks o.size → (c = false ↔ ks = [] ∧ first = true) →
    WfM T first j (ns ++ [(inI o c, inI o c + 1 + k.size + 1)]) (ks ++ [pv]) T.size
  | [], ns, first, j, hM, hc => by
    have hz := h.size
    have ho := h.one
    unfold WfM at hM
    obtain ⟨rfl, h1, h2⟩ := hM
    have hg := bl_ge o j
    have hpre : ∀ i, j ≤ i → i < o.size - 1 → isB (bt T (i : Int)) = true := fun i g1 g2 => by
      rw [h.pre i g2]; exact bl_blank o j i g1 (by omega)
    show WfM T first j [(inI o c, inI o c + 1 + k.size + 1)] [pv] T.size
    unfold WfM
    refine ⟨(inI o c, inI o c + 1 + k.size + 1), [], rfl, ?_, h.q1, h.str hk k.size 0 (by omega) (by omega), ?_, ?_, hv, ?_⟩
    · cases first with
      | true =>
        have : c = false := hc.2 ⟨rfl, rfl⟩
        subst this
        have e : inI o false = o.size - 1 := rfl
        show inI o false = bl T j
        exact (bl_eq rfl (by omega) (fun i g1 g2 => hpre i g1 (by omega)) (by rw [h.q1]; rfl)).symm
      | false =>
        have hct : c = true := by
          cases c with
          | true => rfl
          | false => have := (hc.1 rfl).2; cases this
        subst hct
        have e : inI o true = o.size - 1 + 1 := rfl
        have e1 : bl T j = o.size - 1 := bl_eq rfl (by omega) hpre (by rw [h.com rfl]; rfl)
        show bt T (bl T j : Int) = 44 ∧ inI o true = bl T (bl T j + 1)
        rw [e1]
        refine ⟨h.com rfl, ?_⟩
        have e2 : bl T (o.size - 1 + 1) = o.size - 1 + 1 := bl_no (by rw [← e, h.q1]; rfl)
        rw [e2]; exact e
    · show bt T (bl T (inI o c + 1 + k.size + 1) : Int) = 58
      rw [bl_no (by rw [h.col]; rfl)]; exact h.col
    · show pv.b = bl T (bl T (inI o c + 1 + k.size + 1) + 1)
      rw [bl_no (i := inI o c + 1 + k.size + 1) (by rw [h.col]; rfl)]
      have e : inI o c + 1 + k.size + 1 + 1 = pv.b := by omega
      rw [e]
      exact (Ka.wf_first hv).symm
    · unfold WfM
      have e : bl T pv.e = pv.e := bl_no (by rw [he, h.cl]; rfl)
      rw [e, he]
      exact ⟨rfl, h.cl, by omega⟩
  | p0 :: ks, ns, first, j, hM, hc => by
    have hz := h.size
    have ho := h.one
    have hct : c = true := by
      cases c with
      | true => rfl
      | false => have := (hc.1 rfl).1; cases this
    have hlen := Gk.wfM_le _ _ _ _ _ hM
    unfold WfM at hM
    obtain ⟨n, ns', rfl, h0, hq, hs, hcl, hb', hv', hM⟩ := hM
    have a0 := Gk.wfM_bl ks ns' false p0.e o.size hM
    have a1 := hv'.lt
    have a2 := strE_le hs
    have a3 := bl_ge o n.2
    have a4 := bl_ge o (bl o n.2 + 1)
    have a5 := bl_ge o p0.e
    have g := bl_ge o j
    have g2 := bl_ge o (bl o j + 1)
    have hA := h.ag
    have hjn : bl o j ≤ n.1 := by split at h0 <;> omega
    have e1 : bl T j = bl o j := hA.m_bl (i := j) (Nat.zero_le _) (by omega)
    have e2 : bl T n.2 = bl o n.2 := hA.m_bl (i := n.2) (Nat.zero_le _) (by omega)
    have ihM := Ins.mems h hk hv hb he ks ns' false p0.e hM (by rw [hct]; simp)
    show WfM T first j (n :: (ns' ++ [(inI o c, inI o c + 1 + k.size + 1)])) (p0 :: (ks ++ [pv])) T.size
    unfold WfM
    refine ⟨n, _, rfl, ?_, by rw [h.pre _ (by omega)]; exact hq, hA.m_strE (i := n.1 + 1) (m := n.2) (Nat.le_refl _) (Nat.zero_le _) hs (by omega), by rw [e2, h.pre _ (by omega)]; exact hcl, ?_, ?_, ihM⟩
    · cases first with
      | true =>
        have h0 : n.1 = bl o j := h0
        show n.1 = bl T j
        rw [e1]; exact h0
      | false =>
        obtain ⟨c1, c2⟩ : bt o (bl o j : Int) = 44 ∧ n.1 = bl o (bl o j + 1) := h0
        have e3 : bl T (bl o j + 1) = bl o (bl o j + 1) := hA.m_bl (i := bl o j + 1) (Nat.zero_le _) (by omega)
        show bt T (bl T j : Int) = 44 ∧ n.1 = bl T (bl T j + 1)
        rw [e1, h.pre _ (by omega), e3]
        exact ⟨c1, c2⟩
    · have e3 : bl T (bl o n.2 + 1) = bl o (bl o n.2 + 1) := hA.m_bl (i := bl o n.2 + 1) (Nat.zero_le _) (by omega)
      rw [e2, e3]; exact hb'
    · have hst : Stop T 0 0 (o.size - 1) p0.e := by
        rcases Nat.lt_or_ge p0.e (o.size - 1) with g3 | g3
        · exact .inl g3
        · refine .inr ⟨by omega, ?_⟩
          have e4 : sh 0 0 (o.size - 1) = o.size - 1 := rfl
          rw [e4, h.com hct]
          exact ⟨rfl, by decide, by decide, by decide⟩
      have := hA.wfV p0 hv' (Nat.zero_le _) hst
      rwa [mvP_id] at this
theorem Ins.wfX (h : Ins o T k X c) {px : PT} (hX : WfV X px) (he : px.e = X.size) : WfV T (mvP 0 (inI o c + k.size + 3) px) := by
  refine h.agX.wfV px hX (Nat.zero_le _) (.inr ⟨he, ?_⟩)
  have e : sh 0 (inI o c + k.size + 3) X.size = inI o c + k.size + 3 + X.size := by unfold sh; omega
  rw [e, h.cl]
  exact ⟨rfl, by decide, by decide, by decide⟩
theorem Ins.wf (h : Ins o T k X c) (hk : AsIs k) {px : PT} (hX : WfV X px) (hb : px.b = 0) (he : px.e = X.size) {ns : List (Nat × Nat)} {ks : List PT} (ho : WfV o (.mk 6 0 o.size ns ks)) (hc : c = false ↔ ks = []) :
    WfV T (.mk 6 0 T.size (ns ++ [(inI o c, inI o c + 1 + k.size + 1)]) (ks ++ [mvP 0 (inI o c + k.size + 3) px])) := by
  obtain ⟨w1, w2, w3, w4⟩ := Gk.wf_obj ho
  have w5 := Gk.wfM_bl _ _ _ _ _ w4
  have w6 := bl_ge o (0 + 1)
  have hz := h.size
  have e1 : sh 0 (inI o c + k.size + 3) 0 = inI o c + k.size + 3 := by unfold sh; omega
  have e2 : sh 0 (inI o c + k.size + 3) X.size = inI o c + k.size + 3 + X.size := by unfold sh; omega
  have hm := h.mems hk (h.wfX hX he) (by rw [mvP_b, hb, e1]) (by rw [mvP_e, he, e2]) ks ns true (0 + 1) w4 (by rw [hc]; simp)
  unfold WfV
  refine ⟨by omega, Nat.le_refl _, .inr (.inr (.inr ⟨rfl, ?_, hm⟩))⟩
  rw [h.pre 0 (by omega)]; exact w3
/-! ## Keys in a value that was moved -/
theorem mvP_mk (u v k b e : Nat) (ns : List (Nat × Nat)) (ks : List PT) : mvP u v (.mk k b e ns ks) = .mk k (sh u v b) (sh u v e) (ns.map fun n => (sh u v n.1, sh u v n.2)) (mvL u v ks) := by
  unfold mvP; rfl
theorem mvL_get (u v : Nat) : ∀ (ks : List PT) (t : Nat), (mvL u v ks)[t]? = (ks[t]?).map (mvP u v)
  | [], t => by unfold mvL; simp
  | p :: ks, 0 => by unfold mvL; rfl
  | p :: ks, t + 1 => by unfold mvL; rw [List.getElem?_cons_succ, List.getElem?_cons_succ]; exact mvL_get u v ks t
theorem Ag.nm (h : Ag s s' u v e) (hes : e ≤ s.size) {n : Nat × Nat} (h1 : u ≤ n.1) (h2 : n.1 + 2 ≤ n.2) (h3 : n.2 ≤ e) : nmS s' (sh u v n.1, sh u v n.2) = nmS s n := by
  have hend := h.end'
  unfold nmS
  have e1 : sh u v n.2 - 1 = (sh u v n.1 + 1) + (n.2 - n.1 - 2) := by unfold sh; omega
  have e2 : n.2 - 1 = (n.1 + 1) + (n.2 - n.1 - 2) := by omega
  show ByteArray.mk ((Uq.uo (s'.extract (sh u v n.1 + 1) (sh u v n.2 - 1)) 0).getD []).toArray = _
  rw [e1, e2, ext_eq (s := s) (a := n.1 + 1) (by omega) (by unfold sh at hend ⊢; omega) (fun j hj => by
    have := h.at' (n.1 + 1 + j) (by omega) (by omega)
    rw [sh_add (i := n.1 + 1) (by omega), sh_add h1] at this
    exact this)]
theorem mem_span : ∀ (ks : List PT) (ns : List (Nat × Nat)) (first : Bool) (j r t : Nat) (n : Nat × Nat), WfM s first j ns ks r → ns[t]? = some n → j ≤ n.1 ∧ n.1 + 2 ≤ n.2 ∧ n.2 < r
  | [], ns, first, j, r, t, n, h, h2 => by
    unfold WfM at h
    obtain ⟨rfl, _⟩ := h
    simp at h2
  | p0 :: ks, ns, first, j, r, t, n, h, h2 => by
    unfold WfM at h
    obtain ⟨n0, ns', rfl, h0, hq, hs, hc, hb, hv, hM⟩ := h
    have a0 := Gk.wfM_le ks ns' false p0.e r hM
    have a1 := hv.lt
    have a2 := strE_le hs
    have a3 := bl_ge s n0.2
    have a4 := bl_ge s (bl s n0.2 + 1)
    have g := bl_ge s j
    have g2 := bl_ge s (bl s j + 1)
    have hj : j ≤ n0.1 := by split at h0 <;> omega
    cases t with
    | zero =>
      simp only [List.getElem?_cons_zero, Option.some.injEq] at h2
      subst h2; omega
    | succ t =>
      simp only [List.getElem?_cons_succ] at h2
      have := mem_span ks ns' false p0.e r t n hM h2
      omega
theorem Lead.mv {p q : PT} {keys : List ByteArray} (hL : Lead (nmS s) ixS p keys q) (h : Ag s s' u v e) (hes : e ≤ s.size) : WfV s p → u ≤ p.b → p.e ≤ e → Lead (nmS s') ixS (mvP u v p) keys (mvP u v q) := by
  induction hL with
  | nil => intro _ _ _; exact .nil
  | @mem b e' ns ks t n p1 p key rest h1 h2 h3 h4 h5 ih =>
    intro hw hb he
    have hb : u ≤ b := hb
    have he : e' ≤ e := he
    obtain ⟨w1, w2, w3, w4⟩ := Gk.wf_obj hw
    obtain ⟨m1, m2, m3, m4, m5, m6, m7⟩ := Gk.mem_at ks ns true (b + 1) e' t n p1 w4 h1 h2
    have sp := fun t n hn => mem_span ks ns true (b + 1) e' t n w4 hn
    rw [mvP_mk]
    refine .mem (j := t) (n := (sh u v n.1, sh u v n.2)) (p := mvP u v p1) (by rw [List.getElem?_map, h1]; rfl) (by rw [mvL_get, h2]; rfl) ?_ (fun j' n' hj hn => ?_) (ih m5 (by omega) (by omega))
    · have := sp t n h1
      rw [h.nm hes (by omega) (by omega) (by omega)]; exact h3
    · rw [List.getElem?_map] at hn
      obtain ⟨n0, hn0, rfl⟩ := Option.map_eq_some_iff.1 hn
      have := sp j' n0 hn0
      rw [h.nm hes (by omega) (by omega) (by omega)]
      exact h4 j' n0 hj hn0
  | @elt b e' ns ks t p1 p key rest h1 h2 h5 ih =>
    intro hw hb he
    have hb : u ≤ b := hb
    have he : e' ≤ e := he
    obtain ⟨w1, w2, w3, w4⟩ := Gk.wf_arr hw
    obtain ⟨m1, m2, m3, m4⟩ := Gk.elt_at ks true (b + 1) e' t p1 w4 h2
    rw [mvP_mk]
    exact .elt h1 (by rw [mvL_get, h2]; rfl) (ih m1 (by omega) (by omega))
theorem Lead.app {nm : Nat × Nat → ByteArray} {ix : ByteArray → Option Nat} {p q r : PT} {a b : List ByteArray} (h : Lead nm ix p a q) (h1 : Lead nm ix q b r) : Lead nm ix p (a ++ b) r := by
  induction h with
  | nil => exact h1
  | mem a b c d _ ih => exact .mem a b c d (ih h1)
  | elt a b _ ih => exact .elt a b (ih h1)
/-- The new member is found. -/
theorem Ins.lead (h : Ins o T k X c) (hk : AsIs k) {px q : PT} {rest : List ByteArray} (hX : WfV X px) (he : px.e = X.size) (hL : Lead (nmS X) ixS px rest q) {ns : List (Nat × Nat)} {ks : List PT} (ho : WfV o (.mk 6 0 o.size ns ks)) (hlen : ns.length = ks.length) (hne : ∀ n ∈ ns, nmS o n ≠ k) {r : Nat} :
    Lead (nmS T) ixS (.mk 6 0 r (ns ++ [(inI o c, inI o c + 1 + k.size + 1)]) (ks ++ [mvP 0 (inI o c + k.size + 3) px])) (k :: rest) (mvP 0 (inI o c + k.size + 3) q) := by
  obtain ⟨w1, w2, w3, w4⟩ := Gk.wf_obj ho
  have w5 := Gk.wfM_bl _ _ _ _ _ w4
  refine .mem (j := ns.length) (n := (inI o c, inI o c + 1 + k.size + 1)) (p := mvP 0 (inI o c + k.size + 3) px) ?_ ?_ (h.name hk) (fun j' n' hj hn => ?_) (Lead.mv hL h.agX (Nat.le_refl _) hX (Nat.zero_le _) (by omega))
  · rw [List.getElem?_append_right (Nat.le_refl _), Nat.sub_self]; rfl
  · rw [hlen, List.getElem?_append_right (Nat.le_refl _), Nat.sub_self]; rfl
  · rw [List.getElem?_append_left hj] at hn
    have sp := mem_span ks ns true (0 + 1) o.size j' n' w4 hn
    have hlast : n'.2 ≤ o.size - 1 := by omega
    have := h.ag.nm (by omega) (Nat.zero_le _) sp.2.1 hlast
    have this : nmS T n' = nmS o n' := this
    rw [this]
    exact hne n' (List.mem_of_getElem? hn)
end Go.Proofs.YtlfebfkphgelfaaDoor.Ed
