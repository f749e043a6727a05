/- jsonparser's search for keys: its steps where keys lead to an object that lacks the next one. Plain; no statement of the set is proved here. -/
import Derived.Test.YtlfebfkphgelfaaDoorMA
namespace Go.Proofs.YtlfebfkphgelfaaDoor.Gk
open Go Go.Proofs.YtlfebfkphgelfaaDoor.Rx Go.Proofs.YtlfebfkphgelfaaDoor.Pl Go.Proofs.YtlfebfkphgelfaaDoor.Pw Go.Proofs.YtlfebfkphgelfaaDoor.Sk

/-- Keys lead to an object that lacks the next one; no other member on the way has a sought name. -/
inductive Miss (nm : Nat × Nat → ByteArray) (ix : ByteArray → Option Nat) : PT → List ByteArray → Prop
  | here {b e : Nat} {ns : List (Nat × Nat)} {ks : List PT} {key : ByteArray} {rest : List ByteArray} : (∀ n ∈ ns, nm n ≠ key) → Miss nm ix (.mk 6 b e ns ks) (key :: rest)
  | mem {b e : Nat} {ns : List (Nat × Nat)} {ks : List PT} {j : Nat} {n : Nat × Nat} {p : PT} {key : ByteArray} {rest : List ByteArray} :
      ns[j]? = some n → ks[j]? = some p → nm n = key → (∀ (j' : Nat) (n' : Nat × Nat), j' ≠ j → ns[j']? = some n' → nm n' ≠ key) → Miss nm ix p rest → Miss nm ix (.mk 6 b e ns ks) (key :: rest)
  | elt {b e : Nat} {ns : List (Nat × Nat)} {ks : List PT} {j : Nat} {p : PT} {key : ByteArray} {rest : List ByteArray} :
      ix key = some j → ks[j]? = some p → Miss nm ix p rest → Miss nm ix (.mk 5 b e ns ks) (key :: rest)
variable {s : ByteArray} {nm : Nat × Nat → ByteArray} {ix : ByteArray → Option Nat} {e : Nat} {keys : List ByteArray} {lv kl : Nat} {r : Option Nat} {last : Bool}
theorem Miss.ne {p : PT} {keys : List ByteArray} (h : Miss nm ix p keys) : keys ≠ [] := by cases h <;> simp
/-- An object's members are passed over, all of them. -/
theorem Go.rest {key : ByteArray} (hk : kl ≠ lv + 1) (hkey : keys[lv]? = some key) : ∀ (ks : List PT) (ns : List (Nat × Nat)) (first : Bool) (j e' : Nat) (last : Bool), WfM s first j ns ks e' → e' ≤ e →
    (∀ n ∈ ns, nm n ≠ key) → (∀ last', Go s nm ix e keys (e' - 1) (lv + 1) kl last' r) → Go s nm ix e keys (bl s j) (lv + 1) kl last r
  | [], ns, first, j, e', last, h, he, h3, h4 => by
    unfold WfM at h
    obtain ⟨_, _, h⟩ := h
    subst h
    exact h4 last
  | p0 :: ks, ns, first, j, e', last, h, he, h3, h4 => by
    unfold WfM at h
    obtain ⟨n0, ns', rfl, g1, hq, hs, hc, hb, hv, hM⟩ := h
    have hvl := hv.lt
    have hlen := wfM_le _ _ _ _ _ hM
    have b1 := bl_ge s j
    have b2 := bl_ge s (bl s j + 1)
    have b3 := bl_ge s n0.2
    have b4 := bl_ge s (bl s n0.2 + 1)
    have b5 := bl_ge s p0.e
    have hsl := strE_le hs
    have main : ∀ last', Go s nm ix e keys n0.1 (lv + 1) kl last' r := by
      intro last'
      obtain ⟨k, hk', hQ⟩ := strE_QE hs
      have hne := h3 n0 (by simp)
      have e1 : n0 = (n0.1, n0.1 + 1 + k + 1) := by
        obtain ⟨a, b⟩ := n0
        have hk' : b = a + 1 + k + 1 := hk'
        subst hk'; rfl
      rw [hk'] at b3 b4 hb hc
      refine .keyN hq hQ (by rw [← hk']; exact hs) (by omega) hc hkey (by rw [e1] at hne; exact hne) ?_
      refine Go.gap rfl b4 (by omega) (bl_blank s _) ?_
      rw [← hb]
      have cm : bt s (bl s p0.e : Int) ≠ 58 ∧ bl s p0.e < e' := by
        cases ks with
        | nil => unfold WfM at hM; obtain ⟨_, g1, g2⟩ := hM; omega
        | cons q ks =>
          have hM' := hM
          unfold WfM at hM; obtain ⟨n', ns'', _, g, _, hs', _, hb', hv', hM2⟩ := hM
          have a1 := wfM_le _ _ _ _ _ hM2
          have a2 := strE_le hs'
          have a3 := bl_ge s (bl s p0.e + 1)
          have a4 := bl_ge s n'.2
          have a5 := bl_ge s (bl s n'.2 + 1)
          have a6 := hv'.lt
          have g : bt s (bl s p0.e : Int) = 44 ∧ n'.1 = bl s (bl s p0.e + 1) := g
          omega
      refine Go.val (by omega) hv (by omega) cm.1 ?_
      exact Go.rest hk hkey ks ns' false p0.e e' false hM he (fun n hn => h3 n (List.mem_cons_of_mem _ hn)) h4
    cases first with
    | true =>
      simp only [if_true] at g1
      rw [← g1]; exact main last
    | false =>
      simp only [Bool.false_eq_true, if_false] at g1
      obtain ⟨g1, g2⟩ := g1
      have hn1 : n0.1 < e := by omega
      refine .skip (by omega) (by omega) (by omega) (by omega) (by omega) (by omega) (Go.gap rfl b2 (by omega) (bl_blank s _) ?_)
      rw [← g2]; exact main last
/-- What stands behind a member. -/
theorem mem_tail : ∀ (ks : List PT) (ns : List (Nat × Nat)) (first : Bool) (j e' t : Nat) (p : PT), WfM s first j ns ks e' → ks[t]? = some p → WfM s false p.e (ns.drop (t + 1)) (ks.drop (t + 1)) e'
  | [], ns, first, j, e', t, p, h, h2 => by simp at h2
  | p0 :: ks, ns, first, j, e', t, p, h, h2 => by
    unfold WfM at h
    obtain ⟨n0, ns', rfl, h0, hq, hs, hc, hb, hv, hM⟩ := h
    cases t with
    | zero =>
      simp only [List.getElem?_cons_zero, Option.some.injEq] at h2
      subst h2; exact hM
    | succ t =>
      simp only [List.getElem?_cons_succ] at h2
      exact mem_tail ks ns' false p0.e e' t p hM h2
/-- What the search does behind an object that lacked the key. -/
def Cont (s : ByteArray) (nm : Nat × Nat → ByteArray) (ix : ByteArray → Option Nat) (e : Nat) (keys : List ByteArray) (a : Nat) : Nat → Prop
  | 0 => ∀ j, a ≤ j → j < e → isB (bt s (j : Int)) = true
  | L + 1 => ∀ last', Go s nm ix e keys a (L + 1) L last' none
theorem Cont.close {L c : Nat} (h : Cont s nm ix e keys (c + 1) L) (hc : c < e) (h125 : bt s (c : Int) = 125) (last : Bool) : Go s nm ix e keys c (L + 1) L last none := by
  cases L with
  | zero => exact .clsE hc h125 fun j h1 h2 => h j h1 h2
  | succ L => exact .cls hc h125 (h last)
/-- The object's end. -/
theorem wfM_end : ∀ (ks : List PT) (ns : List (Nat × Nat)) (first : Bool) (j e' : Nat), WfM s first j ns ks e' → 1 ≤ e' ∧ bt s ((e' - 1 : Nat) : Int) = 125
  | [], ns, first, j, e', h => by
    unfold WfM at h
    obtain ⟨_, h1, h2⟩ := h
    subst h2
    exact ⟨by omega, by rw [Nat.add_sub_cancel]; exact h1⟩
  | p0 :: ks, ns, first, j, e', h => by
    unfold WfM at h
    obtain ⟨n0, ns', rfl, h0, hq, hs, hc, hb, hv, hM⟩ := h
    exact wfM_end ks ns' false p0.e e' hM
theorem wfM_bl : ∀ (ks : List PT) (ns : List (Nat × Nat)) (first : Bool) (j e' : Nat), WfM s first j ns ks e' → bl s j ≤ e' - 1
  | [], ns, first, j, e', h => by
    unfold WfM at h
    obtain ⟨_, h1, h2⟩ := h
    omega
  | p0 :: ks, ns, first, j, e', h => by
    unfold WfM at h
    obtain ⟨n0, ns', rfl, h0, hq, hs, hc, hb, hv, hM⟩ := h
    have a0 := wfM_le ks ns' false p0.e e' hM
    have a1 := hv.lt
    have a2 := strE_le hs
    have a3 := bl_ge s n0.2
    have a4 := bl_ge s (bl s n0.2 + 1)
    have g := bl_ge s j
    have g2 := bl_ge s (bl s j + 1)
    split at h0 <;> omega
/-- Where keys lead to an object that lacks the next one the scanner finds nothing. -/
theorem go_miss {p : PT} {keys0 : List ByteArray} (h : Miss nm ix p keys0) : WfV s p → ∀ (e : Nat) (keys : List ByteArray) (L : Nat), p.e ≤ e → keys.drop L = keys0 → Cont s nm ix e keys p.e L → Go s nm ix e keys p.b L L true none := by
  induction h with
  | @here b e' ns ks key rest h1 =>
    intro hw e keys L he hd hC
    have he : e' ≤ e := he
    have hC : Cont s nm ix e keys e' L := hC
    obtain ⟨w1, w2, w3, w4⟩ := wf_obj hw
    obtain ⟨z1, z2⟩ := wfM_end ks ns true (b + 1) e' w4
    have hkey : keys[L]? = some key := by
      have := congrArg (·[0]?) hd
      simpa using this
    have bb := bl_ge s (b + 1)
    have bb2 := wfM_bl ks ns true (b + 1) e' w4
    refine .opn (by show b < e; omega) w3 (Go.gap rfl bb (by omega) (bl_blank s _) ?_)
    exact Go.rest (by omega) hkey ks ns true (b + 1) e' true w4 he h1 fun last' => Cont.close (by rw [Nat.sub_add_cancel z1]; exact hC) (by omega) z2 last'
  | @mem b e' ns ks t n p' key rest h1 h2 h3 h4 h5 ih =>
    intro hw e keys L he hd hC
    have he : e' ≤ e := he
    have hC : Cont s nm ix e keys e' L := hC
    obtain ⟨w1, w2, w3, w4⟩ := wf_obj hw
    obtain ⟨z1, z2⟩ := wfM_end ks ns true (b + 1) e' w4
    obtain ⟨m1, m2, m3, m4, m5, m6, m7⟩ := mem_at ks ns true (b + 1) e' t n p' w4 h1 h2
    have hkey : keys[L]? = some key := by
      have := congrArg (·[0]?) hd
      simpa using this
    have hlen : (keys.drop L).length = rest.length + 1 := by rw [hd]; rfl
    rw [List.length_drop] at hlen
    have hrl := List.length_pos_iff.2 h5.ne
    have hd1 : keys.drop (L + 1) = rest := by
      have := congrArg (List.drop 1) hd
      simpa [List.drop_drop] using this
    obtain ⟨k, hk', hQ⟩ := strE_QE m2
    obtain ⟨n1, n2⟩ := n
    have hk' : n2 = n1 + 1 + k + 1 := hk'
    subst hk'
    have b3 := bl_ge s (n1 + 1 + k + 1)
    have b4 := bl_ge s (bl s (n1 + 1 + k + 1) + 1)
    have hpl := m5.lt
    have m4 : p'.b = bl s (bl s (n1 + 1 + k + 1) + 1) := m4
    have hT := mem_tail ks ns true (b + 1) e' t p' w4 h2
    have bb3 := bl_ge s p'.e
    have bb4 := wfM_bl _ _ _ _ _ hT
    have hcont : Cont s nm ix e keys p'.e (L + 1) := fun last' => by
      refine Go.gap rfl bb3 (by omega) (bl_blank s _) ?_
      refine Go.rest (by omega) hkey _ _ false p'.e e' last' hT he (fun n' hn => ?_) fun l2 => Cont.close (by rw [Nat.sub_add_cancel z1]; exact hC) (by omega) z2 l2
      obtain ⟨i, hi⟩ := List.mem_iff_getElem?.1 hn
      rw [List.getElem?_drop] at hi
      exact h4 (t + 1 + i) n' (by omega) hi
    have fin : ∀ last, Go s nm ix e keys n1 (L + 1) L last none := fun last => by
      refine .keyM m1 hQ m2 (by omega) m3 hkey h3 (by omega) ?_
      have g1 := ih m5 e keys (L + 1) (by omega) hd1 hcont
      rw [m4] at g1
      exact Go.gap rfl b4 (by omega) (bl_blank s _) g1
    have bb := bl_ge s (b + 1)
    have bb2 := wfM_bl ks ns true (b + 1) e' w4
    refine .opn (by show b < e; omega) w3 (Go.gap rfl bb (by omega) (bl_blank s _) ?_)
    exact Go.mems (s := s) (nm := nm) (ix := ix) (e := e) (r := none) (show L ≠ L + 1 by omega) hkey ks ns true (b + 1) e' t (n1, n1 + 1 + k + 1) p' true w4 he h1 h2 (fun j' n' hj hn => h4 j' n' (by omega) hn) fin
  | @elt b e' ns ks t p' key rest h1 h2 h5 ih =>
    intro hw e keys L he hd hC
    have he : e' ≤ e := he
    obtain ⟨w1, w2, w3, w4⟩ := wf_arr hw
    obtain ⟨m1, m2, m3, m4⟩ := elt_at ks true (b + 1) e' t p' w4 h2
    have hkey : keys[L]? = some key := by
      have := congrArg (·[0]?) hd
      simpa using this
    have hlen : (keys.drop L).length = rest.length + 1 := by rw [hd]; rfl
    rw [List.length_drop] at hlen
    have hrl := List.length_pos_iff.2 h5.ne
    have hd1 : keys.drop (L + 1) = rest := by
      have := congrArg (List.drop 1) hd
      simpa [List.drop_drop] using this
    exact .idxS hkey h1 hw he h2 (by omega) (ih m1 p'.e (keys.drop (L + 1)) 0 (Nat.le_refl _) hd1 fun j g1 g2 => by omega)
end Go.Proofs.YtlfebfkphgelfaaDoor.Gk
