/- Where keys lead to an object that lacks the next one: New, off what the law asks. Plain; no statement of the set is proved here. -/
import Derived.Test.YtlfebfkphgelfaaDoorSi
namespace Go.Proofs.YtlfebfkphgelfaaDoor.Lj
open Go Go.Proofs Go.Proofs.YtlfebfkphgelfaaDoor.Rx Go.Proofs.YtlfebfkphgelfaaDoor.Pl Go.Proofs.YtlfebfkphgelfaaDoor.Pw
open Go.Proofs.YtlfebfkphgelfaaDoor.Ka (nmS ixS Led Mis New NoI)
open Go.Proofs.YtlfebfkphgelfaaDoor.Gk (Lead Miss)

variable {s : ByteArray}
theorem first_ix {nm : Nat × Nat → ByteArray} {k : ByteArray} : ∀ {ns : List (Nat × Nat)} {n : Nat × Nat}, n ∈ ns → nm n = k → ∃ j m, ns[j]? = some m ∧ nm m = k ∧ ∀ (j' : Nat) (n' : Nat × Nat), j' < j → ns[j']? = some n' → nm n' ≠ k
  | [], _, h, _ => by cases h
  | m :: ns, n, h, hk => by
    by_cases hm : nm m = k
    · exact ⟨0, m, rfl, hm, fun j' _ h => absurd h (Nat.not_lt_zero _)⟩
    · rcases List.mem_cons.1 h with rfl | h
      · exact absurd hk hm
      · obtain ⟨j, m', h1, h2, h3⟩ := first_ix h hk
        refine ⟨j + 1, m', by simpa using h1, h2, fun j' n' hj hn => ?_⟩
        cases j' with
        | zero =>
          simp only [List.getElem?_cons_zero, Option.some.injEq] at hn
          subst hn
          exact hm
        | succ j' => exact h3 j' n' (by omega) (by simpa using hn)
theorem no_name {b e : Nat} {ns : List (Nat × Nat)} {ks : List PT} {k : ByteArray} (hw : WfV s (.mk 6 b e ns ks)) (h : ∀ p', ¬ Lead (nmS s) ixS (.mk 6 b e ns ks) [k] p') : ∀ n ∈ ns, nmS s n ≠ k := by
  intro n hn hk
  obtain ⟨j, m, h1, h2, h3⟩ := first_ix hn hk
  obtain ⟨_, _, _, w4⟩ := Gk.wf_obj hw
  have hl := Ed.wfM_lens _ _ _ _ _ w4
  have hj := (List.getElem?_eq_some_iff.1 h1).1
  exact h _ (.mem h1 (List.getElem?_eq_getElem (by omega : j < ks.length)) h2 h3 .nil)
theorem miss_of {nm : Nat × Nat → ByteArray} {ix : ByteArray → Option Nat} {k : ByteArray} {rest : List ByteArray} {p last : PT} {ks1 : List ByteArray} (hL : Lead nm ix p ks1 last) (hm : Miss nm ix last (k :: rest)) :
    (∀ (j : Nat) (p' : PT) (key : ByteArray), (ks1 ++ k :: rest)[j]? = some key → Lead nm ix p ((ks1 ++ k :: rest).take j) p' → p'.k = 6 → UniqN nm key p'.ns) → Miss nm ix p (ks1 ++ k :: rest) := by
  induction hL with
  | nil => exact fun _ => hm
  | @mem b e ns ks j n p q key tl h1 h2 h3 h4 h5 ih =>
    intro hU
    have hu : UniqN nm key ns := hU 0 (.mk 6 b e ns ks) key rfl .nil rfl
    refine .mem h1 h2 h3 (fun j' n' hj hn hk => hj (hu j' j n' n hn h1 hk h3)) (ih hm fun j' p' key' g1 g2 g3 => hU (j' + 1) p' key' (by simpa using g1) ?_ g3)
    rw [List.cons_append, List.take_succ_cons]
    exact .mem h1 h2 h3 h4 g2
  | @elt b e ns ks j p q key tl h1 h2 h3 ih =>
    intro hU
    refine .elt h1 h2 (ih hm fun j' p' key' g1 g2 g3 => hU (j' + 1) p' key' (by simpa using g1) ?_ g3)
    rw [List.cons_append, List.take_succ_cons]
    exact .elt h1 h2 g2
theorem OnceP.pre {p : PT} {a b : List ByteArray} (h : OnceP s p (a ++ b)) : OnceP s p a := fun j p' key h1 h2 h3 => by
  have hj := (List.getElem?_eq_some_iff.1 h1).1
  refine h j p' key ?_ ?_ h3
  · rw [List.getElem?_append_left hj]; exact h1
  · rw [List.take_append_of_le_length (by omega)]; exact h2
theorem new_of {p0 last : PT} {ks1 rs : List ByteArray} {k : ByteArray} (hL : Led s p0 ks1 last) (h6 : last.k = 6) (hno : ∀ p', ¬ Lead (nmS s) ixS last [k] p') (hU : OnceP s p0 (ks1 ++ k :: rs)) (hNo : ∀ key ∈ k :: rs, NoI key) :
    ∃ b e ns ks, New s p0 ks1 b e ns ks k rs ∧ ∀ n ∈ ns, nmS s n ≠ k := by
  obtain ⟨kk, b, e, ns, ks⟩ := last
  have h6 : kk = 6 := h6
  subst h6
  have hn := no_name hL.wfp hno
  refine ⟨b, e, ns, ks, ⟨hL, ⟨hL.at0, hL.wf, hL.fin, ?_⟩, ⟨hL.at0, hL.wf, hL.fin, ?_⟩, hNo⟩, hn⟩
  · refine miss_of hL.lead (.here hn) fun j p' key h1 h2 h3 => ?_
    have e1 : ks1 ++ k :: rs = (ks1 ++ [k]) ++ rs := by simp
    rw [e1] at hU
    exact hU.pre j p' key h1 h2 h3
  · exact miss_of hL.lead (.here hn) hU
/-- Another text in the place of the first. -/
theorem put_again {a c : ByteArray} {b e : Nat} (hb : b ≤ e) (he : e ≤ s.size) : Ed.put (Ed.put s b e a) b (b + a.size) c = Ed.put s b e c := by
  have := Ed.put_put (s := s) (a := a) (b' := c) (L := []) (R := []) hb he
  simp only [List.append_nil, List.nil_append, List.length_nil, Nat.add_zero] at this
  rw [Ed.mkB_of, Ed.mkB_of] at this
  exact this
end Go.Proofs.YtlfebfkphgelfaaDoor.Lj
