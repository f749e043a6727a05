/- What a scan with a stack of closing brackets passes: a JSON value. Plain; no statement of the set is proved here. -/
import Derived.Test.YtlfebfkphgelfaaDoorMI
namespace Go.Proofs.YtlfebfkphgelfaaDoor.Yp
open Go Go.Proofs Go.RowKit Go.Proofs.YtlfebfkphgelfaaDoor.Rx Go.Proofs.YtlfebfkphgelfaaDoor.Pl Go.Proofs.YtlfebfkphgelfaaDoor.Pw Go.Proofs.YtlfebfkphgelfaaDoor.Sk

variable {s : ByteArray}
/-- Inside a string: whether a backslash stands ahead; where the string ends. -/
inductive Se (s : ByteArray) : Nat → Bool → Nat → Prop
  | fin {i : Nat} : bt s (i : Int) = 34 → Se s i false (i + 1)
  | pl {i e : Nat} : i < s.size → bt s (i : Int) ≠ 34 → bt s (i : Int) ≠ 92 → Se s (i + 1) false e → Se s i false e
  | bs {i e : Nat} : bt s (i : Int) = 92 → Se s (i + 1) true e → Se s i false e
  | es {i e : Nat} : i < s.size → Se s (i + 1) false e → Se s i true e
theorem se_str : ∀ (n i e : Nat), s.size - i ≤ n → strE s i = some e → Se s i false e
  | 0, i, e, hn, h => by rw [strE_end (by omega)] at h; cases h
  | n + 1, i, e, hn, h => by
    have hlt : i < s.size := by
      rcases Nat.lt_or_ge i s.size with g | g
      · exact g
      · rw [strE_end g] at h; cases h
    by_cases h34 : bt s (i : Int) = 34
    · rw [strE_q h34] at h
      cases h
      exact .fin h34
    by_cases h32 : bt s (i : Int) < 32
    · rw [strE_ctl h32] at h; cases h
    by_cases h92 : bt s (i : Int) = 92
    · rw [strE_esc h92] at h
      cases he : escE s (i + 1) with
      | none => rw [he] at h; cases h
      | some j =>
        rw [he] at h
        have h : strE s j = some e := h
        have hj : j ≤ s.size := by
          rcases Nat.lt_or_ge s.size j with g | g
          · rw [strE_end (by omega)] at h; cases h
          · exact g
        unfold escE at he
        split at he
        · cases he
          exact .bs h92 (.es (by omega) (se_str n (i + 2) e (by omega) h))
        · split at he
          · obtain ⟨rfl, hh⟩ := hexE_ok he
            have h0 := se_str n (i + 1 + 1 + 4) e (by omega) h
            have step : ∀ m, m ≤ 4 → Se s (i + 2 + (4 - m)) false e := by
              intro m
              induction m with
              | zero => exact fun _ => h0
              | succ m ih =>
                intro hm
                have h1 := isH_iff.1 (hh (3 - m) (by omega))
                have e1 : i + 1 + 1 + (3 - m) = i + 2 + (4 - (m + 1)) := by omega
                rw [e1] at h1
                have h2 := ih (by omega)
                have e2 : i + 2 + (4 - m) = i + 2 + (4 - (m + 1)) + 1 := by omega
                rw [e2] at h2
                exact .pl (lt_of_bt (by omega)) (by omega) (by omega) h2
            exact .bs h92 (.es (by omega) (step 4 (Nat.le_refl _)))
          · cases he
    · rw [strE_plain hlt h34 h32 h92] at h
      exact .pl hlt h34 h92 (se_str n (i + 1) e (by omega) h)
theorem Se.le {i e : Nat} {b : Bool} (h : Se s i b e) : i < e ∧ e ≤ s.size := by
  induction h with
  | fin h => exact ⟨by omega, lt_of_bt (by omega)⟩
  | pl h _ _ _ ih => omega
  | bs h _ ih => omega
  | es h _ ih => omega
/-- Among brackets: the closing ones that are awaited; where the last one stands. -/
inductive Sc (s : ByteArray) : Nat → List Int → Nat → Prop
  | fin {i : Nat} : Sc s i [] i
  | str {i j e : Nat} {c : Int} {st : List Int} : bt s (i : Int) = 34 → Se s (i + 1) false j → Sc s j (c :: st) e → Sc s i (c :: st) e
  | opo {i e : Nat} {c : Int} {st : List Int} : bt s (i : Int) = 123 → Sc s (i + 1) (125 :: c :: st) e → Sc s i (c :: st) e
  | opa {i e : Nat} {c : Int} {st : List Int} : bt s (i : Int) = 91 → Sc s (i + 1) (93 :: c :: st) e → Sc s i (c :: st) e
  | cls {i e : Nat} {c : Int} {st : List Int} : c = 125 ∨ c = 93 → bt s (i : Int) = c → Sc s (i + 1) st e → Sc s i (c :: st) e
  | oth {i e : Nat} {c : Int} {st : List Int} : i < s.size → bt s (i : Int) ≠ 34 → bt s (i : Int) ≠ 123 → bt s (i : Int) ≠ 91 → bt s (i : Int) ≠ 125 → bt s (i : Int) ≠ 93 → Sc s (i + 1) (c :: st) e → Sc s i (c :: st) e
theorem Sc.bl {c : Int} {st : List Int} {e : Nat} (i : Nat) (h : Sc s (bl s i) (c :: st) e) : Sc s i (c :: st) e := by
  by_cases hb : isB (bt s (i : Int)) = true
  · have hlt : i < s.size := lt_of_bt (by have := isB_iff.1 hb; omega)
    rw [bl_yes hb] at h
    have h1 := Sc.bl (i + 1) h
    have h2 := isB_iff.1 hb
    exact .oth hlt (by omega) (by omega) (by omega) (by omega) (by omega) h1
  · rw [bl_no (by simpa using hb)] at h
    exact h
termination_by s.size - i
theorem Sc.lits {c : Int} {st : List Int} {e : Nat} : ∀ {n a b : Nat}, b - a = n → a ≤ b → b ≤ s.size → allL s a b → Sc s b (c :: st) e → Sc s a (c :: st) e
  | 0, a, b, hn, hab, _, _, h => by
    have : a = b := by omega
    subst this; exact h
  | n + 1, a, b, hn, hab, hbs, hb, h => by
    have h0 := isL_iff.1 (hb a (Nat.le_refl a) (by omega))
    exact .oth (by omega) (by omega) (by omega) (by omega) (by omega) (by omega) (Sc.lits (n := n) (by omega) (by omega) hbs (fun j g1 g2 => hb j (by omega) g2) h)
mutual
theorem sc_val : ∀ (p : PT) (c : Int) (st : List Int) (e : Nat), WfV s p → Sc s p.e (c :: st) e → Sc s p.b (c :: st) e
  | .mk k b e ns ks, c, st, r, h, ht => by
    unfold WfV at h
    have hz : Sc s e (c :: st) r := ht
    show Sc s b (c :: st) r
    obtain ⟨hlt, hle, ⟨rfl, rfl, hL, h⟩ | ⟨rfl, rfl, rfl, h1, h2⟩ | ⟨rfl, rfl, h1, h2⟩ | ⟨rfl, h1, h2⟩⟩ := h
    · exact Sc.lits rfl (Nat.le_of_lt hlt) hle hL hz
    · exact .str h1 (se_str _ _ _ (Nat.le_refl _) h2) hz
    · exact .opa h1 (sc_E true ks (b + 1) e (c :: st) r h2 hz)
    · exact .opo h1 (sc_M true ks (b + 1) e ns (c :: st) r h2 hz)
theorem sc_E : ∀ (first : Bool) (ks : List PT) (j e : Nat) (st : List Int) (r : Nat), WfE s first j ks e → Sc s e st r → Sc s j (93 :: st) r
  | first, [], j, e, st, r, h, ht => by
    unfold WfE at h
    obtain ⟨h1, rfl⟩ := h
    exact Sc.bl j (.cls (.inr rfl) h1 ht)
  | first, p :: ks, j, e, st, r, h, ht => by
    unfold WfE at h
    obtain ⟨h1, h2, h3⟩ := h
    have h4 := sc_val p 93 st r h2 (sc_E false ks p.e e st r h3 ht)
    cases first with
    | true =>
      simp only [if_true] at h1
      rw [h1] at h4
      exact Sc.bl j h4
    | false =>
      simp only [Bool.false_eq_true, if_false] at h1
      rw [h1.2] at h4
      have h5 := Sc.bl _ h4
      exact Sc.bl j (.oth (lt_of_bt (by omega)) (by omega) (by omega) (by omega) (by omega) (by omega) h5)
theorem sc_M : ∀ (first : Bool) (ks : List PT) (j e : Nat) (ns : List (Nat × Nat)) (st : List Int) (r : Nat), WfM s first j ns ks e → Sc s e st r → Sc s j (125 :: st) r
  | first, [], j, e, ns, st, r, h, ht => by
    unfold WfM at h
    obtain ⟨_, h1, rfl⟩ := h
    exact Sc.bl j (.cls (.inl rfl) h1 ht)
  | first, p :: ks, j, e, ns, st, r, h, ht => by
    unfold WfM at h
    obtain ⟨n, ns', rfl, h1, hq, hs, hc, hb, h2, h3⟩ := h
    have h4 := sc_val p 125 st r h2 (sc_M false ks p.e e ns' st r h3 ht)
    rw [hb] at h4
    have h5 := Sc.bl _ h4
    have h6 := Sc.bl n.2 (.oth (lt_of_bt (by omega)) (by omega) (by omega) (by omega) (by omega) (by omega) h5)
    have h7 : Sc s n.1 (125 :: st) r := .str hq (se_str _ _ _ (Nat.le_refl _) hs) h6
    cases first with
    | true =>
      simp only [if_true] at h1
      rw [h1] at h7
      exact Sc.bl j h7
    | false =>
      simp only [Bool.false_eq_true, if_false] at h1
      rw [h1.2] at h7
      have h8 := Sc.bl _ h7
      exact Sc.bl j (.oth (lt_of_bt (by omega)) (by omega) (by omega) (by omega) (by omega) (by omega) h8)
end
theorem Sc.le {i e : Nat} {st : List Int} (h : Sc s i st e) : i + st.length ≤ e := by
  induction h with
  | fin => exact Nat.le_refl _
  | str _ h1 _ ih => have := h1.le; simp only [List.length_cons] at ih ⊢; omega
  | opo _ _ ih => simp only [List.length_cons] at ih ⊢; omega
  | opa _ _ ih => simp only [List.length_cons] at ih ⊢; omega
  | cls _ _ _ ih => simp only [List.length_cons] at ih ⊢; omega
  | oth _ _ _ _ _ _ _ ih => simp only [List.length_cons] at ih ⊢; omega
end Go.Proofs.YtlfebfkphgelfaaDoor.Yp
