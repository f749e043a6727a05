/- How a scanner that knows strings and brackets goes over a JSON text. No statement of the set is proved here. -/
import Derived.Test.YtlhhmgopfilgpabPj
import Derived.Test.YtlhhmgopfilgpabPd
namespace Go.Proofs.Ytlhhmgopfilgpab.Pl
open Go Go.Proofs.Ytlhhmgopfilgpab.Rx

/-- From place to place outside of strings; ahead of a closing bracket no comma but for blanks. -/
inductive Run (s : ByteArray) : Nat → Nat → Prop
  | refl (i : Nat) : Run s i i
  | byte {i j : Nat} (h0 : i < s.size) (h1 : bt s i ≠ 34) (h2 : bt s i ≠ 47) (h3 : bt s i ≠ 93) (h4 : bt s i ≠ 125) (h : Run s (i + 1) j) : Run s i j
  | str {i m j : Nat} (h1 : bt s i = 34) (h2 : strE s (i + 1) = some m) (h : Run s m j) : Run s i j
  | close {i q j : Nat} (h0 : i < s.size) (h1 : bt s i = 93 ∨ bt s i = 125) (h2 : q < i) (h3 : bt s q ≠ 44) (h4 : 32 < bt s q) (h5 : ∀ k, q < k → k < i → bt s k ≤ 32) (h : Run s (i + 1) j) : Run s i j
variable {s : ByteArray}
theorem Run.trans {i j k : Nat} (h : Run s i j) (h' : Run s j k) : Run s i k := by
  induction h with
  | refl => exact h'
  | byte h0 h1 h2 h3 h4 _ ih => exact .byte h0 h1 h2 h3 h4 (ih h')
  | str h1 h2 _ ih => exact .str h1 h2 (ih h')
  | close h0 h1 h2 h3 h4 h5 _ ih => exact .close h0 h1 h2 h3 h4 h5 (ih h')
theorem Run.le {i j : Nat} (h : Run s i j) : i ≤ j := by
  induction h with
  | refl => exact Nat.le_refl _
  | byte _ _ _ _ _ _ ih => omega
  | str _ h2 _ ih => have := (strE_le h2).1; omega
  | close _ _ _ _ _ _ _ ih => omega
theorem Run.bytes {i : Nat} : ∀ {j : Nat}, i ≤ j → j ≤ s.size → (∀ k, i ≤ k → k < j → bt s (k : Nat) ≠ 34 ∧ bt s (k : Nat) ≠ 47 ∧ bt s (k : Nat) ≠ 93 ∧ bt s (k : Nat) ≠ 125) → Run s i j
  | j, hij, hj, h => by
    induction hd : j - i generalizing i with
    | zero => have : i = j := by omega
              subst this; exact .refl _
    | succ n ih =>
      obtain ⟨a, b, c, d⟩ := h i (Nat.le_refl _) (by omega)
      exact .byte (by omega) a b c d (ih (by omega) (fun k h1 h2 => h k (by omega) h2) (by omega))
theorem isB_of {c : Int} (h : isB c = true) : c ≠ 34 ∧ c ≠ 47 ∧ c ≠ 93 ∧ c ≠ 125 ∧ c ≤ 32 := by have := isB_iff.1 h; omega
theorem bl_bytes (s : ByteArray) (i : Nat) : ∀ k, i ≤ k → k < bl s i → isB (bt s (k : Nat)) = true := by
  induction i using bl.induct s with
  | case1 i h ih =>
    rw [bl, if_pos h]
    intro k h1 h2
    rcases Nat.lt_or_ge i k with h3 | h3
    · exact ih k h3 h2
    · have : k = i := by omega
      subst this; exact h.2
  | case2 i h => rw [bl, if_neg h]; intro k h1 h2; omega
theorem Run.blanks {i : Nat} (hi : i ≤ s.size) : Run s i (bl s i) :=
  .bytes (bl_ge s i) (bl_le s i hi) fun k h1 h2 => by have := isB_of (bl_bytes s i k h1 h2); exact ⟨this.1, this.2.1, this.2.2.1, this.2.2.2.1⟩
/-- The bytes of a number. -/
def isN (c : Int) : Prop := (48 ≤ c ∧ c ≤ 57) ∨ c = 45 ∨ c = 43 ∨ c = 46 ∨ c = 101 ∨ c = 69
theorem numE_bytes {s : ByteArray} {i m : Nat} (h : numE s i = some m) : ∀ k, i ≤ k → k < m → isN (bt s (k : Nat)) := by
  have hdg : ∀ {i k}, i ≤ k → k < digs s i → isN (bt s (k : Nat)) := fun {i k} h1 h2 => .inl (isDig_iff.1 (allD_digs s i k h1 h2))
  have hD : ∀ {i m}, expD s i = some m → ∀ k, i ≤ k → k < m → isN (bt s (k : Nat)) := fun {i m} h k h1 h2 => by
    unfold expD at h; split at h
    · cases h; exact hdg h1 h2
    · cases h
  have hE : ∀ {i m}, expE s i = some m → ∀ k, i ≤ k → k < m → isN (bt s (k : Nat)) := fun {i m} h k h1 h2 => by
    unfold expE at h; split at h
    · rename_i he
      rcases Nat.lt_or_ge k (i + 1) with h3 | h3
      · have : k = i := by omega
        subst this; unfold isN; omega
      · unfold signE at h; split at h
        · rename_i hs
          rcases Nat.lt_or_ge k (i + 1 + 1) with h4 | h4
          · have : k = i + 1 := by omega
            subst this; unfold isN; omega
          · exact hD h k h4 h2
        · exact hD h k h3 h2
    · cases h; omega
  have hF : ∀ {i m}, fracE s i = some m → ∀ k, i ≤ k → k < m → isN (bt s (k : Nat)) := fun {i m} h k h1 h2 => by
    unfold fracE at h; split at h
    · rename_i hp
      split at h
      · rcases Nat.lt_or_ge k (i + 1) with h3 | h3
        · have : k = i := by omega
          subst this; unfold isN; omega
        · rcases Nat.lt_or_ge k (digs s (i + 1)) with h4 | h4
          · exact hdg h3 h4
          · exact hE h k h4 h2
      · cases h
    · exact hE h k h1 h2
  have hI : ∀ {i m}, intE s i = some m → ∀ k, i ≤ k → k < m → isN (bt s (k : Nat)) := fun {i m} h k h1 h2 => by
    unfold intE at h; split at h
    · rename_i hz
      rcases Nat.lt_or_ge k (i + 1) with h3 | h3
      · have : k = i := by omega
        subst this; unfold isN; omega
      · exact hF h k h3 h2
    · split at h
      · rcases Nat.lt_or_ge k (digs s i) with h4 | h4
        · exact hdg h1 h4
        · exact hF h k h4 h2
      · cases h
  intro k h1 h2
  unfold numE at h; split at h
  · rename_i hm
    rcases Nat.lt_or_ge k (i + 1) with h3 | h3
    · have : k = i := by omega
      subst this; unfold isN; omega
    · exact hI h k h3 h2
  · exact hI h k h1 h2
theorem wordB_bytes {s : ByteArray} {i : Nat} {w : ByteArray} (h : wordB s i w = true) : ∀ k, k < w.size → bt s ((i + k : Nat) : Int) = bt w (k : Nat) := by
  intro k hk
  simp only [wordB, Bool.and_eq_true, decide_eq_true_eq, strEq_iff] at h
  obtain ⟨h1, h2⟩ := h
  have hz : (s.extract i (i + w.size)).size = w.size := by rw [h2]
  have e : bt (s.extract i (i + w.size)) (k : Nat) = bt w (k : Nat) := by rw [h2]
  rw [← e]
  unfold bt
  rw [Int.toNat_natCast, Int.toNat_natCast]
  congr 2
  have e1 : (s.extract i (i + w.size)).data.toList = (s.data.toList.drop i).take w.size := by
    rw [ByteArray.data_extract, Array.toList_extract, List.extract_eq_take_drop]
    congr 1; omega
  rw [e1]
  simp only [List.getD_eq_getElem?_getD, List.getElem?_take, List.getElem?_drop]
  rw [if_pos hk]
/-- The last byte of a value is neither a blank nor a comma. -/
def lastOk (s : ByteArray) (e : Nat) : Prop := 0 < e ∧ bt s ((e - 1 : Nat) : Int) ≠ 44 ∧ 32 < bt s ((e - 1 : Nat) : Int)
theorem strE_last {s : ByteArray} {i m : Nat} (h : strE s i = some m) : bt s ((m - 1 : Nat) : Int) = 34 := by
  induction i using strE.induct s with
  | case1 i h1 h2 => rw [strE_q h2] at h; cases h; exact h2
  | case2 i h1 h2 h3 => rw [strE_ctl h3] at h; cases h
  | case3 i h1 h2 h3 h4 h5 => rw [strE_esc h4, h5] at h; cases h
  | case4 i h1 h2 h3 h4 j h5 h6 ih => rw [strE_esc h4, h5] at h; exact ih h
  | case5 i h1 h2 h3 h4 j h5 h6 => have := (escE_le h5).1; omega
  | case6 i h1 h2 h3 h4 ih => rw [strE_plain h1 h2 h3 h4] at h; exact ih h
  | case7 i h1 => rw [strE_end (by omega)] at h; cases h
theorem Run.shut {i c : Nat} {x : Int} (hx : x = 93 ∨ x = 125) (hl : lastOk s i) (hb : bl s i = c) (hc : bt s (c : Nat) = x) : Run s i (c + 1) := by
  have hlt : c < s.size := lt_of_bt (by omega)
  have hi : i ≤ c := by rw [← hb]; exact bl_ge s i
  have h1 := Run.blanks (s := s) (i := i) (by omega)
  rw [hb] at h1
  refine h1.trans (.close (q := i - 1) hlt (by omega) (by have := hl.1; omega) hl.2.1 hl.2.2 (fun k h2 h3 => ?_) (.refl _))
  exact (isB_of (bl_bytes s i k (by omega) (by omega))).2.2.2.2
theorem Run.one {i : Nat} {x : Int} (hx : x ≠ 34 ∧ x ≠ 47 ∧ x ≠ 93 ∧ x ≠ 125 ∧ x ≠ 0) (h : bt s (i : Nat) = x) : Run s i (i + 1) :=
  .byte (lt_of_bt (by omega)) (by omega) (by omega) (by omega) (by omega) (.refl _)
theorem runs : ∀ (n i : Nat), s.size + 1 - i ≤ n → i ≤ s.size →
    (∀ p, val s i = some p → Run s i p.e ∧ lastOk s p.e) ∧ (∀ x, elems s i = some x → Run s i x.2 ∧ lastOk s x.2) ∧ (∀ x, mems s i = some x → Run s i x.2.2 ∧ lastOk s x.2.2) := by
  intro n
  induction n with
  | zero => intro i h1 h2; omega
  | succ n ih =>
    intro i h1 h2
    have brOk : ∀ {c : Nat} {x : Int}, (x = 93 ∨ x = 125) → bt s (c : Nat) = x → lastOk s (c + 1) := fun {c x} hx h => ⟨by omega, by simp only [Nat.add_sub_cancel]; omega, by simp only [Nat.add_sub_cancel]; omega⟩
    have opOk : ∀ {c : Nat} {x : Int}, (x = 91 ∨ x = 123) → bt s (c : Nat) = x → lastOk s (c + 1) := fun {c x} hx h => ⟨by omega, by simp only [Nat.add_sub_cancel]; omega, by simp only [Nat.add_sub_cancel]; omega⟩
    have hV : ∀ p, val s i = some p → Run s i p.e ∧ lastOk s p.e := by
      intro p hp
      rw [val] at hp
      split at hp
      · rename_i h
        have hlt : i < s.size := lt_of_bt (by omega)
        have hb := bl_ge s (i + 1)
        have hr := Run.one (s := s) (i := i) (x := 123) (by decide) h
        split at hp
        · rename_i h'
          cases hp
          exact ⟨hr.trans (Run.shut (.inr rfl) (opOk (.inr rfl) h) rfl h'), brOk (.inr rfl) h'⟩
        · split at hp
          · cases hp
          · rename_i x ns ks e hx
            have := (ih _ (by omega) (bl_le s (i + 1) hlt)).2.2 _ hx
            cases hp
            exact ⟨(hr.trans (Run.blanks hlt)).trans this.1, this.2⟩
      · split at hp
        · rename_i h
          have hlt : i < s.size := lt_of_bt (by omega)
          have hb := bl_ge s (i + 1)
          have hr := Run.one (s := s) (i := i) (x := 91) (by decide) h
          split at hp
          · rename_i h'
            cases hp
            exact ⟨hr.trans (Run.shut (.inl rfl) (opOk (.inl rfl) h) rfl h'), brOk (.inl rfl) h'⟩
          · split at hp
            · cases hp
            · rename_i x ks e hx
              have := (ih _ (by omega) (bl_le s (i + 1) hlt)).2.1 _ hx
              cases hp
              exact ⟨(hr.trans (Run.blanks hlt)).trans this.1, this.2⟩
        · split at hp
          · rename_i h
            cases e : strE s (i + 1) with
            | none => rw [e] at hp; cases hp
            | some m =>
              rw [e] at hp; cases hp
              have h3 := strE_last e
              have h4 := strE_le e
              exact ⟨.str h e (.refl _), by simp only [PT.e]; omega, by simp only [PT.e]; omega, by simp only [PT.e]; omega⟩
          · split at hp
            · cases e : numE s i with
              | none => rw [e] at hp; cases hp
              | some m =>
                rw [e] at hp; cases hp
                have h3 := numE_bytes e
                have h4 := numE_le h2 e
                have h5 := h3 (m - 1) (by omega) (by omega)
                unfold isN at h5
                refine ⟨.bytes (by simp only [PT.e]; omega) h4.2 fun k h1 h2 => ?_, by simp only [PT.e]; omega, by simp only [PT.e]; omega, by simp only [PT.e]; omega⟩
                have := h3 k h1 h2; unfold isN at this; omega
            · have word : ∀ (v : ByteArray), wordB s i v = true → 0 < v.size → (∀ k, k < v.size → 97 ≤ bt v (k : Nat) ∧ bt v (k : Nat) ≤ 122) → Run s i (i + v.size) ∧ lastOk s (i + v.size) := by
                intro v hw hv hb
                have h3 := wordB_bytes hw
                have h4 := wordB_lt hw
                have h5 : ∀ k, i ≤ k → k < i + v.size → 97 ≤ bt s (k : Nat) ∧ bt s (k : Nat) ≤ 122 := fun k h1 h2 => by
                  have := h3 (k - i) (by omega)
                  rw [show i + (k - i) = k from by omega] at this
                  rw [this]; exact hb _ (by omega)
                refine ⟨.bytes (by omega) h4 fun k h1 h2 => by have := h5 k h1 h2; omega, by omega, ?_, ?_⟩
                · have := h5 (i + v.size - 1) (by omega) (by omega); omega
                · have := h5 (i + v.size - 1) (by omega) (by omega); omega
              split at hp
              · cases hp; exact word nullW ‹_› (by decide) (by decide)
              · split at hp
                · cases hp; exact word falseW ‹_› (by decide) (by decide)
                · split at hp
                  · cases hp; exact word trueW ‹_› (by decide) (by decide)
                  · cases hp
    refine ⟨hV, ?_, ?_⟩
    · intro x hx
      cases hv : val s i with
      | none => rw [elems, hv] at hx; cases hx
      | some p =>
        obtain ⟨r, l⟩ := hV _ hv
        have v := val_end h2 hv
        rw [elems, hv] at hx
        simp only at hx
        split at hx
        · rename_i h
          cases hx
          exact ⟨r.trans (Run.shut (.inl rfl) l rfl h), brOk (.inl rfl) h⟩
        · split at hx
          · rename_i h
            have hlt : bl s p.e < s.size := lt_of_bt (by omega)
            have hb := bl_ge s p.e
            have hb2 := bl_ge s (bl s p.e + 1)
            split at hx
            · cases hx
            · rename_i y ks e hy
              have := (ih _ (by omega) (bl_le s (bl s p.e + 1) hlt)).2.1 _ hy
              cases hx
              exact ⟨((r.trans (Run.blanks v.2.2)).trans (Run.one (x := 44) (by decide) h.1)).trans ((Run.blanks hlt).trans this.1), this.2⟩
          · cases hx
    · intro x hx
      by_cases hq : bt s (i : Nat) = 34
      · cases hs : strE s (i + 1) with
        | none => rw [mems, if_pos hq, hs] at hx; cases hx
        | some m =>
          have hm := strE_le hs
          have hbm := bl_ge s m
          rw [mems, if_pos hq, hs] at hx
          simp only at hx
          split at hx
          · rename_i h
            have hlt : bl s m < s.size := lt_of_bt (by omega)
            have hb2 := bl_ge s (bl s m + 1)
            have r0 : Run s i (bl s (bl s m + 1)) := .str hq hs (((Run.blanks hm.2).trans (Run.one (x := 58) (by decide) h.1)).trans (Run.blanks hlt))
            split at hx
            · cases hx
            · rename_i p hv
              obtain ⟨r, l⟩ := (ih _ (by omega) (bl_le s (bl s m + 1) hlt)).1 _ hv
              have v := val_end (bl_le s _ hlt) hv
              have hb := bl_ge s p.e
              split at hx
              · rename_i h'
                cases hx
                exact ⟨(r0.trans r).trans (Run.shut (.inr rfl) l rfl h'), brOk (.inr rfl) h'⟩
              · split at hx
                · rename_i h'
                  have hlt2 : bl s p.e < s.size := lt_of_bt (by omega)
                  have hb3 := bl_ge s (bl s p.e + 1)
                  split at hx
                  · cases hx
                  · rename_i y ns ks e hy
                    have := (ih _ (by omega) (bl_le s (bl s p.e + 1) hlt2)).2.2 _ hy
                    cases hx
                    exact ⟨((r0.trans r).trans ((Run.blanks v.2.2).trans (Run.one (x := 44) (by decide) h'.1))).trans ((Run.blanks hlt2).trans this.1), this.2⟩
                · cases hx
          · cases hx
      · rw [mems, if_neg hq] at hx; cases hx
/-- The text's bytes stand in another text, further on. -/
theorem strE_shift {s t : ByteArray} {d : Nat} (hb : ∀ k, k < s.size → bt t ((k + d : Nat) : Int) = bt s (k : Nat)) (hz : s.size + d ≤ t.size) : ∀ {i m : Nat}, strE s i = some m → strE t (i + d) = some (m + d) := by
  have hx : ∀ {n i m : Nat}, hexE s i n = some m → hexE t (i + d) n = some (m + d) := by
    intro n
    induction n with
    | zero => intro i m h; cases h; rfl
    | succ n ih =>
      intro i m h
      unfold hexE at h ⊢
      split at h
      · rename_i hh
        have hlt : i < s.size := lt_of_bt (by have := isH_iff.1 hh; omega)
        rw [hb i hlt, if_pos hh, show i + d + 1 = i + 1 + d from by omega]
        exact ih h
      · cases h
  have he : ∀ {i m : Nat}, escE s i = some m → escE t (i + d) = some (m + d) := fun {i m} h => by
    unfold escE at h ⊢
    split at h
    · rename_i hh
      have hlt : i < s.size := lt_of_bt (by have := isX_iff.1 hh; omega)
      rw [hb i hlt, if_pos hh]; cases h; congr 1; omega
    · rename_i hh
      split at h
      · rename_i hu
        have hlt : i < s.size := lt_of_bt (by omega)
        rw [hb i hlt, if_neg hh, if_pos hu, show i + d + 1 = i + 1 + d from by omega]
        exact hx h
      · cases h
  intro i m h
  induction i using strE.induct s with
  | case1 i h1 h2 => rw [strE_q h2] at h; cases h; rw [strE_q (by rw [hb i h1]; exact h2)]; congr 1; omega
  | case2 i h1 h2 h3 => rw [strE_ctl h3] at h; cases h
  | case3 i h1 h2 h3 h4 h5 => rw [strE_esc h4, h5] at h; cases h
  | case4 i h1 h2 h3 h4 j h5 h6 ih =>
    rw [strE_esc h4, h5] at h
    rw [strE_esc (by rw [hb i h1]; exact h4), show i + d + 1 = i + 1 + d from by omega, he h5]
    exact ih h
  | case5 i h1 h2 h3 h4 j h5 h6 => have := (escE_le h5).1; omega
  | case6 i h1 h2 h3 h4 ih =>
    rw [strE_plain h1 h2 h3 h4] at h
    rw [strE_plain (by omega) (by rw [hb i h1]; exact h2) (by rw [hb i h1]; exact h3) (by rw [hb i h1]; exact h4), show i + d + 1 = i + 1 + d from by omega]
    exact ih h
  | case7 i h1 => rw [strE_end (by omega)] at h; cases h
theorem Run.shift {s t : ByteArray} {d : Nat} (hb : ∀ k, k < s.size → bt t ((k + d : Nat) : Int) = bt s (k : Nat)) (hz : s.size + d ≤ t.size) {i j : Nat} (h : Run s i j) : Run t (i + d) (j + d) := by
  induction h with
  | refl => exact .refl _
  | @byte i j h0 h1 h2 h3 h4 _ ih =>
    rw [show i + 1 + d = i + d + 1 from by omega] at ih
    exact .byte (by omega) (by rw [hb i h0]; exact h1) (by rw [hb i h0]; exact h2) (by rw [hb i h0]; exact h3) (by rw [hb i h0]; exact h4) ih
  | @str i m j h1 h2 _ ih =>
    refine .str (m := m + d) (by rw [hb i (lt_of_bt (by omega))]; exact h1) ?_ ih
    have := strE_shift hb hz h2
    rwa [show i + 1 + d = i + d + 1 from by omega] at this
  | @close i q j h0 h1 h2 h3 h4 h5 _ ih =>
    rw [show i + 1 + d = i + d + 1 from by omega] at ih
    refine .close (q := q + d) (by omega) (by rw [hb i h0]; exact h1) (by omega) (by rw [hb q (by omega)]; exact h3) (by rw [hb q (by omega)]; exact h4) (fun k h6 h7 => ?_) ih
    have := hb (k - d) (by omega)
    rw [show k - d + d = k from by omega] at this
    rw [this]; exact h5 _ (by omega) (by omega)
end Go.Proofs.Ytlhhmgopfilgpab.Pl
