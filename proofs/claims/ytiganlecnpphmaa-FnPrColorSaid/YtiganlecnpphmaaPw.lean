/- The values of a JSON text, as a property of their places: to go down by. Plain; no statement of the set is proved here. -/
import Derived.Test.YtiganlecnpphmaaPj
namespace Go.Proofs.Ytiganlecnpphmaa.Pw
open Go Go.Proofs.Ytiganlecnpphmaa.Rx Go.Proofs.Ytiganlecnpphmaa.Pl

/-- A byte of a number, or of null, false, true. -/
def isL (c : Int) : Bool := (decide (48 ≤ c) && decide (c ≤ 57)) || (decide (97 ≤ c) && decide (c ≤ 122)) || c == 43 || c == 45 || c == 46 || c == 69
theorem isL_iff {c : Int} : isL c = true ↔ (48 ≤ c ∧ c ≤ 57) ∨ (97 ≤ c ∧ c ≤ 122) ∨ c = 43 ∨ c = 45 ∨ c = 46 ∨ c = 69 := by simp [isL, or_assoc]
def allL (s : ByteArray) (b e : Nat) : Prop := ∀ j, b ≤ j → j < e → isL (bt s (j : Int)) = true
/-- A number, or null, false, true. -/
def Lit (s : ByteArray) (k b e : Nat) : Prop :=
  allL s b e ∧ ((k = 3 ∧ numOk (bt s (b : Int)) = true ∧ numE s b = some e) ∨ (k = 0 ∧ wordB s b nullW = true ∧ e = b + 4) ∨ (k = 1 ∧ wordB s b falseW = true ∧ e = b + 5) ∨ (k = 2 ∧ wordB s b trueW = true ∧ e = b + 4))
mutual
def WfV (s : ByteArray) : PT → Prop
  | .mk k b e ns ks => b < e ∧ e ≤ s.size ∧ (
      (ns = [] ∧ ks = [] ∧ Lit s k b e) ∨
      (k = 4 ∧ ns = [] ∧ ks = [] ∧ bt s (b : Int) = 34 ∧ strE s (b + 1) = some e) ∨
      (k = 5 ∧ ns = [] ∧ bt s (b : Int) = 91 ∧ WfE s true (b + 1) ks e) ∨
      (k = 6 ∧ bt s (b : Int) = 123 ∧ WfM s true (b + 1) ns ks e))
/-- The elements behind a bracket (first), or behind an element. -/
def WfE (s : ByteArray) (first : Bool) (j : Nat) : List PT → Nat → Prop
  | [], e => bt s (bl s j : Int) = 93 ∧ e = bl s j + 1
  | p :: ks, e => (if first then p.b = bl s j else bt s (bl s j : Int) = 44 ∧ p.b = bl s (bl s j + 1)) ∧ WfV s p ∧ WfE s false p.e ks e
def WfM (s : ByteArray) (first : Bool) (j : Nat) (ns : List (Nat × Nat)) : List PT → Nat → Prop
  | [], e => ns = [] ∧ bt s (bl s j : Int) = 125 ∧ e = bl s j + 1
  | p :: ks, e => ∃ n ns', ns = n :: ns' ∧ (if first then n.1 = bl s j else bt s (bl s j : Int) = 44 ∧ n.1 = bl s (bl s j + 1)) ∧ bt s (n.1 : Int) = 34 ∧ strE s (n.1 + 1) = some n.2 ∧ bt s (bl s n.2 : Int) = 58 ∧
      p.b = bl s (bl s n.2 + 1) ∧ WfV s p ∧ WfM s false p.e ns' ks e
end
theorem WfV.lt {s : ByteArray} {p : PT} (h : WfV s p) : p.b < p.e ∧ p.e ≤ s.size := by
  cases p; unfold WfV at h; exact ⟨h.1, h.2.1⟩
theorem isL_dig {c : Int} (h : isDig c = true) : isL c = true := isL_iff.2 (.inl (isDig_iff.1 h))
theorem digs_allL (s : ByteArray) (i : Nat) : allL s i (digs s i) := by
  induction i using digs.induct s with
  | case1 i h ih =>
    rw [digs, if_pos h]
    intro k h1 h2
    rcases Nat.lt_or_ge i k with h' | h'
    · exact ih k h' h2
    · have : k = i := by omega
      subst this; exact isL_dig h.2
  | case2 i h => rw [digs, if_neg h]; intro k h1 h2; omega
theorem allL.join {s : ByteArray} {a b c : Nat} (h1 : allL s a b) (h2 : allL s b c) : allL s a c := fun j g1 g2 => by
  rcases Nat.lt_or_ge j b with g | g
  · exact h1 j g1 g
  · exact h2 j g g2
theorem allL.one {s : ByteArray} {a : Nat} (h : isL (bt s (a : Int)) = true) : allL s a (a + 1) := fun j g1 g2 => by
  have : j = a := by omega
  subst this; exact h
theorem allL.nil (s : ByteArray) (a : Nat) : allL s a a := fun j g1 g2 => by omega
theorem numE_allL {s : ByteArray} {i m : Nat} (h : numE s i = some m) : allL s i m := by
  have hD : ∀ {i m}, expD s i = some m → allL s i m := fun {i m} h => by
    unfold expD at h; split at h
    · cases h; exact digs_allL s i
    · cases h
  have hE : ∀ {i m}, expE s i = some m → allL s i m := fun {i m} h => by
    unfold expE at h; split at h
    · rename_i he
      have h1 : allL s i (i + 1) := allL.one (isL_iff.2 (by rcases he with e | e <;> rw [e] <;> decide))
      have h2 : allL s (i + 1) (signE s (i + 1)) := by
        unfold signE; split
        · rename_i hs
          exact allL.one (isL_iff.2 (by rcases hs with e | e <;> rw [e] <;> decide))
        · exact allL.nil _ _
      exact h1.join (h2.join (hD h))
    · cases h; exact allL.nil _ _
  have hF : ∀ {i m}, fracE s i = some m → allL s i m := fun {i m} h => by
    unfold fracE at h; split at h
    · rename_i he
      split at h
      · exact (allL.one (isL_iff.2 (by rw [he]; decide))).join ((digs_allL s (i + 1)).join (hE h))
      · cases h
    · exact hE h
  have hI : ∀ {i m}, intE s i = some m → allL s i m := fun {i m} h => by
    unfold intE at h; split at h
    · rename_i he
      exact (allL.one (isL_iff.2 (by rw [he]; decide))).join (hF h)
    · split at h
      · exact (digs_allL s i).join (hF h)
      · cases h
  unfold numE at h; split at h
  · rename_i he
    exact (allL.one (isL_iff.2 (by rw [he]; decide))).join (hI h)
  · exact hI h
theorem wordB_at {s w : ByteArray} {i : Nat} (h : wordB s i w = true) : ∀ j, j < w.size → bt s ((i + j : Nat) : Int) = bt w (j : Int) := fun j hj => by
  have hz := wordB_lt h
  simp only [wordB, Bool.and_eq_true] at h
  have e := strEq_iff.1 h.2
  have e1 : (s.extract i (i + w.size)).data.toList = (s.data.toList.drop i).take w.size := by
    rw [ByteArray.data_extract, Array.toList_extract, List.extract_eq_take_drop, Nat.add_sub_cancel_left]
  have e2 : bt (s.extract i (i + w.size)) (j : Int) = bt s ((i + j : Nat) : Int) := by
    unfold bt
    rw [Int.toNat_natCast, Int.toNat_natCast, e1]
    simp only [List.getD_eq_getElem?_getD, List.getElem?_take, List.getElem?_drop]
    rw [if_pos hj]
  rw [← e2, e]
theorem word_allL {s w : ByteArray} {i : Nat} (hw : ∀ j, j < w.size → isL (bt w (j : Int)) = true) (h : wordB s i w = true) : allL s i (i + w.size) := fun j g1 g2 => by
  obtain ⟨k, rfl⟩ : ∃ k, j = i + k := ⟨j - i, by omega⟩
  rw [wordB_at h k (by omega)]; exact hw k (by omega)
theorem nullW_L : ∀ j, j < nullW.size → isL (bt nullW (j : Int)) = true := by decide
theorem falseW_L : ∀ j, j < falseW.size → isL (bt falseW (j : Int)) = true := by decide
theorem trueW_L : ∀ j, j < trueW.size → isL (bt trueW (j : Int)) = true := by decide
/-- What is read is well formed. -/
theorem wf (s : ByteArray) : ∀ (n i : Nat), s.size + 1 - i ≤ n → i ≤ s.size →
    (∀ p, val s i = some p → p.b = i ∧ WfV s p) ∧
    (∀ x, elems s i = some x → ∀ j first, (if first then i = bl s j else bt s (bl s j : Int) = 44 ∧ i = bl s (bl s j + 1)) → WfE s first j x.1 x.2) ∧
    (∀ x, mems s i = some x → ∀ j first, (if first then i = bl s j else bt s (bl s j : Int) = 44 ∧ i = bl s (bl s j + 1)) → WfM s first j x.1 x.2.1 x.2.2) := by
  intro n
  induction n with
  | zero => intro i h1 h2; omega
  | succ n ih =>
    intro i h1 h2
    have up : ∀ {j : Nat} {c : Int}, bt s (j : Int) = c → c ≠ 0 → i ≤ j → bl s (j + 1) ≤ s.size ∧ j + 1 ≤ bl s (j + 1) ∧ j < s.size := fun {j c} h hc hj => by
      have h3 : j < s.size := lt_of_bt (by omega)
      exact ⟨bl_le s _ h3, bl_ge s _, h3⟩
    have hV : ∀ p, val s i = some p → p.b = i ∧ WfV s p := by
      intro p hp
      obtain ⟨_, hlt, hle⟩ := val_end h2 hp
      rw [val] at hp
      split at hp
      · rename_i h
        have u := up h (by decide) (Nat.le_refl _)
        split at hp
        · rename_i h'
          cases hp
          refine ⟨rfl, ?_⟩
          unfold WfV
          exact ⟨hlt, hle, .inr (.inr (.inr ⟨rfl, h, by unfold WfM; exact ⟨rfl, h', rfl⟩⟩))⟩
        · split at hp
          · cases hp
          · rename_i x ns ks e hx
            have := (ih _ (by omega) u.1).2.2 _ hx (i + 1) true (by rw [if_pos rfl])
            cases hp
            refine ⟨rfl, ?_⟩
            unfold WfV
            exact ⟨hlt, hle, .inr (.inr (.inr ⟨rfl, h, this⟩))⟩
      · split at hp
        · rename_i h
          have u := up h (by decide) (Nat.le_refl _)
          split at hp
          · rename_i h'
            cases hp
            refine ⟨rfl, ?_⟩
            unfold WfV
            exact ⟨hlt, hle, .inr (.inr (.inl ⟨rfl, rfl, h, by unfold WfE; exact ⟨h', rfl⟩⟩))⟩
          · split at hp
            · cases hp
            · rename_i x ks e hx
              have := (ih _ (by omega) u.1).2.1 _ hx (i + 1) true (by rw [if_pos rfl])
              cases hp
              refine ⟨rfl, ?_⟩
              unfold WfV
              exact ⟨hlt, hle, .inr (.inr (.inl ⟨rfl, rfl, h, this⟩))⟩
        · split at hp
          · rename_i h
            cases e : strE s (i + 1) with
            | none => rw [e] at hp; cases hp
            | some m =>
              rw [e] at hp; cases hp
              refine ⟨rfl, ?_⟩
              unfold WfV
              exact ⟨hlt, hle, .inr (.inl ⟨rfl, rfl, rfl, h, e⟩)⟩
          · split at hp
            · rename_i hn
              cases e : numE s i with
              | none => rw [e] at hp; cases hp
              | some m =>
                rw [e] at hp; cases hp
                refine ⟨rfl, ?_⟩
                unfold WfV
                exact ⟨hlt, hle, .inl ⟨rfl, rfl, numE_allL e, .inl ⟨rfl, hn, e⟩⟩⟩
            · split at hp
              · rename_i hw
                cases hp
                refine ⟨rfl, ?_⟩
                unfold WfV
                exact ⟨hlt, hle, .inl ⟨rfl, rfl, word_allL nullW_L hw, .inr (.inl ⟨rfl, hw, rfl⟩)⟩⟩
              · split at hp
                · rename_i hw
                  cases hp
                  refine ⟨rfl, ?_⟩
                  unfold WfV
                  exact ⟨hlt, hle, .inl ⟨rfl, rfl, word_allL falseW_L hw, .inr (.inr (.inl ⟨rfl, hw, rfl⟩))⟩⟩
                · split at hp
                  · rename_i hw
                    cases hp
                    refine ⟨rfl, ?_⟩
                    unfold WfV
                    exact ⟨hlt, hle, .inl ⟨rfl, rfl, word_allL trueW_L hw, .inr (.inr (.inr ⟨rfl, hw, rfl⟩))⟩⟩
                  · cases hp
    refine ⟨hV, ?_, ?_⟩
    · intro x hx j first hj
      rw [elems] at hx
      split at hx
      · cases hx
      · rename_i p hp
        obtain ⟨pb, pw⟩ := hV _ hp
        have v := val_end h2 hp
        have b := bl_ge s p.e
        split at hx
        · rename_i h
          cases hx
          unfold WfE
          refine ⟨by rw [pb]; exact hj, pw, ?_⟩
          unfold WfE
          exact ⟨h, rfl⟩
        · split at hx
          · rename_i h
            have u := up h.1 (by decide) (by omega)
            split at hx
            · cases hx
            · rename_i y ks e hy
              have := (ih _ (by omega) u.1).2.1 _ hy p.e false (by rw [if_neg (by decide)]; exact ⟨h.1, rfl⟩)
              cases hx
              unfold WfE
              exact ⟨by rw [pb]; exact hj, pw, this⟩
          · cases hx
    · intro x hx j first hj
      rw [mems] at hx
      split at hx
      · rename_i hq
        split at hx
        · cases hx
        · rename_i m hm
          have hs := strE_le hm
          have b := bl_ge s m
          split at hx
          · rename_i h
            have u := up h.1 (by decide) (by omega)
            split at hx
            · cases hx
            · rename_i p hp
              obtain ⟨pb, pw⟩ := (ih _ (by omega) u.1).1 _ hp
              have v := val_end u.1 hp
              have b := bl_ge s p.e
              split at hx
              · rename_i h'
                cases hx
                unfold WfM
                refine ⟨(i, m), [], rfl, hj, hq, hm, h.1, pb, pw, ?_⟩
                unfold WfM
                exact ⟨rfl, h', rfl⟩
              · split at hx
                · rename_i h'
                  have u := up h'.1 (by decide) (by omega)
                  split at hx
                  · cases hx
                  · rename_i y ns ks e hy
                    have := (ih _ (by omega) u.1).2.2 _ hy p.e false (by rw [if_neg (by decide)]; exact ⟨h'.1, rfl⟩)
                    cases hx
                    unfold WfM
                    exact ⟨(i, m), ns, rfl, hj, hq, hm, h.1, pb, pw, this⟩
                · cases hx
          · cases hx
      · cases hx
theorem val_wf {s : ByteArray} {i : Nat} {p : PT} (hi : i ≤ s.size) (h : val s i = some p) : p.b = i ∧ WfV s p := (wf s _ i (Nat.le_refl _) hi).1 p h
/-- Where blanks are skipped there are blanks. -/
theorem bl_blank (s : ByteArray) (i : Nat) : ∀ j, i ≤ j → j < bl s i → isB (bt s (j : Int)) = true := by
  induction i using bl.induct s with
  | case1 i h ih =>
    rw [bl, if_pos h]
    intro j h1 h2
    rcases Nat.lt_or_ge i j with g | g
    · exact ih j g h2
    · have : j = i := by omega
      subst this; exact h.2
  | case2 i h => rw [bl, if_neg h]; intro j h1 h2; omega
theorem bl_not (s : ByteArray) (i : Nat) : isB (bt s (bl s i : Int)) = false := by
  induction i using bl.induct s with
  | case1 i h ih => rw [bl, if_pos h]; exact ih
  | case2 i h =>
    rw [bl, if_neg h]
    rw [Bool.eq_false_iff]
    intro e
    exact h ⟨lt_of_bt (by have := isB_iff.1 e; omega), e⟩
end Go.Proofs.Ytiganlecnpphmaa.Pw
