/- The JSON values of a text and their places, as functions of a text and a place (RFC 8259). No statement of the set is proved here. -/
import Derived.Test.YtiganlecnpphmaaPl
namespace Go.Proofs.Ytiganlecnpphmaa.Pl
open Go Go.Proofs.Ytiganlecnpphmaa.Rx
set_option linter.unusedVariables false

def isB (c : Int) : Bool := c == 32 || c == 9 || c == 10 || c == 13
theorem isB_iff {c : Int} : isB c = true ↔ c = 32 ∨ c = 9 ∨ c = 10 ∨ c = 13 := by simp [isB, or_assoc]
/-- Behind the blanks. -/
def bl (s : ByteArray) (i : Nat) : Nat := if i < s.size ∧ isB (bt s i) then bl s (i + 1) else i
termination_by s.size - i
theorem bl_yes {s : ByteArray} {i : Nat} (h : isB (bt s i) = true) : bl s i = bl s (i + 1) := by
  have h' : i < s.size := lt_of_bt (by have := isB_iff.1 h; omega)
  rw [bl, if_pos ⟨h', h⟩]
theorem bl_no {s : ByteArray} {i : Nat} (h : isB (bt s i) = false) : bl s i = i := by rw [bl, if_neg (by simp [h])]
theorem bl_end {s : ByteArray} {i : Nat} (h : s.size ≤ i) : bl s i = i := bl_no (by rw [bt_end h]; rfl)
theorem bl_ge (s : ByteArray) (i : Nat) : i ≤ bl s i := by
  induction i using bl.induct s with
  | case1 i h ih => rw [bl, if_pos h]; omega
  | case2 i h => rw [bl, if_neg h]; exact Nat.le_refl _
theorem bl_le (s : ByteArray) (i : Nat) (hi : i ≤ s.size) : bl s i ≤ s.size := by
  induction i using bl.induct s with
  | case1 i h ih => rw [bl, if_pos h]; exact ih (by omega)
  | case2 i h => rw [bl, if_neg h]; exact hi
def isH (c : Int) : Bool := (decide (48 ≤ c) && decide (c ≤ 57)) || (decide (97 ≤ c) && decide (c ≤ 102)) || (decide (65 ≤ c) && decide (c ≤ 70))
theorem isH_iff {c : Int} : isH c = true ↔ (48 ≤ c ∧ c ≤ 57) ∨ (97 ≤ c ∧ c ≤ 102) ∨ (65 ≤ c ∧ c ≤ 70) := by simp [isH, or_assoc]
/-- Behind n hexadecimal digits. -/
def hexE (s : ByteArray) (i : Nat) : Nat → Option Nat
  | 0 => some i
  | n + 1 => if isH (bt s i) then hexE s (i + 1) n else none
theorem hexE_le {s : ByteArray} : ∀ {n i m : Nat}, hexE s i n = some m → m = i + n ∧ (i ≤ s.size → m ≤ s.size)
  | 0, i, m, h => by cases h; exact ⟨rfl, id⟩
  | n + 1, i, m, h => by
    unfold hexE at h
    split at h
    · have hlt : i < s.size := lt_of_bt (by have := isH_iff.1 ‹_›; omega)
      obtain ⟨a, b⟩ := hexE_le h
      exact ⟨by omega, fun _ => b hlt⟩
    · cases h
def isX (c : Int) : Bool := c == 34 || c == 92 || c == 47 || c == 98 || c == 102 || c == 110 || c == 114 || c == 116
theorem isX_iff {c : Int} : isX c = true ↔ c = 34 ∨ c = 92 ∨ c = 47 ∨ c = 98 ∨ c = 102 ∨ c = 110 ∨ c = 114 ∨ c = 116 := by simp [isX, or_assoc]
/-- Behind what follows a backslash. -/
def escE (s : ByteArray) (i : Nat) : Option Nat := if isX (bt s i) then some (i + 1) else if bt s i = 117 then hexE s (i + 1) 4 else none
theorem escE_x {s : ByteArray} {i : Nat} (h : isX (bt s i) = true) : escE s i = some (i + 1) := by rw [escE, if_pos h]
theorem escE_u {s : ByteArray} {i : Nat} (h : bt s i = 117) : escE s i = hexE s (i + 1) 4 := by rw [escE, if_neg (by rw [h]; decide), if_pos h]
theorem escE_no {s : ByteArray} {i : Nat} (h : isX (bt s i) = false) (h' : bt s i ≠ 117) : escE s i = none := by rw [escE, if_neg (by rw [h]; decide), if_neg h']
theorem escE_le {s : ByteArray} {i m : Nat} (h : escE s i = some m) : i < m ∧ m ≤ s.size := by
  unfold escE at h
  split at h
  · have hlt : i < s.size := lt_of_bt (by have := isX_iff.1 ‹_›; omega)
    cases h; exact ⟨by omega, hlt⟩
  · split at h
    · have hlt : i < s.size := lt_of_bt (by omega)
      obtain ⟨a, b⟩ := hexE_le h
      exact ⟨by omega, b hlt⟩
    · cases h
/-- Behind a string, from behind its first quotation mark on. -/
def strE (s : ByteArray) (i : Nat) : Option Nat :=
  if i < s.size then
    if bt s i = 34 then some (i + 1)
    else if bt s i < 32 then none
    else if bt s i = 92 then
      match escE s (i + 1) with
      | none => none
      | some j => if i < j then strE s j else none
    else strE s (i + 1)
  else none
termination_by s.size - i
theorem strE_end {s : ByteArray} {i : Nat} (h : s.size ≤ i) : strE s i = none := by rw [strE, if_neg (by omega)]
theorem strE_q {s : ByteArray} {i : Nat} (h : bt s i = 34) : strE s i = some (i + 1) := by
  rw [strE, if_pos (lt_of_bt (by omega)), if_pos h]
theorem strE_ctl {s : ByteArray} {i : Nat} (h : bt s i < 32) : strE s i = none := by
  by_cases hlt : i < s.size
  · rw [strE, if_pos hlt, if_neg (show ¬ bt s i = 34 by omega), if_pos h]
  · rw [strE, if_neg hlt]
theorem strE_esc {s : ByteArray} {i : Nat} (h : bt s i = 92) : strE s i = (escE s (i + 1)).bind (strE s) := by
  rw [strE, if_pos (lt_of_bt (by omega)), if_neg (by omega), if_neg (by omega), if_pos h]
  cases e : escE s (i + 1) with
  | none => rfl
  | some j =>
    have := (escE_le e).1
    simp only [Option.bind_some]
    rw [if_pos (by omega)]
theorem strE_plain {s : ByteArray} {i : Nat} (hlt : i < s.size) (h1 : bt s i ≠ 34) (h2 : ¬ bt s i < 32) (h3 : bt s i ≠ 92) : strE s i = strE s (i + 1) := by
  rw [strE, if_pos hlt, if_neg h1, if_neg h2, if_neg h3]
theorem strE_le {s : ByteArray} {i m : Nat} (h : strE s i = some m) : i < m ∧ m ≤ s.size := by
  induction i using strE.induct s with
  | case1 i h1 h2 => rw [strE_q h2] at h; cases h; exact ⟨by omega, h1⟩
  | case2 i h1 h2 h3 => rw [strE_ctl h3] at h; cases h
  | case3 i h1 h2 h3 h4 h5 => rw [strE_esc h4, h5] at h; cases h
  | case4 i h1 h2 h3 h4 j h5 h6 ih => rw [strE_esc h4, h5] at h; have := ih h; exact ⟨by omega, this.2⟩
  | case5 i h1 h2 h3 h4 j h5 h6 => have := (escE_le h5).1; omega
  | case6 i h1 h2 h3 h4 ih => rw [strE_plain h1 h2 h3 h4] at h; have := ih h; exact ⟨by omega, this.2⟩
  | case7 i h1 => rw [strE_end (by omega)] at h; cases h
/-- Whether a word stands at a place. -/
def wordB (s : ByteArray) (i : Nat) (w : ByteArray) : Bool := decide (i + w.size ≤ s.size) && strEq (s.extract i (i + w.size)) w
def nullW : ByteArray := ByteArray.mk #[110, 117, 108, 108]
def falseW : ByteArray := ByteArray.mk #[102, 97, 108, 115, 101]
def trueW : ByteArray := ByteArray.mk #[116, 114, 117, 101]

/-- A value's place: its kind, where it begins and ends, its names, its members or elements. -/
inductive PT where
  | mk (k b e : Nat) (ns : List (Nat × Nat)) (ks : List PT)
def PT.k : PT → Nat | .mk k _ _ _ _ => k
def PT.b : PT → Nat | .mk _ b _ _ _ => b
def PT.e : PT → Nat | .mk _ _ e _ _ => e
def PT.ns : PT → List (Nat × Nat) | .mk _ _ _ ns _ => ns
def PT.ks : PT → List PT | .mk _ _ _ _ ks => ks
def numOk (c : Int) : Bool := c == 45 || isDig c
mutual
/-- The value that begins at a place. -/
def val (s : ByteArray) (i : Nat) : Option PT :=
  if h : bt s i = 123 then
    if bt s (bl s (i + 1)) = 125 then some (.mk 6 i (bl s (i + 1) + 1) [] [])
    else match mems s (bl s (i + 1)) with
      | none => none
      | some (ns, ks, e) => some (.mk 6 i e ns ks)
  else if h : bt s i = 91 then
    if bt s (bl s (i + 1)) = 93 then some (.mk 5 i (bl s (i + 1) + 1) [] [])
    else match elems s (bl s (i + 1)) with
      | none => none
      | some (ks, e) => some (.mk 5 i e [] ks)
  else if bt s i = 34 then (strE s (i + 1)).map fun e => .mk 4 i e [] []
  else if numOk (bt s i) then (numE s i).map fun e => .mk 3 i e [] []
  else if wordB s i nullW then some (.mk 0 i (i + 4) [] [])
  else if wordB s i falseW then some (.mk 1 i (i + 5) [] [])
  else if wordB s i trueW then some (.mk 2 i (i + 4) [] [])
  else none
termination_by (s.size + 1 - i, 0)
decreasing_by
  · have := bl_ge s (i + 1); have : i < s.size := lt_of_bt (by omega); exact Prod.Lex.left _ _ (by omega)
  · have := bl_ge s (i + 1); have : i < s.size := lt_of_bt (by omega); exact Prod.Lex.left _ _ (by omega)
/-- The elements from one on, and the place behind the bracket. -/
def elems (s : ByteArray) (i : Nat) : Option (List PT × Nat) :=
  match val s i with
  | none => none
  | some p =>
    if bt s (bl s p.e) = 93 then some ([p], bl s p.e + 1)
    else if h : bt s (bl s p.e) = 44 ∧ i < bl s p.e then
      match elems s (bl s (bl s p.e + 1)) with
      | none => none
      | some (ks, e) => some (p :: ks, e)
    else none
termination_by (s.size + 1 - i, 1)
decreasing_by
  · exact Prod.Lex.right _ (by omega)
  · have := bl_ge s (bl s p.e + 1); have : bl s p.e < s.size := lt_of_bt (by omega); exact Prod.Lex.left _ _ (by omega)
/-- The members from one on, and the place behind the brace. -/
def mems (s : ByteArray) (i : Nat) : Option (List (Nat × Nat) × List PT × Nat) :=
  if bt s i = 34 then
    match strE s (i + 1) with
    | none => none
    | some n =>
      if h : bt s (bl s n) = 58 ∧ i < bl s n then
        match val s (bl s (bl s n + 1)) with
        | none => none
        | some p =>
          if bt s (bl s p.e) = 125 then some ([(i, n)], [p], bl s p.e + 1)
          else if h : bt s (bl s p.e) = 44 ∧ i < bl s p.e then
            match mems s (bl s (bl s p.e + 1)) with
            | none => none
            | some (ns, ks, e) => some ((i, n) :: ns, p :: ks, e)
          else none
      else none
  else none
termination_by (s.size + 1 - i, 1)
decreasing_by
  · have := bl_ge s (bl s n + 1); have : bl s n < s.size := lt_of_bt (by omega); exact Prod.Lex.left _ _ (by omega)
  · have := bl_ge s (bl s p.e + 1); have : bl s p.e < s.size := lt_of_bt (by omega); exact Prod.Lex.left _ _ (by omega)
end
theorem wordB_lt {s : ByteArray} {i : Nat} {w : ByteArray} (h : wordB s i w = true) : i + w.size ≤ s.size := by
  simp [wordB] at h; exact h.1
theorem numE_le {s : ByteArray} {i m : Nat} (hi : i ≤ s.size) (h : numE s i = some m) : i < m ∧ m ≤ s.size := by
  have hD : ∀ {i m}, i ≤ s.size → expD s i = some m → i < m ∧ m ≤ s.size := fun {i m} hi h => by
    unfold expD at h; split at h
    · cases h; exact ⟨digs_gt ‹_›, digs_le s _ hi⟩
    · cases h
  have hE : ∀ {i m}, i ≤ s.size → expE s i = some m → i ≤ m ∧ m ≤ s.size := fun {i m} hi h => by
    unfold expE at h; split at h
    · have h1 : i < s.size := lt_of_bt (by omega)
      have : i + 1 ≤ signE s (i + 1) ∧ signE s (i + 1) ≤ s.size := by
        unfold signE; split
        · have : i + 1 < s.size := lt_of_bt (by omega)
          omega
        · omega
      have := hD this.2 h; omega
    · cases h; omega
  have hF : ∀ {i m}, i ≤ s.size → fracE s i = some m → i ≤ m ∧ m ≤ s.size := fun {i m} hi h => by
    unfold fracE at h; split at h
    · have h1 : i < s.size := lt_of_bt (by omega)
      split at h
      · have := digs_ge s (i + 1); have h3 := digs_le s (i + 1) h1
        have := hE h3 h; omega
      · cases h
    · exact hE hi h
  have hI : ∀ {i m}, i ≤ s.size → intE s i = some m → i < m ∧ m ≤ s.size := fun {i m} hi h => by
    unfold intE at h; split at h
    · have h1 : i < s.size := lt_of_bt (by omega)
      have := hF (show i + 1 ≤ s.size from h1) h; omega
    · split at h
      · have := digs_gt (s := s) ‹_›; have h3 := digs_le s i hi
        have := hF h3 h; omega
      · cases h
  unfold numE at h; split at h
  · have h1 : i < s.size := lt_of_bt (by omega)
    have := hI (show i + 1 ≤ s.size from h1) h; omega
  · exact hI hi h
/-- Where values end. -/
theorem ends (s : ByteArray) : ∀ (n i : Nat), s.size + 1 - i ≤ n → i ≤ s.size →
    (∀ p, val s i = some p → p.b = i ∧ i < p.e ∧ p.e ≤ s.size) ∧ (∀ x, elems s i = some x → i < x.2 ∧ x.2 ≤ s.size) ∧ (∀ x, mems s i = some x → i < x.2.2 ∧ x.2.2 ≤ s.size) := by
  intro n
  induction n with
  | zero => intro i h1 h2; omega
  | succ n ih =>
    intro i h1 h2
    have up : ∀ {j : Nat} {c : Int}, bt s (j : Int) = c → c ≠ 0 → i ≤ j → bl s (j + 1) ≤ s.size ∧ j + 1 ≤ bl s (j + 1) ∧ j < s.size := fun {j c} h hc hj => by
      have h3 : j < s.size := lt_of_bt (by omega)
      exact ⟨bl_le s _ h3, bl_ge s _, h3⟩
    have hV : ∀ p, val s i = some p → p.b = i ∧ i < p.e ∧ p.e ≤ s.size := by
      intro p hp
      rw [val] at hp
      split at hp
      · rename_i h
        have u := up h (by decide) (Nat.le_refl _)
        split at hp
        · rename_i h'
          have u2 := up h' (by decide) (by omega)
          cases hp; refine ⟨rfl, ?_, ?_⟩ <;> simp only [PT.e] <;> omega
        · split at hp
          · cases hp
          · rename_i x ns ks e hx
            have := (ih _ (by omega) u.1).2.2 _ hx
            simp only at this
            cases hp; refine ⟨rfl, ?_, ?_⟩ <;> simp only [PT.e] <;> omega
      · split at hp
        · rename_i h
          have u := up h (by decide) (Nat.le_refl _)
          split at hp
          · rename_i h'
            have u2 := up h' (by decide) (by omega)
            cases hp; refine ⟨rfl, ?_, ?_⟩ <;> simp only [PT.e] <;> omega
          · split at hp
            · cases hp
            · rename_i x ks e hx
              have := (ih _ (by omega) u.1).2.1 _ hx
              simp only at this
              cases hp; refine ⟨rfl, ?_, ?_⟩ <;> simp only [PT.e] <;> omega
        · split at hp
          · rename_i h
            cases e : strE s (i + 1) with
            | none => rw [e] at hp; cases hp
            | some m => rw [e] at hp; cases hp; have := strE_le e; exact ⟨rfl, by simp only [PT.e]; omega, this.2⟩
          · split at hp
            · cases e : numE s i with
              | none => rw [e] at hp; cases hp
              | some m => rw [e] at hp; cases hp; exact ⟨rfl, numE_le h2 e⟩
            · split at hp
              · have := wordB_lt (w := nullW) ‹_›; cases hp; exact ⟨rfl, by simp only [PT.e]; omega, this⟩
              · split at hp
                · have := wordB_lt (w := falseW) ‹_›; cases hp; exact ⟨rfl, by simp only [PT.e]; omega, this⟩
                · split at hp
                  · have := wordB_lt (w := trueW) ‹_›; cases hp; exact ⟨rfl, by simp only [PT.e]; omega, this⟩
                  · cases hp
    refine ⟨hV, ?_, ?_⟩
    · intro x hx
      rw [elems] at hx
      split at hx
      · cases hx
      · rename_i p hp
        have v := hV _ hp
        have b := bl_ge s p.e
        split at hx
        · rename_i h
          have u := up h (by decide) (by omega)
          cases hx; simp only; omega
        · split at hx
          · rename_i h
            have u := up h.1 (by decide) (by omega)
            split at hx
            · cases hx
            · rename_i y ks e hy
              have := (ih _ (by omega) u.1).2.1 _ hy
              cases hx; simp only at this ⊢; omega
          · cases hx
    · intro x hx
      rw [mems] at hx
      split at hx
      · rename_i hq
        split at hx
        · cases hx
        · rename_i m hm
          have hs := strE_le hm
          have b := bl_ge s m
          split at hx
          · rename_i h
            have u := up h.1 (by decide) (by omega)
            split at hx
            · cases hx
            · rename_i p hp
              have v := (ih _ (by omega) u.1).1 _ hp
              have b := bl_ge s p.e
              split at hx
              · rename_i h
                have u := up h (by decide) (by omega)
                cases hx; simp only; omega
              · split at hx
                · rename_i h
                  have u := up h.1 (by decide) (by omega)
                  split at hx
                  · cases hx
                  · rename_i y ns ks e hy
                    have := (ih _ (by omega) u.1).2.2 _ hy
                    cases hx; simp only at this ⊢; omega
                · cases hx
          · cases hx
      · cases hx
theorem val_end {s : ByteArray} {i : Nat} {p : PT} (hi : i ≤ s.size) (h : val s i = some p) : p.b = i ∧ i < p.e ∧ p.e ≤ s.size := (ends s _ i (Nat.le_refl _) hi).1 p h
theorem elems_end {s : ByteArray} {i : Nat} {x : List PT × Nat} (hi : i ≤ s.size) (h : elems s i = some x) : i < x.2 ∧ x.2 ≤ s.size := (ends s _ i (Nat.le_refl _) hi).2.1 x h
theorem mems_end {s : ByteArray} {i : Nat} {x : List (Nat × Nat) × List PT × Nat} (hi : i ≤ s.size) (h : mems s i = some x) : i < x.2.2 ∧ x.2.2 ≤ s.size := (ends s _ i (Nat.le_refl _) hi).2.2 x h
end Go.Proofs.Ytiganlecnpphmaa.Pl
