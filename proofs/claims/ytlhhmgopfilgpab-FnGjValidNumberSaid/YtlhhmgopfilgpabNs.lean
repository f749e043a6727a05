/- Numbers of RFC 8259 in a text that stands within another one. No statement of the set is proved here. -/
import Derived.Test.YtlhhmgopfilgpabRn
namespace Go.Proofs.Ytlhhmgopfilgpab.Pl
open Go Go.Proofs.Ytlhhmgopfilgpab.Rx

/-- The bytes that matter to a number stand alike, d places on. -/
def Alike (s t : ByteArray) (d : Nat) : Prop := ∀ k : Nat, k ≤ s.size → (isN (bt s (k : Nat)) ∨ isN (bt t ((k + d : Nat) : Int))) → bt t ((k + d : Nat) : Int) = bt s (k : Nat)
variable {s t : ByteArray} {d : Nat}
theorem Alike.dig (h : Alike s t d) {k : Nat} (hk : k ≤ s.size) : isDig (bt t ((k + d : Nat) : Int)) = isDig (bt s (k : Nat)) := by
  rw [Bool.eq_iff_iff, isDig_iff, isDig_iff]
  constructor
  · intro g; rw [← h k hk (.inr (.inl g))]; exact g
  · intro g; rw [h k hk (.inl (.inl g))]; exact g
theorem Alike.eq (h : Alike s t d) {k : Nat} (hk : k ≤ s.size) {c : Int} (hc : isN c) : bt t ((k + d : Nat) : Int) = c ↔ bt s (k : Nat) = c := by
  constructor
  · intro g; rw [← h k hk (.inr (by rw [g]; exact hc))]; exact g
  · intro g; rw [h k hk (.inl (by rw [g]; exact hc))]; exact g
theorem digs_alike (h : Alike s t d) : ∀ (n i : Nat), s.size - i ≤ n → i ≤ s.size → digs t (i + d) = digs s i + d := by
  intro n
  induction n with
  | zero =>
    intro i h1 h2
    have : isDig (bt s (i : Nat)) = false := by rw [bt_end (by omega)]; rfl
    rw [digs_no this, digs_no (by rw [h.dig h2]; exact this)]
  | succ n ih =>
    intro i h1 h2
    cases hD : isDig (bt s (i : Nat)) with
    | false => rw [digs_no hD, digs_no (by rw [h.dig h2]; exact hD)]
    | true =>
      have hlt : i < s.size := lt_of_bt (by have := isDig_iff.1 hD; omega)
      rw [digs_yes hD, digs_yes (by rw [h.dig h2]; exact hD), show i + d + 1 = i + 1 + d from by omega]
      exact ih (i + 1) (by omega) hlt
theorem digsA (h : Alike s t d) {i : Nat} (hi : i ≤ s.size) : digs t (i + d) = digs s i + d := digs_alike h _ i (Nat.le_refl _) hi
theorem expD_alike (h : Alike s t d) {i : Nat} (hi : i ≤ s.size) : expD t (i + d) = (expD s i).map (· + d) := by
  unfold expD
  rw [h.dig hi, digsA h hi]
  cases isDig (bt s (i : Nat)) <;> rfl
theorem expE_alike (h : Alike s t d) {i : Nat} (hi : i ≤ s.size) : expE t (i + d) = (expE s i).map (· + d) := by
  have e1 := h.eq hi (c := 101) (by unfold isN; omega)
  have e2 := h.eq hi (c := 69) (by unfold isN; omega)
  unfold expE
  by_cases hc : bt s (i : Nat) = 101 ∨ bt s (i : Nat) = 69
  · rw [if_pos hc, if_pos (hc.imp e1.2 e2.2)]
    have hlt : i < s.size := lt_of_bt (by omega)
    have hlt' : i + 1 ≤ s.size := hlt
    have e3 := h.eq hlt' (c := 43) (by unfold isN; omega)
    have e4 := h.eq hlt' (c := 45) (by unfold isN; omega)
    rw [show i + 1 + d = i + d + 1 from by omega] at e3 e4
    unfold signE
    by_cases hg : bt s ((i + 1 : Nat) : Int) = 43 ∨ bt s ((i + 1 : Nat) : Int) = 45
    · have hlt2 : i + 1 < s.size := lt_of_bt (by omega)
      rw [if_pos hg, if_pos (hg.imp e3.2 e4.2), show i + d + 1 + 1 = i + 1 + 1 + d from by omega]
      exact expD_alike h hlt2
    · rw [if_neg hg, if_neg (fun g => hg (g.imp e3.1 e4.1)), show i + d + 1 = i + 1 + d from by omega]
      exact expD_alike h hlt'
  · rw [if_neg hc, if_neg (fun g => hc (g.imp e1.1 e2.1))]; rfl
theorem fracE_alike (h : Alike s t d) {i : Nat} (hi : i ≤ s.size) : fracE t (i + d) = (fracE s i).map (· + d) := by
  have e1 := h.eq hi (c := 46) (by unfold isN; omega)
  unfold fracE
  by_cases hc : bt s (i : Nat) = 46
  · rw [if_pos hc, if_pos (e1.2 hc)]
    have hlt : i < s.size := lt_of_bt (by omega)
    have hlt' : i + 1 ≤ s.size := hlt
    rw [show i + d + 1 = i + 1 + d from by omega, h.dig hlt', digsA h hlt']
    cases isDig (bt s ((i + 1 : Nat) : Int)) with
    | true => exact expE_alike h (digs_le s _ hlt')
    | false => rfl
  · rw [if_neg hc, if_neg (fun g => hc (e1.1 g))]
    exact expE_alike h hi
theorem intE_alike (h : Alike s t d) {i : Nat} (hi : i ≤ s.size) : intE t (i + d) = (intE s i).map (· + d) := by
  have e1 := h.eq hi (c := 48) (by unfold isN; omega)
  unfold intE
  by_cases hc : bt s (i : Nat) = 48
  · rw [if_pos hc, if_pos (e1.2 hc)]
    have hlt : i < s.size := lt_of_bt (by omega)
    rw [show i + d + 1 = i + 1 + d from by omega]
    exact fracE_alike h hlt
  · rw [if_neg hc, if_neg (fun g => hc (e1.1 g)), h.dig hi, digsA h hi]
    cases isDig (bt s (i : Nat)) with
    | true => exact fracE_alike h (digs_le s _ hi)
    | false => rfl
theorem numE_alike (h : Alike s t d) {i : Nat} (hi : i ≤ s.size) : numE t (i + d) = (numE s i).map (· + d) := by
  have e1 := h.eq hi (c := 45) (by unfold isN; omega)
  unfold numE
  by_cases hc : bt s (i : Nat) = 45
  · rw [if_pos hc, if_pos (e1.2 hc)]
    have hlt : i < s.size := lt_of_bt (by omega)
    rw [show i + d + 1 = i + 1 + d from by omega]
    exact intE_alike h hlt
  · rw [if_neg hc, if_neg (fun g => hc (e1.1 g))]
    exact intE_alike h hi
end Go.Proofs.Ytlhhmgopfilgpab.Pl
