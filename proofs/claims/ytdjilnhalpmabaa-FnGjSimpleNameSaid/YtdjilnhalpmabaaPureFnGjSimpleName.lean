/- For every text: gjson's isSimpleName says true just if no byte of the text is a control character or one of [ ] { } ( ) # | !. No condition beyond the statement's own size guard. -/
import Derived.Test.YtdjilnhalpmabaaPFnGjSimpleNamex1
namespace Go.Proofs.Ytdjilnhalpmabaa.Pure
open Go.RowKit Go.Proofs.Ytdjilnhalpmabaa.PFnGjSimpleName Go.Proofs.YtdjilnhalpmabaaW.PrintWords Go.Proofs.YtdjilnhalpmabaaW.PrintLast

theorem wrap_up {i : Int} {n : Nat} (h0 : 0 ≤ i) (h : i < (n : Int)) (hn : n ≤ 140737488351232) : wrap64 (i + 1) = i + 1 := by
  unfold wrap64
  omega

/-- What makes a byte not simple. -/
def odd (c : Int) : Bool := decide (c < 32) || c == 91 || c == 93 || c == 123 || c == 125 || c == 40 || c == 41 || c == 35 || c == 124 || c == 33

theorem simple_step (k : Nat) (s : ByteArray) (i : Int) (h0 : 0 ≤ i) (h : i < (s.size : Int)) (hn : s.size ≤ 140737488351232) :
    gjson_isSimpleName.l0 (k + 1) s i = if odd (bt s i) then some false else gjson_isSimpleName.l0 k s (i + 1) := by
  simp only [gjson_isSimpleName.l0]
  rw [if_pos h, if_pos h0, wrap_up h0 h hn]
  generalize bt s i = c
  unfold odd
  by_cases c1 : c < 32
  · simp [c1]
  by_cases c2 : c = 91
  · simp [c2]
  by_cases c3 : c = 93
  · simp [c3]
  by_cases c4 : c = 123
  · simp [c4]
  by_cases c5 : c = 125
  · simp [c5]
  by_cases c6 : c = 40
  · simp [c6]
  by_cases c7 : c = 41
  · simp [c7]
  by_cases c8 : c = 35
  · simp [c8]
  by_cases c9 : c = 124
  · simp [c9]
  by_cases c10 : c = 33
  · simp [c10]
  simp [c1, c2, c3, c4, c5, c6, c7, c8, c9, c10]

theorem law_step (k : Nat) (s : ByteArray) (b : Bool) (i : Int) (h0 : 0 ≤ i) (h : i < (s.size : Int)) (hn : s.size ≤ 140737488351232) :
    laws_FnGjSimpleName.l0 (k + 1) s b i = laws_FnGjSimpleName.l0 k s (b && !odd (bt s i)) (i + 1) := by
  simp only [laws_FnGjSimpleName.l0]
  rw [if_pos h, if_pos h0, wrap_up h0 h hn]
  generalize bt s i = c
  unfold odd
  by_cases c1 : c < 32
  · simp [c1]
  by_cases c2 : c = 91
  · simp [c2]
  by_cases c3 : c = 93
  · simp [c3]
  by_cases c4 : c = 123
  · simp [c4]
  by_cases c5 : c = 125
  · simp [c5]
  by_cases c6 : c = 40
  · simp [c6]
  by_cases c7 : c = 41
  · simp [c7]
  by_cases c8 : c = 35
  · simp [c8]
  by_cases c9 : c = 124
  · simp [c9]
  by_cases c10 : c = 33
  · simp [c10]
  have e : (decide (c < 32) || c == 91 || c == 93 || c == 123 || c == 125 || c == 40 || c == 41 || c == 35 || c == 124 || c == 33) = false := by
    simp [c1, c2, c3, c4, c5, c6, c7, c8, c9, c10]
  rw [e]
  simp [c1, c2, c3, c4, c5, c6, c7, c8, c9, c10]

/-- No odd byte from a place on, d bytes far. -/
def clean (s : ByteArray) : Nat → Int → Bool
  | 0, _ => true
  | d + 1, i => !odd (bt s i) && clean s d (i + 1)

theorem simple_all (s : ByteArray) (hn : s.size ≤ 140737488351232) (d : Nat) : ∀ (k : Nat) (i : Int), 0 ≤ i → i ≤ s.size → (s.size : Int) - i = d → d < k →
    gjson_isSimpleName.l0 k s i = some (clean s d i) := by
  induction d with
  | zero =>
    intro k i h0 h1 hd hk
    obtain ⟨k, rfl⟩ : ∃ m, k = m + 1 := ⟨k - 1, by omega⟩
    simp only [gjson_isSimpleName.l0]
    rw [if_neg (by omega)]
    rfl
  | succ d ih =>
    intro k i h0 h1 hd hk
    obtain ⟨k, rfl⟩ : ∃ m, k = m + 1 := ⟨k - 1, by omega⟩
    rw [simple_step k s i h0 (by omega) hn, ih k (i + 1) (by omega) (by omega) (by omega) (by omega)]
    rw [clean]
    cases odd (bt s i) <;> rfl

theorem law_all (s : ByteArray) (hn : s.size ≤ 140737488351232) (d : Nat) : ∀ (k : Nat) (b : Bool) (i : Int), 0 ≤ i → i ≤ s.size → (s.size : Int) - i = d → s.size + d + 1 < k →
    laws_FnGjSimpleName.l0 k s b i = some (clean s s.size 0 == (b && clean s d i)) := by
  induction d with
  | zero =>
    intro k b i h0 h1 hd hk
    obtain ⟨k, rfl⟩ : ∃ m, k = m + 1 := ⟨k - 1, by omega⟩
    simp only [laws_FnGjSimpleName.l0]
    rw [if_neg (by omega)]
    have h := simple_all s hn s.size k 0 (by omega) (by omega) (by omega) (by omega)
    unfold impl_GjSimpleName.f gjson_DoorSimple.f gjson_isSimpleName.f
    rw [h]
    simp [clean]
  | succ d ih =>
    intro k b i h0 h1 hd hk
    obtain ⟨k, rfl⟩ : ∃ m, k = m + 1 := ⟨k - 1, by omega⟩
    rw [law_step k s b i h0 (by omega) hn, ih k _ (i + 1) (by omega) (by omega) (by omega) (by omega)]
    simp only [clean, Bool.and_assoc]

theorem FnGjSimpleName : laws_FnGjSimpleName.Pure := by
  intro s hn
  refine ⟨2 * s.size + 3, ?_⟩
  unfold laws_FnGjSimpleName.f
  by_cases c : (s.size : Int) > 2147483647
  · rw [if_pos c]
  · rw [if_neg c, law_all s hn s.size (2 * s.size + 3) true 0 (by omega) (by omega) (by omega) (by omega)]
    simp

end Go.Proofs.Ytdjilnhalpmabaa.Pure
