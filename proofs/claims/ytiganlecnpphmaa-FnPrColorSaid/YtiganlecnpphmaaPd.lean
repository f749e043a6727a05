/- Whole decimal numbers of texts. No statement of the set is proved here. -/
import Derived.Test.YtiganlecnpphmaaPl
namespace Go.Proofs.Ytiganlecnpphmaa.Pl
open Go Go.Proofs.Ytiganlecnpphmaa.Rx

theorem wrapU_in {n : Int} (h0 : 0 ≤ n) (h1 : n < 18446744073709551616) : IntKind.wrap .u64 n = n := IntWalk.u64_in _ (by omega)
theorem wrapB_in {n : Int} (h0 : 0 ≤ n) (h1 : n < 256) : IntKind.wrap .u8 n = n := IntWalk.u8_in _ (by omega)
theorem wrapB_neg {n : Int} (h0 : -256 ≤ n) (h1 : n < 0) : IntKind.wrap .u8 n = n + 256 := by rw [IntKind.wrap_u8]; omega
/-- The value of n digits from a place on. -/
def dv (s : ByteArray) (i : Nat) : Nat → Nat
  | 0 => 0
  | n + 1 => dv s i n * 10 + (bt s ((i + n : Nat) : Int) - 48).toNat
theorem dv_mono (s : ByteArray) (i : Nat) {a b : Nat} (h : a ≤ b) : dv s i a ≤ dv s i b := by
  induction h with
  | refl => exact Nat.le_refl _
  | step _ ih => simp only [dv]; omega
theorem dv_congr {s t : ByteArray} {i j : Nat} : ∀ {n : Nat}, (∀ k, k < n → bt s ((i + k : Nat) : Int) = bt t ((j + k : Nat) : Int)) → dv s i n = dv t j n
  | 0, _ => rfl
  | n + 1, h => by simp only [dv]; rw [dv_congr fun k hk => h k (by omega), h n (by omega)]
theorem dv_lt {s : ByteArray} {i : Nat} : ∀ {n : Nat}, (∀ k, k < n → isDig (bt s ((i + k : Nat) : Int)) = true) → dv s i n < 10 ^ n
  | 0, _ => by simp [dv]
  | n + 1, h => by
    have h1 := dv_lt fun k (hk : k < n) => h k (by omega)
    have h2 := isDig_iff.1 (h n (by omega))
    simp only [dv]
    rw [Nat.pow_succ]; omega
theorem dv_step {s : ByteArray} {i n : Nat} (h : isDig (bt s ((i + n : Nat) : Int)) = true) : ((dv s i (n + 1) : Nat) : Int) = (dv s i n : Int) * 10 + (bt s ((i + n : Nat) : Int) - 48) := by
  have := isDig_iff.1 h
  simp only [dv]; omega
/-- All digits from i up to e. -/
def allD (s : ByteArray) (i e : Nat) : Prop := ∀ k, i ≤ k → k < e → isDig (bt s (k : Int)) = true
theorem allD_digs (s : ByteArray) (i : Nat) : allD s i (digs s i) := by
  induction i using digs.induct s with
  | case1 i h ih =>
    rw [digs, if_pos h]
    intro k h1 h2
    rcases Nat.lt_or_ge i k with h' | h'
    · exact ih k h' h2
    · have : k = i := by omega
      subst this; exact h.2
  | case2 i h => rw [digs, if_neg h]; intro k h1 h2; omega
theorem digs_stop (s : ByteArray) (i : Nat) : isDig (bt s (digs s i : Int)) = false := by
  induction i using digs.induct s with
  | case1 i h ih => rw [digs, if_pos h]; exact ih
  | case2 i h =>
    rw [digs, if_neg h]
    rw [Bool.eq_false_iff]
    intro e
    exact h ⟨lt_of_bt (by have := isDig_iff.1 e; omega), e⟩
theorem digs_of_allD {s : ByteArray} {i e : Nat} (hi : i ≤ e) (h : allD s i e) : digs s i = digs s e := by
  induction i using digs.induct s with
  | case1 i hd ih =>
    rcases Nat.lt_or_ge i e with h' | h'
    · rw [digs_yes hd.2]; exact ih h' (fun k h1 h2 => h k (by omega) h2)
    · have : i = e := by omega
      rw [this]
  | case2 i hd =>
    rcases Nat.lt_or_ge i e with h' | h'
    · have := h i (Nat.le_refl _) h'
      exact absurd ⟨lt_of_bt (by have := isDig_iff.1 this; omega), this⟩ hd
    · have : i = e := by omega
      rw [this]
theorem allD_le_digs {s : ByteArray} {i e : Nat} (hi : i ≤ e) (h : allD s i e) : e ≤ digs s i := by
  rw [digs_of_allD hi h]; exact digs_ge s e
theorem allD_snoc {s : ByteArray} {i e : Nat} (h : allD s i e) (h' : isDig (bt s (e : Int)) = true) : allD s i (e + 1) := by
  intro k h1 h2
  rcases Nat.lt_or_ge k e with h3 | h3
  · exact h k h1 h3
  · have : k = e := by omega
    subst this; exact h'
theorem bt_extract {s : ByteArray} {a b j : Nat} (hb : b ≤ s.size) (h : a + j < b) : bt (s.extract a b) (j : Int) = bt s ((a + j : Nat) : Int) := by
  have hz : (s.extract a b).size = b - a := by simp [ByteArray.size_extract]; omega
  unfold bt
  rw [Int.toNat_natCast, Int.toNat_natCast]
  congr 2
  have e1 : (s.extract a b).data.toList = (s.data.toList.drop a).take (b - a) := by
    rw [ByteArray.data_extract, Array.toList_extract, List.extract_eq_take_drop]
  rw [e1]
  simp only [List.getD_eq_getElem?_getD, List.getElem?_take, List.getElem?_drop]
  rw [if_pos (by omega)]

/-- Whether a minus sign stands ahead; where the digits begin. -/
def neg (s : ByteArray) : Bool := bt s (0 : Int) == 45
def st (s : ByteArray) : Nat := if neg s then 1 else 0
theorem neg_pos {s : ByteArray} (h : neg s = true) : 0 < s.size := by
  have : bt s ((0 : Nat) : Int) = 45 := by simpa [neg] using h
  exact lt_of_bt (by rw [this]; decide)
theorem st_le (s : ByteArray) : st s ≤ s.size := by
  unfold st
  split
  · have := neg_pos ‹_›; omega
  · omega
/-- Decimal digits, one at least, with a minus sign ahead or none. -/
def decB (s : ByteArray) : Bool := decide (st s < s.size) && (digs s (st s) == s.size)
theorem decB_iff {s : ByteArray} : decB s = true ↔ st s < s.size ∧ digs s (st s) = s.size := by simp [decB]
def vOf (s : ByteArray) : Nat := dv s (st s) (s.size - st s)
/-- Within int64. -/
def rng (b : Bool) (n : Nat) : Bool := if b then decide (n ≤ 9223372036854775808) else decide (n < 9223372036854775808)
def sgn (b : Bool) (n : Nat) : Int := if b then -(n : Int) else n
def i64O (s : ByteArray) : Option Int := if decB s && rng (neg s) (vOf s) then some (sgn (neg s) (vOf s)) else none
theorem i64O_some {s : ByteArray} (h : decB s = true) (h' : rng (neg s) (vOf s) = true) : i64O s = some (sgn (neg s) (vOf s)) := by simp [i64O, h, h']
theorem i64O_noDec {s : ByteArray} (h : decB s = false) : i64O s = none := by simp [i64O, h]
theorem i64O_noRng {s : ByteArray} (h' : rng (neg s) (vOf s) = false) : i64O s = none := by simp [i64O, h']
theorem rng_big {b : Bool} {n : Nat} (h : 9223372036854775808 < n) : rng b n = false := by cases b <;> simp [rng] <;> omega
theorem neg_take {s : ByteArray} {e : Nat} (h0 : 0 < e) (he : e ≤ s.size) : neg (s.extract 0 e) = neg s := by
  unfold neg
  have := bt_extract (s := s) (a := 0) (b := e) (j := 0) he (by omega)
  simp at this
  rw [this]
theorem size_take {s : ByteArray} {e : Nat} (he : e ≤ s.size) : (s.extract 0 e).size = e := by simp [ByteArray.size_extract]; omega
theorem size_tail (s : ByteArray) (a : Nat) : (s.extract a s.size).size = s.size - a := by simp [ByteArray.size_extract]
/-- The digits that a text begins with, beyond int64: what is left out. -/
def outS (s : ByteArray) : Prop := digs s (st s) < s.size ∧ decB (s.extract 0 (digs s (st s))) = true ∧ i64O (s.extract 0 (digs s (st s))) = none
theorem take_dec {s : ByteArray} (h : st s < digs s (st s)) : decB (s.extract 0 (digs s (st s))) = true ∧ vOf (s.extract 0 (digs s (st s))) = dv s (st s) (digs s (st s) - st s) ∧ neg (s.extract 0 (digs s (st s))) = neg s := by
  have he : digs s (st s) ≤ s.size := digs_le s _ (st_le s)
  have ha := allD_digs s (st s)
  generalize digs s (st s) = e at *
  have hz := size_take he
  have hn : neg (s.extract 0 e) = neg s := neg_take (by omega) he
  have hst : st (s.extract 0 e) = st s := by unfold st; rw [hn]
  have hb : ∀ k, k < e → bt (s.extract 0 e) (k : Int) = bt s (k : Int) := fun k hk => by
    have := bt_extract (s := s) (a := 0) (b := e) (j := k) he (by omega)
    rw [this]; simp
  refine ⟨?_, ?_, hn⟩
  · rw [decB_iff, hst, hz]
    refine ⟨h, ?_⟩
    have h1 : allD (s.extract 0 e) (st s) e := fun k h1 h2 => by rw [hb k h2]; exact ha k h1 h2
    rw [digs_of_allD (Nat.le_of_lt h) h1, digs_end (by omega)]
  · unfold vOf
    rw [hst, hz]
    exact dv_congr fun k hk => hb _ (by omega)
/-- Digits beyond 64 bits have been read: the text is such digits, or begins with such. -/
theorem over_of {s : ByteArray} {k : Nat} (h : allD s (st s) (st s + k)) (hv : 18446744073709551616 ≤ dv s (st s) k) : i64O s = none ∧ (decB s = true ∨ outS s) := by
  have h1 := allD_le_digs (by omega) h
  have hk : 0 < k := by
    rcases Nat.eq_zero_or_pos k with e | e
    · subst e; simp [dv] at hv
    · exact e
  have hle : digs s (st s) ≤ s.size := digs_le s _ (st_le s)
  have hbig : ∀ m, k ≤ m → 9223372036854775808 < dv s (st s) m := fun m hm => by have := dv_mono s (st s) hm; omega
  constructor
  · exact i64O_noRng (rng_big (hbig _ (by omega)))
  · rcases Nat.lt_or_ge (digs s (st s)) s.size with h2 | h2
    · obtain ⟨a, b, c⟩ := take_dec (s := s) (by omega)
      refine .inr ⟨h2, a, i64O_noRng ?_⟩
      rw [b, c]
      exact rng_big (hbig _ (by omega))
    · exact .inl (decB_iff.2 ⟨by omega, by omega⟩)
theorem not_dec {s : ByteArray} {j : Nat} (h1 : st s ≤ j) (h2 : j < s.size) (h : isDig (bt s (j : Int)) = false) : decB s = false := by
  rw [Bool.eq_false_iff]
  intro e
  obtain ⟨_, h3⟩ := decB_iff.1 e
  have := allD_digs s (st s) j h1 (by omega)
  rw [this] at h; cases h
theorem dec_of {s : ByteArray} (h0 : st s < s.size) (h : allD s (st s) s.size) : decB s = true :=
  decB_iff.2 ⟨h0, by rw [digs_of_allD (Nat.le_of_lt h0) h, digs_end (Nat.le_refl _)]⟩
/-- Whole numbers below 2^64. -/
def u64O (s : ByteArray) : Option Nat := if (decide (0 < s.size) && (digs s 0 == s.size)) && decide (dv s 0 s.size < 18446744073709551616) then some (dv s 0 s.size) else none
end Go.Proofs.Ytiganlecnpphmaa.Pl
