/- Plain facts on JSON texts and on a scanner of them (the texts Pl Pd Sf Pj Pw Sk Gk Sw of this repo put together). No statement of the set is proved here. -/
import Derived.Test.YtkpnomdmnhhaoaaGreatDoorRk
namespace Go.Proofs.YtkpnomdmnhhaoaaGreatDoor.Pl
open Go Go.Proofs.YtkpnomdmnhhaoaaGreatDoor.Rx

theorem wrap_in {n : Int} (h0 : -9223372036854775808 ≤ n) (h1 : n ≤ 9223372036854775807) : IntKind.wrap .i64 n = n := IntWalk.i64_in _ (by omega)
theorem bt_end {s : ByteArray} {i : Nat} (h : s.size ≤ i) : bt s i = 0 := by
  unfold bt
  rw [Int.toNat_natCast, List.getD_eq_getElem?_getD, List.getElem?_eq_none (by simpa using h)]
  rfl
theorem bt_range (s : ByteArray) (i : Int) : 0 ≤ bt s i ∧ bt s i ≤ 255 := by
  unfold bt
  have := UInt8.toNat_lt (s.data.toList.getD i.toNat 0)
  omega
theorem lt_of_bt {s : ByteArray} {i : Nat} (h : bt s i ≠ 0) : i < s.size := by
  rcases Nat.lt_or_ge i s.size with g | g
  · exact g
  · exact absurd (bt_end g) h
def isDig (c : Int) : Bool := decide (48 ≤ c) && decide (c ≤ 57)
theorem isDig_iff {c : Int} : isDig c = true ↔ 48 ≤ c ∧ c ≤ 57 := by simp [isDig]
theorem isDig_yes {c : Int} (h : 48 ≤ c ∧ c ≤ 57) : isDig c = true := isDig_iff.2 h
theorem isDig_no {c : Int} (h : ¬ (48 ≤ c ∧ c ≤ 57)) : isDig c = false := by
  rw [Bool.eq_false_iff]; exact fun e => h (isDig_iff.1 e)
theorem dig_lo {c : Int} (h : c < 48) : isDig c = false := isDig_no (by omega)
theorem dig_hi {c : Int} (h : 48 ≤ c) : decide (57 < c) = !isDig c := by
  rw [Bool.eq_iff_iff]; simp [isDig]; omega
def isE (c : Int) : Bool := decide (c = 101 ∨ c = 69)
def isS (c : Int) : Bool := decide (c = 43 ∨ c = 45)
theorem isE_iff {c : Int} : isE c = true ↔ c = 101 ∨ c = 69 := by simp [isE]
theorem isS_iff {c : Int} : isS c = true ↔ c = 43 ∨ c = 45 := by simp [isS]
theorem isE_not {c : Int} (h : isE c = false) : ¬ (c = 101 ∨ c = 69) := by simpa [isE] using h
theorem isS_not {c : Int} (h : isS c = false) : ¬ (c = 43 ∨ c = 45) := by simpa [isS] using h
theorem isE_ask {c : Int} : (c = 101 → (true, ()) = (isE c, ())) ∧ (¬ c = 101 → (c == 69, ()) = (isE c, ())) :=
  ⟨fun h => by rw [isE_iff.2 (.inl h)], fun h => by rw [show isE c = (c == 69) from by rw [Bool.eq_iff_iff]; simp [isE, h]]⟩
theorem isS_ask {c : Int} : (c = 43 → (true, ()) = (isS c, ())) ∧ (¬ c = 43 → (c == 45, ()) = (isS c, ())) :=
  ⟨fun h => by rw [isS_iff.2 (.inl h)], fun h => by rw [show isS c = (c == 45) from by rw [Bool.eq_iff_iff]; simp [isS, h]]⟩
def digs (s : ByteArray) (i : Nat) : Nat := if i < s.size ∧ isDig (bt s i) then digs s (i + 1) else i
termination_by s.size - i
theorem digs_yes {s : ByteArray} {i : Nat} (h : isDig (bt s i) = true) : digs s i = digs s (i + 1) := by
  have h' : i < s.size := lt_of_bt (by have := isDig_iff.1 h; omega)
  rw [digs, if_pos ⟨h', h⟩]
theorem digs_no {s : ByteArray} {i : Nat} (h : isDig (bt s i) = false) : digs s i = i := by
  rw [digs, if_neg (by simp [h])]
theorem digs_end {s : ByteArray} {i : Nat} (h : s.size ≤ i) : digs s i = i := digs_no (by rw [bt_end h]; rfl)
theorem digs_ge (s : ByteArray) (i : Nat) : i ≤ digs s i := by
  induction i using digs.induct s with
  | case1 i h ih => rw [digs, if_pos h]; omega
  | case2 i h => rw [digs, if_neg h]; exact Nat.le_refl _
theorem digs_gt {s : ByteArray} {i : Nat} (h : isDig (bt s i) = true) : i < digs s i := by
  rw [digs_yes h]; have := digs_ge s (i + 1); omega
theorem digs_le (s : ByteArray) (i : Nat) (hi : i ≤ s.size) : digs s i ≤ s.size := by
  induction i using digs.induct s with
  | case1 i h ih => rw [digs, if_pos h]; exact ih (by omega)
  | case2 i h => rw [digs, if_neg h]; exact hi
def signE (s : ByteArray) (i : Nat) : Nat := if bt s i = 43 ∨ bt s i = 45 then i + 1 else i
def expD (s : ByteArray) (i : Nat) : Option Nat := if isDig (bt s i) then some (digs s i) else none
def expE (s : ByteArray) (i : Nat) : Option Nat := if bt s i = 101 ∨ bt s i = 69 then expD s (signE s (i + 1)) else some i
def fracE (s : ByteArray) (i : Nat) : Option Nat := if bt s i = 46 then (if isDig (bt s (i + 1 : Nat)) then expE s (digs s (i + 1)) else none) else expE s i
def intE (s : ByteArray) (i : Nat) : Option Nat := if bt s i = 48 then fracE s (i + 1) else if isDig (bt s i) then fracE s (digs s i) else none
/-- Where the number that begins at a place ends; none if there is none. -/
def numE (s : ByteArray) (i : Nat) : Option Nat := if bt s i = 45 then intE s (i + 1) else intE s i
theorem expD_yes {s : ByteArray} {i : Nat} (h : isDig (bt s i) = true) : expD s i = some (digs s i) := by rw [expD, if_pos h]
theorem expD_no {s : ByteArray} {i : Nat} (h : isDig (bt s i) = false) : expD s i = none := by rw [expD, h]; rfl
theorem expE_no {s : ByteArray} {i : Nat} (h : ¬ (bt s i = 101 ∨ bt s i = 69)) : expE s i = some i := by rw [expE, if_neg h]
theorem expE_s {s : ByteArray} {i : Nat} (h : bt s i = 101 ∨ bt s i = 69) (h' : bt s (i + 1 : Nat) = 43 ∨ bt s (i + 1 : Nat) = 45) : expE s i = expD s (i + 1 + 1) := by
  rw [expE, if_pos h, signE, if_pos h']
theorem expE_b {s : ByteArray} {i : Nat} (h : bt s i = 101 ∨ bt s i = 69) (h' : ¬ (bt s (i + 1 : Nat) = 43 ∨ bt s (i + 1 : Nat) = 45)) : expE s i = expD s (i + 1) := by
  rw [expE, if_pos h, signE, if_neg h']
theorem expE_end {s : ByteArray} {i : Nat} (h : s.size ≤ i) : expE s i = some i := expE_no (by rw [bt_end h]; decide)
theorem fracE_no {s : ByteArray} {i : Nat} (h : bt s i ≠ 46) : fracE s i = expE s i := by rw [fracE, if_neg h]
theorem fracE_yes {s : ByteArray} {i : Nat} (h : bt s i = 46) (h' : isDig (bt s (i + 1 : Nat)) = true) : fracE s i = expE s (digs s (i + 1)) := by rw [fracE, if_pos h, if_pos h']
theorem fracE_bad {s : ByteArray} {i : Nat} (h : bt s i = 46) (h' : isDig (bt s (i + 1 : Nat)) = false) : fracE s i = none := by rw [fracE, if_pos h, h']; rfl
theorem fracE_end {s : ByteArray} {i : Nat} (h : s.size ≤ i) : fracE s i = some i := by rw [fracE_no (by rw [bt_end h]; decide), expE_end h]
theorem intE_zero {s : ByteArray} {i : Nat} (h : bt s i = 48) : intE s i = fracE s (i + 1) := by rw [intE, if_pos h]
theorem intE_dig {s : ByteArray} {i : Nat} (h : bt s i ≠ 48) (h' : isDig (bt s i) = true) : intE s i = fracE s (digs s i) := by rw [intE, if_neg h, if_pos h']
theorem intE_bad {s : ByteArray} {i : Nat} (h' : isDig (bt s i) = false) : intE s i = none := by
  rw [intE, if_neg (fun e => by rw [e] at h'; exact absurd h' (by decide)), h']; rfl
theorem intE_end {s : ByteArray} {i : Nat} (h : s.size ≤ i) : intE s i = none := intE_bad (by rw [bt_end h]; rfl)
theorem numE_minus {s : ByteArray} {i : Nat} (h : bt s i = 45) : numE s i = intE s (i + 1) := by rw [numE, if_pos h]
theorem numE_plain {s : ByteArray} {i : Nat} (h : bt s i ≠ 45) : numE s i = intE s i := by rw [numE, if_neg h]
end Go.Proofs.YtkpnomdmnhhaoaaGreatDoor.Pl
namespace Go.Proofs.YtkpnomdmnhhaoaaGreatDoor.Pl
open Go Go.Proofs.YtkpnomdmnhhaoaaGreatDoor.Rx

theorem wrapU_in {n : Int} (h0 : 0 ≤ n) (h1 : n < 18446744073709551616) : IntKind.wrap .u64 n = n := IntWalk.u64_in _ (by omega)
theorem wrapB_in {n : Int} (h0 : 0 ≤ n) (h1 : n < 256) : IntKind.wrap .u8 n = n := IntWalk.u8_in _ (by omega)
theorem wrapB_neg {n : Int} (h0 : -256 ≤ n) (h1 : n < 0) : IntKind.wrap .u8 n = n + 256 := by rw [IntKind.wrap_u8]; omega
/-- The value of n digits from a place on. -/
def dv (s : ByteArray) (i : Nat) : Nat → Nat
  | 0 => 0
  | n + 1 => dv s i n * 10 + (bt s ((i + n : Nat) : Int) - 48).toNat
theorem dv_mono (s : ByteArray) (i : Nat) {a b : Nat} (h : a ≤ b) : dv s i a ≤ dv s i b := by
  induction h with
  | refl => exact Nat.le_refl _
  | step _ ih => simp only [dv]; omega
theorem dv_congr {s t : ByteArray} {i j : Nat} : ∀ {n : Nat}, (∀ k, k < n → bt s ((i + k : Nat) : Int) = bt t ((j + k : Nat) : Int)) → dv s i n = dv t j n
  | 0, _ => rfl
  | n + 1, h => by simp only [dv]; rw [dv_congr fun k hk => h k (by omega), h n (by omega)]
theorem dv_lt {s : ByteArray} {i : Nat} : ∀ {n : Nat}, (∀ k, k < n → isDig (bt s ((i + k : Nat) : Int)) = true) → dv s i n < 10 ^ n
  | 0, _ => by simp [dv]
  | n + 1, h => by
    have h1 := dv_lt fun k (hk : k < n) => h k (by omega)
    have h2 := isDig_iff.1 (h n (by omega))
    simp only [dv]
    rw [Nat.pow_succ]; omega
theorem dv_step {s : ByteArray} {i n : Nat} (h : isDig (bt s ((i + n : Nat) : Int)) = true) : ((dv s i (n + 1) : Nat) : Int) = (dv s i n : Int) * 10 + (bt s ((i + n : Nat) : Int) - 48) := by
  have := isDig_iff.1 h
  simp only [dv]; omega
/-- All digits from i up to e. -/
def allD (s : ByteArray) (i e : Nat) : Prop := ∀ k, i ≤ k → k < e → isDig (bt s (k : Int)) = true
theorem allD_digs (s : ByteArray) (i : Nat) : allD s i (digs s i) := by
  induction i using digs.induct s with
  | case1 i h ih =>
    rw [digs, if_pos h]
    intro k h1 h2
    rcases Nat.lt_or_ge i k with h' | h'
    · exact ih k h' h2
    · have : k = i := by omega
      subst this; exact h.2
  | case2 i h => rw [digs, if_neg h]; intro k h1 h2; omega
theorem digs_stop (s : ByteArray) (i : Nat) : isDig (bt s (digs s i : Int)) = false := by
  induction i using digs.induct s with
  | case1 i h ih => rw [digs, if_pos h]; exact ih
  | case2 i h =>
    rw [digs, if_neg h]
    rw [Bool.eq_false_iff]
    intro e
    exact h ⟨lt_of_bt (by have := isDig_iff.1 e; omega), e⟩
theorem digs_of_allD {s : ByteArray} {i e : Nat} (hi : i ≤ e) (h : allD s i e) : digs s i = digs s e := by
  induction i using digs.induct s with
  | case1 i hd ih =>
    rcases Nat.lt_or_ge i e with h' | h'
    · rw [digs_yes hd.2]; exact ih h' (fun k h1 h2 => h k (by omega) h2)
    · have : i = e := by omega
      rw [this]
  | case2 i hd =>
    rcases Nat.lt_or_ge i e with h' | h'
    · have := h i (Nat.le_refl _) h'
      exact absurd ⟨lt_of_bt (by have := isDig_iff.1 this; omega), this⟩ hd
    · have : i = e := by omega
      rw [this]
theorem allD_le_digs {s : ByteArray} {i e : Nat} (hi : i ≤ e) (h : allD s i e) : e ≤ digs s i := by
  rw [digs_of_allD hi h]; exact digs_ge s e
theorem allD_snoc {s : ByteArray} {i e : Nat} (h : allD s i e) (h' : isDig (bt s (e : Int)) = true) : allD s i (e + 1) := by
  intro k h1 h2
  rcases Nat.lt_or_ge k e with h3 | h3
  · exact h k h1 h3
  · have : k = e := by omega
    subst this; exact h'
theorem bt_extract {s : ByteArray} {a b j : Nat} (hb : b ≤ s.size) (h : a + j < b) : bt (s.extract a b) (j : Int) = bt s ((a + j : Nat) : Int) := by
  have hz : (s.extract a b).size = b - a := by simp [ByteArray.size_extract]; omega
  unfold bt
  rw [Int.toNat_natCast, Int.toNat_natCast]
  congr 2
  have e1 : (s.extract a b).data.toList = (s.data.toList.drop a).take (b - a) := by
    rw [ByteArray.data_extract, Array.toList_extract, List.extract_eq_take_drop]
  rw [e1]
  simp only [List.getD_eq_getElem?_getD, List.getElem?_take, List.getElem?_drop]
  rw [if_pos (by omega)]

/-- Whether a minus sign stands ahead; where the digits begin. -/
def neg (s : ByteArray) : Bool := bt s (0 : Int) == 45
def st (s : ByteArray) : Nat := if neg s then 1 else 0
theorem neg_pos {s : ByteArray} (h : neg s = true) : 0 < s.size := by
  have : bt s ((0 : Nat) : Int) = 45 := by simpa [neg] using h
  exact lt_of_bt (by rw [this]; decide)
theorem st_le (s : ByteArray) : st s ≤ s.size := by
  unfold st
  split
  · have := neg_pos ‹_›; omega
  · omega
/-- Decimal digits, one at least, with a minus sign ahead or none. -/
def decB (s : ByteArray) : Bool := decide (st s < s.size) && (digs s (st s) == s.size)
theorem decB_iff {s : ByteArray} : decB s = true ↔ st s < s.size ∧ digs s (st s) = s.size := by simp [decB]
def vOf (s : ByteArray) : Nat := dv s (st s) (s.size - st s)
/-- Within int64. -/
def rng (b : Bool) (n : Nat) : Bool := if b then decide (n ≤ 9223372036854775808) else decide (n < 9223372036854775808)
def sgn (b : Bool) (n : Nat) : Int := if b then -(n : Int) else n
def i64O (s : ByteArray) : Option Int := if decB s && rng (neg s) (vOf s) then some (sgn (neg s) (vOf s)) else none
theorem i64O_some {s : ByteArray} (h : decB s = true) (h' : rng (neg s) (vOf s) = true) : i64O s = some (sgn (neg s) (vOf s)) := by simp [i64O, h, h']
theorem i64O_noDec {s : ByteArray} (h : decB s = false) : i64O s = none := by simp [i64O, h]
theorem i64O_noRng {s : ByteArray} (h' : rng (neg s) (vOf s) = false) : i64O s = none := by simp [i64O, h']
theorem rng_big {b : Bool} {n : Nat} (h : 9223372036854775808 < n) : rng b n = false := by cases b <;> simp [rng] <;> omega
theorem neg_take {s : ByteArray} {e : Nat} (h0 : 0 < e) (he : e ≤ s.size) : neg (s.extract 0 e) = neg s := by
  unfold neg
  have := bt_extract (s := s) (a := 0) (b := e) (j := 0) he (by omega)
  simp at this
  rw [this]
theorem size_take {s : ByteArray} {e : Nat} (he : e ≤ s.size) : (s.extract 0 e).size = e := by simp [ByteArray.size_extract]; omega
theorem size_tail (s : ByteArray) (a : Nat) : (s.extract a s.size).size = s.size - a := by simp [ByteArray.size_extract]
/-- The digits that a text begins with, beyond int64: what is left out. -/
def outS (s : ByteArray) : Prop := digs s (st s) < s.size ∧ decB (s.extract 0 (digs s (st s))) = true ∧ i64O (s.extract 0 (digs s (st s))) = none
theorem take_dec {s : ByteArray} (h : st s < digs s (st s)) : decB (s.extract 0 (digs s (st s))) = true ∧ vOf (s.extract 0 (digs s (st s))) = dv s (st s) (digs s (st s) - st s) ∧ neg (s.extract 0 (digs s (st s))) = neg s := by
  have he : digs s (st s) ≤ s.size := digs_le s _ (st_le s)
  have ha := allD_digs s (st s)
  generalize digs s (st s) = e at *
  have hz := size_take he
  have hn : neg (s.extract 0 e) = neg s := neg_take (by omega) he
  have hst : st (s.extract 0 e) = st s := by unfold st; rw [hn]
  have hb : ∀ k, k < e → bt (s.extract 0 e) (k : Int) = bt s (k : Int) := fun k hk => by
    have := bt_extract (s := s) (a := 0) (b := e) (j := k) he (by omega)
    rw [this]; simp
  refine ⟨?_, ?_, hn⟩
  · rw [decB_iff, hst, hz]
    refine ⟨h, ?_⟩
    have h1 : allD (s.extract 0 e) (st s) e := fun k h1 h2 => by rw [hb k h2]; exact ha k h1 h2
    rw [digs_of_allD (Nat.le_of_lt h) h1, digs_end (by omega)]
  · unfold vOf
    rw [hst, hz]
    exact dv_congr fun k hk => hb _ (by omega)
/-- Digits beyond 64 bits have been read: the text is such digits, or begins with such. -/
theorem over_of {s : ByteArray} {k : Nat} (h : allD s (st s) (st s + k)) (hv : 18446744073709551616 ≤ dv s (st s) k) : i64O s = none ∧ (decB s = true ∨ outS s) := by
  have h1 := allD_le_digs (by omega) h
  have hk : 0 < k := by
    rcases Nat.eq_zero_or_pos k with e | e
    · subst e; simp [dv] at hv
    · exact e
  have hle : digs s (st s) ≤ s.size := digs_le s _ (st_le s)
  have hbig : ∀ m, k ≤ m → 9223372036854775808 < dv s (st s) m := fun m hm => by have := dv_mono s (st s) hm; omega
  constructor
  · exact i64O_noRng (rng_big (hbig _ (by omega)))
  · rcases Nat.lt_or_ge (digs s (st s)) s.size with h2 | h2
    · obtain ⟨a, b, c⟩ := take_dec (s := s) (by omega)
      refine .inr ⟨h2, a, i64O_noRng ?_⟩
      rw [b, c]
      exact rng_big (hbig _ (by omega))
    · exact .inl (decB_iff.2 ⟨by omega, by omega⟩)
theorem not_dec {s : ByteArray} {j : Nat} (h1 : st s ≤ j) (h2 : j < s.size) (h : isDig (bt s (j : Int)) = false) : decB s = false := by
  rw [Bool.eq_false_iff]
  intro e
  obtain ⟨_, h3⟩ := decB_iff.1 e
  have := allD_digs s (st s) j h1 (by omega)
  rw [this] at h; cases h
theorem dec_of {s : ByteArray} (h0 : st s < s.size) (h : allD s (st s) s.size) : decB s = true :=
  decB_iff.2 ⟨h0, by rw [digs_of_allD (Nat.le_of_lt h0) h, digs_end (Nat.le_refl _)]⟩
/-- Whole numbers below 2^64. -/
def u64O (s : ByteArray) : Option Nat := if (decide (0 < s.size) && (digs s 0 == s.size)) && decide (dv s 0 s.size < 18446744073709551616) then some (dv s 0 s.size) else none
end Go.Proofs.YtkpnomdmnhhaoaaGreatDoor.Pl
namespace Go.Proofs.YtkpnomdmnhhaoaaGreatDoor.Pl
open Go Go.Proofs.YtkpnomdmnhhaoaaGreatDoor.Rx

def sfx (s : ByteArray) (i : Nat) : ByteArray := s.extract i s.size
theorem sfx_size (s : ByteArray) (i : Nat) : (sfx s i).size = s.size - i := size_tail s i
theorem sfx_bt (s : ByteArray) (i j : Nat) : bt (sfx s i) (j : Int) = bt s ((i + j : Nat) : Int) := by
  by_cases h : i + j < s.size
  · exact bt_extract (Nat.le_refl _) h
  · rw [bt_end (s := s) (by omega), bt_end (by rw [sfx_size]; omega)]
theorem sfx_zero (s : ByteArray) : sfx s 0 = s := ByteArray.extract_zero_size
theorem sfx_sfx (s : ByteArray) (i j : Nat) : (sfx s i).extract j (sfx s i).size = sfx s (i + j) := by
  rw [sfx_size]
  unfold sfx
  ext1
  simp only [ByteArray.data_extract, Array.extract_extract]
  congr 1
  show min (i + (s.size - i)) s.size = s.size
  omega
theorem empty_of {s : ByteArray} (h : s.size = 0) : s = ByteArray.mk #[] := by
  cases s with
  | mk d => congr 1; exact Array.eq_empty_of_size_eq_zero h
theorem sfx_end {s : ByteArray} {i : Nat} (h : s.size ≤ i) : sfx s i = ByteArray.mk #[] := empty_of (by rw [sfx_size]; omega)
/-- A loop over digits. -/
def dgT (u : ByteArray) (l : Nat) (i : Int) : T :=
  .ite (decide (i < (((ByteArray.size u) : Nat) : Int))) (
    .chk (((0 : Int) ≤ i) ∧ (i < (((ByteArray.size u) : Nat) : Int))) <|
    .ite (decide ((bt u i) < (48 : Int))) (
      .leaf l [(Value.int IntKind.i64 i)]) (
      .chk (((0 : Int) ≤ i) ∧ (i < (((ByteArray.size u) : Nat) : Int))) <|
      .ite (decide ((bt u i) > (57 : Int))) (
        .leaf l [(Value.int IntKind.i64 i)]) (
        .leaf (l + 1) [(Value.int IntKind.i64 (IntKind.wrap IntKind.i64 (i + (1 : Int))))]))) (
    .leaf l [(Value.int IntKind.i64 i)])
theorem dg_loop {P : Program} {w : World} {Q : Nat → List Value → World → Prop} {s : ByteArray} {a l : Nat} (hs : s.size < 4611686018427387904) (ha : a ≤ s.size) (h : Q l [.int .i64 ((digs s a - a : Nat) : Int)] w) :
    sat P (.loop (l + 1) (.cons (.int .i64) .nil) [.int .i64 (0 : Int)] (fun z => dgT (sfx s a) l z.1)) Q w := by
  have hz := sfx_size s a
  have hge := digs_ge s a
  refine s_loop (fun n x w' => ∃ k : Nat, x = ((k : Int), ()) ∧ a + k ≤ s.size ∧ n = s.size - (a + k) ∧ digs s (a + k) = digs s a ∧ w = w') (s.size - a) ((0 : Int), ()) rfl ⟨0, rfl, ha, rfl, rfl, rfl⟩ ?_
  rintro n x w1 ⟨k, rfl, hk, rfl, hd, rfl⟩
  have out : isDig (bt s ((a + k : Nat) : Int)) = false → (if l = l + 1 then ∃ n' x', [Value.int IntKind.i64 (k : Int)] = (Sh.cons (.int .i64) .nil).vals x' ∧ n' < s.size - (a + k) ∧ ∃ k : Nat, x' = ((k : Int), ()) ∧ a + k ≤ s.size ∧ n' = s.size - (a + k) ∧ digs s (a + k) = digs s a ∧ w = w else Q l [.int .i64 (k : Int)] w) := fun hx => by
    rw [if_neg (by omega)]
    rw [digs_no hx] at hd
    have : k = digs s a - a := by omega
    rw [this]; exact h
  unfold dgT
  refine s_iteD (fun h1 => ?_) (fun h1 => s_leaf (out (by rw [bt_end (by omega)]; rfl)))
  refine s_chk (by omega) ?_
  simp only [sfx_bt]
  refine s_iteD (fun h2 => s_leaf (out (isDig_no (by omega)))) (fun h2 => ?_)
  refine s_chk (by omega) ?_
  refine s_iteD (fun h3 => s_leaf (out (isDig_no (by omega)))) (fun h3 => s_leaf ?_)
  rw [if_pos rfl, wrap_in (by omega) (by omega)]
  exact ⟨s.size - (a + k + 1), (((k + 1 : Nat) : Int), ()), rfl, by omega, k + 1, rfl, by omega, rfl, by rw [← Nat.add_assoc, ← digs_yes (isDig_yes (by omega))]; exact hd, rfl⟩
theorem dg_loop' {P : Program} {w : World} {Q : Nat → List Value → World → Prop} {s : ByteArray} {a l : Nat} {body : (Sh.cons (.int .i64) .nil).Ty → T} (hb : ∀ z, body z = dgT (sfx s a) l z.1) (hs : s.size < 4611686018427387904) (ha : a ≤ s.size) (h : Q l [.int .i64 ((digs s a - a : Nat) : Int)] w) :
    sat P (.loop (l + 1) (.cons (.int .i64) .nil) [.int .i64 (0 : Int)] body) Q w := by
  have : body = fun z => dgT (sfx s a) l z.1 := funext hb
  subst this; exact dg_loop hs ha h
theorem bpair {x y : Bool} (h : x = true ↔ y = true) : (x, ()) = (y, ()) := by rw [Bool.eq_iff_iff.2 h]
end Go.Proofs.YtkpnomdmnhhaoaaGreatDoor.Pl
namespace Go.Proofs.YtkpnomdmnhhaoaaGreatDoor.Pl
open Go Go.Proofs.YtkpnomdmnhhaoaaGreatDoor.Rx
set_option linter.unusedVariables false

def isB (c : Int) : Bool := c == 32 || c == 9 || c == 10 || c == 13
theorem isB_iff {c : Int} : isB c = true ↔ c = 32 ∨ c = 9 ∨ c = 10 ∨ c = 13 := by simp [isB, or_assoc]
/-- Behind the blanks. -/
def bl (s : ByteArray) (i : Nat) : Nat := if i < s.size ∧ isB (bt s i) then bl s (i + 1) else i
termination_by s.size - i
theorem bl_yes {s : ByteArray} {i : Nat} (h : isB (bt s i) = true) : bl s i = bl s (i + 1) := by
  have h' : i < s.size := lt_of_bt (by have := isB_iff.1 h; omega)
  rw [bl, if_pos ⟨h', h⟩]
theorem bl_no {s : ByteArray} {i : Nat} (h : isB (bt s i) = false) : bl s i = i := by rw [bl, if_neg (by simp [h])]
theorem bl_end {s : ByteArray} {i : Nat} (h : s.size ≤ i) : bl s i = i := bl_no (by rw [bt_end h]; rfl)
theorem bl_ge (s : ByteArray) (i : Nat) : i ≤ bl s i := by
  induction i using bl.induct s with
  | case1 i h ih => rw [bl, if_pos h]; omega
  | case2 i h => rw [bl, if_neg h]; exact Nat.le_refl _
theorem bl_le (s : ByteArray) (i : Nat) (hi : i ≤ s.size) : bl s i ≤ s.size := by
  induction i using bl.induct s with
  | case1 i h ih => rw [bl, if_pos h]; exact ih (by omega)
  | case2 i h => rw [bl, if_neg h]; exact hi
def isH (c : Int) : Bool := (decide (48 ≤ c) && decide (c ≤ 57)) || (decide (97 ≤ c) && decide (c ≤ 102)) || (decide (65 ≤ c) && decide (c ≤ 70))
theorem isH_iff {c : Int} : isH c = true ↔ (48 ≤ c ∧ c ≤ 57) ∨ (97 ≤ c ∧ c ≤ 102) ∨ (65 ≤ c ∧ c ≤ 70) := by simp [isH, or_assoc]
/-- Behind n hexadecimal digits. -/
def hexE (s : ByteArray) (i : Nat) : Nat → Option Nat
  | 0 => some i
  | n + 1 => if isH (bt s i) then hexE s (i + 1) n else none
theorem hexE_le {s : ByteArray} : ∀ {n i m : Nat}, hexE s i n = some m → m = i + n ∧ (i ≤ s.size → m ≤ s.size)
  | 0, i, m, h => by cases h; exact ⟨rfl, id⟩
  | n + 1, i, m, h => by
    unfold hexE at h
    split at h
    · have hlt : i < s.size := lt_of_bt (by have := isH_iff.1 ‹_›; omega)
      obtain ⟨a, b⟩ := hexE_le h
      exact ⟨by omega, fun _ => b hlt⟩
    · cases h
def isX (c : Int) : Bool := c == 34 || c == 92 || c == 47 || c == 98 || c == 102 || c == 110 || c == 114 || c == 116
theorem isX_iff {c : Int} : isX c = true ↔ c = 34 ∨ c = 92 ∨ c = 47 ∨ c = 98 ∨ c = 102 ∨ c = 110 ∨ c = 114 ∨ c = 116 := by simp [isX, or_assoc]
/-- Behind what follows a backslash. -/
def escE (s : ByteArray) (i : Nat) : Option Nat := if isX (bt s i) then some (i + 1) else if bt s i = 117 then hexE s (i + 1) 4 else none
theorem escE_x {s : ByteArray} {i : Nat} (h : isX (bt s i) = true) : escE s i = some (i + 1) := by rw [escE, if_pos h]
theorem escE_u {s : ByteArray} {i : Nat} (h : bt s i = 117) : escE s i = hexE s (i + 1) 4 := by rw [escE, if_neg (by rw [h]; decide), if_pos h]
theorem escE_no {s : ByteArray} {i : Nat} (h : isX (bt s i) = false) (h' : bt s i ≠ 117) : escE s i = none := by rw [escE, if_neg (by rw [h]; decide), if_neg h']
theorem escE_le {s : ByteArray} {i m : Nat} (h : escE s i = some m) : i < m ∧ m ≤ s.size := by
  unfold escE at h
  split at h
  · have hlt : i < s.size := lt_of_bt (by have := isX_iff.1 ‹_›; omega)
    cases h; exact ⟨by omega, hlt⟩
  · split at h
    · have hlt : i < s.size := lt_of_bt (by omega)
      obtain ⟨a, b⟩ := hexE_le h
      exact ⟨by omega, b hlt⟩
    · cases h
/-- Behind a string, from behind its first quotation mark on. -/
def strE (s : ByteArray) (i : Nat) : Option Nat :=
  if i < s.size then
    if bt s i = 34 then some (i + 1)
    else if bt s i < 32 then none
    else if bt s i = 92 then
      match escE s (i + 1) with
      | none => none
      | some j => if i < j then strE s j else none
    else strE s (i + 1)
  else none
termination_by s.size - i
theorem strE_end {s : ByteArray} {i : Nat} (h : s.size ≤ i) : strE s i = none := by rw [strE, if_neg (by omega)]
theorem strE_q {s : ByteArray} {i : Nat} (h : bt s i = 34) : strE s i = some (i + 1) := by
  rw [strE, if_pos (lt_of_bt (by omega)), if_pos h]
theorem strE_ctl {s : ByteArray} {i : Nat} (h : bt s i < 32) : strE s i = none := by
  by_cases hlt : i < s.size
  · rw [strE, if_pos hlt, if_neg (show ¬ bt s i = 34 by omega), if_pos h]
  · rw [strE, if_neg hlt]
theorem strE_esc {s : ByteArray} {i : Nat} (h : bt s i = 92) : strE s i = (escE s (i + 1)).bind (strE s) := by
  rw [strE, if_pos (lt_of_bt (by omega)), if_neg (by omega), if_neg (by omega), if_pos h]
  cases e : escE s (i + 1) with
  | none => rfl
  | some j =>
    have := (escE_le e).1
    simp only [Option.bind_some]
    rw [if_pos (by omega)]
theorem strE_plain {s : ByteArray} {i : Nat} (hlt : i < s.size) (h1 : bt s i ≠ 34) (h2 : ¬ bt s i < 32) (h3 : bt s i ≠ 92) : strE s i = strE s (i + 1) := by
  rw [strE, if_pos hlt, if_neg h1, if_neg h2, if_neg h3]
theorem strE_le {s : ByteArray} {i m : Nat} (h : strE s i = some m) : i < m ∧ m ≤ s.size := by
  induction i using strE.induct s with
  | case1 i h1 h2 => rw [strE_q h2] at h; cases h; exact ⟨by omega, h1⟩
  | case2 i h1 h2 h3 => rw [strE_ctl h3] at h; cases h
  | case3 i h1 h2 h3 h4 h5 => rw [strE_esc h4, h5] at h; cases h
  | case4 i h1 h2 h3 h4 j h5 h6 ih => rw [strE_esc h4, h5] at h; have := ih h; exact ⟨by omega, this.2⟩
  | case5 i h1 h2 h3 h4 j h5 h6 => have := (escE_le h5).1; omega
  | case6 i h1 h2 h3 h4 ih => rw [strE_plain h1 h2 h3 h4] at h; have := ih h; exact ⟨by omega, this.2⟩
  | case7 i h1 => rw [strE_end (by omega)] at h; cases h
/-- Whether a word stands at a place. -/
def wordB (s : ByteArray) (i : Nat) (w : ByteArray) : Bool := decide (i + w.size ≤ s.size) && strEq (s.extract i (i + w.size)) w
def nullW : ByteArray := ByteArray.mk #[110, 117, 108, 108]
def falseW : ByteArray := ByteArray.mk #[102, 97, 108, 115, 101]
def trueW : ByteArray := ByteArray.mk #[116, 114, 117, 101]

/-- A value's place: its kind, where it begins and ends, its names, its members or elements. -/
inductive PT where
  | mk (k b e : Nat) (ns : List (Nat × Nat)) (ks : List PT)
def PT.k : PT → Nat | .mk k _ _ _ _ => k
def PT.b : PT → Nat | .mk _ b _ _ _ => b
def PT.e : PT → Nat | .mk _ _ e _ _ => e
def PT.ns : PT → List (Nat × Nat) | .mk _ _ _ ns _ => ns
def PT.ks : PT → List PT | .mk _ _ _ _ ks => ks
def numOk (c : Int) : Bool := c == 45 || isDig c
mutual
/-- The value that begins at a place. -/
def val (s : ByteArray) (i : Nat) : Option PT :=
  if h : bt s i = 123 then
    if bt s (bl s (i + 1)) = 125 then some (.mk 6 i (bl s (i + 1) + 1) [] [])
    else match mems s (bl s (i + 1)) with
      | none => none
      | some (ns, ks, e) => some (.mk 6 i e ns ks)
  else if h : bt s i = 91 then
    if bt s (bl s (i + 1)) = 93 then some (.mk 5 i (bl s (i + 1) + 1) [] [])
    else match elems s (bl s (i + 1)) with
      | none => none
      | some (ks, e) => some (.mk 5 i e [] ks)
  else if bt s i = 34 then (strE s (i + 1)).map fun e => .mk 4 i e [] []
  else if numOk (bt s i) then (numE s i).map fun e => .mk 3 i e [] []
  else if wordB s i nullW then some (.mk 0 i (i + 4) [] [])
  else if wordB s i falseW then some (.mk 1 i (i + 5) [] [])
  else if wordB s i trueW then some (.mk 2 i (i + 4) [] [])
  else none
termination_by (s.size + 1 - i, 0)
decreasing_by
  · have := bl_ge s (i + 1); have : i < s.size := lt_of_bt (by omega); exact Prod.Lex.left _ _ (by omega)
  · have := bl_ge s (i + 1); have : i < s.size := lt_of_bt (by omega); exact Prod.Lex.left _ _ (by omega)
/-- The elements from one on, and the place behind the bracket. -/
def elems (s : ByteArray) (i : Nat) : Option (List PT × Nat) :=
  match val s i with
  | none => none
  | some p =>
    if bt s (bl s p.e) = 93 then some ([p], bl s p.e + 1)
    else if h : bt s (bl s p.e) = 44 ∧ i < bl s p.e then
      match elems s (bl s (bl s p.e + 1)) with
      | none => none
      | some (ks, e) => some (p :: ks, e)
    else none
termination_by (s.size + 1 - i, 1)
decreasing_by
  · exact Prod.Lex.right _ (by omega)
  · have := bl_ge s (bl s p.e + 1); have : bl s p.e < s.size := lt_of_bt (by omega); exact Prod.Lex.left _ _ (by omega)
/-- The members from one on, and the place behind the brace. -/
def mems (s : ByteArray) (i : Nat) : Option (List (Nat × Nat) × List PT × Nat) :=
  if bt s i = 34 then
    match strE s (i + 1) with
    | none => none
    | some n =>
      if h : bt s (bl s n) = 58 ∧ i < bl s n then
        match val s (bl s (bl s n + 1)) with
        | none => none
        | some p =>
          if bt s (bl s p.e) = 125 then some ([(i, n)], [p], bl s p.e + 1)
          else if h : bt s (bl s p.e) = 44 ∧ i < bl s p.e then
            match mems s (bl s (bl s p.e + 1)) with
            | none => none
            | some (ns, ks, e) => some ((i, n) :: ns, p :: ks, e)
          else none
      else none
  else none
termination_by (s.size + 1 - i, 1)
decreasing_by
  · have := bl_ge s (bl s n + 1); have : bl s n < s.size := lt_of_bt (by omega); exact Prod.Lex.left _ _ (by omega)
  · have := bl_ge s (bl s p.e + 1); have : bl s p.e < s.size := lt_of_bt (by omega); exact Prod.Lex.left _ _ (by omega)
end
theorem wordB_lt {s : ByteArray} {i : Nat} {w : ByteArray} (h : wordB s i w = true) : i + w.size ≤ s.size := by
  simp [wordB] at h; exact h.1
theorem numE_le {s : ByteArray} {i m : Nat} (hi : i ≤ s.size) (h : numE s i = some m) : i < m ∧ m ≤ s.size := by
  have hD : ∀ {i m}, i ≤ s.size → expD s i = some m → i < m ∧ m ≤ s.size := fun {i m} hi h => by
    unfold expD at h; split at h
    · cases h; exact ⟨digs_gt ‹_›, digs_le s _ hi⟩
    · cases h
  have hE : ∀ {i m}, i ≤ s.size → expE s i = some m → i ≤ m ∧ m ≤ s.size := fun {i m} hi h => by
    unfold expE at h; split at h
    · have h1 : i < s.size := lt_of_bt (by omega)
      have : i + 1 ≤ signE s (i + 1) ∧ signE s (i + 1) ≤ s.size := by
        unfold signE; split
        · have : i + 1 < s.size := lt_of_bt (by omega)
          omega
        · omega
      have := hD this.2 h; omega
    · cases h; omega
  have hF : ∀ {i m}, i ≤ s.size → fracE s i = some m → i ≤ m ∧ m ≤ s.size := fun {i m} hi h => by
    unfold fracE at h; split at h
    · have h1 : i < s.size := lt_of_bt (by omega)
      split at h
      · have := digs_ge s (i + 1); have h3 := digs_le s (i + 1) h1
        have := hE h3 h; omega
      · cases h
    · exact hE hi h
  have hI : ∀ {i m}, i ≤ s.size → intE s i = some m → i < m ∧ m ≤ s.size := fun {i m} hi h => by
    unfold intE at h; split at h
    · have h1 : i < s.size := lt_of_bt (by omega)
      have := hF (show i + 1 ≤ s.size from h1) h; omega
    · split at h
      · have := digs_gt (s := s) ‹_›; have h3 := digs_le s i hi
        have := hF h3 h; omega
      · cases h
  unfold numE at h; split at h
  · have h1 : i < s.size := lt_of_bt (by omega)
    have := hI (show i + 1 ≤ s.size from h1) h; omega
  · exact hI hi h
/-- Where values end. -/
theorem ends (s : ByteArray) : ∀ (n i : Nat), s.size + 1 - i ≤ n → i ≤ s.size →
    (∀ p, val s i = some p → p.b = i ∧ i < p.e ∧ p.e ≤ s.size) ∧ (∀ x, elems s i = some x → i < x.2 ∧ x.2 ≤ s.size) ∧ (∀ x, mems s i = some x → i < x.2.2 ∧ x.2.2 ≤ s.size) := by
  intro n
  induction n with
  | zero => intro i h1 h2; omega
  | succ n ih =>
    intro i h1 h2
    have up : ∀ {j : Nat} {c : Int}, bt s (j : Int) = c → c ≠ 0 → i ≤ j → bl s (j + 1) ≤ s.size ∧ j + 1 ≤ bl s (j + 1) ∧ j < s.size := fun {j c} h hc hj => by
      have h3 : j < s.size := lt_of_bt (by omega)
      exact ⟨bl_le s _ h3, bl_ge s _, h3⟩
    have hV : ∀ p, val s i = some p → p.b = i ∧ i < p.e ∧ p.e ≤ s.size := by
      intro p hp
      rw [val] at hp
      split at hp
      · rename_i h
        have u := up h (by decide) (Nat.le_refl _)
        split at hp
        · rename_i h'
          have u2 := up h' (by decide) (by omega)
          cases hp; refine ⟨rfl, ?_, ?_⟩ <;> simp only [PT.e] <;> omega
        · split at hp
          · cases hp
          · rename_i x ns ks e hx
            have := (ih _ (by omega) u.1).2.2 _ hx
            simp only at this
            cases hp; refine ⟨rfl, ?_, ?_⟩ <;> simp only [PT.e] <;> omega
      · split at hp
        · rename_i h
          have u := up h (by decide) (Nat.le_refl _)
          split at hp
          · rename_i h'
            have u2 := up h' (by decide) (by omega)
            cases hp; refine ⟨rfl, ?_, ?_⟩ <;> simp only [PT.e] <;> omega
          · split at hp
            · cases hp
            · rename_i x ks e hx
              have := (ih _ (by omega) u.1).2.1 _ hx
              simp only at this
              cases hp; refine ⟨rfl, ?_, ?_⟩ <;> simp only [PT.e] <;> omega
        · split at hp
          · rename_i h
            cases e : strE s (i + 1) with
            | none => rw [e] at hp; cases hp
            | some m => rw [e] at hp; cases hp; have := strE_le e; exact ⟨rfl, by simp only [PT.e]; omega, this.2⟩
          · split at hp
            · cases e : numE s i with
              | none => rw [e] at hp; cases hp
              | some m => rw [e] at hp; cases hp; exact ⟨rfl, numE_le h2 e⟩
            · split at hp
              · have := wordB_lt (w := nullW) ‹_›; cases hp; exact ⟨rfl, by simp only [PT.e]; omega, this⟩
              · split at hp
                · have := wordB_lt (w := falseW) ‹_›; cases hp; exact ⟨rfl, by simp only [PT.e]; omega, this⟩
                · split at hp
                  · have := wordB_lt (w := trueW) ‹_›; cases hp; exact ⟨rfl, by simp only [PT.e]; omega, this⟩
                  · cases hp
    refine ⟨hV, ?_, ?_⟩
    · intro x hx
      rw [elems] at hx
      split at hx
      · cases hx
      · rename_i p hp
        have v := hV _ hp
        have b := bl_ge s p.e
        split at hx
        · rename_i h
          have u := up h (by decide) (by omega)
          cases hx; simp only; omega
        · split at hx
          · rename_i h
            have u := up h.1 (by decide) (by omega)
            split at hx
            · cases hx
            · rename_i y ks e hy
              have := (ih _ (by omega) u.1).2.1 _ hy
              cases hx; simp only at this ⊢; omega
          · cases hx
    · intro x hx
      rw [mems] at hx
      split at hx
      · rename_i hq
        split at hx
        · cases hx
        · rename_i m hm
          have hs := strE_le hm
          have b := bl_ge s m
          split at hx
          · rename_i h
            have u := up h.1 (by decide) (by omega)
            split at hx
            · cases hx
            · rename_i p hp
              have v := (ih _ (by omega) u.1).1 _ hp
              have b := bl_ge s p.e
              split at hx
              · rename_i h
                have u := up h (by decide) (by omega)
                cases hx; simp only; omega
              · split at hx
                · rename_i h
                  have u := up h.1 (by decide) (by omega)
                  split at hx
                  · cases hx
                  · rename_i y ns ks e hy
                    have := (ih _ (by omega) u.1).2.2 _ hy
                    cases hx; simp only at this ⊢; omega
                · cases hx
          · cases hx
      · cases hx
theorem val_end {s : ByteArray} {i : Nat} {p : PT} (hi : i ≤ s.size) (h : val s i = some p) : p.b = i ∧ i < p.e ∧ p.e ≤ s.size := (ends s _ i (Nat.le_refl _) hi).1 p h
theorem elems_end {s : ByteArray} {i : Nat} {x : List PT × Nat} (hi : i ≤ s.size) (h : elems s i = some x) : i < x.2 ∧ x.2 ≤ s.size := (ends s _ i (Nat.le_refl _) hi).2.1 x h
theorem mems_end {s : ByteArray} {i : Nat} {x : List (Nat × Nat) × List PT × Nat} (hi : i ≤ s.size) (h : mems s i = some x) : i < x.2.2 ∧ x.2.2 ≤ s.size := (ends s _ i (Nat.le_refl _) hi).2.2 x h
end Go.Proofs.YtkpnomdmnhhaoaaGreatDoor.Pl
namespace Go.Proofs.YtkpnomdmnhhaoaaGreatDoor.Pw
open Go Go.Proofs.YtkpnomdmnhhaoaaGreatDoor.Rx Go.Proofs.YtkpnomdmnhhaoaaGreatDoor.Pl

/-- A byte of a number, or of null, false, true. -/
def isL (c : Int) : Bool := (decide (48 ≤ c) && decide (c ≤ 57)) || (decide (97 ≤ c) && decide (c ≤ 122)) || c == 43 || c == 45 || c == 46 || c == 69
theorem isL_iff {c : Int} : isL c = true ↔ (48 ≤ c ∧ c ≤ 57) ∨ (97 ≤ c ∧ c ≤ 122) ∨ c = 43 ∨ c = 45 ∨ c = 46 ∨ c = 69 := by simp [isL, or_assoc]
def allL (s : ByteArray) (b e : Nat) : Prop := ∀ j, b ≤ j → j < e → isL (bt s (j : Int)) = true
/-- A number, or null, false, true. -/
def Lit (s : ByteArray) (k b e : Nat) : Prop :=
  allL s b e ∧ ((k = 3 ∧ numOk (bt s (b : Int)) = true ∧ numE s b = some e) ∨ (k = 0 ∧ wordB s b nullW = true ∧ e = b + 4) ∨ (k = 1 ∧ wordB s b falseW = true ∧ e = b + 5) ∨ (k = 2 ∧ wordB s b trueW = true ∧ e = b + 4))
mutual
def WfV (s : ByteArray) : PT → Prop
  | .mk k b e ns ks => b < e ∧ e ≤ s.size ∧ (
      (ns = [] ∧ ks = [] ∧ Lit s k b e) ∨
      (k = 4 ∧ ns = [] ∧ ks = [] ∧ bt s (b : Int) = 34 ∧ strE s (b + 1) = some e) ∨
      (k = 5 ∧ ns = [] ∧ bt s (b : Int) = 91 ∧ WfE s true (b + 1) ks e) ∨
      (k = 6 ∧ bt s (b : Int) = 123 ∧ WfM s true (b + 1) ns ks e))
/-- The elements behind a bracket (first), or behind an element. -/
def WfE (s : ByteArray) (first : Bool) (j : Nat) : List PT → Nat → Prop
  | [], e => bt s (bl s j : Int) = 93 ∧ e = bl s j + 1
  | p :: ks, e => (if first then p.b = bl s j else bt s (bl s j : Int) = 44 ∧ p.b = bl s (bl s j + 1)) ∧ WfV s p ∧ WfE s false p.e ks e
def WfM (s : ByteArray) (first : Bool) (j : Nat) (ns : List (Nat × Nat)) : List PT → Nat → Prop
  | [], e => ns = [] ∧ bt s (bl s j : Int) = 125 ∧ e = bl s j + 1
  | p :: ks, e => ∃ n ns', ns = n :: ns' ∧ (if first then n.1 = bl s j else bt s (bl s j : Int) = 44 ∧ n.1 = bl s (bl s j + 1)) ∧ bt s (n.1 : Int) = 34 ∧ strE s (n.1 + 1) = some n.2 ∧ bt s (bl s n.2 : Int) = 58 ∧
      p.b = bl s (bl s n.2 + 1) ∧ WfV s p ∧ WfM s false p.e ns' ks e
end
theorem WfV.lt {s : ByteArray} {p : PT} (h : WfV s p) : p.b < p.e ∧ p.e ≤ s.size := by
  cases p; unfold WfV at h; exact ⟨h.1, h.2.1⟩
theorem isL_dig {c : Int} (h : isDig c = true) : isL c = true := isL_iff.2 (.inl (isDig_iff.1 h))
theorem digs_allL (s : ByteArray) (i : Nat) : allL s i (digs s i) := by
  induction i using digs.induct s with
  | case1 i h ih =>
    rw [digs, if_pos h]
    intro k h1 h2
    rcases Nat.lt_or_ge i k with h' | h'
    · exact ih k h' h2
    · have : k = i := by omega
      subst this; exact isL_dig h.2
  | case2 i h => rw [digs, if_neg h]; intro k h1 h2; omega
theorem allL.join {s : ByteArray} {a b c : Nat} (h1 : allL s a b) (h2 : allL s b c) : allL s a c := fun j g1 g2 => by
  rcases Nat.lt_or_ge j b with g | g
  · exact h1 j g1 g
  · exact h2 j g g2
theorem allL.one {s : ByteArray} {a : Nat} (h : isL (bt s (a : Int)) = true) : allL s a (a + 1) := fun j g1 g2 => by
  have : j = a := by omega
  subst this; exact h
theorem allL.nil (s : ByteArray) (a : Nat) : allL s a a := fun j g1 g2 => by omega
theorem numE_allL {s : ByteArray} {i m : Nat} (h : numE s i = some m) : allL s i m := by
  have hD : ∀ {i m}, expD s i = some m → allL s i m := fun {i m} h => by
    unfold expD at h; split at h
    · cases h; exact digs_allL s i
    · cases h
  have hE : ∀ {i m}, expE s i = some m → allL s i m := fun {i m} h => by
    unfold expE at h; split at h
    · rename_i he
      have h1 : allL s i (i + 1) := allL.one (isL_iff.2 (by rcases he with e | e <;> rw [e] <;> decide))
      have h2 : allL s (i + 1) (signE s (i + 1)) := by
        unfold signE; split
        · rename_i hs
          exact allL.one (isL_iff.2 (by rcases hs with e | e <;> rw [e] <;> decide))
        · exact allL.nil _ _
      exact h1.join (h2.join (hD h))
    · cases h; exact allL.nil _ _
  have hF : ∀ {i m}, fracE s i = some m → allL s i m := fun {i m} h => by
    unfold fracE at h; split at h
    · rename_i he
      split at h
      · exact (allL.one (isL_iff.2 (by rw [he]; decide))).join ((digs_allL s (i + 1)).join (hE h))
      · cases h
    · exact hE h
  have hI : ∀ {i m}, intE s i = some m → allL s i m := fun {i m} h => by
    unfold intE at h; split at h
    · rename_i he
      exact (allL.one (isL_iff.2 (by rw [he]; decide))).join (hF h)
    · split at h
      · exact (digs_allL s i).join (hF h)
      · cases h
  unfold numE at h; split at h
  · rename_i he
    exact (allL.one (isL_iff.2 (by rw [he]; decide))).join (hI h)
  · exact hI h
theorem wordB_at {s w : ByteArray} {i : Nat} (h : wordB s i w = true) : ∀ j, j < w.size → bt s ((i + j : Nat) : Int) = bt w (j : Int) := fun j hj => by
  have hz := wordB_lt h
  simp only [wordB, Bool.and_eq_true] at h
  have e := strEq_iff.1 h.2
  have e1 : (s.extract i (i + w.size)).data.toList = (s.data.toList.drop i).take w.size := by
    rw [ByteArray.data_extract, Array.toList_extract, List.extract_eq_take_drop, Nat.add_sub_cancel_left]
  have e2 : bt (s.extract i (i + w.size)) (j : Int) = bt s ((i + j : Nat) : Int) := by
    unfold bt
    rw [Int.toNat_natCast, Int.toNat_natCast, e1]
    simp only [List.getD_eq_getElem?_getD, List.getElem?_take, List.getElem?_drop]
    rw [if_pos hj]
  rw [← e2, e]
theorem word_allL {s w : ByteArray} {i : Nat} (hw : ∀ j, j < w.size → isL (bt w (j : Int)) = true) (h : wordB s i w = true) : allL s i (i + w.size) := fun j g1 g2 => by
  obtain ⟨k, rfl⟩ : ∃ k, j = i + k := ⟨j - i, by omega⟩
  rw [wordB_at h k (by omega)]; exact hw k (by omega)
theorem nullW_L : ∀ j, j < nullW.size → isL (bt nullW (j : Int)) = true := by decide
theorem falseW_L : ∀ j, j < falseW.size → isL (bt falseW (j : Int)) = true := by decide
theorem trueW_L : ∀ j, j < trueW.size → isL (bt trueW (j : Int)) = true := by decide
/-- What is read is well formed. -/
theorem wf (s : ByteArray) : ∀ (n i : Nat), s.size + 1 - i ≤ n → i ≤ s.size →
    (∀ p, val s i = some p → p.b = i ∧ WfV s p) ∧
    (∀ x, elems s i = some x → ∀ j first, (if first then i = bl s j else bt s (bl s j : Int) = 44 ∧ i = bl s (bl s j + 1)) → WfE s first j x.1 x.2) ∧
    (∀ x, mems s i = some x → ∀ j first, (if first then i = bl s j else bt s (bl s j : Int) = 44 ∧ i = bl s (bl s j + 1)) → WfM s first j x.1 x.2.1 x.2.2) := by
  intro n
  induction n with
  | zero => intro i h1 h2; omega
  | succ n ih =>
    intro i h1 h2
    have up : ∀ {j : Nat} {c : Int}, bt s (j : Int) = c → c ≠ 0 → i ≤ j → bl s (j + 1) ≤ s.size ∧ j + 1 ≤ bl s (j + 1) ∧ j < s.size := fun {j c} h hc hj => by
      have h3 : j < s.size := lt_of_bt (by omega)
      exact ⟨bl_le s _ h3, bl_ge s _, h3⟩
    have hV : ∀ p, val s i = some p → p.b = i ∧ WfV s p := by
      intro p hp
      obtain ⟨_, hlt, hle⟩ := val_end h2 hp
      rw [val] at hp
      split at hp
      · rename_i h
        have u := up h (by decide) (Nat.le_refl _)
        split at hp
        · rename_i h'
          cases hp
          refine ⟨rfl, ?_⟩
          unfold WfV
          exact ⟨hlt, hle, .inr (.inr (.inr ⟨rfl, h, by unfold WfM; exact ⟨rfl, h', rfl⟩⟩))⟩
        · split at hp
          · cases hp
          · rename_i x ns ks e hx
            have := (ih _ (by omega) u.1).2.2 _ hx (i + 1) true (by rw [if_pos rfl])
            cases hp
            refine ⟨rfl, ?_⟩
            unfold WfV
            exact ⟨hlt, hle, .inr (.inr (.inr ⟨rfl, h, this⟩))⟩
      · split at hp
        · rename_i h
          have u := up h (by decide) (Nat.le_refl _)
          split at hp
          · rename_i h'
            cases hp
            refine ⟨rfl, ?_⟩
            unfold WfV
            exact ⟨hlt, hle, .inr (.inr (.inl ⟨rfl, rfl, h, by unfold WfE; exact ⟨h', rfl⟩⟩))⟩
          · split at hp
            · cases hp
            · rename_i x ks e hx
              have := (ih _ (by omega) u.1).2.1 _ hx (i + 1) true (by rw [if_pos rfl])
              cases hp
              refine ⟨rfl, ?_⟩
              unfold WfV
              exact ⟨hlt, hle, .inr (.inr (.inl ⟨rfl, rfl, h, this⟩))⟩
        · split at hp
          · rename_i h
            cases e : strE s (i + 1) with
            | none => rw [e] at hp; cases hp
            | some m =>
              rw [e] at hp; cases hp
              refine ⟨rfl, ?_⟩
              unfold WfV
              exact ⟨hlt, hle, .inr (.inl ⟨rfl, rfl, rfl, h, e⟩)⟩
          · split at hp
            · rename_i hn
              cases e : numE s i with
              | none => rw [e] at hp; cases hp
              | some m =>
                rw [e] at hp; cases hp
                refine ⟨rfl, ?_⟩
                unfold WfV
                exact ⟨hlt, hle, .inl ⟨rfl, rfl, numE_allL e, .inl ⟨rfl, hn, e⟩⟩⟩
            · split at hp
              · rename_i hw
                cases hp
                refine ⟨rfl, ?_⟩
                unfold WfV
                exact ⟨hlt, hle, .inl ⟨rfl, rfl, word_allL nullW_L hw, .inr (.inl ⟨rfl, hw, rfl⟩)⟩⟩
              · split at hp
                · rename_i hw
                  cases hp
                  refine ⟨rfl, ?_⟩
                  unfold WfV
                  exact ⟨hlt, hle, .inl ⟨rfl, rfl, word_allL falseW_L hw, .inr (.inr (.inl ⟨rfl, hw, rfl⟩))⟩⟩
                · split at hp
                  · rename_i hw
                    cases hp
                    refine ⟨rfl, ?_⟩
                    unfold WfV
                    exact ⟨hlt, hle, .inl ⟨rfl, rfl, word_allL trueW_L hw, .inr (.inr (.inr ⟨rfl, hw, rfl⟩))⟩⟩
                  · cases hp
    refine ⟨hV, ?_, ?_⟩
    · intro x hx j first hj
      rw [elems] at hx
      split at hx
      · cases hx
      · rename_i p hp
        obtain ⟨pb, pw⟩ := hV _ hp
        have v := val_end h2 hp
        have b := bl_ge s p.e
        split at hx
        · rename_i h
          cases hx
          unfold WfE
          refine ⟨by rw [pb]; exact hj, pw, ?_⟩
          unfold WfE
          exact ⟨h, rfl⟩
        · split at hx
          · rename_i h
            have u := up h.1 (by decide) (by omega)
            split at hx
            · cases hx
            · rename_i y ks e hy
              have := (ih _ (by omega) u.1).2.1 _ hy p.e false (by rw [if_neg (by decide)]; exact ⟨h.1, rfl⟩)
              cases hx
              unfold WfE
              exact ⟨by rw [pb]; exact hj, pw, this⟩
          · cases hx
    · intro x hx j first hj
      rw [mems] at hx
      split at hx
      · rename_i hq
        split at hx
        · cases hx
        · rename_i m hm
          have hs := strE_le hm
          have b := bl_ge s m
          split at hx
          · rename_i h
            have u := up h.1 (by decide) (by omega)
            split at hx
            · cases hx
            · rename_i p hp
              obtain ⟨pb, pw⟩ := (ih _ (by omega) u.1).1 _ hp
              have v := val_end u.1 hp
              have b := bl_ge s p.e
              split at hx
              · rename_i h'
                cases hx
                unfold WfM
                refine ⟨(i, m), [], rfl, hj, hq, hm, h.1, pb, pw, ?_⟩
                unfold WfM
                exact ⟨rfl, h', rfl⟩
              · split at hx
                · rename_i h'
                  have u := up h'.1 (by decide) (by omega)
                  split at hx
                  · cases hx
                  · rename_i y ns ks e hy
                    have := (ih _ (by omega) u.1).2.2 _ hy p.e false (by rw [if_neg (by decide)]; exact ⟨h'.1, rfl⟩)
                    cases hx
                    unfold WfM
                    exact ⟨(i, m), ns, rfl, hj, hq, hm, h.1, pb, pw, this⟩
                · cases hx
          · cases hx
      · cases hx
theorem val_wf {s : ByteArray} {i : Nat} {p : PT} (hi : i ≤ s.size) (h : val s i = some p) : p.b = i ∧ WfV s p := (wf s _ i (Nat.le_refl _) hi).1 p h
/-- Where blanks are skipped there are blanks. -/
theorem bl_blank (s : ByteArray) (i : Nat) : ∀ j, i ≤ j → j < bl s i → isB (bt s (j : Int)) = true := by
  induction i using bl.induct s with
  | case1 i h ih =>
    rw [bl, if_pos h]
    intro j h1 h2
    rcases Nat.lt_or_ge i j with g | g
    · exact ih j g h2
    · have : j = i := by omega
      subst this; exact h.2
  | case2 i h => rw [bl, if_neg h]; intro j h1 h2; omega
theorem bl_not (s : ByteArray) (i : Nat) : isB (bt s (bl s i : Int)) = false := by
  induction i using bl.induct s with
  | case1 i h ih => rw [bl, if_pos h]; exact ih
  | case2 i h =>
    rw [bl, if_neg h]
    rw [Bool.eq_false_iff]
    intro e
    exact h ⟨lt_of_bt (by have := isB_iff.1 e; omega), e⟩
end Go.Proofs.YtkpnomdmnhhaoaaGreatDoor.Pw
namespace Go.Proofs.YtkpnomdmnhhaoaaGreatDoor.Sk
open Go Go.Proofs.YtkpnomdmnhhaoaaGreatDoor.Rx Go.Proofs.YtkpnomdmnhhaoaaGreatDoor.Pl Go.Proofs.YtkpnomdmnhhaoaaGreatDoor.Pw

/-- Whether an odd number of backslashes ends behind k bytes from p on. -/
def bk (s : ByteArray) (p : Nat) : Nat → Bool
  | 0 => false
  | k + 1 => if bt s ((p + k : Nat) : Int) = 92 then !bk s p k else false
theorem bk_on {s : ByteArray} {p k : Nat} (h : bt s ((p + k : Nat) : Int) = 92) : bk s p (k + 1) = !bk s p k := by rw [bk, if_pos h]
theorem bk_no {s : ByteArray} {p k : Nat} (h : bt s ((p + k : Nat) : Int) ≠ 92) : bk s p (k + 1) = false := by rw [bk, if_neg h]
/-- The string's inside begins at p; its closing mark stands k bytes behind. -/
structure QE (s : ByteArray) (p k : Nat) : Prop where
  mark : bt s ((p + k : Nat) : Int) = 34
  even : bk s p k = false
  first : ∀ j, j < k → bt s ((p + j : Nat) : Int) = 34 → bk s p j = true
  /-- No control character inside. -/
  ctl : ∀ j, j < k → 32 ≤ bt s ((p + j : Nat) : Int)
theorem hexE_ok {s : ByteArray} : ∀ {n i m : Nat}, hexE s i n = some m → m = i + n ∧ ∀ j, j < n → isH (bt s ((i + j : Nat) : Int)) = true
  | 0, i, m, h => by cases h; exact ⟨rfl, fun j hj => by omega⟩
  | n + 1, i, m, h => by
    unfold hexE at h
    split at h
    · rename_i h0
      obtain ⟨a, b⟩ := hexE_ok h
      refine ⟨by omega, fun j hj => ?_⟩
      cases j with
      | zero => exact h0
      | succ j => have := b j (by omega); rwa [show i + 1 + j = i + (j + 1) by omega] at this
    · cases h
theorem strE_step {s : ByteArray} {p : Nat} : ∀ {n k q : Nat}, s.size - (p + k) ≤ n → strE s (p + k) = some q → bk s p k = false → (∀ j, j < k → bt s ((p + j : Nat) : Int) = 34 → bk s p j = true) → (∀ j, j < k → 32 ≤ bt s ((p + j : Nat) : Int)) →
    ∃ k', q = p + k' + 1 ∧ k ≤ k' ∧ QE s p k' := by
  intro n
  induction n with
  | zero => intro k q hn h; rw [strE_end (by omega)] at h; cases h
  | succ n ih =>
    intro k q hn h hb hf hc
    have hlt : p + k < s.size := by
      rcases Nat.lt_or_ge (p + k) s.size with g | g
      · exact g
      · rw [strE_end g] at h; cases h
    have go : ∀ (d : Nat), 1 ≤ d → strE s (p + (k + d)) = some q → bk s p (k + d) = false → (∀ j, k ≤ j → j < k + d → bt s ((p + j : Nat) : Int) = 34 → bk s p j = true) → (∀ j, k ≤ j → j < k + d → 32 ≤ bt s ((p + j : Nat) : Int)) → ∃ k', q = p + k' + 1 ∧ k ≤ k' ∧ QE s p k' := by
      intro d hd h1 h2 h3 h4
      obtain ⟨k', a, b, c⟩ := ih (by omega) h1 h2 (fun j hj e => by
        rcases Nat.lt_or_ge j k with g | g
        · exact hf j g e
        · exact h3 j g hj e) (fun j hj => by
        rcases Nat.lt_or_ge j k with g | g
        · exact hc j g
        · exact h4 j g hj)
      exact ⟨k', a, by omega, c⟩
    by_cases h34 : bt s ((p + k : Nat) : Int) = 34
    · rw [strE_q h34] at h
      cases h
      exact ⟨k, rfl, Nat.le_refl _, h34, hb, hf, hc⟩
    by_cases h32 : bt s ((p + k : Nat) : Int) < 32
    · rw [strE_ctl h32] at h; cases h
    by_cases h92 : bt s ((p + k : Nat) : Int) = 92
    · rw [strE_esc h92] at h
      have hb1 : bk s p (k + 1) = true := by rw [bk_on h92, hb]; rfl
      cases he : escE s (p + k + 1) with
      | none => rw [he] at h; cases h
      | some j =>
        rw [he] at h
        have h : strE s j = some q := h
        unfold escE at he
        split at he
        · rename_i hx
          cases he
          have hx' := isX_iff.1 hx
          have e1 : p + k + 1 = p + (k + 1) := by omega
          rw [e1] at hx'
          refine go 2 (by omega) (by rw [show p + (k + 2) = p + k + 1 + 1 by omega]; exact h) ?_ ?_ ?_
          · show bk s p (k + 1 + 1) = false
            by_cases e : bt s ((p + (k + 1) : Nat) : Int) = 92
            · rw [bk_on e, hb1]; rfl
            · exact bk_no e
          · intro j g1 g2 e
            have : j = k ∨ j = k + 1 := by omega
            rcases this with rfl | rfl
            · exact absurd e h34
            · exact hb1
          · intro j g1 g2
            have : j = k ∨ j = k + 1 := by omega
            rcases this with rfl | rfl <;> omega
        · split at he
          · rename_i hu
            obtain ⟨rfl, hh⟩ := hexE_ok he
            have e1 : p + k + 1 = p + (k + 1) := by omega
            rw [e1] at hu
            have hx : ∀ d, d < 4 → ((48 ≤ bt s ((p + (k + 2 + d) : Nat) : Int) ∧ bt s ((p + (k + 2 + d) : Nat) : Int) ≤ 57) ∨ (97 ≤ bt s ((p + (k + 2 + d) : Nat) : Int) ∧ bt s ((p + (k + 2 + d) : Nat) : Int) ≤ 102) ∨ (65 ≤ bt s ((p + (k + 2 + d) : Nat) : Int) ∧ bt s ((p + (k + 2 + d) : Nat) : Int) ≤ 70)) := fun d hd => by
              have := isH_iff.1 (hh d hd)
              rwa [show p + k + 1 + 1 + d = p + (k + 2 + d) by omega] at this
            have dig : ∀ j, k ≤ j → j < k + 6 → j = k ∨ j = k + 1 ∨ ∃ d, d < 4 ∧ j = k + 2 + d := fun j g1 g2 => by
              rcases Nat.lt_or_ge j (k + 2) with g | g
              · omega
              · exact .inr (.inr ⟨j - (k + 2), by omega, by omega⟩)
            refine go 6 (by omega) (by rw [show p + (k + 6) = p + k + 1 + 1 + 4 by omega]; exact h) ?_ ?_ ?_
            · have := hx 3 (by decide)
              exact bk_no (k := k + 5) (by rw [show k + 5 = k + 2 + 3 by omega]; omega)
            · intro j g1 g2 e
              rcases dig j g1 g2 with rfl | rfl | ⟨d, hd, rfl⟩
              · exact absurd e h34
              · exact hb1
              · have := hx d hd; omega
            · intro j g1 g2
              rcases dig j g1 g2 with rfl | rfl | ⟨d, hd, rfl⟩
              · omega
              · omega
              · have := hx d hd; omega
          · cases he
    · rw [strE_plain hlt h34 h32 h92] at h
      refine go 1 (Nat.le_refl _) (by rw [show p + (k + 1) = p + k + 1 by omega]; exact h) (bk_no h92) ?_ ?_
      · intro j g1 g2 e
        have : j = k := by omega
        subst this; exact absurd e h34
      · intro j g1 g2
        have : j = k := by omega
        subst this; omega
/-- A string's end, as a scanner finds it. -/
theorem strE_QE {s : ByteArray} {p q : Nat} (h : strE s p = some q) : ∃ k, q = p + k + 1 ∧ QE s p k := by
  obtain ⟨k, a, _, c⟩ := strE_step (p := p) (k := 0) (Nat.le_refl _) h rfl (fun j hj => by omega) (fun j hj => by omega)
  exact ⟨k, a, c⟩

/-! ## Blocks -/
/-- From a place on, at a level, a scanner that counts brackets of one kind ends at r. -/
inductive Bk (s : ByteArray) (op cl : Int) : Nat → Nat → Nat → Prop
  | skip {i lev r : Nat} : i < s.size → bt s (i : Int) ≠ 34 → bt s (i : Int) ≠ op → bt s (i : Int) ≠ cl → Bk s op cl (i + 1) lev r → Bk s op cl i lev r
  | str {i k lev r : Nat} : bt s (i : Int) = 34 → QE s (i + 1) k → Bk s op cl (i + 1 + k + 1) lev r → Bk s op cl i lev r
  | op {i lev r : Nat} : bt s (i : Int) = op → Bk s op cl (i + 1) (lev + 1) r → Bk s op cl i lev r
  | cl {i lev r : Nat} : bt s (i : Int) = cl → Bk s op cl (i + 1) (lev + 1) r → Bk s op cl i (lev + 2) r
  | fin {i : Nat} : bt s (i : Int) = cl → Bk s op cl i 1 (i + 1)
/-- Brackets or braces. -/
def Kd (op cl : Int) : Prop := (op = 91 ∧ cl = 93) ∨ (op = 123 ∧ cl = 125)
variable {s : ByteArray} {op cl : Int}
theorem Bk.gap {lev r : Nat} (hk : Kd op cl) : ∀ {n a b : Nat}, b - a = n → a ≤ b → (∀ j, a ≤ j → j < b → isB (bt s (j : Int)) = true) → Bk s op cl b lev r → Bk s op cl a lev r
  | 0, a, b, hn, hab, _, h => by
    have : a = b := by omega
    subst this; exact h
  | n + 1, a, b, hn, hab, hb, h => by
    have h0 := isB_iff.1 (hb a (Nat.le_refl a) (by omega))
    have hlt : a < s.size := lt_of_bt (by omega)
    unfold Kd at hk
    exact .skip hlt (by omega) (by omega) (by omega) (Bk.gap hk (n := n) (by omega) (by omega) (fun j g1 g2 => hb j (by omega) g2) h)
theorem Bk.lits {lev r : Nat} (hk : Kd op cl) : ∀ {n a b : Nat}, b - a = n → a ≤ b → allL s a b → Bk s op cl b lev r → Bk s op cl a lev r
  | 0, a, b, hn, hab, _, h => by
    have : a = b := by omega
    subst this; exact h
  | n + 1, a, b, hn, hab, hb, h => by
    have h0 := isL_iff.1 (hb a (Nat.le_refl a) (by omega))
    have hlt : a < s.size := lt_of_bt (by omega)
    unfold Kd at hk
    exact .skip hlt (by omega) (by omega) (by omega) (Bk.lits hk (n := n) (by omega) (by omega) (fun j g1 g2 => hb j (by omega) g2) h)
/-- A byte that is neither quotation mark nor bracket of the kind. -/
theorem Bk.one {i lev r : Nat} {c : Int} (hk : Kd op cl) (h : bt s (i : Int) = c) (h0 : c ≠ 0) (h34 : c ≠ 34) (hc : c ≠ 91 ∧ c ≠ 93 ∧ c ≠ 123 ∧ c ≠ 125) (hr : Bk s op cl (i + 1) lev r) : Bk s op cl i lev r := by
  unfold Kd at hk
  exact .skip (lt_of_bt (by omega)) (by omega) (by omega) (by omega) hr
theorem Bk.strE {i e lev r : Nat} (h : bt s (i : Int) = 34) (hs : strE s (i + 1) = some e) (hr : Bk s op cl e lev r) : Bk s op cl i lev r := by
  obtain ⟨k, rfl, hq⟩ := strE_QE hs
  exact .str h hq hr
mutual
theorem bk_val (hk : Kd op cl) : ∀ (p : PT) (lev r : Nat), WfV s p → Bk s op cl p.e (lev + 1) r → Bk s op cl p.b (lev + 1) r
  | .mk k b e ns ks, lev, r, h, hr => by
    unfold WfV at h
    obtain ⟨hlt, hle, ⟨rfl, rfl, hL, h⟩ | ⟨rfl, rfl, rfl, h1, h2⟩ | ⟨rfl, rfl, h1, h2⟩ | ⟨rfl, h1, h2⟩⟩ := h
    · exact Bk.lits hk rfl (Nat.le_of_lt hlt) hL hr
    · exact Bk.strE h1 h2 hr
    · show Bk s op cl b (lev + 1) r
      have hr : Bk s op cl e (lev + 1) r := hr
      rcases id hk with ⟨ho, hc⟩ | ⟨ho, hc⟩
      · exact .op (h1.trans ho.symm) (bk_E hk true ks (b + 1) e (lev + 1) r h2 fun g => .cl (g.trans hc.symm) (by
          have : e - 1 + 1 = e := by omega
          rw [this]; exact hr))
      · exact .skip (lt_of_bt (by omega)) (by omega) (by omega) (by omega) (bk_E hk true ks (b + 1) e lev r h2 fun g => .skip (lt_of_bt (by omega)) (by omega) (by omega) (by omega) (by
          have : e - 1 + 1 = e := by omega
          rw [this]; exact hr))
    · show Bk s op cl b (lev + 1) r
      have hr : Bk s op cl e (lev + 1) r := hr
      rcases id hk with ⟨ho, hc⟩ | ⟨ho, hc⟩
      · exact .skip (lt_of_bt (by omega)) (by omega) (by omega) (by omega) (bk_M hk true ks (b + 1) e ns lev r h2 fun g => .skip (lt_of_bt (by omega)) (by omega) (by omega) (by omega) (by
          have : e - 1 + 1 = e := by omega
          rw [this]; exact hr))
      · exact .op (h1.trans ho.symm) (bk_M hk true ks (b + 1) e ns (lev + 1) r h2 fun g => .cl (g.trans hc.symm) (by
          have : e - 1 + 1 = e := by omega
          rw [this]; exact hr))
theorem bk_E (hk : Kd op cl) : ∀ (first : Bool) (ks : List PT) (j e lev r : Nat), WfE s first j ks e → (bt s ((e - 1 : Nat) : Int) = 93 → Bk s op cl (e - 1) (lev + 1) r) → Bk s op cl j (lev + 1) r
  | first, [], j, e, lev, r, h, hr => by
    unfold WfE at h
    obtain ⟨h1, rfl⟩ := h
    exact Bk.gap hk rfl (bl_ge s j) (bl_blank s j) (hr h1)
  | first, p :: ks, j, e, lev, r, h, hr => by
    unfold WfE at h
    obtain ⟨h1, h2, h3⟩ := h
    have rr := bk_val hk p lev r h2 (bk_E hk false ks p.e e lev r h3 hr)
    cases first with
    | true =>
      simp only [if_true] at h1
      rw [h1] at rr
      exact Bk.gap hk rfl (bl_ge s j) (bl_blank s j) rr
    | false =>
      simp only [Bool.false_eq_true, if_false] at h1
      rw [h1.2] at rr
      exact Bk.gap hk rfl (bl_ge s j) (bl_blank s j) (Bk.one hk h1.1 (by decide) (by decide) (by decide) (Bk.gap hk rfl (bl_ge s _) (bl_blank s _) rr))
theorem bk_M (hk : Kd op cl) : ∀ (first : Bool) (ks : List PT) (j e : Nat) (ns : List (Nat × Nat)) (lev r : Nat), WfM s first j ns ks e → (bt s ((e - 1 : Nat) : Int) = 125 → Bk s op cl (e - 1) (lev + 1) r) → Bk s op cl j (lev + 1) r
  | first, [], j, e, ns, lev, r, h, hr => by
    unfold WfM at h
    obtain ⟨_, h1, rfl⟩ := h
    exact Bk.gap hk rfl (bl_ge s j) (bl_blank s j) (hr h1)
  | first, p :: ks, j, e, ns, lev, r, h, hr => by
    unfold WfM at h
    obtain ⟨n, ns', rfl, h1, hq, hs, hc, hb, h2, h3⟩ := h
    have rr := bk_val hk p lev r h2 (bk_M hk false ks p.e e ns' lev r h3 hr)
    rw [hb] at rr
    have r3 : Bk s op cl n.1 (lev + 1) r := Bk.strE hq hs (Bk.gap hk rfl (bl_ge s _) (bl_blank s _) (Bk.one hk hc (by decide) (by decide) (by decide) (Bk.gap hk rfl (bl_ge s _) (bl_blank s _) rr)))
    cases first with
    | true =>
      simp only [if_true] at h1
      rw [h1] at r3
      exact Bk.gap hk rfl (bl_ge s j) (bl_blank s j) r3
    | false =>
      simp only [Bool.false_eq_true, if_false] at h1
      rw [h1.2] at r3
      exact Bk.gap hk rfl (bl_ge s j) (bl_blank s j) (Bk.one hk h1.1 (by decide) (by decide) (by decide) (Bk.gap hk rfl (bl_ge s _) (bl_blank s _) r3))
end
/-- An array or an object, from its bracket on. -/
theorem bk_arr {b e : Nat} {ns : List (Nat × Nat)} {ks : List PT} (h : WfV s (.mk 5 b e ns ks)) : Bk s 91 93 b 0 e := by
  unfold WfV at h
  obtain ⟨hlt, hle, ⟨_, _, _, h⟩ | ⟨h, _⟩ | ⟨_, _, h1, h2⟩ | ⟨h, _⟩⟩ := h
  · rcases h with ⟨h, _⟩ | ⟨h, _⟩ | ⟨h, _⟩ | ⟨h, _⟩ <;> cases h
  · cases h
  · refine .op h1 (bk_E (.inl ⟨rfl, rfl⟩) true ks (b + 1) e 0 e h2 fun g => ?_)
    have := Bk.fin (op := 91) g
    rwa [show e - 1 + 1 = e by omega] at this
  · cases h
theorem bk_obj {b e : Nat} {ns : List (Nat × Nat)} {ks : List PT} (h : WfV s (.mk 6 b e ns ks)) : Bk s 123 125 b 0 e := by
  unfold WfV at h
  obtain ⟨hlt, hle, ⟨_, _, _, h⟩ | ⟨h, _⟩ | ⟨h, _⟩ | ⟨_, h1, h2⟩⟩ := h
  · rcases h with ⟨h, _⟩ | ⟨h, _⟩ | ⟨h, _⟩ | ⟨h, _⟩ <;> cases h
  · cases h
  · cases h
  · refine .op h1 (bk_M (.inr ⟨rfl, rfl⟩) true ks (b + 1) e ns 0 e h2 fun g => ?_)
    have := Bk.fin (op := 123) g
    rwa [show e - 1 + 1 = e by omega] at this
end Go.Proofs.YtkpnomdmnhhaoaaGreatDoor.Sk
namespace Go.Proofs.YtkpnomdmnhhaoaaGreatDoor.Gk
open Go Go.Proofs.YtkpnomdmnhhaoaaGreatDoor.Rx Go.Proofs.YtkpnomdmnhhaoaaGreatDoor.Pl Go.Proofs.YtkpnomdmnhhaoaaGreatDoor.Pw Go.Proofs.YtkpnomdmnhhaoaaGreatDoor.Sk

/-- Keys lead from a value to a value; 'nm': a name's characters, 'ix': a key's index. -/
inductive Lead (nm : Nat × Nat → ByteArray) (ix : ByteArray → Option Nat) : PT → List ByteArray → PT → Prop
  | nil {p : PT} : Lead nm ix p [] p
  | mem {b e : Nat} {ns : List (Nat × Nat)} {ks : List PT} {j : Nat} {n : Nat × Nat} {p q : PT} {key : ByteArray} {rest : List ByteArray} :
      ns[j]? = some n → ks[j]? = some p → nm n = key → (∀ (j' : Nat) (n' : Nat × Nat), j' < j → ns[j']? = some n' → nm n' ≠ key) → Lead nm ix p rest q → Lead nm ix (.mk 6 b e ns ks) (key :: rest) q
  | elt {b e : Nat} {ns : List (Nat × Nat)} {ks : List PT} {j : Nat} {p q : PT} {key : ByteArray} {rest : List ByteArray} :
      ix key = some j → ks[j]? = some p → Lead nm ix p rest q → Lead nm ix (.mk 5 b e ns ks) (key :: rest) q
/-- The scanner's steps: the text's end, the keys; place, level, level of keys, whether the last name matched; the answer. -/
inductive Go (s : ByteArray) (nm : Nat × Nat → ByteArray) (ix : ByteArray → Option Nat) : Nat → List ByteArray → Nat → Nat → Nat → Bool → Option Nat → Prop
  | skip {e : Nat} {keys : List ByteArray} {i lv kl : Nat} {last : Bool} {r : Option Nat} : i < e → bt s (i : Int) ≠ 34 → bt s (i : Int) ≠ 91 → bt s (i : Int) ≠ 123 → bt s (i : Int) ≠ 125 → bt s (i : Int) ≠ 58 → Go s nm ix e keys (i + 1) lv kl last r → Go s nm ix e keys i lv kl last r
  | strv {e : Nat} {keys : List ByteArray} {i lv kl : Nat} {last : Bool} {r : Option Nat} {k : Nat} : bt s (i : Int) = 34 → QE s (i + 1) k → bl s (i + 1 + k + 1) < e → bt s (bl s (i + 1 + k + 1) : Int) ≠ 58 → Go s nm ix e keys (bl s (i + 1 + k + 1)) lv kl last r → Go s nm ix e keys i lv kl last r
  | keyN {e : Nat} {keys : List ByteArray} {i lv kl : Nat} {last : Bool} {r : Option Nat} {k : Nat} {key : ByteArray} : bt s (i : Int) = 34 → QE s (i + 1) k → strE s (i + 1) = some (i + 1 + k + 1) → bl s (i + 1 + k + 1) < e → bt s (bl s (i + 1 + k + 1) : Int) = 58 → keys[lv]? = some key → nm (i, i + 1 + k + 1) ≠ key →
      Go s nm ix e keys (bl s (i + 1 + k + 1) + 1) (lv + 1) kl false r → Go s nm ix e keys i (lv + 1) kl last r
  | keyM {e : Nat} {keys : List ByteArray} {i lv : Nat} {last : Bool} {r : Option Nat} {k : Nat} {key : ByteArray} : bt s (i : Int) = 34 → QE s (i + 1) k → strE s (i + 1) = some (i + 1 + k + 1) → bl s (i + 1 + k + 1) < e → bt s (bl s (i + 1 + k + 1) : Int) = 58 → keys[lv]? = some key → nm (i, i + 1 + k + 1) = key →
      lv + 1 < keys.length → Go s nm ix e keys (bl s (i + 1 + k + 1) + 1) (lv + 1) (lv + 1) true r → Go s nm ix e keys i (lv + 1) lv last r
  | keyL {e : Nat} {keys : List ByteArray} {i lv : Nat} {last : Bool} {k : Nat} {key : ByteArray} : bt s (i : Int) = 34 → QE s (i + 1) k → strE s (i + 1) = some (i + 1 + k + 1) → bl s (i + 1 + k + 1) < e → bt s (bl s (i + 1 + k + 1) : Int) = 58 → keys[lv]? = some key → nm (i, i + 1 + k + 1) = key →
      lv + 1 = keys.length → Go s nm ix e keys i (lv + 1) lv last (some (bl s (i + 1 + k + 1) + 1))
  | opn {e : Nat} {keys : List ByteArray} {i lv kl : Nat} {r : Option Nat} : i < e → bt s (i : Int) = 123 → Go s nm ix e keys (i + 1) (lv + 1) kl true r → Go s nm ix e keys i lv kl true r
  | blk {e : Nat} {keys : List ByteArray} {i lv kl : Nat} {r : Option Nat} {i' : Nat} : bt s (i : Int) = 123 → Bk s 123 125 i 0 i' → i < i' → i' ≤ e → Go s nm ix e keys i' lv kl false r → Go s nm ix e keys i lv kl false r
  | arr {e : Nat} {keys : List ByteArray} {i lv kl : Nat} {last : Bool} {r : Option Nat} {i' : Nat} : bt s (i : Int) = 91 → kl ≠ lv → Bk s 91 93 i 0 i' → i < i' → i' ≤ e → Go s nm ix e keys i' lv kl last r → Go s nm ix e keys i lv kl last r
  | idx0 {e : Nat} {keys : List ByteArray} {i lv : Nat} {last : Bool} {e' j : Nat} {ns : List (Nat × Nat)} {ks : List PT} {p : PT} {key : ByteArray} : keys[lv]? = some key → ix key = some j → WfV s (.mk 5 i e' ns ks) → e' ≤ e → ks[j]? = some p → lv + 1 = keys.length → Go s nm ix e keys i lv lv last (some p.b)
  | idxS {e : Nat} {keys : List ByteArray} {i lv : Nat} {last : Bool} {r : Option Nat} {e' j : Nat} {ns : List (Nat × Nat)} {ks : List PT} {p : PT} {key : ByteArray} : keys[lv]? = some key → ix key = some j → WfV s (.mk 5 i e' ns ks) → e' ≤ e → ks[j]? = some p → lv + 1 < keys.length →
      Go s nm ix p.e (keys.drop (lv + 1)) p.b 0 0 true r → Go s nm ix e keys i lv lv last r
  | cls {e : Nat} {keys : List ByteArray} {i lv : Nat} {last : Bool} {r : Option Nat} : i < e → bt s (i : Int) = 125 → Go s nm ix e keys (i + 1) (lv + 1) lv last r → Go s nm ix e keys i (lv + 2) (lv + 1) last r
  | clsE {e : Nat} {keys : List ByteArray} {i : Nat} {last : Bool} : i < e → bt s (i : Int) = 125 → (∀ j, i < j → j < e → isB (bt s (j : Int)) = true) → Go s nm ix e keys i 1 0 last none
variable {s : ByteArray} {nm : Nat × Nat → ByteArray} {ix : ByteArray → Option Nat} {e : Nat} {keys : List ByteArray} {lv kl : Nat} {r : Option Nat} {last : Bool}
theorem Go.gap : ∀ {n a b : Nat}, b - a = n → a ≤ b → b ≤ e → (∀ j, a ≤ j → j < b → isB (bt s (j : Int)) = true) → Go s nm ix e keys b lv kl last r → Go s nm ix e keys a lv kl last r
  | 0, a, b, hn, hab, _, _, h => by
    have : a = b := by omega
    subst this; exact h
  | n + 1, a, b, hn, hab, he, hb, h => by
    have h0 := isB_iff.1 (hb a (Nat.le_refl a) (by omega))
    exact .skip (by omega) (by omega) (by omega) (by omega) (by omega) (by omega) (Go.gap (n := n) (by omega) (by omega) he (fun j g1 g2 => hb j (by omega) g2) h)
theorem Go.lits : ∀ {n a b : Nat}, b - a = n → a ≤ b → b ≤ e → allL s a b → Go s nm ix e keys b lv kl last r → Go s nm ix e keys a lv kl last r
  | 0, a, b, hn, hab, _, _, h => by
    have : a = b := by omega
    subst this; exact h
  | n + 1, a, b, hn, hab, he, hb, h => by
    have h0 := isL_iff.1 (hb a (Nat.le_refl a) (by omega))
    exact .skip (by omega) (by omega) (by omega) (by omega) (by omega) (by omega) (Go.lits (n := n) (by omega) (by omega) he (fun j g1 g2 => hb j (by omega) g2) h)
theorem wfE_le {s : ByteArray} : ∀ (ks : List PT) (first : Bool) (j e : Nat), WfE s first j ks e → j < e
  | [], first, j, e, h => by unfold WfE at h; have := bl_ge s j; omega
  | p :: ks, first, j, e, h => by
    unfold WfE at h
    have := wfE_le ks false p.e e h.2.2
    have h1 := h.2.1.lt
    have g := bl_ge s j
    have g2 := bl_ge s (bl s j + 1)
    have : j ≤ p.b := by
      have h0 := h.1
      split at h0 <;> omega
    omega
theorem wfM_le {s : ByteArray} : ∀ (ks : List PT) (ns : List (Nat × Nat)) (first : Bool) (j e : Nat), WfM s first j ns ks e → j < e
  | [], ns, first, j, e, h => by unfold WfM at h; have := bl_ge s j; omega
  | p :: ks, ns, first, j, e, h => by
    unfold WfM at h
    obtain ⟨n, ns', _, h0, _, hs, _, hb, hv, hM⟩ := h
    have a0 := wfM_le ks ns' false p.e e hM
    have a1 := hv.lt
    have a2 := strE_le hs
    have a3 := bl_ge s n.2
    have a4 := bl_ge s (bl s n.2 + 1)
    have g := bl_ge s j
    have g2 := bl_ge s (bl s j + 1)
    have : j ≤ n.1 := by split at h0 <;> omega
    omega
/-- A value that is passed over. -/
theorem Go.val {p : PT} (hk : kl ≠ lv) (h : WfV s p) (hb : bl s p.e < e) (hc : bt s (bl s p.e : Int) ≠ 58) (hr : Go s nm ix e keys (bl s p.e) lv kl false r) : Go s nm ix e keys p.b lv kl false r := by
  have g := bl_ge s p.e
  have tail := Go.gap rfl g (Nat.le_of_lt hb) (bl_blank s p.e) hr
  obtain ⟨k, b, e', ns, ks⟩ := p
  have hlt := h.lt
  have hlt1 : b < e' := hlt.1
  have g : e' ≤ bl s e' := g
  have hb : bl s e' < e := hb
  have hw := h
  unfold WfV at h
  obtain ⟨_, _, ⟨rfl, rfl, hL, h⟩ | ⟨rfl, rfl, rfl, h1, h2⟩ | ⟨rfl, rfl, h1, h2⟩ | ⟨rfl, h1, h2⟩⟩ := h
  · exact Go.lits rfl (Nat.le_of_lt hlt1) (by omega) hL tail
  · obtain ⟨k, hk', hq⟩ := strE_QE h2
    have hk' : e' = b + 1 + k + 1 := hk'
    subst hk'
    exact .strv h1 hq hb hc hr
  · exact .arr h1 hk (bk_arr hw) hlt1 (by omega) tail
  · exact .blk h1 (bk_obj hw) hlt1 (by omega) tail
/-- An object's members are passed over up to one of them. -/
theorem Go.mems {key : ByteArray} (hk : kl ≠ lv + 1) (hkey : keys[lv]? = some key) : ∀ (ks : List PT) (ns : List (Nat × Nat)) (first : Bool) (j e' t : Nat) (n : Nat × Nat) (p : PT) (last : Bool), WfM s first j ns ks e' → e' ≤ e → ns[t]? = some n → ks[t]? = some p →
    (∀ (t' : Nat) (n' : Nat × Nat), t' < t → ns[t']? = some n' → nm n' ≠ key) → (∀ last', Go s nm ix e keys n.1 (lv + 1) kl last' r) → Go s nm ix e keys (bl s j) (lv + 1) kl last r
  | [], ns, first, j, e', t, n, p, last, h, he, h1, h2, h3, h4 => by simp at h2
  | p0 :: ks, ns, first, j, e', t, n, p, last, h, he, h1, h2, h3, h4 => by
    unfold WfM at h
    obtain ⟨n0, ns', rfl, g1, hq, hs, hc, hb, hv, hM⟩ := h
    have hvl := hv.lt
    have hlen := wfM_le _ _ _ _ _ hM
    have b1 := bl_ge s j
    have b2 := bl_ge s (bl s j + 1)
    have b3 := bl_ge s n0.2
    have b4 := bl_ge s (bl s n0.2 + 1)
    have b5 := bl_ge s p0.e
    have hsl := strE_le hs
    have main : ∀ last', Go s nm ix e keys n0.1 (lv + 1) kl last' r := by
      intro last'
      cases t with
      | zero =>
        simp only [List.getElem?_cons_zero, Option.some.injEq] at h1
        subst h1
        exact h4 last'
      | succ t =>
        simp only [List.getElem?_cons_succ] at h1 h2
        obtain ⟨k, hk', hQ⟩ := strE_QE hs
        have hne := h3 0 n0 (by omega) rfl
        have e1 : n0 = (n0.1, n0.1 + 1 + k + 1) := by
          obtain ⟨a, b⟩ := n0
          have hk' : b = a + 1 + k + 1 := hk'
          subst hk'; rfl
        rw [hk'] at b3 b4 hb hc
        refine .keyN hq hQ (by rw [← hk']; exact hs) (by omega) hc hkey (by rw [e1] at hne; exact hne) ?_
        refine Go.gap rfl b4 (by omega) (bl_blank s _) ?_
        rw [← hb]
        have cm : bt s (bl s p0.e : Int) = 44 := by
          cases ks with
          | nil => simp at h2
          | cons q ks => unfold WfM at hM; obtain ⟨n', ns'', _, g, _⟩ := hM; exact g.1
        have hlt : bl s p0.e < e' := by
          cases ks with
          | nil => simp at h2
          | cons q ks =>
            have hM' := hM
            unfold WfM at hM; obtain ⟨n', ns'', _, g, _, hs', _, _, _, hM2⟩ := hM
            have a1 := wfM_le _ _ _ _ _ hM2
            have a2 := strE_le hs'
            have a3 := bl_ge s (bl s p0.e + 1)
            have a4 := bl_ge s n'.2
            have a5 := bl_ge s (bl s n'.2 + 1)
            have g2 : n'.1 = bl s (bl s p0.e + 1) := g.2
            have : n'.1 < e' := by
              rename_i hv2 hpb
              have := hpb.lt
              omega
            omega
        refine Go.val hk hv (by omega) (by omega) ?_
        exact Go.mems hk hkey ks ns' false p0.e e' t n p false hM he h1 h2 (fun t' n' ht hn => h3 (t' + 1) n' (by omega) hn) h4
    cases first with
    | true =>
      simp only [if_true] at g1
      rw [← g1]; exact main last
    | false =>
      simp only [Bool.false_eq_true, if_false] at g1
      obtain ⟨g1, g2⟩ := g1
      have hn1 : n0.1 < e := by omega
      refine .skip (by omega) (by omega) (by omega) (by omega) (by omega) (by omega) (Go.gap rfl b2 (by omega) (bl_blank s _) ?_)
      rw [← g2]; exact main last
theorem bl_self {i : Nat} (h : isB (bt s (i : Int)) = false) : bl s i = i := by
  rcases Nat.lt_or_ge i (bl s i) with g | g
  · rw [bl_blank s i i (Nat.le_refl i) g] at h; cases h
  · have := bl_ge s i; omega
theorem bl_bl (i : Nat) : bl s (bl s i) = bl s i := bl_self (bl_not s i)
/-- A member's place. -/
theorem mem_at : ∀ (ks : List PT) (ns : List (Nat × Nat)) (first : Bool) (j e' t : Nat) (n : Nat × Nat) (p : PT), WfM s first j ns ks e' → ns[t]? = some n → ks[t]? = some p →
    bt s (n.1 : Int) = 34 ∧ strE s (n.1 + 1) = some n.2 ∧ bt s (bl s n.2 : Int) = 58 ∧ p.b = bl s (bl s n.2 + 1) ∧ WfV s p ∧ p.e < e' ∧ j ≤ p.b
  | [], ns, first, j, e', t, n, p, h, h1, h2 => by simp at h2
  | p0 :: ks, ns, first, j, e', t, n, p, h, h1, h2 => by
    unfold WfM at h
    obtain ⟨n0, ns', rfl, h0, hq, hs, hc, hb, hv, hM⟩ := h
    have a0 := wfM_le ks ns' false p0.e e' hM
    have a1 := hv.lt
    have a2 := strE_le hs
    have a3 := bl_ge s n0.2
    have a4 := bl_ge s (bl s n0.2 + 1)
    have g := bl_ge s j
    have g2 := bl_ge s (bl s j + 1)
    have hj : j ≤ n0.1 := by split at h0 <;> omega
    cases t with
    | zero =>
      simp only [List.getElem?_cons_zero, Option.some.injEq] at h1 h2
      subst h1; subst h2
      exact ⟨hq, hs, hc, hb, hv, a0, by omega⟩
    | succ t =>
      simp only [List.getElem?_cons_succ] at h1 h2
      obtain ⟨b1, b2, b3, b4, b5, b6, b7⟩ := mem_at ks ns' false p0.e e' t n p hM h1 h2
      exact ⟨b1, b2, b3, b4, b5, b6, by omega⟩
/-- An element's place. -/
theorem elt_at : ∀ (ks : List PT) (first : Bool) (j e' t : Nat) (p : PT), WfE s first j ks e' → ks[t]? = some p → WfV s p ∧ p.e < e' ∧ j ≤ p.b ∧ bl s p.b = p.b
  | [], first, j, e', t, p, h, h2 => by simp at h2
  | p0 :: ks, first, j, e', t, p, h, h2 => by
    unfold WfE at h
    obtain ⟨h0, hv, hE⟩ := h
    have a0 := wfE_le ks false p0.e e' hE
    have a1 := hv.lt
    have g := bl_ge s j
    have g2 := bl_ge s (bl s j + 1)
    have hj : j ≤ p0.b ∧ bl s p0.b = p0.b := by
      split at h0
      · rw [h0]; exact ⟨g, bl_bl j⟩
      · rw [h0.2]; exact ⟨by omega, bl_bl _⟩
    cases t with
    | zero =>
      simp only [List.getElem?_cons_zero, Option.some.injEq] at h2
      subst h2
      exact ⟨hv, a0, hj.1, hj.2⟩
    | succ t =>
      simp only [List.getElem?_cons_succ] at h2
      obtain ⟨b1, b2, b3, b4⟩ := elt_at ks false p0.e e' t p hE h2
      exact ⟨b1, b2, by omega, b4⟩
theorem wf_obj {b e' : Nat} {ns : List (Nat × Nat)} {ks : List PT} (h : WfV s (.mk 6 b e' ns ks)) : b < e' ∧ e' ≤ s.size ∧ bt s (b : Int) = 123 ∧ WfM s true (b + 1) ns ks e' := by
  unfold WfV at h
  obtain ⟨h1, h2, ⟨_, _, _, h⟩ | ⟨h, _⟩ | ⟨h, _⟩ | ⟨_, h3, h4⟩⟩ := h
  · rcases h with ⟨h, _⟩ | ⟨h, _⟩ | ⟨h, _⟩ | ⟨h, _⟩ <;> cases h
  · cases h
  · cases h
  · exact ⟨h1, h2, h3, h4⟩
theorem wf_arr {b e' : Nat} {ns : List (Nat × Nat)} {ks : List PT} (h : WfV s (.mk 5 b e' ns ks)) : b < e' ∧ e' ≤ s.size ∧ bt s (b : Int) = 91 ∧ WfE s true (b + 1) ks e' := by
  unfold WfV at h
  obtain ⟨h1, h2, ⟨_, _, _, h⟩ | ⟨h, _⟩ | ⟨_, _, h3, h4⟩ | ⟨h, _⟩⟩ := h
  · rcases h with ⟨h, _⟩ | ⟨h, _⟩ | ⟨h, _⟩ | ⟨h, _⟩ <;> cases h
  · cases h
  · exact ⟨h1, h2, h3, h4⟩
  · cases h
/-- Where keys lead to a value the scanner finds it. -/
theorem go_lead {p q : PT} {keys0 : List ByteArray} (h : Lead nm ix p keys0 q) : keys0 ≠ [] → WfV s p → ∀ (e : Nat) (keys : List ByteArray) (L : Nat), p.e ≤ e → keys.drop L = keys0 → ∃ r, Go s nm ix e keys p.b L L true (some r) ∧ bl s r = q.b := by
  induction h with
  | nil => intro h; exact absurd rfl h
  | @mem b e' ns ks t n p' q key rest h1 h2 h3 h4 h5 ih =>
    intro _ hw e keys L he hd
    have he : e' ≤ e := he
    obtain ⟨w1, w2, w3, w4⟩ := wf_obj hw
    obtain ⟨m1, m2, m3, m4, m5, m6, m7⟩ := mem_at ks ns true (b + 1) e' t n p' w4 h1 h2
    have hkey : keys[L]? = some key := by
      have := congrArg (·[0]?) hd
      simpa using this
    have hlen : (keys.drop L).length = rest.length + 1 := by rw [hd]; rfl
    rw [List.length_drop] at hlen
    have hd1 : keys.drop (L + 1) = rest := by
      have := congrArg (List.drop 1) hd
      simpa [List.drop_drop] using this
    obtain ⟨k, hk', hQ⟩ := strE_QE m2
    obtain ⟨n1, n2⟩ := n
    have hk' : n2 = n1 + 1 + k + 1 := hk'
    subst hk'
    have b3 := bl_ge s (n1 + 1 + k + 1)
    have b4 := bl_ge s (bl s (n1 + 1 + k + 1) + 1)
    have hpl := m5.lt
    have m4 : p'.b = bl s (bl s (n1 + 1 + k + 1) + 1) := m4
    have fin : ∃ r, (∀ last, Go s nm ix e keys n1 (L + 1) L last (some r)) ∧ bl s r = q.b := by
      cases rest with
      | nil =>
        cases h5
        have hL : L + 1 = keys.length := by simp only [List.length_nil] at hlen; omega
        exact ⟨bl s (n1 + 1 + k + 1) + 1, fun last => .keyL m1 hQ m2 (by omega) m3 hkey h3 hL, m4.symm⟩
      | cons key' rest' =>
        obtain ⟨r, g1, g2⟩ := ih (by simp) m5 e keys (L + 1) (by omega) hd1
        have hL : L + 1 < keys.length := by simp only [List.length_cons] at hlen; omega
        refine ⟨r, fun last => .keyM m1 hQ m2 (by omega) m3 hkey h3 hL ?_, g2⟩
        rw [m4] at g1
        exact Go.gap rfl b4 (by omega) (bl_blank s _) g1
    obtain ⟨r, g1, g2⟩ := fin
    refine ⟨r, .opn (by show b < e; omega) w3 ?_, g2⟩
    have hms := Go.mems (s := s) (nm := nm) (ix := ix) (e := e) (r := some r) (show L ≠ L + 1 by omega) hkey ks ns true (b + 1) e' t (n1, n1 + 1 + k + 1) p' true w4 he h1 h2 h4 g1
    have bb := bl_ge s (b + 1)
    have : bl s (b + 1) ≤ e' := by
      cases ks with
      | nil => simp at h2
      | cons p0 ks =>
        have hM := w4
        unfold WfM at hM
        obtain ⟨n0, ns', _, h0, _, hs, _, hb, hv, hM⟩ := hM
        have a0 := wfM_le ks ns' false p0.e e' hM
        have a1 := hv.lt
        have a2 := strE_le hs
        have a3 := bl_ge s n0.2
        have a4 := bl_ge s (bl s n0.2 + 1)
        simp only [if_true] at h0
        omega
    exact Go.gap rfl bb (by omega) (bl_blank s _) hms
  | @elt b e' ns ks t p' q key rest h1 h2 h5 ih =>
    intro _ hw e keys L he hd
    have he : e' ≤ e := he
    obtain ⟨w1, w2, w3, w4⟩ := wf_arr hw
    obtain ⟨m1, m2, m3, m4⟩ := elt_at ks true (b + 1) e' t p' w4 h2
    have hkey : keys[L]? = some key := by
      have := congrArg (·[0]?) hd
      simpa using this
    have hlen : (keys.drop L).length = rest.length + 1 := by rw [hd]; rfl
    rw [List.length_drop] at hlen
    have hd1 : keys.drop (L + 1) = rest := by
      have := congrArg (List.drop 1) hd
      simpa [List.drop_drop] using this
    cases rest with
    | nil =>
      cases h5
      have hL : L + 1 = keys.length := by simp only [List.length_nil] at hlen; omega
      exact ⟨p'.b, .idx0 hkey h1 hw he h2 hL, m4⟩
    | cons key' rest' =>
      obtain ⟨r, g1, g2⟩ := ih (by simp) m1 p'.e (keys.drop (L + 1)) 0 (Nat.le_refl _) hd1
      have hL : L + 1 < keys.length := by simp only [List.length_cons] at hlen; omega
      exact ⟨r, .idxS hkey h1 hw he h2 hL g1, g2⟩
end Go.Proofs.YtkpnomdmnhhaoaaGreatDoor.Gk
namespace Go.Proofs.YtkpnomdmnhhaoaaGreatDoor.Sw

/-- A word of eight bytes, the first one lowest. -/
def le8 (b : Nat → Nat) : Nat := b 0 + 256 * (b 1 + 256 * (b 2 + 256 * (b 3 + 256 * (b 4 + 256 * (b 5 + 256 * (b 6 + 256 * b 7))))))
theorem le8_lt {b : Nat → Nat} (h : ∀ j, b j < 256) : le8 b < 18446744073709551616 := by
  have h0 := h 0; have h1 := h 1; have h2 := h 2; have h3 := h 3; have h4 := h 4; have h5 := h 5; have h6 := h 6; have h7 := h 7
  unfold le8; omega
theorem xor_join {a c m n : Nat} (ha : a < 256) (hc : c < 256) : (a + 256 * m) ^^^ (c + 256 * n) = (a ^^^ c) + 256 * (m ^^^ n) := by
  have h1 : ((a + 256 * m) ^^^ (c + 256 * n)) / 2 ^ 8 = m ^^^ n := by
    rw [Nat.xor_div_two_pow]
    have : (a + 256 * m) / 2 ^ 8 = m := by omega
    have : (c + 256 * n) / 2 ^ 8 = n := by omega
    congr 1 <;> assumption
  have h2 : ((a + 256 * m) ^^^ (c + 256 * n)) % 2 ^ 8 = a ^^^ c := by
    rw [Nat.xor_mod_two_pow]
    have : (a + 256 * m) % 2 ^ 8 = a := by omega
    have : (c + 256 * n) % 2 ^ 8 = c := by omega
    congr 1 <;> assumption
  omega
theorem xor_lt {a c : Nat} (ha : a < 256) (hc : c < 256) : a ^^^ c < 256 := Nat.xor_lt_two_pow (n := 8) ha hc
theorem le8_xor {b : Nat → Nat} {q : Nat} (h : ∀ j, b j < 256) (hq : q < 256) : le8 b ^^^ le8 (fun _ => q) = le8 (fun j => b j ^^^ q) := by
  unfold le8
  rw [xor_join (h 0) hq, xor_join (h 1) hq, xor_join (h 2) hq, xor_join (h 3) hq, xor_join (h 4) hq, xor_join (h 5) hq, xor_join (h 6) hq]
/-- The lowest byte that is zero. -/
theorem lowest {b : Nat → Nat} : ∀ {n : Nat}, (∃ j, j < n ∧ b j = 0) → ∃ k, k < n ∧ b k = 0 ∧ ∀ j, j < k → b j ≠ 0
  | 0, ⟨j, h, _⟩ => by omega
  | n + 1, ⟨j, h, e⟩ => by
    by_cases c : ∃ i, i < n ∧ b i = 0
    · obtain ⟨k, h1, h2, h3⟩ := lowest c
      exact ⟨k, by omega, h2, h3⟩
    · have hj : j = n := by
        rcases Nat.lt_or_ge j n with g | g
        · exact absurd ⟨j, g, e⟩ c
        · omega
      subst hj
      exact ⟨j, by omega, e, fun i hi hz => c ⟨i, hi, hz⟩⟩
theorem bit_k {b : Nat → Nat} {k : Nat} (hb : ∀ j, b j < 256) (hk : k < 8) (hz : b k = 0) (hl : ∀ j, j < k → b j ≠ 0) :
    (le8 b + 18374403900871474943) % 18446744073709551616 / 2 ^ (8 * k + 7) % 2 = 1 ∧ le8 b / 2 ^ (8 * k + 7) % 2 = 0 ∧ 9259542123273814144 / 2 ^ (8 * k + 7) % 2 = 1 := by
  have h0 := hb 0; have h1 := hb 1; have h2 := hb 2; have h3 := hb 3; have h4 := hb 4; have h5 := hb 5; have h6 := hb 6; have h7 := hb 7
  unfold le8
  match k, hk with
  | 0, _ => omega
  | 1, _ => have g0 := hl 0 (by decide); omega
  | 2, _ => have g0 := hl 0 (by decide); have g1 := hl 1 (by decide); omega
  | 3, _ => have g0 := hl 0 (by decide); have g1 := hl 1 (by decide); have g2 := hl 2 (by decide); omega
  | 4, _ => have g0 := hl 0 (by decide); have g1 := hl 1 (by decide); have g2 := hl 2 (by decide); have g3 := hl 3 (by decide); omega
  | 5, _ => have g0 := hl 0 (by decide); have g1 := hl 1 (by decide); have g2 := hl 2 (by decide); have g3 := hl 3 (by decide); have g4 := hl 4 (by decide); omega
  | 6, _ => have g0 := hl 0 (by decide); have g1 := hl 1 (by decide); have g2 := hl 2 (by decide); have g3 := hl 3 (by decide); have g4 := hl 4 (by decide); have g5 := hl 5 (by decide); omega
  | 7, _ => have g0 := hl 0 (by decide); have g1 := hl 1 (by decide); have g2 := hl 2 (by decide); have g3 := hl 3 (by decide); have g4 := hl 4 (by decide); have g5 := hl 5 (by decide); have g6 := hl 6 (by decide); omega
theorem no_zero {b : Nat → Nat} (hb : ∀ j, b j < 256) (h : ((le8 b + 18374403900871474943) % 18446744073709551616 &&& (18446744073709551615 - le8 b)) &&& 9259542123273814144 = 0) : ∀ j, j < 8 → b j ≠ 0 := by
  intro j hj hz
  obtain ⟨k, hk, hk0, hl⟩ := lowest ⟨j, hj, hz⟩
  obtain ⟨h1, h2, h3⟩ := bit_k hb hk hk0 hl
  have hlt := le8_lt hb
  have hN : (18446744073709551615 - le8 b).testBit (8 * k + 7) = true := by
    have := Nat.testBit_two_pow_sub_succ (n := 64) (x := le8 b) hlt (8 * k + 7)
    rw [show 2 ^ 64 - (le8 b + 1) = 18446744073709551615 - le8 b by omega] at this
    rw [this, Nat.testBit_eq_decide_div_mod_eq, h2]
    simp; omega
  have := congrArg (fun n => Nat.testBit n (8 * k + 7)) h
  simp only [Nat.testBit_and, Nat.zero_testBit, hN, Bool.and_true] at this
  rw [Nat.testBit_eq_decide_div_mod_eq, Nat.testBit_eq_decide_div_mod_eq, h1, h3] at this
  simp at this
/-! ## Words as the code has them -/
theorem ofI {n : Nat} : BitVec.ofInt 64 (n : Int) = BitVec.ofNat 64 n := BitVec.ofInt_natCast 64 n
theorem wr {n : Nat} (h : n < 18446744073709551616) : Go.IntKind.wrap .u64 (n : Int) = (n : Int) := by
  exact Pl.wrapU_in (by omega) (by omega)
theorem or64 {a b : Nat} (ha : a < 18446744073709551616) (hb : b < 18446744073709551616) : Go.IntKind.wrap .u64 ((BitVec.toNat ((BitVec.ofInt 64 (a : Int)) ||| (BitVec.ofInt 64 (b : Int))) : Nat) : Int) = ((a ||| b : Nat) : Int) := by
  have h1 : (BitVec.toNat ((BitVec.ofInt 64 (a : Int)) ||| (BitVec.ofInt 64 (b : Int)))) = a ||| b := by
    rw [ofI, ofI, BitVec.toNat_or, BitVec.toNat_ofNat, BitVec.toNat_ofNat, Nat.mod_eq_of_lt ha, Nat.mod_eq_of_lt hb]
  rw [h1]
  exact wr (Nat.or_lt_two_pow (n := 64) ha hb)
theorem and64 {a b : Nat} (ha : a < 18446744073709551616) (hb : b < 18446744073709551616) : Go.IntKind.wrap .u64 ((BitVec.toNat ((BitVec.ofInt 64 (a : Int)) &&& (BitVec.ofInt 64 (b : Int))) : Nat) : Int) = ((a &&& b : Nat) : Int) := by
  have h1 : (BitVec.toNat ((BitVec.ofInt 64 (a : Int)) &&& (BitVec.ofInt 64 (b : Int)))) = a &&& b := by
    rw [ofI, ofI, BitVec.toNat_and, BitVec.toNat_ofNat, BitVec.toNat_ofNat, Nat.mod_eq_of_lt ha, Nat.mod_eq_of_lt hb]
  rw [h1]
  exact wr (Nat.and_lt_two_pow (n := 64) a hb)
theorem xor64 {a b : Nat} (ha : a < 18446744073709551616) (hb : b < 18446744073709551616) : Go.IntKind.wrap .u64 ((BitVec.toNat ((BitVec.ofInt 64 (a : Int)) ^^^ (BitVec.ofInt 64 (b : Int))) : Nat) : Int) = ((a ^^^ b : Nat) : Int) := by
  have h1 : (BitVec.toNat ((BitVec.ofInt 64 (a : Int)) ^^^ (BitVec.ofInt 64 (b : Int)))) = a ^^^ b := by
    rw [ofI, ofI, BitVec.toNat_xor, BitVec.toNat_ofNat, BitVec.toNat_ofNat, Nat.mod_eq_of_lt ha, Nat.mod_eq_of_lt hb]
  rw [h1]
  exact wr (Nat.xor_lt_two_pow (n := 64) ha hb)
/-- A byte put ahead of lower ones. -/
theorem or_hi {m a c : Nat} (h : a < 2 ^ m) : a ||| (c * 2 ^ m) = a + c * 2 ^ m := by
  rw [Nat.or_comm, Nat.mul_comm, ← Nat.two_pow_add_eq_or_of_lt h, Nat.add_comm]
/-- The test of eight bytes. -/
theorem hits {b : Nat → Nat} (hb : ∀ j, b j < 256) (q : Nat) (hq : q < 256) {X A N : Nat} (hX : X = le8 (fun j => b j ^^^ q)) (hA : A = (X + 18374403900871474943) % 18446744073709551616) (hN : N = 18446744073709551615 - X) (h : (A &&& N) &&& 9259542123273814144 = 0) : ∀ j, j < 8 → b j ≠ q := by
  rw [hA, hN, hX] at h
  intro j hj he
  refine no_zero (b := fun j => b j ^^^ q) (fun j => xor_lt (hb j) hq) h j hj ?_
  show b j ^^^ q = 0
  rw [he, Nat.xor_self]
end Go.Proofs.YtkpnomdmnhhaoaaGreatDoor.Sw
