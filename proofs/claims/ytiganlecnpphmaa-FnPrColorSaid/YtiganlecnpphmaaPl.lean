/- Numbers of RFC 8259, section 6, as functions of a text and a place. No statement of the set is proved here. -/
import Derived.Test.YtiganlecnpphmaaRk
namespace Go.Proofs.Ytiganlecnpphmaa.Pl
open Go Go.Proofs.Ytiganlecnpphmaa.Rx

theorem wrap_in {n : Int} (h0 : -9223372036854775808 ≤ n) (h1 : n ≤ 9223372036854775807) : IntKind.wrap .i64 n = n := IntWalk.i64_in _ (by omega)
theorem bt_end {s : ByteArray} {i : Nat} (h : s.size ≤ i) : bt s i = 0 := by
  unfold bt
  rw [Int.toNat_natCast, List.getD_eq_getElem?_getD, List.getElem?_eq_none (by simpa using h)]
  rfl
theorem bt_range (s : ByteArray) (i : Int) : 0 ≤ bt s i ∧ bt s i ≤ 255 := by
  unfold bt
  have := UInt8.toNat_lt (s.data.toList.getD i.toNat 0)
  omega
theorem lt_of_bt {s : ByteArray} {i : Nat} (h : bt s i ≠ 0) : i < s.size := by
  rcases Nat.lt_or_ge i s.size with g | g
  · exact g
  · exact absurd (bt_end g) h
def isDig (c : Int) : Bool := decide (48 ≤ c) && decide (c ≤ 57)
theorem isDig_iff {c : Int} : isDig c = true ↔ 48 ≤ c ∧ c ≤ 57 := by simp [isDig]
theorem isDig_yes {c : Int} (h : 48 ≤ c ∧ c ≤ 57) : isDig c = true := isDig_iff.2 h
theorem isDig_no {c : Int} (h : ¬ (48 ≤ c ∧ c ≤ 57)) : isDig c = false := by
  rw [Bool.eq_false_iff]; exact fun e => h (isDig_iff.1 e)
theorem dig_lo {c : Int} (h : c < 48) : isDig c = false := isDig_no (by omega)
theorem dig_hi {c : Int} (h : 48 ≤ c) : decide (57 < c) = !isDig c := by
  rw [Bool.eq_iff_iff]; simp [isDig]; omega
def isE (c : Int) : Bool := decide (c = 101 ∨ c = 69)
def isS (c : Int) : Bool := decide (c = 43 ∨ c = 45)
theorem isE_iff {c : Int} : isE c = true ↔ c = 101 ∨ c = 69 := by simp [isE]
theorem isS_iff {c : Int} : isS c = true ↔ c = 43 ∨ c = 45 := by simp [isS]
theorem isE_not {c : Int} (h : isE c = false) : ¬ (c = 101 ∨ c = 69) := by simpa [isE] using h
theorem isS_not {c : Int} (h : isS c = false) : ¬ (c = 43 ∨ c = 45) := by simpa [isS] using h
theorem isE_ask {c : Int} : (c = 101 → (true, ()) = (isE c, ())) ∧ (¬ c = 101 → (c == 69, ()) = (isE c, ())) :=
  ⟨fun h => by rw [isE_iff.2 (.inl h)], fun h => by rw [show isE c = (c == 69) from by rw [Bool.eq_iff_iff]; simp [isE, h]]⟩
theorem isS_ask {c : Int} : (c = 43 → (true, ()) = (isS c, ())) ∧ (¬ c = 43 → (c == 45, ()) = (isS c, ())) :=
  ⟨fun h => by rw [isS_iff.2 (.inl h)], fun h => by rw [show isS c = (c == 45) from by rw [Bool.eq_iff_iff]; simp [isS, h]]⟩
def digs (s : ByteArray) (i : Nat) : Nat := if i < s.size ∧ isDig (bt s i) then digs s (i + 1) else i
termination_by s.size - i
theorem digs_yes {s : ByteArray} {i : Nat} (h : isDig (bt s i) = true) : digs s i = digs s (i + 1) := by
  have h' : i < s.size := lt_of_bt (by have := isDig_iff.1 h; omega)
  rw [digs, if_pos ⟨h', h⟩]
theorem digs_no {s : ByteArray} {i : Nat} (h : isDig (bt s i) = false) : digs s i = i := by
  rw [digs, if_neg (by simp [h])]
theorem digs_end {s : ByteArray} {i : Nat} (h : s.size ≤ i) : digs s i = i := digs_no (by rw [bt_end h]; rfl)
theorem digs_ge (s : ByteArray) (i : Nat) : i ≤ digs s i := by
  induction i using digs.induct s with
  | case1 i h ih => rw [digs, if_pos h]; omega
  | case2 i h => rw [digs, if_neg h]; exact Nat.le_refl _
theorem digs_gt {s : ByteArray} {i : Nat} (h : isDig (bt s i) = true) : i < digs s i := by
  rw [digs_yes h]; have := digs_ge s (i + 1); omega
theorem digs_le (s : ByteArray) (i : Nat) (hi : i ≤ s.size) : digs s i ≤ s.size := by
  induction i using digs.induct s with
  | case1 i h ih => rw [digs, if_pos h]; exact ih (by omega)
  | case2 i h => rw [digs, if_neg h]; exact hi
def signE (s : ByteArray) (i : Nat) : Nat := if bt s i = 43 ∨ bt s i = 45 then i + 1 else i
def expD (s : ByteArray) (i : Nat) : Option Nat := if isDig (bt s i) then some (digs s i) else none
def expE (s : ByteArray) (i : Nat) : Option Nat := if bt s i = 101 ∨ bt s i = 69 then expD s (signE s (i + 1)) else some i
def fracE (s : ByteArray) (i : Nat) : Option Nat := if bt s i = 46 then (if isDig (bt s (i + 1 : Nat)) then expE s (digs s (i + 1)) else none) else expE s i
def intE (s : ByteArray) (i : Nat) : Option Nat := if bt s i = 48 then fracE s (i + 1) else if isDig (bt s i) then fracE s (digs s i) else none
/-- Where the number that begins at a place ends; none if there is none. -/
def numE (s : ByteArray) (i : Nat) : Option Nat := if bt s i = 45 then intE s (i + 1) else intE s i
theorem expD_yes {s : ByteArray} {i : Nat} (h : isDig (bt s i) = true) : expD s i = some (digs s i) := by rw [expD, if_pos h]
theorem expD_no {s : ByteArray} {i : Nat} (h : isDig (bt s i) = false) : expD s i = none := by rw [expD, h]; rfl
theorem expE_no {s : ByteArray} {i : Nat} (h : ¬ (bt s i = 101 ∨ bt s i = 69)) : expE s i = some i := by rw [expE, if_neg h]
theorem expE_s {s : ByteArray} {i : Nat} (h : bt s i = 101 ∨ bt s i = 69) (h' : bt s (i + 1 : Nat) = 43 ∨ bt s (i + 1 : Nat) = 45) : expE s i = expD s (i + 1 + 1) := by
  rw [expE, if_pos h, signE, if_pos h']
theorem expE_b {s : ByteArray} {i : Nat} (h : bt s i = 101 ∨ bt s i = 69) (h' : ¬ (bt s (i + 1 : Nat) = 43 ∨ bt s (i + 1 : Nat) = 45)) : expE s i = expD s (i + 1) := by
  rw [expE, if_pos h, signE, if_neg h']
theorem expE_end {s : ByteArray} {i : Nat} (h : s.size ≤ i) : expE s i = some i := expE_no (by rw [bt_end h]; decide)
theorem fracE_no {s : ByteArray} {i : Nat} (h : bt s i ≠ 46) : fracE s i = expE s i := by rw [fracE, if_neg h]
theorem fracE_yes {s : ByteArray} {i : Nat} (h : bt s i = 46) (h' : isDig (bt s (i + 1 : Nat)) = true) : fracE s i = expE s (digs s (i + 1)) := by rw [fracE, if_pos h, if_pos h']
theorem fracE_bad {s : ByteArray} {i : Nat} (h : bt s i = 46) (h' : isDig (bt s (i + 1 : Nat)) = false) : fracE s i = none := by rw [fracE, if_pos h, h']; rfl
theorem fracE_end {s : ByteArray} {i : Nat} (h : s.size ≤ i) : fracE s i = some i := by rw [fracE_no (by rw [bt_end h]; decide), expE_end h]
theorem intE_zero {s : ByteArray} {i : Nat} (h : bt s i = 48) : intE s i = fracE s (i + 1) := by rw [intE, if_pos h]
theorem intE_dig {s : ByteArray} {i : Nat} (h : bt s i ≠ 48) (h' : isDig (bt s i) = true) : intE s i = fracE s (digs s i) := by rw [intE, if_neg h, if_pos h']
theorem intE_bad {s : ByteArray} {i : Nat} (h' : isDig (bt s i) = false) : intE s i = none := by
  rw [intE, if_neg (fun e => by rw [e] at h'; exact absurd h' (by decide)), h']; rfl
theorem intE_end {s : ByteArray} {i : Nat} (h : s.size ≤ i) : intE s i = none := intE_bad (by rw [bt_end h]; rfl)
theorem numE_minus {s : ByteArray} {i : Nat} (h : bt s i = 45) : numE s i = intE s (i + 1) := by rw [numE, if_pos h]
theorem numE_plain {s : ByteArray} {i : Nat} (h : bt s i ≠ 45) : numE s i = intE s i := by rw [numE, if_neg h]
end Go.Proofs.Ytiganlecnpphmaa.Pl
