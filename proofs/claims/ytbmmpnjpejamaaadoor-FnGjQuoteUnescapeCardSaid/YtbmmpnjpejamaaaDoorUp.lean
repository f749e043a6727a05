/- The inside of a JSON string: its characters, as a function of a text and a place. Plain; no statement of the set is proved here. -/
import Derived.Test.YtbmmpnjpejamaaaDoorUt
import Derived.Test.YtbmmpnjpejamaaaDoorBw
import Derived.Test.YtbmmpnjpejamaaaDoorRk
namespace Go.Proofs.YtbmmpnjpejamaaaDoor.Uq
open Go Go.Proofs Go.RowKit Go.Proofs.YtbmmpnjpejamaaaDoor.Rx Go.Proofs.YtbmmpnjpejamaaaDoor.Pl Go.Proofs.YtbmmpnjpejamaaaDoor.Ut Go.Proofs.YtbmmpnjpejamaaaDoor.Bw

theorem gb_bn (s : ByteArray) (k : Nat) : (gb s k).toNat = bn s k := rfl
/-- A hexadecimal digit's value. -/
def hv (n : Nat) : Option Nat := if 48 ≤ n ∧ n ≤ 57 then some (n - 48) else if 97 ≤ n ∧ n ≤ 102 then some (n - 87) else if 65 ≤ n ∧ n ≤ 70 then some (n - 55) else none
theorem hv_lt {n d : Nat} (h : hv n = some d) : d < 16 := by
  unfold hv at h
  repeat' split at h
  all_goals first | (cases h; omega) | (cases h; done)
/-- The value of j hexadecimal digits. -/
def hx (s : ByteArray) (i : Nat) : Nat → Option Nat
  | 0 => some 0
  | j + 1 => match hx s i j, hv (bn s (i + j)) with
    | some a, some d => some (a * 16 + d)
    | _, _ => none
theorem hx_lt {s : ByteArray} {i : Nat} : ∀ {j a : Nat}, hx s i j = some a → a < 16 ^ j
  | 0, a, h => by cases h; decide
  | j + 1, a, h => by
    unfold hx at h
    split at h
    · rename_i a' d h1 h2
      cases h
      have := hx_lt h1
      have := hv_lt h2
      rw [Nat.pow_succ]; omega
    · cases h
theorem hx_some {s : ByteArray} {i j a d : Nat} (h : hx s i j = some a) (h' : hv (bn s (i + j)) = some d) : hx s i (j + 1) = some (a * 16 + d) := by unfold hx; rw [h, h']
theorem hx_bad {s : ByteArray} {i j : Nat} (h' : hv (bn s (i + j)) = none) : ∀ {m}, j < m → hx s i m = none
  | 0, h => by omega
  | m + 1, h => by
    unfold hx
    rcases Nat.lt_or_ge j m with g | g
    · rw [hx_bad h' g]
    · have : j = m := by omega
      subst this
      rw [h']
      cases hx s i j <;> rfl
/-- The number of the escape \uXXXX that stands at a place. -/
def uN (s : ByteArray) (i : Nat) : Option Nat := if i + 6 ≤ s.size ∧ bn s i = 92 ∧ bn s (i + 1) = 117 then hx s (i + 2) 4 else none
theorem uN_lt {s : ByteArray} {i n : Nat} (h : uN s i = some n) : n < 65536 ∧ i + 6 ≤ s.size := by
  unfold uN at h
  split at h
  · exact ⟨hx_lt h, (by assumption : i + 6 ≤ s.size ∧ _).1⟩
  · cases h
/-- The character that a backslash and a letter stand for. -/
def sh (b : UInt8) : UInt8 := if b = 98 then 8 else if b = 102 then 12 else if b = 110 then 10 else if b = 114 then 13 else if b = 116 then 9 else b
/-- A character's bytes. -/
def enc (n : Nat) : List UInt8 :=
  if n < 128 then [UInt8.ofNat n]
  else if n < 2048 then [UInt8.ofNat (192 + n / 64), UInt8.ofNat (128 + n % 64)]
  else if 55296 ≤ n ∧ n ≤ 57343 then [239, 191, 189]
  else if n < 65536 then [UInt8.ofNat (224 + n / 4096), UInt8.ofNat (128 + n / 64 % 64), UInt8.ofNat (128 + n % 64)]
  else [UInt8.ofNat (240 + n / 262144), UInt8.ofNat (128 + n / 4096 % 64), UInt8.ofNat (128 + n / 64 % 64), UInt8.ofNat (128 + n % 64)]
theorem enc_len (n : Nat) : 1 ≤ (enc n).length ∧ (enc n).length ≤ 4 := by
  unfold enc
  repeat' split
  all_goals simp
theorem bv_of {n : Nat} {x : Int} (h : x = (n : Int)) (hn : n < 256) : Value.int .u8 x = bv (UInt8.ofNat n) := by
  subst h
  unfold bv
  rw [UInt8.toNat_ofNat_of_lt' (by simpa using hn)]
/-- Two escapes that are a surrogate pair. -/
def pairU (s : ByteArray) (i n : Nat) : Option Nat := match uN s (i + 6) with
  | some m => if (55296 ≤ n ∧ n ≤ 56319) ∧ (56320 ≤ m ∧ m ≤ 57343) then some (65536 + n % 1024 * 1024 + m % 1024) else none
  | none => none
/-- The characters from a place on; none if a backslash stands at the end. -/
def uo (s : ByteArray) (i : Nat) : Option (List UInt8) :=
  if i < s.size then
    if bn s i ≠ 92 then (uo s (i + 1)).map (gb s i :: ·)
    else match uN s i with
      | none => if i + 1 < s.size then (uo s (i + 2)).map (sh (gb s (i + 1)) :: ·) else none
      | some n => match pairU s i n with
        | some c => (uo s (i + 12)).map (enc c ++ ·)
        | none => (uo s (i + 6)).map (enc n ++ ·)
  else some []
termination_by s.size - i
theorem uo_end {s : ByteArray} {i : Nat} (h : s.size ≤ i) : uo s i = some [] := by rw [uo, if_neg (by omega)]
theorem uo_plain {s : ByteArray} {i : Nat} (h : i < s.size) (hb : bn s i ≠ 92) : uo s i = (uo s (i + 1)).map (gb s i :: ·) := by rw [uo, if_pos h, if_pos hb]
theorem lt_of_bn {s : ByteArray} {i : Nat} (h : bn s i ≠ 0) : i < s.size := by
  rcases Nat.lt_or_ge i s.size with g | g
  · exact g
  · exact absurd (bn_end g) h
theorem uo_short {s : ByteArray} {i : Nat} (hb : bn s i = 92) (hu : uN s i = none) (h : i + 1 < s.size) : uo s i = (uo s (i + 2)).map (sh (gb s (i + 1)) :: ·) := by
  rw [uo, if_pos (by omega), if_neg (by simp [hb]), hu]
  simp only
  rw [if_pos h]
theorem uo_none {s : ByteArray} {i : Nat} (hb : bn s i = 92) (hu : uN s i = none) (h : ¬ i + 1 < s.size) : uo s i = none := by
  have hi : i < s.size := lt_of_bn (by omega)
  rw [uo, if_pos hi, if_neg (by simp [hb]), hu]
  simp only
  rw [if_neg h]
theorem uN_bs {s : ByteArray} {i n : Nat} (h : uN s i = some n) : bn s i = 92 := by
  unfold uN at h
  split at h
  · exact (by assumption : i + 6 ≤ s.size ∧ bn s i = 92 ∧ _).2.1
  · cases h
theorem uo_one {s : ByteArray} {i n : Nat} (hu : uN s i = some n) (hp : pairU s i n = none) : uo s i = (uo s (i + 6)).map (enc n ++ ·) := by
  have := uN_lt hu
  rw [uo, if_pos (by omega), if_neg (by simp [uN_bs hu]), hu]
  simp only
  rw [hp]
theorem uo_pair {s : ByteArray} {i n c : Nat} (hu : uN s i = some n) (hp : pairU s i n = some c) : uo s i = (uo s (i + 12)).map (enc c ++ ·) := by
  have := uN_lt hu
  rw [uo, if_pos (by omega), if_neg (by simp [uN_bs hu]), hu]
  simp only
  rw [hp]
theorem pairU_le {s : ByteArray} {i n c : Nat} (h : pairU s i n = some c) : c ≤ 1114111 ∧ i + 12 ≤ s.size := by
  unfold pairU at h
  split at h
  · rename_i m hm
    have := uN_lt hm
    split at h
    · have h := Option.some.inj h; omega
    · cases h
  · cases h
theorem kp_then {S' : Nat → Prop} {w0 w w' : World} (h : Kp Off w0 w) (k : Kp S' w w') (hs : ∀ i, i < w0.heap.size → ¬ S' i) : Kp Off w0 w' :=
  ⟨k.os.trans h.os, k.tape.trans h.tape, k.output.trans h.output, Nat.le_trans h.size k.size, fun i hi _ => (k.block i (Nat.lt_of_lt_of_le hi h.size) (hs i hi)).trans (h.block i hi id)⟩
/-- The inside of a quoted text. -/
def inn (q : ByteArray) : ByteArray := q.extract 1 (q.size - 1)
theorem inn_size (q : ByteArray) : (inn q).size = q.size - 2 := by unfold inn; rw [ByteArray.size_extract]; omega
theorem map_some {l : Option (List UInt8)} {r : List UInt8} {f : List UInt8 → List UInt8} (h : l.map f = some r) : ∃ t, l = some t ∧ f t = r := by
  cases l with
  | none => cases h
  | some t => exact ⟨t, rfl, by simpa using h⟩
end Go.Proofs.YtbmmpnjpejamaaaDoor.Uq
