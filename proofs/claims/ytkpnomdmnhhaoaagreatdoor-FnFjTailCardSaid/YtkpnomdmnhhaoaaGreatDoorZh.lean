/- strconv.ParseUint at base 16, 16 bits, of four hexadecimal digits (XHp's text, for 16 bits); halves of surrogates. No statement of the set is proved here. -/
import Derived.Test.YtkpnomdmnhhaoaaGreatDoorTi
import Derived.Test.YtkpnomdmnhhaoaaGreatDoorME
namespace Go.Proofs.YtkpnomdmnhhaoaaGreatDoor.Hp
open Go Go.Proofs Go.RowKit Go.Proofs.YtkpnomdmnhhaoaaGreatDoor.Rx Go.Proofs.YtkpnomdmnhhaoaaGreatDoor.Tr Go.Proofs.YtkpnomdmnhhaoaaGreatDoor.Pl

/-- A hexadecimal digit's value. -/
def hv (n : Nat) : Option Nat := if 48 ≤ n ∧ n ≤ 57 then some (n - 48) else if 97 ≤ n ∧ n ≤ 102 then some (n - 87) else if 65 ≤ n ∧ n ≤ 70 then some (n - 55) else none
theorem hv_lt {n d : Nat} (h : hv n = some d) : d < 16 := by
  unfold hv at h
  repeat' split at h
  all_goals first | (cases h; omega) | (cases h; done)
theorem or32_all : ((List.range 256).all fun n => (n ||| 32) == (if n / 32 % 2 = 1 then n else n + 32)) = true := by kernel_rfl
theorem or32 (n : Nat) (h : n < 256) : n ||| 32 = if n / 32 % 2 = 1 then n else n + 32 := by
  have := List.all_eq_true.1 or32_all n (List.mem_range.2 h)
  simpa using this
theorem lower_any {n : Nat} {w : World} (hn : n < 256) : Calls Tryz.prog 94 #[.int .u8 n] w fun e w' => e = .returned (.int .u8 ((if n / 32 % 2 = 1 then n else n + 32 : Nat) : Int)) ∧ w' = w := by
  refine i_strconv_lower.calls _ ?_
  unfold i_strconv_lower.t
  refine s_leaf ⟨rfl, ?_, rfl⟩
  have h := or32 n hn
  have hlt : n ||| 32 < 256 := by rw [h]; split <;> omega
  have e : IntKind.wrap .u8 (((BitVec.toNat ((BitVec.ofInt 8 (n : Int)) ||| (BitVec.ofInt 8 (32 : Int)))) : Nat) : Int) = ((n ||| 32 : Nat) : Int) := by
    have h2 : BitVec.ofInt 8 (32 : Int) = BitVec.ofNat 8 32 := by decide
    rw [h2, BitVec.ofInt_natCast, BitVec.toNat_or, BitVec.toNat_ofNat, BitVec.toNat_ofNat, Nat.mod_eq_of_lt (by omega : n < 2 ^ 8), Nat.mod_eq_of_lt (by decide : 32 < 2 ^ 8), wrapB_in (by omega) (by omega)]
  show Ending.returned (.int .u8 (IntKind.wrap .u8 (((BitVec.toNat ((BitVec.ofInt 8 (n : Int)) ||| (BitVec.ofInt 8 (32 : Int)))) : Nat) : Int))) = _
  rw [e, h]
/-- The value of j hexadecimal digits from the text's begin on. -/
def hx (s : ByteArray) : Nat → Option Nat
  | 0 => some 0
  | j + 1 => match hx s j, hv (s.data.toList.getD j 0).toNat with
    | some a, some d => some (a * 16 + d)
    | _, _ => none
theorem hx_lt {s : ByteArray} : ∀ {j a : Nat}, hx s j = some a → a < 16 ^ j
  | 0, a, h => by cases h; decide
  | j + 1, a, h => by
    unfold hx at h
    split at h
    · rename_i a' d h1 h2
      cases h
      have := hx_lt h1
      have := hv_lt h2
      rw [Nat.pow_succ]; omega
    · cases h
theorem hx_before {s : ByteArray} : ∀ {m j v : Nat}, hx s m = some v → j ≤ m → ∃ a, hx s j = some a
  | 0, j, v, h, hj => by
    have : j = 0 := by omega
    subst this; exact ⟨_, h⟩
  | m + 1, j, v, h, hj => by
    rcases Nat.lt_or_ge m j with g | g
    · have : j = m + 1 := by omega
      subst this; exact ⟨_, h⟩
    · unfold hx at h
      split at h
      · rename_i a d h1 h2
        exact hx_before h1 g
      · cases h
theorem hx_digit {s : ByteArray} {m j v : Nat} (h : hx s m = some v) (hj : j < m) : ∃ a d, hx s j = some a ∧ hv (s.data.toList.getD j 0).toNat = some d ∧ hx s (j + 1) = some (a * 16 + d) := by
  obtain ⟨b, hb⟩ := hx_before h (show j + 1 ≤ m from hj)
  have hb' := hb
  unfold hx at hb'
  split at hb'
  · rename_i a d h1 h2
    exact ⟨a, d, h1, h2, by rw [hb]; cases hb'; rfl⟩
  · cases hb'
/-- strconv.ParseUint at base 16 of at most eight hexadecimal digits. -/
theorem inner_any {s : ByteArray} {v : Nat} {w : World} (h0 : 0 < s.size) (h8 : s.size ≤ 4) (hv' : hx s s.size = some v) :
    Calls Tryz.prog 89 #[.string s, .int .i64 16, .int .i64 16] w fun e w' => e = .returned (.tuple #[.int .u64 v, .nilIface]) ∧ Kp Off w w' := by
  refine i_strconv_ParseUint.calls _ _ _ ?_
  unfold i_strconv_ParseUint.t
  rw [sat_iteS]
  refine ⟨fun h => ?_, fun _ => ?_⟩
  · subst h; exact absurd h0 (by decide)
  refine s_cut (fun x w' => x = ((16 : Int), s, ()) ∧ w = w') ?_ ?_
  · refine s_cut (fun x w' => x = (true, ()) ∧ w = w') ?_ ?_
    · refine s_iteD (fun _ => s_leaf ?_) (fun h => absurd (by decide) h)
      rw [if_pos rfl]; exact ⟨(true, ()), rfl, rfl, rfl⟩
    rintro x w1 ⟨rfl, rfl⟩
    simp only [i_strconv_ParseUint.t1]
    refine s_cut (fun x w' => x = ((16 : Int), s, ()) ∧ w = w') ?_ ?_
    · refine sat_iteT.2 (s_leaf ?_)
      rw [if_pos rfl]; exact ⟨((16 : Int), s, ()), rfl, rfl, rfl⟩
    rintro x w1 ⟨rfl, rfl⟩
    simp only [i_strconv_ParseUint.t10]
    refine s_leaf ?_
    rw [if_pos rfl]; exact ⟨((16 : Int), s, ()), rfl, rfl, rfl⟩
  rintro x w1 ⟨rfl, rfl⟩
  simp only [i_strconv_ParseUint.t11]
  refine s_cut (fun x w' => x = ((16 : Int), ()) ∧ w = w') ?_ ?_
  · refine s_iteE (fun h => absurd h (by decide)) (fun _ => ?_)
    refine s_cut (fun x w' => x = (false, ()) ∧ w = w') ?_ ?_
    · refine s_iteD (fun h => absurd h (by decide)) (fun _ => s_leaf ?_)
      rw [if_pos rfl]; exact ⟨(false, ()), rfl, rfl, rfl⟩
    rintro x w1 ⟨rfl, rfl⟩
    simp only [i_strconv_ParseUint.t12]
    refine sat_iteF.2 (s_leaf ?_)
    rw [if_pos rfl]; exact ⟨((16 : Int), ()), rfl, rfl, rfl⟩
  rintro x w1 ⟨rfl, rfl⟩
  simp only [i_strconv_ParseUint.t13]
  refine s_cut (fun x w' => x = ((1152921504606846976 : Int), ()) ∧ w = w') ?_ ?_
  · refine s_cut (fun x w' => x = ((1152921504606846976 : Int), ()) ∧ w = w') ?_ ?_
    · refine s_iteE (fun h => absurd h (by decide)) (fun _ => ?_)
      refine s_cut (fun x w' => x = ((1152921504606846976 : Int), ()) ∧ w = w') ?_ ?_
      · refine s_iteE (fun _ => s_leaf ?_) (fun h => absurd rfl h)
        rw [if_pos rfl]; exact ⟨((1152921504606846976 : Int), ()), rfl, rfl, rfl⟩
      rintro x w1 ⟨rfl, rfl⟩
      simp only [i_strconv_ParseUint.t14]
      refine s_leaf ?_
      rw [if_pos rfl]; exact ⟨((1152921504606846976 : Int), ()), rfl, rfl, rfl⟩
    rintro x w1 ⟨rfl, rfl⟩
    simp only [i_strconv_ParseUint.t15]
    refine s_leaf ?_
    rw [if_pos rfl]; exact ⟨((1152921504606846976 : Int), ()), rfl, rfl, rfl⟩
  rintro x w1 ⟨rfl, rfl⟩
  simp only [i_strconv_ParseUint.t16]
  have w16 : IntKind.wrap IntKind.u64 (16 : Int) = 16 := wrapU_in (by decide) (by decide)
  have b16 : IntKind.wrap IntKind.u8 (16 : Int) = 16 := wrapB_in (by decide) (by decide)
  refine s_chk (by rw [w16]; decide) ?_
  obtain ⟨c, w1, h1, hB, k1⟩ := convert_bytes (P := Tryz.prog) (w := w) (src := 9) (dst := 43) (e := 5) s Tryz.underlying9 Tryz.underlying43 Tryz.underlying5
  refine s_eff (some ⟨w.heap.size, 0, none⟩, s.size, c) h1 ?_
  refine s_loop (fun n x w' => ∃ j a : Nat, n = s.size - j ∧ x = ((j : Int), (a : Int), false, ()) ∧ j ≤ s.size ∧ hx s j = some a ∧ w1 = w') s.size ((0 : Int), (0 : Int), false, ()) rfl ⟨0, 0, rfl, rfl, Nat.zero_le _, rfl, rfl⟩ ?_
  rintro n x w2 ⟨j, a, rfl, rfl, hj, ha, rfl⟩
  have hal : a < 4294967296 := Nat.lt_of_lt_of_le (hx_lt ha) (Nat.le_trans (Nat.pow_le_pow_right (by decide) (Nat.le_trans hj h8)) (by decide))
  simp only [i_strconv_ParseUint.t17]
  refine s_iteD (fun h2 => ?_) (fun h2 => sat_iteF.2 (s_leaf ?_))
  rotate_left
  · rw [if_neg (by decide)]
    have h2 : ¬ (j : Int) < ((s.size : Nat) : Int) := h2
    have e : j = s.size := by omega
    subst e
    rw [hv'] at ha
    cases ha
    exact ⟨rfl, rfl, k1⟩
  have h2 : (j : Int) < ((s.size : Nat) : Int) := h2
  obtain ⟨a', d, ha', hd, hnx⟩ := hx_digit hv' (show j < s.size by omega)
  have hal2 : a' * 16 + d < 65536 := Nat.lt_of_lt_of_le (hx_lt hnx) (Nat.le_trans (Nat.pow_le_pow_right (by decide) (by omega : j + 1 ≤ 4)) (by decide))
  rw [ha] at ha'
  cases ha'
  have hdl := hv_lt hd
  have hbn : bt s (j : Int) = (((s.data.toList.getD j 0).toNat : Nat) : Int) := by unfold bt; rw [Int.toNat_natCast]
  have hb256 : (s.data.toList.getD j 0).toNat < 256 := UInt8.toNat_lt _
  have hcell : w1.cell? ((⟨w.heap.size, 0, none⟩ : Addr).add (Int.toNat (j : Int) * 1)) = some (.int .u8 (((s.data.toList.getD j 0).toNat : Nat) : Int)) := by
    rw [Int.toNat_natCast, Nat.mul_one, ← hbn]; exact hB.at_ (by omega)
  generalize (s.data.toList.getD j 0).toNat = b at hd hb256 hcell
  refine s_chk (by omega) (s_ptr (s_load (b : Int) hcell ?_))
  have hcase : (48 ≤ b ∧ b ≤ 57 ∧ d = b - 48) ∨ (97 ≤ b ∧ b ≤ 102 ∧ d = b - 87) ∨ (65 ≤ b ∧ b ≤ 70 ∧ d = b - 55) := by
    unfold hv at hd
    split at hd
    · cases hd; omega
    split at hd
    · cases hd; omega
    split at hd
    · cases hd; omega
    · cases hd
  refine s_cut (fun x w' => x = (false, (d : Int), ()) ∧ w1 = w') ?_ ?_
  · refine s_cut (fun x w' => x = (false, ()) ∧ w1 = w') ?_ ?_
    · refine s_iteE (fun h => ?_) (fun _ => s_leaf ?_)
      · have h : (b : Int) = 95 := h
        omega
      · rw [if_pos rfl]; exact ⟨(false, ()), rfl, rfl, rfl⟩
    rintro x w2 ⟨rfl, rfl⟩
    simp only [i_strconv_ParseUint.t18]
    refine sat_iteF.2 ?_
    refine s_cut (fun x w' => x = (decide (48 ≤ b ∧ b ≤ 57), ()) ∧ w1 = w') ?_ ?_
    · refine s_iteD (fun h => s_leaf ?_) (fun h => s_leaf ?_)
      · rw [if_pos rfl]
        refine ⟨(decide ((b : Int) ≤ 57), ()), rfl, bpair ?_, rfl⟩
        simp only [decide_eq_true_eq]; omega
      · rw [if_pos rfl]
        have e : false = decide (48 ≤ b ∧ b ≤ 57) := (decide_eq_false (by omega)).symm
        exact ⟨(false, ()), rfl, congrArg (fun b => (b, ())) e, rfl⟩
    rintro x w2 ⟨rfl, rfl⟩
    simp only [i_strconv_ParseUint.t19]
    refine s_cut (fun x w' => x = ((d : Int), ()) ∧ w1 = w') ?_ ?_
    · refine s_iteD (fun h => s_leaf ?_) (fun h => ?_)
      · rw [if_pos rfl, wrapB_in (by omega) (by omega)]
        refine ⟨((d : Int), ()), ?_, rfl, rfl⟩
        show [Value.int .u8 ((b : Int) - 48)] = [Value.int .u8 (d : Int)]
        rw [show (b : Int) - 48 = (d : Int) by omega]
      refine s_cut (fun x w' => x = (true, ()) ∧ w1 = w') ?_ ?_
      · refine s_call (lower_any hb256) ?_
        rintro e w2 ⟨rfl, rfl⟩
        refine ⟨_, rfl, ?_⟩
        refine s_iteD (fun h5 => ?_) (fun h5 => ?_)
        · refine s_call (lower_any hb256) ?_
          rintro e w2 ⟨rfl, rfl⟩
          refine ⟨_, rfl, s_leaf ?_⟩
          rw [if_pos rfl]
          refine ⟨(decide (((if b / 32 % 2 = 1 then b else b + 32 : Nat) : Int) ≤ 122), ()), rfl, bpair ?_, rfl⟩
          simp only [decide_eq_true_eq, iff_true]
          split <;> omega
        · exfalso
          apply h5
          show (97 : Int) ≤ ((if b / 32 % 2 = 1 then b else b + 32 : Nat) : Int)
          split <;> omega
      rintro x w2 ⟨rfl, rfl⟩
      simp only [i_strconv_ParseUint.t20]
      refine sat_iteT.2 (s_call (lower_any hb256) ?_)
      rintro e w2 ⟨rfl, rfl⟩
      refine ⟨_, rfl, s_leaf ?_⟩
      rw [if_pos rfl]
      refine ⟨((d : Int), ()), ?_, rfl, rfl⟩
      have e : IntKind.wrap IntKind.u8 ((IntKind.wrap IntKind.u8 (((if b / 32 % 2 = 1 then b else b + 32 : Nat) : Int) - (97 : Int))) + (10 : Int)) = (d : Int) := by
        split
        · rw [wrapB_in (n := (b : Int) - 97) (by omega) (by omega), wrapB_in (by omega) (by omega)]; omega
        · rw [wrapB_in (n := ((b + 32 : Nat) : Int) - 97) (by omega) (by omega), wrapB_in (by omega) (by omega)]; omega
      show [Value.int .u8 (IntKind.wrap IntKind.u8 ((IntKind.wrap IntKind.u8 (((if b / 32 % 2 = 1 then b else b + 32 : Nat) : Int) - (97 : Int))) + (10 : Int)))] = [Value.int .u8 (d : Int)]
      rw [e]
    rintro x w2 ⟨rfl, rfl⟩
    simp only [i_strconv_ParseUint.t21]
    refine s_leaf ?_
    rw [if_pos rfl]
    exact ⟨(false, (d : Int), ()), rfl, rfl, rfl⟩
  rintro x w2 ⟨rfl, rfl⟩
  simp only [i_strconv_ParseUint.t22, b16, w16]
  have e1 : IntKind.wrap IntKind.u64 ((a : Int) * 16) = (a : Int) * 16 := wrapU_in (by omega) (by omega)
  have e2 : IntKind.wrap IntKind.u64 (d : Int) = (d : Int) := wrapU_in (by omega) (by omega)
  have e3 : IntKind.wrap IntKind.u64 ((a : Int) * 16 + (d : Int)) = (a : Int) * 16 + (d : Int) := wrapU_in (by omega) (by omega)
  have e4 : IntKind.wrap IntKind.u64 ((IntKind.wrap IntKind.u64 ((1 : Int) * ((2 : Int) ^ (Min.min (Int.toNat (16 : Int)) 64)))) - (1 : Int)) = 65535 := by decide
  simp only [e1, e2, e3, e4]
  refine s_iteD (fun h => (by have h : (d : Int) ≥ 16 := h; omega)) (fun _ => ?_)
  refine s_iteD (fun h => (by have h : (a : Int) ≥ 1152921504606846976 := h; omega)) (fun _ => ?_)
  refine s_iteD (fun h => (by have h : (a : Int) * 16 + (d : Int) < (a : Int) * 16 := h; omega)) (fun _ => ?_)
  refine s_iteD (fun h => (by have h : (a : Int) * 16 + (d : Int) > 65535 := h; omega)) (fun _ => s_leaf ?_)
  rw [if_pos rfl, wrap_in (by omega) (by omega)]
  refine ⟨s.size - (j + 1), (((j + 1 : Nat) : Int), ((a * 16 + d : Nat) : Int), false, ()), ?_, by omega, j + 1, a * 16 + d, rfl, rfl, by omega, hnx, rfl⟩
  show [Value.int .i64 ((j : Int) + 1), Value.int .u64 ((a : Int) * 16 + (d : Int)), Value.bool false] = [Value.int .i64 ((j + 1 : Nat) : Int), Value.int .u64 ((a * 16 + d : Nat) : Int), Value.bool false]
  rw [show (a : Int) * 16 + (d : Int) = ((a * 16 + d : Nat) : Int) by omega]
  rfl
/-- Four hexadecimal digits. -/
theorem uint16_any {s : ByteArray} {v : Nat} {w : World} (h4 : s.size = 4) (hv' : hx s 4 = some v) : Calls Tryz.prog 76 #[.string s, .int .i64 16, .int .i64 16] w fun e w' => e = .returned (.tuple #[.int .u64 v, .nilIface]) ∧ Kp Off w w' := by
  refine strconv_ParseUint.calls _ _ _ ?_
  unfold strconv_ParseUint.t
  refine s_call (inner_any (v := v) (by omega) (by omega) (by rw [h4]; exact hv')) ?_
  rintro e w1 ⟨rfl, k⟩
  exact ⟨((v : Int), Value.nilIface, ()), rfl, s_chk rfl (sat_iteF.2 (s_leaf ⟨rfl, rfl, k⟩))⟩
end Go.Proofs.YtkpnomdmnhhaoaaGreatDoor.Hp
