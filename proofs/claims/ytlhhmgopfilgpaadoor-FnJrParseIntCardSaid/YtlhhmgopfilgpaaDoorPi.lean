/- jsonparser's inner reader of whole numbers, and laws.jpDecimal. No statement of the set is proved here. -/
import Derived.Test.YtlhhmgopfilgpaaDoorUi
namespace Go.Proofs.YtlhhmgopfilgpaaDoor.Pi
open Go Go.Proofs Go.Proofs.YtlhhmgopfilgpaaDoor.Rx Go.Proofs.YtlhhmgopfilgpaaDoor.Tr Go.Proofs.YtlhhmgopfilgpaaDoor.Pl Go.Proofs.YtlhhmgopfilgpaaDoor.Ui

theorem tail_end {s : ByteArray} {k : Nat} (h : k < (tailS s).size) : st s + k < s.size := by rw [tailS_size] at h; omega
theorem decimal_any {s : ByteArray} {w : World} (hs : s.size < 4611686018427387904) : Calls Tryd.prog 19 #[.string s] w fun e w' => e = .returned (.bool (decB s)) ∧ w' = w := by
  refine laws_jpDecimal.calls _ ?_
  refine s_sign ?_
  refine s_tail ?_
  simp only [laws_jpDecimal.t2]
  have hz := tailS_size s
  refine s_loop (fun n x w' => ∃ k : Nat, x = ((k : Int), ()) ∧ k ≤ (tailS s).size ∧ n = (tailS s).size - k ∧ allD (tailS s) 0 k ∧ w = w') (tailS s).size ((0 : Int), ()) rfl ⟨0, rfl, Nat.zero_le _, rfl, allD_zero _ _, rfl⟩ ?_
  rintro n x w1 ⟨k, rfl, hk, rfl, hd, rfl⟩
  simp only [laws_jpDecimal.t3]
  have bad : isDig (bt (tailS s) (k : Int)) = false → k < (tailS s).size → decB s = false := fun h h' => by
    rw [tailS_bt (by omega)] at h
    exact not_dec (by omega) (by omega) h
  refine s_iteD (fun h1 => ?_) (fun h1 => ?_)
  · have hlt : k < (tailS s).size := by omega
    refine s_chk (by omega) ?_
    refine s_iteD (fun h2 => ?_) (fun h2 => ?_)
    · refine s_leaf ?_
      rw [if_neg (by decide)]
      exact ⟨rfl, by rw [bad (isDig_no (by omega)) hlt]; rfl, rfl⟩
    · refine s_chk (by omega) ?_
      refine s_iteD (fun h3 => ?_) (fun h3 => ?_)
      · refine s_leaf ?_
        rw [if_neg (by decide)]
        exact ⟨rfl, by rw [bad (isDig_no (by omega)) hlt]; rfl, rfl⟩
      · refine s_leaf ?_
        rw [if_pos rfl, wrap_in (by omega) (by omega)]
        exact ⟨(tailS s).size - (k + 1), (((k + 1 : Nat) : Int), ()), rfl, by omega, k + 1, rfl, hlt, rfl, allD_snoc hd (isDig_yes (by omega)), rfl⟩
  · have he : k = (tailS s).size := by omega
    refine s_leaf ?_
    rw [if_neg (by decide)]
    refine ⟨rfl, ?_, rfl⟩
    rw [← tailS_dec, digs_of_allD (Nat.zero_le _) hd, digs_end (by omega), he]
    cases hb : strEq (tailS s) (ByteArray.mk #[]) with
    | true =>
      have : (tailS s).size = 0 := empty_iff.1 (strEq_iff.1 hb)
      rw [this]; rfl
    | false =>
      have : 0 < (tailS s).size := Nat.pos_of_ne_zero fun e => by rw [strEq_iff.2 (empty_iff.2 e)] at hb; cases hb
      simp [retVal, this]

/-- What it says: the number, whether there is one, whether it is beyond int64. -/
def PiPost (s : ByteArray) (w : World) (e : Ending) (w' : World) : Prop :=
  w' = w ∧ ∃ (v : Int) (ov : Bool), e = .returned (retVal [.int .i64 v, .bool (i64O s).isSome, .bool ov]) ∧ (∀ n, i64O s = some n → v = n ∧ ov = false) ∧ (i64O s = none → decB s = true → ov = true) ∧ (ov = true → decB s = true ∨ outS s)
theorem pi_bad {s : ByteArray} {w : World} (h : decB s = false) : PiPost s w (.returned (retVal [.int .i64 0, .bool false, .bool false])) w := by
  refine ⟨rfl, 0, false, by rw [i64O_noDec h]; rfl, fun n hn => ?_, fun _ h' => ?_, fun h => (by cases h)⟩
  · rw [i64O_noDec h] at hn; cases hn
  · rw [h] at h'; cases h'
theorem pi_over {s : ByteArray} {w : World} (h : i64O s = none) (h' : decB s = true ∨ outS s) : PiPost s w (.returned (retVal [.int .i64 0, .bool false, .bool true])) w :=
  ⟨rfl, 0, true, by rw [h]; rfl, fun n hn => (by rw [h] at hn; cases hn), fun _ _ => rfl, fun _ => h'⟩
theorem pi_some {s : ByteArray} {w : World} {n : Int} (h : i64O s = some n) : PiPost s w (.returned (retVal [.int .i64 n, .bool true, .bool false])) w :=
  ⟨rfl, n, false, by rw [h]; rfl, fun m hm => ⟨by rw [h] at hm; cases hm; rfl, rfl⟩, fun e => (by rw [h] at e; cases e), fun h => (by cases h)⟩
theorem dig_w {c : Int} (h0 : 0 ≤ c) (h1 : c ≤ 255) : decide (IntKind.wrap .u8 (c - 48) > 9) = !isDig c := by
  rcases Int.lt_or_le c 48 with h | h
  · rw [wrapB_neg (by omega) (by omega), isDig_no (by omega)]
    exact decide_eq_true (by omega)
  · rw [wrapB_in (by omega) (by omega), ← dig_hi h]
    exact decide_eq_decide.2 (by omega)

theorem parseInt_any {s : ByteArray} {p : Addr} {cap : Nat} {w : World} (hs : s.size < 4611686018427387904) (hc : s.size ≤ cap) (hB : Byts w p s) :
    Calls Tryd.prog 32 #[.slice (some p) s.size cap] w (PiPost s w) := by
  refine jsonparser_parseInt.calls _ _ _ ?_
  have cell : ∀ j : Nat, j < s.size → w.cell? (p.add j) = some (.int .u8 (bt s j)) := fun j hj => hB.at_ hj
  unfold jsonparser_parseInt.t
  refine s_iteE (fun h => s_leaf ⟨rfl, pi_bad ?_⟩) (fun h => ?_)
  · rw [Bool.eq_false_iff]; intro e
    have := (decB_iff.1 e).1; omega
  have h0 : 0 < s.size := by omega
  have c0 := cell 0 h0
  refine s_chk (by omega) (s_ptr (s_load (bt s (0 : Nat)) c0 ?_))
  refine s_cut (fun x w' => x = ((st s : Int), neg s, ()) ∧ w = w') ?_ ?_
  · refine s_iteE (fun h => ?_) (fun h => ?_)
    · refine s_leaf ?_; rw [if_pos rfl]
      have hn : neg s = true := by simpa [neg] using h
      exact ⟨((1 : Int), true, ()), rfl, by unfold st; rw [hn]; rfl, rfl⟩
    · refine s_leaf ?_; rw [if_pos rfl]
      have hn : neg s = false := by simpa [neg] using h
      exact ⟨((0 : Int), false, ()), rfl, by unfold st; rw [hn]; rfl, rfl⟩
  rintro x w1 ⟨rfl, rfl⟩
  simp only [jsonparser_parseInt.t1]
  have hst := st_le s
  refine s_iteE (fun h => s_leaf ⟨rfl, pi_bad ?_⟩) (fun h => ?_)
  · rw [Bool.eq_false_iff]; intro e
    have := (decB_iff.1 e).1; omega
  have h1 : st s < s.size := by omega
  rw [wrap_in (by omega) (by omega)]
  refine s_iteD (fun hsz => ?_) (fun hsz => ?_)
  · -- few digits
    refine s_loop (fun n x w' => ∃ k : Nat, x = (((st s + k : Nat) : Int), ((dv s (st s) k : Nat) : Int), ()) ∧ st s + k ≤ s.size ∧ n = s.size - (st s + k) ∧ allD s (st s) (st s + k) ∧ w = w') (s.size - st s) ((st s : Int), (0 : Int), ()) rfl
      ⟨0, rfl, by omega, by omega, allD_zero _ _, rfl⟩ ?_
    rintro n x w1 ⟨k, rfl, hk, rfl, hd, rfl⟩
    have hlt := dv_lt (s := s) (i := st s) (n := k) fun m hm => hd _ (by omega) (by omega)
    have hp : 10 ^ k ≤ 10 ^ 18 := Nat.pow_le_pow_right (by decide) (by omega)
    have hp18 : (10 : Nat) ^ 18 = 1000000000000000000 := by decide
    simp only [jsonparser_parseInt.t2]
    refine s_iteD (fun h2 => ?_) (fun h2 => ?_)
    · have hjs : st s + k < s.size := by omega
      have hr := bt_range s ((st s + k : Nat) : Int)
      refine s_chk (by omega) (s_ptr (s_load (bt s (st s + k : Nat)) ?_ ?_))
      · rw [Int.toNat_natCast, Nat.mul_one]; exact cell _ hjs
      rw [dig_w hr.1 hr.2]
      cases hD : isDig (bt s ((st s + k : Nat) : Int)) with
      | false =>
        simp only [Bool.not_false, sat_iteT, sat_leaf]
        rw [if_neg (by decide)]
        exact ⟨trivial, pi_bad (not_dec (by omega) hjs hD)⟩
      | true =>
        simp only [Bool.not_true, sat_iteF]
        have hb := isDig_iff.1 hD
        have hstep := dv_step hD
        have hlt' := dv_lt (s := s) (i := st s) (n := k + 1) fun m hm => allD_snoc hd hD _ (by omega) (by omega)
        have hp' : 10 ^ (k + 1) ≤ 10 ^ 18 := Nat.pow_le_pow_right (by decide) (by omega)
        refine s_leaf ?_
        rw [if_pos rfl, wrapB_in (by omega) (by omega), wrap_in (n := bt s ((st s + k : Nat) : Int) - 48) (by omega) (by omega), wrap_in (n := (10 : Int) * (dv s (st s) k : Int)) (by omega) (by omega), wrap_in (by omega) (by omega), wrap_in (by omega) (by omega)]
        refine ⟨s.size - (st s + (k + 1)), (((st s + (k + 1) : Nat) : Int), ((dv s (st s) (k + 1) : Nat) : Int), ()), ?_, by omega, k + 1, rfl, by omega, rfl, allD_snoc hd hD, rfl⟩
        rw [hstep, Int.mul_comm]; rfl
    · have he : st s + k = s.size := by omega
      have hkk : k = s.size - st s := by omega
      have hdec : decB s = true := dec_of h1 (he ▸ hd)
      have hv : dv s (st s) k = vOf s := by rw [hkk]; rfl
      have hrng : rng (neg s) (vOf s) = true := by cases neg s <;> simp [rng] <;> omega
      have hi := i64O_some hdec hrng
      refine s_ite (fun hn => ?_) (fun hn => ?_)
      · refine s_leaf ?_
        rw [if_neg (by decide), wrap_in (by omega) (by omega), hv]
        refine ⟨rfl, pi_some ?_⟩
        rw [hi, hn]; simp [sgn]
      · refine s_leaf ?_
        rw [if_neg (by decide), hv]
        refine ⟨rfl, pi_some ?_⟩
        rw [hi, hn]; simp [sgn]
  · -- many
    refine s_cut (fun x w' => w = w' ∧ ∃ c, x = ((some (p.add (st s)), s.size - st s, c), ())) ?_ ?_
    · refine s_ite (fun hn => ?_) (fun hn => ?_)
      · have hst1 : st s = 1 := by unfold st; rw [hn]; rfl
        refine s_chk (by omega) (s_leaf ?_)
        rw [if_pos rfl, if_neg (by omega)]
        refine ⟨((some (p.add 1), s.size - 1, cap - 1), ()), rfl, rfl, cap - 1, ?_⟩
        rw [hst1]; rfl
      · have hst0 : st s = 0 := by unfold st; rw [hn]; rfl
        refine s_leaf ?_
        rw [if_pos rfl]
        refine ⟨((some p, s.size, cap), ()), rfl, rfl, cap, ?_⟩
        rw [hst0]
        have : p.add 0 = p := by have := hB.1; cases p; simp only at this; subst this; simp
        rw [this]; rfl
    rintro x w1 ⟨rfl, c, rfl⟩
    simp only [jsonparser_parseInt.t3]
    refine s_loop (fun n x w' => ∃ k : Nat, x = ((k : Int), ((dv s (st s) k : Nat) : Int), ()) ∧ st s + k ≤ s.size ∧ n = s.size - (st s + k) ∧ allD s (st s) (st s + k) ∧ dv s (st s) k < 18446744073709551616 ∧ w = w') (s.size - st s) ((0 : Int), (0 : Int), ()) rfl
      ⟨0, rfl, by omega, by omega, allD_zero _ _, by simp [dv], rfl⟩ ?_
    rintro n x w1 ⟨k, rfl, hk, rfl, hd, hv, rfl⟩
    simp only [jsonparser_parseInt.t4]
    refine s_iteD (fun h2 => ?_) (fun h2 => ?_)
    · have hjs : st s + k < s.size := by omega
      have hr := bt_range s ((st s + k : Nat) : Int)
      refine s_chk (by omega) (s_ptr (s_load (bt s (st s + k : Nat)) ?_ ?_))
      · rw [Int.toNat_natCast, Nat.mul_one]
        have := cell _ hjs
        have e : (p.add (st s)).add k = p.add (st s + k) := by have := hB.1; cases p; simp only at this; subst this; simp [Nat.add_assoc]
        rw [e]; exact this
      refine s_cut (fun x w' => x = (!isDig (bt s ((st s + k : Nat) : Int)), ()) ∧ w = w') ?_ ?_
      · refine s_iteD (fun h2 => ?_) (fun h2 => ?_)
        · refine s_leaf ?_; rw [if_pos rfl]
          exact ⟨(true, ()), rfl, by rw [dig_lo h2]; rfl, rfl⟩
        · refine s_leaf ?_; rw [if_pos rfl]
          exact ⟨(decide ((57 : Int) < bt s ((st s + k : Nat) : Int)), ()), rfl, by rw [dig_hi (by omega)]; rfl, rfl⟩
      rintro x w1 ⟨rfl, rfl⟩
      simp only [jsonparser_parseInt.t5]
      cases hD : isDig (bt s ((st s + k : Nat) : Int)) with
      | false =>
        simp only [Bool.not_false, sat_iteT, sat_leaf]
        rw [if_neg (by decide)]
        exact ⟨trivial, pi_bad (not_dec (by omega) hjs hD)⟩
      | true =>
        simp only [Bool.not_true, sat_iteF]
        have hb := isDig_iff.1 hD
        have hstep := dv_step hD
        have hd' := allD_snoc hd hD
        have over : 18446744073709551616 ≤ dv s (st s) (k + 1) → PiPost s w (.returned (retVal [.int .i64 0, .bool false, .bool true])) w := fun h => by
          obtain ⟨a, b⟩ := over_of (s := s) (k := k + 1) hd' h
          exact pi_over a b
        refine s_iteD (fun h3 => ?_) (fun h3 => ?_)
        · refine s_leaf ?_
          rw [if_neg (by decide)]
          exact ⟨rfl, over (by omega)⟩
        rw [wrapB_in (n := bt s ((st s + k : Nat) : Int) - 48) (by omega) (by omega), wrapU_in (n := bt s ((st s + k : Nat) : Int) - 48) (by omega) (by omega), wrapU_in (n := (dv s (st s) k : Int) * 10) (by omega) (by omega), ← hstep]
        rcases Nat.lt_or_ge (dv s (st s) (k + 1)) 18446744073709551616 with h4 | h4
        · rw [wrapU_in (by omega) (by omega), wrap_in (by omega) (by omega)]
          refine s_iteD (fun h5 => by omega) (fun h5 => ?_)
          refine s_leaf ?_
          rw [if_pos rfl]
          exact ⟨s.size - (st s + (k + 1)), (((k + 1 : Nat) : Int), ((dv s (st s) (k + 1) : Nat) : Int), ()), rfl, by omega, k + 1, rfl, by omega, rfl, hd', h4, rfl⟩
        · refine s_iteD (fun h5 => ?_) (fun h5 => ?_)
          · refine s_leaf ?_
            rw [if_neg (by decide)]
            exact ⟨rfl, over h4⟩
          · rw [IntKind.wrap_u64] at h5
            omega
    · have he : st s + k = s.size := by omega
      have hkk : k = s.size - st s := by omega
      have hdec : decB s = true := dec_of h1 (he ▸ hd)
      have hvv : dv s (st s) k = vOf s := by rw [hkk]; rfl
      rw [hvv] at hv ⊢
      refine s_iteD (fun h3 => ?_) (fun h3 => ?_)
      · refine s_cut (fun x w' => x = (rng (neg s) (vOf s), ()) ∧ w = w') ?_ ?_
        · refine s_ite (fun hn => ?_) (fun hn => ?_)
          · refine s_leaf ?_
            rw [if_pos rfl]
            refine ⟨(((vOf s : Nat) : Int) == 9223372036854775808, ()), rfl, ?_, rfl⟩
            rw [hn]
            congr 1
            show _ = decide _
            rw [Bool.eq_iff_iff]
            simp
            omega
          · refine s_leaf ?_
            rw [if_pos rfl]
            refine ⟨(false, ()), rfl, ?_, rfl⟩
            rw [hn]
            congr 1
            show _ = decide _
            rw [Bool.eq_iff_iff]
            simp
            omega
        · rintro x w1 ⟨rfl, rfl⟩
          simp only [jsonparser_parseInt.t6]
          refine s_ite (fun hr => ?_) (fun hr => ?_)
          · refine s_leaf ?_
            rw [if_neg (by decide)]
            refine ⟨rfl, pi_some ?_⟩
            rw [i64O_some hdec hr]
            cases hn : neg s with
            | true =>
              rw [hn] at hr
              have : vOf s ≤ 9223372036854775808 := by simpa [rng] using hr
              simp [sgn]; omega
            | false =>
              rw [hn] at hr
              have : vOf s < 9223372036854775808 := by simpa [rng] using hr
              omega
          · refine s_leaf ?_
            rw [if_neg (by decide)]
            exact ⟨rfl, pi_over (i64O_noRng hr) (.inl hdec)⟩
      · have hrng : rng (neg s) (vOf s) = true := by cases neg s <;> simp [rng] <;> omega
        have hi := i64O_some hdec hrng
        rw [wrap_in (n := (vOf s : Int)) (by omega) (by omega)]
        refine s_ite (fun hn => ?_) (fun hn => ?_)
        · refine s_leaf ?_
          rw [if_neg (by decide), wrap_in (by omega) (by omega)]
          refine ⟨rfl, pi_some ?_⟩
          rw [hi, hn]; simp [sgn]
        · refine s_leaf ?_
          rw [if_neg (by decide)]
          refine ⟨rfl, pi_some ?_⟩
          rw [hi, hn]; simp [sgn]
end Go.Proofs.YtlhhmgopfilgpaaDoor.Pi
