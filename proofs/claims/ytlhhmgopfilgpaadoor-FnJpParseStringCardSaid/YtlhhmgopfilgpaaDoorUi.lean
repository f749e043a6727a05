/- The reference's Uint64 and Int64. No statement of the set is proved here. -/
import Derived.Test.YtlhhmgopfilgpaaDoorPd
import Derived.Test.YtlhhmgopfilgpaaDoorTr
namespace Go.Proofs.YtlhhmgopfilgpaaDoor.Ui
open Go Go.Proofs Go.Proofs.YtlhhmgopfilgpaaDoor.Rx Go.Proofs.YtlhhmgopfilgpaaDoor.Tr Go.Proofs.YtlhhmgopfilgpaaDoor.Pl

theorem empty_iff {s : ByteArray} : s = ByteArray.mk #[] ↔ s.size = 0 := by
  constructor
  · rintro rfl; rfl
  · intro h
    cases s with
    | mk d => congr 1; exact Array.eq_empty_of_size_eq_zero h
theorem allD_zero (s : ByteArray) (i : Nat) : allD s i i := fun k h1 h2 => by omega
theorem u64O_bad {s : ByteArray} {j : Nat} (h2 : j < s.size) (h : isDig (bt s (j : Int)) = false) : u64O s = none := by
  unfold u64O
  rw [if_neg]
  intro e
  simp only [Bool.and_eq_true, beq_iff_eq] at e
  have := allD_digs s 0 j (Nat.zero_le _) (by omega)
  rw [this] at h; cases h
theorem u64O_over {s : ByteArray} {j : Nat} (h2 : j ≤ s.size) (h : 18446744073709551616 ≤ dv s 0 j) : u64O s = none := by
  unfold u64O
  rw [if_neg]
  intro e
  simp only [Bool.and_eq_true, decide_eq_true_eq] at e
  have := dv_mono s 0 h2
  omega
theorem u64O_ok {s : ByteArray} (h0 : 0 < s.size) (h : allD s 0 s.size) (hv : dv s 0 s.size < 18446744073709551616) : u64O s = some (dv s 0 s.size) := by
  unfold u64O
  have : digs s 0 = s.size := by rw [digs_of_allD (Nat.zero_le _) h, digs_end (Nat.le_refl _)]
  rw [if_pos]
  simp [this, h0, hv]
def U64Post (s : ByteArray) (w : World) (e : Ending) (w' : World) : Prop :=
  e = .returned (retVal [.int .u64 (((u64O s).getD 0 : Nat) : Int), .bool (u64O s).isSome]) ∧ w' = w
theorem u64_none {s : ByteArray} {w : World} (h : u64O s = none) : U64Post s w (.returned (retVal [.int .u64 0, .bool false])) w := by
  unfold U64Post; rw [h]; exact ⟨rfl, rfl⟩
theorem u64_any {s : ByteArray} {w : World} (hs : s.size < 4611686018427387904) : Calls Tryd.prog 31 #[.string s] w (U64Post s w) := by
  refine spec_Uint64.calls _ ?_
  simp only [spec_Uint64.t, sat_iteS]
  refine ⟨fun h => ?_, fun h => ?_⟩
  · refine s_leaf ⟨rfl, u64_none ?_⟩
    subst h; rfl
  have h0 : 0 < s.size := Nat.pos_of_ne_zero fun e => h (empty_iff.2 e)
  refine s_loop (fun n x w' => ∃ k : Nat, x = ((k : Int), ((dv s 0 k : Nat) : Int), ()) ∧ k ≤ s.size ∧ n = s.size - k ∧ allD s 0 k ∧ dv s 0 k < 18446744073709551616 ∧ w = w') s.size ((0 : Int), (0 : Int), ()) rfl
    ⟨0, rfl, Nat.zero_le _, rfl, allD_zero _ _, by simp [dv], rfl⟩ ?_
  rintro n x w1 ⟨k, rfl, hk, rfl, hd, hv, rfl⟩
  simp only [spec_Uint64.t1]
  refine s_iteD (fun h1 => ?_) (fun h1 => ?_)
  · have hlt : k < s.size := by omega
    have hr := bt_range s (k : Int)
    refine s_cut (fun x w' => x = (!isDig (bt s (k : Int)), ()) ∧ w = w') ?_ ?_
    · refine s_chk (by omega) ?_
      refine s_iteD (fun h2 => ?_) (fun h2 => ?_)
      · refine s_leaf ?_; rw [if_pos rfl]
        exact ⟨(true, ()), rfl, by rw [dig_lo h2]; rfl, rfl⟩
      · refine s_chk (by omega) (s_leaf ?_); rw [if_pos rfl]
        exact ⟨(decide ((57 : Int) < bt s (k : Int)), ()), rfl, by rw [dig_hi (by omega)]; rfl, rfl⟩
    · rintro x w1 ⟨rfl, rfl⟩
      simp only [spec_Uint64.t2]
      cases hD : isDig (bt s (k : Int)) with
      | false =>
        simp only [Bool.not_false, sat_iteT, sat_leaf]
        rw [if_neg (by decide)]
        exact ⟨trivial, u64_none (u64O_bad hlt hD)⟩
      | true =>
        simp only [Bool.not_true, sat_iteF]
        have hb := isDig_iff.1 hD
        have hstep : ((dv s 0 (k + 1) : Nat) : Int) = (dv s 0 k : Int) * 10 + (bt s (k : Int) - 48) := by
          have := dv_step (s := s) (i := 0) (n := k) (by rw [Nat.zero_add]; exact hD)
          rw [Nat.zero_add] at this; exact this
        refine s_chk (by omega) (s_chk (by decide) ?_)
        have e1 : IntKind.wrap .u8 (bt s (k : Int) - 48) = bt s (k : Int) - 48 := wrapB_in (by omega) (by omega)
        have e2 : IntKind.wrap .u64 (bt s (k : Int) - 48) = bt s (k : Int) - 48 := wrapU_in (by omega) (by omega)
        have e3 : IntKind.wrap .u64 ((18446744073709551615 : Int) - (bt s (k : Int) - 48)) = 18446744073709551615 - (bt s (k : Int) - 48) := wrapU_in (by omega) (by omega)
        rw [e1, e2, e3, IntWalk.u64_quo _ _ (by omega)]
        refine s_iteD (fun h2 => ?_) (fun h2 => ?_)
        · refine s_leaf ?_
          rw [if_neg (by decide)]
          exact ⟨rfl, u64_none (u64O_over (j := k + 1) hlt (by omega))⟩
        · refine s_leaf ?_
          rw [if_pos rfl, wrapU_in (n := (dv s 0 k : Int) * 10) (by omega) (by omega), wrapU_in (by omega) (by omega), wrap_in (by omega) (by omega)]
          refine ⟨s.size - (k + 1), (((k + 1 : Nat) : Int), ((dv s 0 (k + 1) : Nat) : Int), ()), ?_, by omega, k + 1, rfl, hlt, rfl, allD_snoc hd hD, by omega, rfl⟩
          rw [hstep]; rfl
  · have : k = s.size := by omega
    subst this
    refine s_leaf ?_
    rw [if_neg (by decide)]
    refine ⟨rfl, ?_⟩
    unfold U64Post
    rw [u64O_ok h0 hd hv]
    exact ⟨rfl, rfl⟩

/-- The bytes of a string, the capacity said too. -/
theorem convert_bytesC {P : Program} {w : World} {src dst e : TypeId} {u : TypeDesc} (s : ByteArray) (hs : P.underlying src = some u) (hd : P.underlying dst = some (.slice e)) (he : P.underlying e = some (.int .u8)) :
    ∃ c w', (convert src dst (.string s)).run P w = .ok (.slice (some ⟨w.heap.size, 0, none⟩) s.size c) w' ∧ s.size ≤ c ∧ Byts w' ⟨w.heap.size, 0, none⟩ s ∧ Kp Off w w' := by
  obtain ⟨c, w', h1, h2, h3⟩ := convert_bytes s hs hd he
  refine ⟨c, w', h1, ?_, h2, h3⟩
  have := Lib.run_convert_string_bytes w src dst e s hs hd he
  rw [this] at h1
  cases h1
  exact grownCap_ge w s.size 0 e

/-- The text behind the sign. -/
def tailS (s : ByteArray) : ByteArray := s.extract (st s) s.size
theorem tailS_pos {s : ByteArray} (h : neg s = true) : tailS s = s.extract 1 s.size := by unfold tailS st; rw [h]; rfl
theorem tailS_not {s : ByteArray} (h : neg s = false) : tailS s = s := by
  unfold tailS st; rw [h]
  show s.extract 0 s.size = s
  exact ByteArray.extract_zero_size
theorem tailS_size (s : ByteArray) : (tailS s).size = s.size - st s := size_tail s _
theorem tailS_bt {s : ByteArray} {k : Nat} (h : k < s.size - st s) : bt (tailS s) (k : Int) = bt s ((st s + k : Nat) : Int) := bt_extract (Nat.le_refl _) (by omega)
theorem tailS_dec {s : ByteArray} : (decide (0 < (tailS s).size) && (digs (tailS s) 0 == (tailS s).size)) = decB s := by
  have hst := st_le s
  have hz := tailS_size s
  rw [Bool.eq_iff_iff, decB_iff]
  simp only [Bool.and_eq_true, decide_eq_true_eq, beq_iff_eq]
  constructor
  · rintro ⟨h1, h2⟩
    refine ⟨by omega, ?_⟩
    refine (decB_iff.1 (dec_of (by omega) fun k h3 h4 => ?_)).2
    have := allD_digs (tailS s) 0 (k - st s) (Nat.zero_le _) (by omega)
    rw [tailS_bt (by omega), show st s + (k - st s) = k from by omega] at this
    exact this
  · rintro ⟨h1, h2⟩
    refine ⟨by omega, ?_⟩
    have ha : allD (tailS s) 0 (tailS s).size := fun k h3 h4 => by
      rw [tailS_bt (by omega)]
      exact allD_digs s (st s) _ (by omega) (by omega)
    rw [digs_of_allD (Nat.zero_le _) ha, digs_end (Nat.le_refl _)]
theorem tailS_dv (s : ByteArray) : dv (tailS s) 0 (tailS s).size = vOf s := by
  unfold vOf
  rw [tailS_size]
  refine dv_congr fun k hk => ?_
  rw [Nat.zero_add]
  exact tailS_bt hk
theorem u64_tail (s : ByteArray) : u64O (tailS s) = if decB s && decide (vOf s < 18446744073709551616) then some (vOf s) else none := by
  unfold u64O; rw [tailS_dec, tailS_dv]

/-- How both begin: the sign, then what is behind it. -/
theorem s_sign {P : Program} {Q : Nat → List Value → World → Prop} {s : ByteArray} {w : World} {k : (Sh.cons .bool .nil).Ty → T} (h : sat P (k (neg s, ())) Q w) :
    sat P (.cut 1 (.cons .bool .nil) (
      .ite (!(strEq s (ByteArray.mk #[]))) (
        .chk (((0 : Int) ≤ (0 : Int)) ∧ ((0 : Int) < (((ByteArray.size s) : Nat) : Int))) <|
        .leaf 1 [(Value.bool ((bt s (0 : Int)) == (45 : Int)))]) (
        .leaf 1 [(Value.bool Bool.false)])) k) Q w := by
  refine s_cut (fun x w' => x = (neg s, ()) ∧ w = w') ?_ ?_
  · simp only [sat_iteNot]
    refine ⟨fun h1 => ?_, fun h1 => ?_⟩
    · have h0 : 0 < s.size := Nat.pos_of_ne_zero fun e => by rw [strEq_iff.2 (empty_iff.2 e)] at h1; cases h1
      refine s_chk (by omega) (s_leaf ?_)
      rw [if_pos rfl]
      exact ⟨(_, ()), rfl, rfl, rfl⟩
    · refine s_leaf ?_
      rw [if_pos rfl]
      refine ⟨(false, ()), rfl, ?_, rfl⟩
      have : s = ByteArray.mk #[] := strEq_iff.1 h1
      subst this; rfl
  · rintro x w' ⟨rfl, rfl⟩; exact h
theorem s_tail {P : Program} {Q : Nat → List Value → World → Prop} {s : ByteArray} {w : World} {k : (Sh.cons .str .nil).Ty → T} (h : sat P (k (tailS s, ())) Q w) :
    sat P (.cut 1 (.cons .str .nil) (
      .ite (neg s) (
        .chk (((0 : Int) ≤ (1 : Int)) ∧ (((1 : Int) ≤ (((ByteArray.size s) : Nat) : Int)) ∧ ((((ByteArray.size s) : Nat) : Int) ≤ (((ByteArray.size s) : Nat) : Int)))) <|
        .leaf 1 [(Value.string (ByteArray.extract s 1 (Int.toNat (((ByteArray.size s) : Nat) : Int))))]) (
        .leaf 1 [(Value.string s)])) k) Q w := by
  refine s_cut (fun x w' => x = (tailS s, ()) ∧ w = w') ?_ ?_
  · refine s_ite (fun h1 => ?_) (fun h1 => ?_)
    · have := neg_pos h1
      refine s_chk (by omega) (s_leaf ?_)
      rw [if_pos rfl, Int.toNat_natCast, ← tailS_pos h1]
      exact ⟨(_, ()), rfl, rfl, rfl⟩
    · refine s_leaf ?_
      rw [if_pos rfl, tailS_not h1]
      exact ⟨(_, ()), rfl, rfl, rfl⟩
  · rintro x w' ⟨rfl, rfl⟩; exact h

def I64Post (s : ByteArray) (w : World) (e : Ending) (w' : World) : Prop :=
  e = .returned (retVal [.int .i64 ((i64O s).getD 0), .bool (i64O s).isSome]) ∧ w' = w
theorem i64_none {s : ByteArray} {w : World} (h : i64O s = none) : I64Post s w (.returned (retVal [.int .i64 0, .bool false])) w := by
  unfold I64Post; rw [h]; exact ⟨rfl, rfl⟩
theorem i64_some {s : ByteArray} {w : World} {n : Int} (h : i64O s = some n) : I64Post s w (.returned (retVal [.int .i64 n, .bool true])) w := by
  unfold I64Post; rw [h]; exact ⟨rfl, rfl⟩
theorem i64_any {s : ByteArray} {w : World} (hs : s.size < 4611686018427387904) : Calls Tryd.prog 18 #[.string s] w (I64Post s w) := by
  refine spec_Int64.calls _ ?_
  refine s_sign ?_
  refine s_tail ?_
  simp only [spec_Int64.t2]
  refine s_call (u64_any (by have := tailS_size s; omega)) ?_
  rintro e w1 ⟨rfl, rfl⟩
  refine ⟨((((u64O (tailS s)).getD 0 : Nat) : Int), (u64O (tailS s)).isSome, ()), rfl, ?_⟩
  rw [u64_tail]
  by_cases hd : (decB s && decide (vOf s < 18446744073709551616)) = true
  · rw [if_pos hd]
    obtain ⟨hd, hv⟩ : decB s = true ∧ vOf s < 18446744073709551616 := by simpa using hd
    simp only [Option.getD_some, Option.isSome_some, Bool.not_true, sat_iteF]
    refine s_cut (fun x w' => x = (neg s && decide (vOf s ≤ 9223372036854775808), ()) ∧ w1 = w') ?_ ?_
    · cases neg s with
      | true =>
        simp only [sat_iteT, sat_leaf, if_true]
        refine ⟨(decide (((vOf s : Nat) : Int) ≤ 9223372036854775808), ()), rfl, ?_, trivial⟩
        simp only [Bool.true_and]
        congr 1
        exact decide_eq_decide.2 (by omega)
      | false =>
        simp only [sat_iteF, sat_leaf, if_true]
        exact ⟨(false, ()), rfl, rfl, trivial⟩
    · rintro x w' ⟨rfl, rfl⟩
      simp only [spec_Int64.t3]
      cases hn : neg s with
      | true =>
        simp only [Bool.true_and, Bool.not_true, sat_iteF, sat_iteD]
        refine ⟨fun h1 => s_leaf ⟨rfl, i64_some ?_⟩, fun h1 => s_leaf ⟨rfl, i64_none (i64O_noRng ?_)⟩⟩
        · rw [i64O_some hd (by rw [hn]; simpa [rng] using h1), hn]
          congr 1
          simp only [sgn, if_true]
          rw [IntKind.wrap_u64, IntKind.wrap_i64]
          omega
        · rw [hn]; simpa [rng] using h1
      | false =>
        simp only [Bool.false_and, Bool.not_false, sat_iteF, sat_iteT, sat_iteD]
        refine ⟨fun h1 => s_leaf ⟨rfl, i64_some ?_⟩, fun h1 => s_leaf ⟨rfl, i64_none (i64O_noRng ?_)⟩⟩
        · rw [i64O_some hd (by rw [hn]; simp [rng]; omega), hn]
          congr 1
          simp only [sgn]
          rw [wrap_in (by omega) (by omega)]
          rfl
        · rw [hn]; simp [rng]; omega
  · rw [if_neg hd]
    simp only [Option.getD_none, Option.isSome_none, Bool.not_false, sat_iteT, sat_leaf]
    refine ⟨trivial, i64_none ?_⟩
    unfold i64O
    rw [if_neg]
    intro e
    simp only [Bool.and_eq_true] at e
    refine hd ?_
    simp only [Bool.and_eq_true, decide_eq_true_eq]
    refine ⟨e.1, ?_⟩
    rcases Nat.lt_or_ge (vOf s) 18446744073709551616 with h | h
    · exact h
    · have := rng_big (b := neg s) (n := vOf s) (by omega)
      rw [this] at e; cases e.2
end Go.Proofs.YtlhhmgopfilgpaaDoor.Ui
