/- The reference's Uint64 (the first part of XUi). No statement of the set is proved here. -/
import Derived.Test.YtbmmpnjpejamaaaDoorPd
import Derived.Test.YtbmmpnjpejamaaaDoorTr
namespace Go.Proofs.YtbmmpnjpejamaaaDoor.Ui
open Go Go.Proofs Go.Proofs.YtbmmpnjpejamaaaDoor.Rx Go.Proofs.YtbmmpnjpejamaaaDoor.Tr Go.Proofs.YtbmmpnjpejamaaaDoor.Pl

theorem empty_iff {s : ByteArray} : s = ByteArray.mk #[] ↔ s.size = 0 := by
  constructor
  · rintro rfl; rfl
  · intro h
    cases s with
    | mk d => congr 1; exact Array.eq_empty_of_size_eq_zero h
theorem allD_zero (s : ByteArray) (i : Nat) : allD s i i := fun k h1 h2 => by omega
theorem u64O_bad {s : ByteArray} {j : Nat} (h2 : j < s.size) (h : isDig (bt s (j : Int)) = false) : u64O s = none := by
  unfold u64O
  rw [if_neg]
  intro e
  simp only [Bool.and_eq_true, beq_iff_eq] at e
  have := allD_digs s 0 j (Nat.zero_le _) (by omega)
  rw [this] at h; cases h
theorem u64O_over {s : ByteArray} {j : Nat} (h2 : j ≤ s.size) (h : 18446744073709551616 ≤ dv s 0 j) : u64O s = none := by
  unfold u64O
  rw [if_neg]
  intro e
  simp only [Bool.and_eq_true, decide_eq_true_eq] at e
  have := dv_mono s 0 h2
  omega
theorem u64O_ok {s : ByteArray} (h0 : 0 < s.size) (h : allD s 0 s.size) (hv : dv s 0 s.size < 18446744073709551616) : u64O s = some (dv s 0 s.size) := by
  unfold u64O
  have : digs s 0 = s.size := by rw [digs_of_allD (Nat.zero_le _) h, digs_end (Nat.le_refl _)]
  rw [if_pos]
  simp [this, h0, hv]
def U64Post (s : ByteArray) (w : World) (e : Ending) (w' : World) : Prop :=
  e = .returned (retVal [.int .u64 (((u64O s).getD 0 : Nat) : Int), .bool (u64O s).isSome]) ∧ w' = w
theorem u64_none {s : ByteArray} {w : World} (h : u64O s = none) : U64Post s w (.returned (retVal [.int .u64 0, .bool false])) w := by
  unfold U64Post; rw [h]; exact ⟨rfl, rfl⟩
theorem u64_any {s : ByteArray} {w : World} (hs : s.size < 4611686018427387904) : Calls Tryd.prog 16 #[.string s] w (U64Post s w) := by
  refine spec_Uint64.calls _ ?_
  simp only [spec_Uint64.t, sat_iteS]
  refine ⟨fun h => ?_, fun h => ?_⟩
  · refine s_leaf ⟨rfl, u64_none ?_⟩
    subst h; rfl
  have h0 : 0 < s.size := Nat.pos_of_ne_zero fun e => h (empty_iff.2 e)
  refine s_loop (fun n x w' => ∃ k : Nat, x = ((k : Int), ((dv s 0 k : Nat) : Int), ()) ∧ k ≤ s.size ∧ n = s.size - k ∧ allD s 0 k ∧ dv s 0 k < 18446744073709551616 ∧ w = w') s.size ((0 : Int), (0 : Int), ()) rfl
    ⟨0, rfl, Nat.zero_le _, rfl, allD_zero _ _, by simp [dv], rfl⟩ ?_
  rintro n x w1 ⟨k, rfl, hk, rfl, hd, hv, rfl⟩
  simp only [spec_Uint64.t1]
  refine s_iteD (fun h1 => ?_) (fun h1 => ?_)
  · have hlt : k < s.size := by omega
    have hr := bt_range s (k : Int)
    refine s_cut (fun x w' => x = (!isDig (bt s (k : Int)), ()) ∧ w = w') ?_ ?_
    · refine s_chk (by omega) ?_
      refine s_iteD (fun h2 => ?_) (fun h2 => ?_)
      · refine s_leaf ?_; rw [if_pos rfl]
        exact ⟨(true, ()), rfl, by rw [dig_lo h2]; rfl, rfl⟩
      · refine s_chk (by omega) (s_leaf ?_); rw [if_pos rfl]
        exact ⟨(decide ((57 : Int) < bt s (k : Int)), ()), rfl, by rw [dig_hi (by omega)]; rfl, rfl⟩
    · rintro x w1 ⟨rfl, rfl⟩
      simp only [spec_Uint64.t2]
      cases hD : isDig (bt s (k : Int)) with
      | false =>
        simp only [Bool.not_false, sat_iteT, sat_leaf]
        rw [if_neg (by decide)]
        exact ⟨trivial, u64_none (u64O_bad hlt hD)⟩
      | true =>
        simp only [Bool.not_true, sat_iteF]
        have hb := isDig_iff.1 hD
        have hstep : ((dv s 0 (k + 1) : Nat) : Int) = (dv s 0 k : Int) * 10 + (bt s (k : Int) - 48) := by
          have := dv_step (s := s) (i := 0) (n := k) (by rw [Nat.zero_add]; exact hD)
          rw [Nat.zero_add] at this; exact this
        refine s_chk (by omega) (s_chk (by decide) ?_)
        have e1 : IntKind.wrap .u8 (bt s (k : Int) - 48) = bt s (k : Int) - 48 := wrapB_in (by omega) (by omega)
        have e2 : IntKind.wrap .u64 (bt s (k : Int) - 48) = bt s (k : Int) - 48 := wrapU_in (by omega) (by omega)
        have e3 : IntKind.wrap .u64 ((18446744073709551615 : Int) - (bt s (k : Int) - 48)) = 18446744073709551615 - (bt s (k : Int) - 48) := wrapU_in (by omega) (by omega)
        rw [e1, e2, e3, IntWalk.u64_quo _ _ (by omega)]
        refine s_iteD (fun h2 => ?_) (fun h2 => ?_)
        · refine s_leaf ?_
          rw [if_neg (by decide)]
          exact ⟨rfl, u64_none (u64O_over (j := k + 1) hlt (by omega))⟩
        · refine s_leaf ?_
          rw [if_pos rfl, wrapU_in (n := (dv s 0 k : Int) * 10) (by omega) (by omega), wrapU_in (by omega) (by omega), wrap_in (by omega) (by omega)]
          refine ⟨s.size - (k + 1), (((k + 1 : Nat) : Int), ((dv s 0 (k + 1) : Nat) : Int), ()), ?_, by omega, k + 1, rfl, hlt, rfl, allD_snoc hd hD, by omega, rfl⟩
          rw [hstep]; rfl
  · have : k = s.size := by omega
    subst this
    refine s_leaf ?_
    rw [if_neg (by decide)]
    refine ⟨rfl, ?_⟩
    unfold U64Post
    rw [u64O_ok h0 hd hv]
    exact ⟨rfl, rfl⟩
end Go.Proofs.YtbmmpnjpejamaaaDoor.Ui
