/- fastfloat.ParseUint64; fastjson's Uint64 and Uint of a number made of a text. No statement of the set is proved here. -/
import Derived.Test.YtbmmpnjpejamaaaDoorNv
import Derived.Test.YtbmmpnjpejamaaaDoorSf
import Derived.Test.YtbmmpnjpejamaaaDoorSh
namespace Go.Proofs.YtbmmpnjpejamaaaDoor.Nu
open Go Go.Proofs Go.RowKit Go.Proofs.YtbmmpnjpejamaaaDoor.Rx Go.Proofs.YtbmmpnjpejamaaaDoor.Tr Go.Proofs.YtbmmpnjpejamaaaDoor.Pl Go.Proofs.YtbmmpnjpejamaaaDoor.Ui

def gSyn : Nat := 5
def gRng : Nat := 6
/-- An error stands in a variable. -/
def Ev (w : World) (g : Nat) : Prop := ∃ t v, w.cell? ⟨g, 0, none⟩ = some (.iface t v)
theorem cell_lt {w : World} {a : Addr} {v : Value} (h : w.cell? a = some v) : a.block < w.heap.size := by
  rcases Nat.lt_or_ge a.block w.heap.size with g | g
  · exact g
  · unfold World.cell? at h; rw [Array.getElem?_eq_none g] at h; cases h
theorem Ev.kp {S : Nat → Prop} {w w' : World} {g : Nat} (h : Ev w g) (k : Kp S w w') (hS : ¬ S g) : Ev w' g := by
  obtain ⟨t, v, h⟩ := h
  exact ⟨t, v, by rw [k.cell (cell_lt h) hS]; exact h⟩
theorem new_err (t : ByteArray) (w : World) : Calls Tryd.prog 52 #[.string t] w fun e w' => (∃ u p, e = .returned (.iface u p)) ∧ Kp Off w w' := by
  refine errors_New.calls _ ?_
  unfold errors_New.t
  exact s_alloc (s_leaf ⟨rfl, ⟨_, _, rfl⟩, (Kp.refl Off w).alloc _⟩)
/-- What a reader of whole numbers says. -/
def NPost (s : ByteArray) (e : Ending) : Prop := match u64O s with
  | some u => e = .returned (.tuple #[.int .u64 u, .nilIface])
  | none => ∃ x t p, e = .returned (.tuple #[.int .u64 x, .iface t p])
theorem NPost.bad {s : ByteArray} {x : Int} {t : TypeId} {p : Value} (h : u64O s = none) : NPost s (.returned (retVal [.int .u64 x, .iface t p])) := by
  unfold NPost; rw [h]; exact ⟨x, t, p, rfl⟩
theorem parse_any {s : ByteArray} {w : World} (h0 : 0 < s.size) (hs : s.size ≤ 1000) (hS : Ev w gSyn) (hR : Ev w gRng) :
    Calls Tryd.prog 76 #[.string s, .int .i64 10, .int .i64 64] w fun e w' => NPost s e ∧ Kp Off w w' := by
  unfold NPost
  obtain ⟨ts, vs, hS⟩ := hS
  obtain ⟨tr, vr, hR⟩ := hR
  rcases agree h0 with ⟨u, h1, h2⟩ | ⟨h1, h2 | h2⟩
  · rw [h1]
    refine (Tryd.strconv_ParseUint_10_at64_ok s (by omega) u h2 w).mono ?_
    rintro e w' ⟨rfl, rfl | rfl⟩
    · exact ⟨rfl, Kp.refl _ _⟩
    · exact ⟨rfl, rfl, rfl, rfl, by rw [Lib.bytesWorld_size]; omega, fun k hk _ => Lib.bytesWorld_at_old w _ s k hk⟩
  · rw [h1]
    refine (Tryd.strconv_ParseUint_10_at64_range s (by omega) h2 _ w hR (.inr ⟨_, _, rfl⟩)).mono ?_
    rintro e w' ⟨N, rfl, _, _, hb⟩
    exact ⟨⟨_, _, _, rfl⟩, Kp.of_below hb⟩
  · rw [h1]
    refine (Tryd.strconv_ParseUint_10_at64_syntax s (by omega) h2 _ w hS (.inr ⟨_, _, rfl⟩)).mono ?_
    rintro e w' ⟨N, rfl, _, _, hb⟩
    exact ⟨⟨_, _, _, rfl⟩, Kp.of_below hb⟩
theorem fast_any {s : ByteArray} {w : World} (hs : s.size ≤ 1000) (hS : Ev w gSyn) (hR : Ev w gRng) :
    Calls Tryd.prog 56 #[.string s] w fun e w' => NPost s e ∧ Kp Off w w' := by
  refine fastfloat_ParseUint64.calls _ ?_
  unfold fastfloat_ParseUint64.t
  refine s_iteE (fun hz => ?_) (fun hz => ?_)
  · have hz0 : ¬ 0 < s.size := by omega
    have hn : u64O s = none := by unfold u64O; rw [if_neg]; simp [hz0]
    refine s_call (new_err _ _) ?_
    rintro e w1 ⟨⟨t, p, rfl⟩, k1⟩
    exact ⟨Value.iface t p, rfl, s_leaf ⟨rfl, .bad hn, k1⟩⟩
  have h0 : 0 < s.size := by omega
  have wz : IntKind.wrap IntKind.u64 (((ByteArray.size s : Nat)) : Int) = ((s.size : Nat) : Int) := wrapU_in (by omega) (by omega)
  refine s_cut (fun x w' => ∃ k : Nat, x = (((dv s 0 k : Nat) : Int), (k : Int), ()) ∧ k ≤ s.size ∧ allD s 0 k ∧ dv s 0 k < 18446744073709551616 ∧ (k = s.size ∨ (k < s.size ∧ isDig (bt s (k : Int)) = false)) ∧ w = w') ?_ ?_
  rotate_left
  · rintro x w1 ⟨k, rfl, hk, hd, hv, hend, rfl⟩
    simp only [fastfloat_ParseUint64.t3, wz]
    refine s_iteD (fun h1 => ?_) (fun h1 => ?_)
    · have hn : u64O s = none := by
        rcases hend with e | ⟨e1, e2⟩
        · omega
        · exact u64O_bad e1 e2
      refine s_call (new_err _ _) ?_
      rintro e w1 ⟨⟨t, p, rfl⟩, k1⟩
      exact ⟨Value.iface t p, rfl, s_leaf ⟨rfl, .bad hn, k1⟩⟩
    refine s_iteD (fun h2 => ?_) (fun h2 => s_leaf ⟨rfl, ?_, Kp.refl _ _⟩)
    · have hn : u64O s = none := by
        rcases hend with e | ⟨e1, e2⟩
        · omega
        · exact u64O_bad e1 e2
      refine s_call (new_err _ _) ?_
      rintro e w1 ⟨⟨t, p, rfl⟩, k1⟩
      exact ⟨Value.iface t p, rfl, s_leaf ⟨rfl, .bad hn, k1⟩⟩
    · have e : k = s.size := by omega
      subst e
      unfold NPost
      rw [u64O_ok h0 hd hv]; rfl
  refine s_loop (fun n x w' => ∃ k : Nat, x = ((k : Int), ((dv s 0 k : Nat) : Int), ()) ∧ n = s.size - k ∧ k ≤ s.size ∧ k ≤ 18 ∧ allD s 0 k ∧ w = w') s.size ((0 : Int), (0 : Int), ()) rfl ⟨0, rfl, rfl, Nat.zero_le _, Nat.zero_le _, allD_zero s 0, rfl⟩ ?_
  rintro n x w1 ⟨k, rfl, rfl, hk, h18, hd, rfl⟩
  have hdv : dv s 0 k < 10 ^ k := dv_lt fun j hj => by
    rw [Nat.zero_add]; exact hd j (Nat.zero_le _) hj
  have hdv : dv s 0 k < 1000000000000000000 := Nat.lt_of_lt_of_le hdv (Nat.pow_le_pow_right (by decide) h18)
  simp only [fastfloat_ParseUint64.t1, wz]
  have hr := bt_range s (k : Int)
  have stop : (k = s.size ∨ (k < s.size ∧ isDig (bt s (k : Int)) = false)) → ∃ x : (Sh.cons (.int .u64) (.cons (.int .u64) .nil)).Ty, [Value.int .u64 ((dv s 0 k : Nat) : Int), .int .u64 (k : Int)] = (Sh.cons (.int .u64) (.cons (.int .u64) .nil)).vals x ∧ ∃ k : Nat, x = (((dv s 0 k : Nat) : Int), (k : Int), ()) ∧ k ≤ s.size ∧ allD s 0 k ∧ dv s 0 k < 18446744073709551616 ∧ (k = s.size ∨ (k < s.size ∧ isDig (bt s (k : Int)) = false)) ∧ w = w :=
    fun h => ⟨(((dv s 0 k : Nat) : Int), (k : Int), ()), rfl, k, rfl, hk, hd, by omega, h, rfl⟩
  refine s_iteD (fun h1 => ?_) (fun h1 => s_leaf ?_)
  rotate_left
  · rw [if_neg (by decide), if_pos rfl]
    exact stop (.inl (by omega))
  have hlt : k < s.size := by omega
  refine s_cut (fun x w' => x = (isDig (bt s (k : Int)), ()) ∧ w = w') ?_ ?_
  · refine s_chk (by omega) ?_
    refine s_iteD (fun h2 => s_chk (by omega) (s_leaf ?_)) (fun h2 => s_leaf ?_)
    · rw [if_pos rfl]
      refine ⟨(decide (bt s (k : Int) ≤ 57), ()), rfl, bpair ?_, rfl⟩
      rw [isDig_iff, decide_eq_true_eq]; omega
    · rw [if_pos rfl]
      have e : false = isDig (bt s (k : Int)) := by
        cases hx : isDig (bt s (k : Int)) with
        | false => rfl
        | true => have := isDig_iff.1 hx; omega
      exact ⟨(false, ()), rfl, congrArg (fun b => (b, ())) e, rfl⟩
  rintro x w1 ⟨rfl, rfl⟩
  simp only [fastfloat_ParseUint64.t2]
  cases hD : isDig (bt s (k : Int)) with
  | false =>
    refine sat_iteF.2 (s_leaf ?_)
    rw [if_neg (by decide), if_pos rfl]
    exact stop (.inr ⟨hlt, hD⟩)
  | true =>
    have hb := isDig_iff.1 hD
    have hstep : ((dv s 0 (k + 1) : Nat) : Int) = (dv s 0 k : Int) * 10 + (bt s (k : Int) - 48) := by
      have := dv_step (s := s) (i := 0) (n := k) (by rw [Nat.zero_add]; exact hD)
      rw [Nat.zero_add] at this; exact this
    have wk : IntKind.wrap IntKind.u64 ((k : Int) + 1) = ((k + 1 : Nat) : Int) := wrapU_in (by omega) (by omega)
    rw [wk]
    refine sat_iteT.2 (s_chk (by omega) ?_)
    refine s_iteD (fun h2 => ?_) (fun h2 => s_leaf ?_)
    · refine s_call (parse_any h0 hs hS hR) ?_
      rintro e w1 ⟨hP, k1⟩
      unfold NPost at hP
      cases hu : u64O s with
      | some u =>
        rw [hu] at hP
        subst hP
        refine ⟨((u : Int), Value.nilIface, ()), rfl, s_chk rfl (sat_iteF.2 (s_leaf ?_))⟩
        rw [if_neg (by decide), if_neg (by decide)]
        exact ⟨rfl, by unfold NPost; rw [hu]; rfl, k1⟩
      | none =>
        rw [hu] at hP
        obtain ⟨x, t, p, rfl⟩ := hP
        refine ⟨(x, Value.iface t p, ()), rfl, s_chk rfl (sat_iteT.2 (s_leaf ?_))⟩
        rw [if_neg (by decide), if_neg (by decide)]
        exact ⟨rfl, .bad hu, k1⟩
    · rw [if_pos rfl]
      have e1 : IntKind.wrap .u8 (bt s (k : Int) - 48) = bt s (k : Int) - 48 := wrapB_in (by omega) (by omega)
      have e2 : IntKind.wrap .u64 (bt s (k : Int) - 48) = bt s (k : Int) - 48 := wrapU_in (by omega) (by omega)
      rw [e1, e2, wrapU_in (n := (dv s 0 k : Int) * 10) (by omega) (by omega), wrapU_in (n := (dv s 0 k : Int) * 10 + (bt s (k : Int) - 48)) (by omega) (by omega), ← hstep]
      exact ⟨s.size - (k + 1), (((k + 1 : Nat) : Int), ((dv s 0 (k + 1) : Nat) : Int), ()), rfl, by omega, k + 1, rfl, rfl, hlt, by omega, allD_snoc hd hD, rfl⟩
end Go.Proofs.YtbmmpnjpejamaaaDoor.Nu
