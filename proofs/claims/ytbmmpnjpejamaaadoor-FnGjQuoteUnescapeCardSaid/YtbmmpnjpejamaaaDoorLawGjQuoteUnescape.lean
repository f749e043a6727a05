/- The law FnGjQuoteUnescape: its walk. No condition beyond the statement's own guards. -/
import Derived.Test.YtbmmpnjpejamaaaDoorGw
import Derived.Test.YtbmmpnjpejamaaaDoorGv
import Derived.Test.YtbmmpnjpejamaaaDoorRows
import Derived.Lib.LaidU8
import Derived.Lib.LaidTab
import Derived.Stop.LaidErr
import Derived.OpenShut
namespace Go.Proofs.YtbmmpnjpejamaaaDoor.LawGjQuoteUnescape
open Go Go.Proofs Go.RowKit Go.Proofs.YtbmmpnjpejamaaaDoor.Rx Go.Proofs.YtbmmpnjpejamaaaDoor.Tr Go.Proofs.YtbmmpnjpejamaaaDoor.Pl Go.Proofs.YtbmmpnjpejamaaaDoor.Ut Go.Proofs.YtbmmpnjpejamaaaDoor.Ms Go.Proofs.YtbmmpnjpejamaaaDoor.Ch Go.Proofs.YtbmmpnjpejamaaaDoor.Bw Go.Proofs.YtbmmpnjpejamaaaDoor.Uq Go.Proofs.YtbmmpnjpejamaaaDoor.Gq Go.Proofs.YtbmmpnjpejamaaaDoor.Ql Go.Proofs.YtbmmpnjpejamaaaDoor.Gu Go.Proofs.YtbmmpnjpejamaaaDoor.Gw

theorem tmod_par {n : Nat} : (Int.tmod ((n : Nat) : Int) (2 : Int) == (0 : Int)) = decide (n % 2 = 0) := by
  have : Int.tmod ((n : Nat) : Int) (2 : Int) = ((n % 2 : Nat) : Int) := by
    rw [Int.tmod_eq_emod_of_nonneg (by omega)]; omega
  rw [this]
  rcases Nat.mod_two_eq_zero_or_one n with g | g <;> simp [g]
theorem squash_any {o : ByteArray} {e : Nat} {w : World} (h0 : bt o (0 : Nat) = 34) (hE : QEnd o e) (hz : o.size ≤ 1000000000) :
    Calls Tryd.prog 66 #[.string o] w fun en w' => en = .returned (.string (o.extract 0 (e + 1))) ∧ w = w' := by
  have hlt := hE.lt
  have hpos := hE.pos
  refine gjson_squash.calls _ ?_
  unfold gjson_squash.t
  refine s_chk (by omega) ?_
  refine s_cut (fun x w' => x = ((0 : Int), (0 : Int), ()) ∧ w = w') ?_ ?_
  · refine s_iteN (fun h => absurd h0 h) (fun _ => s_leaf ?_)
    rw [if_pos rfl]; exact ⟨((0 : Int), (0 : Int), ()), rfl, rfl, rfl⟩
  rintro x w1 ⟨rfl, rfl⟩
  simp only [gjson_squash.t1]
  refine s_loop (fun n x w' => n = 0 ∧ x = ((0 : Int), (0 : Int), ()) ∧ w = w') 0 ((0 : Int), (0 : Int), ()) rfl ⟨rfl, rfl, rfl⟩ ?_
  rintro n x w1 ⟨rfl, rfl, rfl⟩
  simp only [gjson_squash.t2]
  refine s_iteD (fun _ => ?_) (fun h => by omega)
  refine s_cut (fun x w' => x = (true, ()) ∧ w = w') ?_ ?_
  · have h0' : bt o 0 = 34 := h0
    refine s_chk (by omega) (s_iteD (fun _ => s_chk (by omega) (s_leaf ?_)) (fun h => by omega))
    rw [if_pos rfl]
    exact ⟨(true, ()), by rw [h0']; rfl, rfl, rfl⟩
  rintro x w1 ⟨rfl, rfl⟩
  simp only [gjson_squash.t3]
  refine sat_iteT.2 (s_chk (by omega) (s_iteE (fun _ => ?_) (fun h => absurd h0 h)))
  refine s_cut (fun x w' => x = (((e : Nat) : Int), ()) ∧ w = w') ?_ ?_
  · refine s_loop (fun n x w' => ∃ i : Nat, n = o.size - i ∧ x = (((i : Nat) : Int), ()) ∧ 1 ≤ i ∧ i ≤ e ∧ w = w') (o.size - 1) ((1 : Int), ()) rfl ⟨1, rfl, rfl, Nat.le_refl _, hpos, rfl⟩ ?_
    rintro n x w1 ⟨i, rfl, rfl, h1, h2, rfl⟩
    simp only [gjson_squash.t4]
    have hbt : bt o (i : Int) = ((bn o i : Nat) : Int) := bt_bn o i
    have next : i < e → ∃ n' x', [Value.int IntKind.i64 (IntKind.wrap IntKind.i64 ((i : Int) + 1))] = (Sh.cons (.int .i64) .nil).vals x' ∧ n' < o.size - i ∧ ∃ i : Nat, n' = o.size - i ∧ x' = (((i : Nat) : Int), ()) ∧ 1 ≤ i ∧ i ≤ e ∧ w = w := by
      intro hie
      have : IntKind.wrap IntKind.i64 ((i : Int) + 1) = ((i + 1 : Nat) : Int) := by rw [wrap_in (by omega) (by omega)]; omega
      rw [this]
      exact ⟨o.size - (i + 1), (((i + 1 : Nat) : Int), ()), rfl, by omega, i + 1, rfl, rfl, by omega, by omega, rfl⟩
    refine s_iteD (fun _ => s_chk (by omega) ?_) (fun h => by omega)
    refine s_iteD (fun g => s_leaf ?_) (fun _ => s_chk (by omega) ?_)
    · have hie : i < e := by
        rcases Nat.lt_or_ge i e with g' | g'
        · exact g'
        · have : i = e := by omega
          subst this
          rw [hbt, hE.mark] at g; omega
      rw [if_pos rfl]; exact next hie
    refine s_iteE (fun g34 => ?_) (fun g34 => s_leaf ?_)
    rotate_left
    · have hie : i < e := by
        rcases Nat.lt_or_ge i e with g' | g'
        · exact g'
        · have : i = e := by omega
          subst this
          rw [hbt, hE.mark] at g34; exact absurd rfl g34
      rw [if_pos rfl]; exact next hie
    have hm34 : bn o i = 34 := by omega
    have w1 : IntKind.wrap IntKind.i64 ((i : Int) - 1) = ((i - 1 : Nat) : Int) := by rw [wrap_in (by omega) (by omega)]; omega
    have hbt1 : bt o ((i - 1 : Nat) : Int) = ((bn o (i - 1) : Nat) : Int) := bt_bn o (i - 1)
    rw [w1]
    refine s_chk (by omega) ?_
    rw [hbt1]
    -- the end
    have fin : par o i = false → i = e := fun hp => by
      rcases Nat.lt_or_ge i e with g' | g'
      · have := hE.first i h1 g' hm34; rw [hp] at this; cases this
      · omega
    have out : par o i = false → ∃ x, [Value.int IntKind.i64 (i : Int)] = (Sh.cons (.int .i64) .nil).vals x ∧ x = (((e : Nat) : Int), ()) ∧ w = w := by
      intro hp
      have := fin hp
      subst this
      exact ⟨_, rfl, rfl, rfl⟩
    have more : par o i = true → i < e := fun hp => by
      rcases Nat.lt_or_ge i e with g' | g'
      · exact g'
      · have : i = e := by omega
        subst this
        rw [hE.even] at hp; cases hp
    refine s_iteE (fun g92 => ?_) (fun g92 => s_leaf ?_)
    rotate_left
    · have hp : par o i = false := by
        obtain ⟨q, rfl⟩ : ∃ q, i = q + 1 := ⟨i - 1, by omega⟩
        exact par_no (by have e2 : q + 1 - 1 = q := by omega
                         rw [e2] at g92; omega)
      rw [if_neg (by decide), if_pos rfl]; exact out hp
    have hb92 : bn o (i - 1) = 92 := by omega
    have hi2 : 2 ≤ i := by
      rcases Nat.lt_or_ge 1 i with g' | g'
      · exact g'
      · have : i - 1 = 0 := by omega
        rw [this] at hbt1 hb92
        have h0' : bt o ((0 : Nat) : Int) = 34 := h0
        rw [hb92] at hbt1
        omega
    have w2 : IntKind.wrap IntKind.i64 ((i : Int) - 2) = ((i - 2 : Nat) : Int) := by rw [wrap_in (by omega) (by omega)]; omega
    rw [w2]
    refine s_loop (fun m x w' => ∃ (n j : Nat), m = j ∧ x = (((n : Nat) : Int), ((j : Nat) : Int), ()) ∧ n + j ≤ i ∧ j + 1 ≤ i ∧ par o i = (!(xor (par o (j + 1)) (decide (n % 2 = 1)))) ∧ w = w') (i - 2) ((0 : Int), ((i - 2 : Nat) : Int), ()) rfl
      ⟨0, i - 2, rfl, rfl, by omega, by omega, par_start hi2 hb92, rfl⟩ ?_
    rintro m x w3 ⟨n, j, rfl, rfl, hnj, hji, hpar, rfl⟩
    simp only [gjson_squash.t5]
    have wj : IntKind.wrap IntKind.i64 (IntKind.wrap IntKind.i64 ((0 : Int) + 1) - 1) = 0 := rfl
    rw [wj]
    have stop : (m = 0 ∨ bn o m ≠ 92) → par o i = decide (n % 2 = 0) := fun hs => par_stop hs hpar
    refine s_iteD (fun gj => s_chk (by omega) ?_) (fun gj => s_chk (by decide) ?_)
    · have hbj : bt o ((m : Nat) : Int) = ((bn o m : Nat) : Int) := bt_bn o m
      rw [hbj]
      refine s_iteN (fun gn => s_chk (by decide) ?_) (fun gn => s_leaf ?_)
      · rw [tmod_par]
        have hp := stop (.inr (by omega))
        refine s_iteD (fun g => s_leaf ?_) (fun g => s_leaf ?_)
        · rw [if_neg (by decide), if_pos rfl]; exact next (more (by rw [hp]; exact decide_eq_true g))
        · rw [if_neg (by decide), if_neg (by decide), if_pos rfl]; exact out (by rw [hp]; exact decide_eq_false g)
      · rw [if_pos rfl]
        have wn : IntKind.wrap IntKind.i64 (((n : Nat) : Int) + 1) = ((n + 1 : Nat) : Int) := by rw [wrap_in (by omega) (by omega)]; omega
        have wm : IntKind.wrap IntKind.i64 (((m : Nat) : Int) - 1) = ((m - 1 : Nat) : Int) := by rw [wrap_in (by omega) (by omega)]; omega
        rw [wn, wm]
        have e1 : m - 1 + 1 = m := by omega
        refine ⟨m - 1, _, rfl, by omega, n + 1, m - 1, rfl, rfl, by omega, by omega, ?_, rfl⟩
        rw [e1]
        exact par_count (by omega) (by omega) hpar
    · rw [tmod_par]
      have hp := stop (.inl (by omega))
      refine s_iteD (fun g => s_leaf ?_) (fun g => s_leaf ?_)
      · rw [if_neg (by decide), if_pos rfl]; exact next (more (by rw [hp]; exact decide_eq_true g))
      · rw [if_neg (by decide), if_neg (by decide), if_pos rfl]; exact out (by rw [hp]; exact decide_eq_false g)
  rintro x w1 ⟨rfl, rfl⟩
  simp only [gjson_squash.t6]
  refine s_iteE (fun _ => ?_) (fun h => absurd rfl h)
  refine s_iteD (fun h => by omega) (fun _ => ?_)
  have we : IntKind.wrap IntKind.i64 (((e : Nat) : Int) + 1) = ((e + 1 : Nat) : Int) := by rw [wrap_in (by omega) (by omega)]; omega
  rw [we, Int.toNat_natCast]
  refine s_chk (by omega) (s_leaf ?_)
  exact ⟨rfl, rfl, rfl⟩
theorem uo_all {o : ByteArray} : ∀ (n p : Nat), o.size - p = n → (∀ i, p ≤ i → i < o.size → bn o i ≠ 92) → uo o p = some (tl o p)
  | 0, p, hn, _ => by rw [uo_end (by omega), tl_end (by omega)]
  | n + 1, p, hn, h => by
    have hp : p < o.size := by omega
    rw [uo_plain hp (h p (Nat.le_refl _) hp), uo_all n (p + 1) (by omega) (fun i h1 h2 => h i (by omega) h2), tl_on hp]; rfl
theorem w_up {k : Nat} (h : k < 1000000000) : IntKind.wrap IntKind.i64 ((k : Int) + 1) = ((k + 1 : Nat) : Int) := by rw [wrap_in (by omega) (by omega)]; omega
theorem w_dn {k c : Nat} (h : k < 1000000000) (hc : c ≤ k) : IntKind.wrap IntKind.i64 ((k : Int) - (c : Int)) = ((k - c : Nat) : Int) := by rw [wrap_in (by omega) (by omega)]; omega
theorem bn_ext {o : ByteArray} {a b i : Nat} (hi : i < b - a) : bn (o.extract a b) i = bn o (a + i) := by
  have h := extract_tl o a (b - a)
  rw [show a + (b - a) = b by omega] at h
  show ((o.extract a b).data.toList.getD i 0).toNat = (o.data.toList.getD (a + i) 0).toNat
  rw [h, List.getD_eq_getElem?_getD, List.getElem?_take_of_lt hi, List.getD_eq_getElem?_getD]
  show (((o.data.toList.drop a)[i]?).getD 0).toNat = _
  rw [List.getElem?_drop]
theorem tostr_any {o : ByteArray} {e : Nat} {r : List UInt8} {w : World} (hE : QEnd o e) (hz : o.size ≤ 100000) (hsf : sf (o.extract 1 e) 0 = true) (hr : uo (o.extract 1 e) 0 = some r) :
    Calls Tryd.prog 67 #[.string o] w fun en w' => en = .returned (.tuple #[.string (o.extract 0 (e + 1)), .string ⟨r.toArray⟩]) ∧ Kp Off w w' := by
  have hlt := hE.lt
  have hpos := hE.pos
  have hxs : (o.extract 1 e).size = e - 1 := by rw [ByteArray.size_extract]; omega
  refine gjson_tostr.calls _ ?_
  unfold gjson_tostr.t
  refine s_loop (fun n x w' => ∃ i : Nat, n = o.size - i ∧ x = (((i : Nat) : Int), ()) ∧ 1 ≤ i ∧ i ≤ e ∧ (∀ j, 1 ≤ j → j < i → bn o j ≠ 92) ∧ w = w') (o.size - 1) ((1 : Int), ()) rfl ⟨1, rfl, rfl, Nat.le_refl _, hpos, fun j h1 h2 => by omega, rfl⟩ ?_
  rintro n x w1 ⟨i, rfl, rfl, h1, h2, hno, rfl⟩
  simp only [gjson_tostr.t1]
  have hbt : bt o (i : Int) = ((bn o i : Nat) : Int) := bt_bn o i
  have wi : IntKind.wrap IntKind.i64 ((i : Int) + 1) = ((i + 1 : Nat) : Int) := by rw [wrap_in (by omega) (by omega)]; omega
  have next : bn o i ≠ 34 → bn o i ≠ 92 → ∃ n' x', [Value.int IntKind.i64 ((i + 1 : Nat) : Int)] = (Sh.cons (.int .i64) .nil).vals x' ∧ n' < o.size - i ∧ ∃ i : Nat, n' = o.size - i ∧ x' = (((i : Nat) : Int), ()) ∧ 1 ≤ i ∧ i ≤ e ∧ (∀ j, 1 ≤ j → j < i → bn o j ≠ 92) ∧ w = w := by
    intro h34 h92
    have hie : i < e := by
      rcases Nat.lt_or_ge i e with g' | g'
      · exact g'
      · have : i = e := by omega
        subst this
        exact absurd hE.mark h34
    refine ⟨o.size - (i + 1), (((i + 1 : Nat) : Int), ()), rfl, by omega, i + 1, rfl, rfl, by omega, by omega, fun j g1 g2 => ?_, rfl⟩
    rcases Nat.lt_or_ge j i with g | g
    · exact hno j g1 g
    · have : j = i := by omega
      subst this; exact h92
  rw [hbt]
  refine s_iteD (fun _ => s_chk (by omega) ?_) (fun h => by omega)
  rw [wi]
  refine s_iteD (fun g => s_leaf ?_) (fun _ => s_chk (by omega) ?_)
  · rw [if_pos rfl]; exact next (by omega) (by omega)
  refine s_iteE (fun g34 => s_drew (s_chk (by omega) (s_chk (by omega) (s_leaf ?_)))) (fun g34 => s_chk (by omega) ?_)
  · rw [if_neg (by decide)]
    have hp : par o i = false := by
      rcases Nat.lt_or_ge 1 i with g | g
      · obtain ⟨q, rfl⟩ : ∃ q, i = q + 1 := ⟨i - 1, by omega⟩
        exact par_no (hno q (by omega) (by omega))
      · have : i = 1 := by omega
        subst this; rfl
    have hie : i = e := by
      rcases Nat.lt_or_ge i e with g' | g'
      · have := hE.first i h1 g' (by omega); rw [hp] at this; cases this
      · omega
    subst hie
    have hu := uo_all (o := o.extract 1 i) _ 0 rfl (fun j _ hj => by rw [bn_ext (by omega)]; exact hno _ (by omega) (by omega))
    rw [hr] at hu
    cases hu
    have e1 : (⟨(tl (o.extract 1 i) 0).toArray⟩ : ByteArray) = o.extract 1 i := by
      show (⟨((o.extract 1 i).data.toList.drop 0).toArray⟩ : ByteArray) = _
      rw [List.drop_zero, Array.toArray_toList]
    rw [e1, Int.toNat_natCast, Int.toNat_natCast]
    exact ⟨rfl, rfl, (Kp.refl _ w).drew⟩
  refine s_iteE (fun g92 => ?_) (fun g92 => s_leaf ?_)
  rotate_left
  · rw [if_pos rfl]; exact next (by omega) (by omega)
  have hie0 : i < e := by
    rcases Nat.lt_or_ge i e with g' | g'
    · exact g'
    · have : i = e := by omega
      subst this
      have := hE.mark; omega
  clear next hno wi hbt
  refine s_loop (fun n x w' => ∃ k : Nat, n = o.size - k ∧ x = (((k : Nat) : Int), ()) ∧ 2 ≤ k ∧ k ≤ e ∧ w = w') (o.size - (i + 1)) (((i + 1 : Nat) : Int), ()) rfl ⟨i + 1, rfl, rfl, by omega, by omega, rfl⟩ ?_
  rintro n x w1 ⟨k, rfl, rfl, k1, k2, rfl⟩
  simp only [gjson_tostr.t2]
  have hbt : bt o (k : Int) = ((bn o k : Nat) : Int) := bt_bn o k
  have hbt1 : bt o ((k - 1 : Nat) : Int) = ((bn o (k - 1) : Nat) : Int) := bt_bn o (k - 1)
  have next : k < e → ∃ n' x', [Value.int IntKind.i64 ((k + 1 : Nat) : Int)] = (Sh.cons (.int .i64) .nil).vals x' ∧ n' < o.size - k ∧ ∃ k : Nat, n' = o.size - k ∧ x' = (((k : Nat) : Int), ()) ∧ 2 ≤ k ∧ k ≤ e ∧ w = w := fun hke =>
    ⟨o.size - (k + 1), (((k + 1 : Nat) : Int), ()), rfl, by omega, k + 1, rfl, rfl, by omega, by omega, rfl⟩
  have skip : bn o k ≠ 34 → k < e := fun h34 => by
    rcases Nat.lt_or_ge k e with g' | g'
    · exact g'
    · have : k = e := by omega
      subst this
      exact absurd hE.mark h34
  have ew : IntKind.wrap IntKind.i64 ((k : Int) - (1 : Int)) = ((k - 1 : Nat) : Int) ∧ IntKind.wrap IntKind.i64 ((k : Int) - (2 : Int)) = ((k - 2 : Nat) : Int) := ⟨w_dn (c := 1) (by omega) (by omega), w_dn (c := 2) (by omega) (by omega)⟩
  rw [hbt, ew.1, ew.2, hbt1]
  clear ew
  refine s_iteD (fun _ => s_chk (by omega) ?_) (fun h => by omega)
  rw [w_up (by omega)]
  refine s_iteD (fun g => s_leaf ?_) (fun _ => s_chk (by omega) ?_)
  · rw [if_pos rfl]; exact next (skip (by omega))
  refine s_iteE (fun g34 => s_chk (by omega) ?_) (fun g34 => s_leaf ?_)
  rotate_left
  · rw [if_pos rfl]; exact next (skip (by omega))
  have more : par o k = true → k < e := fun hp => by
    rcases Nat.lt_or_ge k e with g' | g'
    · exact g'
    · have : k = e := by omega
      subst this
      rw [hE.even] at hp; cases hp
  have fin : par o k = false → k = e := fun hp => by
    rcases Nat.lt_or_ge k e with g' | g'
    · have := hE.first k (by omega) g' (by omega); rw [hp] at this; cases this
    · omega
  refine s_cut (fun x w' => par o k = false ∧ w = w') ?_ ?_
  · refine s_iteE (fun g92 => ?_) (fun g92 => s_leaf ?_)
    rotate_left
    · rw [if_pos rfl]
      refine ⟨(), rfl, ?_, rfl⟩
      obtain ⟨q, rfl⟩ : ∃ q, k = q + 1 := ⟨k - 1, by omega⟩
      have e2 : q + 1 - 1 = q := by omega
      rw [e2] at g92
      exact par_no (by omega)
    refine s_cut (fun x w' => ∃ n : Nat, x = (((n : Nat) : Int), ()) ∧ par o k = decide (n % 2 = 0) ∧ w = w') ?_ ?_
    · refine s_loop (fun m x w' => ∃ (n j : Nat), m = j ∧ x = (((n : Nat) : Int), ((j : Nat) : Int), ()) ∧ n + j ≤ k ∧ j + 1 ≤ k ∧ par o k = (!(xor (par o (j + 1)) (decide (n % 2 = 1)))) ∧ w = w') (k - 2) ((0 : Int), ((k - 2 : Nat) : Int), ()) rfl
        ⟨0, k - 2, rfl, rfl, by omega, by omega, par_start k1 (by omega), rfl⟩ ?_
      rintro m x w3 ⟨n, j, rfl, rfl, hnj, hji, hpar, rfl⟩
      simp only [gjson_tostr.t3]
      refine s_iteD (fun gj => s_chk (by omega) ?_) (fun gj => s_leaf ?_)
      · have hbj : bt o ((m : Nat) : Int) = ((bn o m : Nat) : Int) := bt_bn o m
        rw [hbj]
        refine s_iteN (fun gn => s_leaf ?_) (fun gn => s_leaf ?_)
        · rw [if_neg (by decide), if_pos rfl]
          exact ⟨_, rfl, n, rfl, par_stop (.inr (by omega)) hpar, rfl⟩
        · rw [if_pos rfl]
          have wn : IntKind.wrap IntKind.i64 (((n : Nat) : Int) + 1) = ((n + 1 : Nat) : Int) := by rw [wrap_in (by omega) (by omega)]; omega
          have wm : IntKind.wrap IntKind.i64 (((m : Nat) : Int) - 1) = ((m - 1 : Nat) : Int) := by rw [wrap_in (by omega) (by omega)]; omega
          rw [wn, wm]
          have e1 : m - 1 + 1 = m := by omega
          refine ⟨m - 1, _, rfl, by omega, n + 1, m - 1, rfl, rfl, by omega, by omega, ?_, rfl⟩
          rw [e1]
          exact par_count (by omega) (by omega) hpar
      · rw [if_neg (by decide), if_pos rfl]
        exact ⟨_, rfl, n, rfl, par_stop (.inl (by omega)) hpar, rfl⟩
    rintro x w1 ⟨n, rfl, hp, rfl⟩
    simp only [gjson_tostr.t4]
    refine s_chk (by decide) ?_
    rw [tmod_par, w_up (by omega)]
    refine s_iteD (fun g => s_leaf ?_) (fun g => s_leaf ?_)
    · rw [if_neg (by decide), if_pos rfl]; exact next (more (by rw [hp]; exact decide_eq_true g))
    · rw [if_pos rfl]; exact ⟨(), rfl, by rw [hp]; exact decide_eq_false g, rfl⟩
  rintro x w1 ⟨hp, rfl⟩
  have := fin hp
  subst this
  simp only [gjson_tostr.t5, w_up (show k < 1000000000 by omega), Int.toNat_natCast]
  refine s_drew (s_chk (by omega) (s_chk (by omega) ?_))
  show sat _ _ _ w.drew
  refine s_call (unescape_any (r := r) (by omega) hsf hr) ?_
  rintro en w2 ⟨rfl, k3⟩
  refine ⟨(⟨r.toArray⟩ : ByteArray), rfl, ⟨k3.belowOff, s_leaf ?_⟩⟩
  exact ⟨rfl, rfl, ((Kp.refl _ w).drew).trans k3⟩
theorem quote_any {s : ByteArray} {w : World} (hs : s.size ≤ 4096) (hT : Tb w) (hH : Hx w) :
    Calls Tryd.prog 23 #[.string s] w fun e w' => e = .returned (.string (qs s)) ∧ Kp Off w w' := by
  refine impl_GjQuote.calls _ ?_
  unfold impl_GjQuote.t
  refine s_call (append_any (s := s) (by omega) hT hH) ?_
  rintro e w1 ⟨x, rfl, hB, k1⟩
  refine ⟨x, rfl, ?_⟩
  exact s_eff (qs s) hB.toStr (s_leaf ⟨rfl, rfl, k1⟩)
theorem first_eq : Rows.laid_unicode_utf8_first = Lib.firstData := by kernel_rfl
theorem accept_eq : (Rows.laid_unicode_utf8_acceptRanges : DataW Unit) = Lib.acceptData := by kernel_rfl
def hexL : List Int := [48, 49, 50, 51, 52, 53, 54, 55, 56, 57, 97, 98, 99, 100, 101, 102]
theorem hex_eq : (Rows.laid_pub_tetrapla_pub_gjson_hexchars : DataW Unit) = Lib.tabData .u8 hexL := rfl
theorem hex_at : ∀ j : Nat, j < 16 → hexL.getD j 0 = ((hexd j).toNat : Int) := by decide
theorem tabs {w : World} (hL : laidMet Tryd.prog Rows.fnGjQuoteUnescapeRow.laid w) : Tb w := by
  have h1 : Lib.VarReads Tryd.prog w "unicode/utf8.first" Rows.laid_unicode_utf8_first := Lib.laidMet.reads hL (.tail _ (.tail _ (.tail _ (.tail _ (.tail _ (.tail _ (.tail _ (.head _))))))))
  have h2 : Lib.VarReads Tryd.prog w "unicode/utf8.acceptRanges" Rows.laid_unicode_utf8_acceptRanges := Lib.laidMet.reads hL (.tail _ (.tail _ (.tail _ (.head _))))
  rw [first_eq] at h1
  rw [accept_eq] at h2
  exact utf8Tabs_of_reads (ρ := Tryd.lays260_ren) { Tryd.lays260 with } ⟨by kernel_rfl, by kernel_rfl, by kernel_rfl, by kernel_rfl, by kernel_rfl, by kernel_rfl, by kernel_rfl⟩ h1 h2
theorem hexs {w : World} (hL : laidMet Tryd.prog Rows.fnGjQuoteUnescapeRow.laid w) : Hx w := by
  have h : laidMet Tryd.prog (("pub-tetrapla/pub/gjson.hexchars", Lib.tabData .u8 hexL) :: [("unicode/utf8.first", Rows.laid_unicode_utf8_first)]) w := laidMet.tail (laidMet.tail (laidMet.tail (laidMet.tail (laidMet.tail (laidMet.tail hL)))))
  have ht := Lib.tabIs_of_head (g := gH) (by kernel_rfl) (by kernel_rfl : _ = some 112) Tryd.underlying112 Tryd.underlying5 (by kernel_rfl) (by kernel_rfl) h
  intro j hj
  have := ht.cell (g := gH) (by kernel_rfl) j hj
  rw [hex_at j hj] at this
  exact this
theorem laid_of_H {P : Program} {l : List (String × DataW Unit)} {W : World} (h : laidMetH P l W) (hn : (l.filter fun x => x.2.handleName?.isSome) = []) : laidMet P l W := by
  unfold laidMetH at h; rw [hn] at h; exact h
theorem qs_split (s m : ByteArray) : (qs s ++ m).extract 0 ((qf s 0).length + 1 + 1) = qs s ∧ (qs s ++ m).extract 1 ((qf s 0).length + 1) = inn (qs s) := by
  have hz := qs_size s
  have key : ∀ a b, b ≤ (qs s).size → (qs s ++ m).extract a b = (qs s).extract a b := fun a b hb => by
    ext1
    rw [ByteArray.data_extract, ByteArray.data_extract, ByteArray.data_append]
    apply Array.toList_inj.1
    rw [Array.toList_extract, Array.toList_extract, Array.toList_append, List.extract_eq_take_drop, List.extract_eq_take_drop]
    have hb' : b ≤ (qs s).data.toList.length := by rw [Array.length_toList]; exact hb
    rcases Nat.lt_or_ge (qs s).data.toList.length a with g | g
    · rw [show b - a = 0 by omega]; rfl
    · rw [List.drop_append_of_le_length g, List.take_append_of_le_length (by rw [List.length_drop]; omega)]
  constructor
  · rw [key _ _ (by omega), show (qf s 0).length + 1 + 1 = (qs s).size by omega]
    exact ByteArray.extract_zero_size
  · rw [key _ _ (by omega)]
    unfold inn
    rw [show (qf s 0).length + 1 = (qs s).size - 1 by omega]
theorem walk (s m : ByteArray) (w : World) (hs : s.size ≤ 140737488351232) (hm : m.size ≤ 140737488351232) (hL : laidMetH Tryd.prog Rows.fnGjQuoteUnescapeRow.laid w) :
    Calls Tryd.prog 8 #[.string s, .string m] w fun e w' => e = .returned (.bool true) ∧ RowKit.Below w.heap.size w w' := by
  have hM := laid_of_H hL (by kernel_rfl)
  have hT : Tb w := tabs hM
  have hH : Hx w := hexs hM
  refine laws_FnGjQuoteUnescape.calls _ _ ?_
  unfold laws_FnGjQuoteUnescape.t
  have done : ∀ (w1 : World), Kp Off w w1 → (Ending.returned (retVal [.bool true]) = .returned (.bool true) ∧ RowKit.Below w.heap.size w w1) := fun w1 h => ⟨rfl, h.belowOff⟩
  refine s_cut (fun x w' => w = w' ∧ ∃ b, x = (b, ())) ?_ ?_
  · refine s_iteD (fun h => s_leaf ?_) (fun h => s_leaf ?_)
    · rw [if_pos rfl]; exact ⟨(true, ()), rfl, rfl, true, rfl⟩
    · rw [if_pos rfl]; exact ⟨(_, ()), rfl, rfl, _, rfl⟩
  rintro x w1 ⟨rfl, b, rfl⟩
  simp only [laws_FnGjQuoteUnescape.t1]
  refine s_ite (fun _ => s_leaf ⟨rfl, done w (Kp.refl _ _)⟩) (fun _ => ?_)
  refine s_cut (fun x w' => w = w' ∧ ∃ b, x = (b, ()) ∧ (b = false → s.size ≤ 4096 ∧ m.size ≤ 4096 ∧ U8 s 0)) ?_ ?_
  · refine s_iteD (fun h => s_leaf ?_) (fun h => ?_)
    · rw [if_pos rfl]; exact ⟨(true, ()), rfl, rfl, true, rfl, fun h => by cases h⟩
    refine s_iteD (fun h => s_leaf ?_) (fun h' => ?_)
    · rw [if_pos rfl]; exact ⟨(true, ()), rfl, rfl, true, rfl, fun h => by cases h⟩
    refine s_call (utf8_any (s := s) (by omega)) ?_
    rintro e w1 ⟨rfl, b1, rfl, hb1⟩
    refine ⟨b1, rfl, s_leaf ?_⟩
    rw [if_pos rfl]
    exact ⟨(!b1, ()), rfl, rfl, !b1, rfl, fun h => ⟨by omega, by omega, hb1.1 (by cases b1 with | true => rfl | false => cases h)⟩⟩
  rintro x w1 ⟨rfl, b, rfl, hb⟩
  simp only [laws_FnGjQuoteUnescape.t2]
  refine s_ite (fun _ => s_leaf ⟨rfl, done w (Kp.refl _ _)⟩) (fun hbf => ?_)
  obtain ⟨z1, z2, us⟩ := hb hbf
  have hq := qs_size s
  have hl := qs_len s
  have hsz : (qs s ++ m).size = (qs s).size + m.size := ByteArray.size_append
  have hE := qs_ends (m := m) us
  obtain ⟨e1, e2⟩ := qs_split s m
  have es : (⟨s.data.toList.toArray⟩ : ByteArray) = s := by rw [Array.toArray_toList]
  refine s_call (quote_any z1 hT hH) ?_
  rintro e w1 ⟨rfl, k1⟩
  refine ⟨qs s, rfl, ?_⟩
  refine s_cut (fun x w' => x = (false, ()) ∧ Kp Off w w') ?_ ?_
  · refine s_iteD (fun h => by omega) (fun _ => ?_)
    have wz : IntKind.wrap IntKind.i64 ((((ByteArray.size (qs s)) : Nat) : Int) - (1 : Int)) = (((qs s).size - 1 : Nat) : Int) := w_dn (c := 1) (by omega) (by omega)
    rw [wz, Int.toNat_natCast]
    refine s_chk (by omega) ?_
    have hu : Calls Tryd.prog 11 #[.string (inn (qs s))] w1 fun e w' => e = .returned (.string s) ∧ Kp Off w1 w' := by
      refine impl_GjUnescape.calls _ ?_
      unfold impl_GjUnescape.t
      refine s_call (R := fun e w' => e = .returned (.string s) ∧ Kp Off w1 w') ?_ (by rintro e w1 ⟨rfl, k⟩; exact ⟨s, rfl, s_leaf ⟨rfl, rfl, k⟩⟩)
      refine gjson_DoorUnescape.calls _ ?_
      unfold gjson_DoorUnescape.t
      refine s_call (unescape_any (r := s.data.toList) (by rw [inn_size]; omega) (inn_sf us) (qs_inn us)) ?_
      rintro e w1 ⟨rfl, k⟩
      exact ⟨s, by rw [es]; rfl, s_leaf ⟨rfl, rfl, k⟩⟩
    refine s_call hu ?_
    rintro e w2 ⟨rfl, k2⟩
    refine ⟨s, rfl, ?_⟩
    rw [strEq_iff.2 rfl]
    refine sat_iteF.2 (s_chk (by omega) ?_)
    have hsq : Calls Tryd.prog 24 #[.string (qs s ++ m)] w2 fun e w' => e = .returned (.string (qs s)) ∧ w2 = w' := by
      refine impl_GjSquash.calls _ ?_
      unfold impl_GjSquash.t
      refine s_call (R := fun e w' => e = .returned (.string (qs s)) ∧ w2 = w') ?_ (by rintro e w1 ⟨rfl, k⟩; exact ⟨qs s, rfl, s_leaf ⟨rfl, rfl, k⟩⟩)
      refine gjson_DoorSquash.calls _ ?_
      unfold gjson_DoorSquash.t
      have h0 : bt (qs s ++ m) ((0 : Nat) : Int) = 34 := by
        rw [bt_bn]
        have : bn (qs s ++ m) 0 = 34 := by
          show ((qs s ++ m).data.toList.getD 0 0).toNat = 34
          rw [ByteArray.data_append, Array.toList_append]; rfl
        rw [this]; rfl
      refine s_call (squash_any h0 hE (by omega)) ?_
      rintro e w1 ⟨rfl, k⟩
      rw [e1]
      exact ⟨qs s, rfl, s_leaf ⟨rfl, rfl, k⟩⟩
    refine s_call hsq ?_
    rintro e w3 ⟨rfl, rfl⟩
    refine ⟨qs s, rfl, s_leaf ?_⟩
    rw [if_pos rfl, strEq_iff.2 rfl]
    exact ⟨(false, ()), rfl, rfl, k1.trans k2⟩
  rintro x w2 ⟨rfl, k2⟩
  simp only [laws_FnGjQuoteUnescape.t3]
  refine sat_iteF.2 (s_chk (by omega) ?_)
  have hst : Calls Tryd.prog 25 #[.string (qs s ++ m)] w2 fun e w' => e = .returned (.tuple #[.string (qs s), .string s]) ∧ Kp Off w2 w' := by
    refine impl_GjStringText.calls _ ?_
    unfold impl_GjStringText.t
    refine s_call (R := fun e w' => e = .returned (.tuple #[.string (qs s), .string s]) ∧ Kp Off w2 w') ?_ (by rintro e w1 ⟨rfl, k⟩; exact ⟨(qs s, s, ()), rfl, s_leaf ⟨rfl, rfl, k⟩⟩)
    refine gjson_DoorTostr.calls _ ?_
    unfold gjson_DoorTostr.t
    refine s_call (tostr_any (r := s.data.toList) hE (by omega) (by rw [e2]; exact inn_sf us) (by rw [e2]; exact qs_inn us)) ?_
    rintro e w1 ⟨rfl, k⟩
    rw [e1, es]
    exact ⟨(qs s, s, ()), rfl, s_leaf ⟨rfl, rfl, k⟩⟩
  refine s_call hst ?_
  rintro e w3 ⟨rfl, k3⟩
  refine ⟨(qs s, s, ()), rfl, ?_⟩
  show sat _ (.ite (strEq (qs s) (qs s)) _ _) _ _
  rw [strEq_iff.2 rfl]
  refine sat_iteT.2 (s_leaf ⟨rfl, ?_⟩)
  show Ending.returned (retVal [.bool (strEq s s)]) = _ ∧ _
  rw [strEq_iff.2 rfl]
  exact done w3 (k2.trans k3)
end Go.Proofs.YtbmmpnjpejamaaaDoor.LawGjQuoteUnescape
