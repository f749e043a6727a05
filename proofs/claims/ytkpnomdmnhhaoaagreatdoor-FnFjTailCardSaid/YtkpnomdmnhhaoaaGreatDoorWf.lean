/- fastjson's Validate over a text that a JSON value begins: an error, or what stands behind the value. No statement of the set is proved here. -/
import Derived.Test.YtkpnomdmnhhaoaaGreatDoorZk
import Derived.Test.YtkpnomdmnhhaoaaGreatDoorTl
namespace Go.Proofs.YtkpnomdmnhhaoaaGreatDoor.Fn
open Go Go.Proofs Go.Proofs.YtkpnomdmnhhaoaaGreatDoor.Rx Go.Proofs.YtkpnomdmnhhaoaaGreatDoor.Tr Go.Proofs.YtkpnomdmnhhaoaaGreatDoor.Pl

/-- Behind the digits. -/
def vnD (s : ByteArray) (a : Nat) : Option Nat := if digs s a = a then none else if bt s a = 48 ∧ digs s a ≠ a + 1 then none else fracE s (digs s a)
/-- Where the number that fastjson takes ends. -/
def vnE (s : ByteArray) (i : Nat) : Option Nat := if bt s i = 45 then vnD s (i + 1) else vnD s i
theorem vnD_end {s : ByteArray} {a : Nat} (h : s.size ≤ a) : vnD s a = none := by rw [vnD, if_pos (digs_end h)]
def VPost (s : ByteArray) (r : Option Nat) (w : World) (e : Ending) (w' : World) : Prop :=
  Kp Off w w' ∧ ∃ (t : ByteArray) (v : Value), e = .returned (.tuple #[.string t, v]) ∧ isIface v = true ∧ isNil v = r.isSome ∧ ∀ m, r = some m → t = sfx s m
theorem v_err {s : ByteArray} {r : Option Nat} {w w' : World} {t : ByteArray} {v : Value} (hr : r = none) (h1 : isIface v = true) (h2 : isNil v = false) (k : Kp Off w w') : VPost s r w (.returned (retVal [.string t, v])) w' := by
  subst hr; exact ⟨k, t, v, rfl, h1, h2, fun m h => by cases h⟩
theorem v_ok {s : ByteArray} {r : Option Nat} {w : World} {t : ByteArray} {m : Nat} (hr : r = some m) (ht : t = sfx s m) : VPost s r w (.returned (retVal [.string t, .nilIface])) w := by
  subst hr; exact ⟨Kp.refl _ _, t, .nilIface, rfl, rfl, rfl, fun n h => by cases h; exact ht⟩
theorem err_any (t : ByteArray) (w : World) : Calls Tryz.prog 38 #[.string t] w fun e w' => (∃ v, e = .returned v ∧ isIface v = true ∧ isNil v = false) ∧ Kp Off w w' := by
  refine errors_New.calls _ ?_
  unfold errors_New.t
  refine s_alloc (s_leaf ⟨rfl, ⟨_, rfl, rfl, rfl⟩, (Kp.refl Off w).alloc _⟩)

theorem s_err {s : ByteArray} {r : Option Nat} {w : World} {Q : Nat → List Value → World → Prop} {t u : ByteArray} (hr : r = none) (hQ : ∀ vs w', VPost s r w (.returned (retVal vs)) w' → Q 0 vs w') :
    sat Tryz.prog (.call 38 #[.string t] .any fun (v : Value) => .leaf 0 [.string u, v]) Q w := by
  refine s_call (err_any t w) ?_
  rintro e w' ⟨⟨v, rfl, h1, h2⟩, k⟩
  exact ⟨v, rfl, s_leaf (hQ _ _ (v_err hr h1 h2 k))⟩

theorem validateNumber_any {s : ByteArray} {w : World} (hs : s.size < 4611686018427387903) : Calls Tryz.prog 62 #[.string s] w (VPost s (vnE s 0) w) := by
  have hs' : s.size < 4611686018427387904 := by omega
  refine fastjson_validateNumber.calls _ ?_
  unfold fastjson_validateNumber.t
  refine s_iteE (fun h => s_err (r := vnE s 0) ?_ fun vs w' h => ⟨rfl, h⟩) (fun h => ?_)
  · unfold vnE; rw [bt_end (by omega), if_neg (by decide), vnD_end (by omega)]
  have h0 : 0 < s.size := by omega
  refine s_chk (by omega) ?_
  refine s_cut (fun x w' => w = w' ∧ ∃ a : Nat, a < s.size ∧ x = (sfx s a, ()) ∧ vnE s 0 = vnD s a) ?_ ?_
  · refine s_iteE (fun hm => ?_) (fun hm => ?_)
    · have hv : vnE s 0 = vnD s 1 := by unfold vnE; exact if_pos hm
      have e : ByteArray.extract s 1 (Int.toNat (s.size : Int)) = sfx s 1 := by rw [Int.toNat_natCast]; rfl
      rw [e]
      refine s_chk (by omega) (s_iteE (fun h1 => ?_) (fun h1 => s_leaf ?_))
      · rw [sfx_size] at h1
        exact s_err (r := vnE s 0) (by rw [hv, vnD_end (by omega)]) fun vs w' h => by rw [if_neg (by decide)]; exact ⟨rfl, h⟩
      · rw [sfx_size] at h1
        rw [if_pos rfl]
        exact ⟨(sfx s 1, ()), rfl, rfl, 1, by omega, rfl, hv⟩
    · refine s_leaf ?_
      rw [if_pos rfl]
      exact ⟨(s, ()), rfl, rfl, 0, h0, by rw [sfx_zero]; rfl, by unfold vnE; exact if_neg hm⟩
  rintro x w' ⟨rfl, a, ha, rfl, hv⟩
  rw [hv]
  clear hv
  simp only [fastjson_validateNumber.t1]
  have hge := digs_ge s a
  have hle := digs_le s a (by omega)
  have hz := sfx_size s a
  refine s_cut (fun x w' => x = (((digs s a - a : Nat) : Int), ()) ∧ w = w') ?_ ?_
  · refine dg_loop (l := 1) hs' (by omega) ?_
    rw [if_pos rfl]
    exact ⟨_, rfl, rfl, rfl⟩
  rintro x w' ⟨rfl, rfl⟩
  simp only [fastjson_validateNumber.t3]
  refine s_iteD (fun h1 => s_err (r := vnD s a) (by rw [vnD, if_pos (by omega)]) fun vs w' h => ⟨rfl, h⟩) (fun h1 => ?_)
  refine s_cut (fun x w' => x = (decide (bt s a = 48 ∧ digs s a ≠ a + 1), ()) ∧ w = w') ?_ ?_
  · refine s_chk (by omega) ?_
    have hb : bt (sfx s a) 0 = bt s a := sfx_bt s a 0
    rw [hb]
    refine s_iteE (fun h2 => s_leaf ?_) (fun h2 => s_leaf ?_)
    · rw [if_pos rfl]
      exact ⟨(((digs s a - a : Nat) : Int) != 1, ()), rfl, bpair (by
        have hk : (((digs s a - a : Nat) : Int) ≠ 1) ↔ (digs s a ≠ a + 1) := by omega
        rw [bne_iff_ne, decide_eq_true_iff]
        exact ⟨fun h => ⟨h2, hk.1 h⟩, fun h => hk.2 h.2⟩), rfl⟩
    · rw [if_pos rfl]
      exact ⟨(false, ()), rfl, bpair (by simp [h2]), rfl⟩
  rintro x w' ⟨rfl, rfl⟩
  simp only [fastjson_validateNumber.t4]
  refine s_iteD (fun h2 => s_err (r := vnD s a) (by rw [vnD, if_neg (by omega), if_pos h2]) fun vs w' h => ⟨rfl, h⟩) (fun h2 => ?_)
  have hvd : vnD s a = fracE s (digs s a) := by rw [vnD, if_neg (by omega), if_neg h2]
  rw [hvd]
  generalize hdd : digs s a = d at *
  have hda : a + (d - a) = d := by omega
  refine s_iteD (fun h3 => s_leaf ⟨rfl, v_ok (m := d) (fracE_end (by omega)) (by rw [sfx_end (by omega)])⟩) (fun h3 => ?_)
  refine s_chk (by omega) ?_
  have tail : ∀ (b : Nat), b + 1 ≤ s.size → IntKind.wrap .i64 ((b : Int) + 1) = ((b + 1 : Nat) : Int) := fun b hb => by rw [wrap_in (by omega) (by omega)]; rfl
  -- behind the integer's digits: a point, or not
  refine s_cut (fun x w' => w = w' ∧ ∃ b q : Nat, x = ((q : Int), sfx s b, ()) ∧ b + q < s.size ∧ fracE s d = expE s (b + q)) ?_ ?_
  · have hb : bt (sfx s a) ((d - a : Nat) : Int) = bt s (d : Int) := by rw [sfx_bt, hda]
    rw [hb, tail (d - a) (by omega)]
    have e : ByteArray.extract (sfx s a) (Int.toNat ((d - a + 1 : Nat) : Int)) (Int.toNat ((sfx s a).size : Int)) = sfx s (d + 1) := by
      rw [Int.toNat_natCast, Int.toNat_natCast, sfx_sfx]; congr 1; omega
    refine s_iteE (fun h4 => ?_) (fun h4 => ?_)
    · refine s_chk (by omega) ?_
      rw [e]
      refine s_iteE (fun h5 => ?_) (fun h5 => ?_)
      · rw [sfx_size] at h5
        exact s_err (r := fracE s d) (fracE_bad h4 (by rw [bt_end (by omega)]; rfl)) fun vs w' h => by rw [if_neg (by decide)]; exact ⟨rfl, h⟩
      · rw [sfx_size] at h5
        have hge2 := digs_ge s (d + 1)
        have hle2 := digs_le s (d + 1) (by omega)
        refine s_cut (fun x w' => x = (((digs s (d + 1) - (d + 1) : Nat) : Int), ()) ∧ w = w') ?_ ?_
        · have : ∀ z, fastjson_validateNumber.t5 (sfx s a) ((d - a : Nat) : Int) z = dgT (sfx s (d + 1)) 2 z := fun z => by
            unfold fastjson_validateNumber.t5
            rw [tail (d - a) (by omega), e]; rfl
          refine dg_loop' (l := 2) (fun z => this z.1) hs' (by omega) ?_
          rw [if_pos rfl]
          exact ⟨_, rfl, rfl, rfl⟩
        rintro x w' ⟨rfl, rfl⟩
        simp only [fastjson_validateNumber.t6]
        rw [tail (d - a) (by omega), e]
        refine s_iteE (fun h6 => ?_) (fun h6 => ?_)
        · refine s_err (r := fracE s d) (fracE_bad h4 ?_) fun vs w' h => by rw [if_neg (by decide)]; exact ⟨rfl, h⟩
          cases hD : isDig (bt s ((d + 1 : Nat) : Int)) with
          | false => rfl
          | true => have := digs_gt hD; omega
        · have hf : fracE s d = expE s (digs s (d + 1)) := fracE_yes h4 (by
            cases hD : isDig (bt s ((d + 1 : Nat) : Int)) with
            | true => rfl
            | false => have := digs_no hD; omega)
          refine s_iteD (fun h7 => s_leaf ?_) (fun h7 => s_leaf ?_)
          · rw [sfx_size] at h7
            rw [if_neg (by decide)]
            exact ⟨rfl, v_ok (m := digs s (d + 1)) (by rw [hf, expE_end (by omega)]) (by rw [sfx_end (by omega)])⟩
          · rw [sfx_size] at h7
            rw [if_pos rfl]
            exact ⟨(_, _, ()), rfl, rfl, d + 1, digs s (d + 1) - (d + 1), rfl, by omega, by rw [hf]; congr 1; omega⟩
    · refine s_leaf ?_
      rw [if_pos rfl]
      exact ⟨(_, _, ()), rfl, rfl, a, d - a, rfl, by omega, by rw [fracE_no h4, hda]⟩
  rintro x w' ⟨rfl, b, q, rfl, hbq, hf⟩
  rw [hf]
  clear hf hvd h2 h3 hda hdd hge hle hz ha
  simp only [fastjson_validateNumber.t7]
  have hz := sfx_size s b
  have hb : bt (sfx s b) (q : Int) = bt s ((b + q : Nat) : Int) := sfx_bt s b q
  refine s_cut (fun x w' => x = (decide (bt s ((b + q : Nat) : Int) = 101 ∨ bt s ((b + q : Nat) : Int) = 69), ()) ∧ w = w') ?_ ?_
  · rw [hb]
    generalize bt s ((b + q : Nat) : Int) = c
    refine s_chk (by omega) (s_iteE (fun h => s_leaf ?_) (fun h => s_chk (by omega) (s_leaf ?_)))
    · rw [if_pos rfl]; exact ⟨(true, ()), rfl, bpair (by simp [h]), rfl⟩
    · rw [if_pos rfl]
      exact ⟨(_, ()), rfl, bpair (by simp [h]), rfl⟩
  rintro x w' ⟨rfl, rfl⟩
  simp only [fastjson_validateNumber.t8]
  have e : ByteArray.extract (sfx s b) (Int.toNat ((q + 1 : Nat) : Int)) (Int.toNat ((sfx s b).size : Int)) = sfx s (b + q + 1) := by
    rw [Int.toNat_natCast, Int.toNat_natCast, sfx_sfx]; rfl
  refine s_iteD (fun hE => ?_) (fun hE => ?_)
  · rw [tail q (by omega)]
    refine s_chk (by omega) ?_
    rw [e]
    generalize hp : b + q = p at *
    have hx : expE s p = expD s (signE s (p + 1)) := by rw [expE, if_pos hE]
    refine s_iteE (fun h1 => ?_) (fun h1 => ?_)
    · rw [sfx_size] at h1
      refine s_err (r := expE s p) ?_ fun vs w' h => ⟨rfl, h⟩
      rw [hx, signE, bt_end (by omega), if_neg (by decide), expD_no (by rw [bt_end (by omega)]; rfl)]
    rw [sfx_size] at h1
    refine s_cut (fun x w' => x = (decide (bt s ((p + 1 : Nat) : Int) = 45 ∨ bt s ((p + 1 : Nat) : Int) = 43), ()) ∧ w = w') ?_ ?_
    · have hb : bt (sfx s (p + 1)) 0 = bt s ((p + 1 : Nat) : Int) := sfx_bt s (p + 1) 0
      rw [hb]
      have hz2 := sfx_size s (p + 1)
      generalize bt s ((p + 1 : Nat) : Int) = c
      refine s_chk (by omega) (s_iteE (fun h => s_leaf ?_) (fun h => s_chk (by omega) (s_leaf ?_)))
      · rw [if_pos rfl]; exact ⟨(true, ()), rfl, bpair (by simp [h]), rfl⟩
      · rw [if_pos rfl]
        exact ⟨(_, ()), rfl, bpair (by simp [h]), rfl⟩
    rintro x w' ⟨rfl, rfl⟩
    simp only [fastjson_validateNumber.t9]
    rw [tail q (by omega), e]
    refine s_cut (fun x w' => x = (sfx s (signE s (p + 1)), ()) ∧ signE s (p + 1) < s.size ∧ w = w') ?_ ?_
    · have hz2 := sfx_size s (p + 1)
      have e2 : ByteArray.extract (sfx s (p + 1)) 1 (Int.toNat ((sfx s (p + 1)).size : Int)) = sfx s (p + 1 + 1) := by
        rw [Int.toNat_natCast, sfx_sfx]
      refine s_iteD (fun hS => ?_) (fun hS => ?_)
      · have hsg : signE s (p + 1) = p + 1 + 1 := by rw [signE, if_pos hS.symm]
        refine s_chk (by omega) ?_
        rw [e2]
        refine s_iteE (fun h2 => ?_) (fun h2 => s_leaf ?_)
        · rw [sfx_size] at h2
          refine s_err (r := expE s p) ?_ fun vs w' h => by rw [if_neg (by decide)]; exact ⟨rfl, h⟩
          rw [hx, hsg, expD_no (by rw [bt_end (by omega)]; rfl)]
        · rw [sfx_size] at h2
          rw [if_pos rfl, hsg]
          exact ⟨(_, ()), rfl, rfl, by omega, rfl⟩
      · have hsg : signE s (p + 1) = p + 1 := by rw [signE, if_neg (fun h => hS h.symm)]
        refine s_leaf ?_
        rw [if_pos rfl, hsg]
        exact ⟨(_, ()), rfl, rfl, by omega, rfl⟩
    rintro x w' ⟨rfl, hg, rfl⟩
    rw [hx]
    generalize signE s (p + 1) = g at *
    simp only [fastjson_validateNumber.t10]
    have hge := digs_ge s g
    have hle := digs_le s g (by omega)
    have hzg := sfx_size s g
    refine s_cut (fun x w' => x = (((digs s g - g : Nat) : Int), ()) ∧ w = w') ?_ ?_
    · refine dg_loop (l := 1) hs' (by omega) ?_
      rw [if_pos rfl]
      exact ⟨_, rfl, rfl, rfl⟩
    rintro x w' ⟨rfl, rfl⟩
    simp only [fastjson_validateNumber.t12]
    refine s_iteE (fun h2 => ?_) (fun h2 => ?_)
    · refine s_err (r := expD s g) (expD_no ?_) fun vs w' h => ⟨rfl, h⟩
      cases hD : isDig (bt s (g : Int)) with
      | false => rfl
      | true => have := digs_gt hD; omega
    · have hy : expD s g = some (digs s g) := expD_yes (by
        cases hD : isDig (bt s (g : Int)) with
        | true => rfl
        | false => have := digs_no hD; omega)
      refine s_iteD (fun h3 => s_leaf ?_) (fun h3 => s_chk (by omega) (s_leaf ?_))
      · exact ⟨rfl, v_ok hy (by rw [sfx_end (by omega)])⟩
      · refine ⟨rfl, v_ok hy ?_⟩
        rw [Int.toNat_natCast, Int.toNat_natCast, sfx_sfx]; congr 1; omega
  · refine s_chk (by omega) (s_leaf ⟨rfl, v_ok (expE_no hE) ?_⟩)
    rw [Int.toNat_natCast, Int.toNat_natCast, sfx_sfx]
end Go.Proofs.YtkpnomdmnhhaoaaGreatDoor.Fn
namespace Go.Proofs.YtkpnomdmnhhaoaaGreatDoor.Zv
open Go Go.Proofs Go.RowKit Go.Proofs.YtkpnomdmnhhaoaaGreatDoor.Rx Go.Proofs.YtkpnomdmnhhaoaaGreatDoor.Tr Go.Proofs.YtkpnomdmnhhaoaaGreatDoor.Pl Go.Proofs.YtkpnomdmnhhaoaaGreatDoor.Pw Go.Proofs.YtkpnomdmnhhaoaaGreatDoor.Sk Go.Proofs.YtkpnomdmnhhaoaaGreatDoor.Zs Go.Proofs.YtkpnomdmnhhaoaaGreatDoor.Ut
open Go.Proofs.YtkpnomdmnhhaoaaGreatDoor.Zu (OkU)
open Go.Proofs.YtkpnomdmnhhaoaaGreatDoor.Uq (uN hx pairU hv uN_lt)
open Go.Proofs.YtkpnomdmnhhaoaaGreatDoor.Ze (OkU.next sub_ext)

variable {w w1 w' : World} {s x : ByteArray}
theorem hx_some {i : Nat} : ∀ {m a : Nat}, hx s i m = some a → ∀ j, j < m → ∃ d, hv (bn s (i + j)) = some d
  | 0, _, _, j, hj => absurd hj (Nat.not_lt_zero _)
  | m + 1, a, h, j, hj => by
    unfold hx at h
    split at h
    · rename_i a' d h1 h2
      rcases Nat.lt_or_ge j m with g | g
      · exact hx_some h1 j g
      · have : j = m := by omega
        subst this
        exact ⟨d, h2⟩
    · cases h
theorem hv_no {n d : Nat} (h : hv n = some d) : n ≠ 92 := by
  rintro rfl
  have h0 : hv 92 = none := by decide
  rw [h0] at h; cases h
/-- Behind a backslash. -/
theorem oku_step {q : Nat} (h : OkU x q) (hq : q < x.size) (hb : bn x q = 92) : q + 1 < x.size ∧ OkU x (q + 2) ∧ (bn x (q + 1) = 117 → ∃ n, uN x q = some n ∧ OkU x (q + 6)) := by
  have mid : ∀ {n : Nat}, uN x q = some n → OkU x (q + 6) → q + 1 < x.size ∧ OkU x (q + 2) ∧ (bn x (q + 1) = 117 → ∃ n, uN x q = some n ∧ OkU x (q + 6)) := fun {n} h1 h6 => by
    obtain ⟨_, h2⟩ := uN_lt h1
    have hxs : hx x (q + 2) 4 = some n := by
      unfold uN at h1
      split at h1
      · exact h1
      · cases h1
    have ne : ∀ j, j < 4 → bn x (q + 2 + j) ≠ 92 := fun j hj => by
      obtain ⟨d, hd⟩ := hx_some hxs j hj
      exact hv_no hd
    refine ⟨by omega, ?_, fun _ => ⟨n, h1, h6⟩⟩
    refine .plain (by omega) (ne 0 (by omega)) (.plain (by omega) (ne 1 (by omega)) (.plain (by omega) (ne 2 (by omega)) (.plain (by omega) (ne 3 (by omega)) h6)))
  cases h with
  | fin h => omega
  | plain h1 h2 => exact absurd hb h2
  | short h1 h2 h3 h4 h5 =>
    refine ⟨h2, h5, fun h => ?_⟩
    exfalso
    rw [bt_bn, h] at h3
    exact absurd h3 (by decide)
  | uni h1 h2 h3 => exact mid h1 h3
  | pair h1 h2 h3 =>
    unfold pairU at h2
    cases hm : uN x (q + 6) with
    | none => rw [hm] at h2; cases h2
    | some m =>
      rw [hm] at h2
      have hc : 56320 ≤ m ∧ m ≤ 57343 := by
        simp only at h2
        split at h2
        · rename_i g; exact g.2
        · cases h2
      refine mid h1 (.uni hm ?_ h3)
      unfold pairU
      cases uN x (q + 6 + 6) with
      | none => rfl
      | some m' => simp only; rw [if_neg (by omega)]
theorem bk_back {p : Nat} : ∀ {j : Nat}, bk s p j = true → ∃ i, i < j ∧ bt s ((p + i : Nat) : Int) = 92
  | 0, h => by cases h
  | j + 1, h => by
    unfold bk at h
    split at h
    · rename_i g; exact ⟨j, Nat.lt_succ_self _, g⟩
    · cases h
/-- An error, or a place behind what was read. -/
def Ends (s : ByteArray) (m : Nat) (tail : ByteArray) (er : Value) : Prop := isIface er = true ∧ (isNil er = true → tail = sfx s m)
theorem Ends.err {m : Nat} {tail : ByteArray} {er : Value} (h : Err er) : Ends s m tail er := ⟨h.1, fun c => by rw [h.2] at c; cases c⟩
theorem Ends.ok {m : Nat} : Ends s m (sfx s m) .nilIface := ⟨rfl, fun _ => rfl⟩
/-- What validateString says. -/
def VsPost (s : ByteArray) (m : Nat) (w : World) (e : Ending) (w' : World) : Prop :=
  ∃ (y tail : ByteArray) (er : Value), e = .returned (.tuple #[.string y, .string tail, er]) ∧ Ends s m tail er ∧ Kp Off w w' ∧ y.size ≤ 100000
theorem valStr_any {p k : Nat} (hs : s.size ≤ 100000) (h : QE s p k) (hok : OkU (s.extract p (p + k)) 0) :
    Calls Tryz.prog 61 #[.string (sfx s p)] w (VsPost s (p + k + 1) w) := by
  have hz := sfx_size s p
  have hm := h.mark
  have hlt : p + k < s.size := lt_of_bt (by omega)
  refine fastjson_validateString.calls _ ?_
  unfold fastjson_validateString.t
  obtain ⟨j, j1, j2, j3⟩ := next_q h (a := 0) (Nat.zero_le _)
  rw [Nat.add_zero] at j1 j3
  rw [Nat.zero_add] at j2
  refine s_call (Tryz.strings_IndexByte (sfx s p) 34 w) ?_
  rintro e w1 ⟨rfl, rfl⟩
  refine ⟨Lib.indexByte (sfx s p).data.toList 34, rfl, ?_⟩
  rw [j1]
  refine s_cut (fun z w' => ∃ b : Bool, z = (b, ()) ∧ (b = true → j = k) ∧ w1 = w') (s_iteD (fun _ => s_chk ⟨by omega, by omega, by omega⟩ ?_) (fun g => absurd (by omega) g)) ?_
  · rw [Int.toNat_natCast]
    refine s_call (Tryz.strings_IndexByte ((sfx s p).extract 0 j) 92 w1) ?_
    rintro e w2 ⟨rfl, rfl⟩
    refine ⟨Lib.indexByte ((sfx s p).extract 0 j).data.toList 92, rfl, s_leaf ?_⟩
    rw [if_pos rfl]
    refine ⟨(decide (Lib.indexByte ((sfx s p).extract 0 j).data.toList 92 < 0), ()), rfl, _, rfl, fun hd => ?_, rfl⟩
    have hd := of_decide_eq_true hd
    have hix := ix_sfx (s := (sfx s p).extract 0 j) 0 92
    rw [sfx_zero] at hix
    rcases hix with ⟨_, h2⟩ | ⟨i, h1, _⟩
    · rcases Nat.lt_or_ge j k with g | g
      · exfalso
        obtain ⟨i, i1, i2⟩ := bk_back (h.first j g j3)
        have hzj : ((sfx s p).extract 0 j).size = j := by rw [ByteArray.size_extract]; omega
        refine h2 i (by omega) ?_
        rw [sub_ext (by omega)]
        have he := Ka.ext_bn (s := s) (p := p) (k := j) (j := i) (by omega) i1
        rw [Nat.zero_add, he]
        rw [bt_bn] at i2
        exact Int.ofNat.inj i2
      · omega
    · omega
  rintro z w2 ⟨b, rfl, hb, rfl⟩
  show sat _ (fastjson_validateString.t1 (sfx s p) (j : Int) b) _ _
  unfold fastjson_validateString.t1
  refine s_ite (fun hbt => ?_) (fun _ => ?_)
  · have hjk := hb hbt
    subst hjk
    have w1' : IntKind.wrap IntKind.i64 ((j : Int) + 1) = ((j + 1 : Nat) : Int) := by rw [wrap_in (by omega) (by omega)]; omega
    rw [w1', Int.toNat_natCast, Int.toNat_natCast, Int.toNat_natCast, sfx_sfx]
    refine s_drew (s_chk (by omega) (s_chk (by omega) (s_leaf ⟨rfl, _, _, _, rfl, ?_, (Kp.refl Off _).drew, by rw [ByteArray.size_extract]; omega⟩)))
    rw [show p + (j + 1) = p + j + 1 by omega]
    exact Ends.ok
  · refine s_call (rawString_any (by omega) h) ?_
    rintro e w3 ⟨rfl, k3⟩
    refine ⟨(s.extract p (p + k), sfx s (p + k + 1), .nilIface, ()), rfl, s_chk rfl (sat_iteF.2 ?_)⟩
    have hxz : (s.extract p (p + k)).size = k := Ka.ext_size (by omega)
    generalize s.extract p (p + k) = x at hok hxz
    refine s_loop (fun m z w' => ∃ q : Nat, m = x.size - q ∧ z = (sfx x q, ()) ∧ q ≤ x.size ∧ OkU x q ∧ Kp Off w1 w') x.size (x, ()) rfl ⟨0, rfl, by rw [sfx_zero]; rfl, Nat.zero_le _, hok, k3⟩ ?_
    clear hb j1 j2 j3 hok k3
    rintro m z wc ⟨q0, rfl, rfl, hq0, hok, k1⟩
    show sat _ (fastjson_validateString.t2 (x, sfx s (p + k + 1), .nilIface, ()) (sfx x q0)) _ _
    unfold fastjson_validateString.t2
    refine s_call (Tryz.strings_IndexByte (sfx x q0) 92 wc) ?_
    rintro e wc ⟨rfl, rfl⟩
    refine ⟨Lib.indexByte (sfx x q0).data.toList 92, rfl, ?_⟩
    rcases ix_sfx (s := x) q0 92 with ⟨h1, _⟩ | ⟨i, h1, h2, h3, h4⟩
    · rw [h1]
      refine s_iteD (fun _ => s_leaf ?_) (fun g => absurd (by decide) g)
      rw [if_neg (by decide)]
      exact ⟨rfl, _, _, _, rfl, Ends.ok, k1, by rw [sfx_size]; omega⟩
    rw [h1]
    refine s_iteD (fun g => by omega) (fun _ => ?_)
    have hzq := sfx_size x q0
    have e1 : IntKind.wrap IntKind.i64 ((i : Int) + 1) = ((i + 1 : Nat) : Int) := by rw [wrap_in (by omega) (by omega)]; omega
    have e2 : IntKind.wrap IntKind.i64 (((i + 1 : Nat) : Int) + 1) = ((i + 2 : Nat) : Int) := by rw [wrap_in (by omega) (by omega)]; omega
    rw [e1, e2, Int.toNat_natCast, Int.toNat_natCast, sfx_sfx]
    refine s_iteD (fun _ => ?_) (fun hin => ?_)
    · refine s_call new_any ?_
      rintro e w5 ⟨er, rfl, hE, k5⟩
      refine ⟨er, rfl, s_leaf ?_⟩
      rw [if_neg (by decide)]
      exact ⟨rfl, _, _, _, rfl, Ends.err hE, k1.trans k5, by rw [sfx_size]; omega⟩
    have hokq := OkU.next hok (Nat.le_add_right q0 i) (by omega) (fun j g1 g2 => by have := h4 (j - q0) (by omega); rwa [show q0 + (j - q0) = j by omega] at this)
    obtain ⟨s1, s2, s3⟩ := oku_step hokq (by omega) h3
    obtain ⟨q, hq⟩ : ∃ q, q0 + i = q := ⟨_, rfl⟩
    rw [hq] at s1 s2 s3 hokq h3
    have hbyte : bt (sfx x q0) ((i + 1 : Nat) : Int) = bt x ((q + 1 : Nat) : Int) := by rw [sfx_bt]; congr 2; omega
    rw [show q0 + (i + 2) = q + 2 by omega, hbyte]
    refine s_chk (by omega) (s_chk (by omega) ?_)
    refine s_cut (fun z w' => ∃ b : Bool, z = (b, sfx x (q + 2), ()) ∧ wc = w') (s_iteE (fun _ => s_leaf ?_) (fun _ => ?_)) ?_
    · rw [if_pos rfl]; exact ⟨(_, sfx x (q + 2), ()), rfl, _, rfl, rfl⟩
    · skip
      refine s_cut (fun z w' => ∃ b : Bool, z = (b, sfx x (q + 2), ()) ∧ wc = w') (s_iteE (fun _ => s_leaf ?_) (fun _ => ?_)) ?_
      · rw [if_pos rfl]; exact ⟨(_, sfx x (q + 2), ()), rfl, _, rfl, rfl⟩
      · skip
        refine s_cut (fun z w' => ∃ b : Bool, z = (b, sfx x (q + 2), ()) ∧ wc = w') (s_iteE (fun _ => s_leaf ?_) (fun _ => ?_)) ?_
        · rw [if_pos rfl]; exact ⟨(_, sfx x (q + 2), ()), rfl, _, rfl, rfl⟩
        · skip
          refine s_cut (fun z w' => ∃ b : Bool, z = (b, sfx x (q + 2), ()) ∧ wc = w') (s_iteE (fun _ => s_leaf ?_) (fun _ => ?_)) ?_
          · rw [if_pos rfl]; exact ⟨(_, sfx x (q + 2), ()), rfl, _, rfl, rfl⟩
          · skip
            refine s_cut (fun z w' => ∃ b : Bool, z = (b, sfx x (q + 2), ()) ∧ wc = w') (s_iteE (fun _ => s_leaf ?_) (fun _ => ?_)) ?_
            · rw [if_pos rfl]; exact ⟨(_, sfx x (q + 2), ()), rfl, _, rfl, rfl⟩
            · skip
              refine s_cut (fun z w' => ∃ b : Bool, z = (b, sfx x (q + 2), ()) ∧ wc = w') (s_iteE (fun _ => s_leaf ?_) (fun _ => ?_)) ?_
              · rw [if_pos rfl]; exact ⟨(_, sfx x (q + 2), ()), rfl, _, rfl, rfl⟩
              · skip
                refine s_cut (fun z w' => ∃ b : Bool, z = (b, sfx x (q + 2), ()) ∧ wc = w') (s_iteE (fun _ => s_leaf ?_) (fun _ => s_leaf ?_)) ?_
                · rw [if_pos rfl]; exact ⟨(_, sfx x (q + 2), ()), rfl, _, rfl, rfl⟩
                · rw [if_pos rfl]; exact ⟨(_, sfx x (q + 2), ()), rfl, _, rfl, rfl⟩
                · rintro z w' ⟨b, rfl, rfl⟩
                  simp only [fastjson_validateString.t3]
                  refine s_leaf ?_
                  rw [if_pos rfl]; exact ⟨(b, sfx x (q + 2), ()), rfl, b, rfl, rfl⟩
              · rintro z w' ⟨b, rfl, rfl⟩
                simp only [fastjson_validateString.t4]
                refine s_leaf ?_
                rw [if_pos rfl]; exact ⟨(b, sfx x (q + 2), ()), rfl, b, rfl, rfl⟩
            · rintro z w' ⟨b, rfl, rfl⟩
              simp only [fastjson_validateString.t5]
              refine s_leaf ?_
              rw [if_pos rfl]; exact ⟨(b, sfx x (q + 2), ()), rfl, b, rfl, rfl⟩
          · rintro z w' ⟨b, rfl, rfl⟩
            simp only [fastjson_validateString.t6]
            refine s_leaf ?_
            rw [if_pos rfl]; exact ⟨(b, sfx x (q + 2), ()), rfl, b, rfl, rfl⟩
        · rintro z w' ⟨b, rfl, rfl⟩
          simp only [fastjson_validateString.t7]
          refine s_leaf ?_
          rw [if_pos rfl]; exact ⟨(b, sfx x (q + 2), ()), rfl, b, rfl, rfl⟩
      · rintro z w' ⟨b, rfl, rfl⟩
        simp only [fastjson_validateString.t8]
        refine s_leaf ?_
        rw [if_pos rfl]; exact ⟨(b, sfx x (q + 2), ()), rfl, b, rfl, rfl⟩
    · rintro z w' ⟨b, rfl, rfl⟩
      show sat _ (fastjson_validateString.t9 _ (sfx x q0) (i : Int) b (sfx x (q + 2))) _ _
      unfold fastjson_validateString.t9
      have hzq2 := sfx_size x (q + 2)
      refine s_cut (fun z w' => ∃ (q' : Nat) (b : Bool), z = (b, sfx x q', ()) ∧ q0 < q' ∧ q' ≤ x.size ∧ OkU x q' ∧ Kp Off wc w') (s_ite (fun _ => s_leaf ?_) (fun _ => ?_)) ?_
      · rw [if_neg (by decide), if_pos rfl]
        refine ⟨x.size - (q + 2), (sfx x (q + 2), ()), rfl, by omega, q + 2, rfl, rfl, by omega, s2, k1⟩
      · rw [e1, hbyte]
        refine s_iteE (fun g117 => s_iteD (fun _ => ?_) (fun g4 => ?_)) (fun _ => ?_)
        · refine s_call new_any ?_
          rintro e w5 ⟨er, rfl, hE, k5⟩
          refine ⟨er, rfl, s_leaf ?_⟩
          rw [if_neg (by decide), if_neg (by decide)]
          exact ⟨rfl, _, _, _, rfl, Ends.err hE, k1.trans k5, by rw [sfx_size]; omega⟩
        · obtain ⟨n, n1, n2⟩ := s3 (by rw [bt_bn] at g117; exact Int.ofNat.inj g117)
          have hxs : hx x (q + 2) 4 = some n := by
            unfold uN at n1
            split at n1
            · exact n1
            · cases n1
          have hl6 := (uN_lt n1).2
          rw [sub_ext (by omega)]
          have hh : Hp.hx (x.extract (q + 2) (q + 2 + 4)) 4 = some n := by rw [Ze.hx_same (q := q + 2) Ze.ext_gb 4 (Nat.le_refl _)]; exact hxs
          refine s_chk ⟨by omega, by omega, by omega⟩ (s_call (Hp.uint16_any (by rw [ByteArray.size_extract]; omega) hh) ?_)
          rintro e w5 ⟨rfl, k5⟩
          refine ⟨((n : Int), .nilIface, ()), rfl, s_chk rfl (sat_iteF.2 (s_chk ⟨by omega, by omega, by omega⟩ (s_leaf ?_)))⟩
          rw [if_pos rfl, Int.toNat_natCast, sfx_sfx]
          exact ⟨(b, sfx x (q + 6), ()), rfl, q + 6, b, rfl, by omega, by omega, n2, k5⟩
        · refine s_call new_any ?_
          rintro e w5 ⟨er, rfl, hE, k5⟩
          refine ⟨er, rfl, s_leaf ?_⟩
          rw [if_neg (by decide), if_neg (by decide)]
          exact ⟨rfl, _, _, _, rfl, Ends.err hE, k1.trans k5, by rw [sfx_size]; omega⟩
      · rintro z w5 ⟨q', b', rfl, g1, g2, g3, k5⟩
        simp only [fastjson_validateString.t10]
        refine s_leaf ?_
        rw [if_pos rfl]
        exact ⟨x.size - q', (sfx x q', ()), rfl, by omega, q', rfl, rfl, g2, g3, k1.trans k5⟩
end Go.Proofs.YtkpnomdmnhhaoaaGreatDoor.Zv
