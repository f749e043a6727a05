/- fastjson's validateNumber. No statement of the set is proved here. -/
import Derived.Test.YtdjilnhalpmabaaSf
import Derived.Test.YtdjilnhalpmabaaTw
import Derived.Test.YtdjilnhalpmabaaRk
namespace Go.Proofs.Ytdjilnhalpmabaa.Fn
open Go Go.Proofs Go.Proofs.Ytdjilnhalpmabaa.Rx Go.Proofs.Ytdjilnhalpmabaa.Tr Go.Proofs.Ytdjilnhalpmabaa.Pl

/-- Behind the digits. -/
def vnD (s : ByteArray) (a : Nat) : Option Nat := if digs s a = a then none else if bt s a = 48 ∧ digs s a ≠ a + 1 then none else fracE s (digs s a)
/-- Where the number that fastjson takes ends. -/
def vnE (s : ByteArray) (i : Nat) : Option Nat := if bt s i = 45 then vnD s (i + 1) else vnD s i
theorem vnD_end {s : ByteArray} {a : Nat} (h : s.size ≤ a) : vnD s a = none := by rw [vnD, if_pos (digs_end h)]
def VPost (s : ByteArray) (r : Option Nat) (w : World) (e : Ending) (w' : World) : Prop :=
  Kp Off w w' ∧ ∃ (t : ByteArray) (v : Value), e = .returned (.tuple #[.string t, v]) ∧ isIface v = true ∧ isNil v = r.isSome ∧ ∀ m, r = some m → t = sfx s m
theorem v_err {s : ByteArray} {r : Option Nat} {w w' : World} {t : ByteArray} {v : Value} (hr : r = none) (h1 : isIface v = true) (h2 : isNil v = false) (k : Kp Off w w') : VPost s r w (.returned (retVal [.string t, v])) w' := by
  subst hr; exact ⟨k, t, v, rfl, h1, h2, fun m h => by cases h⟩
theorem v_ok {s : ByteArray} {r : Option Nat} {w : World} {t : ByteArray} {m : Nat} (hr : r = some m) (ht : t = sfx s m) : VPost s r w (.returned (retVal [.string t, .nilIface])) w := by
  subst hr; exact ⟨Kp.refl _ _, t, .nilIface, rfl, rfl, rfl, fun n h => by cases h; exact ht⟩
theorem err_any (t : ByteArray) (w : World) : Calls Try.prog 48 #[.string t] w fun e w' => (∃ v, e = .returned v ∧ isIface v = true ∧ isNil v = false) ∧ Kp Off w w' := by
  refine errors_New.calls _ ?_
  unfold errors_New.t
  refine s_alloc (s_leaf ⟨rfl, ⟨_, rfl, rfl, rfl⟩, (Kp.refl Off w).alloc _⟩)

theorem s_err {s : ByteArray} {r : Option Nat} {w : World} {Q : Nat → List Value → World → Prop} {t u : ByteArray} (hr : r = none) (hQ : ∀ vs w', VPost s r w (.returned (retVal vs)) w' → Q 0 vs w') :
    sat Try.prog (.call 48 #[.string t] .any fun (v : Value) => .leaf 0 [.string u, v]) Q w := by
  refine s_call (err_any t w) ?_
  rintro e w' ⟨⟨v, rfl, h1, h2⟩, k⟩
  exact ⟨v, rfl, s_leaf (hQ _ _ (v_err hr h1 h2 k))⟩

theorem validateNumber_any {s : ByteArray} {w : World} (hs : s.size < 4611686018427387903) : Calls Try.prog 45 #[.string s] w (VPost s (vnE s 0) w) := by
  have hs' : s.size < 4611686018427387904 := by omega
  refine fastjson_validateNumber.calls _ ?_
  unfold fastjson_validateNumber.t
  refine s_iteE (fun h => s_err (r := vnE s 0) ?_ fun vs w' h => ⟨rfl, h⟩) (fun h => ?_)
  · unfold vnE; rw [bt_end (by omega), if_neg (by decide), vnD_end (by omega)]
  have h0 : 0 < s.size := by omega
  refine s_chk (by omega) ?_
  refine s_cut (fun x w' => w = w' ∧ ∃ a : Nat, a < s.size ∧ x = (sfx s a, ()) ∧ vnE s 0 = vnD s a) ?_ ?_
  · refine s_iteE (fun hm => ?_) (fun hm => ?_)
    · have hv : vnE s 0 = vnD s 1 := by unfold vnE; exact if_pos hm
      have e : ByteArray.extract s 1 (Int.toNat (s.size : Int)) = sfx s 1 := by rw [Int.toNat_natCast]; rfl
      rw [e]
      refine s_chk (by omega) (s_iteE (fun h1 => ?_) (fun h1 => s_leaf ?_))
      · rw [sfx_size] at h1
        exact s_err (r := vnE s 0) (by rw [hv, vnD_end (by omega)]) fun vs w' h => by rw [if_neg (by decide)]; exact ⟨rfl, h⟩
      · rw [sfx_size] at h1
        rw [if_pos rfl]
        exact ⟨(sfx s 1, ()), rfl, rfl, 1, by omega, rfl, hv⟩
    · refine s_leaf ?_
      rw [if_pos rfl]
      exact ⟨(s, ()), rfl, rfl, 0, h0, by rw [sfx_zero]; rfl, by unfold vnE; exact if_neg hm⟩
  rintro x w' ⟨rfl, a, ha, rfl, hv⟩
  rw [hv]
  clear hv
  simp only [fastjson_validateNumber.t1]
  have hge := digs_ge s a
  have hle := digs_le s a (by omega)
  have hz := sfx_size s a
  refine s_cut (fun x w' => x = (((digs s a - a : Nat) : Int), ()) ∧ w = w') ?_ ?_
  · refine dg_loop (l := 1) hs' (by omega) ?_
    rw [if_pos rfl]
    exact ⟨_, rfl, rfl, rfl⟩
  rintro x w' ⟨rfl, rfl⟩
  simp only [fastjson_validateNumber.t3]
  refine s_iteD (fun h1 => s_err (r := vnD s a) (by rw [vnD, if_pos (by omega)]) fun vs w' h => ⟨rfl, h⟩) (fun h1 => ?_)
  refine s_cut (fun x w' => x = (decide (bt s a = 48 ∧ digs s a ≠ a + 1), ()) ∧ w = w') ?_ ?_
  · refine s_chk (by omega) ?_
    have hb : bt (sfx s a) 0 = bt s a := sfx_bt s a 0
    rw [hb]
    refine s_iteE (fun h2 => s_leaf ?_) (fun h2 => s_leaf ?_)
    · rw [if_pos rfl]
      exact ⟨(((digs s a - a : Nat) : Int) != 1, ()), rfl, bpair (by
        have hk : (((digs s a - a : Nat) : Int) ≠ 1) ↔ (digs s a ≠ a + 1) := by omega
        rw [bne_iff_ne, decide_eq_true_iff]
        exact ⟨fun h => ⟨h2, hk.1 h⟩, fun h => hk.2 h.2⟩), rfl⟩
    · rw [if_pos rfl]
      exact ⟨(false, ()), rfl, bpair (by simp [h2]), rfl⟩
  rintro x w' ⟨rfl, rfl⟩
  simp only [fastjson_validateNumber.t4]
  refine s_iteD (fun h2 => s_err (r := vnD s a) (by rw [vnD, if_neg (by omega), if_pos h2]) fun vs w' h => ⟨rfl, h⟩) (fun h2 => ?_)
  have hvd : vnD s a = fracE s (digs s a) := by rw [vnD, if_neg (by omega), if_neg h2]
  rw [hvd]
  generalize hdd : digs s a = d at *
  have hda : a + (d - a) = d := by omega
  refine s_iteD (fun h3 => s_leaf ⟨rfl, v_ok (m := d) (fracE_end (by omega)) (by rw [sfx_end (by omega)])⟩) (fun h3 => ?_)
  refine s_chk (by omega) ?_
  have tail : ∀ (b : Nat), b + 1 ≤ s.size → IntKind.wrap .i64 ((b : Int) + 1) = ((b + 1 : Nat) : Int) := fun b hb => by rw [wrap_in (by omega) (by omega)]; rfl
  -- behind the integer's digits: a point, or not
  refine s_cut (fun x w' => w = w' ∧ ∃ b q : Nat, x = ((q : Int), sfx s b, ()) ∧ b + q < s.size ∧ fracE s d = expE s (b + q)) ?_ ?_
  · have hb : bt (sfx s a) ((d - a : Nat) : Int) = bt s (d : Int) := by rw [sfx_bt, hda]
    rw [hb, tail (d - a) (by omega)]
    have e : ByteArray.extract (sfx s a) (Int.toNat ((d - a + 1 : Nat) : Int)) (Int.toNat ((sfx s a).size : Int)) = sfx s (d + 1) := by
      rw [Int.toNat_natCast, Int.toNat_natCast, sfx_sfx]; congr 1; omega
    refine s_iteE (fun h4 => ?_) (fun h4 => ?_)
    · refine s_chk (by omega) ?_
      rw [e]
      refine s_iteE (fun h5 => ?_) (fun h5 => ?_)
      · rw [sfx_size] at h5
        exact s_err (r := fracE s d) (fracE_bad h4 (by rw [bt_end (by omega)]; rfl)) fun vs w' h => by rw [if_neg (by decide)]; exact ⟨rfl, h⟩
      · rw [sfx_size] at h5
        have hge2 := digs_ge s (d + 1)
        have hle2 := digs_le s (d + 1) (by omega)
        refine s_cut (fun x w' => x = (((digs s (d + 1) - (d + 1) : Nat) : Int), ()) ∧ w = w') ?_ ?_
        · have : ∀ z, fastjson_validateNumber.t5 (sfx s a) ((d - a : Nat) : Int) z = dgT (sfx s (d + 1)) 2 z := fun z => by
            unfold fastjson_validateNumber.t5
            rw [tail (d - a) (by omega), e]; rfl
          refine dg_loop' (l := 2) (fun z => this z.1) hs' (by omega) ?_
          rw [if_pos rfl]
          exact ⟨_, rfl, rfl, rfl⟩
        rintro x w' ⟨rfl, rfl⟩
        simp only [fastjson_validateNumber.t6]
        rw [tail (d - a) (by omega), e]
        refine s_iteE (fun h6 => ?_) (fun h6 => ?_)
        · refine s_err (r := fracE s d) (fracE_bad h4 ?_) fun vs w' h => by rw [if_neg (by decide)]; exact ⟨rfl, h⟩
          cases hD : isDig (bt s ((d + 1 : Nat) : Int)) with
          | false => rfl
          | true => have := digs_gt hD; omega
        · have hf : fracE s d = expE s (digs s (d + 1)) := fracE_yes h4 (by
            cases hD : isDig (bt s ((d + 1 : Nat) : Int)) with
            | true => rfl
            | false => have := digs_no hD; omega)
          refine s_iteD (fun h7 => s_leaf ?_) (fun h7 => s_leaf ?_)
          · rw [sfx_size] at h7
            rw [if_neg (by decide)]
            exact ⟨rfl, v_ok (m := digs s (d + 1)) (by rw [hf, expE_end (by omega)]) (by rw [sfx_end (by omega)])⟩
          · rw [sfx_size] at h7
            rw [if_pos rfl]
            exact ⟨(_, _, ()), rfl, rfl, d + 1, digs s (d + 1) - (d + 1), rfl, by omega, by rw [hf]; congr 1; omega⟩
    · refine s_leaf ?_
      rw [if_pos rfl]
      exact ⟨(_, _, ()), rfl, rfl, a, d - a, rfl, by omega, by rw [fracE_no h4, hda]⟩
  rintro x w' ⟨rfl, b, q, rfl, hbq, hf⟩
  rw [hf]
  clear hf hvd h2 h3 hda hdd hge hle hz ha
  simp only [fastjson_validateNumber.t7]
  have hz := sfx_size s b
  have hb : bt (sfx s b) (q : Int) = bt s ((b + q : Nat) : Int) := sfx_bt s b q
  refine s_cut (fun x w' => x = (decide (bt s ((b + q : Nat) : Int) = 101 ∨ bt s ((b + q : Nat) : Int) = 69), ()) ∧ w = w') ?_ ?_
  · rw [hb]
    generalize bt s ((b + q : Nat) : Int) = c
    refine s_chk (by omega) (s_iteE (fun h => s_leaf ?_) (fun h => s_chk (by omega) (s_leaf ?_)))
    · rw [if_pos rfl]; exact ⟨(true, ()), rfl, bpair (by simp [h]), rfl⟩
    · rw [if_pos rfl]
      exact ⟨(_, ()), rfl, bpair (by simp [h]), rfl⟩
  rintro x w' ⟨rfl, rfl⟩
  simp only [fastjson_validateNumber.t8]
  have e : ByteArray.extract (sfx s b) (Int.toNat ((q + 1 : Nat) : Int)) (Int.toNat ((sfx s b).size : Int)) = sfx s (b + q + 1) := by
    rw [Int.toNat_natCast, Int.toNat_natCast, sfx_sfx]; rfl
  refine s_iteD (fun hE => ?_) (fun hE => ?_)
  · rw [tail q (by omega)]
    refine s_chk (by omega) ?_
    rw [e]
    generalize hp : b + q = p at *
    have hx : expE s p = expD s (signE s (p + 1)) := by rw [expE, if_pos hE]
    refine s_iteE (fun h1 => ?_) (fun h1 => ?_)
    · rw [sfx_size] at h1
      refine s_err (r := expE s p) ?_ fun vs w' h => ⟨rfl, h⟩
      rw [hx, signE, bt_end (by omega), if_neg (by decide), expD_no (by rw [bt_end (by omega)]; rfl)]
    rw [sfx_size] at h1
    refine s_cut (fun x w' => x = (decide (bt s ((p + 1 : Nat) : Int) = 45 ∨ bt s ((p + 1 : Nat) : Int) = 43), ()) ∧ w = w') ?_ ?_
    · have hb : bt (sfx s (p + 1)) 0 = bt s ((p + 1 : Nat) : Int) := sfx_bt s (p + 1) 0
      rw [hb]
      have hz2 := sfx_size s (p + 1)
      generalize bt s ((p + 1 : Nat) : Int) = c
      refine s_chk (by omega) (s_iteE (fun h => s_leaf ?_) (fun h => s_chk (by omega) (s_leaf ?_)))
      · rw [if_pos rfl]; exact ⟨(true, ()), rfl, bpair (by simp [h]), rfl⟩
      · rw [if_pos rfl]
        exact ⟨(_, ()), rfl, bpair (by simp [h]), rfl⟩
    rintro x w' ⟨rfl, rfl⟩
    simp only [fastjson_validateNumber.t9]
    rw [tail q (by omega), e]
    refine s_cut (fun x w' => x = (sfx s (signE s (p + 1)), ()) ∧ signE s (p + 1) < s.size ∧ w = w') ?_ ?_
    · have hz2 := sfx_size s (p + 1)
      have e2 : ByteArray.extract (sfx s (p + 1)) 1 (Int.toNat ((sfx s (p + 1)).size : Int)) = sfx s (p + 1 + 1) := by
        rw [Int.toNat_natCast, sfx_sfx]
      refine s_iteD (fun hS => ?_) (fun hS => ?_)
      · have hsg : signE s (p + 1) = p + 1 + 1 := by rw [signE, if_pos hS.symm]
        refine s_chk (by omega) ?_
        rw [e2]
        refine s_iteE (fun h2 => ?_) (fun h2 => s_leaf ?_)
        · rw [sfx_size] at h2
          refine s_err (r := expE s p) ?_ fun vs w' h => by rw [if_neg (by decide)]; exact ⟨rfl, h⟩
          rw [hx, hsg, expD_no (by rw [bt_end (by omega)]; rfl)]
        · rw [sfx_size] at h2
          rw [if_pos rfl, hsg]
          exact ⟨(_, ()), rfl, rfl, by omega, rfl⟩
      · have hsg : signE s (p + 1) = p + 1 := by rw [signE, if_neg (fun h => hS h.symm)]
        refine s_leaf ?_
        rw [if_pos rfl, hsg]
        exact ⟨(_, ()), rfl, rfl, by omega, rfl⟩
    rintro x w' ⟨rfl, hg, rfl⟩
    rw [hx]
    generalize signE s (p + 1) = g at *
    simp only [fastjson_validateNumber.t10]
    have hge := digs_ge s g
    have hle := digs_le s g (by omega)
    have hzg := sfx_size s g
    refine s_cut (fun x w' => x = (((digs s g - g : Nat) : Int), ()) ∧ w = w') ?_ ?_
    · refine dg_loop (l := 1) hs' (by omega) ?_
      rw [if_pos rfl]
      exact ⟨_, rfl, rfl, rfl⟩
    rintro x w' ⟨rfl, rfl⟩
    simp only [fastjson_validateNumber.t12]
    refine s_iteE (fun h2 => ?_) (fun h2 => ?_)
    · refine s_err (r := expD s g) (expD_no ?_) fun vs w' h => ⟨rfl, h⟩
      cases hD : isDig (bt s (g : Int)) with
      | false => rfl
      | true => have := digs_gt hD; omega
    · have hy : expD s g = some (digs s g) := expD_yes (by
        cases hD : isDig (bt s (g : Int)) with
        | true => rfl
        | false => have := digs_no hD; omega)
      refine s_iteD (fun h3 => s_leaf ?_) (fun h3 => s_chk (by omega) (s_leaf ?_))
      · exact ⟨rfl, v_ok hy (by rw [sfx_end (by omega)])⟩
      · refine ⟨rfl, v_ok hy ?_⟩
        rw [Int.toNat_natCast, Int.toNat_natCast, sfx_sfx]; congr 1; omega
  · refine s_chk (by omega) (s_leaf ⟨rfl, v_ok (expE_no hE) ?_⟩)
    rw [Int.toNat_natCast, Int.toNat_natCast, sfx_sfx]
end Go.Proofs.Ytdjilnhalpmabaa.Fn
