/- gjson's validnumber: it finds a number that begins at a place just where RFC 8259 has one, and its end. Condition: the byte at the place is a digit or a minus sign. -/
import Derived.Test.YtlhhmgopfilgpabSr
namespace Go.Proofs.Ytlhhmgopfilgpab.Vn
open Go Go.Proofs Go.Proofs.Ytlhhmgopfilgpab.Rx Go.Proofs.Ytlhhmgopfilgpab.Tr Go.Proofs.Ytlhhmgopfilgpab.Pl

def VnPost (r : Option Nat) (w : World) (e : Ending) (w' : World) : Prop :=
  ∃ e1 : Int, e = .returned (.tuple #[.int .i64 e1, .bool r.isSome]) ∧ (∀ m, r = some m → e1 = m) ∧ w' = w
theorem post_no {r : Option Nat} {w : World} {e1 : Int} (h : r = none) : VnPost r w (.returned (retVal [.int .i64 e1, .bool false])) w := by
  subst h; exact ⟨e1, rfl, fun _ h => (by cases h), rfl⟩
theorem post_some {r : Option Nat} {w : World} {m : Nat} (h : r = some m) : VnPost r w (.returned (retVal [.int .i64 m, .bool true])) w := by
  subst h; exact ⟨m, rfl, fun _ h => (by cases h; rfl), rfl⟩

theorem vn_any {s : ByteArray} {p : Addr} {cap i : Nat} {w : World} (hs : s.size < 4611686018427387904) (hi : i < s.size) (hB : Byts w p s) (hd : bt s i = 45 ∨ isDig (bt s i) = true) :
    Calls Try.prog 17 #[.slice (some p) s.size cap, .int .i64 ((i : Int) + 1)] w (VnPost (numE s i) w) := by
  refine gjson_validnumber.calls _ _ _ _ ?_
  have e0 : IntKind.wrap .i64 (i : Int) = i := wrap_in (by omega) (by omega)
  have up : ∀ j : Nat, j ≤ s.size → IntKind.wrap .i64 ((j : Int) + 1) = ((j + 1 : Nat) : Int) := fun j hj => by rw [wrap_in (by omega) (by omega)]; rfl
  have cell : ∀ j : Nat, j < s.size → w.cell? (p.add j) = some (.int .u8 (bt s j)) := fun j hj => hB.at_ hj
  have notDig : ∀ j : Nat, bt s j < 48 ∨ 57 < bt s j → isDig (bt s j) = false := fun j h => isDig_no (by omega)
  have loopI : ∀ (k : Nat) (l : Nat) (Q : Nat → List Value → World → Prop) (body : (Sh.cons (.int .i64) .nil).Ty → T), k ≤ s.size →
      (∀ j : Nat, j ≤ s.size → ∀ Q1 : Nat → List Value → World → Prop,
        (j < s.size → isDig (bt s j) = true → Q1 l [.int .i64 ((j + 1 : Nat) : Int)] w) → (isDig (bt s j) = false → Q1 (l - 1) [.int .i64 (j : Int)] w) → sat Try.prog (body ((j : Int), ())) Q1 w) →
      Q (l - 1) [.int .i64 (digs s k : Int)] w → 0 < l →
      sat Try.prog (.loop l (.cons (.int .i64) .nil) [.int .i64 (k : Int)] body) Q w := by
    intro k l Q body hk hbody hQ hl
    refine s_loop (fun n x w' => ∃ j : Nat, x = ((j : Int), ()) ∧ j ≤ s.size ∧ n = s.size - j ∧ digs s j = digs s k ∧ w = w') (s.size - k) ((k : Int), ()) rfl ⟨k, rfl, hk, rfl, rfl, rfl⟩ ?_
    rintro n x w1 ⟨j, rfl, hj, rfl, hM, rfl⟩
    refine hbody j hj _ (fun hlt hdj => ?_) (fun hdj => ?_)
    · rw [if_pos rfl]
      exact ⟨s.size - (j + 1), (((j + 1 : Nat) : Int), ()), rfl, by omega, j + 1, rfl, by omega, rfl, by rw [← digs_yes hdj]; exact hM, rfl⟩
    · rw [if_neg (by omega)]
      rw [digs_no hdj] at hM
      rw [hM]; exact hQ
  -- the first digit behind a point, an e or a sign: what is asked of it
  have ask : ∀ (j : Nat), (bt s j < 48 → (true, ()) = (!isDig (bt s j), ())) ∧ (48 ≤ bt s j → (decide (57 < bt s j), ()) = (!isDig (bt s j), ())) :=
    fun j => ⟨fun h => by rw [dig_lo h]; rfl, fun h => by rw [dig_hi h]⟩
  simp [gjson_validnumber.t, e0, hi, cell i hi]
  refine s_cut (fun x w' => ∃ k : Nat, x = ((k : Int), ()) ∧ k < s.size ∧ isDig (bt s k) = true ∧ numE s i = intE s k ∧ w = w') ?_ ?_
  · refine s_iteE (fun h => ?_) (fun h => ?_)
    · rw [up i (by omega)]
      have hn := numE_minus h
      have hj0 : i + 1 ≤ s.size := hi
      generalize hij : i + 1 = j at *
      refine s_iteE (fun h1 => ?_) (fun h1 => ?_)
      · refine s_leaf ?_
        rw [if_neg (by decide)]
        exact ⟨rfl, post_no (by rw [hn]; exact intE_end (by omega))⟩
      · have hlt : j < s.size := by omega
        refine s_cut (fun x w' => x = (!isDig (bt s j), ()) ∧ w = w') ?_ ?_
        · simp [hlt, cell _ hlt]
          exact ask j
        · rintro x w1 ⟨rfl, rfl⟩
          have e1 : IntKind.wrap .i64 (((i : Int) + 1) - 1) = i := by rw [wrap_in (by omega) (by omega)]; omega
          have e2 : IntKind.wrap .i64 ((i : Int) + 1) = j := by rw [up i (by omega)]; exact congrArg _ hij
          simp only [gjson_validnumber.t1, e1, e2]
          refine s_ite (fun h2 => ?_) (fun h2 => ?_)
          · refine s_leaf ?_
            rw [if_neg (by decide)]
            exact ⟨rfl, post_no (by rw [hn]; exact intE_bad (by simpa using h2))⟩
          · simp
            exact ⟨j, rfl, hlt, by simpa using h2, hn⟩
    · simp
      have := hd.resolve_left h
      exact ⟨i, rfl, hi, this, numE_plain h⟩
  · rintro x w1 ⟨k, rfl, hk, hdk, hn, rfl⟩
    rw [hn]
    clear hn hd hi e0
    have hne : (k : Int) ≠ (s.size : Int) := by omega
    simp [gjson_validnumber.t2, hk, cell k hk]
    refine ⟨fun h => by omega, fun _ => ?_⟩
    refine s_cut (fun x w' => ∃ j : Nat, x = ((j : Int), ()) ∧ j ≤ s.size ∧ intE s k = fracE s j ∧ w = w') ?_ ?_
    · refine s_iteE (fun h => ?_) (fun h => ?_)
      · rw [up k (by omega)]
        refine s_leaf ?_
        rw [if_pos rfl]
        exact ⟨(((k + 1 : Nat) : Int), ()), rfl, k + 1, rfl, hk, intE_zero h, rfl⟩
      · refine s_cut (fun x w' => x = ((digs s k : Int), ()) ∧ w = w') ?_ ?_
        · refine loopI k 3 _ _ (by omega) ?_ ?_ (by decide)
          · intro j hj Q1 h1 h2
            by_cases hlt : j < s.size
            · simp [gjson_validnumber.t3, hlt, cell j hlt, up j hj]
              exact ⟨fun a => ⟨fun b => by simpa using h1 hlt (isDig_yes ⟨a, b⟩), fun b => h2 (isDig_no (by omega))⟩, fun a => h2 (isDig_no (by omega))⟩
            · simp [gjson_validnumber.t3, hlt]
              exact h2 (by rw [bt_end (by omega)]; rfl)
          · rw [if_pos rfl]
            exact ⟨((digs s k : Int), ()), rfl, rfl, rfl⟩
        · rintro x w1 ⟨rfl, rfl⟩
          refine s_leaf ?_
          rw [if_pos rfl]
          exact ⟨((digs s k : Int), ()), rfl, digs s k, rfl, digs_le s k (by omega), intE_dig h hdk, rfl⟩
    · rintro x w1 ⟨j, rfl, hj, hn, rfl⟩
      rw [hn]
      clear hn hdk hne hk
      refine s_iteE (fun h => ?_) (fun h => ?_)
      · refine s_leaf ⟨rfl, post_some ?_⟩
        rw [fracE_end (by omega)]
      · have hlt : j < s.size := by omega
        simp [hlt, cell j hlt]
        refine s_cut (fun x w' => ∃ k : Nat, x = ((k : Int), ()) ∧ k ≤ s.size ∧ fracE s j = expE s k ∧ w = w') ?_ ?_
        · refine s_iteE (fun h => ?_) (fun h => ?_)
          · rw [up j (by omega)]
            have hup := up j (by omega)
            have hy := fracE_yes h
            have hb := fracE_bad h
            have hk0 : j + 1 ≤ s.size := hlt
            generalize j + 1 = k at *
            refine s_iteE (fun h1 => ?_) (fun h1 => ?_)
            · refine s_leaf ?_
              rw [if_neg (by decide)]
              exact ⟨rfl, post_no (hb (by rw [bt_end (by omega)]; rfl))⟩
            · have hlt2 : k < s.size := by omega
              refine s_cut (fun x w' => x = (!isDig (bt s k), ()) ∧ w = w') ?_ ?_
              · simp [hlt2, cell _ hlt2]
                exact ask k
              · rintro x w1 ⟨rfl, rfl⟩
                simp only [gjson_validnumber.t6, hup]
                refine s_ite (fun h2 => ?_) (fun h2 => ?_)
                · refine s_leaf ?_
                  rw [if_neg (by decide)]
                  exact ⟨rfl, post_no (hb (by simpa using h2))⟩
                · have hdk : isDig (bt s k) = true := by simpa using h2
                  rw [up k (by omega)]
                  refine s_cut (fun x w' => x = ((digs s k : Int), ()) ∧ w = w') ?_ ?_
                  · refine loopI (k + 1) 3 _ _ hlt2 ?_ ?_ (by decide)
                    · intro j hj Q1 h1 h2
                      by_cases hlt : j < s.size
                      · simp [gjson_validnumber.t7, hlt, cell j hlt, up j hj]
                        exact ⟨fun a => ⟨fun b => by simpa using h1 hlt (isDig_yes ⟨a, b⟩), fun b => h2 (isDig_no (by omega))⟩, fun a => h2 (isDig_no (by omega))⟩
                      · simp [gjson_validnumber.t7, hlt]
                        exact h2 (by rw [bt_end (by omega)]; rfl)
                    · rw [if_pos rfl]
                      exact ⟨((digs s (k + 1) : Int), ()), rfl, by rw [digs_yes hdk]; exact rfl, rfl⟩
                  · rintro x w1 ⟨rfl, rfl⟩
                    refine s_leaf ?_
                    rw [if_pos rfl]
                    exact ⟨((digs s k : Int), ()), rfl, digs s k, rfl, digs_le s k (by omega), hy hdk, rfl⟩
          · refine s_leaf ?_
            rw [if_pos rfl]
            exact ⟨((j : Int), ()), rfl, j, rfl, hj, fracE_no h, rfl⟩
        · rintro x w1 ⟨k, rfl, hk, hn, rfl⟩
          rw [hn]
          clear hn h hlt hj
          refine s_iteE (fun h => ?_) (fun h => ?_)
          · exact s_leaf ⟨rfl, post_some (expE_end (by omega))⟩
          · have hlt : k < s.size := by omega
            refine s_cut (fun x w' => x = (isE (bt s k), ()) ∧ w = w') ?_ ?_
            · simp [hlt, cell k hlt]
              exact isE_ask
            · rintro x w1 ⟨rfl, rfl⟩
              refine s_ite (fun he => ?_) (fun he => ?_)
              · have he := isE_iff.1 he
                rw [up k (by omega)]
                have hup := up k (by omega)
                have hsg := expE_s he
                have hbr := expE_b he
                have hj0 : k + 1 ≤ s.size := hlt
                generalize k + 1 = j at *
                refine s_iteE (fun h1 => ?_) (fun h1 => ?_)
                · refine s_leaf ⟨rfl, post_no ?_⟩
                  rw [hbr (by rw [bt_end (by omega)]; decide), expD_no (by rw [bt_end (by omega)]; rfl)]
                · have hlt2 : j < s.size := by omega
                  refine s_cut (fun x w' => x = (isS (bt s j), ()) ∧ w = w') ?_ ?_
                  · simp [hlt2, cell j hlt2]
                    exact isS_ask
                  · rintro x w1 ⟨rfl, rfl⟩
                    simp only [gjson_validnumber.t11, hup]
                    refine s_cut (fun x w' => ∃ q : Nat, x = ((q : Int), ()) ∧ q ≤ s.size ∧ expE s k = expD s q ∧ w = w') ?_ ?_
                    · rw [up j (by omega)]
                      refine s_ite (fun hS => ?_) (fun hS => ?_)
                      · refine s_leaf ?_
                        rw [if_pos rfl]
                        exact ⟨(((j + 1 : Nat) : Int), ()), rfl, j + 1, rfl, hlt2, hsg (isS_iff.1 hS), rfl⟩
                      · refine s_leaf ?_
                        rw [if_pos rfl]
                        exact ⟨((j : Int), ()), rfl, j, rfl, by omega, hbr (isS_not hS), rfl⟩
                    · rintro x w1 ⟨q, rfl, hq, hn, rfl⟩
                      rw [hn]
                      clear hn hsg hbr hup he
                      refine s_iteE (fun h1 => ?_) (fun h1 => ?_)
                      · refine s_leaf ⟨rfl, post_no ?_⟩
                        rw [expD_no (by rw [bt_end (by omega)]; rfl)]
                      · have hlt3 : q < s.size := by omega
                        refine s_cut (fun x w' => x = (!isDig (bt s q), ()) ∧ w = w') ?_ ?_
                        · simp [hlt3, cell _ hlt3]
                          exact ask q
                        · rintro x w1 ⟨rfl, rfl⟩
                          simp only [gjson_validnumber.t13]
                          refine s_ite (fun h2 => ?_) (fun h2 => ?_)
                          · exact s_leaf ⟨rfl, post_no (expD_no (by simpa using h2))⟩
                          · have hdk : isDig (bt s q) = true := by simpa using h2
                            rw [up q (by omega), expD_yes hdk, digs_yes hdk]
                            refine s_loop (fun n x w' => ∃ j : Nat, x = ((j : Int), ()) ∧ j ≤ s.size ∧ n = s.size - j ∧ digs s j = digs s (q + 1) ∧ w = w') (s.size - (q + 1)) (((q + 1 : Nat) : Int), ()) rfl ⟨q + 1, rfl, hlt3, rfl, rfl, rfl⟩ ?_
                            rintro n x w1 ⟨j, rfl, hj, rfl, hM, rfl⟩
                            rw [← hM]
                            have fin : isDig (bt s j) = false → VnPost (some (digs s j)) w (.returned (retVal [.int .i64 (j : Int), .bool true])) w := fun h => by
                              rw [digs_no h]; exact post_some rfl
                            by_cases hlt : j < s.size
                            · simp [gjson_validnumber.t14, hlt, cell j hlt, up j hj]
                              refine ⟨fun a => ⟨fun b => ?_, fun b => fin (isDig_no (by omega))⟩, fun a => fin (isDig_no (by omega))⟩
                              exact ⟨s.size - (j + 1), by omega, j + 1, by simp; exact rfl, by omega, rfl, (digs_yes (isDig_yes ⟨a, b⟩)).symm⟩
                            · simp [gjson_validnumber.t14, hlt]
                              exact fin (by rw [bt_end (by omega)]; rfl)
              · exact s_leaf ⟨rfl, post_some (expE_no (isE_not he))⟩
end Go.Proofs.Ytlhhmgopfilgpab.Vn
