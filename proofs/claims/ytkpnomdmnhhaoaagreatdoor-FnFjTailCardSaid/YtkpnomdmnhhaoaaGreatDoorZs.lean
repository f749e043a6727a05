/- fastjson's small functions over a text: blanks, strings, names, numbers. No statement of the set is proved here. -/
import Derived.Test.YtkpnomdmnhhaoaaGreatDoorZa
import Derived.Test.YtkpnomdmnhhaoaaGreatDoorTf
import Derived.Test.YtkpnomdmnhhaoaaGreatDoorSh
namespace Go.Proofs.YtkpnomdmnhhaoaaGreatDoor.Zs
open Go Go.Proofs Go.RowKit Go.Proofs.YtkpnomdmnhhaoaaGreatDoor.Rx Go.Proofs.YtkpnomdmnhhaoaaGreatDoor.Tr Go.Proofs.YtkpnomdmnhhaoaaGreatDoor.Pl Go.Proofs.YtkpnomdmnhhaoaaGreatDoor.Pw Go.Proofs.YtkpnomdmnhhaoaaGreatDoor.Sk Go.Proofs.YtkpnomdmnhhaoaaGreatDoor.Ut
open Go.Proofs.YtkpnomdmnhhaoaaGreatDoor.Ql (tl)

variable {w : World} {s : ByteArray}
/-- Where a byte first stands. -/
theorem ix_cases (c : UInt8) : ∀ l : List UInt8, (Lib.indexByte l c = -1 ∧ ∀ x ∈ l, x ≠ c) ∨ ∃ k : Nat, Lib.indexByte l c = (k : Int) ∧ k < l.length ∧ (∀ x ∈ l.take k, x ≠ c) ∧ ∃ r, l.drop k = c :: r
  | [] => .inl ⟨rfl, by simp⟩
  | b :: l => by
    unfold Lib.indexByte
    by_cases hb : b = c
    · subst hb
      right
      refine ⟨0, by simp, by simp, by simp, l, rfl⟩
    · have hb' : (b == c) = false := by simpa using hb
      rw [hb']
      simp only [Bool.false_eq_true, if_false]
      rcases ix_cases c l with ⟨h1, h2⟩ | ⟨k, h1, h2, h3, r, h4⟩
      · left
        rw [h1]
        refine ⟨rfl, fun x hx => ?_⟩
        rcases List.mem_cons.1 hx with rfl | hx
        · exact hb
        · exact h2 x hx
      · right
        rw [h1]
        refine ⟨k + 1, ?_, by simp only [List.length_cons]; omega, fun x hx => ?_, r, h4⟩
        · have : ((k : Int) == -1) = false := by simp only [beq_eq_false_iff_ne, ne_eq]; omega
          rw [this]; simp
        · rw [List.take_succ_cons] at hx
          rcases List.mem_cons.1 hx with rfl | hx
          · exact hb
          · exact h3 x hx
theorem bn_list (u : ByteArray) (j : Nat) (hj : j < u.size) : ∃ b, u.data.toList[j]? = some b ∧ b.toNat = bn u j := by
  have hl : j < u.data.toList.length := by rw [Array.length_toList]; exact hj
  refine ⟨u.data.toList[j], List.getElem?_eq_getElem hl, ?_⟩
  unfold bn
  rw [List.getD_eq_getElem?_getD, List.getElem?_eq_getElem hl]; rfl
/-- strings.IndexByte of a text from a place on. -/
theorem ix_sfx (a : Nat) (c : UInt8) : (Lib.indexByte (sfx s a).data.toList c = -1 ∧ ∀ j, a + j < s.size → bn s (a + j) ≠ c.toNat) ∨ ∃ j : Nat, Lib.indexByte (sfx s a).data.toList c = (j : Int) ∧ a + j < s.size ∧ bn s (a + j) = c.toNat ∧ ∀ i, i < j → bn s (a + i) ≠ c.toNat := by
  have hz := sfx_size s a
  have hlen : (sfx s a).data.toList.length = s.size - a := by rw [Array.length_toList]; exact hz
  rcases ix_cases c (sfx s a).data.toList with ⟨h1, h2⟩ | ⟨k, h1, h2, h3, r, h4⟩
  · refine .inl ⟨h1, fun j hj e => ?_⟩
    obtain ⟨b, hb, hb2⟩ := bn_list (sfx s a) j (by omega)
    rw [sfx_bn] at hb2
    exact h2 b (List.mem_of_getElem? hb) (UInt8.toNat_inj.1 (by rw [hb2, e]))
  · refine .inr ⟨k, h1, by omega, ?_, fun i hi e => ?_⟩
    · obtain ⟨b, hb, hb2⟩ := bn_list (sfx s a) k (by omega)
      rw [sfx_bn] at hb2
      have : ((sfx s a).data.toList.drop k)[0]? = some c := by rw [h4]; rfl
      rw [List.getElem?_drop, Nat.add_zero, hb] at this
      rw [← hb2, Option.some.inj this]
    · obtain ⟨b, hb, hb2⟩ := bn_list (sfx s a) i (by omega)
      rw [sfx_bn] at hb2
      refine h3 b ?_ (UInt8.toNat_inj.1 (by rw [hb2, e]))
      have : ((sfx s a).data.toList.take k)[i]? = some b := by rw [List.getElem?_take_of_lt hi]; exact hb
      exact List.mem_of_getElem? this
/-! ## Blanks -/
theorem isB_no {c : Int} (h : ¬ (c = 32 ∨ c = 9 ∨ c = 10 ∨ c = 13)) : isB c = false := by
  cases hb : isB c with
  | false => rfl
  | true => exact absurd (isB_iff.1 hb) h
theorem slow_any {i : Nat} (hs : s.size < 4611686018427387904) (hi : i < s.size) : Calls Tryz.prog 57 #[.string (sfx s i)] w fun e w' => e = .returned (.string (sfx s (bl s i))) ∧ w' = w := by
  have hz := sfx_size s i
  have h0 : bt (sfx s i) (0 : Int) = bt s (i : Int) := sfx_bt s i 0
  refine fastjson_skipWSSlow.calls _ ?_
  unfold fastjson_skipWSSlow.t
  refine s_cut (fun x w' => x = (!isB (bt s (i : Int)), ()) ∧ w' = w) ?_ ?_
  · refine s_iteE (fun g => ?_) (fun g => s_chk (by omega) ?_)
    · omega
    rw [h0]
    refine s_iteN (fun g1 => s_chk (by omega) ?_) (fun g1 => s_leaf ?_)
    · refine s_iteN (fun g2 => s_chk (by omega) ?_) (fun g2 => s_leaf ?_)
      · refine s_iteN (fun g3 => s_chk (by omega) (s_leaf ?_)) (fun g3 => s_leaf ?_)
        · rw [if_pos rfl]
          refine ⟨(bt s (i : Int) != 13, ()), rfl, bpair ?_, rfl⟩
          simp [isB, g1, g2, g3]
        · rw [if_pos rfl]
          exact ⟨(false, ()), rfl, bpair (by simp [isB, g3]), rfl⟩
      · rw [if_pos rfl]
        exact ⟨(false, ()), rfl, bpair (by simp [isB, g2]), rfl⟩
    · rw [if_pos rfl]
      exact ⟨(false, ()), rfl, bpair (by simp [isB, g1]), rfl⟩
  rintro x w1 ⟨rfl, rfl⟩
  show sat _ (fastjson_skipWSSlow.t1 (sfx s i) (!isB (bt s (i : Int)))) _ _
  unfold fastjson_skipWSSlow.t1
  refine s_ite (fun hb => s_leaf ⟨rfl, ?_, rfl⟩) (fun hb => ?_)
  · rw [bl_no (by simpa using hb)]; rfl
  have hb : isB (bt s (i : Int)) = true := by simpa using hb
  refine s_loop (fun n x w' => ∃ k : Nat, n = s.size - (i + k) ∧ x = ((k : Int), ()) ∧ i + k ≤ s.size ∧ bl s (i + k) = bl s i ∧ w' = w1) (s.size - (i + 1)) ((1 : Int), ()) rfl ⟨1, rfl, rfl, by omega, (bl_yes hb).symm, rfl⟩ ?_
  rintro n x w2 ⟨k, rfl, rfl, hk, hbl, rfl⟩
  show sat _ (fastjson_skipWSSlow.t2 (sfx s i) (k : Int)) _ _
  unfold fastjson_skipWSSlow.t2
  have hkb := sfx_bt s i k
  refine s_iteD (fun hlt => s_chk (by omega) ?_) (fun hge => s_leaf ?_)
  rotate_left
  · rw [if_neg (by decide)]
    refine ⟨rfl, ?_, rfl⟩
    have : bl s i = i + k := by rw [← hbl]; exact bl_end (by omega)
    rw [this, sfx_end (by omega)]; rfl
  rw [hkb]
  have go : isB (bt s ((i + k : Nat) : Int)) = true → (if (1 : Nat) = 1 then ∃ n' x', [Value.int IntKind.i64 (IntKind.wrap IntKind.i64 ((k : Int) + (1 : Int)))] = (Sh.cons (.int .i64) .nil).vals x' ∧ n' < s.size - (i + k) ∧ ∃ k : Nat, n' = s.size - (i + k) ∧ x' = ((k : Int), ()) ∧ i + k ≤ s.size ∧ bl s (i + k) = bl s i ∧ w2 = w2 else False) := fun h => by
    rw [if_pos rfl, wrap_in (by omega) (by omega)]
    exact ⟨s.size - (i + (k + 1)), (((k + 1 : Nat) : Int), ()), rfl, by omega, k + 1, rfl, rfl, by omega, by rw [← Nat.add_assoc, ← bl_yes h]; exact hbl, rfl⟩
  refine s_iteN (fun g1 => s_chk (by omega) ?_) (fun g1 => s_leaf ?_)
  · refine s_iteN (fun g2 => s_chk (by omega) ?_) (fun g2 => s_leaf ?_)
    · refine s_iteN (fun g3 => s_chk (by omega) ?_) (fun g3 => s_leaf ?_)
      · refine s_iteN (fun g4 => s_chk (by omega) (s_leaf ?_)) (fun g4 => s_leaf ?_)
        · rw [if_neg (by decide)]
          refine ⟨rfl, ?_, rfl⟩
          have : bl s i = i + k := by rw [← hbl]; exact bl_no (isB_no (by omega))
          rw [this, Int.toNat_natCast, Int.toNat_natCast, sfx_sfx]; rfl
        · exact go (isB_iff.2 (by omega))
      · exact go (isB_iff.2 (by omega))
    · exact go (isB_iff.2 (by omega))
  · exact go (isB_iff.2 (by omega))
theorem skip_any {i : Nat} (hs : s.size < 4611686018427387904) : Calls Tryz.prog 35 #[.string (sfx s i)] w fun e w' => e = .returned (.string (sfx s (bl s i))) ∧ w' = w := by
  have hz := sfx_size s i
  have h0 : bt (sfx s i) (0 : Int) = bt s (i : Int) := sfx_bt s i 0
  refine fastjson_skipWS.calls _ ?_
  unfold fastjson_skipWS.t
  refine s_iteE (fun g => s_leaf ⟨rfl, ?_, rfl⟩) (fun g => s_chk (by omega) ?_)
  · rw [bl_end (by omega)]; rfl
  rw [h0]
  refine s_iteD (fun g1 => s_leaf ⟨rfl, ?_, rfl⟩) (fun g1 => ?_)
  · rw [bl_no (by
      cases hb : isB (bt s (i : Int)) with
      | false => rfl
      | true => have := isB_iff.1 hb; omega)]
    rfl
  refine s_call (slow_any hs (by omega)) ?_
  rintro e w1 ⟨rfl, rfl⟩
  exact ⟨sfx s (bl s i), rfl, s_leaf ⟨rfl, rfl, rfl⟩⟩
/-! ## Strings -/
theorem bk_run {p c : Nat} (hc : bk s p c = false) : ∀ m, (∀ t, t < m → bt s ((p + c + t : Nat) : Int) = 92) → bk s p (c + m) = decide (m % 2 = 1)
  | 0, _ => by rw [Nat.add_zero, hc]; rfl
  | m + 1, h => by
    have ih := bk_run hc m fun t ht => h t (by omega)
    have h1 : bt s ((p + (c + m) : Nat) : Int) = 92 := by rw [← Nat.add_assoc]; exact h m (Nat.lt_succ_self m)
    rw [show c + (m + 1) = c + m + 1 by omega, bk_on h1, ih]
    have h2 : m % 2 = 0 ∨ m % 2 = 1 := by omega
    rcases h2 with h2 | h2
    · rw [decide_eq_false (by omega), decide_eq_true (by omega)]; rfl
    · rw [decide_eq_true (by omega), decide_eq_false (by omega)]; rfl
/-- The next quotation mark. -/
theorem next_q {p k a : Nat} (h : QE s p k) (ha : a ≤ k) : ∃ j : Nat, Lib.indexByte (sfx s (p + a)).data.toList 34 = (j : Int) ∧ a + j ≤ k ∧ bt s ((p + a + j : Nat) : Int) = 34 := by
  have hm := h.mark
  have hlt : p + k < s.size := lt_of_bt (by omega)
  have hmb : bn s (p + k) = 34 := by rw [bt_bn] at hm; exact Int.ofNat.inj hm
  rcases ix_sfx (s := s) (p + a) 34 with ⟨_, h2⟩ | ⟨j, h1, h2, h3, h4⟩
  · exfalso
    refine h2 (k - a) (by omega) ?_
    rw [show p + a + (k - a) = p + k by omega, hmb]; rfl
  · refine ⟨j, h1, ?_, by rw [bt_bn, h3]; rfl⟩
    rcases Nat.lt_or_ge k (a + j) with g | g
    · exfalso
      refine h4 (k - a) (by omega) ?_
      rw [show p + a + (k - a) = p + k by omega, hmb]; rfl
    · exact g
theorem sub_sfx {p k : Nat} : (sfx s p).extract 0 k = s.extract p (min (p + k) s.size) := by
  unfold sfx
  rw [ByteArray.extract_extract, Nat.add_zero]
def StrPost (s : ByteArray) (p k : Nat) (w : World) (e : Ending) (w' : World) : Prop :=
  e = .returned (.tuple #[.string (s.extract p (p + k)), .string (sfx s (p + k + 1)), .nilIface]) ∧ Kp Off w w'
theorem rawString_any {p k : Nat} (hs : s.size < 4611686018427387904) (h : QE s p k) : Calls Tryz.prog 46 #[.string (sfx s p)] w (StrPost s p k w) := by
  have hz := sfx_size s p
  have hm := h.mark
  have hlt : p + k < s.size := lt_of_bt (by omega)
  have atk : ∀ {j}, j ≤ k → bt s ((p + j : Nat) : Int) = 34 → bk s p j = false → j = k := fun {j} h1 h2 h3 => by
    rcases Nat.lt_or_ge j k with g | g
    · rw [h.first j g h2] at h3; cases h3
    · omega
  -- the end: the result
  have fin : ∀ {w0 w1 : World} {a j : Nat} {x y : ByteArray}, a + j = k → Kp Off w0 w1 → x = (sfx s p).extract 0 (a + j) → y = (sfx s (p + a)).extract (j + 1) (sfx s (p + a)).size → StrPost s p k w0 (.returned (retVal [.string x, .string y, .nilIface])) w1 := by
    rintro w0 w1 a j x y e k1 rfl rfl
    refine ⟨?_, k1⟩
    rw [sfx_sfx, sub_sfx, show min (p + (a + j)) s.size = p + k by omega, show p + a + (j + 1) = p + k + 1 by omega]
    rfl
  refine fastjson_parseRawString.calls _ ?_
  unfold fastjson_parseRawString.t
  refine s_call (Tryz.strings_IndexByte (sfx s p) 34 w) ?_
  rintro e w1 ⟨rfl, rfl⟩
  obtain ⟨j, e1, hj, hq⟩ := next_q (a := 0) h (Nat.zero_le _)
  rw [Nat.add_zero] at e1 hq
  refine ⟨Lib.indexByte (sfx s p).data.toList 34, rfl, ?_⟩
  rw [e1]
  refine s_iteD (fun g => by omega) (fun _ => ?_)
  have hjk : j ≤ k := by omega
  have hbj : ∀ {i : Nat}, 0 < i → i ≤ k → bt (sfx s p) ((i : Int) - 1) = bt s ((p + i - 1 : Nat) : Int) := fun {i} g1 g2 => by
    rw [show (i : Int) - 1 = ((i - 1 : Nat) : Int) by omega, sfx_bt]; congr 2; omega
  refine s_cut (fun x w' => w' = w1 ∧ x = (decide (j = 0 ∨ bt s ((p + j - 1 : Nat) : Int) ≠ 92), ())) ?_ ?_
  · refine s_iteE (fun g => s_leaf ?_) (fun g => ?_)
    · rw [if_pos rfl]
      exact ⟨(true, ()), rfl, rfl, bpair (by simp; left; omega)⟩
    · rw [wrap_in (by omega) (by omega)]
      refine s_chk (by omega) (s_leaf ?_)
      rw [if_pos rfl, hbj (by omega) hjk]
      refine ⟨(bt s ((p + j - 1 : Nat) : Int) != 92, ()), rfl, rfl, bpair ?_⟩
      have : j ≠ 0 := by omega
      simp [this]
  rintro x w2 ⟨rfl, rfl⟩
  show sat _ (fastjson_parseRawString.t1 (sfx s p) (j : Int) (decide (j = 0 ∨ bt s ((p + j - 1 : Nat) : Int) ≠ 92))) _ _
  unfold fastjson_parseRawString.t1
  refine s_iteD (fun g => s_drew (s_chk (by omega) ?_)) (fun g => ?_)
  · rw [wrap_in (by omega) (by omega)]
    refine s_chk (by omega) (s_leaf ⟨rfl, ?_⟩)
    have hk : j = k := atk hjk hq (by
      rcases g with g | g
      · subst g; rfl
      · rcases Nat.eq_zero_or_pos j with g0 | g0
        · subst g0; rfl
        · have := bk_no (s := s) (p := p) (k := j - 1) (by rw [show p + (j - 1) = p + j - 1 by omega]; exact g)
          rwa [show j - 1 + 1 = j by omega] at this)
    refine fin (a := 0) (j := j) (by omega) ((Kp.refl _ _).drew) ?_ ?_
    · rw [Int.toNat_natCast, Nat.zero_add]
    · rw [Int.toNat_natCast, Nat.add_zero]; rfl
  have g1 : j ≠ 0 := fun c => g (.inl c)
  have g2 : bt s ((p + j - 1 : Nat) : Int) = 92 := by
    by_cases c : bt s ((p + j - 1 : Nat) : Int) = 92
    · exact c
    · exact absurd (Or.inr c) g
  clear g
  refine s_loop (fun n x w' => ∃ (a j : Nat), n = k - a ∧ x = ((j : Int), sfx s (p + a), ()) ∧ a + j ≤ k ∧ 0 < j ∧ (a = 0 ∨ bt s ((p + a - 1 : Nat) : Int) = 34) ∧ bt s ((p + a + j : Nat) : Int) = 34 ∧ bt s ((p + a + j - 1 : Nat) : Int) = 92 ∧ w' = w2) k ((j : Int), sfx s p, ()) rfl
    ⟨0, j, rfl, by rw [Nat.add_zero]; rfl, by omega, by omega, .inl rfl, by rw [Nat.add_zero]; exact hq, by rw [Nat.add_zero]; exact g2, rfl⟩ ?_
  clear hj hq e1 hjk g1 g2
  rintro n x w3 ⟨a, j, rfl, rfl, haj, hj0, ha, hq, h92, rfl⟩
  show sat _ (fastjson_parseRawString.t2 (sfx s p) (j : Int) (sfx s (p + a))) _ _
  unfold fastjson_parseRawString.t2
  have hza := sfx_size s (p + a)
  rw [wrap_in (by omega) (by omega)]
  refine s_loop (fun n x w' => ∃ i : Nat, n = i ∧ x = ((i : Int), ()) ∧ i < j ∧ (∀ t, i ≤ t → t < j → bt s ((p + a + t : Nat) : Int) = 92) ∧ w' = w3) (j - 1) ((j : Int) - 1, ()) rfl
    ⟨j - 1, rfl, congrArg (fun z : Int => (z, ())) (by omega), by omega, fun t h1 h2 => by
      have : t = j - 1 := by omega
      subst this
      rw [show p + a + (j - 1) = p + a + j - 1 by omega]; exact h92, rfl⟩ ?_
  rintro n x w4 ⟨i, hni, rfl, hij, hall, rfl⟩
  show sat _ (fastjson_parseRawString.t3 (sfx s p) (j : Int) (sfx s (p + a)) (i : Int)) _ _
  unfold fastjson_parseRawString.t3
  -- what the number of backslashes tells
  have tell : (i = 0 ∨ bt s ((p + a + i - 1 : Nat) : Int) ≠ 92) → bk s p (a + j) = decide ((j - i) % 2 = 1) := fun hi => by
    have hc : bk s p (a + i) = false := by
      rcases Nat.eq_zero_or_pos (a + i) with g0 | g0
      · rw [g0]; rfl
      · have hb : bt s ((p + (a + i - 1) : Nat) : Int) ≠ 92 := by
          rcases hi with rfl | hi
          · rcases ha with rfl | ha
            · omega
            · rw [show p + (a + 0 - 1) = p + a - 1 by omega, ha]; decide
          · rw [show p + (a + i - 1) = p + a + i - 1 by omega]; exact hi
        have := bk_no hb
        rwa [show a + i - 1 + 1 = a + i by omega] at this
    have := bk_run hc (j - i) fun t ht => by
      have := hall (i + t) (by omega) (by omega)
      rwa [show p + (a + i) + t = p + a + (i + t) by omega]
    rwa [show a + i + (j - i) = a + j by omega] at this
  have hmod : Int.tmod (IntKind.wrap IntKind.u64 (IntKind.wrap IntKind.i64 ((j : Int) - (i : Int)))) (2 : Int) = (((j - i) % 2 : Nat) : Int) := by
    rw [wrap_in (by omega) (by omega), IntWalk.u64_in _ (by omega), show (j : Int) - (i : Int) = ((j - i : Nat) : Int) by omega]
    exact Int.ofNat_tmod (j - i) 2
  rw [hmod]
  have hexit : ∀ {Q : Nat → List Value → World → Prop} (K1 K2 : T), (i = 0 ∨ bt s ((p + a + i - 1 : Nat) : Int) ≠ 92) → (a + j = k → sat Tryz.prog K1 Q w4) → (a + j < k → sat Tryz.prog K2 Q w4) → sat Tryz.prog (.ite ((((j - i) % 2 : Nat) : Int) == (0 : Int)) K1 K2) Q w4 := by
    intro Q K1 K2 hi h1 h2
    have ht := tell hi
    refine s_iteE (fun g => h1 (atk haj (by rw [← Nat.add_assoc]; exact hq) ?_)) (fun g => h2 ?_)
    · rw [ht, decide_eq_false (by omega)]
    · rcases Nat.lt_or_ge (a + j) k with g' | g'
      · exact g'
      · exfalso
        have e : a + j = k := by omega
        have he := h.even
        rw [← e, ht] at he
        have := of_decide_eq_false he
        omega
  have tails : fastjson_parseRawString.t5 = fastjson_parseRawString.t4 := rfl
  rw [tails]
  have w1a : IntKind.wrap IntKind.i64 ((j : Int) + (1 : Int)) = ((j + 1 : Nat) : Int) := by rw [wrap_in (by omega) (by omega)]; omega
  rw [w1a, Int.toNat_natCast, Int.toNat_natCast, sfx_sfx, show p + a + (j + 1) = p + (a + j + 1) by omega]
  have esz : (((sfx s p).size : Nat) : Int) - (((sfx s (p + a)).size : Nat) : Int) = (a : Int) := by omega
  -- the mark is the last one
  have done : ∀ {w0 : World}, a + j = k → Kp Off w4 w0 → StrPost s p k w4 (.returned (retVal [.string (ByteArray.extract (sfx s p) 0 (Int.toNat (IntKind.wrap IntKind.i64 (IntKind.wrap IntKind.i64 ((((sfx s p).size : Nat) : Int) - (((sfx s (p + a)).size : Nat) : Int)) + (j : Int))))), .string (sfx s (p + (a + j + 1))), .nilIface])) w0 := fun e k1 => by
    refine fin (a := a) (j := j) e k1 ?_ ?_
    · rw [esz, wrap_in (n := (a : Int)) (by omega) (by omega), wrap_in (by omega) (by omega), show (a : Int) + (j : Int) = ((a + j : Nat) : Int) by omega, Int.toNat_natCast]
    · rw [sfx_sfx]; congr 1; omega
  have okc : ((0 : Int) ≤ (0 : Int)) ∧ (((0 : Int) ≤ (IntKind.wrap IntKind.i64 (IntKind.wrap IntKind.i64 ((((sfx s p).size : Nat) : Int) - (((sfx s (p + a)).size : Nat) : Int)) + (j : Int)))) ∧ (IntKind.wrap IntKind.i64 (IntKind.wrap IntKind.i64 ((((sfx s p).size : Nat) : Int) - (((sfx s (p + a)).size : Nat) : Int)) + (j : Int))) ≤ (((sfx s p).size : Nat) : Int)) := by
    rw [esz, wrap_in (n := (a : Int)) (by omega) (by omega), wrap_in (by omega) (by omega)]; omega
  refine s_iteD (fun hi => ?_) (fun hi => ?_)
  · rw [wrap_in (by omega) (by omega)]
    have hbi : bt (sfx s (p + a)) ((i : Int) - 1) = bt s ((p + a + i - 1 : Nat) : Int) := by
      rw [show (i : Int) - 1 = ((i - 1 : Nat) : Int) by omega, sfx_bt]; congr 2; omega
    rw [hbi]
    refine s_chk (by omega) (s_iteE (fun g => s_leaf ?_) (fun g => s_chk (by decide) ?_))
    · rw [if_pos rfl]
      refine ⟨i - 1, ((i : Int) - 1, ()), rfl, by omega, i - 1, rfl, congrArg (fun z : Int => (z, ())) (by omega), by omega, fun t h1 h2 => ?_, rfl⟩
      rcases Nat.lt_or_ge t i with g' | g'
      · have : t = i - 1 := by omega
        subst this
        rw [show p + a + (i - 1) = p + a + i - 1 by omega]; exact g
      · exact hall t g' h2
    refine hexit _ _ (.inr g) (fun e => s_drew (s_chk okc (s_chk (by omega) (s_leaf ?_)))) (fun hlt => s_chk (by omega) ?_)
    · rw [if_neg (by decide), if_neg (by decide)]
      exact ⟨rfl, done e (Kp.refl _ _).drew⟩
    obtain ⟨j', e1, hj', hq'⟩ := next_q (a := a + j + 1) h (by omega)
    have hzb := sfx_size s (p + (a + j + 1))
    refine s_call (Tryz.strings_IndexByte (sfx s (p + (a + j + 1))) 34 _) ?_
    rintro e w5 ⟨rfl, rfl⟩
    refine ⟨Lib.indexByte (sfx s (p + (a + j + 1))).data.toList 34, rfl, ?_⟩
    rw [e1]
    refine s_iteD (fun g => by omega) (fun _ => ?_)
    have hbj' : ∀ {i : Nat}, 0 < i → i ≤ k → bt (sfx s (p + (a + j + 1))) ((i : Int) - 1) = bt s ((p + (a + j + 1) + i - 1 : Nat) : Int) := fun {i} g1 g2 => by
      rw [show (i : Int) - 1 = ((i - 1 : Nat) : Int) by omega, sfx_bt]; congr 2; omega
    refine s_cut (fun x w' => w' = w5 ∧ x = (decide (j' = 0 ∨ bt s ((p + (a + j + 1) + j' - 1 : Nat) : Int) ≠ 92), ())) ?_ ?_
    · refine s_iteE (fun g => s_leaf ?_) (fun g => ?_)
      · rw [if_pos rfl]
        exact ⟨(true, ()), rfl, rfl, bpair (by simp; left; omega)⟩
      · rw [wrap_in (by omega) (by omega)]
        refine s_chk (by omega) (s_leaf ?_)
        rw [if_pos rfl, hbj' (by omega) (by omega)]
        refine ⟨(bt s ((p + (a + j + 1) + j' - 1 : Nat) : Int) != 92, ()), rfl, rfl, bpair ?_⟩
        have : j' ≠ 0 := by omega
        simp [this]
    rintro x w6 ⟨rfl, rfl⟩
    show sat _ (fastjson_parseRawString.t4 (sfx s p) (j : Int) (sfx s (p + a)) (j' : Int) (decide (j' = 0 ∨ bt s ((p + (a + j + 1) + j' - 1 : Nat) : Int) ≠ 92))) _ _
    unfold fastjson_parseRawString.t4
    rw [w1a, Int.toNat_natCast, Int.toNat_natCast, sfx_sfx, show p + a + (j + 1) = p + (a + j + 1) by omega]
    have esz' : (((sfx s p).size : Nat) : Int) - (((sfx s (p + (a + j + 1))).size : Nat) : Int) = ((a + j + 1 : Nat) : Int) := by omega
    rw [esz', wrap_in (n := ((a + j + 1 : Nat) : Int)) (by omega) (by omega), wrap_in (n := ((a + j + 1 : Nat) : Int) + (j' : Int)) (by omega) (by omega), wrap_in (n := (j' : Int) + (1 : Int)) (by omega) (by omega)]
    refine s_iteD (fun g => s_drew (s_chk (by omega) (s_chk (by omega) (s_leaf ?_)))) (fun g => s_leaf ?_)
    · rw [if_neg (by decide), if_neg (by decide)]
      have hk : a + j + 1 + j' = k := atk hj' (by rw [← Nat.add_assoc]; exact hq') (by
        have hb : bt s ((p + (a + j + j') : Nat) : Int) ≠ 92 := by
          rcases g with rfl | g
          · rw [show p + (a + j + 0) = p + a + j by omega, hq]; decide
          · rw [show p + (a + j + j') = p + (a + j + 1) + j' - 1 by omega]; exact g
        have := bk_no hb
        rwa [show a + j + j' + 1 = a + j + 1 + j' by omega] at this)
      refine ⟨rfl, fin (a := a + j + 1) (j := j') hk (Kp.refl _ _).drew ?_ ?_⟩
      · rw [show ((a + j + 1 : Nat) : Int) + (j' : Int) = ((a + j + 1 + j' : Nat) : Int) by omega, Int.toNat_natCast]
      · rw [show (j' : Int) + (1 : Int) = ((j' + 1 : Nat) : Int) by omega, Int.toNat_natCast]; rfl
    · rw [if_neg (by decide), if_pos rfl]
      have g1 : j' ≠ 0 := fun c => g (.inl c)
      have g2 : bt s ((p + (a + j + 1) + j' - 1 : Nat) : Int) = 92 := by
        by_cases c : bt s ((p + (a + j + 1) + j' - 1 : Nat) : Int) = 92
        · exact c
        · exact absurd (Or.inr c) g
      exact ⟨k - (a + j + 1), ((j' : Int), sfx s (p + (a + j + 1)), ()), rfl, by omega, a + j + 1, j', rfl, rfl, hj', by omega, .inr (by rw [show p + (a + j + 1) - 1 = p + a + j by omega]; exact hq), hq', g2, rfl⟩
  · refine s_chk (by decide) ?_
    refine hexit _ _ (.inl (by omega)) (fun e => s_drew (s_chk okc (s_chk (by omega) (s_leaf ?_)))) (fun hlt => s_chk (by omega) ?_)
    · rw [if_neg (by decide), if_neg (by decide)]
      exact ⟨rfl, done e (Kp.refl _ _).drew⟩
    obtain ⟨j', e1, hj', hq'⟩ := next_q (a := a + j + 1) h (by omega)
    have hzb := sfx_size s (p + (a + j + 1))
    refine s_call (Tryz.strings_IndexByte (sfx s (p + (a + j + 1))) 34 _) ?_
    rintro e w5 ⟨rfl, rfl⟩
    refine ⟨Lib.indexByte (sfx s (p + (a + j + 1))).data.toList 34, rfl, ?_⟩
    rw [e1]
    refine s_iteD (fun g => by omega) (fun _ => ?_)
    have hbj' : ∀ {i : Nat}, 0 < i → i ≤ k → bt (sfx s (p + (a + j + 1))) ((i : Int) - 1) = bt s ((p + (a + j + 1) + i - 1 : Nat) : Int) := fun {i} g1 g2 => by
      rw [show (i : Int) - 1 = ((i - 1 : Nat) : Int) by omega, sfx_bt]; congr 2; omega
    refine s_cut (fun x w' => w' = w5 ∧ x = (decide (j' = 0 ∨ bt s ((p + (a + j + 1) + j' - 1 : Nat) : Int) ≠ 92), ())) ?_ ?_
    · refine s_iteE (fun g => s_leaf ?_) (fun g => ?_)
      · rw [if_pos rfl]
        exact ⟨(true, ()), rfl, rfl, bpair (by simp; left; omega)⟩
      · rw [wrap_in (by omega) (by omega)]
        refine s_chk (by omega) (s_leaf ?_)
        rw [if_pos rfl, hbj' (by omega) (by omega)]
        refine ⟨(bt s ((p + (a + j + 1) + j' - 1 : Nat) : Int) != 92, ()), rfl, rfl, bpair ?_⟩
        have : j' ≠ 0 := by omega
        simp [this]
    rintro x w6 ⟨rfl, rfl⟩
    show sat _ (fastjson_parseRawString.t4 (sfx s p) (j : Int) (sfx s (p + a)) (j' : Int) (decide (j' = 0 ∨ bt s ((p + (a + j + 1) + j' - 1 : Nat) : Int) ≠ 92))) _ _
    unfold fastjson_parseRawString.t4
    rw [w1a, Int.toNat_natCast, Int.toNat_natCast, sfx_sfx, show p + a + (j + 1) = p + (a + j + 1) by omega]
    have esz' : (((sfx s p).size : Nat) : Int) - (((sfx s (p + (a + j + 1))).size : Nat) : Int) = ((a + j + 1 : Nat) : Int) := by omega
    rw [esz', wrap_in (n := ((a + j + 1 : Nat) : Int)) (by omega) (by omega), wrap_in (n := ((a + j + 1 : Nat) : Int) + (j' : Int)) (by omega) (by omega), wrap_in (n := (j' : Int) + (1 : Int)) (by omega) (by omega)]
    refine s_iteD (fun g => s_drew (s_chk (by omega) (s_chk (by omega) (s_leaf ?_)))) (fun g => s_leaf ?_)
    · rw [if_neg (by decide), if_neg (by decide)]
      have hk : a + j + 1 + j' = k := atk hj' (by rw [← Nat.add_assoc]; exact hq') (by
        have hb : bt s ((p + (a + j + j') : Nat) : Int) ≠ 92 := by
          rcases g with rfl | g
          · rw [show p + (a + j + 0) = p + a + j by omega, hq]; decide
          · rw [show p + (a + j + j') = p + (a + j + 1) + j' - 1 by omega]; exact g
        have := bk_no hb
        rwa [show a + j + j' + 1 = a + j + 1 + j' by omega] at this)
      refine ⟨rfl, fin (a := a + j + 1) (j := j') hk (Kp.refl _ _).drew ?_ ?_⟩
      · rw [show ((a + j + 1 : Nat) : Int) + (j' : Int) = ((a + j + 1 + j' : Nat) : Int) by omega, Int.toNat_natCast]
      · rw [show (j' : Int) + (1 : Int) = ((j' + 1 : Nat) : Int) by omega, Int.toNat_natCast]; rfl
    · rw [if_neg (by decide), if_pos rfl]
      have g1 : j' ≠ 0 := fun c => g (.inl c)
      have g2 : bt s ((p + (a + j + 1) + j' - 1 : Nat) : Int) = 92 := by
        by_cases c : bt s ((p + (a + j + 1) + j' - 1 : Nat) : Int) = 92
        · exact c
        · exact absurd (Or.inr c) g
      exact ⟨k - (a + j + 1), ((j' : Int), sfx s (p + (a + j + 1)), ()), rfl, by omega, a + j + 1, j', rfl, rfl, hj', by omega, .inr (by rw [show p + (a + j + 1) - 1 = p + a + j by omega]; exact hq), hq', g2, rfl⟩
/-! ## Names -/
theorem rawKey_any {p k : Nat} (hs : s.size < 4611686018427387904) (h : QE s p k) : Calls Tryz.prog 74 #[.string (sfx s p)] w (StrPost s p k w) := by
  have hz := sfx_size s p
  have hm := h.mark
  have hlt : p + k < s.size := lt_of_bt (by omega)
  refine fastjson_parseRawKey.calls _ ?_
  unfold fastjson_parseRawKey.t
  refine s_loop (fun n x w' => ∃ i : Nat, n = k - i ∧ x = ((i : Int), ()) ∧ i ≤ k ∧ (∀ t, t < i → bt s ((p + t : Nat) : Int) ≠ 34 ∧ bt s ((p + t : Nat) : Int) ≠ 92) ∧ w' = w) k ((0 : Int), ()) rfl ⟨0, rfl, rfl, Nat.zero_le _, fun t ht => by omega, rfl⟩ ?_
  rintro n x w1 ⟨i, rfl, rfl, hi, hall, rfl⟩
  show sat _ (fastjson_parseRawKey.t1 (sfx s p) (i : Int)) _ _
  unfold fastjson_parseRawKey.t1
  have hb := sfx_bt s p i
  refine s_iteD (fun _ => s_chk (by omega) ?_) (fun g => by omega)
  rw [hb, wrap_in (by omega) (by omega)]
  refine s_iteE (fun g => s_drew (s_chk (by omega) (s_chk (by omega) (s_leaf ?_)))) (fun g => s_chk (by omega) ?_)
  · rw [if_neg (by decide)]
    have hk : i = k := by
      rcases Nat.lt_or_ge i k with g' | g'
      · have h1 := h.first i g' g
        rcases Nat.eq_zero_or_pos i with g0 | g0
        · subst g0; cases h1
        · have := bk_no (s := s) (p := p) (k := i - 1) ((hall (i - 1) (by omega)).2)
          rw [show i - 1 + 1 = i by omega, h1] at this; cases this
      · omega
    subst hk
    refine ⟨rfl, ?_, (Kp.refl _ _).drew⟩
    rw [show (i : Int) + (1 : Int) = ((i + 1 : Nat) : Int) by omega, Int.toNat_natCast, Int.toNat_natCast, Int.toNat_natCast, sfx_sfx, sub_sfx, show min (p + i) s.size = p + i by omega]
    rfl
  refine s_iteE (fun g2 => ?_) (fun g2 => s_leaf ?_)
  · refine s_call (rawString_any hs h) ?_
    rintro e w2 ⟨rfl, k2⟩
    refine ⟨(s.extract p (p + k), sfx s (p + k + 1), .nilIface, ()), rfl, s_leaf ?_⟩
    rw [if_neg (by decide)]
    exact ⟨rfl, rfl, k2⟩
  · rw [if_pos rfl]
    have hne : i ≠ k := fun c => by subst c; exact g hm
    refine ⟨k - (i + 1), (((i + 1 : Nat) : Int), ()), rfl, by omega, i + 1, rfl, rfl, by omega, fun t ht => ?_, rfl⟩
    rcases Nat.lt_or_ge t i with g' | g'
    · exact hall t g'
    · have : t = i := by omega
      subst this; exact ⟨g, g2⟩
/-! ## Numbers -/
/-- A byte that fastjson takes as part of a number. -/
def isN (c : Int) : Bool := (decide (48 ≤ c) && decide (c ≤ 57)) || c == 46 || c == 45 || c == 101 || c == 69 || c == 43
theorem isN_iff {c : Int} : isN c = true ↔ (48 ≤ c ∧ c ≤ 57) ∨ c = 46 ∨ c = 45 ∨ c = 101 ∨ c = 69 ∨ c = 43 := by simp [isN, or_assoc]
theorem isN_no {c : Int} (h : ¬ ((48 ≤ c ∧ c ≤ 57) ∨ c = 46 ∨ c = 45 ∨ c = 101 ∨ c = 69 ∨ c = 43)) : isN c = false := by
  cases hb : isN c with
  | false => rfl
  | true => exact absurd (isN_iff.1 hb) h
def allN (s : ByteArray) (b e : Nat) : Prop := ∀ j, b ≤ j → j < e → isN (bt s (j : Int)) = true
theorem allN.join {a b c : Nat} (h1 : allN s a b) (h2 : allN s b c) : allN s a c := fun j g1 g2 => by
  rcases Nat.lt_or_ge j b with g | g
  · exact h1 j g1 g
  · exact h2 j g g2
theorem allN.one {a : Nat} (h : isN (bt s (a : Int)) = true) : allN s a (a + 1) := fun j g1 g2 => by
  have : j = a := by omega
  subst this; exact h
theorem allN.nil (s : ByteArray) (a : Nat) : allN s a a := fun j g1 g2 => by omega
theorem digs_allN (s : ByteArray) (i : Nat) : allN s i (digs s i) := by
  induction i using digs.induct s with
  | case1 i h ih =>
    rw [digs, if_pos h]
    intro k h1 h2
    rcases Nat.lt_or_ge i k with h' | h'
    · exact ih k h' h2
    · have : k = i := by omega
      subst this; exact isN_iff.2 (.inl (isDig_iff.1 h.2))
  | case2 i h => rw [digs, if_neg h]; intro k h1 h2; omega
theorem numE_allN {i m : Nat} (h : numE s i = some m) : allN s i m := by
  have hD : ∀ {i m}, expD s i = some m → allN s i m := fun {i m} h => by
    unfold expD at h; split at h
    · cases h; exact digs_allN s i
    · cases h
  have hE : ∀ {i m}, expE s i = some m → allN s i m := fun {i m} h => by
    unfold expE at h; split at h
    · rename_i he
      have h1 : allN s i (i + 1) := allN.one (isN_iff.2 (by rcases he with e | e <;> rw [e] <;> decide))
      have h2 : allN s (i + 1) (signE s (i + 1)) := by
        unfold signE; split
        · rename_i hs
          exact allN.one (isN_iff.2 (by rcases hs with e | e <;> rw [e] <;> decide))
        · exact allN.nil _ _
      exact h1.join (h2.join (hD h))
    · cases h; exact allN.nil _ _
  have hF : ∀ {i m}, fracE s i = some m → allN s i m := fun {i m} h => by
    unfold fracE at h; split at h
    · rename_i he
      split at h
      · exact (allN.one (isN_iff.2 (by rw [he]; decide))).join ((digs_allN s (i + 1)).join (hE h))
      · cases h
    · exact hE h
  have hI : ∀ {i m}, intE s i = some m → allN s i m := fun {i m} h => by
    unfold intE at h; split at h
    · rename_i he
      exact (allN.one (isN_iff.2 (by rw [he]; decide))).join (hF h)
    · split at h
      · exact (digs_allN s i).join (hF h)
      · cases h
  unfold numE at h; split at h
  · rename_i he
    exact (allN.one (isN_iff.2 (by rw [he]; decide))).join (hI h)
  · exact hI h
theorem num_one {b : Nat} (h : numE s b = some (b + 1)) (hb : b < s.size) : bt s (b : Int) ≠ 45 := fun h45 => by
  unfold numE at h
  rw [if_pos h45] at h
  by_cases g : bt s ((b + 1 : Nat) : Int) = 45
  · unfold intE at h
    rw [if_neg (by omega), if_neg (by rw [g]; decide)] at h
    cases h
  · have h' : numE s (b + 1) = some (b + 1) := by
      unfold numE; rw [if_neg g]; exact h
    have := (numE_le (by omega) h').1
    omega
theorem rawNumber_any {b e : Nat} (hs : s.size < 4611686018427387904) (hb : b < s.size) (h : numE s b = some e) (hok : numOk (bt s (b : Int)) = true) (hd : isN (bt s (e : Int)) = false) :
    Calls Tryz.prog 49 #[.string (sfx s b)] w fun en w' => en = .returned (.tuple #[.string (s.extract b e), .string (sfx s e), .nilIface]) ∧ Kp Off w w' := by
  have hz := sfx_size s b
  obtain ⟨hbe, hes⟩ := numE_le (Nat.le_of_lt hb) h
  have hN := numE_allN h
  have h43 : bt s (b : Int) ≠ 43 := fun c => by rw [c] at hok; exact absurd hok (by decide)
  refine fastjson_parseRawNumber.calls _ ?_
  unfold fastjson_parseRawNumber.t
  refine s_loop (fun n x w' => ∃ i : Nat, n = e - (b + i) ∧ x = ((i : Int), sfx s b, ()) ∧ b + i ≤ e ∧ w' = w) (e - b) ((0 : Int), sfx s b, ()) rfl ⟨0, rfl, rfl, by omega, rfl⟩ ?_
  rintro n x w1 ⟨i, rfl, rfl, hi, rfl⟩
  show sat _ (fastjson_parseRawNumber.t1 (sfx s b) (i : Int) (sfx s b)) _ _
  unfold fastjson_parseRawNumber.t1
  have hbi := sfx_bt s b i
  refine s_iteD (fun hlt => s_chk (by omega) ?_) (fun hge => s_leaf ?_)
  rotate_left
  · rw [if_neg (by decide)]
    have he : e = s.size := by omega
    refine ⟨rfl, ?_, Kp.refl _ _⟩
    rw [he, sfx_end (Nat.le_refl _)]; rfl
  rw [hbi]
  refine s_cut (fun x w' => x = (isN (bt s ((b + i : Nat) : Int)), ()) ∧ w' = w1) ?_ ?_
  · have yes : ∀ {v : Bool}, v = isN (bt s ((b + i : Nat) : Int)) → (if (2 : Nat) = 2 then ∃ x, [Value.bool v] = (Sh.cons .bool .nil).vals x ∧ x = (isN (bt s ((b + i : Nat) : Int)), ()) ∧ w1 = w1 else False) := fun {v} hv => by
      rw [if_pos rfl]
      exact ⟨(v, ()), rfl, by rw [hv]; rfl, rfl⟩
    have five : ∀ {Q : Nat → List Value → World → Prop}, ¬ (48 ≤ bt s ((b + i : Nat) : Int) ∧ bt s ((b + i : Nat) : Int) ≤ 57) → (∀ v, v = isN (bt s ((b + i : Nat) : Int)) → Q 2 [.bool v] w1) → sat Tryz.prog (
        .ite ((bt s ((b + i : Nat) : Int)) == (46 : Int)) (
          .leaf 2 [(Value.bool Bool.true)]) (
          .ite ((bt s ((b + i : Nat) : Int)) == (45 : Int)) (
            .leaf 2 [(Value.bool Bool.true)]) (
            .ite ((bt s ((b + i : Nat) : Int)) == (101 : Int)) (
              .leaf 2 [(Value.bool Bool.true)]) (
              .ite ((bt s ((b + i : Nat) : Int)) == (69 : Int)) (
                .leaf 2 [(Value.bool Bool.true)]) (
                .leaf 2 [(Value.bool ((bt s ((b + i : Nat) : Int)) == (43 : Int)))]))))) Q w1 := by
      intro Q hno hQ
      refine s_iteE (fun g1 => s_leaf (hQ _ (isN_iff.2 (by omega)).symm)) (fun g1 => ?_)
      refine s_iteE (fun g2 => s_leaf (hQ _ (isN_iff.2 (by omega)).symm)) (fun g2 => ?_)
      refine s_iteE (fun g3 => s_leaf (hQ _ (isN_iff.2 (by omega)).symm)) (fun g3 => ?_)
      refine s_iteE (fun g4 => s_leaf (hQ _ (isN_iff.2 (by omega)).symm)) (fun g4 => s_leaf (hQ _ ?_))
      by_cases g5 : bt s ((b + i : Nat) : Int) = 43
      · rw [isN_iff.2 (by omega), g5]; rfl
      · rw [isN_no (by omega)]
        exact beq_eq_false_iff_ne.2 g5
    refine s_iteD (fun g1 => s_iteD (fun g2 => s_leaf (yes (isN_iff.2 (by omega)).symm)) (fun g2 => five (by omega) fun v hv => yes hv)) (fun g1 => five (by omega) fun v hv => yes hv)
  rintro x w2 ⟨rfl, rfl⟩
  show sat _ (fastjson_parseRawNumber.t2 (i : Int) (sfx s b) (isN (bt s ((b + i : Nat) : Int)))) _ _
  unfold fastjson_parseRawNumber.t2
  refine s_ite (fun g => s_leaf ?_) (fun g => ?_)
  · rw [if_pos rfl, wrap_in (by omega) (by omega)]
    have hne : b + i ≠ e := fun c => by rw [c, hd] at g; cases g
    exact ⟨e - (b + (i + 1)), (((i + 1 : Nat) : Int), sfx s b, ()), rfl, by omega, i + 1, rfl, rfl, by omega, rfl⟩
  have he : b + i = e := by
    rcases Nat.lt_or_ge (b + i) e with g' | g'
    · rw [hN (b + i) (by omega) g'] at g; cases g
    · omega
  refine s_cut (fun x w' => x = (false, ()) ∧ w' = w2) ?_ ?_
  · refine s_iteE (fun g1 => by omega) (fun g1 => s_iteE (fun g2 => s_chk (by omega) ?_) (fun g2 => s_leaf ?_))
    · have hi1 : i = 1 := by omega
      have h0 : bt (sfx s b) (0 : Int) = bt s (b : Int) := sfx_bt s b 0
      rw [h0]
      have h45 : bt s (b : Int) ≠ 45 := num_one (by rw [h, ← he, hi1]) hb
      refine s_iteE (fun g3 => absurd g3 h45) (fun g3 => s_chk (by omega) (s_leaf ?_))
      rw [if_pos rfl]
      exact ⟨(bt s (b : Int) == 43, ()), rfl, bpair (by simp [h43]), rfl⟩
    · rw [if_pos rfl]
      exact ⟨(false, ()), rfl, rfl, rfl⟩
  rintro x w3 ⟨rfl, rfl⟩
  show sat _ (fastjson_parseRawNumber.t3 (i : Int) (sfx s b) false) _ _
  unfold fastjson_parseRawNumber.t3
  refine sat_iteF.2 (s_chk (by omega) (s_chk (by omega) (s_leaf ?_)))
  rw [if_neg (by decide)]
  refine ⟨rfl, ?_, Kp.refl _ _⟩
  rw [Int.toNat_natCast, Int.toNat_natCast, sfx_sfx, sub_sfx, he, show min e s.size = e by omega]
  rfl
end Go.Proofs.YtkpnomdmnhhaoaaGreatDoor.Zs
