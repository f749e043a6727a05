/- The reference's reader: blanks, words, strings. No statement of the set is proved here. -/
import Derived.Test.YtiganlecnpphmaaSr
import Derived.Test.YtiganlecnpphmaaPj
import Derived.Test.YtiganlecnpphmaaPd
namespace Go.Proofs.Ytiganlecnpphmaa.Sr
open Go Go.Proofs Go.Proofs.Ytiganlecnpphmaa.Rx Go.Proofs.Ytiganlecnpphmaa.Tr Go.Proofs.Ytiganlecnpphmaa.Pl

theorem Blank_any (c : Int) (w : World) : Calls Try.prog 18 #[.int .u8 c] w fun e w' => e = .returned (.bool (isB c)) ∧ w' = w := by
  refine spec_Blank.calls _ ?_
  unfold spec_Blank.t
  refine s_iteE (fun h => s_leaf ⟨rfl, by subst h; rfl, rfl⟩) (fun h1 => ?_)
  refine s_iteE (fun h => s_leaf ⟨rfl, by subst h; rfl, rfl⟩) (fun h2 => ?_)
  refine s_iteE (fun h => s_leaf ⟨rfl, by subst h; rfl, rfl⟩) (fun h3 => ?_)
  refine s_leaf ⟨rfl, ?_, rfl⟩
  simp [retVal, isB, h1, h2, h3]
/-- What a hexadecimal digit stands for. -/
def hexV (c : Int) : Int := if 48 ≤ c ∧ c ≤ 57 then c - 48 else if 97 ≤ c ∧ c ≤ 102 then c - 87 else if 65 ≤ c ∧ c ≤ 70 then c - 55 else 0
theorem hexDigit_any (c : Int) (w : World) : Calls Try.prog 31 #[.int .u8 c] w fun e w' => e = .returned (.tuple #[.int .i64 (hexV c), .bool (isH c)]) ∧ w' = w := by
  refine spec_hexDigit.calls _ ?_
  unfold spec_hexDigit.t
  refine s_cut (fun x w' => x = (decide (48 ≤ c ∧ c ≤ 57), ()) ∧ w = w') ?_ ?_
  · refine s_iteD (fun h => s_leaf ?_) (fun h => s_leaf ?_)
    · rw [if_pos rfl]; exact ⟨(decide (c ≤ 57), ()), rfl, by simp [h]; rfl, rfl⟩
    · rw [if_pos rfl]; exact ⟨(false, ()), rfl, by simp [h]; rfl, rfl⟩
  rintro x w1 ⟨rfl, rfl⟩
  simp only [spec_hexDigit.t1]
  refine s_iteD (fun h1 => s_leaf ⟨rfl, ?_, rfl⟩) (fun h1 => ?_)
  · rw [wrapB_in (by omega) (by omega), wrap_in (by omega) (by omega)]
    have : isH c = true := isH_iff.2 (.inl h1)
    simp [retVal, hexV, h1, this]
  refine s_cut (fun x w' => x = (decide (97 ≤ c ∧ c ≤ 102), ()) ∧ w = w') ?_ ?_
  · refine s_iteD (fun h => s_leaf ?_) (fun h => s_leaf ?_)
    · rw [if_pos rfl]; exact ⟨(decide (c ≤ 102), ()), rfl, by simp [h]; rfl, rfl⟩
    · rw [if_pos rfl]; exact ⟨(false, ()), rfl, by simp [h]; rfl, rfl⟩
  rintro x w1 ⟨rfl, rfl⟩
  simp only [spec_hexDigit.t2]
  refine s_iteD (fun h2 => s_leaf ⟨rfl, ?_, rfl⟩) (fun h2 => ?_)
  · rw [wrapB_in (by omega) (by omega), wrap_in (n := c - 97) (by omega) (by omega), wrap_in (by omega) (by omega)]
    have : isH c = true := isH_iff.2 (.inr (.inl h2))
    have e : c - 97 + 10 = hexV c := by unfold hexV; rw [if_neg h1, if_pos h2]; omega
    rw [e, this]; rfl
  have no : ¬ (65 ≤ c ∧ c ≤ 70) → hexV c = 0 ∧ isH c = false := fun h3 => by
    constructor
    · unfold hexV; rw [if_neg h1, if_neg h2, if_neg h3]
    · rw [Bool.eq_false_iff]; intro e; rcases isH_iff.1 e with h | h | h
      · exact h1 h
      · exact h2 h
      · exact h3 h
  refine s_iteD (fun h3 => ?_) (fun h3 => s_leaf ⟨rfl, ?_, rfl⟩)
  · refine s_iteD (fun h4 => s_leaf ⟨rfl, ?_, rfl⟩) (fun h4 => s_leaf ⟨rfl, ?_, rfl⟩)
    · rw [wrapB_in (by omega) (by omega), wrap_in (n := c - 65) (by omega) (by omega), wrap_in (by omega) (by omega)]
      have : isH c = true := isH_iff.2 (.inr (.inr ⟨h3, h4⟩))
      have e : c - 65 + 10 = hexV c := by unfold hexV; rw [if_neg h1, if_neg h2, if_pos ⟨h3, h4⟩]; omega
      rw [e, this]; rfl
    · obtain ⟨a, b⟩ := no (fun h => h4 h.2)
      rw [a, b]; rfl
  · obtain ⟨a, b⟩ := no (fun h => h3 h.1)
    rw [a, b]; rfl

theorem RdAt.kp {w w' : World} {g : Nat} {s : ByteArray} {i : Nat} {S : Nat → Prop} (h : RdAt w g s i) (k : Kp S w w') (hn : ¬ S g) : RdAt w' g s i := k.blk h hn
theorem blanks_any {w : World} {g : Nat} {s : ByteArray} {i : Nat} (hs : s.size < 4611686018427387904) (hi : i ≤ s.size) (hR : RdAt w g s i) :
    Calls Try.prog 14 #[.pointer (some ⟨g, 0, none⟩)] w fun e w' => e = .returned (.tuple #[]) ∧ RdAt w' g s (bl s i) ∧ Kp (On g) w w' := by
  refine spec_reader_blanks.calls _ ?_
  unfold spec_reader_blanks.t
  refine s_loop (fun n _ w' => ∃ j : Nat, j ≤ s.size ∧ n = s.size - j ∧ bl s j = bl s i ∧ RdAt w' g s j ∧ Kp (On g) w w') (s.size - i) () rfl ⟨i, hi, rfl, rfl, hR, Kp.refl _ _⟩ ?_
  rintro n x w1 ⟨j, hj, rfl, hb, hR1, k1⟩
  have hRd := hR1.drew
  have c0 := hRd.cell 0
  have c1 := hRd.cell 1
  have kd := k1.drew
  unfold spec_reader_blanks.t1
  refine s_drew (s_ptr ?_)
  simp only [addr_add, Nat.zero_add]
  refine s_load (j : Int) c1 (s_ptr (s_load s c0 ?_))
  refine s_iteD (fun h => ?_) (fun h => ?_)
  · refine s_ptr (s_load s c0 (s_ptr (s_load (j : Int) c1 (s_chk (by omega) ?_))))
    refine s_call (Blank_any (bt s (j : Int)) _) ?_
    rintro e w2 ⟨rfl, rfl⟩
    refine ⟨isB (bt s (j : Int)), rfl, ?_⟩
    have f1 := hRd.free 1
    cases hB : isB (bt s (j : Int)) with
    | false =>
      refine sat_iteF.2 (s_leaf ?_)
      rw [if_neg (by decide)]
      rw [bl_no hB] at hb
      exact ⟨rfl, rfl, hb ▸ hRd, kd⟩
    | true =>
      refine sat_iteT.2 (s_ptr ?_)
      simp only [addr_add, Nat.zero_add]
      refine s_load (j : Int) c1 (s_ptr (s_store c1 f1 (s_leaf ?_)))
      rw [if_pos rfl, wrap_in (by omega) (by omega)]
      exact ⟨s.size - (j + 1), (), rfl, by omega, j + 1, by omega, rfl, by rw [← bl_yes hB]; exact hb, hRd.toI rfl, kd.on _ _⟩
  · refine s_leaf ?_
    rw [if_neg (by decide)]
    rw [bl_end (by omega)] at hb
    exact ⟨rfl, rfl, hb ▸ hRd, kd⟩

theorem word_any {w : World} {g : Nat} {s : ByteArray} {i : Nat} (v : ByteArray) (hs : s.size < 4611686018427387904) (hv : v.size < 4611686018427387904) (hi : i ≤ s.size) (hR : RdAt w g s i) :
    Calls Try.prog 27 #[.pointer (some ⟨g, 0, none⟩), .string v] w fun e w' => e = .returned (.bool (wordB s i v)) ∧ RdAt w' g s (if wordB s i v then i + v.size else i) ∧ Kp (On g) w w' := by
  refine spec_reader_word.calls _ _ ?_
  unfold spec_reader_word.t
  refine s_cut (fun x w' => x = (!wordB s i v, ()) ∧ RdAt w' g s i ∧ Kp (On g) w w') ?_ ?_
  · have hRd := hR.drew
    have c0 := hRd.cell 0
    have c1 := hRd.cell 1
    have kd := (Kp.refl (On g) w).drew
    refine s_drew (s_ptr ?_)
    simp only [addr_add, Nat.zero_add]
    refine s_load s c0 (s_ptr (s_load (i : Int) c1 ?_))
    rw [wrap_in (by omega) (by omega)]
    refine s_iteD (fun h => s_leaf ?_) (fun h => ?_)
    · rw [if_pos rfl]
      have : wordB s i v = false := by simp [wordB]; omega
      exact ⟨(true, ()), rfl, by rw [this]; rfl, hRd, kd⟩
    · refine s_ptr (s_load s c0 (s_ptr (s_load (i : Int) c1 (s_ptr (s_load (i : Int) c1 ?_)))))
      rw [wrap_in (by omega) (by omega)]
      refine s_chk (by omega) (s_leaf ?_)
      rw [if_pos rfl]
      refine ⟨(_, ()), rfl, ?_, hRd, kd⟩
      have e : Int.toNat ((i : Int) + (v.size : Int)) = i + v.size := by omega
      rw [e, Int.toNat_natCast]
      unfold wordB
      rw [decide_eq_true (by omega), Bool.true_and]
      rfl
  · rintro x w1 ⟨rfl, hR1, k1⟩
    simp only [spec_reader_word.t1]
    have c1 := hR1.cell 1
    have f1 := hR1.free 1
    cases hW : wordB s i v with
    | false => exact sat_iteT.2 (s_leaf ⟨rfl, rfl, hR1, k1⟩)
    | true =>
      have := wordB_lt hW
      refine sat_iteF.2 (s_ptr ?_)
      simp only [addr_add, Nat.zero_add]
      refine s_load (i : Int) c1 (s_ptr (s_store c1 f1 (s_leaf ⟨rfl, rfl, ?_, k1.on _ _⟩)))
      rw [if_pos trivial]
      exact hR1.toI (by rw [wrap_in (by omega) (by omega)]; rfl)

theorem isX_ask {c : Int} {l : Nat} {Q : Nat → List Value → World → Prop} {P : Program} {w : World} {x : Int} {t : T} (h : c = x → Q l [.bool true] w) (h' : c ≠ x → sat P t Q w) : sat P (.ite (c == x) (.leaf l [.bool (c == x)]) t) Q w :=
  s_iteE (fun e => s_leaf (by subst e; simpa using h rfl)) h'
theorem escape_any {w : World} {g : Nat} {s : ByteArray} {i : Nat} (hs : s.size < 4611686018427387904) (hi : i ≤ s.size) (hR : RdAt w g s i) :
    Calls Try.prog 29 #[.pointer (some ⟨g, 0, none⟩)] w (NumPost g s (escE s i) w) := by
  refine spec_reader_escape.calls _ ?_
  unfold spec_reader_escape.t
  refine s_call (here_any hR) ?_
  rintro e w1 ⟨rfl, hR1, k1⟩
  refine ⟨_, rfl, ?_⟩
  have c1 := hR1.cell 1
  have f1 := hR1.free 1
  refine s_cut (fun x w' => x = (isX (bt s i), ()) ∧ w1 = w') ?_ ?_
  · generalize bt s i = c
    have y1 : isX c = true → (∃ x, [Value.bool true] = (Sh.cons .bool .nil).vals x ∧ x = (isX c, ()) ∧ w1 = w1) := fun h => ⟨(true, ()), rfl, by rw [h]; rfl, rfl⟩
    refine isX_ask (fun h => ?_) (fun h1 => ?_)
    · rw [if_pos rfl]; exact y1 (by subst h; rfl)
    refine s_cut (fun x w' => x = (isX c, ()) ∧ w1 = w') ?_ (by rintro x w' ⟨rfl, rfl⟩; refine s_leaf ?_; rw [if_pos rfl]; exact ⟨(_, ()), rfl, rfl, rfl⟩)
    refine isX_ask (fun h => ?_) (fun h2 => ?_)
    · rw [if_pos rfl]; exact y1 (by subst h; rfl)
    refine s_cut (fun x w' => x = (isX c, ()) ∧ w1 = w') ?_ (by rintro x w' ⟨rfl, rfl⟩; refine s_leaf ?_; rw [if_pos rfl]; exact ⟨(_, ()), rfl, rfl, rfl⟩)
    refine isX_ask (fun h => ?_) (fun h3 => ?_)
    · rw [if_pos rfl]; exact y1 (by subst h; rfl)
    refine s_cut (fun x w' => x = (isX c, ()) ∧ w1 = w') ?_ (by rintro x w' ⟨rfl, rfl⟩; refine s_leaf ?_; rw [if_pos rfl]; exact ⟨(_, ()), rfl, rfl, rfl⟩)
    refine isX_ask (fun h => ?_) (fun h4 => ?_)
    · rw [if_pos rfl]; exact y1 (by subst h; rfl)
    refine s_cut (fun x w' => x = (isX c, ()) ∧ w1 = w') ?_ (by rintro x w' ⟨rfl, rfl⟩; refine s_leaf ?_; rw [if_pos rfl]; exact ⟨(_, ()), rfl, rfl, rfl⟩)
    refine isX_ask (fun h => ?_) (fun h5 => ?_)
    · rw [if_pos rfl]; exact y1 (by subst h; rfl)
    refine s_cut (fun x w' => x = (isX c, ()) ∧ w1 = w') ?_ (by rintro x w' ⟨rfl, rfl⟩; refine s_leaf ?_; rw [if_pos rfl]; exact ⟨(_, ()), rfl, rfl, rfl⟩)
    refine isX_ask (fun h => ?_) (fun h6 => ?_)
    · rw [if_pos rfl]; exact y1 (by subst h; rfl)
    refine s_cut (fun x w' => x = (isX c, ()) ∧ w1 = w') ?_ (by rintro x w' ⟨rfl, rfl⟩; refine s_leaf ?_; rw [if_pos rfl]; exact ⟨(_, ()), rfl, rfl, rfl⟩)
    refine isX_ask (fun h => ?_) (fun h7 => ?_)
    · rw [if_pos rfl]; exact y1 (by subst h; rfl)
    refine s_leaf ?_
    rw [if_pos rfl]
    refine ⟨(c == 116, ()), rfl, ?_, rfl⟩
    have : isX c = (c == 116) := by simp [isX, h1, h2, h3, h4, h5, h6, h7]
    rw [this]; rfl
  rintro x w2 ⟨rfl, rfl⟩
  simp only [spec_reader_escape.t7]
  have step : ∀ {j : Nat} {w' : World}, RdAt w' g s j → j < s.size → RdAt (w'.setCell ⟨g, 1, none⟩ (.int .i64 (IntKind.wrap .i64 ((j : Int) + 1)))) g s (j + 1) := fun h hj => h.toI (by rw [wrap_in (by omega) (by omega)]; rfl)
  refine s_cut (fun x w' => escE s i = none ∧ RdAt w' g s i ∧ Kp (On g) w w') ?_ ?_
  · cases hX : isX (bt s i) with
    | true =>
      have hlt : i < s.size := lt_of_bt (by have := isX_iff.1 hX; omega)
      refine sat_iteT.2 (s_ptr ?_)
      simp only [addr_add, Nat.zero_add]
      refine s_load (i : Int) c1 (s_ptr (s_store c1 f1 (s_leaf ?_)))
      rw [if_neg (by decide)]
      exact ⟨rfl, .yes (escE_x hX) hlt (step hR1 hlt) (k1.on _ _)⟩
    | false =>
      refine sat_iteF.2 (s_iteE (fun hu => ?_) (fun hu => ?_))
      · have hlt : i < s.size := lt_of_bt (by omega)
        refine s_ptr ?_
        simp only [addr_add, Nat.zero_add]
        refine s_load (i : Int) c1 (s_ptr (s_store c1 f1 ?_))
        have hE := escE_u hu
        refine s_loop (fun n x w' => ∃ k : Nat, x = ((k : Int), ()) ∧ n = 4 - k ∧ k ≤ 4 ∧ i + 1 + k ≤ s.size ∧ escE s i = hexE s (i + 1 + k) (4 - k) ∧ RdAt w' g s (i + 1 + k) ∧ Kp (On g) w w') 4 ((0 : Int), ()) rfl
          ⟨0, rfl, rfl, by omega, hlt, hE, step hR1 hlt, k1.on _ _⟩ ?_
        rintro n x w3 ⟨k, rfl, rfl, hk, hle, hE3, hR3, k3⟩
        simp only [spec_reader_escape.t8]
        refine s_iteD (fun h4 => ?_) (fun h4 => ?_)
        · refine s_call (here_any hR3) ?_
          rintro e w4 ⟨rfl, hR4, k4⟩
          refine ⟨_, rfl, ?_⟩
          refine s_call (hexDigit_any _ _) ?_
          rintro e w5 ⟨rfl, rfl⟩
          refine ⟨(hexV (bt s (i + 1 + k : Nat)), isH (bt s (i + 1 + k : Nat)), ()), rfl, ?_⟩
          have k5 := k3.trans k4
          have e4 : 4 - k = (4 - (k + 1)) + 1 := by omega
          rw [e4] at hE3
          simp only [hexE] at hE3
          cases hH : isH (bt s (i + 1 + k : Nat)) with
          | false =>
            refine sat_iteT.2 (s_leaf ?_)
            rw [if_neg (by decide), if_neg (by decide)]
            rw [hH] at hE3
            exact ⟨rfl, .no hE3 hle hR4 k5⟩
          | true =>
            have hlt2 : i + 1 + k < s.size := lt_of_bt (by have := isH_iff.1 hH; omega)
            have c1 := hR4.cell 1
            have f1 := hR4.free 1
            refine sat_iteF.2 (s_ptr ?_)
            simp only [addr_add, Nat.zero_add]
            refine s_load ((i + 1 + k : Nat) : Int) c1 (s_ptr (s_store c1 f1 (s_leaf ?_)))
            rw [if_pos rfl, wrap_in (n := (k : Int) + 1) (by omega) (by omega)]
            rw [hH, if_pos rfl] at hE3
            exact ⟨4 - (k + 1), (((k + 1 : Nat) : Int), ()), rfl, by omega, k + 1, rfl, rfl, by omega, hlt2, hE3, step hR4 hlt2, k5.on _ _⟩
        · have hk4 : k = 4 := by omega
          subst hk4
          refine s_leaf ?_
          rw [if_neg (by decide), if_neg (by decide)]
          exact ⟨rfl, .yes hE3 hle hR3 k3⟩
      · refine s_leaf ?_
        rw [if_pos rfl]
        exact ⟨(false, ()), rfl, escE_no hX hu, hR1, k1⟩
  · rintro x w3 ⟨hE, hR3, k3⟩
    exact s_leaf ⟨rfl, .no hE hi hR3 k3⟩

theorem quoted_any {w : World} {g : Nat} {s : ByteArray} {i : Nat} (hs : s.size < 4611686018427387904) (hi : i < s.size) (hR : RdAt w g s i) :
    Calls Try.prog 25 #[.pointer (some ⟨g, 0, none⟩)] w (NumPost g s (strE s (i + 1)) w) := by
  refine spec_reader_quoted.calls _ ?_
  unfold spec_reader_quoted.t
  have step : ∀ {j : Nat} {w' : World}, RdAt w' g s j → j < s.size → RdAt (w'.setCell ⟨g, 1, none⟩ (.int .i64 (IntKind.wrap .i64 ((j : Int) + 1)))) g s (j + 1) := fun h hj => h.toI (by rw [wrap_in (by omega) (by omega)]; rfl)
  have c1 := hR.cell 1
  have f1 := hR.free 1
  refine s_ptr ?_
  simp only [addr_add, Nat.zero_add]
  refine s_load (i : Int) c1 (s_ptr (s_store c1 f1 ?_))
  refine s_loop (fun n _ w' => ∃ j : Nat, j ≤ s.size ∧ n = s.size - j ∧ strE s j = strE s (i + 1) ∧ RdAt w' g s j ∧ Kp (On g) w w') (s.size - (i + 1)) () rfl ⟨i + 1, hi, rfl, rfl, step hR hi, (Kp.refl _ _).on _ _⟩ ?_
  rintro n x w1 ⟨j, hj, rfl, hE, hR1, k1⟩
  have hRd := hR1.drew
  have c0 := hRd.cell 0
  have c1 := hRd.cell 1
  have kd := k1.drew
  unfold spec_reader_quoted.t1
  refine s_drew (s_ptr ?_)
  simp only [addr_add, Nat.zero_add]
  refine s_load (j : Int) c1 (s_ptr (s_load s c0 ?_))
  refine s_iteD (fun h => ?_) (fun h => ?_)
  · have hlt : j < s.size := by omega
    have hRe := hRd.drew
    have c0 := hRe.cell 0
    have c1 := hRe.cell 1
    have f1 := hRe.free 1
    have ke := kd.drew
    refine s_drew (s_ptr (s_load s c0 (s_ptr (s_load (j : Int) c1 (s_chk (by omega) (s_ptr (s_load (j : Int) c1 (s_ptr (s_store c1 f1 ?_)))))))))
    have hR2 := step hRe hlt
    have k2 : Kp (On g) w _ := ke.on 1 (.int .i64 (IntKind.wrap .i64 ((j : Int) + 1)))
    refine s_iteE (fun hq => ?_) (fun hq => ?_)
    · refine s_leaf ?_
      rw [if_neg (by decide)]
      exact ⟨rfl, .yes (by rw [← hE, strE_q hq]) hlt hR2 k2⟩
    refine s_iteD (fun hc => ?_) (fun hc => ?_)
    · refine s_leaf ?_
      rw [if_neg (by decide)]
      exact ⟨rfl, .no (by rw [← hE, strE_ctl hc]) hlt hR2 k2⟩
    refine s_iteE (fun hb => ?_) (fun hb => ?_)
    · refine s_call (escape_any hs hlt hR2) ?_
      rintro e w3 ⟨m, rfl, hm, hle, hR3, k3⟩
      refine ⟨_, rfl, ?_⟩
      have hE2 : strE s (i + 1) = (escE s (j + 1)).bind (strE s) := by rw [← hE, strE_esc hb]
      cases he : escE s (j + 1) with
      | none =>
        refine sat_iteT.2 (s_leaf ?_)
        rw [if_neg (by decide)]
        exact ⟨rfl, .no (by rw [hE2, he]; rfl) hle hR3 (k2.trans k3)⟩
      | some m' =>
        have := hm m' he
        subst this
        refine sat_iteF.2 (s_leaf ?_)
        rw [if_pos rfl]
        have := (escE_le he).1
        exact ⟨s.size - m, (), rfl, by omega, m, hle, rfl, by rw [hE2, he]; rfl, hR3, k2.trans k3⟩
    · refine s_leaf ?_
      rw [if_pos rfl]
      exact ⟨s.size - (j + 1), (), rfl, by omega, j + 1, hlt, rfl, by rw [← hE, strE_plain hlt hq hc hb], hR2, k2⟩
  · refine s_leaf ?_
    rw [if_neg (by decide)]
    exact ⟨rfl, .no (by rw [← hE, strE_end (by omega)]) hj hRd kd⟩
end Go.Proofs.Ytiganlecnpphmaa.Sr
