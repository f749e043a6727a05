/- The tables of unicode/utf8 and its decoders; match.matchTrimSuffix as a function. No statement of the set is proved here. -/
import Derived.Test.YtlhhmgopfilgpaaDoorUt
import Derived.Test.YtlhhmgopfilgpaaDoorSh
import Derived.Test.YtlhhmgopfilgpaaDoorTr
namespace Go.Proofs.YtlhhmgopfilgpaaDoor.Ms
open Go Go.Proofs Go.RowKit Go.Proofs.YtlhhmgopfilgpaaDoor.Rx Go.Proofs.YtlhhmgopfilgpaaDoor.Tr Go.Proofs.YtlhhmgopfilgpaaDoor.Pl Go.Proofs.YtlhhmgopfilgpaaDoor.Ut

def g1 : Nat := 12
def g2 : Nat := 13
def Tb (w : World) : Prop := Lib.Utf8Tabs g1 g2 w
theorem cell_lt {w : World} {a : Addr} {v : Value} (h : w.cell? a = some v) : a.block < w.heap.size := by
  rcases Nat.lt_or_ge a.block w.heap.size with g | g
  · exact g
  · unfold World.cell? at h; rw [Array.getElem?_eq_none g] at h; cases h
theorem Tb.kp {S : Nat → Prop} {w w' : World} (h : Tb w) (k : Kp S w w') (h1 : ¬ S g1) (h2 : ¬ S g2) : Tb w' := by
  refine ⟨fun c hc => ?_, fun i hi => ?_⟩
  · have := h.1 c hc
    rw [k.cell (cell_lt this) h1]; exact this
  · have := h.2 i hi
    rw [k.cell (cell_lt this.1) h2, k.cell (cell_lt this.2) h2]; exact this
theorem Tb.off {w w' : World} (h : Tb w) (k : Kp Off w w') : Tb w' := h.kp k id id
theorem decode_any {s : ByteArray} {w : World} (hT : Tb w) (hs : 0 < s.size) : Calls Tryd.prog 39 #[.string s] w fun e w' => e = .returned (.tuple #[.int .i32 ((dc s 0).1 : Nat), .int .i64 ((dc s 0).2 : Nat)]) ∧ Kp Off w w' := by
  refine Calls.mono (Tryd.utf8_DecodeRuneInString s w hT) ?_
  rintro e w' ⟨rfl, hb⟩
  rw [go_dc hs]
  exact ⟨rfl, Kp.of_below hb⟩
theorem decode_nil {w : World} (hT : Tb w) : Calls Tryd.prog 39 #[.string (ByteArray.mk #[])] w fun e w' => e = .returned (.tuple #[.int .i32 65533, .int .i64 0]) ∧ Kp Off w w' := by
  refine Calls.mono (Tryd.utf8_DecodeRuneInString _ w hT) ?_
  rintro e w' ⟨rfl, hb⟩
  exact ⟨rfl, Kp.of_below hb⟩
theorem last_any {s : ByteArray} {w : World} (hT : Tb w) (hs : s.size ≤ 9223372036854775807) : Calls Tryd.prog 63 #[.string s] w fun e w' => e = .returned (.tuple #[.int .i32 ((dl s).1 : Nat), .int .i64 ((dl s).2 : Nat)]) ∧ Kp Off w w' := by
  refine Calls.mono (Tryd.utf8_DecodeLastRuneInString s w hs hT) ?_
  rintro e w' ⟨rfl, hb⟩
  exact ⟨rfl, Kp.of_below hb⟩

/-! ## Backslashes ahead of a place -/
def tb (s : ByteArray) : Nat → Nat
  | 0 => 0
  | e + 1 => if bn s e = 92 then tb s e + 1 else 0
theorem tb_le (s : ByteArray) : ∀ e, tb s e ≤ e
  | 0 => Nat.le_refl _
  | e + 1 => by
    have := tb_le s e
    unfold tb; split <;> omega
theorem tb_lt {s : ByteArray} (h0 : bn s 0 ≠ 92) : ∀ {e}, 0 < e → tb s e < e
  | e + 1, _ => by
    unfold tb
    split
    · rename_i h
      have he : 0 < e := Nat.pos_of_ne_zero fun x => h0 (x ▸ h)
      have := tb_lt h0 he
      omega
    · omega
theorem tb_at {s : ByteArray} : ∀ {e k : Nat}, k < tb s e → bn s (e - 1 - k) = 92
  | 0, k, h => by simp [tb] at h
  | e + 1, k, h => by
    unfold tb at h
    split at h
    · rename_i hb
      cases k with
      | zero => simpa using hb
      | succ k =>
        have := tb_at (s := s) (e := e) (k := k) (by omega)
        rw [show e + 1 - 1 - (k + 1) = e - 1 - k by omega]
        exact this
    · omega
theorem tb_stop {s : ByteArray} : ∀ {e : Nat}, tb s e < e → bn s (e - 1 - tb s e) ≠ 92
  | 0, h => by omega
  | e + 1, h => by
    by_cases hb : bn s e = 92
    · have h1 : tb s (e + 1) = tb s e + 1 := by rw [tb, if_pos hb]
      rw [h1] at h ⊢
      have := tb_stop (s := s) (e := e) (by omega)
      rw [show e + 1 - 1 - (tb s e + 1) = e - 1 - tb s e by omega]
      exact this
    · have h1 : tb s (e + 1) = 0 := by rw [tb, if_neg hb]
      rw [h1]; simpa using hb
/-- Whether the last character of a pattern has a backslash of its own ahead of it. -/
def esc (p : ByteArray) : Bool := tb p (p.size - (dl p).2) % 2 == 1
def cutP (p : ByteArray) : Nat := p.size - (dl p).2 - (if esc p then 1 else 0)
/-- A pattern that begins with a star. -/
structure Star (p : ByteArray) : Prop where
  star : bn p 0 = 42
  pos : 0 < p.size
theorem Star.last {p : ByteArray} (h : Star p) (h1 : 1 < p.size) : 1 ≤ (dl p).2 ∧ (dl p).2 < p.size := by
  have hw := dl_width h.pos
  refine ⟨hw.1, ?_⟩
  rcases dl_cases h.pos with h2 | h2
  · rcases Nat.lt_or_ge (dl p).2 p.size with g | g
    · exact g
    · have h3 := h2.2.big (by omega)
      rw [show p.size - (dl p).2 = 0 by omega, h.star] at h3
      omega
  · rw [h2]; exact h1
theorem Star.tb {p : ByteArray} (h : Star p) (h1 : 1 < p.size) : Ms.tb p (p.size - (dl p).2) < p.size - (dl p).2 :=
  tb_lt (by rw [h.star]; decide) (by have := h.last h1; omega)
theorem Star.cut {p : ByteArray} (h : Star p) (h1 : 1 < p.size) : 1 ≤ cutP p ∧ cutP p < p.size := by
  have h2 := h.last h1
  have h3 := h.tb h1
  unfold cutP
  cases he : esc p with
  | false => simp only [Bool.false_eq_true, if_false]; omega
  | true =>
    have : Ms.tb p (p.size - (dl p).2) % 2 = 1 := by simpa [esc] using he
    simp only [if_true]; omega
theorem Star.pfx {p : ByteArray} (h : Star p) {j : Nat} (h0 : 0 < j) (hj : j ≤ p.size) : Star (pfx p j) :=
  ⟨by rw [pfx_bn hj h0]; exact h.star, by rw [pfx_size hj]; exact h0⟩
/-- What matchTrimSuffix leaves: of the text the first .. bytes, of the pattern the first .. bytes, whether it fits. -/
def mts (s p : ByteArray) (i j : Nat) : Nat × Nat × Bool :=
  if 0 < i ∧ 1 < j then
    if (dl (pfx p j)).1 = 42 ∧ esc (pfx p j) = false then (i, j, true)
    else if ((dl (pfx p j)).1 = 63 ∧ esc (pfx p j) = false) ∨ (dl (pfx p j)).1 = (dl (pfx s i)).1 then
      if i - (dl (pfx s i)).2 < i then mts s p (i - (dl (pfx s i)).2) (cutP (pfx p j)) else (i, j, true)
    else (i, j, false)
  else (i, j, true)
termination_by i
theorem mts_no {s p : ByteArray} {i j : Nat} (h : ¬ (0 < i ∧ 1 < j)) : mts s p i j = (i, j, true) := by rw [mts, if_neg h]
theorem mts_star {s p : ByteArray} {i j : Nat} (h : 0 < i ∧ 1 < j) (h1 : (dl (pfx p j)).1 = 42) (h2 : esc (pfx p j) = false) : mts s p i j = (i, j, true) := by rw [mts, if_pos h, if_pos ⟨h1, h2⟩]
theorem mts_bad {s p : ByteArray} {i j : Nat} (h : 0 < i ∧ 1 < j) (h1 : ¬ ((dl (pfx p j)).1 = 42 ∧ esc (pfx p j) = false)) (h2 : ¬ (((dl (pfx p j)).1 = 63 ∧ esc (pfx p j) = false) ∨ (dl (pfx p j)).1 = (dl (pfx s i)).1)) : mts s p i j = (i, j, false) := by
  rw [mts, if_pos h, if_neg h1, if_neg h2]
theorem mts_on {s p : ByteArray} {i j : Nat} (hi : i ≤ s.size) (h : 0 < i ∧ 1 < j) (h1 : ¬ ((dl (pfx p j)).1 = 42 ∧ esc (pfx p j) = false)) (h2 : ((dl (pfx p j)).1 = 63 ∧ esc (pfx p j) = false) ∨ (dl (pfx p j)).1 = (dl (pfx s i)).1) :
    mts s p i j = mts s p (i - (dl (pfx s i)).2) (cutP (pfx p j)) := by
  have hw := dl_width (s := pfx s i) (by rw [pfx_size hi]; exact h.1)
  rw [mts, if_pos h, if_neg h1, if_pos h2, if_pos (by omega)]
theorem mts_le {s p : ByteArray} (hp : Star p) : ∀ (n i j : Nat), i ≤ n → i ≤ s.size → 1 ≤ j → j ≤ p.size → (mts s p i j).1 ≤ i ∧ 1 ≤ (mts s p i j).2.1 ∧ (mts s p i j).2.1 ≤ j ∧ ∀ m r, ChA s 0 m r → m ≤ i → (mts s p i j).1 = 0 ∨ m ≤ (mts s p i j).1 := by
  intro n
  induction n with
  | zero =>
    intro i j h1 h2 h3 h4
    have : i = 0 := by omega
    subst this
    rw [mts_no (by omega)]
    exact ⟨Nat.le_refl _, h3, Nat.le_refl _, fun _ _ _ _ => .inl rfl⟩
  | succ n ih =>
    intro i j h1 h2 h3 h4
    have fin : ∀ b : Bool, mts s p i j = (i, j, b) → (mts s p i j).1 ≤ i ∧ 1 ≤ (mts s p i j).2.1 ∧ (mts s p i j).2.1 ≤ j ∧ ∀ m r, ChA s 0 m r → m ≤ i → (mts s p i j).1 = 0 ∨ m ≤ (mts s p i j).1 := fun b e => by
      rw [e]; exact ⟨Nat.le_refl _, h3, Nat.le_refl _, fun m r _ hm => .inr hm⟩
    by_cases h : 0 < i ∧ 1 < j
    · by_cases c1 : (dl (pfx p j)).1 = 42 ∧ esc (pfx p j) = false
      · exact fin _ (mts_star h c1.1 c1.2)
      · by_cases c2 : ((dl (pfx p j)).1 = 63 ∧ esc (pfx p j) = false) ∨ (dl (pfx p j)).1 = (dl (pfx s i)).1
        · have hz := pfx_size h4
          have hzi := pfx_size h2
          have hc := (hp.pfx (by omega) h4).cut (by omega)
          have hw := dl_width (s := pfx s i) (by omega)
          rw [mts_on h2 h c1 c2]
          obtain ⟨a1, a2, a3, a4⟩ := ih (i - (dl (pfx s i)).2) (cutP (pfx p j)) (by omega) (by omega) hc.1 (by omega)
          refine ⟨by omega, a2, by omega, fun m r hm hle => ?_⟩
          rcases keep_front hm h2 hle with g | g
          · left; omega
          · exact a4 m r hm g
        · exact fin _ (mts_bad h c1 c2)
    · exact fin _ (mts_no h)

theorem and_one (k : Nat) (hk : k < 9223372036854775808) : IntKind.wrap .i64 (((BitVec.toNat ((BitVec.ofInt 64 (k : Int)) &&& (BitVec.ofInt 64 (1 : Int)))) : Nat) : Int) = ((k % 2 : Nat) : Int) := by
  have h1 : BitVec.ofInt 64 (k : Int) = BitVec.ofNat 64 k := by simp
  have h2 : BitVec.ofInt 64 (1 : Int) = BitVec.ofNat 64 1 := by decide
  rw [h1, h2, BitVec.toNat_and, BitVec.toNat_ofNat, BitVec.toNat_ofNat, Nat.mod_eq_of_lt (by omega), Nat.mod_eq_of_lt (by omega : 1 < 2 ^ 64), Nat.and_one_is_mod]
  exact wrap_in (by omega) (by omega)
theorem dl_i32 {s : ByteArray} (h : 0 < s.size) : IntKind.wrap .i32 ((dl s).1 : Nat) = ((dl s).1 : Nat) := by
  have := dl_rune h
  rw [IntKind.wrap_i32]; omega

def MsPost (s p : ByteArray) (w : World) (e : Ending) (w' : World) : Prop :=
  e = .returned (.tuple #[.string (pfx s (mts s p s.size p.size).1), .string (pfx p (mts s p s.size p.size).2.1), .bool (mts s p s.size p.size).2.2]) ∧ Kp Off w w'
theorem mts_any {s p : ByteArray} {w : World} (hT : Tb w) (hs : s.size < 4611686018427387904) (hp : p.size < 4611686018427387904) (hS : Star p) :
    Calls Tryd.prog 59 #[.string s, .string p, .bool false] w (MsPost s p w) := by
  refine match_matchTrimSuffix.calls _ _ _ ?_
  unfold match_matchTrimSuffix.t
  refine s_loop (fun n x w' => ∃ i j : Nat, n = i ∧ x = (pfx p j, pfx s i, true, ()) ∧ i ≤ s.size ∧ 1 ≤ j ∧ j ≤ p.size ∧ mts s p i j = mts s p s.size p.size ∧ Kp Off w w') s.size (p, s, true, ()) rfl
    ⟨s.size, p.size, rfl, by rw [pfx_all, pfx_all]; rfl, Nat.le_refl _, hS.pos, Nat.le_refl _, rfl, Kp.refl _ _⟩ ?_
  rintro n x w1 ⟨i, j, rfl, rfl, hi, hj1, hj, hm, k1⟩
  have hzi := pfx_size hi
  have hzj := pfx_size hj
  simp only [match_matchTrimSuffix.t1]
  refine s_cut (fun x w' => x = (decide (0 < n ∧ 1 < j), ()) ∧ w1 = w') ?_ ?_
  · refine s_iteD (fun h => ?_) (fun h => ?_)
    · refine s_leaf ?_; rw [if_pos rfl]
      refine ⟨(_, ()), rfl, ?_, rfl⟩
      congr 1
      exact decide_eq_decide.2 (by omega)
    · refine s_leaf ?_; rw [if_pos rfl]
      refine ⟨(false, ()), rfl, ?_, rfl⟩
      congr 1
      symm
      exact decide_eq_false (by omega)
  rintro x w1' ⟨rfl, rfl⟩
  simp only [match_matchTrimSuffix.t2]
  refine s_iteD (fun hc => ?_) (fun hc => ?_)
  rotate_left
  · refine s_leaf ?_
    rw [if_neg (by decide)]
    refine ⟨rfl, ?_, k1⟩
    rw [← hm, mts_no hc]; rfl
  have hSj := hS.pfx (j := j) (by omega) hj
  have hl := hSj.last (by omega)
  have ht := hSj.tb (by omega)
  refine s_call (last_any (hT.off k1) (by omega)) ?_
  rintro e w2 ⟨rfl, k2⟩
  refine ⟨((((dl (pfx p j)).1 : Nat) : Int), (((dl (pfx p j)).2 : Nat) : Int), ()), rfl, ?_⟩
  have k12 := k1.trans k2
  -- the backslashes
  refine s_cut (fun x w' => x = ((((dl (pfx p j)).2 + (if esc (pfx p j) then 1 else 0) : Nat) : Int), esc (pfx p j), ()) ∧ w2 = w') ?_ ?_
  · refine s_loop (fun n x w' => ∃ k : Nat, n = j - k ∧ x = ((((dl (pfx p j)).2 : Nat) : Int), false, (k : Int), ()) ∧ k ≤ tb (pfx p j) ((pfx p j).size - (dl (pfx p j)).2) ∧ w2 = w') j ((((dl (pfx p j)).2 : Nat) : Int), false, (0 : Int), ()) rfl ⟨0, rfl, rfl, Nat.zero_le _, rfl⟩ ?_
    rintro n' x w3 ⟨k, rfl, rfl, hk, rfl⟩
    rw [hzj] at hk hl ht
    simp only [match_matchTrimSuffix.t3, hzj]
    have ix : IntKind.wrap IntKind.i64 ((IntKind.wrap IntKind.i64 ((IntKind.wrap IntKind.i64 (((j : Nat) : Int) - (((dl (pfx p j)).2 : Nat) : Int))) - (k : Int))) - (1 : Int)) = ((j - (dl (pfx p j)).2 - 1 - k : Nat) : Int) := by
      rw [wrap_in (n := ((j : Nat) : Int) - (((dl (pfx p j)).2 : Nat) : Int)) (by omega) (by omega), wrap_in (n := ((j : Nat) : Int) - (((dl (pfx p j)).2 : Nat) : Int) - (k : Int)) (by omega) (by omega), wrap_in (by omega) (by omega)]
      omega
    rw [ix]
    refine s_chk (by omega) ?_
    rw [bt_bn]
    refine s_iteN (fun hb => ?_) (fun hb => ?_)
    · have hke : k = tb (pfx p j) (j - (dl (pfx p j)).2) := by
        rcases Nat.lt_or_ge k (tb (pfx p j) (j - (dl (pfx p j)).2)) with g | g
        · have := tb_at g
          omega
        · omega
      rw [and_one k (by omega)]
      have hes : esc (pfx p j) = (k % 2 == 1) := by unfold esc; rw [hzj, ← hke]
      refine s_iteE (fun h1 => ?_) (fun h1 => ?_)
      · refine s_leaf ?_
        rw [if_neg (by decide), if_pos rfl]
        have : esc (pfx p j) = true := by rw [hes]; simp; omega
        rw [wrap_in (by omega) (by omega), this]
        exact ⟨((((dl (pfx p j)).2 + 1 : Nat) : Int), true, ()), rfl, rfl, rfl⟩
      · refine s_leaf ?_
        rw [if_neg (by decide), if_pos rfl]
        have : esc (pfx p j) = false := by rw [hes]; simp; omega
        rw [this]
        exact ⟨((((dl (pfx p j)).2 : Nat) : Int), false, ()), rfl, rfl, rfl⟩
    · have hlt : k < tb (pfx p j) (j - (dl (pfx p j)).2) := by
        rcases Nat.lt_or_ge k (tb (pfx p j) (j - (dl (pfx p j)).2)) with g | g
        · exact g
        · have e : k = tb (pfx p j) (j - (dl (pfx p j)).2) := by omega
          have := tb_stop ht
          rw [← e, show j - (dl (pfx p j)).2 - 1 - k = j - (dl (pfx p j)).2 - 1 - k from rfl] at this
          omega
      refine s_leaf ?_
      rw [if_pos rfl, wrap_in (by omega) (by omega)]
      exact ⟨j - (k + 1), ((((dl (pfx p j)).2 : Nat) : Int), false, ((k + 1 : Nat) : Int), ()), rfl, by omega, k + 1, rfl, rfl, hlt, rfl⟩
  rintro x w2' ⟨rfl, rfl⟩
  simp only [match_matchTrimSuffix.t4]
  refine s_cut (fun x w' => x = (decide ((dl (pfx p j)).1 = 42 ∧ esc (pfx p j) = false), ()) ∧ w2 = w') ?_ ?_
  · refine s_iteE (fun h => s_leaf ?_) (fun h => s_leaf ?_)
    · rw [if_pos rfl]
      refine ⟨(!esc (pfx p j), ()), rfl, bpair ?_, rfl⟩
      simp only [decide_eq_true_eq, Bool.not_eq_true']
      exact ⟨fun g => ⟨by omega, g⟩, fun g => g.2⟩
    · rw [if_pos rfl]
      refine ⟨(false, ()), rfl, bpair ?_, rfl⟩
      simp only [decide_eq_true_eq]
      exact ⟨fun g => (by cases g), fun g => absurd g.1 (by omega)⟩
  rintro x w2' ⟨rfl, rfl⟩
  simp only [match_matchTrimSuffix.t5]
  refine s_iteD (fun hc1 => ?_) (fun hc1 => ?_)
  · refine s_leaf ?_
    rw [if_neg (by decide)]
    refine ⟨rfl, ?_, k12⟩
    rw [← hm, mts_star hc hc1.1 hc1.2]; rfl
  refine s_call (last_any (hT.off k12) (by omega)) ?_
  rintro e w3 ⟨rfl, k3⟩
  refine ⟨((((dl (pfx s n)).1 : Nat) : Int), (((dl (pfx s n)).2 : Nat) : Int), ()), rfl, ?_⟩
  have k13 := k12.trans k3
  refine s_cut (fun x w' => x = ((((dl (pfx s n)).1 : Nat) : Int), (((dl (pfx p j)).1 : Nat) : Int), ()) ∧ w3 = w') ?_ ?_
  · refine sat_iteF.2 (s_leaf ?_)
    rw [if_pos rfl]
    exact ⟨(_, _, ()), rfl, rfl, rfl⟩
  rintro x w3' ⟨rfl, rfl⟩
  simp only [match_matchTrimSuffix.t6]
  refine s_cut (fun x w' => x = (!decide (((dl (pfx p j)).1 = 63 ∧ esc (pfx p j) = false) ∨ (dl (pfx p j)).1 = (dl (pfx s n)).1), ()) ∧ w3 = w') ?_ ?_
  · have key : ∀ b : Bool, (b = true ↔ ¬ (((dl (pfx p j)).1 = 63 ∧ esc (pfx p j) = false) ∨ (dl (pfx p j)).1 = (dl (pfx s n)).1)) → (b, ()) = (!decide (((dl (pfx p j)).1 = 63 ∧ esc (pfx p j) = false) ∨ (dl (pfx p j)).1 = (dl (pfx s n)).1), ()) := fun b h =>
      bpair (by rw [h, Bool.not_eq_true', decide_eq_false_iff_not])
    have neq : (!((((dl (pfx p j)).1 : Nat) : Int) == (((dl (pfx s n)).1 : Nat) : Int))) = true ↔ ¬ ((dl (pfx p j)).1 = (dl (pfx s n)).1) := by
      rw [Bool.not_eq_true', beq_eq_false_iff_ne, ne_eq]
      exact ⟨fun g e => g (congrArg (fun x : Nat => (x : Int)) e), fun g e => g (Int.ofNat.inj e)⟩
    refine s_iteE (fun h => ?_) (fun h => ?_)
    · have h63 : (dl (pfx p j)).1 = 63 := by omega
      refine s_ite (fun he => ?_) (fun he => ?_)
      · refine s_leaf ?_
        rw [if_pos rfl]
        have he : esc (pfx p j) = false := by simpa using he
        exact ⟨(false, ()), rfl, key false ⟨fun g => (by cases g), fun g => absurd (.inl ⟨h63, he⟩) g⟩, rfl⟩
      · refine s_leaf ?_
        rw [if_pos rfl]
        have he : esc (pfx p j) = true := by simpa using he
        refine ⟨(!((((dl (pfx p j)).1 : Nat) : Int) == (((dl (pfx s n)).1 : Nat) : Int)), ()), rfl, key _ (neq.trans ?_), rfl⟩
        exact ⟨fun g x => x.elim (fun y => by rw [he] at y; cases y.2) g, fun g x => g (.inr x)⟩
    · refine s_leaf ?_
      rw [if_pos rfl]
      have h63 : (dl (pfx p j)).1 ≠ 63 := by omega
      refine ⟨(!((((dl (pfx p j)).1 : Nat) : Int) == (((dl (pfx s n)).1 : Nat) : Int)), ()), rfl, key _ (neq.trans ?_), rfl⟩
      exact ⟨fun g x => x.elim (fun y => h63 y.1) g, fun g x => g (.inr x)⟩
  rintro x w3' ⟨rfl, rfl⟩
  simp only [match_matchTrimSuffix.t7]
  simp only [sat_iteNot, decide_eq_false_iff_not, decide_eq_true_eq]
  refine ⟨fun hc2 => ?_, fun hc2 => ?_⟩
  · refine s_leaf ?_
    rw [if_neg (by decide)]
    refine ⟨rfl, ?_, k13⟩
    rw [← hm, mts_bad hc hc1 hc2]; rfl
  · have hw := dl_width (s := pfx s n) (by omega)
    have hcut := hSj.cut (by omega)
    have hcp : j - ((dl (pfx p j)).2 + (if esc (pfx p j) = true then 1 else 0)) = cutP (pfx p j) := by unfold cutP; rw [hzj, Nat.sub_sub]
    have hle2 : (dl (pfx p j)).2 + (if esc (pfx p j) = true then 1 else 0) ≤ j := by
      have := hcut.1; omega
    rw [hzi, hzj, wrap_in (n := ((n : Nat) : Int) - (((dl (pfx s n)).2 : Nat) : Int)) (by omega) (by omega), wrap_in (n := ((j : Nat) : Int) - (((dl (pfx p j)).2 + (if esc (pfx p j) = true then 1 else 0) : Nat) : Int)) (by omega) (by omega)]
    refine s_chk (by omega) (s_chk (by omega) (s_leaf ?_))
    rw [if_pos rfl]
    refine ⟨n - (dl (pfx s n)).2, (pfx p (cutP (pfx p j)), pfx s (n - (dl (pfx s n)).2), true, ()), ?_, by omega, n - (dl (pfx s n)).2, cutP (pfx p j), rfl, rfl, by omega, hcut.1, by omega, ?_, k13⟩
    · have e1 : Int.toNat (((j : Nat) : Int) - (((dl (pfx p j)).2 + (if esc (pfx p j) = true then 1 else 0) : Nat) : Int)) = cutP (pfx p j) := by rw [← hcp]; omega
      have e2 : Int.toNat (((n : Nat) : Int) - (((dl (pfx s n)).2 : Nat) : Int)) = n - (dl (pfx s n)).2 := by omega
      rw [e1, e2]
      have e3 : (pfx p j).extract 0 (cutP (pfx p j)) = pfx p (cutP (pfx p j)) := pfx_pfx (by omega)
      have e4 : (pfx s n).extract 0 (n - (dl (pfx s n)).2) = pfx s (n - (dl (pfx s n)).2) := pfx_pfx (by omega)
      rw [e3, e4]
      rfl
    · rw [← mts_on hi hc hc1 hc2]; exact hm
end Go.Proofs.YtlhhmgopfilgpaaDoor.Ms
