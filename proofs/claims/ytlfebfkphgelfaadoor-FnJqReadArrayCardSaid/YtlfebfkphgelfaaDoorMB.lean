/- jsonparser's small functions (the texts Ka Kb Kc Kd Ke Kf of this repo put together). No statement of the set is proved here. -/
import Derived.Test.YtlfebfkphgelfaaDoorMA
import Derived.Test.YtlfebfkphgelfaaDoorTr
import Derived.Test.YtlfebfkphgelfaaDoorRk
import Derived.Laws.IdiomStrings
namespace Go.Proofs.YtlfebfkphgelfaaDoor.Ka
open Go Go.Proofs Go.RowKit Go.Proofs.YtlfebfkphgelfaaDoor.Rx Go.Proofs.YtlfebfkphgelfaaDoor.Tr Go.Proofs.YtlfebfkphgelfaaDoor.Pl Go.Proofs.YtlfebfkphgelfaaDoor.Pw

abbrev Sl := Option Addr × Nat × Nat
abbrev slV (x : Sl) : Value := .slice x.1 x.2.1 x.2.2
abbrev cfg (m : Int) : Value := .agg #[.bool false, .bool false, .int .i64 m]
/-- A slice that holds the text from i to e. -/
structure Tx (w : World) (x : Sl) (s : ByteArray) (i e : Nat) : Prop where
  len : x.2.1 = e - i
  ie : i ≤ e
  es : e ≤ s.size
  cap : x.2.1 ≤ x.2.2
  cell : ∃ b o : Nat, x.1 = some ⟨b, o, none⟩ ∧ b < w.heap.size ∧ ∀ j, i + j < e → w.cell? ⟨b, o + j, none⟩ = some (.int .u8 (bt s ((i + j : Nat) : Int)))
variable {w w' : World} {x : Sl} {s : ByteArray} {i e : Nat}
theorem Tx.kp (h : Tx w x s i e) (k : Kp Off w w') : Tx w' x s i e := by
  obtain ⟨b, o, h1, h2, h3⟩ := h.cell
  refine ⟨h.len, h.ie, h.es, h.cap, b, o, h1, Nat.lt_of_lt_of_le h2 k.size, fun j hj => ?_⟩
  rw [k.cell (a := ⟨b, o + j, none⟩) h2 id]; exact h3 j hj
/-- A sub-slice from place k to place f. -/
theorem Tx.sub (h : Tx w x s i e) {k f : Nat} (hk : i ≤ k) (hkf : k ≤ f) (hf : f ≤ e) : Tx w ((if x.2.2 = k - i then x.1 else x.1.map fun y => y.add ((k - i) * 1)), f - k, x.2.2 - (k - i)) s k f := by
  obtain ⟨b, o, h1, h2, h3⟩ := h.cell
  have hc := h.cap
  have hl := h.len
  have hes := h.es
  refine ⟨rfl, hkf, by omega, by show f - k ≤ x.2.2 - (k - i); omega, ?_⟩
  show ∃ b' o', (if x.2.2 = k - i then x.1 else x.1.map fun y => y.add ((k - i) * 1)) = some ⟨b', o', none⟩ ∧ _
  split
  · exact ⟨b, o, h1, h2, fun j hj => by omega⟩
  · refine ⟨b, o + (k - i), by rw [h1, Option.map_some, addr_add, Nat.mul_one], h2, fun j hj => ?_⟩
    have := h3 (k - i + j) (by omega)
    rw [show i + (k - i + j) = k + j by omega] at this
    rw [← this, Nat.add_assoc]
/-- A byte is read. -/
theorem s_at {Q : Nat → List Value → World → Prop} {K : (Sh.int .u8).Ty → T} {j : Nat} (h : Tx w x s i e) (hj : i + j < e) (hK : sat Tryd.prog (K (bt s ((i + j : Nat) : Int))) Q w) :
    sat Tryd.prog (.chk (((0 : Int) ≤ (j : Int)) ∧ ((j : Int) < ((x.2.1 : Nat) : Int))) <| .ptr x.1 fun z => .load (Addr.add z ((Int.toNat (j : Int)) * 1)) (.int .u8) K) Q w := by
  obtain ⟨b, o, h1, h2, h3⟩ := h.cell
  have hl := h.len
  refine s_chk (by omega) ⟨_, h1, ?_⟩
  rw [Int.toNat_natCast, Nat.mul_one]
  dsimp only
  rw [addr_add]
  exact s_load _ (h3 j hj) hK
theorem wup (n : Nat) (h : n ≤ 10000000000) : IntKind.wrap IntKind.i64 ((n : Int) + 1) = ((n + 1 : Nat) : Int) := by rw [wrap_in (by omega) (by omega)]; omega
theorem wad (a b : Nat) (h : a + b ≤ 100000000000) : IntKind.wrap IntKind.i64 ((a : Int) + (b : Int)) = ((a + b : Nat) : Int) := by rw [wrap_in (by omega) (by omega)]; omega
theorem wsu (a b : Nat) (h : b ≤ a) (h2 : a ≤ 100000000000) : IntKind.wrap IntKind.i64 ((a : Int) - (b : Int)) = ((a - b : Nat) : Int) := by rw [wrap_in (by omega) (by omega)]; omega
theorem isB_or {c : Int} (h : isB c = true) : c = 32 ∨ c = 10 ∨ c = 13 ∨ c = 9 := by
  have := isB_iff.1 h; omega
theorem isB_nor {c : Int} (h : isB c = false) : c ≠ 32 ∧ c ≠ 10 ∧ c ≠ 13 ∧ c ≠ 9 := by
  have : ¬ isB c = true := by rw [h]; decide
  rw [isB_iff] at this; omega
/-- The next token, where there is one. -/
theorem next_any {m : Int} (h : Tx w x s i e) (hs : s.size ≤ 10000000000) (hb : bl s i < e) :
    Calls Tryd.prog 52 #[cfg m, slV x] w fun en w' => en = .returned (.int .i64 ((bl s i - i : Nat) : Int)) ∧ Kp Off w w' := by
  have hl := h.len
  have hes := h.es
  have g := bl_ge s i
  refine jsonparser_nextTokenConfig.calls _ _ _ _ _ _ ?_
  unfold jsonparser_nextTokenConfig.t
  refine s_alloc ?_
  have k0 : Kp Off w (w.alloc (.cells #[.bool false, .bool false, .int .i64 m] 73 (0, 0))) := (Kp.refl Off w).alloc _
  show sat _ _ _ (w.alloc (.cells #[.bool false, .bool false, .int .i64 m] 73 (0, 0)))
  generalize w.alloc (.cells #[.bool false, .bool false, .int .i64 m] 73 (0, 0)) = w1 at k0
  have h1 := h.kp k0
  refine s_loop (fun n z w' => ∃ j : Nat, n = e - j ∧ z = ((j : Int), ()) ∧ i + j ≤ bl s i ∧ w' = w1) e ((0 : Int), ()) rfl ⟨0, rfl, rfl, g, rfl⟩ ?_
  rintro n z w2 ⟨j, rfl, rfl, hj, hw⟩
  have hw := hw.symm
  subst hw
  show sat _ (jsonparser_nextTokenConfig.t1 x.1 x.2.1 (j : Int)) _ _
  unfold jsonparser_nextTokenConfig.t1
  have nx : isB (bt s ((i + j : Nat) : Int)) = true → ∃ n' x', [Value.int .i64 (IntKind.wrap .i64 ((j : Int) + 1))] = (Sh.cons (.int .i64) .nil).vals x' ∧ n' < e - j ∧ ∃ j' : Nat, n' = e - j' ∧ x' = ((j' : Int), ()) ∧ i + j' ≤ bl s i ∧ w1 = w1 := by
    intro hB
    have : i + j < bl s i := by
      rcases Nat.lt_or_ge (i + j) (bl s i) with c | c
      · exact c
      · have : i + j = bl s i := by omega
        rw [this, bl_not] at hB; cases hB
    rw [wup j (by omega)]
    exact ⟨e - (j + 1), (((j + 1 : Nat) : Int), ()), rfl, by omega, j + 1, rfl, rfl, by omega, rfl⟩
  refine s_iteD (fun _ => s_at h1 (by omega) (s_iteE (fun c => s_leaf ?_) fun c1 => s_iteE (fun c => s_leaf ?_) fun c2 => s_iteE (fun c => s_leaf ?_) fun c3 => s_iteE (fun c => s_leaf ?_) fun c4 => s_leaf ?_)) (fun c => absurd c (by omega))
  · rw [if_pos rfl]; exact nx (isB_iff.2 (by omega))
  · rw [if_pos rfl]; exact nx (isB_iff.2 (by omega))
  · rw [if_pos rfl]; exact nx (isB_iff.2 (by omega))
  · rw [if_pos rfl]; exact nx (isB_iff.2 (by omega))
  · rw [if_neg (by decide)]
    have : bl s i = i + j := by
      rcases Nat.lt_or_ge (i + j) (bl s i) with c | c
      · have := isB_or (bl_blank s i (i + j) (by omega) c); omega
      · omega
    refine ⟨rfl, ?_, k0⟩
    rw [this, Nat.add_sub_cancel_left]; rfl
def isE (c : Int) : Prop := c = 32 ∨ c = 10 ∨ c = 13 ∨ c = 9 ∨ c = 44 ∨ c = 125 ∨ c = 93
/-- A token's end: no delimiter stands ahead of place f; one stands there, or the slice ends. -/
theorem tokenEnd_any {f : Nat} (h : Tx w x s i e) (hs : s.size ≤ 10000000000) (hif : i ≤ f) (hfe : f ≤ e) (hn : ∀ j, i ≤ j → j < f → ¬ isE (bt s (j : Int))) (hf : f = e ∨ isE (bt s (f : Int))) :
    Calls Tryd.prog 77 #[slV x] w fun en w' => en = .returned (.int .i64 ((f - i : Nat) : Int)) ∧ w' = w := by
  have hl := h.len
  have hes := h.es
  refine jsonparser_tokenEnd.calls _ _ _ ?_
  unfold jsonparser_tokenEnd.t
  refine s_loop (fun n z w' => ∃ j : Nat, n = e - j ∧ z = ((j : Int), ()) ∧ i + j ≤ f ∧ w' = w) e ((0 : Int), ()) rfl ⟨0, rfl, rfl, hif, rfl⟩ ?_
  rintro n z w2 ⟨j, rfl, rfl, hj, hw⟩
  have hw := hw.symm
  subst hw
  show sat _ (jsonparser_tokenEnd.t1 x.1 x.2.1 (j : Int)) _ _
  unfold jsonparser_tokenEnd.t1
  have out : isE (bt s ((i + j : Nat) : Int)) → 0 = 0 ∧ Ending.returned (retVal [Value.int .i64 (j : Int)]) = .returned (.int .i64 ((f - i : Nat) : Int)) ∧ w = w := by
    intro hE
    have : f = i + j := by
      rcases Nat.lt_or_ge (i + j) f with c | c
      · exact absurd hE (hn _ (by omega) c)
      · omega
    subst this
    rw [Nat.add_sub_cancel_left]
    exact ⟨rfl, rfl, rfl⟩
  refine s_iteD (fun c => ?_) (fun c => s_leaf ?_)
  · refine s_at h (by omega) (s_iteN (fun c1 => s_iteN (fun c2 => s_iteN (fun c3 => s_iteN (fun c4 => s_iteN (fun c5 => s_iteN (fun c6 => s_iteN (fun c7 => s_leaf ?_) fun c => s_leaf ?_) fun c => s_leaf ?_) fun c => s_leaf ?_) fun c => s_leaf ?_) fun c => s_leaf ?_) fun c => s_leaf ?_) fun c => s_leaf ?_)
    · rw [if_pos rfl, wup j (by omega)]
      have : i + j < f := by
        rcases Nat.lt_or_ge (i + j) f with c | c
        · exact c
        · have : f = i + j := by omega
          subst this
          rcases hf with hf | hf
          · omega
          · unfold isE at hf; omega
      exact ⟨e - (j + 1), (((j + 1 : Nat) : Int), ()), rfl, by omega, j + 1, rfl, rfl, by omega, rfl⟩
    all_goals
      rw [if_neg (by decide)]
      exact out (by unfold isE; omega)
  · rw [if_neg (by decide)]
    have : f = i + j := by omega
    refine ⟨rfl, ?_, rfl⟩
    show Ending.returned (.int .i64 ((x.2.1 : Nat) : Int)) = _
    rw [hl]
    have : e - i = f - i := by omega
    rw [this]
end Go.Proofs.YtlfebfkphgelfaaDoor.Ka
namespace Go.Proofs.YtlfebfkphgelfaaDoor.Ka
open Go Go.Proofs Go.RowKit Go.Proofs.YtlfebfkphgelfaaDoor.Rx Go.Proofs.YtlfebfkphgelfaaDoor.Tr Go.Proofs.YtlfebfkphgelfaaDoor.Pl Go.Proofs.YtlfebfkphgelfaaDoor.Pw Go.Proofs.YtlfebfkphgelfaaDoor.Sk Go.Proofs.YtlfebfkphgelfaaDoor.Sw

variable {w w' : World} {x : Sl} {s : ByteArray} {i e : Nat}
theorem Tx.from (h : Tx w x s i e) (j : Nat) (hj : i + j ≤ e) : Tx w ((if x.2.2 = j then x.1 else x.1.map fun y => y.add (j * 1)), x.2.1 - j, x.2.2 - j) s (i + j) e := by
  have := h.sub (k := i + j) (f := e) (by omega) hj (Nat.le_refl e)
  rw [Nat.add_sub_cancel_left] at this
  have hl := h.len
  have e1 : x.2.1 - j = e - (i + j) := by omega
  rw [e1]
  exact this
/-- A byte as a natural number. -/
def bN (s : ByteArray) (j : Nat) : Nat := (bt s (j : Int)).toNat
theorem bN_eq (s : ByteArray) (j : Nat) : bt s (j : Int) = (bN s j : Int) := by
  have := bt_range s j
  unfold bN; omega
theorem bN_lt (s : ByteArray) (j : Nat) : bN s j < 256 := by
  have := bt_range s j
  unfold bN; omega
theorem s_at0 {Q : Nat → List Value → World → Prop} {K : (Sh.int .u8).Ty → T} {j : Nat} {c : Int} (h : Tx w x s i e) (hc : c = (j : Int)) (hj : i + j < e) (hK : sat Tryd.prog (K ((bN s (i + j) : Nat) : Int)) Q w) :
    sat Tryd.prog (.chk (((0 : Int) ≤ c) ∧ (c < ((x.2.1 : Nat) : Int))) <| .ptr x.1 fun z => .load (Addr.add z j) (.int .u8) K) Q w := by
  subst hc
  obtain ⟨b, o, h1, h2, h3⟩ := h.cell
  have hl := h.len
  refine s_chk (by omega) ⟨_, h1, ?_⟩
  dsimp only
  rw [addr_add]
  have := h3 j hj
  rw [bN_eq] at this
  exact s_load ((bN s (i + j) : Nat) : Int) this hK
def OR (a b : Int) : Int := IntKind.wrap .u64 ((BitVec.toNat ((BitVec.ofInt 64 a) ||| (BitVec.ofInt 64 b)) : Nat) : Int)
def AND (a b : Int) : Int := IntKind.wrap .u64 ((BitVec.toNat ((BitVec.ofInt 64 a) &&& (BitVec.ofInt 64 b)) : Nat) : Int)
def XOR (a b : Int) : Int := IntKind.wrap .u64 ((BitVec.toNat ((BitVec.ofInt 64 a) ^^^ (BitVec.ofInt 64 b)) : Nat) : Int)
theorem or_step {a c m : Nat} (ha : a < 2 ^ m) (hm : m ≤ 56) (hc : c < 256) : OR (a : Int) ((c * 2 ^ m : Nat) : Int) = ((a + c * 2 ^ m : Nat) : Int) := by
  have h1 : 2 ^ m ≤ 2 ^ 56 := Nat.pow_le_pow_right (by decide) hm
  have h2 : c * 2 ^ m ≤ 255 * 2 ^ 56 := Nat.mul_le_mul (by omega) h1
  unfold OR
  rw [or64 (by omega) (by omega), or_hi ha]
theorem sh_step {c m : Nat} {k : Int} (hk : k = ((2 ^ m : Nat) : Int)) (hm : m ≤ 56) (hc : c < 256) : IntKind.wrap .u64 (IntKind.wrap .u64 (c : Int) * k) = ((c * 2 ^ m : Nat) : Int) := by
  have h1 : 2 ^ m ≤ 2 ^ 56 := Nat.pow_le_pow_right (by decide) hm
  have h2 : c * 2 ^ m ≤ 255 * 2 ^ 56 := Nat.mul_le_mul (by omega) h1
  subst hk
  rw [wr (by omega), show (c : Int) * ((2 ^ m : Nat) : Int) = ((c * 2 ^ m : Nat) : Int) from (Int.natCast_mul c (2 ^ m)).symm, wr (by omega)]
theorem word_eq {b : Nat → Nat} (hb : ∀ j, b j < 256) :
    OR (OR (OR (OR (OR (OR (OR (IntKind.wrap .u64 (b 0 : Int)) (IntKind.wrap .u64 (IntKind.wrap .u64 (b 1 : Int) * 256))) (IntKind.wrap .u64 (IntKind.wrap .u64 (b 2 : Int) * 65536))) (IntKind.wrap .u64 (IntKind.wrap .u64 (b 3 : Int) * 16777216))) (IntKind.wrap .u64 (IntKind.wrap .u64 (b 4 : Int) * 4294967296)))
      (IntKind.wrap .u64 (IntKind.wrap .u64 (b 5 : Int) * 1099511627776))) (IntKind.wrap .u64 (IntKind.wrap .u64 (b 6 : Int) * 281474976710656))) (IntKind.wrap .u64 (IntKind.wrap .u64 (b 7 : Int) * 72057594037927936)) = ((le8 b : Nat) : Int) := by
  have h0 := hb 0; have h1 := hb 1; have h2 := hb 2; have h3 := hb 3; have h4 := hb 4; have h5 := hb 5; have h6 := hb 6; have h7 := hb 7
  rw [wr (n := b 0) (by omega), sh_step (m := 8) (k := 256) rfl (by decide) h1, sh_step (m := 16) (k := 65536) rfl (by decide) h2, sh_step (m := 24) (k := 16777216) rfl (by decide) h3, sh_step (m := 32) (k := 4294967296) rfl (by decide) h4, sh_step (m := 40) (k := 1099511627776) rfl (by decide) h5, sh_step (m := 48) (k := 281474976710656) rfl (by decide) h6, sh_step (m := 56) (k := 72057594037927936) rfl (by decide) h7]
  rw [or_step (m := 8) (by omega) (by decide) h1, or_step (m := 16) (by omega) (by decide) h2, or_step (m := 24) (by omega) (by decide) h3, or_step (m := 32) (by omega) (by decide) h4, or_step (m := 40) (by omega) (by decide) h5, or_step (m := 48) (by omega) (by decide) h6, or_step (m := 56) (by omega) (by decide) h7]
  unfold le8
  omega
theorem u64_any (h : Tx w x s i e) (h8 : i + 8 ≤ e) : Calls Tryd.prog 78 #[.agg #[], slV x] w fun en w' => en = .returned (.int .u64 ((le8 (fun j => bN s (i + j)) : Nat) : Int)) ∧ Kp Off w w' := by
  refine binary_littleEndian_Uint64.calls _ _ _ ?_
  unfold binary_littleEndian_Uint64.t
  refine s_alloc ?_
  have k0 : Kp Off w (w.alloc (.cells #[] 126 (0, 0))) := (Kp.refl Off w).alloc _
  show sat _ _ _ (w.alloc (.cells #[] 126 (0, 0)))
  generalize w.alloc (.cells #[] 126 (0, 0)) = w1 at k0
  have h1 := h.kp k0
  refine s_at0 (j := 7) h1 rfl (by omega) (s_drew ?_)
  have k2 := k0.trans (Kp.refl Off w1).drew
  have h2 := h1.kp (Kp.refl Off w1).drew
  generalize w1.drew = w2 at h2 k2
  refine s_at0 (j := 0) h2 rfl (by omega) ?_
  refine s_at0 (j := 1) h2 rfl (by omega) (s_chk (by decide) ?_)
  refine s_at0 (j := 2) h2 rfl (by omega) (s_chk (by decide) ?_)
  refine s_at0 (j := 3) h2 rfl (by omega) (s_chk (by decide) ?_)
  refine s_at0 (j := 4) h2 rfl (by omega) (s_chk (by decide) ?_)
  refine s_at0 (j := 5) h2 rfl (by omega) (s_chk (by decide) ?_)
  refine s_at0 (j := 6) h2 rfl (by omega) (s_chk (by decide) ?_)
  refine s_at0 (j := 7) h2 rfl (by omega) (s_chk (by decide) (s_leaf ⟨rfl, ?_, k2⟩))
  have := word_eq (b := fun j => bN s (i + j)) (fun j => bN_lt s (i + j))
  exact congrArg (fun n => Ending.returned (.int .u64 n)) this
theorem not_max {X : Nat} (h : X < 18446744073709551616) : 18446744073709551615 ^^^ X = 18446744073709551615 - X := by
  apply Nat.eq_of_testBit_eq
  intro j
  have e := Nat.testBit_two_pow_sub_succ (n := 64) (x := X) h j
  rw [show 2 ^ 64 - (X + 1) = 18446744073709551615 - X by omega] at e
  have e2 := Nat.testBit_two_pow_sub_one 64 j
  rw [show 2 ^ 64 - 1 = 18446744073709551615 by omega] at e2
  rw [Nat.testBit_xor, e, e2]
  by_cases c : j < 64
  · simp [c]
  · have : X.testBit j = false := Nat.testBit_lt_two_pow (Nat.lt_of_lt_of_le h (by have := Nat.pow_le_pow_right (n := 2) (by decide) (show 64 ≤ j by omega); omega))
    simp [c, this]
theorem un_run {X : Nat} (h : X < 18446744073709551616) : (Op.unary UnOp.xor (.int .u64 (X : Int))).run Tryd.prog w = .ok (.int .u64 ((18446744073709551615 - X : Nat) : Int)) w := by
  have e := xor64 (a := 18446744073709551615) (b := X) (by decide) h
  rw [not_max h] at e
  exact congrArg (fun n => Result.ok (Value.int .u64 n) w) e
/-- The word's test: no mark and no backslash among eight bytes. -/
theorem hit_no {b : Nat → Nat} (hb : ∀ j, b j < 256) {X Y : Nat} (hX : X = le8 (fun j => b j ^^^ 34)) (hY : Y = le8 (fun j => b j ^^^ 92))
    (h : OR (AND (AND (IntKind.wrap .u64 ((X : Int) - 72340172838076673)) ((18446744073709551615 - X : Nat) : Int)) 9259542123273814144) (AND (AND (IntKind.wrap .u64 ((Y : Int) - 72340172838076673)) ((18446744073709551615 - Y : Nat) : Int)) 9259542123273814144) = 0) : ∀ j, j < 8 → b j ≠ 34 ∧ b j ≠ 92 := by
  have key : ∀ {q Z : Nat}, q < 256 → Z = le8 (fun j => b j ^^^ q) → ∃ A : Nat, A = (Z + 18374403900871474943) % 18446744073709551616 ∧ IntKind.wrap .u64 ((Z : Int) - 72340172838076673) = (A : Int) ∧ A < 18446744073709551616 := by
    intro q Z hq hZ
    have hz : Z < 18446744073709551616 := by rw [hZ]; exact le8_lt (fun j => xor_lt (hb j) hq)
    refine ⟨_, rfl, ?_, Nat.mod_lt _ (by decide)⟩
    have e : IntKind.wrap .u64 ((Z : Int) - 72340172838076673) = ((Z : Int) - 72340172838076673) % 18446744073709551616 := by
      simp only [IntKind.wrap, IntKind.signed, IntKind.bits]; rfl
    rw [e]; omega
  obtain ⟨A, a1, a2, a3⟩ := key (q := 34) (by decide) hX
  obtain ⟨B, b1, b2, b3⟩ := key (q := 92) (by decide) hY
  rw [a2, b2] at h
  have n1 : ∀ Z : Nat, 18446744073709551615 - Z < 18446744073709551616 := fun Z => by omega
  have f1 : AND (AND (A : Int) ((18446744073709551615 - X : Nat) : Int)) 9259542123273814144 = (((A &&& (18446744073709551615 - X)) &&& 9259542123273814144 : Nat) : Int) := by
    unfold AND
    rw [and64 a3 (n1 X)]
    exact and64 (Nat.and_lt_two_pow (n := 64) A (n1 X)) (b := 9259542123273814144) (by decide)
  have f2 : AND (AND (B : Int) ((18446744073709551615 - Y : Nat) : Int)) 9259542123273814144 = (((B &&& (18446744073709551615 - Y)) &&& 9259542123273814144 : Nat) : Int) := by
    unfold AND
    rw [and64 b3 (n1 Y)]
    exact and64 (Nat.and_lt_two_pow (n := 64) B (n1 Y)) (b := 9259542123273814144) (by decide)
  rw [f1, f2] at h
  have lt2 : ∀ Z : Nat, Z &&& 9259542123273814144 < 18446744073709551616 := fun Z => Nat.and_lt_two_pow (n := 64) Z (by decide)
  unfold OR at h
  rw [or64 (lt2 _) (lt2 _)] at h
  have h0 : (A &&& (18446744073709551615 - X)) &&& 9259542123273814144 ||| (B &&& (18446744073709551615 - Y)) &&& 9259542123273814144 = 0 := Int.ofNat_eq_zero.1 h
  have l1 : (A &&& (18446744073709551615 - X)) &&& 9259542123273814144 = 0 := Nat.le_zero.1 (h0 ▸ Nat.left_le_or)
  have l2 : (B &&& (18446744073709551615 - Y)) &&& 9259542123273814144 = 0 := Nat.le_zero.1 (h0 ▸ Nat.right_le_or)
  intro j hj
  exact ⟨hits hb 34 (by decide) hX a1 rfl l1 j hj, hits hb 92 (by decide) hY b1 rfl l2 j hj⟩
/-- Whether a backslash stands in the first n bytes. -/
def esc (s : ByteArray) (i : Nat) : Nat → Bool
  | 0 => false
  | n + 1 => esc s i n || bt s ((i + n : Nat) : Int) == 92
theorem esc_bk : ∀ {n : Nat}, bk s i n = true → esc s i n = true
  | 0, h => by cases h
  | n + 1, h => by
    unfold bk at h
    split at h
    · rename_i c; unfold esc; rw [c]; simp
    · cases h
theorem esc_no : ∀ {n : Nat}, (∀ j, j < n → bt s ((i + j : Nat) : Int) ≠ 92) → esc s i n = false
  | 0, _ => rfl
  | n + 1, h => by
    unfold esc
    rw [esc_no fun j hj => h j (by omega)]
    rw [beq_eq_false_iff_ne.2 (h n (by omega))]; rfl
theorem back_any {Q : Nat → List Value → World → Prop} {j : Nat} {b8 : Bool} (h : Tx w x s i e) (hs : s.size ≤ 10000000000) (hj : i + j < e)
    (h0 : bk s i j = false → Q 0 [.int .i64 ((j + 1 : Nat) : Int), .bool true] w) (h1 : bk s i j = true → Q 1 [.int .i64 ((j + 1 : Nat) : Int), .bool b8] w) :
    sat Tryd.prog (.loop 2 (.cons (.int .i64) .nil) [(Value.int IntKind.i64 (IntKind.wrap IntKind.i64 ((j : Int) - (1 : Int))))] (fun z => jsonparser_stringEndConfig.t4 x.1 x.2.1 (j : Int) b8 z.1)) Q w := by
  have hes := h.es
  have wm : ∀ m : Nat, m ≤ j → IntKind.wrap IntKind.i64 ((m : Int) - 1) = (m : Int) - 1 := fun m hm => wrap_in (by omega) (by omega)
  refine s_loop (fun n z w' => ∃ m : Nat, n = m ∧ z = ((m : Int) - 1, ()) ∧ m ≤ j ∧ bk s i m = bk s i j ∧ w' = w) j ((j : Int) - 1, ()) (by rw [wm j (Nat.le_refl j)]; rfl) ⟨j, rfl, rfl, Nat.le_refl j, rfl, rfl⟩ ?_
  rintro n z w2 ⟨m, rfl, rfl, hm, hb, hw⟩
  have hw := hw.symm
  subst hw
  show sat _ (jsonparser_stringEndConfig.t4 x.1 x.2.1 (j : Int) b8 ((n : Int) - 1)) _ _
  unfold jsonparser_stringEndConfig.t4
  have rd : ∀ {Q' : Nat → List Value → World → Prop} {K : Int → T} {c : Int} {d : Nat}, c = (d : Int) → d < j → sat Tryd.prog (K (bt s ((i + d : Nat) : Int))) Q' w → sat Tryd.prog (.chk (((0 : Int) ≤ c) ∧ (c < ((x.2.1 : Nat) : Int))) <| .ptr x.1 fun z => .load (Addr.add z ((Int.toNat c) * 1)) (.int .u8) K) Q' w := by
    intro Q' K c d hc hd hK
    subst hc
    exact s_at h (by omega) hK
  refine s_cut (fun z w' => (z.1 = true ↔ (n = 0 ∨ ∃ d, n = d + 1 ∧ bt s ((i + d : Nat) : Int) ≠ 92)) ∧ w' = w) ?_ ?_
  · refine s_iteD (fun c => s_leaf ?_) (fun c => ?_)
    · rw [if_pos rfl]; exact ⟨(true, ()), rfl, ⟨fun _ => .inl (by omega), fun _ => rfl⟩, rfl⟩
    · obtain ⟨d, rfl⟩ : ∃ d, n = d + 1 := ⟨n - 1, by omega⟩
      refine rd (d := d) (by omega) (by omega) (s_leaf ?_)
      rw [if_pos rfl]
      refine ⟨((bt s ((i + d : Nat) : Int) != (92 : Int)), ()), rfl, ?_, rfl⟩
      show (bt s ((i + d : Nat) : Int) != (92 : Int)) = true ↔ _
      rw [bne_iff_ne]
      exact ⟨fun c => .inr ⟨d, rfl, c⟩, fun c => by
        rcases c with c | ⟨d', c1, c2⟩
        · omega
        · have : d = d' := by omega
          subst this; exact c2⟩
  rintro ⟨b16, zu⟩ w3 ⟨hb16, hw⟩
  have hw := hw.symm
  subst hw
  have hb16 : b16 = true ↔ (n = 0 ∨ ∃ d, n = d + 1 ∧ bt s ((i + d : Nat) : Int) ≠ 92) := hb16
  show sat _ (jsonparser_stringEndConfig.t5 x.1 x.2.1 (j : Int) b8 ((n : Int) - 1) b16) _ _
  unfold jsonparser_stringEndConfig.t5
  refine s_ite (fun c => s_leaf ?_) (fun c => ?_)
  · rw [if_neg (by decide), wup j (by omega)]
    refine h0 ?_
    rw [← hb]
    rcases hb16.1 c with rfl | ⟨d, rfl, c2⟩
    · rfl
    · exact bk_no c2
  · have hc : ¬ (n = 0 ∨ ∃ d, n = d + 1 ∧ bt s ((i + d : Nat) : Int) ≠ 92) := fun g => by rw [hb16.2 g] at c; cases c
    obtain ⟨d, rfl⟩ : ∃ d, n = d + 1 := ⟨n - 1, by omega⟩
    have h92 : bt s ((i + d : Nat) : Int) = 92 := Classical.byContradiction fun g => hc (.inr ⟨d, rfl, g⟩)
    have wd : IntKind.wrap IntKind.i64 (((d + 1 : Nat) : Int) - 1 - 1) = (d : Int) - 1 := by rw [show ((d + 1 : Nat) : Int) - 1 - 1 = (d : Int) - 1 by omega]; exact wm d (by omega)
    rw [wd, wup j (by omega)]
    refine s_iteD (fun c => s_leaf ?_) (fun c => ?_)
    · rw [if_neg (by decide)]
      refine h1 ?_
      have : d = 0 := by omega
      subst this
      rw [← hb, bk_on h92]; rfl
    · obtain ⟨f, rfl⟩ : ∃ f, d = f + 1 := ⟨d - 1, by omega⟩
      refine rd (d := f) (by omega) (by omega) (s_iteN (fun c2 => s_leaf ?_) (fun c2 => s_leaf ?_))
      · rw [if_neg (by decide)]
        refine h1 ?_
        rw [← hb, bk_on h92, bk_no c2]; rfl
      · rw [if_pos rfl]
        have wf : IntKind.wrap IntKind.i64 (((f + 1 : Nat) : Int) - 1 - 1) = (f : Int) - 1 := by rw [show ((f + 1 : Nat) : Int) - 1 - 1 = (f : Int) - 1 by omega]; exact wm f (by omega)
        rw [wf]
        refine ⟨f, ((f : Int) - 1, ()), rfl, by omega, f, rfl, rfl, by omega, ?_, rfl⟩
        rw [← hb, bk_on h92, bk_on c2, Bool.not_not]
theorem le_run : (Instr.loadAt 126 (.pointer (some ⟨9, 0, none⟩))).run Tryd.prog w = .ok (.agg #[]) w := by
  have hi := info_some (P := Tryd.prog) (t := 126) (by kernel_rfl)
  have hs : ((Tryd.prog.info? 126).get (by kernel_rfl)).size = 0 := by kernel_rfl
  have ha : aggT Tryd.prog 126 = some true := by kernel_rfl
  simp only [Instr.loadAt, Instr.sureAddr, loadVar, Sem.run_bind, Sem.run_pure, Result.andThen_ok, run_agg ha, if_true, run_size hi, loadCells, hs]
  simp [loadCellsFrom]
/-- Where a string ends: behind its closing mark; whether it has a backslash. -/
theorem strEnd_any {m : Int} {k : Nat} (h : Tx w x s i e) (hs : s.size ≤ 10000000000) (hq : QE s i k) (hk : i + k < e) :
    Calls Tryd.prog 66 #[cfg m, slV x, .int .u8 34] w fun en w' => en = .returned (.tuple #[.int .i64 ((k + 1 : Nat) : Int), .bool (esc s i k)]) ∧ Kp Off w w' := by
  have hes := h.es
  have hl := h.len
  refine jsonparser_stringEndConfig.calls _ _ _ _ _ _ _ ?_
  unfold jsonparser_stringEndConfig.t
  refine s_alloc ?_
  have k0 : Kp Off w (w.alloc (.cells #[.bool false, .bool false, .int .i64 m] 73 (0, 0))) := (Kp.refl Off w).alloc _
  show sat _ _ _ (w.alloc (.cells #[.bool false, .bool false, .int .i64 m] 73 (0, 0)))
  generalize w.alloc (.cells #[.bool false, .bool false, .int .i64 m] 73 (0, 0)) = w1 at k0
  refine s_cut (fun z w' => ∃ j : Nat, z = ((j : Int), ()) ∧ j ≤ k ∧ (∀ t, t < j → bt s ((i + t : Nat) : Int) ≠ 34 ∧ bt s ((i + t : Nat) : Int) ≠ 92) ∧ Kp Off w w') ?_ ?_
  · refine s_loop (fun n z w' => ∃ j : Nat, n = e - j ∧ z = ((j : Int), ()) ∧ j ≤ k ∧ (∀ t, t < j → bt s ((i + t : Nat) : Int) ≠ 34 ∧ bt s ((i + t : Nat) : Int) ≠ 92) ∧ Kp Off w w') e ((0 : Int), ()) rfl ⟨0, rfl, rfl, Nat.zero_le k, fun t ht => by omega, k0⟩ ?_
    rintro n z w2 ⟨j, rfl, rfl, hj, hall, k2⟩
    show sat _ (jsonparser_stringEndConfig.t1 x.1 x.2.1 x.2.2 34 (j : Int)) _ _
    unfold jsonparser_stringEndConfig.t1
    have w8 : IntKind.wrap IntKind.i64 ((j : Int) + 8) = ((j + 8 : Nat) : Int) := by rw [wrap_in (by omega) (by omega)]; omega
    rw [w8]
    refine s_iteD (fun c => s_drew ?_) (fun c => s_leaf ?_)
    · have k3 := k2.trans (Kp.refl Off w2).drew
      generalize w2.drew = w3 at k3
      have h3 := h.kp k3
      refine s_effS () le_run (s_chk ⟨by omega, by omega, by have := h.cap; omega⟩ ?_)
      rw [Int.toNat_natCast, Int.toNat_natCast]
      have h4 := h3.from j (by omega)
      have h8 : i + j + 8 ≤ e := by omega
      have hu := u64_any h4 h8
      refine s_call hu ?_
      rintro en w4 ⟨rfl, k4⟩
      have hb := fun t => bN_lt s (i + j + t)
      have lt1 := le8_lt hb
      refine ⟨((le8 (fun t => bN s (i + j + t)) : Nat) : Int), rfl, ?_⟩
      have hX : IntKind.wrap IntKind.u64 ((BitVec.toNat ((BitVec.ofInt 64 ((le8 (fun t => bN s (i + j + t)) : Nat) : Int)) ^^^ (BitVec.ofInt 64 (IntKind.wrap IntKind.u64 ((IntKind.wrap IntKind.u64 (34 : Int)) * (72340172838076673 : Int))))) : Nat) : Int) = ((le8 (fun t => bN s (i + j + t) ^^^ 34) : Nat) : Int) := by
        rw [show IntKind.wrap IntKind.u64 ((IntKind.wrap IntKind.u64 (34 : Int)) * (72340172838076673 : Int)) = ((le8 (fun _ => 34) : Nat) : Int) from by decide, xor64 lt1 (by decide), le8_xor hb (by decide)]
      have hY : IntKind.wrap IntKind.u64 ((BitVec.toNat ((BitVec.ofInt 64 ((le8 (fun t => bN s (i + j + t)) : Nat) : Int)) ^^^ (BitVec.ofInt 64 (6655295901103053916 : Int))) : Nat) : Int) = ((le8 (fun t => bN s (i + j + t) ^^^ 92) : Nat) : Int) := by
        rw [show (6655295901103053916 : Int) = ((le8 (fun _ => 92) : Nat) : Int) from by decide, xor64 lt1 (by decide), le8_xor hb (by decide)]
      rw [hX, hY]
      refine s_eff (w' := w4) _ (un_run (le8_lt fun t => xor_lt (hb t) (by decide))) ?_
      refine s_eff (w' := w4) _ (un_run (le8_lt fun t => xor_lt (hb t) (by decide))) ?_
      refine s_iteE (fun c0 => s_leaf ?_) (fun _ => s_leaf ?_)
      · have hno := hit_no hb rfl rfl c0
        rw [if_pos rfl]
        have hall' : ∀ t, t < j + 8 → bt s ((i + t : Nat) : Int) ≠ 34 ∧ bt s ((i + t : Nat) : Int) ≠ 92 := by
          intro t ht
          rcases Nat.lt_or_ge t j with g | g
          · exact hall t g
          · have := hno (t - j) (by omega)
            rw [show i + j + (t - j) = i + t by omega] at this
            rw [bN_eq]; omega
        have hjk : j + 8 ≤ k := by
          rcases Nat.lt_or_ge k (j + 8) with g | g
          · exact absurd hq.mark (hall' k g).1
          · exact g
        exact ⟨e - (j + 8), (((j + 8 : Nat) : Int), ()), rfl, by omega, j + 8, rfl, rfl, hjk, hall', k3.trans k4⟩
      · rw [if_neg (by decide), if_pos rfl]
        exact ⟨((j : Int), ()), rfl, j, rfl, hj, hall, k3.trans k4⟩
    · rw [if_neg (by decide), if_pos rfl]
      exact ⟨((j : Int), ()), rfl, j, rfl, hj, hall, k2⟩
  rintro z w2 ⟨j0, rfl, hj0, hall, k2⟩
  have h2 := h.kp k2
  show sat _ (jsonparser_stringEndConfig.t2 x.1 x.2.1 34 (j0 : Int)) _ _
  unfold jsonparser_stringEndConfig.t2
  refine s_loop (fun n z w' => ∃ j : Nat, n = e - j ∧ z = ((j : Int), esc s i j, ()) ∧ j ≤ k ∧ w' = w2) (e - j0) ((j0 : Int), false, ()) rfl ⟨j0, rfl, by rw [esc_no fun t ht => (hall t ht).2]; rfl, hj0, rfl⟩ ?_
  rintro n z w3 ⟨j, rfl, rfl, hj, hw⟩
  have hw := hw.symm
  subst hw
  show sat _ (jsonparser_stringEndConfig.t3 x.1 x.2.1 34 (j : Int) (esc s i j)) _ _
  unfold jsonparser_stringEndConfig.t3
  have nx : j < k → ∀ b, b = esc s i (j + 1) → ∃ n' x', [Value.int .i64 ((j + 1 : Nat) : Int), .bool b] = (Sh.cons (.int .i64) (.cons .bool .nil)).vals x' ∧ n' < e - j ∧ ∃ j' : Nat, n' = e - j' ∧ x' = ((j' : Int), esc s i j', ()) ∧ j' ≤ k ∧ w2 = w2 := by
    rintro hlt b rfl
    exact ⟨e - (j + 1), (((j + 1 : Nat) : Int), esc s i (j + 1), ()), rfl, by omega, j + 1, rfl, rfl, by omega, rfl⟩
  have wj := wup j (by omega)
  have nk : bt s ((i + j : Nat) : Int) ≠ 34 → j < k := fun c => by
    rcases Nat.lt_or_ge j k with g | g
    · exact g
    · have : j = k := by omega
      subst this; exact absurd hq.mark c
  have en : bt s ((i + j : Nat) : Int) ≠ 92 → esc s i j = esc s i (j + 1) := fun c => by
    show _ = (esc s i j || _)
    rw [beq_eq_false_iff_ne.2 c, Bool.or_false]
  refine s_iteD (fun c => s_at h2 (by omega) (s_iteD (fun g => s_leaf ?_) (fun g => s_at h2 (by omega) (s_iteE (fun c34 => ?_) (fun c34 => s_iteE (fun c92 => s_leaf ?_) (fun c92 => s_leaf ?_)))))) (fun c => absurd c (by omega))
  · rw [if_pos rfl, wj]
    exact nx (nk (by omega)) _ (en (by omega))
  · refine s_ite (fun c => s_leaf ?_) (fun c => ?_)
    · -- no backslash yet
      have he : esc s i j = false := by simpa using c
      rw [if_neg (by decide), wj]
      have hjk : j = k := by
        rcases Nat.lt_or_ge j k with g | g
        · have := esc_bk (hq.first j g c34); rw [he] at this; cases this
        · omega
      subst hjk
      rw [he]
      exact ⟨rfl, rfl, k2⟩
    · have he : esc s i j = true := by simpa using c
      refine back_any h2 hs (by omega) (fun hb => ?_) (fun hb => ?_)
      · rw [if_neg (by decide)]
        have hjk : j = k := by
          rcases Nat.lt_or_ge j k with g | g
          · have := hq.first j g c34; rw [hb] at this; cases this
          · omega
        subst hjk
        rw [he]
        exact ⟨rfl, rfl, k2⟩
      · rw [if_pos rfl]
        have hjk : j < k := by
          rcases Nat.lt_or_ge j k with g | g
          · exact g
          · have : j = k := by omega
            subst this
            rw [hq.even] at hb; cases hb
        exact nx hjk _ (en (by omega))
  · rw [if_pos rfl, wj]
    refine nx (nk c34) _ ?_
    show _ = (esc s i j || _)
    rw [c92]; simp
  · rw [if_pos rfl, wj]
    exact nx (nk c34) _ (en c92)
end Go.Proofs.YtlfebfkphgelfaaDoor.Ka
namespace Go.Proofs.YtlfebfkphgelfaaDoor.Ka
open Go Go.Proofs Go.RowKit Go.Proofs.YtlfebfkphgelfaaDoor.Rx Go.Proofs.YtlfebfkphgelfaaDoor.Tr Go.Proofs.YtlfebfkphgelfaaDoor.Pl Go.Proofs.YtlfebfkphgelfaaDoor.Pw Go.Proofs.YtlfebfkphgelfaaDoor.Sk Go.Proofs.YtlfebfkphgelfaaDoor.Sw

variable {w w' : World} {x : Sl} {s : ByteArray} {i e : Nat} {op cl : Int}
theorem Bk.lt {a lv r : Nat} (h : Bk s op cl a lv r) : a < r := by
  induction h with
  | skip _ _ _ _ _ ih => omega
  | str _ _ _ ih => omega
  | op _ _ ih => omega
  | cl _ _ ih => omega
  | fin _ => omega
theorem Bk.inv_skip {a lv r : Nat} (h : Bk s op cl a lv r) (h1 : bt s (a : Int) ≠ 34) (h2 : bt s (a : Int) ≠ op) (h3 : bt s (a : Int) ≠ cl) : Bk s op cl (a + 1) lv r := by
  cases h with
  | skip _ _ _ _ h => exact h
  | str g _ _ => exact absurd g h1
  | op g _ => exact absurd g h2
  | cl g _ => exact absurd g h3
  | fin g => exact absurd g h3
theorem Bk.inv_str {a lv r : Nat} (hk : Kd op cl) (h : Bk s op cl a lv r) (h1 : bt s (a : Int) = 34) : ∃ k, QE s (a + 1) k ∧ Bk s op cl (a + 1 + k + 1) lv r := by
  unfold Kd at hk
  cases h with
  | skip _ g _ _ h => exact absurd h1 g
  | str _ g h => exact ⟨_, g, h⟩
  | op g _ => omega
  | cl g _ => omega
  | fin g => omega
theorem Bk.inv_op {a lv r : Nat} (hk : Kd op cl) (h : Bk s op cl a lv r) (h1 : bt s (a : Int) = op) : Bk s op cl (a + 1) (lv + 1) r := by
  unfold Kd at hk
  cases h with
  | skip _ _ g _ h => exact absurd h1 g
  | str g _ _ => omega
  | op _ h => exact h
  | cl g _ => omega
  | fin g => omega
theorem Bk.inv_cl {a lv r : Nat} (hk : Kd op cl) (h : Bk s op cl a lv r) (h1 : bt s (a : Int) = cl) : (lv = 1 ∧ r = a + 1) ∨ ∃ l, lv = l + 2 ∧ Bk s op cl (a + 1) (l + 1) r := by
  unfold Kd at hk
  cases h with
  | skip _ _ _ g h => exact absurd h1 g
  | str g _ _ => omega
  | op g _ => omega
  | cl _ h => exact .inr ⟨_, rfl, h⟩
  | fin _ => exact .inl ⟨rfl, rfl⟩
abbrev tCf : TypeId := 73
abbrev cfC (m : Int) : List Value := [.bool false, .bool false, .int .i64 m]
theorem cfg_run {g : Nat} {m : Int} (hb : Blk w g (cfC m) tCf) : (Instr.loadAt tCf (.pointer (some ⟨g, 0, none⟩))).run Tryd.prog w = .ok (cfg m) w := by
  have hi := info_some (P := Tryd.prog) (t := tCf) (by kernel_rfl)
  have hs : ((Tryd.prog.info? tCf).get (by kernel_rfl)).size = 3 := by kernel_rfl
  have ha : aggT Tryd.prog tCf = some true := by kernel_rfl
  have hl := loadCells_run (P := Tryd.prog) 3 0 w g (cfC m) #[] tCf (Nat.le_refl 3) hb
  simp only [Instr.loadAt, Instr.sureAddr, loadVar, Sem.run_bind, Sem.run_pure, Result.andThen_ok, run_agg ha, if_true, run_size hi, loadCells, hs]
  rw [hl]
  rfl
theorem wdn (a : Nat) (h : a ≤ 10000000000) (h0 : 0 < a) : IntKind.wrap IntKind.i64 ((a : Int) - 1) = ((a - 1 : Nat) : Int) := by rw [wrap_in (by omega) (by omega)]; omega
/-- A block's end. -/
theorem block_any {m : Int} {r : Nat} (hk : Kd op cl) (h : Tx w x s i e) (hs : s.size ≤ 9000000000) (hB : Bk s op cl i 0 r) (hr : r ≤ e) :
    Calls Tryd.prog 54 #[cfg m, slV x, .int .u8 op, .int .u8 cl] w fun en w' => en = .returned (.int .i64 ((r - i : Nat) : Int)) ∧ Kp Off w w' := by
  have hes := h.es
  have hl := h.len
  refine jsonparser_blockEndConfig.calls _ _ _ _ _ _ _ _ ?_
  unfold jsonparser_blockEndConfig.t
  refine s_alloc ?_
  have b0 := Blk.new w (cfC m) tCf
  have k0 : Kp Off w (w.alloc (.cells (cfC m).toArray tCf (0, 0))) := (Kp.refl Off w).alloc _
  show sat _ _ _ (w.alloc (.cells (cfC m).toArray tCf (0, 0)))
  generalize w.alloc (.cells (cfC m).toArray tCf (0, 0)) = w1 at k0 b0
  generalize hz0 : (⟨w.heap.size, 0, none⟩ : Addr) = z0
  refine s_loop (fun n z w' => ∃ j lv : Nat, n = e - j ∧ z = ((j : Int), (lv : Int), ()) ∧ Bk s op cl (i + j) lv r ∧ lv ≤ j ∧ Kp Off w w' ∧ Blk w' w.heap.size (cfC m) tCf) e ((0 : Int), (0 : Int), ()) rfl ⟨0, 0, rfl, rfl, hB, Nat.le_refl 0, k0, b0⟩ ?_
  rintro n z w2 ⟨j, lv, rfl, rfl, hb, hlv, k2, b2⟩
  have hlt := Bk.lt hb
  have h2 := h.kp k2
  show sat _ (jsonparser_blockEndConfig.t1 x.1 x.2.1 x.2.2 op cl z0 (j : Int) (lv : Int)) _ _
  unfold jsonparser_blockEndConfig.t1
  refine s_iteD (fun _ => ?_) (fun c => absurd c (by omega))
  refine s_cut (fun z w' => ∃ j' : Nat, z = ((j' : Int), ()) ∧ j ≤ j' ∧ Bk s op cl (i + j') lv r ∧ w' = w2) ?_ ?_
  · refine s_loop (fun n z w' => ∃ j' : Nat, n = e - j' ∧ z = ((j' : Int), ()) ∧ j ≤ j' ∧ Bk s op cl (i + j') lv r ∧ w' = w2) (e - j) ((j : Int), ()) rfl ⟨j, rfl, rfl, Nat.le_refl j, hb, rfl⟩ ?_
    rintro n z w3 ⟨j', rfl, rfl, hj, hb', hw⟩
    have hw := hw.symm
    subst hw
    have hlt' := Bk.lt hb'
    show sat _ (jsonparser_blockEndConfig.t2 x.1 x.2.1 op cl (j' : Int)) _ _
    unfold jsonparser_blockEndConfig.t2
    have hK := hk
    unfold Kd at hK
    have nx : Bk s op cl (i + j' + 1) lv r → ∃ n' x', [Value.int .i64 (IntKind.wrap .i64 ((j' : Int) + 1))] = (Sh.cons (.int .i64) .nil).vals x' ∧ n' < e - j' ∧ ∃ j'' : Nat, n' = e - j'' ∧ x' = ((j'' : Int), ()) ∧ j ≤ j'' ∧ Bk s op cl (i + j'') lv r ∧ w2 = w2 := by
      intro hh
      rw [wup j' (by omega)]
      exact ⟨e - (j' + 1), (((j' + 1 : Nat) : Int), ()), rfl, by omega, j' + 1, rfl, rfl, by omega, hh, rfl⟩
    have out : ∃ x', [Value.int .i64 (j' : Int)] = (Sh.cons (.int .i64) .nil).vals x' ∧ ∃ j'' : Nat, x' = ((j'' : Int), ()) ∧ j ≤ j'' ∧ Bk s op cl (i + j'') lv r ∧ w2 = w2 := ⟨((j' : Int), ()), rfl, j', rfl, hj, hb', rfl⟩
    refine s_iteD (fun _ => s_at h2 (by omega) (s_iteD (fun c => s_leaf ?_) fun c1 => s_iteD (fun c2 => s_iteN (fun c3 => s_iteN (fun c4 => s_leaf ?_) fun _ => s_leaf ?_) fun _ => s_leaf ?_) fun _ => s_leaf ?_)) (fun c => absurd c (by omega))
    · rw [if_pos rfl]; exact nx (Bk.inv_skip hb' (by omega) (by omega) (by omega))
    · rw [if_pos rfl]; exact nx (Bk.inv_skip hb' (by omega) c3 c4)
    · rw [if_neg (by decide), if_pos rfl]; exact out
    · rw [if_neg (by decide), if_pos rfl]; exact out
    · rw [if_neg (by decide), if_pos rfl]; exact out
  rintro z w3 ⟨j', rfl, hj, hb', hw⟩
  have hw := hw.symm
  subst hw
  have hlt' := Bk.lt hb'
  show sat _ (jsonparser_blockEndConfig.t3 x.1 x.2.1 x.2.2 op cl z0 (lv : Int) (j' : Int)) _ _
  unfold jsonparser_blockEndConfig.t3
  refine s_iteD (fun c => absurd c (by omega)) (fun _ => s_at h2 (by omega) ?_)
  refine s_cut (fun z w' => (z.1 = true ↔ (bt s ((i + j' : Nat) : Int) = 34 ∨ bt s ((i + j' : Nat) : Int) = 39)) ∧ z.2 = ((lv : Int), (j' : Int), ()) ∧ w' = w2) ?_ ?_
  · refine s_iteE (fun c => s_leaf ?_) (fun c => s_leaf ?_)
    · rw [if_pos rfl]
      exact ⟨((bt s ((i + j' : Nat) : Int) == (34 : Int)), (lv : Int), (j' : Int), ()), rfl, ⟨fun _ => .inl c, fun _ => beq_iff_eq.2 c⟩, rfl, rfl⟩
    · rw [if_pos rfl]
      refine ⟨((bt s ((i + j' : Nat) : Int) == (39 : Int)), (lv : Int), (j' : Int), ()), rfl, ⟨fun g => .inr (beq_iff_eq.1 g), fun g => beq_iff_eq.2 (g.resolve_left c)⟩, rfl, rfl⟩
  rintro ⟨b9, zr⟩ w3 ⟨hb9, hzr, hw⟩
  have hzr : zr = ((lv : Int), (j' : Int), ()) := hzr
  have hb9 : b9 = true ↔ (bt s ((i + j' : Nat) : Int) = 34 ∨ bt s ((i + j' : Nat) : Int) = 39) := hb9
  have hw := hw.symm
  subst hw
  subst hzr
  show sat _ (jsonparser_blockEndConfig.t4 x.1 x.2.1 x.2.2 op cl z0 (bt s ((i + j' : Nat) : Int)) b9 (lv : Int) (j' : Int)) _ _
  unfold jsonparser_blockEndConfig.t4
  have fin : ∀ (j2 lv2 : Nat) (w5 : World), Bk s op cl (i + j2) lv2 r → j' < j2 → lv2 ≤ j2 → Kp Off w w5 → Blk w5 w.heap.size (cfC m) tCf →
      ∃ n' x', [Value.int .i64 (j2 : Int), .int .i64 (lv2 : Int)] = (Sh.cons (.int .i64) (.cons (.int .i64) .nil)).vals x' ∧ n' < e - j ∧ ∃ j3 lv3 : Nat, n' = e - j3 ∧ x' = ((j3 : Int), (lv3 : Int), ()) ∧ Bk s op cl (i + j3) lv3 r ∧ lv3 ≤ j3 ∧ Kp Off w w5 ∧ Blk w5 w.heap.size (cfC m) tCf := by
    intro j2 lv2 w5 g1 g2 g3 g4 g5
    have := Bk.lt g1
    exact ⟨e - j2, ((j2 : Int), (lv2 : Int), ()), rfl, by omega, j2, lv2, rfl, rfl, g1, g3, g4, g5⟩
  refine s_cut (fun z w' => ∃ (b : Bool) (lv2 j2 : Nat), z = (b, (lv2 : Int), (j2 : Int), ()) ∧ Bk s op cl (i + (j2 + 1)) lv2 r ∧ j' ≤ j2 ∧ lv2 ≤ j2 + 1 ∧ Kp Off w w' ∧ Blk w' w.heap.size (cfC m) tCf) ?_ ?_
  · refine s_ite (fun hbt => ?_) (fun hbf => ?_)
    · refine s_at h2 (by omega) ?_
      refine s_cut (fun z w' => (z.1 = true ↔ bt s ((i + j' : Nat) : Int) = 39) ∧ w' = w2) ?_ ?_
      · refine s_iteE (fun c => ?_) (fun c => s_leaf ?_)
        · subst hz0
          refine s_load false (b2.cell 0) (s_leaf ?_)
          rw [if_pos rfl]; exact ⟨(true, ()), rfl, ⟨fun _ => c, fun _ => rfl⟩, rfl⟩
        · rw [if_pos rfl]; exact ⟨(false, ()), rfl, ⟨fun g => absurd (show (false : Bool) = true from g) (by decide), fun g => absurd g c⟩, rfl⟩
      rintro ⟨b15, zu⟩ w3 ⟨hb15, hw⟩
      have hb15 : b15 = true ↔ bt s ((i + j' : Nat) : Int) = 39 := hb15
      have hw := hw.symm
      subst hw
      show sat _ (jsonparser_blockEndConfig.t5 x.1 x.2.1 x.2.2 z0 b9 (lv : Int) (j' : Int) (bt s ((i + j' : Nat) : Int)) b15) _ _
      unfold jsonparser_blockEndConfig.t5
      have hK := hk
      unfold Kd at hK
      have wj := wup j' (by omega)
      refine s_ite (fun c => s_leaf ?_) (fun c => s_drew ?_)
      · rw [if_neg (by decide), if_pos rfl, wj]
        have c39 : bt s ((i + j' : Nat) : Int) = 39 := hb15.1 c
        have n1 : bt s ((i + j' : Nat) : Int) ≠ 34 := by rw [c39]; decide
        have n2 : bt s ((i + j' : Nat) : Int) ≠ op := by rw [c39]; omega
        have n3 : bt s ((i + j' : Nat) : Int) ≠ cl := by rw [c39]; omega
        exact fin (j' + 1) lv w2 (Bk.inv_skip hb' n1 n2 n3) (Nat.lt_succ_self j') (by omega) k2 b2
      · have c34 : bt s ((i + j' : Nat) : Int) = 34 := by
          rcases hb9.1 hbt with g | g
          · exact g
          · rw [hb15.2 g] at c; cases c
        obtain ⟨k, hq, hb3⟩ := Bk.inv_str hk hb' c34
        have hlt3 := Bk.lt hb3
        have k3 := k2.trans (Kp.refl Off w2).drew
        have b3 := (Kp.refl Off w2).drew.blk b2 id
        have h3 := h2.kp (Kp.refl Off w2).drew
        generalize w2.drew = w3 at k3 b3 h3
        subst hz0
        refine ⟨(false, false, m, ()), fun w'' hw'' => cfg_run ((Kp.of_below (S := Off) hw'').blk b3 id), ?_⟩
        rw [wj]
        have hcap := h.cap
        refine s_chk ⟨by omega, by omega, by omega⟩ ?_
        rw [Int.toNat_natCast, Int.toNat_natCast]
        have h4 := h3.from (j' + 1) (by omega)
        have hq' : QE s (i + (j' + 1)) k := hq
        have hc := strEnd_any (m := m) h4 (by omega) hq' (by omega)
        rw [c34]
        refine s_call hc ?_
        rintro en w4 ⟨rfl, k4⟩
        refine ⟨(((k + 1 : Nat) : Int), esc s (i + (j' + 1)) k, ()), rfl, ?_⟩
        refine s_iteE (fun g => absurd g (by show ¬ ((k + 1 : Nat) : Int) = -1; omega)) (fun _ => s_leaf ?_)
        rw [if_pos rfl]
        refine ⟨(b9, (lv : Int), ((j' + (k + 1) : Nat) : Int), ()), ?_, b9, lv, j' + (k + 1), rfl, ?_, by omega, by omega, k3.trans k4, k4.blk b3 id⟩
        · rw [wad j' (k + 1) (by omega)]; rfl
        · rw [show i + (j' + (k + 1) + 1) = i + j' + 1 + k + 1 by omega]; exact hb3
    · have hbf : b9 = false := hbf
      have hn : ¬ (bt s ((i + j' : Nat) : Int) = 34 ∨ bt s ((i + j' : Nat) : Int) = 39)   := fun g => absurd (show (true : Bool) = false from (hb9.2 g).symm.trans hbf) (by decide)
      refine s_iteE (fun c => s_leaf ?_) (fun c1 => s_iteE (fun c => ?_) (fun c2 => s_leaf ?_))
      · rw [if_pos rfl, wup lv (by omega)]
        exact ⟨(b9, ((lv + 1 : Nat) : Int), (j' : Int), ()), rfl, b9, lv + 1, j', rfl, Bk.inv_op hk hb' c, Nat.le_refl j', by omega, k2, b2⟩
      · rcases Bk.inv_cl hk hb' c with ⟨rfl, hr'⟩ | ⟨l, rfl, hb3⟩
        · refine s_iteE (fun _ => s_leaf ?_) (fun g => absurd rfl g)
          rw [if_neg (by decide), if_neg (by decide), wup j' (by omega)]
          refine ⟨rfl, ?_, k2⟩
          have : r - i = j' + 1 := by omega
          rw [this]; rfl
        · rw [wdn (l + 2) (by omega) (by omega)]
          refine s_iteE (fun g => absurd g (by show ¬ ((l + 2 - 1 : Nat) : Int) = 0; omega)) (fun _ => s_leaf ?_)
          rw [if_pos rfl]
          exact ⟨(b9, ((l + 2 - 1 : Nat) : Int), (j' : Int), ()), rfl, b9, l + 2 - 1, j', rfl, hb3, Nat.le_refl j', by omega, k2, b2⟩
      · rw [if_pos rfl]
        exact ⟨(b9, (lv : Int), (j' : Int), ()), rfl, b9, lv, j', rfl, Bk.inv_skip hb' (fun g => hn (.inl g)) c1 c2, Nat.le_refl j', by omega, k2, b2⟩
  · rintro z w5 ⟨b, lv2, j2, rfl, g1, g2, g3, g4, g5⟩
    show sat _ (jsonparser_blockEndConfig.t6 (lv2 : Int) (j2 : Int)) _ _
    unfold jsonparser_blockEndConfig.t6
    refine s_leaf ?_
    have := Bk.lt g1
    rw [if_pos rfl, wup j2 (by omega)]
    exact fin (j2 + 1) lv2 w5 g1 (by omega) g3 g4 g5
end Go.Proofs.YtlfebfkphgelfaaDoor.Ka
namespace Go.Proofs.YtlfebfkphgelfaaDoor.Ka
open Go Go.Proofs Go.RowKit Go.Proofs.YtlfebfkphgelfaaDoor.Rx Go.Proofs.YtlfebfkphgelfaaDoor.Tr Go.Proofs.YtlfebfkphgelfaaDoor.Pl Go.Proofs.YtlfebfkphgelfaaDoor.Pw Go.Proofs.YtlfebfkphgelfaaDoor.Sk Go.Proofs.YtlfebfkphgelfaaDoor.Sw

variable {w w' : World} {x : Sl} {s : ByteArray} {i e : Nat}
abbrev tB : TypeId := 5
abbrev tBs : TypeId := 36
theorem Tx.toStr (h : Tx w x s i e) : (convert tBs 9 (slV x)).run Tryd.prog w = .ok (.string (s.extract i e)) w := by
  obtain ⟨b, o, h1, h2, h3⟩ := h.cell
  have hes := h.es
  have hie := h.ie
  have hz : (s.extract i e).data.toList.length = e - i := by
    have : (s.extract i e).size = e - i := by rw [ByteArray.size_extract]; omega
    rw [Array.length_toList]; exact this
  have hr := run_convert_bytes_back (P := Tryd.prog) w tBs 9 tB ⟨b, o, none⟩ x.2.2 (s.extract i e).data.toList Tryd.underlying36 Tryd.underlying5 Tryd.underlying9 (fun j hj => by
    rw [hz] at hj
    rw [addr_add, h3 j (by omega)]
    have hb := bt_extract (s := s) (a := i) (b := e) (j := j) hes (by omega)
    rw [← hb]
    have : bt (s.extract i e) (j : Int) = (((s.extract i e).data.toList[j]'(by rw [hz]; exact hj)).toNat : Int) := by
      unfold bt
      rw [Int.toNat_natCast, List.getD_eq_getElem?_getD, List.getElem?_eq_getElem (by rw [hz]; exact hj)]; rfl
    rw [this])
  rw [hz] at hr
  show (convert tBs 9 (.slice x.1 x.2.1 x.2.2)).run Tryd.prog w = _
  rw [h1, h.len]
  refine hr.trans ?_
  rw [Array.toArray_toList]
theorem ba_ext {a b : ByteArray} (hz : a.size = b.size) (h : ∀ j, j < a.size → bt a (j : Int) = bt b (j : Int)) : a = b := by
  have : a.data.toList = b.data.toList := by
    apply List.ext_getElem
    · rw [Array.length_toList, Array.length_toList]; exact hz
    · intro j h1 h2
      have hj : j < a.size := by rw [Array.length_toList] at h1; exact h1
      have := h j hj
      unfold bt at this
      rw [Int.toNat_natCast, List.getD_eq_getElem?_getD, List.getD_eq_getElem?_getD, List.getElem?_eq_getElem h1, List.getElem?_eq_getElem h2] at this
      exact UInt8.toNat_inj.1 (Int.ofNat_inj.1 this)
  cases a; cases b
  congr 1
  exact Array.toList_inj.1 this
theorem word_ext {wd : ByteArray} (h : wordB s i wd = true) : s.extract i (i + wd.size) = wd := by
  have hl := wordB_lt h
  have hz : (s.extract i (i + wd.size)).size = wd.size := by rw [ByteArray.size_extract]; omega
  refine ba_ext hz fun j hj => ?_
  rw [hz] at hj
  rw [bt_extract hl (by omega), wordB_at h j hj]
/-- jsonparser's number of a kind. -/
def jk (k : Nat) : Int := if k = 0 then 6 else if k = 1 then 5 else if k = 2 then 5 else if k = 3 then 2 else if k = 4 then 1 else if k = 5 then 4 else 3
theorem isL_nE {c : Int} (h : isL c = true) : ¬ isE c := by
  have := isL_iff.1 h
  unfold isE; omega
theorem s_atI {Q : Nat → List Value → World → Prop} {K : (Sh.int .u8).Ty → T} {c : Int} {j : Nat} (h : Tx w x s i e) (hc : c = (j : Int)) (hj : i + j < e) (hK : sat Tryd.prog (K (bt s ((i + j : Nat) : Int))) Q w) :
    sat Tryd.prog (.chk (((0 : Int) ≤ c) ∧ (c < ((x.2.1 : Nat) : Int))) <| .ptr x.1 fun z => .load (Addr.add z ((Int.toNat c) * 1)) (.int .u8) K) Q w := by
  subst hc; exact s_at h hj hK
/-- What getType gives. -/
def GT (w : World) (s : ByteArray) (i : Nat) (p : PT) (en : Ending) (w' : World) : Prop :=
  ∃ y : Sl, en = .returned (.tuple #[slV y, .int .i64 (jk p.k), .int .i64 ((p.e - i : Nat) : Int), .nilIface]) ∧ Tx w' y s p.b p.e ∧ Kp Off w w'
theorem Tx.cut (h : Tx w x s i e) (o n : Nat) (hn : i + o + n ≤ e) : Tx w ((if x.2.2 = o then x.1 else x.1.map fun y => y.add (o * 1)), o + n - o, x.2.2 - o) s (i + o) (i + o + n) := by
  have := h.sub (k := i + o) (f := i + o + n) (by omega) (by omega) hn
  rw [Nat.add_sub_cancel_left] at this
  have e1 : o + n - o = i + o + n - (i + o) := by omega
  rw [e1]
  exact this
theorem type_str {m : Int} {o : Nat} {ns : List (Nat × Nat)} {ks : List PT} {f : Nat} (h : Tx w x s i e) (hs : s.size ≤ 9000000000) (hw : WfV s (.mk 4 (i + o) f ns ks)) (hf : f ≤ e) :
    Calls Tryd.prog 65 #[cfg m, slV x, .int .i64 (o : Int)] w (GT w s i (.mk 4 (i + o) f ns ks)) := by
  have hes := h.es
  have hl := h.len
  have hcap := h.cap
  have hlt := hw.lt
  have hlt1 : i + o < f := hlt.1
  obtain ⟨h34, hE⟩ : bt s ((i + o : Nat) : Int) = 34 ∧ strE s (i + o + 1) = some f := by
    unfold WfV at hw
    obtain ⟨_, _, ⟨_, _, _, h⟩ | ⟨_, _, _, h1, h2⟩ | ⟨h, _⟩ | ⟨h, _⟩⟩ := hw
    · rcases h with ⟨h, _⟩ | ⟨h, _⟩ | ⟨h, _⟩ | ⟨h, _⟩ <;> cases h
    · exact ⟨h1, h2⟩
    · cases h
    · cases h
  obtain ⟨k, rfl, hq⟩ := strE_QE hE
  refine jsonparser_getTypeConfig.calls _ _ _ _ _ _ _ ?_
  unfold jsonparser_getTypeConfig.t
  refine s_alloc ?_
  have b0 := Blk.new w (cfC m) tCf
  have k0 : Kp Off w (w.alloc (.cells (cfC m).toArray tCf (0, 0))) := (Kp.refl Off w).alloc _
  show sat _ _ _ (w.alloc (.cells (cfC m).toArray tCf (0, 0)))
  generalize w.alloc (.cells (cfC m).toArray tCf (0, 0)) = w1 at k0 b0
  have h1 := h.kp k0
  refine s_cut (fun z w' => z = (true, ()) ∧ w' = w1) (s_at h1 (by omega) (s_iteE (fun _ => s_leaf ?_) (fun c => absurd h34 c))) ?_
  · rw [if_pos rfl]; exact ⟨(true, ()), rfl, rfl, rfl⟩
  rintro z w2 ⟨rfl, hw2⟩
  have hw2 := hw2.symm
  subst hw2
  show sat _ (jsonparser_getTypeConfig.t1 x.1 x.2.1 x.2.2 (o : Int) ⟨w.heap.size, 0, none⟩ true) _ _
  unfold jsonparser_getTypeConfig.t1
  refine sat_iteT.2 (s_drew ?_)
  have k2 := k0.trans (Kp.refl Off w1).drew
  have b2 := (Kp.refl Off w1).drew.blk b0 id
  have h2 := h1.kp (Kp.refl Off w1).drew
  generalize w1.drew = w2 at k2 b2 h2
  refine ⟨(false, false, m, ()), fun w'' hw'' => cfg_run ((Kp.of_below (S := Off) hw'').blk b2 id), ?_⟩
  rw [wup o (by omega)]
  refine s_chk ⟨by omega, by omega, by omega⟩ (s_at h2 (by omega) ?_)
  rw [h34]
  rw [Int.toNat_natCast, Int.toNat_natCast]
  have hq' : QE s (i + (o + 1)) k := hq
  have hc := strEnd_any (m := m) (h2.from (o + 1) (by omega)) (by omega) hq' (by omega)
  refine s_call hc ?_
  rintro en w4 ⟨rfl, k4⟩
  refine ⟨(((k + 1 : Nat) : Int), esc s (i + (o + 1)) k, ()), rfl, ?_⟩
  refine s_iteN (fun _ => ?_) (fun g => absurd g (by show ¬ ((k + 1 : Nat) : Int) = -1; omega))
  have e1 : IntKind.wrap IntKind.i64 ((o : Int) + IntKind.wrap IntKind.i64 (((k + 1 : Nat) : Int) + 1)) = ((o + (k + 2) : Nat) : Int) := by
    rw [wup (k + 1) (by omega), wad o (k + 1 + 1) (by omega)]
  suffices key : ∀ c : Int, c = ((o + (k + 2) : Nat) : Int) → sat Tryd.prog (
      .chk (((0 : Int) ≤ (o : Int)) ∧ (((o : Int) ≤ c) ∧ (c ≤ ((x.2.2 : Nat) : Int)))) <|
      .leaf 0 [(Value.slice (if (x.2.2 = (Int.toNat (o : Int))) then x.1 else (Option.map (fun (y12 : Addr) => (Addr.add y12 ((Int.toNat (o : Int)) * 1))) x.1)) ((Int.toNat c) - (Int.toNat (o : Int))) (x.2.2 - (Int.toNat (o : Int)))), (Value.int IntKind.i64 (1 : Int)), (Value.int IntKind.i64 c), Value.nilIface]) (fun l vs w' => l = 0 ∧ GT w s i (.mk 4 (i + o) (i + o + 1 + k + 1) ns ks) (.returned (retVal vs)) w') w4 from key _ e1
  rintro c rfl
  refine s_chk ⟨by omega, by omega, by omega⟩ (s_leaf ⟨rfl, ?_⟩)
  rw [Int.toNat_natCast, Int.toNat_natCast]
  have hT := (h2.kp k4).cut o (k + 2) (by omega)
  rw [show i + o + (k + 2) = i + o + 1 + k + 1 by omega] at hT
  refine ⟨_, ?_, hT, k2.trans k4⟩
  have : i + o + 1 + k + 1 - i = o + (k + 2) := by omega
  show Ending.returned (retVal _) = .returned (.tuple #[_, _, .int .i64 ((i + o + 1 + k + 1 - i : Nat) : Int), _])
  rw [this]; rfl
/-- A number's kind. -/
theorem num_kind {Q : Nat → List Value → World → Prop} {q1 : Option Addr} {cap : Nat} {q2 i29 c i41 : Int} {b32 : Bool} (hc : numOk c = true) (hQ : Q 2 [.bool b32, .int .i64 2] w) :
    sat Tryd.prog (jsonparser_getTypeConfig.t4 q1 cap q2 i29 c b32 false i41) Q w := by
  have hc : c = 45 ∨ (48 ≤ c ∧ c ≤ 57) := by simpa [numOk, isDig_iff] using hc
  unfold jsonparser_getTypeConfig.t4
  refine s_cut (fun z w' => z.2.1 = (2 : Int) ∧ w = w') (sat_iteF.2 ?_) ?_
  · refine s_cut (fun z w' => z.1 = true ∧ w = w') (s_iteE (fun g => s_leaf (by rw [if_pos rfl]; exact ⟨((c == (48 : Int)), i41, ()), rfl, beq_iff_eq.2 g, rfl⟩)) (fun g48 => ?_)) ?_
    · refine s_cut (fun z w' => z.1 = true ∧ w = w') (s_iteE (fun g => s_leaf (by rw [if_pos rfl]; exact ⟨((c == (49 : Int)), i41, ()), rfl, beq_iff_eq.2 g, rfl⟩)) (fun g49 => ?_)) ?_
      · refine s_cut (fun z w' => z.1 = true ∧ w = w') (s_iteE (fun g => s_leaf (by rw [if_pos rfl]; exact ⟨((c == (50 : Int)), i41, ()), rfl, beq_iff_eq.2 g, rfl⟩)) (fun g50 => ?_)) ?_
        · refine s_cut (fun z w' => z.1 = true ∧ w = w') (s_iteE (fun g => s_leaf (by rw [if_pos rfl]; exact ⟨((c == (51 : Int)), i41, ()), rfl, beq_iff_eq.2 g, rfl⟩)) (fun g51 => ?_)) ?_
          · refine s_cut (fun z w' => z.1 = true ∧ w = w') (s_iteE (fun g => s_leaf (by rw [if_pos rfl]; exact ⟨((c == (52 : Int)), i41, ()), rfl, beq_iff_eq.2 g, rfl⟩)) (fun g52 => ?_)) ?_
            · refine s_cut (fun z w' => z.1 = true ∧ w = w') (s_iteE (fun g => s_leaf (by rw [if_pos rfl]; exact ⟨((c == (53 : Int)), i41, ()), rfl, beq_iff_eq.2 g, rfl⟩)) (fun g53 => ?_)) ?_
              · refine s_cut (fun z w' => z.1 = true ∧ w = w') (s_iteE (fun g => s_leaf (by rw [if_pos rfl]; exact ⟨((c == (54 : Int)), i41, ()), rfl, beq_iff_eq.2 g, rfl⟩)) (fun g54 => ?_)) ?_
                · refine s_cut (fun z w' => z.1 = true ∧ w = w') (s_iteE (fun g => s_leaf (by rw [if_pos rfl]; exact ⟨((c == (55 : Int)), i41, ()), rfl, beq_iff_eq.2 g, rfl⟩)) (fun g55 => ?_)) ?_
                  · refine s_cut (fun z w' => z.1 = true ∧ w = w') (s_iteE (fun g => s_leaf (by rw [if_pos rfl]; exact ⟨((c == (56 : Int)), i41, ()), rfl, beq_iff_eq.2 g, rfl⟩)) (fun g56 => ?_)) ?_
                    · refine s_cut (fun z w' => z.1 = true ∧ w = w') (s_iteE (fun g => s_leaf (by rw [if_pos rfl]; exact ⟨((c == (57 : Int)), i41, ()), rfl, beq_iff_eq.2 g, rfl⟩)) (fun g57 => ?_)) ?_
                      · refine s_leaf ?_
                        rw [if_pos rfl]; exact ⟨((c == (45 : Int)), i41, ()), rfl, beq_iff_eq.2 (by omega), rfl⟩
                      · rintro ⟨z1, z2, zu⟩ w' ⟨h1, rfl⟩
                        unfold jsonparser_getTypeConfig.t5
                        refine s_leaf ?_
                        rw [if_pos rfl]; exact ⟨(z1, z2, ()), rfl, h1, rfl⟩
                    · rintro ⟨z1, z2, zu⟩ w' ⟨h1, rfl⟩
                      unfold jsonparser_getTypeConfig.t6
                      refine s_leaf ?_
                      rw [if_pos rfl]; exact ⟨(z1, z2, ()), rfl, h1, rfl⟩
                  · rintro ⟨z1, z2, zu⟩ w' ⟨h1, rfl⟩
                    unfold jsonparser_getTypeConfig.t7
                    refine s_leaf ?_
                    rw [if_pos rfl]; exact ⟨(z1, z2, ()), rfl, h1, rfl⟩
                · rintro ⟨z1, z2, zu⟩ w' ⟨h1, rfl⟩
                  unfold jsonparser_getTypeConfig.t8
                  refine s_leaf ?_
                  rw [if_pos rfl]; exact ⟨(z1, z2, ()), rfl, h1, rfl⟩
              · rintro ⟨z1, z2, zu⟩ w' ⟨h1, rfl⟩
                unfold jsonparser_getTypeConfig.t9
                refine s_leaf ?_
                rw [if_pos rfl]; exact ⟨(z1, z2, ()), rfl, h1, rfl⟩
            · rintro ⟨z1, z2, zu⟩ w' ⟨h1, rfl⟩
              unfold jsonparser_getTypeConfig.t10
              refine s_leaf ?_
              rw [if_pos rfl]; exact ⟨(z1, z2, ()), rfl, h1, rfl⟩
          · rintro ⟨z1, z2, zu⟩ w' ⟨h1, rfl⟩
            unfold jsonparser_getTypeConfig.t11
            refine s_leaf ?_
            rw [if_pos rfl]; exact ⟨(z1, z2, ()), rfl, h1, rfl⟩
        · rintro ⟨z1, z2, zu⟩ w' ⟨h1, rfl⟩
          unfold jsonparser_getTypeConfig.t12
          refine s_leaf ?_
          rw [if_pos rfl]; exact ⟨(z1, z2, ()), rfl, h1, rfl⟩
      · rintro ⟨z1, z2, zu⟩ w' ⟨h1, rfl⟩
        unfold jsonparser_getTypeConfig.t13
        refine s_leaf ?_
        rw [if_pos rfl]; exact ⟨(z1, z2, ()), rfl, h1, rfl⟩
    · rintro ⟨z1, z2, zu⟩ w' ⟨h1, rfl⟩
      have h1 : z1 = true := h1
      subst h1
      unfold jsonparser_getTypeConfig.t14
      refine s_cut (fun z w' => z.2.1 = (2 : Int) ∧ w = w') (sat_iteT.2 (s_leaf ?_)) ?_
      · rw [if_pos rfl]; exact ⟨(true, (2 : Int), ()), rfl, rfl, rfl⟩
      · rintro ⟨z1, z2, zu⟩ w' ⟨h1, rfl⟩
        unfold jsonparser_getTypeConfig.t15
        refine s_leaf ?_
        rw [if_pos rfl]; exact ⟨(false, z2, ()), rfl, h1, rfl⟩
  · rintro ⟨z1, z2, zu⟩ w' ⟨h1, rfl⟩
    have h1 : z2 = (2 : Int) := h1
    subst h1
    unfold jsonparser_getTypeConfig.t16
    exact s_leaf hQ
theorem type_blk {m : Int} {o k : Nat} {ns : List (Nat × Nat)} {ks : List PT} {f : Nat} (hk : k = 5 ∨ k = 6) (h : Tx w x s i e) (hs : s.size ≤ 9000000000) (hw : WfV s (.mk k (i + o) f ns ks)) (hf : f ≤ e) :
    Calls Tryd.prog 65 #[cfg m, slV x, .int .i64 (o : Int)] w (GT w s i (.mk k (i + o) f ns ks)) := by
  have hlt := hw.lt
  have hlt1 : i + o < f := hlt.1
  have hb : (k = 5 ∧ bt s ((i + o : Nat) : Int) = 91 ∧ Bk s 91 93 (i + o) 0 f) ∨ (k = 6 ∧ bt s ((i + o : Nat) : Int) = 123 ∧ Bk s 123 125 (i + o) 0 f) := by
    rcases hk with rfl | rfl
    · exact .inl ⟨rfl, (Gk.wf_arr hw).2.2.1, bk_arr hw⟩
    · exact .inr ⟨rfl, (Gk.wf_obj hw).2.2.1, bk_obj hw⟩
  have h34 : bt s ((i + o : Nat) : Int) ≠ 34 := by omega
  have hes := h.es
  have hl := h.len
  have hcap := h.cap
  refine jsonparser_getTypeConfig.calls _ _ _ _ _ _ _ ?_
  unfold jsonparser_getTypeConfig.t
  refine s_alloc ?_
  have b0 := Blk.new w (cfC m) tCf
  have k0 : Kp Off w (w.alloc (.cells (cfC m).toArray tCf (0, 0))) := (Kp.refl Off w).alloc _
  show sat _ _ _ (w.alloc (.cells (cfC m).toArray tCf (0, 0)))
  generalize w.alloc (.cells (cfC m).toArray tCf (0, 0)) = w1 at k0 b0
  have h1 := h.kp k0
  refine s_cut (fun z w' => z = (false, ()) ∧ w' = w1) (s_at h1 (by omega) (s_iteE (fun c => absurd c h34) (fun _ => s_load false (b0.cell 0) (sat_iteF.2 (s_leaf ?_))))) ?_
  · rw [if_pos rfl]; exact ⟨(false, ()), rfl, rfl, rfl⟩
  rintro z w2 ⟨rfl, hw2⟩
  have hw2 := hw2.symm
  subst hw2
  show sat _ (jsonparser_getTypeConfig.t1 x.1 x.2.1 x.2.2 (o : Int) ⟨w.heap.size, 0, none⟩ false) _ _
  unfold jsonparser_getTypeConfig.t1
  have fin : ∀ {kd : Int} {w3 w4 : World}, jk k = kd → Kp Off w w3 → Tx w3 x s i e → Kp Off w3 w4 → sat Tryd.prog (
      .chk (((0 : Int) ≤ (o : Int)) ∧ (((o : Int) ≤ (IntKind.wrap IntKind.i64 (((f - (i + o) : Nat) : Int) + (o : Int)))) ∧ ((IntKind.wrap IntKind.i64 (((f - (i + o) : Nat) : Int) + (o : Int))) ≤ ((x.2.2 : Nat) : Int)))) <|
      .leaf 0 [(Value.slice (if (x.2.2 = (Int.toNat (o : Int))) then x.1 else (Option.map (fun (y12 : Addr) => (Addr.add y12 ((Int.toNat (o : Int)) * 1))) x.1)) ((Int.toNat (IntKind.wrap IntKind.i64 (((f - (i + o) : Nat) : Int) + (o : Int)))) - (Int.toNat (o : Int))) (x.2.2 - (Int.toNat (o : Int)))), (Value.int IntKind.i64 kd), (Value.int IntKind.i64 (IntKind.wrap IntKind.i64 (((f - (i + o) : Nat) : Int) + (o : Int)))), Value.nilIface]) (fun l vs w' => l = 0 ∧ GT w s i (.mk k (i + o) f ns ks) (.returned (retVal vs)) w') w4 := by
    intro kd w3 w4 hkd k3 h3 k4
    have e1 : IntKind.wrap IntKind.i64 (((f - (i + o) : Nat) : Int) + (o : Int)) = ((o + (f - (i + o)) : Nat) : Int) := by rw [wad _ _ (by omega), Nat.add_comm]
    rw [e1]
    refine s_chk ⟨by omega, by omega, by omega⟩ (s_leaf ⟨rfl, ?_⟩)
    rw [Int.toNat_natCast, Int.toNat_natCast]
    have hT := (h3.kp k4).cut o (f - (i + o)) (by omega)
    rw [show i + o + (f - (i + o)) = f by omega] at hT
    refine ⟨_, ?_, hT, k3.trans k4⟩
    have : f - i = o + (f - (i + o)) := by omega
    show Ending.returned (retVal _) = .returned (.tuple #[_, .int .i64 (jk k), .int .i64 ((f - i : Nat) : Int), _])
    rw [this, hkd]; rfl
  have k2 := k0.trans (Kp.refl Off w1).drew
  have b2 := (Kp.refl Off w1).drew.blk b0 id
  have h2 := h1.kp (Kp.refl Off w1).drew
  refine sat_iteF.2 (s_at h1 (by omega) ?_)
  rcases hb with ⟨rfl, hc, hB⟩ | ⟨rfl, hc, hB⟩
  · refine s_iteE (fun _ => s_drew ?_) (fun c => absurd hc c)
    generalize w1.drew = w2 at k2 b2 h2
    refine s_effS (false, false, m, ()) (cfg_run b2) (s_chk ⟨by omega, by omega, by omega⟩ ?_)
    rw [Int.toNat_natCast (n := x.2.1)]
    have hcl := block_any (m := m) (.inl ⟨rfl, rfl⟩) (h2.from o (by omega)) hs hB hf
    refine s_call (by rw [Int.toNat_natCast]; exact hcl) ?_
    rintro en w4 ⟨rfl, k4⟩
    refine ⟨((f - (i + o) : Nat) : Int), rfl, s_iteE (fun g => absurd g (by omega)) (fun _ => fin rfl k2 h2 k4)⟩
  · refine s_iteE (fun c => absurd (hc.symm.trans c) (by decide)) (fun _ => s_at h1 (by omega) (s_iteE (fun _ => s_drew ?_) (fun c => absurd hc c)))
    generalize w1.drew = w2 at k2 b2 h2
    refine s_effS (false, false, m, ()) (cfg_run b2) (s_chk ⟨by omega, by omega, by omega⟩ ?_)
    rw [Int.toNat_natCast (n := x.2.1)]
    have hcl := block_any (m := m) (.inr ⟨rfl, rfl⟩) (h2.from o (by omega)) hs hB hf
    refine s_call (by rw [Int.toNat_natCast]; exact hcl) ?_
    rintro en w4 ⟨rfl, k4⟩
    refine ⟨((f - (i + o) : Nat) : Int), rfl, s_iteE (fun g => absurd g (by omega)) (fun _ => fin rfl k2 h2 k4)⟩
end Go.Proofs.YtlfebfkphgelfaaDoor.Ka
namespace Go.Proofs.YtlfebfkphgelfaaDoor.Ka
open Go Go.Proofs Go.RowKit Go.Proofs.YtlfebfkphgelfaaDoor.Rx Go.Proofs.YtlfebfkphgelfaaDoor.Tr Go.Proofs.YtlfebfkphgelfaaDoor.Pl Go.Proofs.YtlfebfkphgelfaaDoor.Pw Go.Proofs.YtlfebfkphgelfaaDoor.Sk Go.Proofs.YtlfebfkphgelfaaDoor.Sw

variable {w w' : World} {x : Sl} {s : ByteArray} {i e : Nat}
theorem w_ft : strEq falseW (ByteArray.mk #[(116 : UInt8), (114 : UInt8), (117 : UInt8), (101 : UInt8)]) = false := by
  cases h : strEq falseW (ByteArray.mk #[(116 : UInt8), (114 : UInt8), (117 : UInt8), (101 : UInt8)]) with
  | false => rfl
  | true => exact absurd (congrArg ByteArray.size (strEq_iff.1 h)) (by decide)
/-- The kind of a literal, as the code finds it. -/
theorem lit_kind {Q : Nat → List Value → World → Prop} {o f k : Nat} (h : Tx w x s i e) (hs : s.size ≤ 9000000000) (hL : Pw.Lit s k (i + o) f) (hof : i + o < f) (hf : f ≤ e)
    (hQ : ∀ b, Q 2 [.bool b, .int .i64 (jk k)] w) :
    ∀ b32 : Bool, (b32 = true ↔ bt s ((i + o : Nat) : Int) = 116 ∨ bt s ((i + o : Nat) : Int) = 102) → sat Tryd.prog (
      .ite b32 (
      .cut 3 (.cons .bool .nil) (
        .eff (convert tBs 9 (Value.slice (if (x.2.2 = (Int.toNat (o : Int))) then x.1 else (Option.map (fun (y34 : Addr) => (Addr.add y34 ((Int.toNat (o : Int)) * 1))) x.1)) ((Int.toNat (IntKind.wrap IntKind.i64 ((o : Int) + ((f - (i + o) : Nat) : Int)))) - (Int.toNat (o : Int))) (x.2.2 - (Int.toNat (o : Int))))) .str fun (s35 : ByteArray) =>
        .ite (strEq s35 (ByteArray.mk #[(116 : UInt8), (114 : UInt8), (117 : UInt8), (101 : UInt8)])) (
          .leaf 3 [(Value.bool Bool.true)]) (
          .eff (convert tBs 9 (Value.slice (if (x.2.2 = (Int.toNat (o : Int))) then x.1 else (Option.map (fun (y36 : Addr) => (Addr.add y36 ((Int.toNat (o : Int)) * 1))) x.1)) ((Int.toNat (IntKind.wrap IntKind.i64 ((o : Int) + ((f - (i + o) : Nat) : Int)))) - (Int.toNat (o : Int))) (x.2.2 - (Int.toNat (o : Int))))) .str fun (s37 : ByteArray) =>
          .leaf 3 [(Value.bool (strEq s37 (ByteArray.mk #[(102 : UInt8), (97 : UInt8), (108 : UInt8), (115 : UInt8), (101 : UInt8)])))]))
        (fun z => jsonparser_getTypeConfig.t3 (o : Int) b32 z.1)) (
      .cut 3 (.cons .bool (.cons (.int .i64) .nil)) (
        .ite (bt s ((i + o : Nat) : Int) == (117 : Int)) (
          .leaf 3 [(Value.bool (bt s ((i + o : Nat) : Int) == (117 : Int))), (Value.int IntKind.i64 (0 : Int))]) (
          .leaf 3 [(Value.bool (bt s ((i + o : Nat) : Int) == (110 : Int))), (Value.int IntKind.i64 (0 : Int))]))
        (fun z => jsonparser_getTypeConfig.t4 x.1 x.2.2 (o : Int) ((f - (i + o) : Nat) : Int) (bt s ((i + o : Nat) : Int)) b32 z.1 z.2.1))) Q w := by
  intro b32 hb
  have hes := h.es
  have hcap := h.cap
  have hl := h.len
  have e1 : IntKind.wrap IntKind.i64 ((o : Int) + ((f - (i + o) : Nat) : Int)) = ((o + (f - (i + o)) : Nat) : Int) := by rw [wad _ _ (by omega)]
  have hT := h.cut o (f - (i + o)) (by omega)
  rw [show i + o + (f - (i + o)) = f by omega] at hT
  have hS := hT.toStr
  obtain ⟨_, hL⟩ := hL
  have two : ∀ {wd : ByteArray} {b : Bool}, s.extract (i + o) f = wd → b32 = true → (strEq wd (ByteArray.mk #[(116 : UInt8), (114 : UInt8), (117 : UInt8), (101 : UInt8)]) = true ∨ strEq wd (ByteArray.mk #[(116 : UInt8), (114 : UInt8), (117 : UInt8), (101 : UInt8)]) = false ∧ strEq wd (ByteArray.mk #[(102 : UInt8), (97 : UInt8), (108 : UInt8), (115 : UInt8), (101 : UInt8)]) = true) → jk k = 5 → b = true → sat Tryd.prog (
      .cut 3 (.cons .bool .nil) (
        .eff (convert tBs 9 (Value.slice (if (x.2.2 = (Int.toNat (o : Int))) then x.1 else (Option.map (fun (y34 : Addr) => (Addr.add y34 ((Int.toNat (o : Int)) * 1))) x.1)) ((Int.toNat (IntKind.wrap IntKind.i64 ((o : Int) + ((f - (i + o) : Nat) : Int)))) - (Int.toNat (o : Int))) (x.2.2 - (Int.toNat (o : Int))))) .str fun (s35 : ByteArray) =>
        .ite (strEq s35 (ByteArray.mk #[(116 : UInt8), (114 : UInt8), (117 : UInt8), (101 : UInt8)])) (
          .leaf 3 [(Value.bool Bool.true)]) (
          .eff (convert tBs 9 (Value.slice (if (x.2.2 = (Int.toNat (o : Int))) then x.1 else (Option.map (fun (y36 : Addr) => (Addr.add y36 ((Int.toNat (o : Int)) * 1))) x.1)) ((Int.toNat (IntKind.wrap IntKind.i64 ((o : Int) + ((f - (i + o) : Nat) : Int)))) - (Int.toNat (o : Int))) (x.2.2 - (Int.toNat (o : Int))))) .str fun (s37 : ByteArray) =>
          .leaf 3 [(Value.bool (strEq s37 (ByteArray.mk #[(102 : UInt8), (97 : UInt8), (108 : UInt8), (115 : UInt8), (101 : UInt8)])))]))
        (fun z => jsonparser_getTypeConfig.t3 (o : Int) b z.1)) Q w := by
    intro wd b hwd _ hor hjk hbt
    rw [e1, Int.toNat_natCast, Int.toNat_natCast]
    rw [hwd] at hS
    refine s_cut (fun z w' => z = (true, ()) ∧ w = w') (s_eff (w' := w) wd hS (s_ite (fun _ => s_leaf ?_) (fun c => s_eff (w' := w) wd hS (s_leaf ?_)))) ?_
    · rw [if_pos rfl]; exact ⟨(true, ()), rfl, rfl, rfl⟩
    · rw [if_pos rfl]
      rcases hor with g | ⟨_, g⟩
      · rw [g] at c; cases c
      · exact ⟨(true, ()), by rw [g]; rfl, rfl, rfl⟩
    · rintro z w' ⟨rfl, rfl⟩
      show sat _ (jsonparser_getTypeConfig.t3 (o : Int) b true) _ _
      unfold jsonparser_getTypeConfig.t3
      refine sat_iteT.2 (s_leaf ?_)
      rw [← hjk]; exact hQ b
  rcases hL with ⟨rfl, hn, _⟩ | ⟨rfl, hw, hf4⟩ | ⟨rfl, hw, hf4⟩ | ⟨rfl, hw, hf4⟩
  · -- a number
    have hc : bt s ((i + o : Nat) : Int) = 45 ∨ (48 ≤ bt s ((i + o : Nat) : Int) ∧ bt s ((i + o : Nat) : Int) ≤ 57) := by simpa [numOk, isDig_iff] using hn
    refine s_ite (fun g => absurd (hb.1 g) (by omega)) (fun _ => ?_)
    refine s_cut (fun z w' => z.1 = false ∧ w = w') (s_iteE (fun g => absurd g (by omega)) (fun _ => s_leaf ?_)) ?_
    · rw [if_pos rfl]
      exact ⟨((bt s ((i + o : Nat) : Int) == (110 : Int)), (0 : Int), ()), rfl, beq_eq_false_iff_ne.2 (by omega), rfl⟩
    · rintro ⟨z1, z2, zu⟩ w' ⟨h1, rfl⟩
      have h1 : z1 = false := h1
      subst h1
      exact num_kind hn (hQ b32)
  · -- null
    have h110 : bt s ((i + o : Nat) : Int) = 110 := wordB_at hw 0 (by decide)
    refine s_ite (fun g => absurd (hb.1 g) (by omega)) (fun _ => ?_)
    refine s_cut (fun z w' => z.1 = true ∧ w = w') (s_iteE (fun g => absurd g (by omega)) (fun _ => s_leaf ?_)) ?_
    · rw [if_pos rfl]
      exact ⟨((bt s ((i + o : Nat) : Int) == (110 : Int)), (0 : Int), ()), rfl, beq_iff_eq.2 h110, rfl⟩
    · rintro ⟨z1, z2, zu⟩ w' ⟨h1, rfl⟩
      have h1 : z1 = true := h1
      subst h1
      show sat _ (jsonparser_getTypeConfig.t4 x.1 x.2.2 (o : Int) ((f - (i + o) : Nat) : Int) (bt s ((i + o : Nat) : Int)) b32 true z2) _ _
      unfold jsonparser_getTypeConfig.t4
      have hwd : s.extract (i + o) f = nullW := by
        have := word_ext hw
        rw [hf4]; exact this
      rw [hwd] at hS
      rw [e1, Int.toNat_natCast, Int.toNat_natCast]
      refine s_cut (fun z w' => z.2.1 = (6 : Int) ∧ w = w') (sat_iteT.2 (s_eff (w' := w) nullW hS (s_ite (fun _ => s_leaf ?_) (fun c => absurd (show (false : Bool) = true from c.symm.trans (show strEq nullW _ = true from strEq_iff.2 rfl)) (by decide))))) ?_
      · rw [if_pos rfl]; exact ⟨(true, (6 : Int), ()), rfl, rfl, rfl⟩
      · rintro ⟨z1, z2, zu⟩ w' ⟨h1, rfl⟩
        have h1 : z2 = (6 : Int) := h1
        subst h1
        unfold jsonparser_getTypeConfig.t16
        exact s_leaf (hQ b32)
  · have hc : bt s ((i + o : Nat) : Int) = 102 := wordB_at hw 0 (by decide)
    have hwd : s.extract (i + o) f = falseW := by
      have := word_ext hw
      rw [hf4]; exact this
    have hbt := hb.2 (.inr hc)
    refine s_ite (fun g => two hwd g (.inr ⟨w_ft, strEq_iff.2 rfl⟩) rfl g) (fun g => absurd (show (true : Bool) = false from hbt.symm.trans g) (by decide))
  · have hc : bt s ((i + o : Nat) : Int) = 116 := wordB_at hw 0 (by decide)
    have hwd : s.extract (i + o) f = trueW := by
      have := word_ext hw
      rw [hf4]; exact this
    have hbt := hb.2 (.inl hc)
    refine s_ite (fun g => two hwd g (.inl (strEq_iff.2 rfl)) rfl g) (fun g => absurd (show (true : Bool) = false from hbt.symm.trans g) (by decide))
theorem type_lit {m : Int} {o k : Nat} {f : Nat} {ns : List (Nat × Nat)} {ks : List PT} (h : Tx w x s i e) (hs : s.size ≤ 9000000000) (hL : Pw.Lit s k (i + o) f) (hof : i + o < f) (hf : f ≤ e) (hbe : f = e ∨ isE (bt s (f : Int))) :
    Calls Tryd.prog 65 #[cfg m, slV x, .int .i64 (o : Int)] w (GT w s i (.mk k (i + o) f ns ks)) := by
  have hc : bt s ((i + o : Nat) : Int) ≠ 34 ∧ bt s ((i + o : Nat) : Int) ≠ 91 ∧ bt s ((i + o : Nat) : Int) ≠ 123 := by
    have := isL_iff.1 (hL.1 (i + o) (Nat.le_refl _) hof)
    omega
  obtain ⟨h34, h91, h123⟩ := hc
  have hes := h.es
  have hl := h.len
  have hcap := h.cap
  refine jsonparser_getTypeConfig.calls _ _ _ _ _ _ _ ?_
  unfold jsonparser_getTypeConfig.t
  refine s_alloc ?_
  have b0 := Blk.new w (cfC m) tCf
  have k0 : Kp Off w (w.alloc (.cells (cfC m).toArray tCf (0, 0))) := (Kp.refl Off w).alloc _
  show sat _ _ _ (w.alloc (.cells (cfC m).toArray tCf (0, 0)))
  generalize w.alloc (.cells (cfC m).toArray tCf (0, 0)) = w1 at k0 b0
  have h1 := h.kp k0
  refine s_cut (fun z w' => z = (false, ()) ∧ w' = w1) (s_at h1 (by omega) (s_iteE (fun c => absurd c h34) (fun _ => s_load false (b0.cell 0) (sat_iteF.2 (s_leaf ?_))))) ?_
  · rw [if_pos rfl]; exact ⟨(false, ()), rfl, rfl, rfl⟩
  rintro z w2 ⟨rfl, hw2⟩
  have hw2 := hw2.symm
  subst hw2
  show sat _ (jsonparser_getTypeConfig.t1 x.1 x.2.1 x.2.2 (o : Int) ⟨w.heap.size, 0, none⟩ false) _ _
  unfold jsonparser_getTypeConfig.t1
  refine sat_iteF.2 (s_at h1 (by omega) (s_iteE (fun c => absurd c h91) (fun _ => s_at h1 (by omega) (s_iteE (fun c => absurd c h123) (fun _ => ?_)))))
  refine s_chk ⟨by omega, by omega, by omega⟩ ?_
  have hte := tokenEnd_any (f := f) (h1.from o (by omega)) (by omega) (by omega) hf (fun j g1 g2 => isL_nE (hL.1 j g1 g2)) hbe
  refine s_call (by rw [Int.toNat_natCast, Int.toNat_natCast]; exact hte) ?_
  rintro en w3 ⟨rfl, hw3⟩
  have hw3 := hw3.symm
  subst hw3
  refine ⟨((f - (i + o) : Nat) : Int), rfl, ?_⟩
  have e1 : IntKind.wrap IntKind.i64 ((o : Int) + ((f - (i + o) : Nat) : Int)) = ((o + (f - (i + o)) : Nat) : Int) := by rw [wad _ _ (by omega)]
  refine s_chk (by rw [e1]; exact ⟨by omega, by omega, by omega⟩) (s_at h1 (by omega) ?_)
  refine s_cut (fun z w' => z.1 = jk k ∧ w1 = w') ?_ ?_
  · refine s_cut (fun z w' => (z.1 = true ↔ bt s ((i + o : Nat) : Int) = 116 ∨ bt s ((i + o : Nat) : Int) = 102) ∧ z.2.1 = (0 : Int) ∧ w1 = w') (s_iteE (fun g => s_leaf ?_) (fun g => s_leaf ?_)) ?_
    · rw [if_pos rfl]
      exact ⟨((bt s ((i + o : Nat) : Int) == (116 : Int)), (0 : Int), ()), rfl, ⟨fun _ => .inl g, fun _ => beq_iff_eq.2 g⟩, rfl, rfl⟩
    · rw [if_pos rfl]
      exact ⟨((bt s ((i + o : Nat) : Int) == (102 : Int)), (0 : Int), ()), rfl, ⟨fun c => .inr (beq_iff_eq.1 c), fun c => beq_iff_eq.2 (c.resolve_left g)⟩, rfl, rfl⟩
    · rintro ⟨z1, z2, zu⟩ w' ⟨hz, hz2, rfl⟩
      have hz2 : z2 = (0 : Int) := hz2
      subst hz2
      show sat _ (jsonparser_getTypeConfig.t2 x.1 x.2.2 (o : Int) ((f - (i + o) : Nat) : Int) (bt s ((i + o : Nat) : Int)) z1 (0 : Int)) _ _
      unfold jsonparser_getTypeConfig.t2
      refine s_cut (fun z w' => z.2.1 = jk k ∧ w1 = w') (lit_kind h1 hs hL hof hf (fun b => ?_) z1 hz) ?_
      · rw [if_pos rfl]; exact ⟨(b, jk k, ()), rfl, rfl, rfl⟩
      · rintro ⟨y1, y2, yu⟩ w' ⟨h1, rfl⟩
        unfold jsonparser_getTypeConfig.t17
        refine s_leaf ?_
        rw [if_pos rfl]; exact ⟨(y2, ()), rfl, h1, rfl⟩
  · rintro ⟨y2, yu⟩ w' ⟨hy, rfl⟩
    have hy : y2 = jk k := hy
    subst hy
    show sat _ (jsonparser_getTypeConfig.t18 x.1 x.2.2 (o : Int) ((f - (i + o) : Nat) : Int) (jk k)) _ _
    unfold jsonparser_getTypeConfig.t18
    rw [e1]
    refine s_chk ⟨by omega, by omega, by omega⟩ (s_leaf ⟨rfl, ?_⟩)
    rw [Int.toNat_natCast, Int.toNat_natCast]
    have hT := h1.cut o (f - (i + o)) (by omega)
    rw [show i + o + (f - (i + o)) = f by omega] at hT
    refine ⟨_, ?_, hT, k0⟩
    have : f - i = o + (f - (i + o)) := by omega
    show Ending.returned (retVal _) = .returned (.tuple #[_, .int .i64 (jk k), .int .i64 ((f - i : Nat) : Int), _])
    rw [this]; rfl
/-- A value's kind and text. -/
theorem type_any {m : Int} {o : Nat} {p : PT} (h : Tx w x s i e) (hs : s.size ≤ 9000000000) (hw : WfV s p) (hp : p.b = i + o) (hf : p.e ≤ e) (hbe : p.e = e ∨ isE (bt s (p.e : Int))) :
    Calls Tryd.prog 65 #[cfg m, slV x, .int .i64 (o : Int)] w (GT w s i p) := by
  obtain ⟨k, b, f, ns, ks⟩ := p
  have hp : b = i + o := hp
  subst hp
  have hlt := hw.lt
  have hw' := hw
  unfold WfV at hw'
  obtain ⟨_, _, ⟨_, _, hL⟩ | ⟨rfl, _⟩ | ⟨rfl, _⟩ | ⟨rfl, _⟩⟩ := hw'
  · exact type_lit h hs hL hlt.1 hf hbe
  · exact type_str h hs hw hf
  · exact type_blk (.inl rfl) h hs hw hf
  · exact type_blk (.inr rfl) h hs hw hf
end Go.Proofs.YtlfebfkphgelfaaDoor.Ka
namespace Go.Proofs.YtlfebfkphgelfaaDoor.Ka
open Go Go.Proofs Go.RowKit Go.Proofs.YtlfebfkphgelfaaDoor.Rx Go.Proofs.YtlfebfkphgelfaaDoor.Tr Go.Proofs.YtlfebfkphgelfaaDoor.Pl Go.Proofs.YtlfebfkphgelfaaDoor.Pw Go.Proofs.YtlfebfkphgelfaaDoor.Sk Go.Proofs.YtlfebfkphgelfaaDoor.Sw

variable {w w' : World} {x : Sl} {s : ByteArray} {i e : Nat}
theorem sl3_run {b o n c : Nat} (hn : n ≤ c) : (Instr.sliceAt tBs (.slice (some ⟨b, o, none⟩) n c) none (some (.int .i64 (n : Int))) (some (.int .i64 (n : Int)))).run Tryd.prog w = .ok (.slice (some ⟨b, o, none⟩) n n) w := by
  have hu : Tryd.prog.underlying tBs = some (.slice tB) := Tryd.underlying36
  have hi := info_some (P := Tryd.prog) (t := tB) (by kernel_rfl)
  simp [Instr.sliceAt, Instr.slice, run_und hu, Instr.sliceBounds, Instr.sliceBound, asIntOf, run_size hi, hn, Addr.add]
theorem Tx.full (h : Tx w x s i e) : ∃ y : Sl, y.2.2 = y.2.1 ∧ Tx w y s i e ∧ (Instr.sliceAt tBs (.slice x.1 x.2.1 x.2.2) none (some (.int .i64 (x.2.1 : Int))) (some (.int .i64 (x.2.1 : Int)))).run Tryd.prog w = .ok (slV y) w := by
  obtain ⟨b, o, h1, h2, h3⟩ := h.cell
  refine ⟨(some ⟨b, o, none⟩, x.2.1, x.2.1), rfl, ⟨h.len, h.ie, h.es, Nat.le_refl _, b, o, rfl, h2, h3⟩, ?_⟩
  rw [h1]
  exact sl3_run h.cap
/-- A value's text; a string's without its marks. -/
def rb (p : PT) : Nat := if p.k = 4 then p.b + 1 else p.b
def re (p : PT) : Nat := if p.k = 4 then p.e - 1 else p.e
theorem str_len {p : PT} (h : WfV s p) (hk : p.k = 4) : p.b + 2 ≤ p.e := by
  obtain ⟨k, b, f, ns, ks⟩ := p
  have hk : k = 4 := hk
  subst hk
  show b + 2 ≤ f
  unfold WfV at h
  obtain ⟨_, _, ⟨_, _, _, h⟩ | ⟨_, _, _, h1, h2⟩ | ⟨h, _⟩ | ⟨h, _⟩⟩ := h
  · rcases h with ⟨h, _⟩ | ⟨h, _⟩ | ⟨h, _⟩ | ⟨h, _⟩ <;> cases h
  · have := strE_le h2; omega
  · cases h
  · cases h
theorem jk_str {p : PT} : jk p.k = 1 ↔ p.k = 4 := by
  unfold jk
  constructor
  · intro h
    split at h
    · cases h
    · split at h
      · cases h
      · split at h
        · cases h
        · split at h
          · cases h
          · split at h
            · assumption
            · split at h <;> cases h
  · intro h; rw [h]; rfl
theorem get_t1 {Q : Nat → List Value → World → Prop} {m : Int} {o g : Nat} {p : PT} (h : Tx w x s i e) (hs : s.size ≤ 9000000000) (hw : WfV s p) (hp : bl s (i + o) = p.b) (hf : p.e ≤ e) (hbe : p.e = e ∨ isE (bt s (p.e : Int)))
    (b0 : Blk w g (cfC m) tCf) (hQ : ∀ (y : Sl) w', Kp Off w w' → Tx w' y s (rb p) (re p) → y.2.2 = y.2.1 → Q 0 [.slice y.1 y.2.1 y.2.2, .int .i64 (jk p.k), .int .i64 ((p.b - i : Nat) : Int), .int .i64 ((p.e - i : Nat) : Int), .nilIface] w') :
    sat Tryd.prog (jsonparser_internalGetConfig.t1 x.1 x.2.1 x.2.2 ⟨g, 0, none⟩ (o : Int)) Q w := by
  have hes := h.es
  have hl := h.len
  have hcap := h.cap
  have hlt := hw.lt
  have hge := bl_ge s (i + o)
  unfold jsonparser_internalGetConfig.t1
  refine s_drew ?_
  have kd : Kp Off w w.drew := (Kp.refl Off w).drew
  have b1 := kd.blk b0 id
  have h1 := h.kp kd
  generalize w.drew = w1 at kd b1 h1
  refine s_effS (false, false, m, ()) (cfg_run b1) (s_chk ⟨by omega, by omega, by omega⟩ ?_)
  have hn := next_any (m := m) (h1.from o (by omega)) (by omega) (by omega)
  refine s_call (by rw [Int.toNat_natCast, Int.toNat_natCast]; exact hn) ?_
  rintro en w2 ⟨rfl, k2⟩
  refine ⟨((bl s (i + o) - (i + o) : Nat) : Int), rfl, s_iteE (fun c => absurd c (by omega)) (fun _ => ?_)⟩
  have b2 := k2.blk b1 id
  have h2 := h1.kp k2
  refine s_eff (w' := w2) (false, false, m, ()) (cfg_run b2) ?_
  have e1 : IntKind.wrap IntKind.i64 ((o : Int) + ((bl s (i + o) - (i + o) : Nat) : Int)) = ((p.b - i : Nat) : Int) := by
    rw [wad _ _ (by omega)]
    have : o + (bl s (i + o) - (i + o)) = p.b - i := by omega
    rw [this]
  rw [e1]
  refine s_call (type_any (m := m) (o := p.b - i) h2 hs hw (by omega) hf hbe) ?_
  rintro en w3 ⟨y, rfl, hT, k3⟩
  refine ⟨(y, jk p.k, ((p.e - i : Nat) : Int), Value.nilIface, ()), rfl, s_chk rfl (s_ite (fun c => absurd (show (false : Bool) = true from c) (by decide)) (fun _ => ?_))⟩
  have K : Kp Off w w3 := (kd.trans k2).trans k3
  refine s_cut (fun z w' => Tx w' z.1 s (rb p) (re p) ∧ w3 = w') ?_ ?_
  · refine s_iteE (fun c => ?_) (fun c => s_leaf ?_)
    · have hk := jk_str.1 c
      have h2' := str_len hw hk
      have hy := hT.len
      have hyc := hT.cap
      have e2 : IntKind.wrap IntKind.i64 (((y.2.1 : Nat) : Int) - 1) = ((y.2.1 - 1 : Nat) : Int) := wsu y.2.1 1 (by omega) (by omega)
      show sat _ (.chk (((0 : Int) ≤ (1 : Int)) ∧ (((1 : Int) ≤ (IntKind.wrap IntKind.i64 (((y.2.1 : Nat) : Int) - (1 : Int)))) ∧ ((IntKind.wrap IntKind.i64 (((y.2.1 : Nat) : Int) - (1 : Int))) ≤ ((y.2.2 : Nat) : Int)))) <|
          .leaf 1 [(Value.slice (if (y.2.2 = 1) then y.1 else (Option.map (fun (y11 : Addr) => (Addr.add y11 1)) y.1)) ((Int.toNat (IntKind.wrap IntKind.i64 (((y.2.1 : Nat) : Int) - (1 : Int)))) - 1) (y.2.2 - 1))]) _ _
      rw [e2]
      refine s_chk ⟨by omega, by omega, by omega⟩ (s_leaf ?_)
      rw [if_pos rfl, Int.toNat_natCast]
      have hS := hT.sub (k := p.b + 1) (f := p.e - 1) (by omega) (by omega) (by omega)
      rw [show p.b + 1 - p.b = 1 by omega, show p.e - 1 - (p.b + 1) = y.2.1 - 1 - 1 by omega] at hS
      refine ⟨(((if y.2.2 = 1 then y.1 else y.1.map fun y11 => y11.add 1), y.2.1 - 1 - 1, y.2.2 - 1), ()), rfl, ?_, rfl⟩
      unfold rb re
      rw [if_pos hk, if_pos hk]
      exact hS
    · rw [if_pos rfl]
      have hk : p.k ≠ 4 := fun g => c (jk_str.2 g)
      refine ⟨(y, ()), rfl, ?_, rfl⟩
      unfold rb re
      rw [if_neg hk, if_neg hk]
      exact hT
  · rintro ⟨z, zu⟩ w' ⟨hz, rfl⟩
    have hz : Tx w3 z s (rb p) (re p) := hz
    show sat _ (jsonparser_internalGetConfig.t2 _ _ _ z) _ _
    unfold jsonparser_internalGetConfig.t2
    obtain ⟨y', hy1, hy2, hy3⟩ := hz.full
    refine s_eff (w' := w3) y' hy3 (s_leaf ?_)
    show Q 0 [_, _, Value.int IntKind.i64 (IntKind.wrap IntKind.i64 ((o : Int) + ((bl s (i + o) - (i + o) : Nat) : Int))), _, _] w3
    rw [e1]
    exact hQ y' w3 K hy2 hy1
/-- What a look-up gives. -/
def GR (w : World) (s : ByteArray) (i : Nat) (p : PT) (en : Ending) (w' : World) : Prop :=
  ∃ y : Sl, en = .returned (.tuple #[slV y, .int .i64 (jk p.k), .int .i64 ((p.b - i : Nat) : Int), .int .i64 ((p.e - i : Nat) : Int), .nilIface]) ∧ Tx w' y s (rb p) (re p) ∧ y.2.2 = y.2.1 ∧ Kp Off w w'
/-- The value that stands there: no keys. -/
theorem get0_any {m : Int} {p : PT} {q : Option Addr} {c : Nat} (h : Tx w x s i e) (hs : s.size ≤ 9000000000) (hw : WfV s p) (hp : bl s i = p.b) (hf : p.e ≤ e) (hbe : p.e = e ∨ isE (bt s (p.e : Int))) :
    Calls Tryd.prog 51 #[cfg m, slV x, .slice q 0 c] w (GR w s i p) := by
  refine jsonparser_internalGetConfig.calls _ _ _ _ _ _ _ _ _ ?_
  unfold jsonparser_internalGetConfig.t
  refine s_alloc ?_
  have b0 := Blk.new w (cfC m) tCf
  have k0 : Kp Off w (w.alloc (.cells (cfC m).toArray tCf (0, 0))) := (Kp.refl Off w).alloc _
  show sat _ _ _ (w.alloc (.cells (cfC m).toArray tCf (0, 0)))
  generalize w.alloc (.cells (cfC m).toArray tCf (0, 0)) = w1 at k0 b0
  refine s_cut (fun z w' => z = ((0 : Int), ()) ∧ w1 = w') (s_iteD (fun g => absurd g (by decide)) (fun _ => s_leaf ?_)) ?_
  · rw [if_pos rfl]; exact ⟨((0 : Int), ()), rfl, rfl, rfl⟩
  · rintro z w' ⟨rfl, rfl⟩
    refine get_t1 (o := 0) (h.kp k0) hs hw hp hf hbe b0 fun y w' k' hT hy => ⟨rfl, y, rfl, hT, hy, k0.trans k'⟩
/-- Config.Get, no keys. -/
theorem cget_any {m : Int} {p : PT} {q : Option Addr} {c : Nat} (h : Tx w x s i e) (hs : s.size ≤ 9000000000) (hw : WfV s p) (hp : bl s i = p.b) (hf : p.e ≤ e) (hbe : p.e = e ∨ isE (bt s (p.e : Int))) :
    Calls Tryd.prog 44 #[cfg m, slV x, .slice q 0 c] w fun en w' => ∃ y : Sl, en = .returned (.tuple #[slV y, .int .i64 (jk p.k), .int .i64 ((p.e - i : Nat) : Int), .nilIface]) ∧ Tx w' y s (rb p) (re p) ∧ y.2.2 = y.2.1 ∧ Kp Off w w' := by
  refine jsonparser_Config_Get.calls _ _ _ _ _ _ _ _ _ ?_
  unfold jsonparser_Config_Get.t
  refine s_alloc ?_
  have b0 := Blk.new w (cfC m) tCf
  have k0 : Kp Off w (w.alloc (.cells (cfC m).toArray tCf (0, 0))) := (Kp.refl Off w).alloc _
  show sat _ _ _ (w.alloc (.cells (cfC m).toArray tCf (0, 0)))
  generalize w.alloc (.cells (cfC m).toArray tCf (0, 0)) = w1 at k0 b0
  refine s_eff (w' := w1) (false, false, m, ()) (cfg_run b0) ?_
  refine s_call (get0_any (h.kp k0) hs hw hp hf hbe) ?_
  rintro en w2 ⟨y, rfl, hT, hy, k2⟩
  exact ⟨(y, jk p.k, ((p.b - i : Nat) : Int), ((p.e - i : Nat) : Int), Value.nilIface, ()), rfl, s_leaf ⟨rfl, y, rfl, hT, hy, k0.trans k2⟩⟩
end Go.Proofs.YtlfebfkphgelfaaDoor.Ka
