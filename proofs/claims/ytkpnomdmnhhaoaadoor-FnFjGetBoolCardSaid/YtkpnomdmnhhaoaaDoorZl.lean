/- The reference's Index over keys. No statement of the set is proved here. -/
import Derived.Test.YtkpnomdmnhhaoaaDoorZy
import Derived.Test.YtkpnomdmnhhaoaaDoorTj
namespace Go.Proofs.YtkpnomdmnhhaoaaDoor.Zf
open Go Go.Proofs Go.RowKit Go.Proofs.YtkpnomdmnhhaoaaDoor.Rx Go.Proofs.YtkpnomdmnhhaoaaDoor.Tr Go.Proofs.YtkpnomdmnhhaoaaDoor.Pl Go.Proofs.YtkpnomdmnhhaoaaDoor.Pw

theorem dig_byte {t : ByteArray} {i : Nat} (hi : i < t.size) (h1 : 48 ≤ bt t (i : Int)) (h2 : bt t (i : Int) ≤ 57) : ∃ b, t.data.toList[i]? = some b ∧ Lib.digitVal b = some ((bt t (i : Int)).toNat - 48) := by
  have hl : i < t.data.toList.length := by rw [Array.length_toList]; exact hi
  refine ⟨t.data.toList[i], List.getElem?_eq_getElem hl, ?_⟩
  have e : bt t (i : Int) = ((t.data.toList[i]).toNat : Int) := by
    unfold bt
    rw [Int.toNat_natCast, List.getD_eq_getElem?_getD, List.getElem?_eq_getElem hl]; rfl
  rw [e] at h1 h2 ⊢
  unfold Lib.digitVal
  rw [if_pos (by omega)]; rfl
theorem dec_dig : ∀ (l : List UInt8) (acc m i : Nat) (b : UInt8), Lib.decFrom acc l = some m → l[i]? = some b → 48 ≤ b.toNat ∧ b.toNat ≤ 57
  | [], _, _, _, _, _, h => by simp at h
  | c :: l, acc, m, i, b, h, hb => by
    unfold Lib.decFrom at h
    cases hv : Lib.digitVal c with
    | none => rw [hv] at h; cases h
    | some d =>
      rw [hv] at h
      have h : Lib.decFrom (acc * 10 + d) l = some m := h
      cases i with
      | zero =>
        simp only [List.getElem?_cons_zero, Option.some.injEq] at hb
        subst hb
        unfold Lib.digitVal at hv
        split at hv
        · assumption
        · cases hv
      | succ i => exact dec_dig l _ m i b h (by simpa using hb)
/-- What Index says of a key. -/
theorem index_any {t : ByteArray} {w : World} (hs : t.size ≤ 200000000000000) : Calls Tryd.prog 39 #[.string t] w fun e w' =>
    (∃ (n : Nat) (b : Bool), e = .returned (.tuple #[.int .i64 (n : Int), .bool b]) ∧ b = (ixK t).isSome ∧ (∀ D, ixK t = some D → (D < 1000000 → n = D) ∧ (1000000 ≤ D → 1000000 ≤ n))) ∧ w' = w := by
  refine spec_Index.calls _ ?_
  unfold spec_Index.t
  have hl : t.data.toList.length = t.size := Array.length_toList
  have hemp : t.size = 0 → ixK t = none := fun h => by
    have h0 : t.data.toList = [] := List.eq_nil_of_length_eq_zero (by rw [hl]; exact h)
    unfold ixK
    rw [h0]
    split <;> rfl
  have hbig : ∀ {D}, ixK t = some D → 0 < t.size ∧ Lib.decFrom 0 t.data.toList = some D := fun {D} h => by
    have hp : 0 < t.size := by
      rcases Nat.eq_zero_or_pos t.size with g | g
      · rw [hemp g] at h; cases h
      · exact g
    refine ⟨hp, ?_⟩
    unfold ixK at h
    split at h
    · cases h
    · unfold Lib.decNat at h
      split at h
      · cases h
      · exact h
  refine s_cut (fun z w' => ((z.1 = true ∧ ixK t = none) ∨ (z.1 = false ∧ 0 < t.size ∧ ¬ (1 < t.size ∧ bt t 0 = 48))) ∧ w = w') (s_ite (fun g => s_leaf ?_) (fun g => ?_)) ?_
  · rw [if_pos rfl]
    refine ⟨(true, ()), rfl, .inl ⟨rfl, hemp ?_⟩, rfl⟩
    have e := strEq_iff.1 (show strEq t (ByteArray.mk #[]) = true from g)
    rw [e]; decide
  · have hpos : 0 < t.size := by
      rcases Nat.eq_zero_or_pos t.size with h0 | h0
      · exfalso
        have : t = ByteArray.mk #[] := by
          apply ByteArray.ext
          apply Array.toList_inj.1
          exact List.eq_nil_of_length_eq_zero (by rw [hl]; exact h0)
        have : strEq t (ByteArray.mk #[]) = true := strEq_iff.2 this
        exact absurd (show (true : Bool) = false from this.symm.trans g) (by decide)
      · exact h0
    refine s_iteD (fun h1 => s_chk ⟨by omega, by omega⟩ (s_leaf ?_)) (fun h1 => s_leaf ?_)
    · rw [if_pos rfl]
      refine ⟨(bt t 0 == 48, ()), rfl, ?_, rfl⟩
      by_cases h48 : bt t 0 = 48
      · left
        refine ⟨?_, ?_⟩
        · show (bt t 0 == 48) = true; rw [h48]; rfl
        · unfold ixK; rw [if_pos ⟨by omega, h48⟩]
      · right; exact ⟨beq_eq_false_iff_ne.2 h48, hpos, fun g => h48 g.2⟩
    · rw [if_pos rfl]
      exact ⟨(false, ()), rfl, .inr ⟨rfl, hpos, fun g => by omega⟩, rfl⟩
  rintro ⟨b, u⟩ w' ⟨hb, rfl⟩
  show sat _ (spec_Index.t1 t b) _ _
  unfold spec_Index.t1
  rcases hb with ⟨hb, hbad⟩ | ⟨hb, hpos, h48⟩
  · have hb : b = true := hb
    subst hb
    exact sat_iteT.2 (s_leaf ⟨rfl, ⟨0, false, rfl, by rw [hbad]; rfl, fun D h => by rw [hbad] at h; cases h⟩, rfl⟩)
  have hb : b = false := hb
  subst hb
  refine sat_iteF.2 (s_loop (fun k z w' => ∃ (i n D : Nat), k = t.size - i ∧ z = ((i : Int), (n : Int), ()) ∧ i ≤ t.size ∧ n ≤ 4611686018427387904 ∧ Lib.decFrom 0 (t.data.toList.take i) = some D ∧ (D < 1000000 → n = D) ∧ (1000000 ≤ D → 1000000 ≤ n) ∧ w = w') t.size ((0 : Int), (0 : Int), ()) rfl
    ⟨0, 0, 0, rfl, rfl, Nat.zero_le _, by omega, rfl, fun _ => rfl, fun h => by omega, rfl⟩ ?_)
  rintro k z w' ⟨i, n, D, rfl, rfl, hi, hn, hD, hd1, hd2, rfl⟩
  show sat _ (spec_Index.t2 t (i : Int) (n : Int)) _ _
  unfold spec_Index.t2
  refine s_iteD (fun hlt => ?_) (fun hge => s_leaf ?_)
  · refine s_chk ⟨by omega, hlt⟩ (s_cut (fun z w' => ((z.1 = true ∧ ¬ (48 ≤ bt t (i : Int) ∧ bt t (i : Int) ≤ 57)) ∨ (z.1 = false ∧ 48 ≤ bt t (i : Int) ∧ bt t (i : Int) ≤ 57)) ∧ w = w') (s_iteD (fun h => s_leaf ?_) (fun h => s_leaf ?_)) ?_)
    · rw [if_pos rfl]; exact ⟨(true, ()), rfl, .inl ⟨rfl, by omega⟩, rfl⟩
    · rw [if_pos rfl]
      refine ⟨(decide (bt t (i : Int) > 57), ()), rfl, ?_, rfl⟩
      by_cases h57 : bt t (i : Int) > 57
      · exact .inl ⟨decide_eq_true h57, by omega⟩
      · exact .inr ⟨decide_eq_false h57, by omega, by omega⟩
    · rintro ⟨b, u⟩ w' ⟨hb, rfl⟩
      show sat _ (spec_Index.t3 t (i : Int) (n : Int) b) _ _
      unfold spec_Index.t3
      rcases hb with ⟨hb, hnd⟩ | ⟨hb, h1, h2⟩
      · have hb : b = true := hb
        subst hb
        refine sat_iteT.2 (s_leaf ?_)
        rw [if_neg (by decide)]
        have hnone : ∀ D, ixK t ≠ some D := fun D h => by
          have hil : i < t.data.toList.length := by rw [hl]; omega
          have := dec_dig _ _ _ i _ (hbig h).2 (List.getElem?_eq_getElem hil)
          have e : bt t (i : Int) = ((t.data.toList[i]).toNat : Int) := by
            unfold bt
            rw [Int.toNat_natCast, List.getD_eq_getElem?_getD, List.getElem?_eq_getElem hil]; rfl
          exact hnd (by rw [e]; omega)
        refine ⟨rfl, ⟨0, false, rfl, ?_, fun D h => absurd h (hnone D)⟩, rfl⟩
        cases hx : ixK t with
        | none => rfl
        | some D => exact absurd hx (hnone D)
      have hb : b = false := hb
      subst hb
      have hit : i < t.size := by omega
      obtain ⟨d, hd⟩ : ∃ d : Nat, bt t (i : Int) = ((48 + d : Nat) : Int) ∧ d ≤ 9 := ⟨(bt t (i : Int)).toNat - 48, by omega, by omega⟩
      obtain ⟨bb, hb1, hb2⟩ := dig_byte hit h1 h2
      rw [hd.1, Int.toNat_natCast, Nat.add_sub_cancel_left] at hb2
      have w1 : IntKind.wrap IntKind.i64 ((i : Int) + 1) = ((i + 1 : Nat) : Int) := by rw [wrap_in (by omega) (by omega)]; omega
      have hD' := Lib.decFrom_take _ _ _ _ _ _ hD hb1 hb2
      refine sat_iteF.2 (s_iteD (fun hm => s_leaf ?_) (fun hm => s_leaf ?_))
      · rw [if_pos rfl, w1]
        have w2 : IntKind.wrap IntKind.i64 ((n : Int) * 10) = ((n * 10 : Nat) : Int) := by rw [wrap_in (by omega) (by omega)]; omega
        have w3 : IntKind.wrap IntKind.u8 (bt t (i : Int) - 48) = (d : Int) := by rw [hd.1, IntKind.wrap_u8]; omega
        have w4 : IntKind.wrap IntKind.i64 (d : Int) = (d : Int) := wrap_in (by omega) (by omega)
        have w5 : IntKind.wrap IntKind.i64 (((n * 10 : Nat) : Int) + (d : Int)) = ((n * 10 + d : Nat) : Int) := by rw [wrap_in (by omega) (by omega)]; omega
        rw [w2, w3, w4, w5]
        exact ⟨t.size - (i + 1), (((i + 1 : Nat) : Int), ((n * 10 + d : Nat) : Int), ()), rfl, by omega, i + 1, n * 10 + d, D * 10 + d, rfl, rfl, hit, by omega, hD', fun h => by have := hd1 (by omega); omega, fun h => by rcases Nat.lt_or_ge D 1000000 with g | g <;> first | (have := hd1 g; omega) | (have := hd2 g; omega), rfl⟩
      · rw [if_pos rfl, w1]
        exact ⟨t.size - (i + 1), (((i + 1 : Nat) : Int), ((4611686018427387904 : Nat) : Int), ()), rfl, by omega, i + 1, 4611686018427387904, D * 10 + d, rfl, rfl, hit, by omega, hD', fun h => by have := hd1 (by omega); omega, fun h => by omega, rfl⟩
  · rw [if_neg (by decide)]
    have e : i = t.size := by omega
    subst e
    rw [List.take_of_length_le (by rw [hl]; exact Nat.le_refl _)] at hD
    have hix : ixK t = some D := by
      unfold ixK Lib.decNat
      rw [if_neg h48, if_neg]
      · exact hD
      · intro h
        have := List.isEmpty_iff.1 h
        have h2 := congrArg List.length this
        rw [hl] at h2
        simp only [List.length_nil] at h2
        omega
    refine ⟨rfl, ⟨n, true, rfl, by rw [hix]; rfl, fun D' h => ?_⟩, rfl⟩
    have := Option.some.inj (hix.symm.trans h)
    subst this
    exact ⟨hd1, hd2⟩
end Go.Proofs.YtkpnomdmnhhaoaaDoor.Zf
