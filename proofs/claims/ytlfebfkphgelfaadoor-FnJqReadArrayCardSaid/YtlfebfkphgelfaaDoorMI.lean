/- What keys lead to, as the law asks; JpArrayEach (the texts La Lb Lc Lo of this repo put together). No statement of the set is proved here. -/
import Derived.Test.YtlfebfkphgelfaaDoorMH
import Derived.Test.YtlfebfkphgelfaaDoorMF
namespace Go.Proofs.YtlfebfkphgelfaaDoor.Lj
open Go Go.Proofs Go.RowKit Go.Proofs.YtlfebfkphgelfaaDoor.Rx Go.Proofs.YtlfebfkphgelfaaDoor.Tr Go.Proofs.YtlfebfkphgelfaaDoor.Pl Go.Proofs.YtlfebfkphgelfaaDoor.Pw
open Go.Proofs.YtlfebfkphgelfaaDoor.Ka (ixS nmS ext_size)

theorem dig_byte {t : ByteArray} {i : Nat} (hi : i < t.size) (h1 : 48 ≤ bt t (i : Int)) (h2 : bt t (i : Int) ≤ 57) : ∃ b, t.data.toList[i]? = some b ∧ Lib.digitVal b = some ((bt t (i : Int)).toNat - 48) := by
  have hl : i < t.data.toList.length := by rw [Array.length_toList]; exact hi
  refine ⟨t.data.toList[i], List.getElem?_eq_getElem hl, ?_⟩
  have e : bt t (i : Int) = ((t.data.toList[i]).toNat : Int) := by
    unfold bt
    rw [Int.toNat_natCast, List.getD_eq_getElem?_getD, List.getElem?_eq_getElem hl]; rfl
  rw [e] at h1 h2 ⊢
  unfold Lib.digitVal
  rw [if_pos (by omega)]; rfl
theorem dec_dig : ∀ (l : List UInt8) (acc m i : Nat) (b : UInt8), Lib.decFrom acc l = some m → l[i]? = some b → 48 ≤ b.toNat ∧ b.toNat ≤ 57
  | [], _, _, _, _, _, h => by simp at h
  | c :: l, acc, m, i, b, h, hb => by
    unfold Lib.decFrom at h
    cases hv : Lib.digitVal c with
    | none => rw [hv] at h; cases h
    | some d =>
      rw [hv] at h
      have h : Lib.decFrom (acc * 10 + d) l = some m := h
      cases i with
      | zero =>
        simp only [List.getElem?_cons_zero, Option.some.injEq] at hb
        subst hb
        unfold Lib.digitVal at hv
        split at hv
        · assumption
        · cases hv
      | succ i => exact dec_dig l _ m i b h (by simpa using hb)
/-- What Index says: 'true' and a number below 65537 only for a decimal numeral of at most 18 digits, and its value. -/
theorem index_any {t : ByteArray} {w : World} (hs : t.size ≤ 200000000000000) : Calls Tryd.prog 50 #[.string t] w fun e w' =>
    (∃ (n : Nat) (b : Bool), e = .returned (.tuple #[.int .i64 (n : Int), .bool b]) ∧ (b = true → (1 < t.size → bt t 0 ≠ 48) ∧ (n < 65537 → Lib.decNat t.data.toList = some n ∧ t.size ≤ 18)) ∧
      (∀ m, Lib.decNat t.data.toList = some m → (1 < t.size → bt t 0 ≠ 48) → t.size ≤ 18 → b = true ∧ n = m)) ∧ w' = w := by
  have hdec : ∀ m, Lib.decNat t.data.toList = some m → 0 < t.size ∧ Lib.decFrom 0 t.data.toList = some m := fun m h => by
    unfold Lib.decNat at h
    split at h
    · cases h
    · rename_i hne
      refine ⟨?_, h⟩
      rcases Nat.eq_zero_or_pos t.size with h0 | h0
      · exfalso
        refine hne (List.isEmpty_iff.2 (List.eq_nil_of_length_eq_zero ?_))
        rw [Array.length_toList]; exact h0
      · exact h0
  refine spec_Index.calls _ ?_
  unfold spec_Index.t
  have hl : t.data.toList.length = t.size := Array.length_toList
  refine s_cut (fun z w' => ((z.1 = true ∧ (0 < t.size → 1 < t.size ∧ bt t 0 = 48)) ∨ (z.1 = false ∧ 0 < t.size ∧ (1 < t.size → bt t 0 ≠ 48))) ∧ w = w') (s_ite (fun g => s_leaf ?_) (fun g => ?_)) ?_
  · rw [if_pos rfl]
    refine ⟨(true, ()), rfl, .inl ⟨rfl, fun h0 => ?_⟩, rfl⟩
    have e := strEq_iff.1 (show strEq t (ByteArray.mk #[]) = true from g)
    rw [e] at h0
    exact absurd h0 (by decide)
  · have hpos : 0 < t.size := by
      rcases Nat.eq_zero_or_pos t.size with h0 | h0
      · exfalso
        have : t = ByteArray.mk #[] := by
          apply ByteArray.ext
          apply Array.toList_inj.1
          exact List.eq_nil_of_length_eq_zero (by rw [hl]; exact h0)
        have : strEq t (ByteArray.mk #[]) = true := strEq_iff.2 this
        exact absurd (show (true : Bool) = false from this.symm.trans g) (by decide)
      · exact h0
    refine s_iteD (fun h1 => s_chk ⟨by omega, by omega⟩ (s_leaf ?_)) (fun h1 => s_leaf ?_)
    · rw [if_pos rfl]
      refine ⟨(bt t 0 == 48, ()), rfl, ?_, rfl⟩
      by_cases h48 : bt t 0 = 48
      · left
        refine ⟨?_, fun _ => ⟨by omega, h48⟩⟩
        show (bt t 0 == 48) = true; rw [h48]; rfl
      · right; exact ⟨beq_eq_false_iff_ne.2 h48, hpos, fun _ => h48⟩
    · rw [if_pos rfl]
      exact ⟨(false, ()), rfl, .inr ⟨rfl, hpos, fun g => absurd g (by omega)⟩, rfl⟩
  rintro ⟨b, u⟩ w' ⟨hb, rfl⟩
  show sat _ (spec_Index.t1 t b) _ _
  unfold spec_Index.t1
  rcases hb with ⟨hb, hbad⟩ | ⟨hb, hpos, h48⟩
  · have hb : b = true := hb
    subst hb
    exact sat_iteT.2 (s_leaf ⟨rfl, ⟨0, false, rfl, (fun g => by cases g), fun m hm hc _ => by
      have h1 := hbad (hdec m hm).1
      exact absurd h1.2 (hc h1.1)⟩, rfl⟩)
  have hb : b = false := hb
  subst hb
  refine sat_iteF.2 (s_loop (fun k z w' => ∃ (i n : Nat), k = t.size - i ∧ z = ((i : Int), (n : Int), ()) ∧ i ≤ t.size ∧ n ≤ 4611686018427387904 ∧ (n < 65537 → Lib.decFrom 0 (t.data.toList.take i) = some n) ∧ (i ≤ 18 → Lib.decFrom 0 (t.data.toList.take i) = some n ∧ n < 10 ^ i) ∧
    (1 < t.size → (1 ≤ i → 1 ≤ n) ∧ (2 ≤ i → 10 ≤ n) ∧ (3 ≤ i → 100 ≤ n) ∧ (4 ≤ i → 1000 ≤ n) ∧ (5 ≤ i → 10000 ≤ n) ∧ (6 ≤ i → 100000 ≤ n)) ∧ w = w') t.size ((0 : Int), (0 : Int), ()) rfl
    ⟨0, 0, rfl, rfl, Nat.zero_le _, by omega, fun _ => rfl, fun _ => ⟨rfl, by decide⟩, fun _ => by omega, rfl⟩ ?_)
  rintro k z w' ⟨i, n, rfl, rfl, hi, hn, hd, hd18, hg, rfl⟩
  show sat _ (spec_Index.t2 t (i : Int) (n : Int)) _ _
  unfold spec_Index.t2
  refine s_iteD (fun hlt => ?_) (fun hge => s_leaf ?_)
  · refine s_chk ⟨by omega, hlt⟩ (s_cut (fun z w' => ((z.1 = true ∧ ¬ (48 ≤ bt t (i : Int) ∧ bt t (i : Int) ≤ 57)) ∨ (z.1 = false ∧ 48 ≤ bt t (i : Int) ∧ bt t (i : Int) ≤ 57)) ∧ w = w') (s_iteD (fun h => s_leaf ?_) (fun h => s_leaf ?_)) ?_)
    · rw [if_pos rfl]; exact ⟨(true, ()), rfl, .inl ⟨rfl, by omega⟩, rfl⟩
    · rw [if_pos rfl]
      refine ⟨(decide (bt t (i : Int) > 57), ()), rfl, ?_, rfl⟩
      by_cases h57 : bt t (i : Int) > 57
      · exact .inl ⟨decide_eq_true h57, by omega⟩
      · exact .inr ⟨decide_eq_false h57, by omega, by omega⟩
    · rintro ⟨b, u⟩ w' ⟨hb, rfl⟩
      show sat _ (spec_Index.t3 t (i : Int) (n : Int) b) _ _
      unfold spec_Index.t3
      rcases hb with ⟨hb, hnd⟩ | ⟨hb, h1, h2⟩
      · have hb : b = true := hb
        subst hb
        refine sat_iteT.2 (s_leaf ?_)
        rw [if_neg (by decide)]
        refine ⟨rfl, ⟨0, false, rfl, (fun g => by cases g), fun m hm _ _ => ?_⟩, rfl⟩
        exfalso
        have hil : i < t.data.toList.length := by rw [hl]; omega
        have := dec_dig _ _ _ i _ (hdec m hm).2 (List.getElem?_eq_getElem hil)
        have e : bt t (i : Int) = ((t.data.toList[i]).toNat : Int) := by
          unfold bt
          rw [Int.toNat_natCast, List.getD_eq_getElem?_getD, List.getElem?_eq_getElem hil]; rfl
        exact hnd (by rw [e]; omega)
      have hb : b = false := hb
      subst hb
      have hit : i < t.size := by omega
      obtain ⟨d, hd2⟩ : ∃ d : Nat, bt t (i : Int) = ((48 + d : Nat) : Int) ∧ d ≤ 9 := ⟨(bt t (i : Int)).toNat - 48, by omega, by omega⟩
      obtain ⟨bb, hb1, hb2⟩ := dig_byte hit h1 h2
      rw [hd2.1, Int.toNat_natCast, Nat.add_sub_cancel_left] at hb2
      have w1 : IntKind.wrap IntKind.i64 ((i : Int) + 1) = ((i + 1 : Nat) : Int) := by rw [wrap_in (by omega) (by omega)]; omega
      have hfirst : i = 0 → 1 < t.size → 1 ≤ d := fun h0 h => by
        have := h48 h
        subst h0
        have hz : bt t ((0 : Nat) : Int) = bt t 0 := rfl
        rw [hz] at hd2
        omega
      have h17 : i ≤ 17 → n < 100000000000000000 := fun hi17 => by
        have h1 := (hd18 (by omega)).2
        have h2 := Nat.pow_le_pow_right (n := 10) (by decide) hi17
        have h3 : (10 : Nat) ^ 17 = 100000000000000000 := by decide
        omega
      refine sat_iteF.2 (s_iteD (fun hm => s_leaf ?_) (fun hm => s_leaf ?_))
      · rw [if_pos rfl, w1]
        have w2 : IntKind.wrap IntKind.i64 ((n : Int) * 10) = ((n * 10 : Nat) : Int) := by rw [wrap_in (by omega) (by omega)]; omega
        have w3 : IntKind.wrap IntKind.u8 (bt t (i : Int) - 48) = (d : Int) := by rw [hd2.1, IntKind.wrap_u8]; omega
        have w4 : IntKind.wrap IntKind.i64 (d : Int) = (d : Int) := wrap_in (by omega) (by omega)
        have w5 : IntKind.wrap IntKind.i64 (((n * 10 : Nat) : Int) + (d : Int)) = ((n * 10 + d : Nat) : Int) := by rw [wrap_in (by omega) (by omega)]; omega
        rw [w2, w3, w4, w5]
        refine ⟨t.size - (i + 1), (((i + 1 : Nat) : Int), ((n * 10 + d : Nat) : Int), ()), rfl, by omega, i + 1, n * 10 + d, rfl, rfl, hit, by omega, fun hlt => ?_, fun h18 => ?_, fun h => ?_, rfl⟩
        · exact Lib.decFrom_take _ _ _ _ _ _ (hd (by omega)) hb1 hb2
        · obtain ⟨g1, g2⟩ := hd18 (by omega)
          exact ⟨Lib.decFrom_take _ _ _ _ _ _ g1 hb1 hb2, by rw [Nat.pow_succ]; omega⟩
        · have := hg h
          have h0 := fun e => hfirst e h
          rcases Nat.eq_zero_or_pos i with e | e
          · have := h0 e; omega
          · omega
      · rw [if_pos rfl, w1]
        exact ⟨t.size - (i + 1), (((i + 1 : Nat) : Int), ((4611686018427387904 : Nat) : Int), ()), rfl, by omega, i + 1, 4611686018427387904, rfl, rfl, hit, by omega, fun hlt => by omega, fun h18 => by have := h17 (by omega); omega, fun h => by omega, rfl⟩
  · rw [if_neg (by decide)]
    have e : i = t.size := by omega
    subst e
    have hfull : t.data.toList.take t.size = t.data.toList := List.take_of_length_le (by rw [hl]; exact Nat.le_refl _)
    refine ⟨rfl, ⟨n, true, rfl, fun _ => ⟨h48, fun hlt => ⟨?_, ?_⟩⟩, fun m hm _ h18 => ⟨rfl, ?_⟩⟩, rfl⟩
    rotate_left 2
    · have h1 := (hd18 h18).1
      rw [hfull, (hdec m hm).2] at h1
      exact (Option.some.inj h1).symm
    · have := hd hlt
      rw [List.take_of_length_le (by rw [hl]; exact Nat.le_refl _)] at this
      unfold Lib.decNat
      rw [if_neg]
      · exact this
      · intro h
        have := List.isEmpty_iff.1 h
        have h2 := congrArg List.length this
        rw [hl] at h2
        simp only [List.length_nil] at h2
        omega
    · rcases Nat.lt_or_ge 1 t.size with h | h
      · have := (hg h).2.2.2.2.2
        omega
      · omega
/-- What Bracket says. -/
theorem bracket_any {key : ByteArray} {w : World} (hs : key.size ≤ 140737488351232) : Calls Tryd.prog 29 #[.string key] w fun e w' =>
    (∃ (n : Nat) (b : Bool), e = .returned (.tuple #[.int .i64 (n : Int), .bool b]) ∧ (b = true → n < 65537 → ixS key = some n) ∧ (∀ m, ixS key = some m → b = true ∧ n = m)) ∧ w' = w := by
  refine spec_Bracket.calls _ ?_
  unfold spec_Bracket.t
  refine s_cut (fun z w' => ((z.1 = true ∧ ixS key = none) ∨ (z.1 = false ∧ 3 ≤ key.size ∧ bt key 0 = 91 ∧ bt key ((key.size - 1 : Nat) : Int) = 93)) ∧ w = w') (s_iteD (fun g => s_leaf ?_) (fun g => s_chk ⟨by omega, by omega⟩ (s_iteN (fun c => s_leaf ?_) (fun c => ?_)))) ?_
  · rw [if_pos rfl]
    refine ⟨(true, ()), rfl, .inl ⟨rfl, ?_⟩, rfl⟩
    unfold ixS; rw [if_neg]; exact fun h => by omega
  · rw [if_pos rfl]
    refine ⟨(true, ()), rfl, .inl ⟨rfl, ?_⟩, rfl⟩
    unfold ixS; rw [if_neg]; exact fun h => c h.2.1
  · have w1 : IntKind.wrap IntKind.i64 (((key.size : Nat) : Int) - 1) = ((key.size - 1 : Nat) : Int) := by rw [wrap_in (by omega) (by omega)]; omega
    rw [w1]
    refine s_chk ⟨by omega, by omega⟩ (s_leaf ?_)
    rw [if_pos rfl]
    refine ⟨(bt key ((key.size - 1 : Nat) : Int) != 93, ()), rfl, ?_, rfl⟩
    by_cases h93 : bt key ((key.size - 1 : Nat) : Int) = 93
    · right
      refine ⟨?_, by omega, c, h93⟩
      show (bt key ((key.size - 1 : Nat) : Int) != 93) = false
      rw [h93]; rfl
    · refine .inl ⟨bne_iff_ne.2 h93, ?_⟩
      unfold ixS; rw [if_neg]; exact fun h => h93 h.2.2.1
  rintro ⟨b, u⟩ w' ⟨hb, rfl⟩
  show sat _ (spec_Bracket.t1 key b) _ _
  unfold spec_Bracket.t1
  rcases hb with ⟨hb, hnone⟩ | ⟨hb, h3, h91, h93⟩
  · have hb : b = true := hb
    subst hb
    exact sat_iteT.2 (s_leaf ⟨rfl, ⟨0, false, rfl, (fun g => by cases g), fun m hm => by rw [hnone] at hm; cases hm⟩, rfl⟩)
  have hb : b = false := hb
  subst hb
  have w1 : IntKind.wrap IntKind.i64 (((key.size : Nat) : Int) - 1) = ((key.size - 1 : Nat) : Int) := by rw [wrap_in (by omega) (by omega)]; omega
  rw [w1]
  refine sat_iteF.2 (s_chk ⟨by omega, by omega, by omega⟩ ?_)
  rw [Int.toNat_natCast]
  have hz : (key.extract 1 (key.size - 1)).size = key.size - 2 := by rw [ByteArray.size_extract]; omega
  refine s_call (index_any (by omega)) ?_
  have hfirst : 4 ≤ key.size → bt (key.extract 1 (key.size - 1)) 0 = bt key 1 := fun h4 => by
    have := bt_extract (s := key) (a := 1) (b := key.size - 1) (j := 0) (by omega) (by omega)
    exact this
  rintro e w1 ⟨⟨n, b, rfl, hn, hn2⟩, rfl⟩
  refine ⟨((n : Int), b, ()), rfl, s_leaf ⟨rfl, ⟨n, b, rfl, fun hb hlt => ?_, fun m hm => ?_⟩, rfl⟩⟩
  · obtain ⟨g0, g⟩ := hn hb
    obtain ⟨g1, g2⟩ := g hlt
    unfold ixS
    rw [if_pos ⟨h3, h91, h93, by omega, fun h4 => by rw [← hfirst h4]; exact g0 (by omega)⟩]
    exact g1
  · obtain ⟨c1, c2, c3, c4, c5, c6⟩ := Ka.ixS_inv hm
    exact hn2 m c5 (fun h1 => by rw [hfirst (by omega)]; exact c6 (by omega)) (by omega)
/-- A name's characters. -/
theorem name_any {s : ByteArray} {n : Nat × Nat} {w : World} (hs : s.size ≤ 4000000) (h : strE s (n.1 + 1) = some n.2) : Calls Tryd.prog 27 #[.string (s.extract n.1 n.2)] w fun e w' => e = .returned (.string (nmS s n)) ∧ Kp Off w w' := by
  obtain ⟨i, e⟩ := n
  obtain ⟨k, hk, _⟩ := Sk.strE_QE h
  have hk : e = i + 1 + k + 1 := hk
  subst hk
  have hl := strE_le h
  obtain ⟨r, _, r2, r3⟩ := Ka.nm_ue h
  have hz : (s.extract i (i + 1 + k + 1)).size = k + 2 := by rw [ByteArray.size_extract]; omega
  have hinn : Uq.inn (s.extract i (i + 1 + k + 1)) = s.extract (i + 1) (i + 1 + k) := by
    unfold Uq.inn
    rw [hz, ByteArray.extract_extract]
    congr 1
    omega
  rw [r3]
  show Calls Tryd.prog 27 #[.string (s.extract i (i + 1 + k + 1))] w _
  exact Uq.unquote_any (by rw [hz]; omega) (by rw [hz]; omega) (by rw [hinn]; exact r2)
end Go.Proofs.YtlfebfkphgelfaaDoor.Lj
namespace Go.Proofs.YtlfebfkphgelfaaDoor.Lj
open Go Go.Proofs Go.RowKit Go.Proofs.YtlfebfkphgelfaaDoor.Rx Go.Proofs.YtlfebfkphgelfaaDoor.Tr Go.Proofs.YtlfebfkphgelfaaDoor.Pl Go.Proofs.YtlfebfkphgelfaaDoor.Pw
open Go.Proofs.YtlfebfkphgelfaaDoor.Sr (slV tBs tB Sl tP pc PlAt AllAt RowIn spanC loadP storeP zp)
open Go.Proofs.YtlfebfkphgelfaaDoor.Ka (ixS nmS Kx s_key)
open Go.Proofs.YtlfebfkphgelfaaDoor.Gk (Lead)

theorem all_get {B : Nat → Prop} {w : World} : ∀ (ks : List PT) (xs : List Value) (i : Nat) (p : PT), AllAt B w ks xs → ks[i]? = some p →
    ∃ na ka : Sl, PlAt B w p (pc p.k p.b p.e na ka) ∧ ∀ j, j < 5 → xs[i * 5 + j]? = (pc p.k p.b p.e na ka)[j]?
  | [], xs, i, p, _, hi => by simp at hi
  | q :: ks, xs, i, p, h, hi => by
    unfold AllAt at h
    obtain ⟨cs, ys, rfl, hp, hr⟩ := h
    have hq := hp
    obtain ⟨k, b, e, ns, kk⟩ := q
    unfold PlAt at hp
    obtain ⟨na, ka, zs, rfl, _⟩ := hp
    cases i with
    | zero =>
      simp only [List.getElem?_cons_zero, Option.some.injEq] at hi
      subst hi
      refine ⟨na, ka, hq, fun j hj => ?_⟩
      rw [Nat.zero_mul, Nat.zero_add, List.getElem?_append_left (by rw [Sr.pc_len]; exact hj)]; rfl
    | succ i =>
      simp only [List.getElem?_cons_succ] at hi
      obtain ⟨na', ka', h1, h2⟩ := all_get ks ys i p hr hi
      refine ⟨na', ka', h1, fun j hj => ?_⟩
      rw [← h2 j hj, List.getElem?_append_right (by rw [Sr.pc_len]; omega), Sr.pc_len]
      congr 1; omega
theorem place_run {w : World} {bk o : Nat} {k b e : Int} {na ka : Sl} (h : ∀ j, j < 5 → w.cell? ⟨bk, o + j, none⟩ = (pc k b e na ka)[j]?) :
    (Instr.loadAt tP (.pointer (some ⟨bk, o, none⟩))).run Tryd.prog w = .ok (.agg (pc k b e na ka).toArray) w := by
  have hi := info_some (P := Tryd.prog) (t := tP) (by kernel_rfl)
  have hs : ((Tryd.prog.info? tP).get (by kernel_rfl)).size = 5 := by kernel_rfl
  have ha : aggT Tryd.prog tP = some true := by kernel_rfl
  have h0 : w.cell? ⟨bk, o, none⟩ = some (.int .i64 k) := h 0 (by decide)
  have h1 : w.cell? ⟨bk, o + 1, none⟩ = some (.int .i64 b) := h 1 (by decide)
  have h2 : w.cell? ⟨bk, o + 2, none⟩ = some (.int .i64 e) := h 2 (by decide)
  have h3 : w.cell? ⟨bk, o + 3, none⟩ = some (slV na) := h 3 (by decide)
  have h4 : w.cell? ⟨bk, o + 4, none⟩ = some (slV ka) := h 4 (by decide)
  simp only [Instr.loadAt, Instr.sureAddr, loadVar, Sem.run_bind, Sem.run_pure, Result.andThen_ok, run_agg ha, if_true, run_size hi, loadCells, hs]
  simp [loadCellsFrom, h0, h1, h2, h3, h4, pc, slV]
theorem span_get : ∀ (ns : List (Nat × Nat)) (i : Nat) (n : Nat × Nat), ns[i]? = some n → (ns.flatMap spanC)[i * 2]? = some (.int .i64 n.1) ∧ (ns.flatMap spanC)[i * 2 + 1]? = some (.int .i64 n.2)
  | [], i, n, h => by simp at h
  | m :: ns, i, n, h => by
    rw [List.flatMap_cons]
    have hl : (spanC m).length = 2 := rfl
    cases i with
    | zero =>
      simp only [List.getElem?_cons_zero, Option.some.injEq] at h
      subst h
      exact ⟨rfl, rfl⟩
    | succ i =>
      simp only [List.getElem?_cons_succ] at h
      obtain ⟨a, b⟩ := span_get ns i n h
      refine ⟨?_, ?_⟩
      · rw [List.getElem?_append_right (by rw [hl]; omega), hl, show (i + 1) * 2 - 2 = i * 2 by omega]; exact a
      · rw [List.getElem?_append_right (by rw [hl]; omega), hl, show (i + 1) * 2 + 1 - 2 = i * 2 + 1 by omega]; exact b
/-- Anywhere. -/
def Any : Nat → Prop := fun _ => True
theorem PlAt.any {B : Nat → Prop} {w w' : World} {p : PT} {cs : List Value} (h : PlAt B w p cs) (k : Kp Off w w') : PlAt Any w' p cs := Sr.PlAt.kp k (fun _ _ _ => ⟨trivial, id⟩) h
theorem RowIn.any {B : Nat → Prop} {w w' : World} {a : Sl} {n : Nat} {xs : List Value} {size : Nat} (h : RowIn B w a n xs size) (k : Kp Off w w') : RowIn Any w' a n xs size := Sr.RowIn.kp k (fun _ _ _ => ⟨trivial, id⟩) h
/-- A place's names and values. -/
theorem PlAt.inv {B : Nat → Prop} {w : World} {p : PT} {na ka : Sl} (h : PlAt B w p (pc p.k p.b p.e na ka)) : RowIn B w na p.ns.length (p.ns.flatMap spanC) 2 ∧ ∃ xs, RowIn B w ka p.ks.length xs 5 ∧ AllAt B w p.ks xs := by
  obtain ⟨k, b, e, ns, ks⟩ := p
  unfold PlAt at h
  obtain ⟨na', ka', xs, h1, h2, h3, h4⟩ := h
  have h1 : pc (k : Int) b e na ka = pc k b e na' ka' := h1
  unfold pc at h1
  simp only [List.cons.injEq, Value.slice.injEq, true_and, and_true] at h1
  obtain ⟨⟨a1, a2, a3⟩, b1, b2, b3⟩ := h1
  have ea : na = na' := by obtain ⟨x, y, z⟩ := na; obtain ⟨x', y', z'⟩ := na'; cases a1; cases a2; cases a3; rfl
  have eb : ka = ka' := by obtain ⟨x, y, z⟩ := ka; obtain ⟨x', y', z'⟩ := ka'; cases b1; cases b2; cases b3; rfl
  subst ea; subst eb
  exact ⟨h2, xs, h3, h4⟩
/-- The names of a place are names. -/
theorem names_ok {s : ByteArray} : ∀ (ks : List PT) (ns : List (Nat × Nat)) (first : Bool) (j e : Nat), WfM s first j ns ks e → ns.length = ks.length ∧ ∀ n ∈ ns, strE s (n.1 + 1) = some n.2
  | [], ns, first, j, e, h => by
    unfold WfM at h
    obtain ⟨rfl, _⟩ := h
    exact ⟨rfl, fun n hn => by cases hn⟩
  | p :: ks, ns, first, j, e, h => by
    unfold WfM at h
    obtain ⟨n, ns', rfl, _, _, h1, _, _, _, h2⟩ := h
    obtain ⟨a, b⟩ := names_ok ks ns' false p.e e h2
    refine ⟨by rw [List.length_cons, List.length_cons, a], fun m hm => ?_⟩
    rcases List.mem_cons.1 hm with rfl | hm
    · exact h1
    · exact b m hm
theorem wf_names {s : ByteArray} {p : PT} (h : WfV s p) : ∀ n ∈ p.ns, strE s (n.1 + 1) = some n.2 := by
  obtain ⟨k, b, e, ns, ks⟩ := p
  unfold WfV at h
  intro n hn
  have hn : n ∈ ns := hn
  obtain ⟨_, _, ⟨h, _⟩ | ⟨_, h, _⟩ | ⟨_, h, _⟩ | ⟨_, _, h⟩⟩ := h
  · rw [h] at hn; cases hn
  · rw [h] at hn; cases hn
  · rw [h] at hn; cases hn
  · exact (names_ok _ _ _ _ _ h).2 n hn
theorem wfM_len {s : ByteArray} : ∀ (ks : List PT) (ns : List (Nat × Nat)) (first : Bool) (j e : Nat), WfM s first j ns ks e → ks.length + j < e
  | [], ns, first, j, e, h => by unfold WfM at h; have := bl_ge s j; simp; omega
  | p :: ks, ns, first, j, e, h => by
    unfold WfM at h
    obtain ⟨n, ns', _, h0, _, hs, _, hb, hv, hM⟩ := h
    have a0 := wfM_len ks ns' false p.e e hM
    have a1 := hv.lt
    have a2 := strE_le hs
    have a3 := bl_ge s n.2
    have a4 := bl_ge s (bl s n.2 + 1)
    have g := bl_ge s j
    have g2 := bl_ge s (bl s j + 1)
    have : j ≤ n.1 := by split at h0 <;> omega
    rw [List.length_cons]; omega
theorem wf_len {s : ByteArray} {p : PT} (h : WfV s p) : p.ks.length ≤ s.size ∧ p.ns.length ≤ s.size := by
  obtain ⟨k, b, e, ns, ks⟩ := p
  unfold WfV at h
  show ks.length ≤ s.size ∧ ns.length ≤ s.size
  obtain ⟨_, he, ⟨h1, h2, _⟩ | ⟨_, h1, h2, _⟩ | ⟨_, h1, _, h2⟩ | ⟨_, _, h⟩⟩ := h
  · subst h1; subst h2; exact ⟨Nat.zero_le _, Nat.zero_le _⟩
  · subst h1; subst h2; exact ⟨Nat.zero_le _, Nat.zero_le _⟩
  · subst h1
    have := Ka.wfE_len _ _ _ _ h2
    exact ⟨by omega, Nat.zero_le _⟩
  · have := wfM_len _ _ _ _ _ h
    have h2 := (names_ok _ _ _ _ _ h).1
    omega
variable {w w' : World} {s : ByteArray}
/-- A name's span is read, and its characters. -/
theorem s_span {Q : Nat → List Value → World → Prop} {g i : Nat} {cs : List Value} {na : Sl} {ns : List (Nat × Nat)} {n : Nat × Nat} {K : ByteArray → T} {t : TypeId} (hs : s.size ≤ 65536) (hb : Blk w g cs t) (h3 : cs[3]? = some (slV na)) (hr : RowIn Any w na ns.length (ns.flatMap spanC) 2) (hn : ns[i]? = some n) (hok : strE s (n.1 + 1) = some n.2)
    (hK : ∀ w', Kp Off w w' → sat Tryd.prog (K (nmS s n)) Q w') :
    sat Tryd.prog (
      .drew <|
      .load (Addr.add ⟨g, 0, none⟩ 3) .slice fun (z3 : ((Option Addr) × (Nat × Nat))) =>
      .chk (((0 : Int) ≤ (i : Int)) ∧ ((i : Int) < ((((z3).2).1 : Nat) : Int))) <|
      .ptr (z3).1 fun (z4 : Addr) =>
      .load (Addr.add (Addr.add z4 ((Int.toNat (i : Int)) * 2)) 0) (.int .i64) fun (i5 : Int) =>
      .load (Addr.add ⟨g, 0, none⟩ 3) .slice fun (z6 : ((Option Addr) × (Nat × Nat))) =>
      .chk (((0 : Int) ≤ (i : Int)) ∧ ((i : Int) < ((((z6).2).1 : Nat) : Int))) <|
      .ptr (z6).1 fun (z7 : Addr) =>
      .load (Addr.add (Addr.add z7 ((Int.toNat (i : Int)) * 2)) 1) (.int .i64) fun (i8 : Int) =>
      .chk (((0 : Int) ≤ i5) ∧ ((i5 ≤ i8) ∧ (i8 ≤ (((ByteArray.size s) : Nat) : Int)))) <|
      .call 27 #[(Value.string (ByteArray.extract s (Int.toNat i5) (Int.toNat i8)))] .str fun (s9 : ByteArray) => K s9) Q w := by
  have hlt := (List.getElem?_eq_some_iff.1 hn).1
  refine s_drew ?_
  have kd : Kp Off w w.drew := (Kp.refl Off w).drew
  have hb1 := kd.blk hb id
  have hr1 := RowIn.any hr kd
  generalize w.drew = w1 at kd hb1 hr1
  obtain ⟨l1, l2, l3⟩ := hr1
  rcases l3 with l3 | ⟨gr, a1, _, _, a4⟩
  · omega
  obtain ⟨c1, c2⟩ := span_get ns i n hn
  have hsl := strE_le hok
  refine s_load na (by rw [addr_add, Nat.zero_add, hb1.cell, h3]; rfl) (s_chk ⟨by omega, by omega⟩ ⟨_, a1, ?_⟩)
  refine s_load (n.1 : Int) (by rw [addr_add, addr_add, Int.toNat_natCast, Nat.zero_add, Nat.add_zero]; exact a4 _ _ c1) ?_
  refine s_load na (by rw [addr_add, Nat.zero_add, hb1.cell, h3]; rfl) (s_chk ⟨by omega, by omega⟩ ⟨_, a1, ?_⟩)
  refine s_load (n.2 : Int) (by rw [addr_add, addr_add, Int.toNat_natCast, Nat.zero_add]; exact a4 _ _ c2) ?_
  refine s_chk ⟨by omega, by omega, by omega⟩ ?_
  rw [Int.toNat_natCast, Int.toNat_natCast]
  refine s_call (name_any (by omega) hok) ?_
  rintro e w2 ⟨rfl, k2⟩
  exact ⟨nmS s n, rfl, hK w2 (kd.trans k2)⟩
/-- The first member of a name. -/
theorem named_any {p : PT} {na ka : Sl} {name : ByteArray} (hs : s.size ≤ 65536) (hw : WfV s p) (hp : PlAt Any w p (pc p.k p.b p.e na ka)) : Calls Tryd.prog 28 #[.string s, .agg (pc p.k p.b p.e na ka).toArray, .string name] w fun e w' =>
    (∃ r : Int, e = .returned (.int .i64 r) ∧ ((r = -1 ∧ ∀ (j' : Nat) (n' : Nat × Nat), p.ns[j']? = some n' → nmS s n' ≠ name) ∨ ∃ (j : Nat) (n : Nat × Nat), r = (j : Int) ∧ p.ns[j]? = some n ∧ nmS s n = name ∧ ∀ (j' : Nat) (n' : Nat × Nat), j' < j → p.ns[j']? = some n' → nmS s n' ≠ name)) ∧ Kp Off w w' := by
  refine spec_Named.calls _ _ _ _ _ _ _ _ _ _ _ ?_
  unfold spec_Named.t
  refine s_alloc ?_
  have b0 := Blk.new w (pc p.k p.b p.e na ka) tP
  have k0 : Kp Off w (w.alloc (.cells (pc p.k p.b p.e na ka).toArray tP (0, 0))) := (Kp.refl Off w).alloc _
  show sat _ _ _ (w.alloc (.cells (pc p.k p.b p.e na ka).toArray tP (0, 0)))
  generalize w.alloc (.cells (pc p.k p.b p.e na ka).toArray tP (0, 0)) = w1 at k0 b0
  have hr := (PlAt.inv hp).1
  have hlen := (wf_len hw).2
  refine s_loop (fun k z w' => ∃ i : Nat, k = p.ns.length - i ∧ z = ((i : Int), ()) ∧ i ≤ p.ns.length ∧ (∀ (j' : Nat) (n' : Nat × Nat), j' < i → p.ns[j']? = some n' → nmS s n' ≠ name) ∧ Kp Off w1 w') p.ns.length ((0 : Int), ()) rfl ⟨0, rfl, rfl, Nat.zero_le _, fun _ _ h => absurd h (Nat.not_lt_zero _), Kp.refl _ _⟩ ?_
  rintro k z w2 ⟨i, rfl, rfl, hi, hno, k2⟩
  show sat _ (spec_Named.t1 s name ⟨w.heap.size, 0, none⟩ (i : Int)) _ _
  unfold spec_Named.t1
  have b2 := k2.blk b0 id
  have hr2 := RowIn.any hr (k0.trans k2)
  have hl2 := hr2.1
  refine s_load na (by rw [addr_add, Nat.zero_add, b2.cell]; rfl) (s_iteD (fun hlt => ?_) (fun hge => s_leaf ?_))
  · have hin : i < p.ns.length := by omega
    have hn : p.ns[i]? = some p.ns[i] := List.getElem?_eq_getElem hin
    refine s_span (cs := pc p.k p.b p.e na ka) hs b2 rfl hr2 hn (wf_names hw _ (List.getElem_mem hin)) fun w3 k3 => ?_
    refine s_ite (fun c => s_leaf ?_) (fun c => s_leaf ?_)
    · rw [if_neg (by decide)]
      exact ⟨rfl, ⟨(i : Int), rfl, .inr ⟨i, p.ns[i], rfl, hn, strEq_iff.1 c, hno⟩⟩, (k0.trans k2).trans k3⟩
    · rw [if_pos rfl]
      have w1' : IntKind.wrap IntKind.i64 ((i : Int) + 1) = ((i + 1 : Nat) : Int) := by rw [wrap_in (by omega) (by omega)]; omega
      rw [w1']
      refine ⟨p.ns.length - (i + 1), (((i + 1 : Nat) : Int), ()), rfl, by omega, i + 1, rfl, rfl, hin, fun j' n' hj hn' => ?_, k2.trans k3⟩
      rcases Nat.lt_or_ge j' i with g | g
      · exact hno j' n' g hn'
      · have : j' = i := by omega
        subst this
        rw [hn] at hn'
        cases hn'
        intro e
        have : strEq (nmS s p.ns[j']) name = true := strEq_iff.2 e
        exact absurd (show (true : Bool) = false from this.symm.trans c) (by decide)
  · rw [if_neg (by decide)]
    refine ⟨rfl, ⟨-1, rfl, .inl ⟨rfl, fun j' n' hn' => hno j' n' ?_ hn'⟩⟩, k0.trans k2⟩
    have := (List.getElem?_eq_some_iff.1 hn').1
    omega
end Go.Proofs.YtlfebfkphgelfaaDoor.Lj
namespace Go.Proofs.YtlfebfkphgelfaaDoor.Lj
open Go Go.Proofs Go.RowKit Go.Proofs.YtlfebfkphgelfaaDoor.Rx Go.Proofs.YtlfebfkphgelfaaDoor.Tr Go.Proofs.YtlfebfkphgelfaaDoor.Pl Go.Proofs.YtlfebfkphgelfaaDoor.Pw
open Go.Proofs.YtlfebfkphgelfaaDoor.Sr (slV tBs tB Sl tP pc PlAt AllAt RowIn spanC loadP storeP zp p_no p_yes places places_any)
open Go.Proofs.YtlfebfkphgelfaaDoor.Ka (ixS nmS Kx s_key Led)
open Go.Proofs.YtlfebfkphgelfaaDoor.Gk (Lead)

variable {w w' : World} {s : ByteArray} {B : Nat → Prop}
/-- The number of what a key leads to, or -1. -/
def IdxOk (s : ByteArray) (p : PT) (key : ByteArray) (z : Int) : Prop := (z = -1 ∧ ∀ p', ¬ Lead (nmS s) ixS p [key] p') ∨ ∃ (j : Nat) (p' : PT), z = (j : Int) ∧ p.ks[j]? = some p' ∧ Lead (nmS s) ixS p [key] p'
/-- What a step gives. -/
def StPost (s : ByteArray) (B : Nat → Prop) (w : World) (p : PT) (key : ByteArray) (e : Ending) (w' : World) : Prop :=
  (∃ (k b e1 : Int) (na ka : Sl) (ok : Bool), e = .returned (.tuple #[.agg (pc k b e1 na ka).toArray, .bool ok]) ∧ (ok = true → ∃ p', Lead (nmS s) ixS p [key] p' ∧ k = p'.k ∧ b = p'.b ∧ e1 = p'.e ∧ PlAt B w' p' (pc p'.k p'.b p'.e na ka)) ∧ (∀ p', Lead (nmS s) ixS p [key] p' → ok = true)) ∧ Kp Off w w'
theorem step_any {p : PT} {na ka : Sl} {key : ByteArray} (hs : s.size ≤ 65536) (hw : WfV s p) (hp : PlAt B w p (pc p.k p.b p.e na ka)) (hk : key.size ≤ 140737488351232) :
    Calls Tryd.prog 17 #[.string s, .agg (pc p.k p.b p.e na ka).toArray, .string key] w (StPost s B w p key) := by
  refine spec_Step.calls _ _ _ _ _ _ _ _ _ _ _ ?_
  unfold spec_Step.t
  refine s_alloc ?_
  have b0 := Blk.new w (pc p.k p.b p.e na ka) tP
  have k0 : Kp Off w (w.alloc (.cells (pc p.k p.b p.e na ka).toArray tP (0, 0))) := (Kp.refl Off w).alloc _
  have z0 : (w.alloc (.cells (pc p.k p.b p.e na ka).toArray tP (0, 0))).heap.size = w.heap.size + 1 := by simp
  show sat _ _ _ (w.alloc (.cells (pc p.k p.b p.e na ka).toArray tP (0, 0)))
  generalize w.alloc (.cells (pc p.k p.b p.e na ka).toArray tP (0, 0)) = w1 at k0 b0 z0
  refine s_alloc ?_
  have b1 := Blk.new w1 zp tP
  have k1 : Kp Off w1 (w1.alloc (.cells zp.toArray tP (0, 0))) := (Kp.refl Off w1).alloc _
  show sat _ _ _ (w1.alloc (.cells zp.toArray tP (0, 0)))
  generalize w1.alloc (.cells zp.toArray tP (0, 0)) = w2 at k1 b1
  rw [z0] at b1 ⊢
  have b02 := k1.blk b0 id
  have k02 := k0.trans k1
  have hlen := wf_len hw
  refine s_load (p.k : Int) (b02.cell 0) ?_
  refine s_cut (fun z w' => Kp Off w2 w' ∧ IdxOk s p key z.1) ?_ ?_
  · refine s_cut (fun z w' => Kp Off w2 w' ∧ IdxOk s p key z.1) (s_iteE (fun h6 => ?_) (fun h6 => ?_)) ?_
    · refine s_eff ((p.k : Int), (p.b : Int), (p.e : Int), na, ka, ()) (loadP b02) ?_
      refine s_call (named_any hs hw (PlAt.any hp k02)) ?_
      rintro e w3 ⟨⟨r, rfl, hr⟩, k3⟩
      refine ⟨r, rfl, s_leaf ?_⟩
      rw [if_pos rfl]
      refine ⟨(r, ()), rfl, k3, ?_⟩
      rcases hr with ⟨hr, hno⟩ | ⟨j, n, hj, h1, h2, h3⟩
      · refine .inl ⟨hr, fun p' hL => ?_⟩
        cases hL with
        | mem a1 a2 a3 a4 a5 => exact hno _ _ a1 a3
        | elt => exact absurd h6 (by show ¬ ((5 : Nat) : Int) = 6; decide)
      · right
        obtain ⟨k, b, f, ns, ks⟩ := p
        have h6 : (k : Int) = 6 := h6
        have hk6 : k = 6 := by omega
        subst hk6
        have hM := (Gk.wf_obj hw).2.2.2
        have hl := (names_ok _ _ _ _ _ hM).1
        have h1 : ns[j]? = some n := h1
        have hjl := (List.getElem?_eq_some_iff.1 h1).1
        have hkj : ks[j]? = some ks[j] := List.getElem?_eq_getElem (by omega)
        exact ⟨j, ks[j], hj, hkj, .mem h1 hkj h2 h3 .nil⟩
    · refine s_cut (fun z w' => Kp Off w2 w' ∧ IdxOk s p key z.1) (s_iteE (fun h5 => ?_) (fun h5 => s_leaf ?_)) ?_
      · refine s_call (bracket_any hk) ?_
        rintro e w3 ⟨⟨n, ok, rfl, hn, hn2⟩, rfl⟩
        refine ⟨((n : Int), ok, ()), rfl, ?_⟩
        refine s_cut (fun z w' => ((z.1 = true → ok = true ∧ n < p.ks.length) ∧ (ok = true ∧ n < p.ks.length → z.1 = true)) ∧ w3 = w') (s_ite (fun c => s_load ka (by rw [addr_add, Nat.zero_add, b02.cell]; rfl) (s_leaf ?_)) (fun c => s_leaf ?_)) ?_
        · rw [if_pos rfl]
          obtain ⟨xs, hx, _⟩ := (PlAt.inv hp).2
          have hx1 := hx.1
          refine ⟨(decide ((n : Int) < ((ka.2.1 : Nat) : Int)), ()), rfl, ⟨fun g => ?_, fun g => decide_eq_true (by omega)⟩, rfl⟩
          have g := of_decide_eq_true g
          exact ⟨c, by omega⟩
        · rw [if_pos rfl]
          exact ⟨(false, ()), rfl, ⟨fun g => absurd (show (false : Bool) = true from g) (by decide), fun g => absurd (show (false : Bool) = true from c.symm.trans g.1) (by decide)⟩, rfl⟩
        rintro ⟨bb, u⟩ w' ⟨⟨hb, hb2⟩, rfl⟩
        show sat _ (spec_Step.t1 ((n : Int), ok, ()) bb) _ _
        unfold spec_Step.t1
        refine s_cut (fun z w' => IdxOk s p key z.1 ∧ w3 = w') (s_ite (fun c => s_leaf ?_) (fun c => s_leaf ?_)) ?_
        · rw [if_pos rfl]
          obtain ⟨c1, c2⟩ := hb c
          have hix := hn c1 (by omega)
          obtain ⟨k, b, f, ns, ks⟩ := p
          have h5 : (k : Int) = 5 := h5
          have hk5 : k = 5 := by omega
          subst hk5
          have c2 : n < ks.length := c2
          have hkj : ks[n]? = some ks[n] := List.getElem?_eq_getElem c2
          exact ⟨((n : Int), ()), rfl, .inr ⟨n, ks[n], rfl, hkj, .elt hix hkj .nil⟩, rfl⟩
        · rw [if_pos rfl]
          refine ⟨((-1 : Int), ()), rfl, .inl ⟨rfl, fun p' hL => ?_⟩, rfl⟩
          cases hL with
          | mem => exact absurd h5 (by show ¬ ((6 : Nat) : Int) = 5; decide)
          | elt a1 a2 a3 =>
            obtain ⟨c1, c2⟩ := hn2 _ a1
            subst c2
            have := hb2 ⟨c1, (List.getElem?_eq_some_iff.1 a2).1⟩
            exact absurd (show (false : Bool) = true from c.symm.trans this) (by decide)
        rintro ⟨z, u⟩ w' ⟨hz, rfl⟩
        show sat _ (spec_Step.t2 z) _ _
        unfold spec_Step.t2
        refine s_leaf ?_
        rw [if_pos rfl]
        exact ⟨(z, ()), rfl, Kp.refl _ _, hz⟩
      · rw [if_pos rfl]
        refine ⟨((-1 : Int), ()), rfl, Kp.refl _ _, .inl ⟨rfl, fun p' hL => ?_⟩⟩
        cases hL with
        | mem => exact absurd (show ((6 : Nat) : Int) = 6 from rfl) h6
        | elt => exact absurd (show ((5 : Nat) : Int) = 5 from rfl) h5
      rintro ⟨z, u⟩ w' ⟨hk', hz⟩
      show sat _ (spec_Step.t3 z) _ _
      unfold spec_Step.t3
      refine s_leaf ?_
      rw [if_pos rfl]
      exact ⟨(z, ()), rfl, hk', hz⟩
    rintro ⟨z, u⟩ w' ⟨hk', hz⟩
    show sat _ (spec_Step.t4 z) _ _
    unfold spec_Step.t4
    refine s_leaf ?_
    rw [if_pos rfl]
    exact ⟨(z, ()), rfl, hk', hz⟩
  rintro ⟨z, u⟩ w3 ⟨k3, hz⟩
  suffices key' : ∀ z : Int, IdxOk s p key z → sat Tryd.prog (spec_Step.t5 ⟨w.heap.size, 0, none⟩ ⟨w.heap.size + 1, 0, none⟩ z) (fun l vs w' => l = 0 ∧ StPost s B w p key (.returned (retVal vs)) w') w3 from key' z hz
  clear hz
  intro z hz
  unfold spec_Step.t5
  have b03 := k3.blk b02 id
  have b13 := k3.blk b1 id
  have k03 := k02.trans k3
  rcases hz with ⟨hz, hno⟩ | ⟨j, p', hz, hj, hL⟩
  · subst hz
    refine s_iteD (fun _ => ?_) (fun g => absurd (show (-1 : Int) < 0 by decide) g)
    exact p_no b13 rfl fun w' k => ⟨rfl, ⟨_, _, _, _, _, false, rfl, (fun g => by cases g), fun p' hL => absurd hL (hno p')⟩, k03.then k fun q hq e => by have : q = w.heap.size + 1 := e; omega⟩
  · subst hz
    have hjl := (List.getElem?_eq_some_iff.1 hj).1
    obtain ⟨xs, hx, hall⟩ := (PlAt.inv hp).2
    obtain ⟨x1, x2, x3⟩ := Sr.RowIn.kp (B' := B) k03 (fun q _ hq => ⟨hq, id⟩) hx
    rcases x3 with x3 | ⟨gr, a1, _, _, a4⟩
    · omega
    obtain ⟨na', ka', hp', hcs⟩ := all_get _ _ _ _ hall hj
    refine s_iteD (fun g => absurd g (by omega)) (fun _ => s_load ka (by rw [addr_add, Nat.zero_add, b03.cell]; rfl) (s_chk ⟨by omega, by omega⟩ ⟨_, a1, ?_⟩))
    have hrun := place_run (w := w3) (bk := gr) (o := j * 5) (k := p'.k) (b := p'.b) (e := p'.e) (na := na') (ka := ka') (fun jj hjj => by
      have h1 := hcs jj hjj
      have hl5 : jj < (pc (p'.k : Int) p'.b p'.e na' ka').length := hjj
      rw [List.getElem?_eq_getElem hl5] at h1 ⊢
      exact a4 _ _ h1)
    dsimp only
    rw [addr_add, Int.toNat_natCast, Nat.zero_add]
    refine s_eff ((p'.k : Int), (p'.b : Int), (p'.e : Int), na', ka', ()) hrun ?_
    obtain ⟨w4, h4, c4, k4⟩ := storeP b13 rfl p'.k p'.b p'.e na' ka'
    refine s_effU h4 ?_
    have K4 := k03.then k4 fun q hq e => by have : q = w.heap.size + 1 := e; omega
    refine s_effS ((p'.k : Int), (p'.b : Int), (p'.e : Int), na', ka', ()) (loadP c4) (s_leaf ⟨rfl, ⟨p'.k, p'.b, p'.e, na', ka', true, rfl, (fun _ => ⟨p', hL, rfl, rfl, rfl, ?_⟩), fun _ _ => rfl⟩, K4⟩)
    exact Sr.PlAt.kp K4 (fun q _ hq => ⟨hq, id⟩) hp'
/-- Whether keys are sought in objects that have them once: any answer. -/
theorem once_any {p : PT} {na ka : Sl} {q : Ka.Sl} {keys : List ByteArray} (hs : s.size ≤ 65536) (hw : WfV s p) (hp : PlAt B w p (pc p.k p.b p.e na ka)) (hK : Kx w q keys) (hkz : ∀ key ∈ keys, key.size ≤ 140737488351232) (hkl : keys.length ≤ 140737488351232) :
    Calls Tryd.prog 15 #[.string s, .agg (pc p.k p.b p.e na ka).toArray, Ka.slV q] w fun e w' => (∃ b : Bool, e = .returned (.bool b)) ∧ Kp Off w w' := by
  refine spec_Once.calls _ _ _ _ _ _ _ _ _ _ _ _ _ ?_
  unfold spec_Once.t
  refine s_alloc ?_
  have b0 := Blk.new w (pc p.k p.b p.e na ka) tP
  have k0 : Kp Off w (w.alloc (.cells (pc p.k p.b p.e na ka).toArray tP (0, 0))) := (Kp.refl Off w).alloc _
  show sat _ _ _ (w.alloc (.cells (pc p.k p.b p.e na ka).toArray tP (0, 0)))
  generalize w.alloc (.cells (pc p.k p.b p.e na ka).toArray tP (0, 0)) = w1 at k0 b0
  have hp0 : PlAt (fun b => b < w.heap.size) w p (pc p.k p.b p.e na ka) := Sr.PlAt.kp (Kp.refl Off w) (fun b hb _ => ⟨hb, id⟩) hp
  have hp1 : PlAt (fun b => b < w.heap.size) w1 p (pc p.k p.b p.e na ka) := Sr.PlAt.kp k0 (fun b _ hb => ⟨hb, id⟩) hp0
  have hql := hK.len
  refine s_loop (fun k z w' => ∃ (i : Nat) (p : PT) (na ka : Sl), k = keys.length - i ∧ z = ((i : Int), ()) ∧ i ≤ keys.length ∧ WfV s p ∧ PlAt (fun b => b < w.heap.size) w' p (pc p.k p.b p.e na ka) ∧ Blk w' w.heap.size (pc p.k p.b p.e na ka) tP ∧ Kp Off w w') keys.length ((0 : Int), ()) rfl ⟨0, p, na, ka, rfl, rfl, Nat.zero_le _, hw, hp1, b0, k0⟩ ?_
  clear hw hp hp0 hp1 b0 k0
  rintro k z w2 ⟨i, p, na, ka, rfl, rfl, hi, hw, hp, hb, hk⟩
  show sat _ (spec_Once.t1 s q.1 q.2.1 ⟨w.heap.size, 0, none⟩ (i : Int)) _ _
  unfold spec_Once.t1
  refine s_iteD (fun hlt => ?_) (fun hge => s_leaf ?_)
  rotate_left
  · rw [if_neg (by decide)]; exact ⟨rfl, ⟨true, rfl⟩, hk⟩
  have hin : i < keys.length := by omega
  have hkey : keys[i]? = some keys[i] := List.getElem?_eq_getElem hin
  have hkz1 := hkz _ (List.getElem_mem hin)
  refine s_key (hK.kp hk) hkey (s_load (p.k : Int) (hb.cell 0) ?_)
  have hlen := (wf_len hw).2
  have hr := (PlAt.inv hp).1
  refine s_cut (fun _ w' => Kp Off w2 w') (s_iteE (fun h6 => ?_) (fun h6 => s_leaf ?_)) ?_
  · refine s_loop (fun k z w' => ∃ (i c : Nat), k = p.ns.length - i ∧ z = ((i : Int), (c : Int), ()) ∧ i ≤ p.ns.length ∧ c ≤ i ∧ Kp Off w2 w') p.ns.length ((0 : Int), (0 : Int), ()) rfl ⟨0, 0, rfl, rfl, Nat.zero_le _, Nat.le_refl _, Kp.refl _ _⟩ ?_
    rintro k z w3 ⟨j, c, rfl, rfl, hj, hc, k3⟩
    show sat _ (spec_Once.t2 s ⟨w.heap.size, 0, none⟩ keys[i] (j : Int) (c : Int)) _ _
    unfold spec_Once.t2
    have b3 := k3.blk hb id
    have hr3 := RowIn.any hr k3
    have hl3 := hr3.1
    refine s_load na (by rw [addr_add, Nat.zero_add, b3.cell]; rfl) (s_iteD (fun hlt => ?_) (fun hge => ?_))
    · have hin : j < p.ns.length := by omega
      have hn : p.ns[j]? = some p.ns[j] := List.getElem?_eq_getElem hin
      refine s_span (cs := pc p.k p.b p.e na ka) hs b3 rfl hr3 hn (wf_names hw _ (List.getElem_mem hin)) fun w4 k4 => ?_
      have w1' : IntKind.wrap IntKind.i64 ((j : Int) + 1) = ((j + 1 : Nat) : Int) := by rw [wrap_in (by omega) (by omega)]; omega
      have w2' : IntKind.wrap IntKind.i64 ((c : Int) + 1) = ((c + 1 : Nat) : Int) := by rw [wrap_in (by omega) (by omega)]; omega
      refine s_ite (fun _ => s_leaf ?_) (fun _ => s_leaf ?_)
      · rw [if_pos rfl, w1', w2']
        exact ⟨p.ns.length - (j + 1), (((j + 1 : Nat) : Int), ((c + 1 : Nat) : Int), ()), rfl, by omega, j + 1, c + 1, rfl, rfl, hin, by omega, k3.trans k4⟩
      · rw [if_pos rfl, w1']
        exact ⟨p.ns.length - (j + 1), (((j + 1 : Nat) : Int), (c : Int), ()), rfl, by omega, j + 1, c, rfl, rfl, hin, by omega, k3.trans k4⟩
    · refine s_iteD (fun _ => s_leaf ?_) (fun _ => s_leaf ?_)
      · rw [if_neg (by decide), if_neg (by decide), if_neg (by decide)]
        exact ⟨rfl, ⟨false, rfl⟩, hk.trans k3⟩
      · rw [if_neg (by decide), if_pos rfl]
        exact ⟨(), rfl, k3⟩
  · rw [if_pos rfl]; exact ⟨(), rfl, Kp.refl _ _⟩
  rintro _ w3 k3
  show sat _ (spec_Once.t3 s ⟨w.heap.size, 0, none⟩ (i : Int) keys[i]) _ _
  unfold spec_Once.t3
  have b3 := k3.blk hb id
  have K3 := hk.trans k3
  have hp3 : PlAt (fun b => b < w.heap.size) w3 p (pc p.k p.b p.e na ka) := Sr.PlAt.kp k3 (fun b _ hb => ⟨hb, id⟩) hp
  refine s_eff ((p.k : Int), (p.b : Int), (p.e : Int), na, ka, ()) (loadP b3) ?_
  refine s_call (step_any hs hw hp3 hkz1) ?_
  rintro e w4 ⟨⟨k, b, e1, na', ka', ok, rfl, hok, _⟩, k4⟩
  refine ⟨((k, b, e1, na', ka', ()), ok, ()), rfl, s_alloc ?_⟩
  have K4 := K3.trans k4
  have b4 := k4.blk b3 id
  have hsz4 := K4.size
  have hlt4 := b4.lt
  obtain ⟨w5, h5, c5, k5⟩ := storeP (Blk.new w4 zp tP) rfl k b e1 na' ka'
  refine s_effU h5 ?_
  have kc : Kp Off w4 w5 := (((Kp.refl (fun q => q = w4.heap.size) w4).alloc _).trans (k5.mono fun q _ h => h)).mono fun q hq h => by omega
  cases ok with
  | false => exact sat_iteT.2 (s_leaf (by rw [if_neg (by decide)]; exact ⟨rfl, ⟨true, rfl⟩, K4.trans kc⟩))
  | true =>
    obtain ⟨p', hL, rfl, rfl, rfl, hp'⟩ := hok rfl
    refine sat_iteF.2 ?_
    refine s_eff ((p'.k : Int), (p'.b : Int), (p'.e : Int), na', ka', ()) (loadP c5) ?_
    have b5 := kc.blk b4 id
    obtain ⟨w6, h6, c6, k6⟩ := storeP b5 rfl p'.k p'.b p'.e na' ka'
    refine s_effU h6 (s_leaf ?_)
    rw [if_pos rfl]
    have w1' : IntKind.wrap IntKind.i64 ((i : Int) + 1) = ((i + 1 : Nat) : Int) := by rw [wrap_in (by omega) (by omega)]; omega
    rw [w1']
    refine ⟨keys.length - (i + 1), (((i + 1 : Nat) : Int), ()), rfl, by omega, i + 1, p', na', ka', rfl, rfl, hin, (Ka.Lead.wf hL hw).1, ?_, c6, (K4.trans kc).then k6 fun q hq e => by have : q = w.heap.size := e; omega⟩
    refine Sr.PlAt.kp k6 (fun b _ hb => ⟨hb, fun e => by have : b = w.heap.size := e; omega⟩) (Sr.PlAt.kp kc (fun b _ hb => ⟨hb, id⟩) hp')
theorem jpIndex_any {key : ByteArray} : Calls Tryd.prog 16 #[.string key] w fun e w' => (∃ b : Bool, e = .returned (.bool b)) ∧ w' = w := by
  refine laws_jpIndex.calls _ ?_
  unfold laws_jpIndex.t
  refine s_ite (fun h => s_chk ?_ (s_leaf ⟨rfl, ⟨_, rfl⟩, rfl⟩)) (fun _ => s_leaf ⟨rfl, ⟨false, rfl⟩, rfl⟩)
  have : key.size ≠ 0 := fun h0 => by
    have e : key = ByteArray.mk #[] := by
      apply ByteArray.ext
      apply Array.toList_inj.1
      exact List.eq_nil_of_length_eq_zero (by rw [Array.length_toList]; exact h0)
    have hq : strEq key (ByteArray.mk #[]) = true := strEq_iff.2 e
    have h : (!strEq key (ByteArray.mk #[])) = true := h
    rw [hq] at h
    cases h
  omega
theorem jpPlaces_any : Calls Tryd.prog 8 #[.string s] w fun e w' => (∃ (k b e1 : Int) (na ka : Sl) (x : Bool), e = .returned (.tuple #[.agg (pc k b e1 na ka).toArray, .bool x]) ∧
    (x = true → s.size ≤ 65536 ∧ ∃ p, places s = some p ∧ k = p.k ∧ b = p.b ∧ e1 = p.e ∧ PlAt (fun q => w.heap.size ≤ q) w' p (pc k b e1 na ka))) ∧ Kp Off w w' := by
  refine laws_jpPlaces.calls _ ?_
  unfold laws_jpPlaces.t
  refine s_alloc ?_
  have hb := Blk.new w zp tP
  have k0 : Kp Off w (w.alloc (.cells zp.toArray tP (0, 0))) := (Kp.refl Off w).alloc _
  have hz : (w.alloc (.cells zp.toArray tP (0, 0))).heap.size = w.heap.size + 1 := by simp
  refine s_iteD (fun h => ?_) (fun h => ?_)
  · refine p_no hb rfl fun w' k => ⟨rfl, ⟨_, _, _, _, _, false, rfl, fun h => by cases h⟩, k0.then k fun q hq e => by have : q = w.heap.size := e; omega⟩
  · refine s_call (places_any (by omega)) ?_
    rintro e w1 ⟨k, b, e1, na, ka, rfl, k1, hp⟩
    refine ⟨((k, b, e1, na, ka, ()), (places s).isSome, ()), rfl, ?_⟩
    obtain ⟨w2, h2, h3, h4⟩ := storeP (k1.blk hb (fun h => h)) rfl k b e1 na ka
    refine s_effU h2 ?_
    refine s_effS (k, b, e1, na, ka, ()) (loadP h3) (s_leaf ⟨rfl, ⟨k, b, e1, na, ka, _, rfl, fun hx => ⟨by omega, ?_⟩⟩, ?_⟩)
    · obtain ⟨p, hpl⟩ := Option.isSome_iff_exists.1 hx
      have hpp := hp p hpl
      obtain ⟨e1', e2', e3'⟩ : k = p.k ∧ b = p.b ∧ e1 = p.e := by
        obtain ⟨k', b', f', ns', ks'⟩ := p
        unfold PlAt at hpp
        obtain ⟨na', ka', xs, g1, _⟩ := hpp
        unfold pc at g1
        simp only [List.cons.injEq, Value.int.injEq, true_and] at g1
        exact ⟨g1.1, g1.2.1, g1.2.2.1⟩
      refine ⟨p, hpl, e1', e2', e3', Sr.PlAt.kp h4 (fun q _ hq => ?_) hpp⟩
      have hq : (w.alloc (.cells zp.toArray tP (0, 0))).heap.size ≤ q := hq
      rw [hz] at hq
      exact ⟨by omega, fun e => by have : q = w.heap.size := e; omega⟩
    · exact (k0.trans k1).then h4 fun q hq e => by have : q = w.heap.size := e; omega
/-- What keys lead to, as the law asks. -/
theorem jpFound_any {q : Ka.Sl} {keys : List ByteArray} (hK : Kx w q keys) (hkz : ∀ key ∈ keys, key.size ≤ 140737488351232) (hkl : keys.length ≤ 140737488351232) :
    Calls Tryd.prog 6 #[.string s, Ka.slV q] w fun e w' => (∃ (k b e1 : Int) (na ka : Sl) (x : Bool), e = .returned (.tuple #[.agg (pc k b e1 na ka).toArray, .bool x]) ∧
      (x = true → s.size ≤ 65536 ∧ ∃ p0 p, Led s p0 keys p ∧ k = p.k ∧ b = p.b ∧ e1 = p.e ∧ PlAt Any w' p (pc p.k p.b p.e na ka))) ∧ Kp Off w w' := by
  refine laws_jpFound.calls _ _ _ _ ?_
  unfold laws_jpFound.t
  refine s_alloc ?_
  have b0 := Blk.new w zp tP
  have k0 : Kp Off w (w.alloc (.cells zp.toArray tP (0, 0))) := (Kp.refl Off w).alloc _
  have z0 : (w.alloc (.cells zp.toArray tP (0, 0))).heap.size = w.heap.size + 1 := by simp
  show sat _ _ _ (w.alloc (.cells zp.toArray tP (0, 0)))
  generalize w.alloc (.cells zp.toArray tP (0, 0)) = w1 at k0 b0 z0
  refine s_call (jpPlaces_any (s := s)) ?_
  rintro e w2 ⟨⟨k, b, e1, na, ka, x, rfl, hx⟩, k2⟩
  refine ⟨((k, b, e1, na, ka, ()), x, ()), rfl, s_alloc ?_⟩
  have b02 := k2.blk b0 id
  have k02 := k0.trans k2
  obtain ⟨w3, h3, c3, k3⟩ := storeP (Blk.new w2 zp tP) rfl k b e1 na ka
  refine s_effU h3 ?_
  have kc : Kp Off w2 w3 := (((Kp.refl (fun q => q = w2.heap.size) w2).alloc _).trans (k3.mono fun q _ h => h)).mono fun q hq h => by omega
  have b03 := kc.blk b02 id
  have k03 := k02.trans kc
  have hz2 := k2.size
  have hql := hK.len
  -- the answer 'no'
  have no : ∀ {w4 : World} {l : Nat}, Kp Off w w4 → Blk w4 w.heap.size zp tP → ∀ {Q : Nat → List Value → World → Prop}, (∀ w' : World, Kp Off w w' → Q 0 [.agg zp.toArray, .bool false] w') →
      sat Tryd.prog (.effU (Instr.storeAt tP (Value.pointer (some ⟨w.heap.size, 0, none⟩)) (Value.agg #[(Value.int IntKind.i64 (0 : Int)), (Value.int IntKind.i64 (0 : Int)), (Value.int IntKind.i64 (0 : Int)), (Value.slice none 0 0), (Value.slice none 0 0)])) <|
      .effS (Instr.loadAt tP (Value.pointer (some ⟨w.heap.size, 0, none⟩))) (.agg (.cons (.int .i64) (.cons (.int .i64) (.cons (.int .i64) (.cons .slice (.cons .slice .nil)))))) fun (z25 : (Int × (Int × (Int × (((Option Addr) × (Nat × Nat)) × (((Option Addr) × (Nat × Nat)) × PUnit)))))) =>
      .leaf 0 [(Value.agg #[(Value.int IntKind.i64 (z25).1), (Value.int IntKind.i64 ((z25).2).1), (Value.int IntKind.i64 (((z25).2).2).1), (Value.slice (((((z25).2).2).2).1).1 ((((((z25).2).2).2).1).2).1 ((((((z25).2).2).2).1).2).2), (Value.slice ((((((z25).2).2).2).2).1).1 (((((((z25).2).2).2).2).1).2).1 (((((((z25).2).2).2).2).1).2).2)]), (Value.bool false)]) Q w4 := by
    intro w4 l k4 b4 Q hQ
    exact p_no b4 rfl fun w' k => hQ w' (k4.then k fun q hq e => by have : q = w.heap.size := e; omega)
  refine s_cut (fun z w' => Kp Off w3 w' ∧ (z.1 = true ∨ (z.1 = false ∧ x = true))) ?_ ?_
  · cases x with
    | false => exact sat_iteT.2 (s_leaf (by rw [if_pos rfl]; exact ⟨(true, ()), rfl, Kp.refl _ _, .inl rfl⟩))
    | true =>
      obtain ⟨hs, p, hpl, rfl, rfl, rfl, hp⟩ := hx rfl
      have hv : val s (bl s 0) = some p := by
        unfold places at hpl
        cases hv : val s (bl s 0) with
        | none => rw [hv] at hpl; cases hpl
        | some p' =>
          rw [hv] at hpl
          have hpl : (if bl s p'.e = s.size then some p' else none) = some p := hpl
          split at hpl
          · cases hpl; rfl
          · cases hpl
      have hwf := (val_wf (bl_le s 0 (Nat.zero_le _)) hv).2
      refine sat_iteF.2 ?_
      refine s_eff ((p.k : Int), (p.b : Int), (p.e : Int), na, ka, ()) (loadP c3) ?_
      have hp3 := PlAt.any hp kc
      refine s_call (once_any hs hwf hp3 (hK.kp k03) hkz hkl) ?_
      rintro e w4 ⟨⟨b, rfl⟩, k4⟩
      refine ⟨b, rfl, s_leaf ?_⟩
      rw [if_pos rfl]
      refine ⟨(!b, ()), rfl, k4, ?_⟩
      cases b with
      | false => exact .inl rfl
      | true => exact .inr ⟨rfl, rfl⟩
  rintro ⟨bb, u⟩ w4 ⟨k4, hbb⟩
  show sat _ (laws_jpFound.t1 s q.1 q.2.1 ⟨w.heap.size, 0, none⟩ ⟨w2.heap.size, 0, none⟩ bb) _ _
  unfold laws_jpFound.t1
  have k04 := k03.trans k4
  have b04 := k4.blk b03 id
  have c4 := k4.blk c3 id
  rcases hbb with hbb | ⟨hbb, rfl⟩
  · have hbb : bb = true := hbb
    subst hbb
    exact sat_iteT.2 (no (l := 0) k04 b04 fun w' k => ⟨rfl, ⟨_, _, _, _, _, false, rfl, fun g => by cases g⟩, k⟩)
  have hbb : bb = false := hbb
  subst hbb
  obtain ⟨hs, p, hpl, rfl, rfl, rfl, hp⟩ := hx rfl
  have hfin : val s (bl s 0) = some p ∧ bl s p.e = s.size := by
    unfold places at hpl
    cases hv : val s (bl s 0) with
    | none => rw [hv] at hpl; cases hpl
    | some p' =>
      rw [hv] at hpl
      have hpl : (if bl s p'.e = s.size then some p' else none) = some p := hpl
      split at hpl
      · rename_i g; cases hpl; exact ⟨rfl, g⟩
      · cases hpl
  obtain ⟨hpb, hwf⟩ := val_wf (bl_le s 0 (Nat.zero_le _)) hfin.1
  have hpB : PlAt (fun b => w1.heap.size ≤ b ∧ b < w2.heap.size) w2 p (pc p.k p.b p.e na ka) := Sr.PlAt.kp (Kp.refl Off w2) (fun b hb h => ⟨⟨h, hb⟩, id⟩) hp
  have hp4 : PlAt (fun b => w1.heap.size ≤ b ∧ b < w2.heap.size) w4 p (pc p.k p.b p.e na ka) := Sr.PlAt.kp (kc.trans k4) (fun b _ h => ⟨h, id⟩) hpB
  refine sat_iteF.2 (s_loop (fun m z w' => ∃ (i : Nat) (pi : PT) (na ka : Sl), m = keys.length - i ∧ z = ((i : Int), ()) ∧ i ≤ keys.length ∧ Lead (nmS s) ixS p (keys.take i) pi ∧ PlAt (fun b => w1.heap.size ≤ b ∧ b < w2.heap.size) w' pi (pc pi.k pi.b pi.e na ka) ∧ Blk w' w2.heap.size (pc pi.k pi.b pi.e na ka) tP ∧ Blk w' w.heap.size zp tP ∧ Kp Off w w') keys.length ((0 : Int), ()) rfl
    ⟨0, p, na, ka, rfl, rfl, Nat.zero_le _, .nil, hp4, c4, b04, k04⟩ ?_)
  clear hp4 c4 b04 k04 hpB
  rintro m z w5 ⟨i, pi, na5, ka5, rfl, rfl, hi, hL, hp5, c5, b5, k5⟩
  show sat _ (laws_jpFound.t2 s q.1 q.2.1 ⟨w.heap.size, 0, none⟩ ⟨w2.heap.size, 0, none⟩ (i : Int)) _ _
  unfold laws_jpFound.t2
  have hwi := (Ka.Lead.wf hL hwf).1
  refine s_iteD (fun hlt => ?_) (fun hge => ?_)
  · have hin : i < keys.length := by omega
    have hkey : keys[i]? = some keys[i] := List.getElem?_eq_getElem hin
    have hkz1 := hkz _ (List.getElem_mem hin)
    refine s_key (hK.kp k5) hkey ?_
    refine s_cut (fun _ w' => w5 = w') (s_load (pi.k : Int) (c5.cell 0) (s_iteE (fun _ => ?_) (fun _ => s_leaf ?_))) ?_
    · refine s_call jpIndex_any ?_
      rintro e w6 ⟨⟨b, rfl⟩, rfl⟩
      refine ⟨b, rfl, s_leaf ?_⟩
      rw [if_pos rfl]; exact ⟨(b, ()), rfl, rfl⟩
    · rw [if_pos rfl]; exact ⟨(false, ()), rfl, rfl⟩
    rintro ⟨bb, u⟩ w' rfl
    show sat _ (laws_jpFound.t3 s ⟨w.heap.size, 0, none⟩ ⟨w2.heap.size, 0, none⟩ (i : Int) keys[i] bb) _ _
    unfold laws_jpFound.t3
    cases bb with
    | true => exact sat_iteT.2 (no (l := 0) k5 b5 fun w' k => by rw [if_neg (by decide)]; exact ⟨rfl, ⟨_, _, _, _, _, false, rfl, fun g => by cases g⟩, k⟩)
    | false =>
      refine sat_iteF.2 ?_
      refine s_eff ((pi.k : Int), (pi.b : Int), (pi.e : Int), na5, ka5, ()) (loadP c5) ?_
      refine s_call (step_any hs hwi hp5 hkz1) ?_
      rintro e w6 ⟨⟨k6', b6', e6', na6, ka6, ok, rfl, hok, _⟩, k6⟩
      refine ⟨((k6', b6', e6', na6, ka6, ()), ok, ()), rfl, ?_⟩
      obtain ⟨w7, h7, c7, k7⟩ := storeP (k6.blk c5 id) rfl k6' b6' e6' na6 ka6
      refine s_effU h7 ?_
      have n0 : ¬ On w2.heap.size w.heap.size := fun e => by have : w.heap.size = w2.heap.size := e; omega
      have b7 := k7.blk (k6.blk b5 id) n0
      have K7 := (k5.trans k6).then k7 fun q hq e => by have : q = w2.heap.size := e; omega
      cases ok with
      | false => exact sat_iteT.2 (no (l := 0) K7 b7 fun w' k => by rw [if_neg (by decide)]; exact ⟨rfl, ⟨_, _, _, _, _, false, rfl, fun g => by cases g⟩, k⟩)
      | true =>
        obtain ⟨p', hL', rfl, rfl, rfl, hp'⟩ := hok rfl
        refine sat_iteF.2 (s_leaf ?_)
        rw [if_pos rfl]
        have w1' : IntKind.wrap IntKind.i64 ((i : Int) + 1) = ((i + 1 : Nat) : Int) := by rw [wrap_in (by omega) (by omega)]; omega
        rw [w1']
        refine ⟨keys.length - (i + 1), (((i + 1 : Nat) : Int), ()), rfl, by omega, i + 1, p', na6, ka6, rfl, rfl, hin, ?_, ?_, c7, b7, K7⟩
        · have := Ka.Lead.snoc hL hL'
          rwa [List.take_append_getElem hin] at this
        · exact Sr.PlAt.kp k7 (fun b _ h => ⟨h, fun e => by have : b = w2.heap.size := e; omega⟩) hp'
  · have ei : i = keys.length := by omega
    subst ei
    rw [List.take_length] at hL
    refine s_eff ((pi.k : Int), (pi.b : Int), (pi.e : Int), na5, ka5, ()) (loadP c5) ?_
    obtain ⟨w6, h6, c6, k6⟩ := storeP b5 rfl pi.k pi.b pi.e na5 ka5
    refine s_effU h6 (s_effS ((pi.k : Int), (pi.b : Int), (pi.e : Int), na5, ka5, ()) (loadP c6) (s_leaf ?_))
    rw [if_neg (by decide)]
    refine ⟨rfl, ⟨pi.k, pi.b, pi.e, na5, ka5, true, rfl, fun _ => ⟨hs, p, pi, ⟨hpb.symm, hwf, hfin.2, hL⟩, rfl, rfl, rfl, ?_⟩⟩, k5.then k6 fun q hq e => by have : q = w.heap.size := e; omega⟩
    exact Sr.PlAt.kp k6 (fun b _ h => ⟨trivial, fun e => by have : b = w.heap.size := e; omega⟩) hp5
/-- What is short enough: then each key and their number. -/
theorem fits1_any {q : Ka.Sl} {keys : List ByteArray} (hK : Kx w q keys) :
    Calls Tryd.prog 5 #[Ka.slV q] w fun e w' => (∃ b : Bool, e = .returned (.bool b) ∧ (b = true → keys.length ≤ 2147483647 ∧ ∀ key ∈ keys, key.size ≤ 140737488351232)) ∧ w' = w := by
  refine laws_zzFits1.calls _ _ _ ?_
  unfold laws_zzFits1.t
  have hql := hK.len
  refine s_iteD (fun _ => s_leaf ⟨rfl, ⟨false, rfl, fun g => by cases g⟩, rfl⟩) (fun hq => ?_)
  refine s_loop (fun m z w' => ∃ i : Nat, m = keys.length - i ∧ z = ((i : Int), ()) ∧ i ≤ keys.length ∧ (∀ j key, j < i → keys[j]? = some key → key.size ≤ 140737488351232) ∧ w = w') keys.length ((0 : Int), ()) rfl ⟨0, rfl, rfl, Nat.zero_le _, fun _ _ h => absurd h (Nat.not_lt_zero _), rfl⟩ ?_
  rintro m z w1 ⟨i, rfl, rfl, hi, hj, rfl⟩
  show sat _ (laws_zzFits1.t1 q.1 q.2.1 (i : Int)) _ _
  unfold laws_zzFits1.t1
  refine s_iteD (fun hlt => ?_) (fun hge => s_leaf ?_)
  · have hin : i < keys.length := by omega
    have hkey : keys[i]? = some keys[i] := List.getElem?_eq_getElem hin
    refine s_key hK hkey (s_iteD (fun _ => s_leaf ?_) (fun hsz => s_leaf ?_))
    · rw [if_neg (by decide)]; exact ⟨rfl, ⟨false, rfl, fun g => by cases g⟩, rfl⟩
    · rw [if_pos rfl]
      have w1' : IntKind.wrap IntKind.i64 ((i : Int) + 1) = ((i + 1 : Nat) : Int) := by rw [wrap_in (by omega) (by omega)]; omega
      rw [w1']
      refine ⟨keys.length - (i + 1), (((i + 1 : Nat) : Int), ()), rfl, by omega, i + 1, rfl, rfl, hin, fun j key hji hjk => ?_, rfl⟩
      rcases Nat.lt_or_ge j i with g | g
      · exact hj j key g hjk
      · have : j = i := by omega
        subst this
        rw [hkey] at hjk
        cases hjk
        omega
  · rw [if_neg (by decide)]
    refine ⟨rfl, ⟨true, rfl, fun _ => ⟨by omega, fun key hk => ?_⟩⟩, rfl⟩
    obtain ⟨j, hj1, rfl⟩ := List.mem_iff_getElem.1 hk
    exact hj j _ (by omega) (List.getElem?_eq_getElem hj1)
end Go.Proofs.YtlfebfkphgelfaaDoor.Lj
namespace Go.Proofs.YtlfebfkphgelfaaDoor.Ka
open Go Go.Proofs Go.RowKit Go.Proofs.YtlfebfkphgelfaaDoor.Rx Go.Proofs.YtlfebfkphgelfaaDoor.Tr Go.Proofs.YtlfebfkphgelfaaDoor.Pl Go.Proofs.YtlfebfkphgelfaaDoor.Pw Go.Proofs.YtlfebfkphgelfaaDoor.Sk

/-- A text's bytes in a row of their own. -/
theorem conv_any {w : World} (s : ByteArray) : ∃ (x : Sl) (w' : World), (convert 9 tBs (.string s)).run Tryd.prog w = .ok (slV x) w' ∧ Tx w' x s 0 s.size ∧ Kp Off w w' ∧ w'.heap.size = w.heap.size + 1 ∧ ∀ b, TB x b → b = w.heap.size := by
  have hcv := Lib.run_convert_string_bytes (P := Tryd.prog) w 9 tBs tB s Tryd.underlying9 Tryd.underlying36 Tryd.underlying5
  have hz := Lib.bytesWorld_size w tB s
  refine ⟨(some ⟨w.heap.size, 0, none⟩, s.size, grownCap w s.size 0 tB), Lib.bytesWorld w tB s, hcv, ⟨rfl, Nat.zero_le _, Nat.le_refl _, grownCap_ge w s.size 0 tB, w.heap.size, 0, rfl, by omega, fun j hj => ?_⟩, ⟨rfl, rfl, rfl, by omega, fun k hk _ => Lib.bytesWorld_at_old w _ _ k hk⟩, hz, ?_⟩
  · have := Lib.bytesWorld_cell w tB s j (by omega)
    rw [Nat.zero_add]
    simpa [bt] using this
  · rintro b ⟨o, ho⟩
    cases ho; rfl
end Go.Proofs.YtlfebfkphgelfaaDoor.Ka
