/- jsonparser's ReaderParser over pieces: readMore, peekByte, skipWhitespace. No statement of the set is proved here. -/
import Derived.Test.YtlfebfkphgelfaaDoorYe
namespace Go.Proofs.YtlfebfkphgelfaaDoor.Yr
open Go Go.Proofs Go.RowKit Go.Proofs.YtlfebfkphgelfaaDoor.Rx Go.Proofs.YtlfebfkphgelfaaDoor.Tr Go.Proofs.YtlfebfkphgelfaaDoor.Pl Go.Proofs.YtlfebfkphgelfaaDoor.Pw
open Go.Proofs.YtlfebfkphgelfaaDoor.Sr (Sl slV)

variable {w w' w'' : World} {s : ByteArray} {win : Int} {g h hp gB o i e : Nat} {ps : List ByteArray}
theorem More.from {gB1 : Nat} {w1 : World} (m : Mv g h hp w gB w1 gB1) (H : More s win g h hp w1 gB1 o i e ps w') : More s win g h hp w gB o i e ps w' := by
  obtain ⟨gB', e', ps', h1, h2, h3, h4⟩ := H
  exact ⟨gB', e', ps', h1, h2, h3, m.trans h4⟩
theorem readMore_any (H : RS s win g h hp w gB o i e ps) (he : e < s.size) : Calls Tryd.prog 61 #[.pointer (some ⟨g, 0, none⟩)] w fun en w' => en = .returned .nilIface ∧ More s win g h hp w gB o i e ps w' := by
  obtain ⟨op, pc, ob, k, buf, H⟩ := H
  have hps := cat_ne H.ct he
  have hwn := H.wn
  refine jsonparser_ReaderParser_readMore.calls _ ?_
  unfold jsonparser_ReaderParser_readMore.t
  refine s_ptr (s_load .nilIface (by rw [addr_add, Nat.zero_add, H.rp.cell]; rfl) (s_chk rfl (sat_iteF.2 (s_ptr (s_load (.iface tPR (.pointer (some ⟨h, 0, none⟩))) (by rw [addr_add, Nat.zero_add, H.rp.cell]; rfl) (s_chk rfl (sat_iteF.2 (s_ptr (s_load win (by rw [addr_add, addr_add, Nat.zero_add, H.rp.cell]; rfl) ?_)))))))))
  refine s_cut (fun z w' => ∃ m : Int, z = (m, ()) ∧ 1 ≤ m ∧ w = w') (s_iteD (fun _ => s_leaf ?_) (fun g0 => s_leaf ?_)) ?_
  · rw [if_pos rfl]; exact ⟨((67108864 : Int), ()), rfl, _, rfl, by decide, rfl⟩
  · rw [if_pos rfl]; exact ⟨(win, ()), rfl, win, rfl, by omega, rfl⟩
  rintro _ w' ⟨m1, rfl, a1, rfl⟩
  show sat _ (jsonparser_ReaderParser_readMore.t1 (some ⟨g, 0, none⟩) m1) _ _
  unfold jsonparser_ReaderParser_readMore.t1
  refine s_cut (fun z w' => ∃ m : Int, z = (m, ()) ∧ 1 ≤ m ∧ m ≤ 65536 ∧ w = w') (s_iteD (fun g0 => s_leaf ?_) (fun g0 => s_leaf ?_)) ?_
  · rw [if_pos rfl]; exact ⟨(m1, ()), rfl, m1, rfl, a1, by omega, rfl⟩
  · rw [if_pos rfl]; exact ⟨((65536 : Int), ()), rfl, _, rfl, by decide, by decide, rfl⟩
  rintro _ w' ⟨m2, rfl, c1, c2, rfl⟩
  show sat _ (jsonparser_ReaderParser_readMore.t2 (some ⟨g, 0, none⟩) m2) _ _
  unfold jsonparser_ReaderParser_readMore.t2
  refine s_cut (fun z w' => ∃ m : Int, z = (m, ()) ∧ 1 ≤ m ∧ m ≤ 65536 ∧ w = w') (s_iteD (fun g0 => s_leaf ?_) (fun g0 => s_leaf ?_)) ?_
  · rw [if_pos rfl]; exact ⟨((1 : Int), ()), rfl, _, rfl, by decide, by decide, rfl⟩
  · rw [if_pos rfl]; exact ⟨(m2, ()), rfl, m2, rfl, c1, c2, rfl⟩
  rintro _ w' ⟨m3, rfl, d1, d2, rfl⟩
  show sat _ (jsonparser_ReaderParser_readMore.t3 (some ⟨g, 0, none⟩) m3) _ _
  obtain ⟨N, rfl⟩ : ∃ N : Nat, m3 = (N : Int) := ⟨m3.toNat, by omega⟩
  refine room_any H (by omega) (by omega) fun w1 gB1 hroom mv => ?_
  exact more_any hroom hps (by omega) H.len (fun w' hm => ⟨rfl, rfl, hm.from mv⟩) (fun w' hm => ⟨rfl, rfl, hm.from mv⟩)
/-- At a place, whatever stands in the window. -/
def RI (s : ByteArray) (win : Int) (g h hp : Nat) (w : World) (gB o i : Nat) : Prop := ∃ (e : Nat) (ps : List ByteArray), RS s win g h hp w gB o i e ps
/-- What a look at the next byte gives. -/
def Pk (s : ByteArray) (win : Int) (g h hp : Nat) (w : World) (gB o i : Nat) (r : Bool) (w' : World) : Prop := ∃ (gB' o' e' : Nat) (ps' : List ByteArray), RS s win g h hp w' gB' o' i e' ps' ∧ i < e' ∧ (r = true → o' = o) ∧ Mv g h hp w gB w' gB'
theorem peek_any {r : Bool} (H : RI s win g h hp w gB o i) (hi : i < s.size) : Calls Tryd.prog 42 #[.pointer (some ⟨g, 0, none⟩), .bool r] w fun en w' => en = .returned (.tuple #[.int .u8 (bt s (i : Int)), .nilIface]) ∧ Pk s win g h hp w gB o i r w' := by
  obtain ⟨e, ps, H⟩ := H
  refine jsonparser_ReaderParser_peekByte.calls _ _ ?_
  unfold jsonparser_ReaderParser_peekByte.t
  refine s_loop (fun n _ w' => ∃ (gB' o' e' : Nat) (ps' : List ByteArray), n = s.size - e' + ps'.length ∧ RS s win g h hp w' gB' o' i e' ps' ∧ (r = true → o' = o) ∧ Mv g h hp w gB w' gB') (s.size - e + ps.length) () rfl ⟨gB, o, e, ps, rfl, H, fun _ => rfl, Mv.refl _ _ _ _ _⟩ ?_
  rintro n z w1 ⟨gB1, o1, e1, ps1, rfl, H1, hr, mv⟩
  show sat _ (jsonparser_ReaderParser_peekByte.t1 (some ⟨g, 0, none⟩) r) _ _
  unfold jsonparser_ReaderParser_peekByte.t1
  refine s_drew ?_
  have H1 := H1.off ((Kp.refl Off w1).drew)
  have mv := mv.trans (Mv.off (g := g) (h := h) (hp := hp) (gB := gB1) ((Kp.refl Off w1).drew))
  generalize w1.drew = w2 at H1 mv
  obtain ⟨op, pc, ob, k, buf, Hb⟩ := id H1
  have ho := Hb.ord
  have hl := Hb.len
  refine s_ptr (s_load ((i - o1 : Nat) : Int) (by rw [addr_add, Nat.zero_add, Hb.rp.cell]; rfl) (s_ptr (s_load buf (by rw [addr_add, Nat.zero_add, Hb.rp.cell]; rfl) (s_iteD (fun hge => ?_) (fun hlt => ?_)))))
  · have hie : i = e1 := by omega
    have more : ∀ (w3 : World) (o3 : Nat), RS s win g h hp w3 gB1 o3 i e1 ps1 → (r = true → o3 = o) → Mv g h hp w gB w3 gB1 → ∀ w4, More s win g h hp w3 gB1 o3 i e1 ps1 w4 →
        ∃ n' x', ([] : List Value) = (Sh.nil).vals x' ∧ n' < s.size - e1 + ps1.length ∧ ∃ (gB' o' e' : Nat) (ps' : List ByteArray), n' = s.size - e' + ps'.length ∧ RS s win g h hp w4 gB' o' i e' ps' ∧ (r = true → o' = o) ∧ Mv g h hp w gB w4 gB' := by
      intro w3 o3 H3 hr3 mv3 w4 hm
      obtain ⟨gB4, e4, ps4, a1, a2, a3, a4⟩ := hm
      exact ⟨s.size - e4 + ps4.length, (), rfl, a2, gB4, o3, e4, ps4, rfl, a1, hr3, mv3.trans a4⟩
    cases r with
    | true =>
      refine sat_iteF.2 (s_call (readMore_any H1 (by omega)) ?_)
      rintro en w3 ⟨rfl, hm⟩
      refine ⟨.nilIface, rfl, s_chk rfl (sat_iteF.2 (s_leaf ?_))⟩
      rw [if_pos rfl]
      exact more w2 o1 H1 hr mv w3 hm
    | false =>
      refine sat_iteT.2 (s_call (discard_any H1) ?_)
      rintro en w3 ⟨rfl, H3, k3⟩
      refine ⟨(), rfl, s_call (readMore_any H3 (by omega)) ?_⟩
      rintro en w4 ⟨rfl, hm⟩
      refine ⟨.nilIface, rfl, s_chk rfl (sat_iteF.2 (s_leaf ?_))⟩
      rw [if_pos rfl]
      exact more w3 i H3 (fun e => by cases e) (mv.trans (Mv.on k3)) w4 hm
  · have hie : i < e1 := by omega
    refine s_drew ?_
    have H3 := H1.off ((Kp.refl Off w2).drew)
    have mv3 := mv.trans (Mv.off (g := g) (h := h) (hp := hp) (gB := gB1) ((Kp.refl Off w2).drew))
    generalize w2.drew = w3 at H3 mv3
    obtain ⟨op, pc, ob, k, buf, Hb⟩ := id H3
    have hl := Hb.len
    have hlc := Hb.lec
    rcases Hb.bf with h0 | ⟨h1, h2, h3⟩
    · omega
    refine s_ptr (s_load buf (by rw [addr_add, Nat.zero_add, Hb.rp.cell]; rfl) (s_ptr (s_load ((i - o1 : Nat) : Int) (by rw [addr_add, Nat.zero_add, Hb.rp.cell]; rfl) (s_chk ⟨by omega, by omega⟩ ⟨_, h1, ?_⟩))))
    have h4 := h2 (i - o1) (by omega)
    rw [show o1 + (i - o1) = i by omega] at h4
    refine s_load (bt s (i : Int)) (by rw [addr_add, Int.toNat_natCast, Nat.mul_one]; exact h4) (s_leaf ?_)
    rw [if_neg (by decide)]
    exact ⟨rfl, rfl, gB1, o1, e1, ps1, H3, hie, hr, mv3⟩
/-- The blanks are gone over. -/
theorem ws_any {c : Nat} : Calls Tryd.prog 59 #[.int .u8 (c : Int)] w fun en w' => en = .returned (.bool (isB (c : Int))) ∧ w' = w := by
  refine jsonparser_isJSONWhitespace.calls _ ?_
  unfold jsonparser_isJSONWhitespace.t
  have yes : ∀ d : Nat, (c : Int) = d → isB (d : Int) = true → isB (c : Int) = true := fun d e h => by rw [e]; exact h
  refine s_iteE (fun e => s_leaf ⟨rfl, ?_, rfl⟩) (fun n1 => s_iteE (fun e => s_leaf ⟨rfl, ?_, rfl⟩) (fun n2 => s_iteE (fun e => s_leaf ⟨rfl, ?_, rfl⟩) (fun n3 => s_leaf ⟨rfl, ?_, rfl⟩)))
  · rw [isB_iff.2 (.inl e)]; rfl
  · rw [isB_iff.2 (.inr (.inl e))]; rfl
  · rw [isB_iff.2 (.inr (.inr (.inl e)))]; rfl
  · have : isB (c : Int) = ((c : Int) == (13 : Int)) := by
      cases hb : ((c : Int) == (13 : Int)) with
      | true => exact isB_iff.2 (.inr (.inr (.inr (beq_iff_eq.1 hb))))
      | false =>
        have := beq_eq_false_iff_ne.1 hb
        cases hh : isB (c : Int) with
        | false => rfl
        | true => rcases isB_iff.1 hh with e | e | e | e <;> contradiction
    rw [this]; rfl
theorem bt_nat (s : ByteArray) (i : Nat) : ∃ c : Nat, c < 256 ∧ bt s (i : Int) = (c : Int) := by
  refine ⟨(Bw.gb s i).toNat, (Bw.gb s i).toNat_lt, ?_⟩
  have := Bw.bt_bv s i
  unfold Bw.bv at this
  exact (Value.int.inj this).2
theorem skip_any (H : RI s win g h hp w gB o i) (hi : bl s i < s.size) : Calls Tryd.prog 41 #[.pointer (some ⟨g, 0, none⟩)] w fun en w' => en = .returned .nilIface ∧ Pk s win g h hp w gB o (bl s i) false w' := by
  refine jsonparser_ReaderParser_skipWhitespace.calls _ ?_
  unfold jsonparser_ReaderParser_skipWhitespace.t
  refine s_loop (fun n _ w' => ∃ (gB' o' j : Nat), n = s.size - j ∧ i ≤ j ∧ bl s j = bl s i ∧ RI s win g h hp w' gB' o' j ∧ Mv g h hp w gB w' gB') (s.size - i) () rfl ⟨gB, o, i, rfl, Nat.le_refl _, rfl, H, Mv.refl _ _ _ _ _⟩ ?_
  rintro n z w1 ⟨gB1, o1, j, rfl, hij, hj, H1, mv⟩
  show sat _ (jsonparser_ReaderParser_skipWhitespace.t1 (some ⟨g, 0, none⟩)) _ _
  unfold jsonparser_ReaderParser_skipWhitespace.t1
  have hjb := bl_ge s j
  refine s_call (peek_any (r := false) H1 (by omega)) ?_
  rintro en w2 ⟨rfl, gB2, o2, e2, ps2, H2, hie, _, mv2⟩
  refine ⟨(bt s (j : Int), Value.nilIface, ()), rfl, s_chk rfl (sat_iteF.2 ?_)⟩
  obtain ⟨c, _, hbc⟩ := bt_nat s j
  dsimp only
  rw [hbc]
  refine s_call ws_any ?_
  rintro en w3 ⟨rfl, rfl⟩
  refine ⟨isB (c : Int), rfl, ?_⟩
  cases hb : isB (c : Int) with
  | false =>
    refine sat_iteT.2 (s_leaf ?_)
    rw [if_neg (by decide)]
    have : bl s j = j := bl_no (by rw [hbc]; exact hb)
    have hji : j = bl s i := by omega
    subst hji
    exact ⟨rfl, rfl, gB2, o2, e2, ps2, H2, hie, (fun e => by cases e), mv.trans mv2⟩
  | true =>
    refine sat_iteF.2 ?_
    obtain ⟨op, pc, ob, k, buf, Hb⟩ := id H2
    refine s_ptr (s_load ((j - o2 : Nat) : Int) (by rw [addr_add, Nat.zero_add, Hb.rp.cell]; rfl) (s_ptr (s_next H2 hie rfl fun w4 H4 k4 => s_leaf ?_)))
    rw [if_pos rfl]
    refine ⟨s.size - (j + 1), (), rfl, by omega, gB2, o2, j + 1, rfl, by omega, ?_, ⟨e2, ps2, H4⟩, (mv.trans mv2).trans (Mv.on k4)⟩
    rw [← hj, ← bl_yes (by rw [hbc]; exact hb)]
end Go.Proofs.YtlfebfkphgelfaaDoor.Yr
